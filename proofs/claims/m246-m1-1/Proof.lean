import JvmDerived
import JvmDerived.Pilot.@@N@@Statement
import JvmDerived.Pilot.@@N@@Code
set_option linter.unusedVariables false
set_option linter.unusedSimpArgs false
namespace Jvm.Pilot.@@N@@
open Jvm Jvm.ClassFile Sem Op Lib Jvm.Free Jvm.Stand Jvm.LawKit Jvm.RoadKit Bundle Jvm.Pilot.@@N@@.Jvm.D
/-- from the state T with the top frame g the run comes to T' with g' -/
def own_R (p : Program) (e : Env) (below : List Frame) (T : State) (g : JFrame) (T' : State) (g' : JFrame) : Prop := ∀ t, Steps p.tables e below (T'.setTop g') t → Steps p.tables e below (T.setTop g) t
abbrev own_S (p : Program) (e : Env) (below : List Frame) (T : State) (g : JFrame) (t : State) : Prop := Steps p.tables e below (T.setTop g) t
theorem own_R.refl {p : Program} {e : Env} {below : List Frame} {T : State} {g : JFrame} : own_R p e below T g T g := fun _ k => k
theorem own_R.trans {p : Program} {e : Env} {below : List Frame} {T T' T'' : State} {g g' g'' : JFrame} (h : own_R p e below T g T' g') (h' : own_R p e below T' g' T'' g'') : own_R p e below T g T'' g'' := fun t k => h t (h' t k)
theorem own_ne_arv {Z : State} {h : Heap} {a b : Addr} {C : String} {k : Nat} {kk : ClassId} {ty : FieldType} {z : Int32} {vs : List Value} {dv : Value} {a0 : Array Value} (E : Exa Z h a C) (wi : (Jvm.Cond.instantiable C k).before a0 Z = true) (V : Arv Z h b kk ty z vs dv) : a ≠ b := by
  obtain ⟨c, A, -⟩ := V
  exact ne_arr E wi A
theorem own_fe {a b x : Addr} {n : Nat} (h : b = a ∨ n ≤ b) (h1 : x ≠ a) (h2 : x < n) : x ≠ b := fun q => h.elim (fun e => h1 (q.trans e)) (fun e => Nat.not_lt.mpr e (q ▸ h2))
theorem own_feg {a b : Addr} {n k : Nat} (h : b = a ∨ n ≤ b) (h1 : k ≤ a) (h2 : k ≤ n) : k ≤ b := h.elim (fun e => e ▸ h1) (Nat.le_trans h2)
theorem own_g {α : Type} {L : List α} {i : Nat} {d : α} (h : L[i]? = some d) : d ∈ L := List.mem_of_getElem? h
theorem own_few {a b : Addr} {ws : List Addr} {n k : Nat} (h : b = a ∨ n ≤ b) (hm : a ∈ ws) (hk : k ≤ n) : b ∈ ws ∨ k ≤ b := h.elim (fun e => Or.inl (e ▸ hm)) (fun e => Or.inr (Nat.le_trans hk e))
theorem own_lt1 (vs : List Value) (d : Value) : vs.length < (vs ++ List.replicate 1 d).length := by simp
theorem own_app {Z : State} {h : Heap} {b : Addr} {k : ClassId} {ty : FieldType} {z : Int32} {vs : List Value} {v d : Value} (F : Arv Z h b k ty z ((vs ++ List.replicate 1 d).set vs.length v) d) : Arv Z h b k ty z (vs ++ [v]) d := by
  have e : (vs ++ List.replicate 1 d).set vs.length v = vs ++ [v] := by simp
  rw [e] at F
  exact F
theorem own_selp {Z s : State} {a0 args : Array Value} {y : MethodName} {n : Nat} (hZ : Z.Warmed39 s.vm) (wi : (Jvm.Cond.instantiable y.cls n).before a0 Z = true) (wp : (Jvm.Cond.privateMethod y).before a0 Z = true) (wm : (Jvm.Cond.instanceMethod y).before a0 Z = true) (hy : y.cls ≠ "java/lang/invoke/MethodHandle" ∧ y.cls ≠ "java/lang/invoke/VarHandle") : (Jvm.Cond.selects y.cls y y).before args s = true := by
  have wi' : (Jvm.Cond.instantiable y.cls n).before args s = true := mvT hZ wi
  obtain ⟨c, k, h1, h2, -, h4, -⟩ := Cond.instantiable_spec wi'
  have h5 : k.isInterface = false := by
    cases hi : k.isInterface with
    | false => rfl
    | true => simp [hi] at h4
  exact Jvm.Stand.selects_self_of_private h1 h2 h5 (Cond.privateMethod_at (mvP hZ wp (args := #[]))) (mvT hZ wm) hy
theorem own_old_size {Z : State} {n0 : Nat} {h : Heap} (O : Old Z n0 h) : n0 ≤ h.size := O.1 ▸ O.2.1

theorem own_eq_fld {s : State} {args : Array Value} {t : Jvm.Term} {a : Addr} {C n d : String} {k : Int32} (ev : t.eval args s none [] s = some (.ref a)) (h : (Jvm.Cond.eq (Jvm.Term.field t C n d) (Jvm.Term.int k)).value args s none s [] = some true) : Fld s s.heap a C n d (.int k) := by
  apply Fld.start
  have q := fld_at (C := C) (n := n) (dd := d) ev
  rw [← q]
  cases hv : (Jvm.Term.field t C n d).eval args s none [] s with
  | none => simp [Cond.value, hv] at h
  | some v => cases v <;> simp_all [Cond.value, Term.eval]

theorem own_eq_val {s : State} {args : Array Value} {t u : Jvm.Term} {y : Addr} (ev : u.eval args s none [] s = some (.ref y)) (h : (Jvm.Cond.eq t u).value args s none s [] = some true) : t.eval args s none [] s = some (.ref y) := by
  cases hv : t.eval args s none [] s with
  | none => simp [Cond.value, hv] at h
  | some v => cases v <;> simp_all [Cond.value]
theorem own_eq_ref {s : State} {args : Array Value} {t u : Jvm.Term} {a y : Addr} {C n d : String} (ev : t.eval args s none [] s = some (.ref a)) (eu : u.eval args s none [] s = some (.ref y)) (h : (Jvm.Cond.eq (Jvm.Term.field t C n d) u).value args s none s [] = some true) : Fld s s.heap a C n d (.ref y) := by
  apply Fld.start
  rw [← fld_at (C := C) (n := n) (dd := d) ev]
  exact own_eq_val eu h
theorem own_eq_null {s : State} {args : Array Value} {t : Jvm.Term} {a : Addr} {C n d : String} (ev : t.eval args s none [] s = some (.ref a)) (h : (Jvm.Cond.eq (Jvm.Term.field t C n d) Jvm.Term.null).value args s none s [] = some true) : Fld s s.heap a C n d .null := by
  apply Fld.start
  rw [← fld_at (C := C) (n := n) (dd := d) ev]
  exact null_v h
theorem own_len {s : State} {args : Array Value} {t : Jvm.Term} {a : Addr} {cl : Cell} {ty : FieldType} {n : Int32} (ev : t.eval args s none [] s = some (.ref a)) (A : Arr s s.heap a cl ty) (h : (Jvm.Cond.eq (Jvm.Term.length t) (Jvm.Term.int n)).value args s none s [] = some true) : cl.slots.size < 2 ^ 31 ∧ cl.slots.size.toInt32 = n := by
  have ha : s.arrayAt? a = some cl := A.fin (Vm.Alike.refl _)
  by_cases hl : cl.slots.size < 2 ^ 31
  · have e := len_f (args := args) (first := s) (o := none) (idx := []) ev ha hl
    refine ⟨hl, ?_⟩
    simp only [Cond.value, e, Term.int_eval] at h
    simpa using h
  · exfalso
    have e : (Jvm.Term.length t).eval args s none [] s = none := by simp [Term.eval, ev, ha]; omega
    simp only [Cond.value, e] at h
    cases h
theorem own_elem {s : State} {args : Array Value} {t u : Jvm.Term} {a y : Addr} {cl : Cell} {ty : FieldType} {j : Int32} (ev : t.eval args s none [] s = some (.ref a)) (eu : u.eval args s none [] s = some (.ref y)) (A : Arr s s.heap a cl ty) (hj : ¬ j < 0) (h : (Jvm.Cond.eq (Jvm.Term.elem t (Jvm.Term.int j)) u).value args s none s [] = some true) : cl.slots[j.toNatClampNeg]? = some (.ref y) := by
  have ha : s.arrayAt? a = some cl := A.fin (Vm.Alike.refl _)
  have e := elem_f (args := args) (first := s) (o := none) (idx := []) (a := Jvm.Term.int j) ev rfl ha hj
  rw [← e]
  exact own_eq_val eu h

theorem own_nb {x : Int32} (h : x = (0 : Int32) ∨ x = (1 : Int32)) : narrow .boolean (.int x) = .int x := by rcases h with rfl | rfl <;> rfl
theorem own_fb {x : Int32} (h : x = (0 : Int32) ∨ x = (1 : Int32)) : fits .boolean (.int x) = true := by rcases h with rfl | rfl <;> rfl
/-- an instance of C, whose superclasses up to Object are named, is none of the ordinary class K -/
theorem own_no {Z : State} {a0 : Array Value} {C S O K : String} {n : Nat} (w1 : (Jvm.Cond.superclass C S).before a0 Z = true) (w2 : (Jvm.Cond.superclass S O).before a0 Z = true) (w3 : (Jvm.Cond.noSuperclass O).before a0 Z = true) (wk : (Jvm.Cond.instantiable K n).before a0 Z = true) (n1 : C ≠ K) (n2 : S ≠ K) (n3 : O ≠ K) :
    ∃ c t, Z.vm.findClass C = some c ∧ Z.vm.findClass K = some t ∧ Z.vm.assignable c t = false := by
  obtain ⟨t, kt, g1, g2, g3, g4, -⟩ := Cond.instantiable_spec wk
  obtain ⟨o, ko, o1, o2, o3, -, -⟩ := Cond.noSuperclass_spec w3
  have r0 : NS Z O K := ⟨o, t, o1, g1, fun fuel => by cases fuel with | zero => rfl | succ f => simp [Vm.isSubclassAux, ids_ne o1 g1 n3, o2, o3]⟩
  have r1 : NS Z S K := NS.step w2 r0 n2
  obtain ⟨c, t', h0, h0', r2⟩ := NS.step w1 r1 n1
  cases g1.symm.trans h0'
  obtain ⟨p, k, kp, h1, h2, h3, h4, h5, -, h7⟩ := Cond.superclass_spec h0 w1
  have ne := ids_ne h0 g1 n1
  have g5 : kt.isInterface = false := by
    cases hi : kt.isInterface with
    | false => rfl
    | true => simp [hi] at g4
  refine ⟨c, t, h0, g1, ?_⟩
  show Z.vm.assignableAux (255 + 1) c t = false
  simp [Vm.assignableAux, ne, h2, g2, h5, g3, g5, Vm.isSubclass, r2]

theorem own_split {k p : Int32} (h : k = (p &&& (2147483647 : Int32)) % (5 : Int32)) : k = (0 : Int32) ∨ k = (1 : Int32) ∨ k = (2 : Int32) ∨ k = (3 : Int32) ∨ k = (4 : Int32) := by
  have h1 := (c_and p (2147483647 : Int32) (by decide)).1
  have h2 := (c_iremV (p &&& (2147483647 : Int32)) (5 : Int32)).1 h1 (by decide)
  rw [← h] at h2
  have h3 : (5 : Int32).toInt = 5 := by decide
  have h4 : k.toInt = 0 ∨ k.toInt = 1 ∨ k.toInt = 2 ∨ k.toInt = 3 ∨ k.toInt = 4 := by omega
  rcases h4 with q | q | q | q | q
  · have e : k = (0 : Int32) := Int32.toInt_inj.mp (by rw [q]; decide)
    exact Or.inl e
  · have e : k = (1 : Int32) := Int32.toInt_inj.mp (by rw [q]; decide)
    exact Or.inr (Or.inl e)
  · have e : k = (2 : Int32) := Int32.toInt_inj.mp (by rw [q]; decide)
    exact Or.inr (Or.inr (Or.inl e))
  · have e : k = (3 : Int32) := Int32.toInt_inj.mp (by rw [q]; decide)
    exact Or.inr (Or.inr (Or.inr (Or.inl e)))
  · have e : k = (4 : Int32) := Int32.toInt_inj.mp (by rw [q]; decide)
    exact Or.inr (Or.inr (Or.inr (Or.inr (e))))

theorem d1_0 : decode prog_42_method_1_code 0 = .ok (.aload_n 0, 1) := by decide +kernel
theorem d1_1 : decode prog_42_method_1_code 1 = .ok (.invokespecial 1, 3) := by decide +kernel
theorem d1_4 : decode prog_42_method_1_code 4 = .ok (.aload_n 0, 1) := by decide +kernel
theorem d1_5 : decode prog_42_method_1_code 5 = .ok (.iload_n 1, 1) := by decide +kernel
theorem d1_6 : decode prog_42_method_1_code 6 = .ok (.putfield 7, 3) := by decide +kernel
theorem d1_9 : decode prog_42_method_1_code 9 = .ok (.aload_n 0, 1) := by decide +kernel
theorem d1_10 : decode prog_42_method_1_code 10 = .ok (.iload_n 2, 1) := by decide +kernel
theorem d1_11 : decode prog_42_method_1_code 11 = .ok (.putfield 13, 3) := by decide +kernel
theorem d1_14 : decode prog_42_method_1_code 14 = .ok (.return_, 1) := by decide +kernel
theorem pn_CertificateFaults : plainName "com/example/nonce/nonce/web/CertificateFaults" = true := by first | (simp [plainName, overriddenIn]; done) | decide +kernel
theorem ef_cfInit (m : MethodId) (a : Addr) (pe : Int32) (pr : Int32) : entryFrame m #[(.ref a), (.int pe), (.int pr)] 3 = mkF m 0 #[.val (.ref a), .val (.int pe), .val (.int pr)] [] := by first | (simp [entryFrame, mkF, argsToLocals, Value.category]; done) | rfl
def Q_cfInit (Z : State) (a : Addr) (pe : Int32) (pr : Int32) (u1 : Value) (u2 : Value) (h0 : Heap) (n0 : Nat) (v : Option Value) (h : Heap) (L : List Loc) : Prop := v = none ∧ Fr n0 L ∧ Keep h0 h [a] ∧ (Fld Z h a "com/example/nonce/nonce/web/CertificateFaults" "expiry" "Z" (.int pe)) ∧ (Fld Z h a "com/example/nonce/nonce/web/CertificateFaults" "revocation" "Z" (.int pr))
set_option maxRecDepth 65536 in
set_option maxHeartbeats 40000000 in
theorem rm_cfInit (l : Launch) (Z : State) (a0 : Array Value) (hw : ∀ d ∈ tables_1, d.before a0 Z = true) (ws : List Jvm.Cond) (a : Addr) (pe : Int32) (pr : Int32) (u1 : Value) (u2 : Value) (h0 : Heap) (n0 : Nat) (O0 : Old Z n0 h0) (E_a : Exa Z h0 a "com/example/nonce/nonce/web/CertificateFaults") (F_a_expiry : Fld Z h0 a "com/example/nonce/nonce/web/CertificateFaults" "expiry" "Z" u1) (F_a_revocation : Fld Z h0 a "com/example/nonce/nonce/web/CertificateFaults" "revocation" "Z" u2) (g_a : n0 ≤ a) (hpe : pe = (0 : Int32) ∨ pe = (1 : Int32)) (hpr : pr = (0 : Int32) ∨ pr = (1 : Int32)) :
    MetFree l (⟨"com/example/nonce/nonce/web/CertificateFaults", "<init>", "(ZZ)V"⟩ : MethodName) (head1 (Jvm.Cond.code (⟨"com/example/nonce/nonce/web/CertificateFaults", "<init>", "(ZZ)V"⟩ : MethodName) prog_42_method_1_code 3 none :: ws) ({ frames := 1, cells := 0, slots := 0, locals := 12 } : Room)) (fun aa_ U => aa_ = #[(.ref a), (.int pe), (.int pr)] ∧ Z.Warmed39 U.vm ∧ U.heap = h0) (fun _ _ _ _ _ => True) (fun _ U o U' => ∃ v L, o = .returned v ∧ Q_cfInit Z a pe pr u1 u2 h0 n0 v U'.heap L ∧ FrameEnd U o U' L ({ frames := 1, cells := 0, slots := 0, locals := 12 } : Room).cells ({ frames := 1, cells := 0, slots := 0, locals := 12 } : Room).slots) := by
  refine MetFree.of_bodySF (plainFor_of_name pn_CertificateFaults) hisR ?_
  intro p e s m args below meth c s₁ Bd hml0 hP hK
  obtain ⟨rfl, hZ, hh⟩ := hP
  have hx := Bd.exec
  have hby := Bd.bytes
  have hml : c.maxLocals = 3 := hml0
  have hown : s.vm.findClass "com/example/nonce/nonce/web/CertificateFaults" = some m.cls := findClass_of_methodNamed Bd.named
  have hnm := (name_of_methodNamed Bd.named Bd.method).1
  have X0 : Stand p l e ({ frames := 1, cells := 0, slots := 0, locals := 12 } : Room) s m #[(.ref a), (.int pe), (.int pr)] below meth c s₁ [] 0 0 := Stand.of_body Bd
  have e0 : s₁.heap = h0 := by rw [← hh, Bd.state]; rfl
  have N0 := Fr.nil n0
  have K0 : Keep h0 h0 [a] := Keep.refl h0 _
  have pre0 : ∀ t, Steps p.tables e below (s₁.setTop (mkF m 0 #[.val (.ref a), .val (.int pe), .val (.int pr)] [])) t → Steps p.tables e below (s₁.setTop (entryFrame m #[(.ref a), (.int pe), (.int pr)] 3)) t := fun t k => castTop (ef_cfInit m a pe pr) k
  have r0 : own_R p e below s₁ (mkF m 0 #[.val (.ref a), .val (.int pe), .val (.int pr)] []) s₁ (mkF m 0 #[.val (.ref a), .val (.int pe), .val (.int pr)] []) := own_R.refl
  have r1 : own_R p e below _ _ s₁ (mkF m 1 #[.val (.ref a), .val (.int pe), .val (.int pr)] [(.ref a)]) := r0.trans fun z_ kt => by
    show own_S p e below s₁ (mkF m 0 #[.val (.ref a), .val (.int pe), .val (.int pr)] []) _
    refine XS.aloadN X0.here hx rfl (hb hby d1_0) rfl rfl ?_
    exact kt
  obtain ⟨T2, X2, e2, st2⟩ := initO X0 hx hZ hown (hw _ (own_g (i := 6) rfl)) (hw _ (own_g (i := 7) rfl)) (hw _ (own_g (i := 8) rfl)) e0 (g := (mkF m 1 #[.val (.ref a), .val (.int pe), .val (.int pr)] [(.ref a)])) rfl (by rw [hml]; rfl) rfl (hb hby d1_1) (by decide) (W := 0) (by show 2 * 0 + _ ≤ _; exact Nat.le_of_eq rfl) (by decide)
  have r2 : own_R p e below _ _ T2 (mkF m 4 #[.val (.ref a), .val (.int pe), .val (.int pr)] []) := r1.trans fun z_ kt => st2 _ kt
  have r3 : own_R p e below _ _ T2 (mkF m 6 #[.val (.ref a), .val (.int pe), .val (.int pr)] [(.int pe), (.ref a)]) := r2.trans fun z_ kt => by
    show own_S p e below T2 (mkF m 4 #[.val (.ref a), .val (.int pe), .val (.int pr)] []) _
    refine XS.aloadN X2.here hx rfl (hb hby d1_4) rfl rfl ?_
    show own_S p e below T2 (mkF m 5 #[.val (.ref a), .val (.int pe), .val (.int pr)] [(.ref a)]) _
    refine XS.iloadN X2.here hx rfl (hb hby d1_5) rfl ?_
    exact kt
  obtain ⟨T4, h4, X4, e4, W4, st4⟩ := putF X2 hx hZ hown (host := "") (Or.inl (hw _ (own_g (i := 9) rfl))) Via.refl e2 F_a_expiry E_a (Or.inr ⟨(hw _ (own_g (i := 10) rfl)), rfl, hnm⟩) (hw _ (own_g (i := 1) rfl)) (ty := .boolean) (v := (.int pe)) (by decide) (own_nb hpe) (own_fb hpe) (g := (mkF m 6 #[.val (.ref a), .val (.int pe), .val (.int pr)] [(.int pe), (.ref a)])) rfl rfl (hb hby d1_6)
  have r4 : own_R p e below _ _ T4 (mkF m 9 #[.val (.ref a), .val (.int pe), .val (.int pr)] []) := r3.trans fun z_ kt => st4 _ kt
  have N4 := Fr.snoc X4 N0 g_a
  have O4 := O0.wr W4 g_a
  have K4 := K0.wr W4 (Or.inl (List.mem_of_getElem? (i := 0) rfl))
  have F4 := F_a_expiry.same W4
  have f5 := (F_a_revocation.other W4 (Or.inr (slot_ne (Or.inr (hw _ (own_g (i := 12) rfl))) (Or.inr (hw _ (own_g (i := 10) rfl))) (by decide) (t := .boolean) (t' := .boolean) (by decide) (by decide))))
  have f6 := (E_a.wr W4)
  have r7 : own_R p e below _ _ T4 (mkF m 11 #[.val (.ref a), .val (.int pe), .val (.int pr)] [(.int pr), (.ref a)]) := r4.trans fun z_ kt => by
    show own_S p e below T4 (mkF m 9 #[.val (.ref a), .val (.int pe), .val (.int pr)] []) _
    refine XS.aloadN X4.here hx rfl (hb hby d1_9) rfl rfl ?_
    show own_S p e below T4 (mkF m 10 #[.val (.ref a), .val (.int pe), .val (.int pr)] [(.ref a)]) _
    refine XS.iloadN X4.here hx rfl (hb hby d1_10) rfl ?_
    exact kt
  obtain ⟨T8, h8, X8, e8, W8, st8⟩ := putF X4 hx hZ hown (host := "") (Or.inl (hw _ (own_g (i := 11) rfl))) Via.refl e4 f5 f6 (Or.inr ⟨(hw _ (own_g (i := 12) rfl)), rfl, hnm⟩) (hw _ (own_g (i := 1) rfl)) (ty := .boolean) (v := (.int pr)) (by decide) (own_nb hpr) (own_fb hpr) (g := (mkF m 11 #[.val (.ref a), .val (.int pe), .val (.int pr)] [(.int pr), (.ref a)])) rfl rfl (hb hby d1_11)
  have r8 : own_R p e below _ _ T8 (mkF m 14 #[.val (.ref a), .val (.int pe), .val (.int pr)] []) := r7.trans fun z_ kt => st8 _ kt
  have N8 := Fr.snoc X8 N4 g_a
  have O8 := O4.wr W8 g_a
  have K8 := K4.wr W8 (Or.inl (List.mem_of_getElem? (i := 0) rfl))
  have F8 := f5.same W8
  have f9 := (F4.other W8 (Or.inr (slot_ne (Or.inr (hw _ (own_g (i := 10) rfl))) (Or.inr (hw _ (own_g (i := 12) rfl))) (by decide) (t := .boolean) (t' := .boolean) (by decide) (by decide))))
  obtain ⟨fs, hr, hrun, hended, hW, hsame⟩ := X8.leave (v := none) (fun _ => rfl)
  refine ⟨_, _, pre0 _ (r8 _ ?_), hrun, hended, _, _, rfl, ?_, ⟨_, rfl⟩, hW, hsame.mono (by decide) (by decide)⟩
  · exact X8.returnOut hx Bd.returns (hb hby d1_14) hr
  · show Q_cfInit Z a pe pr u1 u2 h0 n0 _ T8.heap _
    rw [e8]
    exact ⟨rfl, N8, K8, f9, F8⟩

theorem d3_0 : decode prog_42_method_4_code 0 = .ok (.aload_n 0, 1) := by decide +kernel
theorem d3_1 : decode prog_42_method_4_code 1 = .ok (.aload_n 1, 1) := by decide +kernel
theorem d3_2 : decode prog_42_method_4_code 2 = .ok (.if_acmp .ne 5, 3) := by decide +kernel
theorem d3_5 : decode prog_42_method_4_code 5 = .ok (.iconst 1, 1) := by decide +kernel
theorem d3_6 : decode prog_42_method_4_code 6 = .ok (.ireturn, 1) := by decide +kernel
theorem ef_eqSelf (m : MethodId) (a : Addr) : entryFrame m #[(.ref a), (.ref a)] 3 = mkF m 0 #[.val (.ref a), .val (.ref a), .unset] [] := by first | (simp [entryFrame, mkF, argsToLocals, Value.category]; done) | rfl
def Q_eqSelf (Z : State) (a : Addr) (h0 : Heap) (n0 : Nat) (v : Option Value) (h : Heap) (L : List Loc) : Prop := v = some (.int (1 : Int32)) ∧ Fr n0 L ∧ h = h0
set_option maxRecDepth 65536 in
set_option maxHeartbeats 40000000 in
theorem rm_eqSelf (l : Launch) (Z : State) (a0 : Array Value) (hw : ∀ d ∈ tables_1, d.before a0 Z = true) (ws : List Jvm.Cond) (a : Addr) (h0 : Heap) (n0 : Nat) (O0 : Old Z n0 h0) :
    MetFree l (⟨"com/example/nonce/nonce/web/CertificateFaults", "equals", "(Ljava/lang/Object;)Z"⟩ : MethodName) (head1 (Jvm.Cond.code (⟨"com/example/nonce/nonce/web/CertificateFaults", "equals", "(Ljava/lang/Object;)Z"⟩ : MethodName) prog_42_method_4_code 3 (some .boolean) :: ws) ({ frames := 0, cells := 0, slots := 0, locals := 0 } : Room)) (fun aa_ U => aa_ = #[(.ref a), (.ref a)] ∧ Z.Warmed39 U.vm ∧ U.heap = h0) (fun _ _ _ _ _ => True) (fun _ U o U' => ∃ v L, o = .returned v ∧ Q_eqSelf Z a h0 n0 v U'.heap L ∧ FrameEnd U o U' L ({ frames := 0, cells := 0, slots := 0, locals := 0 } : Room).cells ({ frames := 0, cells := 0, slots := 0, locals := 0 } : Room).slots) := by
  refine MetFree.of_bodySF (plainFor_of_name pn_CertificateFaults) hisR ?_
  intro p e s m args below meth c s₁ Bd hml0 hP hK
  obtain ⟨rfl, hZ, hh⟩ := hP
  have hx := Bd.exec
  have hby := Bd.bytes
  have hml : c.maxLocals = 3 := hml0
  have hown : s.vm.findClass "com/example/nonce/nonce/web/CertificateFaults" = some m.cls := findClass_of_methodNamed Bd.named
  have hnm := (name_of_methodNamed Bd.named Bd.method).1
  have X0 : Stand p l e ({ frames := 0, cells := 0, slots := 0, locals := 0 } : Room) s m #[(.ref a), (.ref a)] below meth c s₁ [] 0 0 := Stand.of_body Bd
  have e0 : s₁.heap = h0 := by rw [← hh, Bd.state]; rfl
  have N0 := Fr.nil n0
  have pre0 : ∀ t, Steps p.tables e below (s₁.setTop (mkF m 0 #[.val (.ref a), .val (.ref a), .unset] [])) t → Steps p.tables e below (s₁.setTop (entryFrame m #[(.ref a), (.ref a)] 3)) t := fun t k => castTop (ef_eqSelf m a) k
  have r0 : own_R p e below s₁ (mkF m 0 #[.val (.ref a), .val (.ref a), .unset] []) s₁ (mkF m 0 #[.val (.ref a), .val (.ref a), .unset] []) := own_R.refl
  have r1 : own_R p e below _ _ s₁ (mkF m 6 #[.val (.ref a), .val (.ref a), .unset] [(.int (1 : Int32))]) := r0.trans fun z_ kt => by
    show own_S p e below s₁ (mkF m 0 #[.val (.ref a), .val (.ref a), .unset] []) _
    refine XS.aloadN X0.here hx rfl (hb hby d3_0) rfl rfl ?_
    show own_S p e below s₁ (mkF m 1 #[.val (.ref a), .val (.ref a), .unset] [(.ref a)]) _
    refine XS.aloadN X0.here hx rfl (hb hby d3_1) rfl rfl ?_
    show own_S p e below s₁ (mkF m 2 #[.val (.ref a), .val (.ref a), .unset] [(.ref a), (.ref a)]) _
    refine Jvm.RoadKit.acmp (g := (mkF m 2 #[.val (.ref a), .val (.ref a), .unset] [(.ref a), (.ref a)])) X0 hx rfl rfl rfl (pc0 := 2) (pc' := 5) (same := true) rfl (hb hby d3_2) rfl (decide_eq_true rfl) (by decide) (by decide) ?_
    show own_S p e below s₁ (mkF m 5 #[.val (.ref a), .val (.ref a), .unset] []) _
    refine XS.iconst X0.here hx rfl (hb hby d3_5) ?_
    exact kt
  obtain ⟨fs, hr, hrun, hended, hW, hsame⟩ := X0.leave (v := some (.int (1 : Int32))) (fun h => by rw [Bd.returns] at h; cases h)
  refine ⟨_, _, pre0 _ (r1 _ ?_), hrun, hended, _, _, rfl, ?_, ⟨_, rfl⟩, hW, hsame.mono (by decide) (by decide)⟩
  · exact retN X0 hx (t := .boolean) Bd.returns (by simp) (hb hby d3_6) hr
  · show Q_eqSelf Z a h0 n0 _ s₁.heap _
    rw [e0]
    exact ⟨rfl, N0, rfl⟩

theorem d3_7 : decode prog_42_method_4_code 7 = .ok (.aload_n 1, 1) := by decide +kernel
theorem d3_8 : decode prog_42_method_4_code 8 = .ok (.instanceof 8, 3) := by decide +kernel
theorem d3_11 : decode prog_42_method_4_code 11 = .ok (.ifCond .ne 5, 3) := by decide +kernel
theorem d3_14 : decode prog_42_method_4_code 14 = .ok (.iconst 0, 1) := by decide +kernel
theorem d3_15 : decode prog_42_method_4_code 15 = .ok (.ireturn, 1) := by decide +kernel
theorem ef_eqNull (m : MethodId) (a : Addr) : entryFrame m #[(.ref a), .null] 3 = mkF m 0 #[.val (.ref a), .val .null, .unset] [] := by first | (simp [entryFrame, mkF, argsToLocals, Value.category]; done) | rfl
def Q_eqNull (Z : State) (a : Addr) (h0 : Heap) (n0 : Nat) (v : Option Value) (h : Heap) (L : List Loc) : Prop := v = some (.int (0 : Int32)) ∧ Fr n0 L ∧ h = h0
set_option maxRecDepth 65536 in
set_option maxHeartbeats 40000000 in
theorem rm_eqNull (l : Launch) (Z : State) (a0 : Array Value) (hw : ∀ d ∈ tables_1, d.before a0 Z = true) (ws : List Jvm.Cond) (a : Addr) (h0 : Heap) (n0 : Nat) (O0 : Old Z n0 h0) :
    MetFree l (⟨"com/example/nonce/nonce/web/CertificateFaults", "equals", "(Ljava/lang/Object;)Z"⟩ : MethodName) (head1 (Jvm.Cond.code (⟨"com/example/nonce/nonce/web/CertificateFaults", "equals", "(Ljava/lang/Object;)Z"⟩ : MethodName) prog_42_method_4_code 3 (some .boolean) :: ws) ({ frames := 0, cells := 0, slots := 0, locals := 0 } : Room)) (fun aa_ U => aa_ = #[(.ref a), .null] ∧ Z.Warmed39 U.vm ∧ U.heap = h0) (fun _ _ _ _ _ => True) (fun _ U o U' => ∃ v L, o = .returned v ∧ Q_eqNull Z a h0 n0 v U'.heap L ∧ FrameEnd U o U' L ({ frames := 0, cells := 0, slots := 0, locals := 0 } : Room).cells ({ frames := 0, cells := 0, slots := 0, locals := 0 } : Room).slots) := by
  refine MetFree.of_bodySF (plainFor_of_name pn_CertificateFaults) hisR ?_
  intro p e s m args below meth c s₁ Bd hml0 hP hK
  obtain ⟨rfl, hZ, hh⟩ := hP
  have hx := Bd.exec
  have hby := Bd.bytes
  have hml : c.maxLocals = 3 := hml0
  have hown : s.vm.findClass "com/example/nonce/nonce/web/CertificateFaults" = some m.cls := findClass_of_methodNamed Bd.named
  have hnm := (name_of_methodNamed Bd.named Bd.method).1
  have X0 : Stand p l e ({ frames := 0, cells := 0, slots := 0, locals := 0 } : Room) s m #[(.ref a), .null] below meth c s₁ [] 0 0 := Stand.of_body Bd
  have e0 : s₁.heap = h0 := by rw [← hh, Bd.state]; rfl
  have N0 := Fr.nil n0
  have pre0 : ∀ t, Steps p.tables e below (s₁.setTop (mkF m 0 #[.val (.ref a), .val .null, .unset] [])) t → Steps p.tables e below (s₁.setTop (entryFrame m #[(.ref a), .null] 3)) t := fun t k => castTop (ef_eqNull m a) k
  have r0 : own_R p e below s₁ (mkF m 0 #[.val (.ref a), .val .null, .unset] []) s₁ (mkF m 0 #[.val (.ref a), .val .null, .unset] []) := own_R.refl
  have r1 : own_R p e below _ _ s₁ (mkF m 15 #[.val (.ref a), .val .null, .unset] [(.int (0 : Int32))]) := r0.trans fun z_ kt => by
    show own_S p e below s₁ (mkF m 0 #[.val (.ref a), .val .null, .unset] []) _
    refine XS.aloadN X0.here hx rfl (hb hby d3_0) rfl rfl ?_
    show own_S p e below s₁ (mkF m 1 #[.val (.ref a), .val .null, .unset] [(.ref a)]) _
    refine XS.aloadN X0.here hx rfl (hb hby d3_1) rfl rfl ?_
    show own_S p e below s₁ (mkF m 2 #[.val (.ref a), .val .null, .unset] [.null, (.ref a)]) _
    refine Jvm.RoadKit.acmp (g := (mkF m 2 #[.val (.ref a), .val .null, .unset] [.null, (.ref a)])) X0 hx rfl rfl rfl (pc0 := 2) (pc' := 7) (same := false) rfl (hb hby d3_2) rfl (decide_eq_false nofun) (by decide) (by decide) ?_
    show own_S p e below s₁ (mkF m 7 #[.val (.ref a), .val .null, .unset] []) _
    refine XS.aloadN X0.here hx rfl (hb hby d3_7) rfl rfl ?_
    show own_S p e below s₁ (mkF m 8 #[.val (.ref a), .val .null, .unset] [.null]) _
    refine X0.instanceofNull hx (g := (mkF m 8 #[.val (.ref a), .val .null, .unset] [.null])) rfl rfl (hb hby d3_8) _ ?_
    show own_S p e below s₁ (mkF m 11 #[.val (.ref a), .val .null, .unset] [(.int (0 : Int32))]) _
    refine XS.ifNo X0.here hx rfl (hb hby d3_11) rfl ((if0 _ _).trans (teq (by decide : (0 : Int32) = (0 : Int32))).2) ?_
    show own_S p e below s₁ (mkF m 14 #[.val (.ref a), .val .null, .unset] []) _
    refine XS.iconst X0.here hx rfl (hb hby d3_14) ?_
    exact kt
  obtain ⟨fs, hr, hrun, hended, hW, hsame⟩ := X0.leave (v := some (.int (0 : Int32))) (fun h => by rw [Bd.returns] at h; cases h)
  refine ⟨_, _, pre0 _ (r1 _ ?_), hrun, hended, _, _, rfl, ?_, ⟨_, rfl⟩, hW, hsame.mono (by decide) (by decide)⟩
  · exact retN X0 hx (t := .boolean) Bd.returns (by simp) (hb hby d3_15) hr
  · show Q_eqNull Z a h0 n0 _ s₁.heap _
    rw [e0]
    exact ⟨rfl, N0, rfl⟩

theorem ef_eqInt (m : MethodId) (a : Addr) (b : Addr) : entryFrame m #[(.ref a), (.ref b)] 3 = mkF m 0 #[.val (.ref a), .val (.ref b), .unset] [] := by first | (simp [entryFrame, mkF, argsToLocals, Value.category]; done) | rfl
def Q_eqInt (Z : State) (a : Addr) (b : Addr) (h0 : Heap) (n0 : Nat) (v : Option Value) (h : Heap) (L : List Loc) : Prop := v = some (.int (0 : Int32)) ∧ Fr n0 L ∧ h = h0
set_option maxRecDepth 65536 in
set_option maxHeartbeats 40000000 in
theorem rm_eqInt (l : Launch) (Z : State) (a0 : Array Value) (hw : ∀ d ∈ tables_1, d.before a0 Z = true) (ws : List Jvm.Cond) (a : Addr) (b : Addr) (h0 : Heap) (n0 : Nat) (O0 : Old Z n0 h0) (E_a : Exa Z h0 a "com/example/nonce/nonce/web/CertificateFaults") (E_b : Exa Z h0 b "java/lang/Integer") :
    MetFree l (⟨"com/example/nonce/nonce/web/CertificateFaults", "equals", "(Ljava/lang/Object;)Z"⟩ : MethodName) (head1 (Jvm.Cond.code (⟨"com/example/nonce/nonce/web/CertificateFaults", "equals", "(Ljava/lang/Object;)Z"⟩ : MethodName) prog_42_method_4_code 3 (some .boolean) :: ws) ({ frames := 0, cells := 0, slots := 0, locals := 0 } : Room)) (fun aa_ U => aa_ = #[(.ref a), (.ref b)] ∧ Z.Warmed39 U.vm ∧ U.heap = h0) (fun _ _ _ _ _ => True) (fun _ U o U' => ∃ v L, o = .returned v ∧ Q_eqInt Z a b h0 n0 v U'.heap L ∧ FrameEnd U o U' L ({ frames := 0, cells := 0, slots := 0, locals := 0 } : Room).cells ({ frames := 0, cells := 0, slots := 0, locals := 0 } : Room).slots) := by
  refine MetFree.of_bodySF (plainFor_of_name pn_CertificateFaults) hisR ?_
  intro p e s m args below meth c s₁ Bd hml0 hP hK
  obtain ⟨rfl, hZ, hh⟩ := hP
  have hx := Bd.exec
  have hby := Bd.bytes
  have hml : c.maxLocals = 3 := hml0
  have hown : s.vm.findClass "com/example/nonce/nonce/web/CertificateFaults" = some m.cls := findClass_of_methodNamed Bd.named
  have hnm := (name_of_methodNamed Bd.named Bd.method).1
  have X0 : Stand p l e ({ frames := 0, cells := 0, slots := 0, locals := 0 } : Room) s m #[(.ref a), (.ref b)] below meth c s₁ [] 0 0 := Stand.of_body Bd
  have e0 : s₁.heap = h0 := by rw [← hh, Bd.state]; rfl
  have N0 := Fr.nil n0
  have pre0 : ∀ t, Steps p.tables e below (s₁.setTop (mkF m 0 #[.val (.ref a), .val (.ref b), .unset] [])) t → Steps p.tables e below (s₁.setTop (entryFrame m #[(.ref a), (.ref b)] 3)) t := fun t k => castTop (ef_eqInt m a b) k
  have r0 : own_R p e below s₁ (mkF m 0 #[.val (.ref a), .val (.ref b), .unset] []) s₁ (mkF m 0 #[.val (.ref a), .val (.ref b), .unset] []) := own_R.refl
  have ne_a_b : a ≠ b := (ne_exa E_a E_b (by decide))
  have r1 : own_R p e below _ _ s₁ (mkF m 8 #[.val (.ref a), .val (.ref b), .unset] [(.ref b)]) := r0.trans fun z_ kt => by
    show own_S p e below s₁ (mkF m 0 #[.val (.ref a), .val (.ref b), .unset] []) _
    refine XS.aloadN X0.here hx rfl (hb hby d3_0) rfl rfl ?_
    show own_S p e below s₁ (mkF m 1 #[.val (.ref a), .val (.ref b), .unset] [(.ref a)]) _
    refine XS.aloadN X0.here hx rfl (hb hby d3_1) rfl rfl ?_
    show own_S p e below s₁ (mkF m 2 #[.val (.ref a), .val (.ref b), .unset] [(.ref b), (.ref a)]) _
    refine Jvm.RoadKit.acmp (g := (mkF m 2 #[.val (.ref a), .val (.ref b), .unset] [(.ref b), (.ref a)])) X0 hx rfl rfl rfl (pc0 := 2) (pc' := 7) (same := false) rfl (hb hby d3_2) rfl (decide_eq_false fun q => ne_a_b (Value.ref.inj q)) (by decide) (by decide) ?_
    show own_S p e below s₁ (mkF m 7 #[.val (.ref a), .val (.ref b), .unset] []) _
    refine XS.aloadN X0.here hx rfl (hb hby d3_7) rfl rfl ?_
    exact kt
  obtain ⟨T2, X2, e2, st2⟩ := instNo X0 hx hZ hown (hw _ (own_g (i := 26) rfl)) e0 E_b (own_no (hw _ (own_g (i := 27) rfl)) (hw _ (own_g (i := 28) rfl)) (hw _ (own_g (i := 29) rfl)) (hw _ (own_g (i := 1) rfl)) (by decide) (by decide) (by decide)) (g := (mkF m 8 #[.val (.ref a), .val (.ref b), .unset] [(.ref b)])) rfl rfl (hb hby d3_8)
  have r2 : own_R p e below _ _ T2 (mkF m 11 #[.val (.ref a), .val (.ref b), .unset] [(.int (0 : Int32))]) := r1.trans fun z_ kt => st2 _ kt
  have r3 : own_R p e below _ _ T2 (mkF m 15 #[.val (.ref a), .val (.ref b), .unset] [(.int (0 : Int32))]) := r2.trans fun z_ kt => by
    show own_S p e below T2 (mkF m 11 #[.val (.ref a), .val (.ref b), .unset] [(.int (0 : Int32))]) _
    refine XS.ifNo X2.here hx rfl (hb hby d3_11) rfl ((if0 _ _).trans (teq (by decide : (0 : Int32) = (0 : Int32))).2) ?_
    show own_S p e below T2 (mkF m 14 #[.val (.ref a), .val (.ref b), .unset] []) _
    refine XS.iconst X2.here hx rfl (hb hby d3_14) ?_
    exact kt
  obtain ⟨fs, hr, hrun, hended, hW, hsame⟩ := X2.leave (v := some (.int (0 : Int32))) (fun h => by rw [Bd.returns] at h; cases h)
  refine ⟨_, _, pre0 _ (r3 _ ?_), hrun, hended, _, _, rfl, ?_, ⟨_, rfl⟩, hW, hsame.mono (by decide) (by decide)⟩
  · exact retN X2 hx (t := .boolean) Bd.returns (by simp) (hb hby d3_15) hr
  · show Q_eqInt Z a b h0 n0 _ T2.heap _
    rw [e2]
    exact ⟨rfl, N0, rfl⟩

theorem d3_16 : decode prog_42_method_4_code 16 = .ok (.aload_n 1, 1) := by decide +kernel
theorem d3_17 : decode prog_42_method_4_code 17 = .ok (.checkcast 8, 3) := by decide +kernel
theorem d3_20 : decode prog_42_method_4_code 20 = .ok (.astore_n 2, 1) := by decide +kernel
theorem d3_21 : decode prog_42_method_4_code 21 = .ok (.aload_n 0, 1) := by decide +kernel
theorem d3_22 : decode prog_42_method_4_code 22 = .ok (.getfield 7, 3) := by decide +kernel
theorem d3_25 : decode prog_42_method_4_code 25 = .ok (.aload_n 2, 1) := by decide +kernel
theorem d3_26 : decode prog_42_method_4_code 26 = .ok (.getfield 7, 3) := by decide +kernel
theorem d3_29 : decode prog_42_method_4_code 29 = .ok (.if_icmp .ne 18, 3) := by decide +kernel
theorem d3_32 : decode prog_42_method_4_code 32 = .ok (.aload_n 0, 1) := by decide +kernel
theorem d3_33 : decode prog_42_method_4_code 33 = .ok (.getfield 13, 3) := by decide +kernel
theorem d3_36 : decode prog_42_method_4_code 36 = .ok (.aload_n 2, 1) := by decide +kernel
theorem d3_37 : decode prog_42_method_4_code 37 = .ok (.getfield 13, 3) := by decide +kernel
theorem d3_40 : decode prog_42_method_4_code 40 = .ok (.if_icmp .ne 7, 3) := by decide +kernel
theorem d3_43 : decode prog_42_method_4_code 43 = .ok (.iconst 1, 1) := by decide +kernel
theorem d3_44 : decode prog_42_method_4_code 44 = .ok (.goto 4, 3) := by decide +kernel
theorem d3_48 : decode prog_42_method_4_code 48 = .ok (.ireturn, 1) := by decide +kernel
theorem d3_47 : decode prog_42_method_4_code 47 = .ok (.iconst 0, 1) := by decide +kernel
theorem ef_eqObj (m : MethodId) (a : Addr) (b : Addr) : entryFrame m #[(.ref a), (.ref b)] 3 = mkF m 0 #[.val (.ref a), .val (.ref b), .unset] [] := by first | (simp [entryFrame, mkF, argsToLocals, Value.category]; done) | rfl
def Q_eqObj (Z : State) (a : Addr) (b : Addr) (x1 : Int32) (x2 : Int32) (y1 : Int32) (y2 : Int32) (r : Int32) (h0 : Heap) (n0 : Nat) (v : Option Value) (h : Heap) (L : List Loc) : Prop := v = some (.int r) ∧ Fr n0 L ∧ h = h0
set_option maxRecDepth 65536 in
set_option maxHeartbeats 40000000 in
theorem rm_eqObj (l : Launch) (Z : State) (a0 : Array Value) (hw : ∀ d ∈ tables_1, d.before a0 Z = true) (ws : List Jvm.Cond) (a : Addr) (b : Addr) (x1 : Int32) (x2 : Int32) (y1 : Int32) (y2 : Int32) (r : Int32) (h0 : Heap) (n0 : Nat) (O0 : Old Z n0 h0) (E_b : Exa Z h0 b "com/example/nonce/nonce/web/CertificateFaults") (ne_a_b : a ≠ b) (F_a_expiry : Fld Z h0 a "com/example/nonce/nonce/web/CertificateFaults" "expiry" "Z" (.int x1)) (F_a_revocation : Fld Z h0 a "com/example/nonce/nonce/web/CertificateFaults" "revocation" "Z" (.int x2)) (F_b_expiry : Fld Z h0 b "com/example/nonce/nonce/web/CertificateFaults" "expiry" "Z" (.int y1)) (F_b_revocation : Fld Z h0 b "com/example/nonce/nonce/web/CertificateFaults" "revocation" "Z" (.int y2)) (hr0 : (x1 = y1 ∧ x2 = y2 ∧ r = (1 : Int32)) ∨ (x1 = y1 ∧ ¬ (x2 = y2) ∧ r = (0 : Int32)) ∨ (¬ (x1 = y1) ∧ r = (0 : Int32))) :
    MetFree l (⟨"com/example/nonce/nonce/web/CertificateFaults", "equals", "(Ljava/lang/Object;)Z"⟩ : MethodName) (head1 (Jvm.Cond.code (⟨"com/example/nonce/nonce/web/CertificateFaults", "equals", "(Ljava/lang/Object;)Z"⟩ : MethodName) prog_42_method_4_code 3 (some .boolean) :: ws) ({ frames := 0, cells := 0, slots := 0, locals := 0 } : Room)) (fun aa_ U => aa_ = #[(.ref a), (.ref b)] ∧ Z.Warmed39 U.vm ∧ U.heap = h0) (fun _ _ _ _ _ => True) (fun _ U o U' => ∃ v L, o = .returned v ∧ Q_eqObj Z a b x1 x2 y1 y2 r h0 n0 v U'.heap L ∧ FrameEnd U o U' L ({ frames := 0, cells := 0, slots := 0, locals := 0 } : Room).cells ({ frames := 0, cells := 0, slots := 0, locals := 0 } : Room).slots) := by
  refine MetFree.of_bodySF (plainFor_of_name pn_CertificateFaults) hisR ?_
  intro p e s m args below meth c s₁ Bd hml0 hP hK
  obtain ⟨rfl, hZ, hh⟩ := hP
  have hx := Bd.exec
  have hby := Bd.bytes
  have hml : c.maxLocals = 3 := hml0
  have hown : s.vm.findClass "com/example/nonce/nonce/web/CertificateFaults" = some m.cls := findClass_of_methodNamed Bd.named
  have hnm := (name_of_methodNamed Bd.named Bd.method).1
  have X0 : Stand p l e ({ frames := 0, cells := 0, slots := 0, locals := 0 } : Room) s m #[(.ref a), (.ref b)] below meth c s₁ [] 0 0 := Stand.of_body Bd
  have e0 : s₁.heap = h0 := by rw [← hh, Bd.state]; rfl
  have N0 := Fr.nil n0
  have pre0 : ∀ t, Steps p.tables e below (s₁.setTop (mkF m 0 #[.val (.ref a), .val (.ref b), .unset] [])) t → Steps p.tables e below (s₁.setTop (entryFrame m #[(.ref a), (.ref b)] 3)) t := fun t k => castTop (ef_eqObj m a b) k
  have r0 : own_R p e below s₁ (mkF m 0 #[.val (.ref a), .val (.ref b), .unset] []) s₁ (mkF m 0 #[.val (.ref a), .val (.ref b), .unset] []) := own_R.refl
  rcases hr0 with ⟨q1, q2, qr⟩ | ⟨q1, q2, qr⟩ | ⟨q1, qr⟩
  · skip
    have r1 : own_R p e below _ _ s₁ (mkF m 8 #[.val (.ref a), .val (.ref b), .unset] [(.ref b)]) := r0.trans fun z_ kt => by
      show own_S p e below s₁ (mkF m 0 #[.val (.ref a), .val (.ref b), .unset] []) _
      refine XS.aloadN X0.here hx rfl (hb hby d3_0) rfl rfl ?_
      show own_S p e below s₁ (mkF m 1 #[.val (.ref a), .val (.ref b), .unset] [(.ref a)]) _
      refine XS.aloadN X0.here hx rfl (hb hby d3_1) rfl rfl ?_
      show own_S p e below s₁ (mkF m 2 #[.val (.ref a), .val (.ref b), .unset] [(.ref b), (.ref a)]) _
      refine Jvm.RoadKit.acmp (g := (mkF m 2 #[.val (.ref a), .val (.ref b), .unset] [(.ref b), (.ref a)])) X0 hx rfl rfl rfl (pc0 := 2) (pc' := 7) (same := false) rfl (hb hby d3_2) rfl (decide_eq_false fun q => ne_a_b (Value.ref.inj q)) (by decide) (by decide) ?_
      show own_S p e below s₁ (mkF m 7 #[.val (.ref a), .val (.ref b), .unset] []) _
      refine XS.aloadN X0.here hx rfl (hb hby d3_7) rfl rfl ?_
      exact kt
    obtain ⟨T2, X2, e2, st2⟩ := instY X0 hx hZ hown (hw _ (own_g (i := 26) rfl)) e0 (Ins.self E_b) (g := (mkF m 8 #[.val (.ref a), .val (.ref b), .unset] [(.ref b)])) rfl rfl (hb hby d3_8)
    have r2 : own_R p e below _ _ T2 (mkF m 11 #[.val (.ref a), .val (.ref b), .unset] [(.int (1 : Int32))]) := r1.trans fun z_ kt => st2 _ kt
    have r3 : own_R p e below _ _ T2 (mkF m 17 #[.val (.ref a), .val (.ref b), .unset] [(.ref b)]) := r2.trans fun z_ kt => by
      show own_S p e below T2 (mkF m 11 #[.val (.ref a), .val (.ref b), .unset] [(.int (1 : Int32))]) _
      refine XS.ifYes X2.here hx rfl (pc0 := 11) (pc' := 16) rfl (hb hby d3_11) rfl ((if0 _ _).trans (feq (by decide : ¬ ((1 : Int32) = (0 : Int32)))).2) (by decide) (by decide) ?_
      show own_S p e below T2 (mkF m 16 #[.val (.ref a), .val (.ref b), .unset] []) _
      refine XS.aloadN X2.here hx rfl (hb hby d3_16) rfl rfl ?_
      exact kt
    obtain ⟨T4, X4, e4, st4⟩ := castY X2 hx hZ hown (hw _ (own_g (i := 26) rfl)) e2 (Ins.self E_b) (g := (mkF m 17 #[.val (.ref a), .val (.ref b), .unset] [(.ref b)])) rfl rfl (hb hby d3_17)
    have r4 : own_R p e below _ _ T4 (mkF m 20 #[.val (.ref a), .val (.ref b), .unset] [(.ref b)]) := r3.trans fun z_ kt => st4 _ kt
    have r5 : own_R p e below _ _ T4 (mkF m 22 #[.val (.ref a), .val (.ref b), .val (.ref b)] [(.ref a)]) := r4.trans fun z_ kt => by
      show own_S p e below T4 (mkF m 20 #[.val (.ref a), .val (.ref b), .unset] [(.ref b)]) _
      refine XS.astoreN X4.here hx rfl (hb hby d3_20) rfl rfl (l' := #[.val (.ref a), .val (.ref b), .val (.ref b)]) rfl ?_
      show own_S p e below T4 (mkF m 21 #[.val (.ref a), .val (.ref b), .val (.ref b)] []) _
      refine XS.aloadN X4.here hx rfl (hb hby d3_21) rfl rfl ?_
      exact kt
    obtain ⟨T6, X6, e6, st6⟩ := getF X4 hx hZ hown (host := "") (Or.inl (hw _ (own_g (i := 9) rfl))) Via.refl e4 F_a_expiry (g := (mkF m 22 #[.val (.ref a), .val (.ref b), .val (.ref b)] [(.ref a)])) rfl rfl (hb hby d3_22)
    have r6 : own_R p e below _ _ T6 (mkF m 25 #[.val (.ref a), .val (.ref b), .val (.ref b)] [(.int x1)]) := r5.trans fun z_ kt => st6 _ kt
    have r7 : own_R p e below _ _ T6 (mkF m 26 #[.val (.ref a), .val (.ref b), .val (.ref b)] [(.ref b), (.int x1)]) := r6.trans fun z_ kt => by
      show own_S p e below T6 (mkF m 25 #[.val (.ref a), .val (.ref b), .val (.ref b)] [(.int x1)]) _
      refine XS.aloadN X6.here hx rfl (hb hby d3_25) rfl rfl ?_
      exact kt
    obtain ⟨T8, X8, e8, st8⟩ := getF X6 hx hZ hown (host := "") (Or.inl (hw _ (own_g (i := 9) rfl))) Via.refl e6 F_b_expiry (g := (mkF m 26 #[.val (.ref a), .val (.ref b), .val (.ref b)] [(.ref b), (.int x1)])) rfl rfl (hb hby d3_26)
    have r8 : own_R p e below _ _ T8 (mkF m 29 #[.val (.ref a), .val (.ref b), .val (.ref b)] [(.int y1), (.int x1)]) := r7.trans fun z_ kt => st8 _ kt
    have r9 : own_R p e below _ _ T8 (mkF m 33 #[.val (.ref a), .val (.ref b), .val (.ref b)] [(.ref a)]) := r8.trans fun z_ kt => by
      show own_S p e below T8 (mkF m 29 #[.val (.ref a), .val (.ref b), .val (.ref b)] [(.int y1), (.int x1)]) _
      refine XS.icmpNo X8.here hx rfl (hb hby d3_29) rfl (teq (q1 : x1 = y1)).2 ?_
      show own_S p e below T8 (mkF m 32 #[.val (.ref a), .val (.ref b), .val (.ref b)] []) _
      refine XS.aloadN X8.here hx rfl (hb hby d3_32) rfl rfl ?_
      exact kt
    obtain ⟨T10, X10, e10, st10⟩ := getF X8 hx hZ hown (host := "") (Or.inl (hw _ (own_g (i := 11) rfl))) Via.refl e8 F_a_revocation (g := (mkF m 33 #[.val (.ref a), .val (.ref b), .val (.ref b)] [(.ref a)])) rfl rfl (hb hby d3_33)
    have r10 : own_R p e below _ _ T10 (mkF m 36 #[.val (.ref a), .val (.ref b), .val (.ref b)] [(.int x2)]) := r9.trans fun z_ kt => st10 _ kt
    have r11 : own_R p e below _ _ T10 (mkF m 37 #[.val (.ref a), .val (.ref b), .val (.ref b)] [(.ref b), (.int x2)]) := r10.trans fun z_ kt => by
      show own_S p e below T10 (mkF m 36 #[.val (.ref a), .val (.ref b), .val (.ref b)] [(.int x2)]) _
      refine XS.aloadN X10.here hx rfl (hb hby d3_36) rfl rfl ?_
      exact kt
    obtain ⟨T12, X12, e12, st12⟩ := getF X10 hx hZ hown (host := "") (Or.inl (hw _ (own_g (i := 11) rfl))) Via.refl e10 F_b_revocation (g := (mkF m 37 #[.val (.ref a), .val (.ref b), .val (.ref b)] [(.ref b), (.int x2)])) rfl rfl (hb hby d3_37)
    have r12 : own_R p e below _ _ T12 (mkF m 40 #[.val (.ref a), .val (.ref b), .val (.ref b)] [(.int y2), (.int x2)]) := r11.trans fun z_ kt => st12 _ kt
    have r13 : own_R p e below _ _ T12 (mkF m 48 #[.val (.ref a), .val (.ref b), .val (.ref b)] [(.int (1 : Int32))]) := r12.trans fun z_ kt => by
      show own_S p e below T12 (mkF m 40 #[.val (.ref a), .val (.ref b), .val (.ref b)] [(.int y2), (.int x2)]) _
      refine XS.icmpNo X12.here hx rfl (hb hby d3_40) rfl (teq (q2 : x2 = y2)).2 ?_
      show own_S p e below T12 (mkF m 43 #[.val (.ref a), .val (.ref b), .val (.ref b)] []) _
      refine XS.iconst X12.here hx rfl (hb hby d3_43) ?_
      show own_S p e below T12 (mkF m 44 #[.val (.ref a), .val (.ref b), .val (.ref b)] [(.int (1 : Int32))]) _
      refine XS.goto X12.here hx rfl (pc0 := 44) (pc' := 48) rfl (hb hby d3_44) (by decide) (by decide) ?_
      exact kt
    obtain ⟨fs, hr, hrun, hended, hW, hsame⟩ := X12.leave (v := some (.int (1 : Int32))) (fun h => by rw [Bd.returns] at h; cases h)
    refine ⟨_, _, pre0 _ (r13 _ ?_), hrun, hended, _, _, rfl, ?_, ⟨_, rfl⟩, hW, hsame.mono (by decide) (by decide)⟩
    · exact retN X12 hx (t := .boolean) Bd.returns (by simp) (hb hby d3_48) hr
    · show Q_eqObj Z a b x1 x2 y1 y2 r h0 n0 _ T12.heap _
      rw [e12]
      exact ⟨by rw [qr], N0, rfl⟩
  · skip
    have r14 : own_R p e below _ _ s₁ (mkF m 8 #[.val (.ref a), .val (.ref b), .unset] [(.ref b)]) := r0.trans fun z_ kt => by
      show own_S p e below s₁ (mkF m 0 #[.val (.ref a), .val (.ref b), .unset] []) _
      refine XS.aloadN X0.here hx rfl (hb hby d3_0) rfl rfl ?_
      show own_S p e below s₁ (mkF m 1 #[.val (.ref a), .val (.ref b), .unset] [(.ref a)]) _
      refine XS.aloadN X0.here hx rfl (hb hby d3_1) rfl rfl ?_
      show own_S p e below s₁ (mkF m 2 #[.val (.ref a), .val (.ref b), .unset] [(.ref b), (.ref a)]) _
      refine Jvm.RoadKit.acmp (g := (mkF m 2 #[.val (.ref a), .val (.ref b), .unset] [(.ref b), (.ref a)])) X0 hx rfl rfl rfl (pc0 := 2) (pc' := 7) (same := false) rfl (hb hby d3_2) rfl (decide_eq_false fun q => ne_a_b (Value.ref.inj q)) (by decide) (by decide) ?_
      show own_S p e below s₁ (mkF m 7 #[.val (.ref a), .val (.ref b), .unset] []) _
      refine XS.aloadN X0.here hx rfl (hb hby d3_7) rfl rfl ?_
      exact kt
    obtain ⟨T15, X15, e15, st15⟩ := instY X0 hx hZ hown (hw _ (own_g (i := 26) rfl)) e0 (Ins.self E_b) (g := (mkF m 8 #[.val (.ref a), .val (.ref b), .unset] [(.ref b)])) rfl rfl (hb hby d3_8)
    have r15 : own_R p e below _ _ T15 (mkF m 11 #[.val (.ref a), .val (.ref b), .unset] [(.int (1 : Int32))]) := r14.trans fun z_ kt => st15 _ kt
    have r16 : own_R p e below _ _ T15 (mkF m 17 #[.val (.ref a), .val (.ref b), .unset] [(.ref b)]) := r15.trans fun z_ kt => by
      show own_S p e below T15 (mkF m 11 #[.val (.ref a), .val (.ref b), .unset] [(.int (1 : Int32))]) _
      refine XS.ifYes X15.here hx rfl (pc0 := 11) (pc' := 16) rfl (hb hby d3_11) rfl ((if0 _ _).trans (feq (by decide : ¬ ((1 : Int32) = (0 : Int32)))).2) (by decide) (by decide) ?_
      show own_S p e below T15 (mkF m 16 #[.val (.ref a), .val (.ref b), .unset] []) _
      refine XS.aloadN X15.here hx rfl (hb hby d3_16) rfl rfl ?_
      exact kt
    obtain ⟨T17, X17, e17, st17⟩ := castY X15 hx hZ hown (hw _ (own_g (i := 26) rfl)) e15 (Ins.self E_b) (g := (mkF m 17 #[.val (.ref a), .val (.ref b), .unset] [(.ref b)])) rfl rfl (hb hby d3_17)
    have r17 : own_R p e below _ _ T17 (mkF m 20 #[.val (.ref a), .val (.ref b), .unset] [(.ref b)]) := r16.trans fun z_ kt => st17 _ kt
    have r18 : own_R p e below _ _ T17 (mkF m 22 #[.val (.ref a), .val (.ref b), .val (.ref b)] [(.ref a)]) := r17.trans fun z_ kt => by
      show own_S p e below T17 (mkF m 20 #[.val (.ref a), .val (.ref b), .unset] [(.ref b)]) _
      refine XS.astoreN X17.here hx rfl (hb hby d3_20) rfl rfl (l' := #[.val (.ref a), .val (.ref b), .val (.ref b)]) rfl ?_
      show own_S p e below T17 (mkF m 21 #[.val (.ref a), .val (.ref b), .val (.ref b)] []) _
      refine XS.aloadN X17.here hx rfl (hb hby d3_21) rfl rfl ?_
      exact kt
    obtain ⟨T19, X19, e19, st19⟩ := getF X17 hx hZ hown (host := "") (Or.inl (hw _ (own_g (i := 9) rfl))) Via.refl e17 F_a_expiry (g := (mkF m 22 #[.val (.ref a), .val (.ref b), .val (.ref b)] [(.ref a)])) rfl rfl (hb hby d3_22)
    have r19 : own_R p e below _ _ T19 (mkF m 25 #[.val (.ref a), .val (.ref b), .val (.ref b)] [(.int x1)]) := r18.trans fun z_ kt => st19 _ kt
    have r20 : own_R p e below _ _ T19 (mkF m 26 #[.val (.ref a), .val (.ref b), .val (.ref b)] [(.ref b), (.int x1)]) := r19.trans fun z_ kt => by
      show own_S p e below T19 (mkF m 25 #[.val (.ref a), .val (.ref b), .val (.ref b)] [(.int x1)]) _
      refine XS.aloadN X19.here hx rfl (hb hby d3_25) rfl rfl ?_
      exact kt
    obtain ⟨T21, X21, e21, st21⟩ := getF X19 hx hZ hown (host := "") (Or.inl (hw _ (own_g (i := 9) rfl))) Via.refl e19 F_b_expiry (g := (mkF m 26 #[.val (.ref a), .val (.ref b), .val (.ref b)] [(.ref b), (.int x1)])) rfl rfl (hb hby d3_26)
    have r21 : own_R p e below _ _ T21 (mkF m 29 #[.val (.ref a), .val (.ref b), .val (.ref b)] [(.int y1), (.int x1)]) := r20.trans fun z_ kt => st21 _ kt
    have r22 : own_R p e below _ _ T21 (mkF m 33 #[.val (.ref a), .val (.ref b), .val (.ref b)] [(.ref a)]) := r21.trans fun z_ kt => by
      show own_S p e below T21 (mkF m 29 #[.val (.ref a), .val (.ref b), .val (.ref b)] [(.int y1), (.int x1)]) _
      refine XS.icmpNo X21.here hx rfl (hb hby d3_29) rfl (teq (q1 : x1 = y1)).2 ?_
      show own_S p e below T21 (mkF m 32 #[.val (.ref a), .val (.ref b), .val (.ref b)] []) _
      refine XS.aloadN X21.here hx rfl (hb hby d3_32) rfl rfl ?_
      exact kt
    obtain ⟨T23, X23, e23, st23⟩ := getF X21 hx hZ hown (host := "") (Or.inl (hw _ (own_g (i := 11) rfl))) Via.refl e21 F_a_revocation (g := (mkF m 33 #[.val (.ref a), .val (.ref b), .val (.ref b)] [(.ref a)])) rfl rfl (hb hby d3_33)
    have r23 : own_R p e below _ _ T23 (mkF m 36 #[.val (.ref a), .val (.ref b), .val (.ref b)] [(.int x2)]) := r22.trans fun z_ kt => st23 _ kt
    have r24 : own_R p e below _ _ T23 (mkF m 37 #[.val (.ref a), .val (.ref b), .val (.ref b)] [(.ref b), (.int x2)]) := r23.trans fun z_ kt => by
      show own_S p e below T23 (mkF m 36 #[.val (.ref a), .val (.ref b), .val (.ref b)] [(.int x2)]) _
      refine XS.aloadN X23.here hx rfl (hb hby d3_36) rfl rfl ?_
      exact kt
    obtain ⟨T25, X25, e25, st25⟩ := getF X23 hx hZ hown (host := "") (Or.inl (hw _ (own_g (i := 11) rfl))) Via.refl e23 F_b_revocation (g := (mkF m 37 #[.val (.ref a), .val (.ref b), .val (.ref b)] [(.ref b), (.int x2)])) rfl rfl (hb hby d3_37)
    have r25 : own_R p e below _ _ T25 (mkF m 40 #[.val (.ref a), .val (.ref b), .val (.ref b)] [(.int y2), (.int x2)]) := r24.trans fun z_ kt => st25 _ kt
    have r26 : own_R p e below _ _ T25 (mkF m 48 #[.val (.ref a), .val (.ref b), .val (.ref b)] [(.int (0 : Int32))]) := r25.trans fun z_ kt => by
      show own_S p e below T25 (mkF m 40 #[.val (.ref a), .val (.ref b), .val (.ref b)] [(.int y2), (.int x2)]) _
      refine XS.icmpYes X25.here hx rfl (pc0 := 40) (pc' := 47) rfl (hb hby d3_40) rfl (feq (q2 : ¬ (x2 = y2))).2 (by decide) (by decide) ?_
      show own_S p e below T25 (mkF m 47 #[.val (.ref a), .val (.ref b), .val (.ref b)] []) _
      refine XS.iconst X25.here hx rfl (hb hby d3_47) ?_
      exact kt
    obtain ⟨fs, hr, hrun, hended, hW, hsame⟩ := X25.leave (v := some (.int (0 : Int32))) (fun h => by rw [Bd.returns] at h; cases h)
    refine ⟨_, _, pre0 _ (r26 _ ?_), hrun, hended, _, _, rfl, ?_, ⟨_, rfl⟩, hW, hsame.mono (by decide) (by decide)⟩
    · exact retN X25 hx (t := .boolean) Bd.returns (by simp) (hb hby d3_48) hr
    · show Q_eqObj Z a b x1 x2 y1 y2 r h0 n0 _ T25.heap _
      rw [e25]
      exact ⟨by rw [qr], N0, rfl⟩
  · skip
    have r27 : own_R p e below _ _ s₁ (mkF m 8 #[.val (.ref a), .val (.ref b), .unset] [(.ref b)]) := r0.trans fun z_ kt => by
      show own_S p e below s₁ (mkF m 0 #[.val (.ref a), .val (.ref b), .unset] []) _
      refine XS.aloadN X0.here hx rfl (hb hby d3_0) rfl rfl ?_
      show own_S p e below s₁ (mkF m 1 #[.val (.ref a), .val (.ref b), .unset] [(.ref a)]) _
      refine XS.aloadN X0.here hx rfl (hb hby d3_1) rfl rfl ?_
      show own_S p e below s₁ (mkF m 2 #[.val (.ref a), .val (.ref b), .unset] [(.ref b), (.ref a)]) _
      refine Jvm.RoadKit.acmp (g := (mkF m 2 #[.val (.ref a), .val (.ref b), .unset] [(.ref b), (.ref a)])) X0 hx rfl rfl rfl (pc0 := 2) (pc' := 7) (same := false) rfl (hb hby d3_2) rfl (decide_eq_false fun q => ne_a_b (Value.ref.inj q)) (by decide) (by decide) ?_
      show own_S p e below s₁ (mkF m 7 #[.val (.ref a), .val (.ref b), .unset] []) _
      refine XS.aloadN X0.here hx rfl (hb hby d3_7) rfl rfl ?_
      exact kt
    obtain ⟨T28, X28, e28, st28⟩ := instY X0 hx hZ hown (hw _ (own_g (i := 26) rfl)) e0 (Ins.self E_b) (g := (mkF m 8 #[.val (.ref a), .val (.ref b), .unset] [(.ref b)])) rfl rfl (hb hby d3_8)
    have r28 : own_R p e below _ _ T28 (mkF m 11 #[.val (.ref a), .val (.ref b), .unset] [(.int (1 : Int32))]) := r27.trans fun z_ kt => st28 _ kt
    have r29 : own_R p e below _ _ T28 (mkF m 17 #[.val (.ref a), .val (.ref b), .unset] [(.ref b)]) := r28.trans fun z_ kt => by
      show own_S p e below T28 (mkF m 11 #[.val (.ref a), .val (.ref b), .unset] [(.int (1 : Int32))]) _
      refine XS.ifYes X28.here hx rfl (pc0 := 11) (pc' := 16) rfl (hb hby d3_11) rfl ((if0 _ _).trans (feq (by decide : ¬ ((1 : Int32) = (0 : Int32)))).2) (by decide) (by decide) ?_
      show own_S p e below T28 (mkF m 16 #[.val (.ref a), .val (.ref b), .unset] []) _
      refine XS.aloadN X28.here hx rfl (hb hby d3_16) rfl rfl ?_
      exact kt
    obtain ⟨T30, X30, e30, st30⟩ := castY X28 hx hZ hown (hw _ (own_g (i := 26) rfl)) e28 (Ins.self E_b) (g := (mkF m 17 #[.val (.ref a), .val (.ref b), .unset] [(.ref b)])) rfl rfl (hb hby d3_17)
    have r30 : own_R p e below _ _ T30 (mkF m 20 #[.val (.ref a), .val (.ref b), .unset] [(.ref b)]) := r29.trans fun z_ kt => st30 _ kt
    have r31 : own_R p e below _ _ T30 (mkF m 22 #[.val (.ref a), .val (.ref b), .val (.ref b)] [(.ref a)]) := r30.trans fun z_ kt => by
      show own_S p e below T30 (mkF m 20 #[.val (.ref a), .val (.ref b), .unset] [(.ref b)]) _
      refine XS.astoreN X30.here hx rfl (hb hby d3_20) rfl rfl (l' := #[.val (.ref a), .val (.ref b), .val (.ref b)]) rfl ?_
      show own_S p e below T30 (mkF m 21 #[.val (.ref a), .val (.ref b), .val (.ref b)] []) _
      refine XS.aloadN X30.here hx rfl (hb hby d3_21) rfl rfl ?_
      exact kt
    obtain ⟨T32, X32, e32, st32⟩ := getF X30 hx hZ hown (host := "") (Or.inl (hw _ (own_g (i := 9) rfl))) Via.refl e30 F_a_expiry (g := (mkF m 22 #[.val (.ref a), .val (.ref b), .val (.ref b)] [(.ref a)])) rfl rfl (hb hby d3_22)
    have r32 : own_R p e below _ _ T32 (mkF m 25 #[.val (.ref a), .val (.ref b), .val (.ref b)] [(.int x1)]) := r31.trans fun z_ kt => st32 _ kt
    have r33 : own_R p e below _ _ T32 (mkF m 26 #[.val (.ref a), .val (.ref b), .val (.ref b)] [(.ref b), (.int x1)]) := r32.trans fun z_ kt => by
      show own_S p e below T32 (mkF m 25 #[.val (.ref a), .val (.ref b), .val (.ref b)] [(.int x1)]) _
      refine XS.aloadN X32.here hx rfl (hb hby d3_25) rfl rfl ?_
      exact kt
    obtain ⟨T34, X34, e34, st34⟩ := getF X32 hx hZ hown (host := "") (Or.inl (hw _ (own_g (i := 9) rfl))) Via.refl e32 F_b_expiry (g := (mkF m 26 #[.val (.ref a), .val (.ref b), .val (.ref b)] [(.ref b), (.int x1)])) rfl rfl (hb hby d3_26)
    have r34 : own_R p e below _ _ T34 (mkF m 29 #[.val (.ref a), .val (.ref b), .val (.ref b)] [(.int y1), (.int x1)]) := r33.trans fun z_ kt => st34 _ kt
    have r35 : own_R p e below _ _ T34 (mkF m 48 #[.val (.ref a), .val (.ref b), .val (.ref b)] [(.int (0 : Int32))]) := r34.trans fun z_ kt => by
      show own_S p e below T34 (mkF m 29 #[.val (.ref a), .val (.ref b), .val (.ref b)] [(.int y1), (.int x1)]) _
      refine XS.icmpYes X34.here hx rfl (pc0 := 29) (pc' := 47) rfl (hb hby d3_29) rfl (feq (q1 : ¬ (x1 = y1))).2 (by decide) (by decide) ?_
      show own_S p e below T34 (mkF m 47 #[.val (.ref a), .val (.ref b), .val (.ref b)] []) _
      refine XS.iconst X34.here hx rfl (hb hby d3_47) ?_
      exact kt
    obtain ⟨fs, hr, hrun, hended, hW, hsame⟩ := X34.leave (v := some (.int (0 : Int32))) (fun h => by rw [Bd.returns] at h; cases h)
    refine ⟨_, _, pre0 _ (r35 _ ?_), hrun, hended, _, _, rfl, ?_, ⟨_, rfl⟩, hW, hsame.mono (by decide) (by decide)⟩
    · exact retN X34 hx (t := .boolean) Bd.returns (by simp) (hb hby d3_48) hr
    · show Q_eqObj Z a b x1 x2 y1 y2 r h0 n0 _ T34.heap _
      rw [e34]
      exact ⟨by rw [qr], N0, rfl⟩

theorem d6_0 : decode jdk_18_method_1_code 0 = .ok (.aload_n 0, 1) := by decide +kernel
theorem d6_1 : decode jdk_18_method_1_code 1 = .ok (.invokespecial 1, 3) := by decide +kernel
theorem d6_4 : decode jdk_18_method_1_code 4 = .ok (.return_, 1) := by decide +kernel
theorem pn_Number : plainName "java/lang/Number" = true := by first | (simp [plainName, overriddenIn]; done) | decide +kernel
theorem ef_nuInit (m : MethodId) (a : Addr) : entryFrame m #[(.ref a)] 1 = mkF m 0 #[.val (.ref a)] [] := by first | (simp [entryFrame, mkF, argsToLocals, Value.category]; done) | rfl
def Q_nuInit (Z : State) (a : Addr) (h0 : Heap) (n0 : Nat) (v : Option Value) (h : Heap) (L : List Loc) : Prop := v = none ∧ Fr n0 L ∧ h = h0
set_option maxRecDepth 65536 in
set_option maxHeartbeats 40000000 in
theorem rm_nuInit (l : Launch) (Z : State) (a0 : Array Value) (hw : ∀ d ∈ tables_1, d.before a0 Z = true) (ws : List Jvm.Cond) (a : Addr) (h0 : Heap) (n0 : Nat) (O0 : Old Z n0 h0) :
    MetFree l (⟨"java/lang/Number", "<init>", "()V"⟩ : MethodName) (head1 (Jvm.Cond.code (⟨"java/lang/Number", "<init>", "()V"⟩ : MethodName) jdk_18_method_1_code 1 none :: ws) ({ frames := 1, cells := 0, slots := 0, locals := 12 } : Room)) (fun aa_ U => aa_ = #[(.ref a)] ∧ Z.Warmed39 U.vm ∧ U.heap = h0) (fun _ _ _ _ _ => True) (fun _ U o U' => ∃ v L, o = .returned v ∧ Q_nuInit Z a h0 n0 v U'.heap L ∧ FrameEnd U o U' L ({ frames := 1, cells := 0, slots := 0, locals := 12 } : Room).cells ({ frames := 1, cells := 0, slots := 0, locals := 12 } : Room).slots) := by
  refine MetFree.of_bodySF (plainFor_of_name pn_Number) hisR ?_
  intro p e s m args below meth c s₁ Bd hml0 hP hK
  obtain ⟨rfl, hZ, hh⟩ := hP
  have hx := Bd.exec
  have hby := Bd.bytes
  have hml : c.maxLocals = 1 := hml0
  have hown : s.vm.findClass "java/lang/Number" = some m.cls := findClass_of_methodNamed Bd.named
  have hnm := (name_of_methodNamed Bd.named Bd.method).1
  have X0 : Stand p l e ({ frames := 1, cells := 0, slots := 0, locals := 12 } : Room) s m #[(.ref a)] below meth c s₁ [] 0 0 := Stand.of_body Bd
  have e0 : s₁.heap = h0 := by rw [← hh, Bd.state]; rfl
  have N0 := Fr.nil n0
  have pre0 : ∀ t, Steps p.tables e below (s₁.setTop (mkF m 0 #[.val (.ref a)] [])) t → Steps p.tables e below (s₁.setTop (entryFrame m #[(.ref a)] 1)) t := fun t k => castTop (ef_nuInit m a) k
  have r0 : own_R p e below s₁ (mkF m 0 #[.val (.ref a)] []) s₁ (mkF m 0 #[.val (.ref a)] []) := own_R.refl
  have r1 : own_R p e below _ _ s₁ (mkF m 1 #[.val (.ref a)] [(.ref a)]) := r0.trans fun z_ kt => by
    show own_S p e below s₁ (mkF m 0 #[.val (.ref a)] []) _
    refine XS.aloadN X0.here hx rfl (hb hby d6_0) rfl rfl ?_
    exact kt
  obtain ⟨T2, X2, e2, st2⟩ := initO X0 hx hZ hown (hw _ (own_g (i := 45) rfl)) (hw _ (own_g (i := 7) rfl)) (hw _ (own_g (i := 8) rfl)) e0 (g := (mkF m 1 #[.val (.ref a)] [(.ref a)])) rfl (by rw [hml]; rfl) rfl (hb hby d6_1) (by decide) (W := 0) (by show 2 * 0 + _ ≤ _; exact Nat.le_of_eq rfl) (by decide)
  have r2 : own_R p e below _ _ T2 (mkF m 4 #[.val (.ref a)] []) := r1.trans fun z_ kt => st2 _ kt
  obtain ⟨fs, hr, hrun, hended, hW, hsame⟩ := X2.leave (v := none) (fun _ => rfl)
  refine ⟨_, _, pre0 _ (r2 _ ?_), hrun, hended, _, _, rfl, ?_, ⟨_, rfl⟩, hW, hsame.mono (by decide) (by decide)⟩
  · exact X2.returnOut hx Bd.returns (hb hby d6_4) hr
  · show Q_nuInit Z a h0 n0 _ T2.heap _
    rw [e2]
    exact ⟨rfl, N0, rfl⟩

theorem d5_0 : decode jdk_33_method_23_code 0 = .ok (.aload_n 0, 1) := by decide +kernel
theorem d5_1 : decode jdk_33_method_23_code 1 = .ok (.invokespecial 202, 3) := by decide +kernel
theorem pd_0 : parseMethodDescriptor "()V" = some ⟨[], none⟩ := by decide +kernel
theorem d5_4 : decode jdk_33_method_23_code 4 = .ok (.aload_n 0, 1) := by decide +kernel
theorem d5_5 : decode jdk_33_method_23_code 5 = .ok (.iload_n 1, 1) := by decide +kernel
theorem d5_6 : decode jdk_33_method_23_code 6 = .ok (.putfield 205, 3) := by decide +kernel
theorem d5_9 : decode jdk_33_method_23_code 9 = .ok (.return_, 1) := by decide +kernel
theorem pn_Integer : plainName "java/lang/Integer" = true := by first | (simp [plainName, overriddenIn]; done) | decide +kernel
theorem ef_igInit (m : MethodId) (a : Addr) (pv : Int32) : entryFrame m #[(.ref a), (.int pv)] 2 = mkF m 0 #[.val (.ref a), .val (.int pv)] [] := by first | (simp [entryFrame, mkF, argsToLocals, Value.category]; done) | rfl
def Q_igInit (Z : State) (a : Addr) (pv : Int32) (u1 : Value) (h0 : Heap) (n0 : Nat) (v : Option Value) (h : Heap) (L : List Loc) : Prop := v = none ∧ Fr n0 L ∧ Keep h0 h [a]
set_option maxRecDepth 65536 in
set_option maxHeartbeats 40000000 in
theorem rm_igInit (l : Launch) (Z : State) (a0 : Array Value) (hw : ∀ d ∈ tables_1, d.before a0 Z = true) (ws : List Jvm.Cond) (a : Addr) (pv : Int32) (u1 : Value) (h0 : Heap) (n0 : Nat) (O0 : Old Z n0 h0) (E_a : Exa Z h0 a "java/lang/Integer") (F_a_value : Fld Z h0 a "java/lang/Integer" "value" "I" u1) (g_a : n0 ≤ a) :
    MetFree l (⟨"java/lang/Integer", "<init>", "(I)V"⟩ : MethodName) (head1 (Jvm.Cond.code (⟨"java/lang/Integer", "<init>", "(I)V"⟩ : MethodName) jdk_33_method_23_code 2 none :: ws) ({ frames := 2, cells := 0, slots := 0, locals := 24 } : Room)) (fun aa_ U => aa_ = #[(.ref a), (.int pv)] ∧ Z.Warmed39 U.vm ∧ U.heap = h0) (fun _ _ _ _ _ => True) (fun _ U o U' => ∃ v L, o = .returned v ∧ Q_igInit Z a pv u1 h0 n0 v U'.heap L ∧ FrameEnd U o U' L ({ frames := 2, cells := 0, slots := 0, locals := 24 } : Room).cells ({ frames := 2, cells := 0, slots := 0, locals := 24 } : Room).slots) := by
  refine MetFree.of_bodySF (plainFor_of_name pn_Integer) hisR ?_
  intro p e s m args below meth c s₁ Bd hml0 hP hK
  obtain ⟨rfl, hZ, hh⟩ := hP
  have hx := Bd.exec
  have hby := Bd.bytes
  have hml : c.maxLocals = 2 := hml0
  have hown : s.vm.findClass "java/lang/Integer" = some m.cls := findClass_of_methodNamed Bd.named
  have hnm := (name_of_methodNamed Bd.named Bd.method).1
  have X0 : Stand p l e ({ frames := 2, cells := 0, slots := 0, locals := 24 } : Room) s m #[(.ref a), (.int pv)] below meth c s₁ [] 0 0 := Stand.of_body Bd
  have e0 : s₁.heap = h0 := by rw [← hh, Bd.state]; rfl
  have N0 := Fr.nil n0
  have K0 : Keep h0 h0 [a] := Keep.refl h0 _
  have pre0 : ∀ t, Steps p.tables e below (s₁.setTop (mkF m 0 #[.val (.ref a), .val (.int pv)] [])) t → Steps p.tables e below (s₁.setTop (entryFrame m #[(.ref a), (.int pv)] 2)) t := fun t k => castTop (ef_igInit m a pv) k
  have r0 : own_R p e below s₁ (mkF m 0 #[.val (.ref a), .val (.int pv)] []) s₁ (mkF m 0 #[.val (.ref a), .val (.int pv)] []) := own_R.refl
  have r1 : own_R p e below _ _ s₁ (mkF m 1 #[.val (.ref a), .val (.int pv)] [(.ref a)]) := r0.trans fun z_ kt => by
    show own_S p e below s₁ (mkF m 0 #[.val (.ref a), .val (.int pv)] []) _
    refine XS.aloadN X0.here hx rfl (hb hby d5_0) rfl rfl ?_
    exact kt
  obtain ⟨_, _, ⟨T2, L2, cc2, n2⟩, -, X2, ⟨Lc2, hQ2, l2, y2, z2⟩, st2⟩ := X0.specialBack hx (y := (⟨"java/lang/Number", "<init>", "()V"⟩ : MethodName)) rfl hown (mvT hZ (hw _ (own_g (i := 39) rfl))) (mvT hZ (hw _ (own_g (i := 40) rfl))) (mvT hZ (hw _ (own_g (i := 44) rfl))) (by decide) (backOf (W := 0) (rm_nuInit l Z a0 hw [] (a) h0 n0 O0 ) hZ (hw _ (own_g (i := 44) rfl)) (hw _ (own_g (i := 43) rfl)) (by decide) (by decide)) (g := (mkF m 1 #[.val (.ref a), .val (.int pv)] [(.ref a)])) rfl (by rw [hml]; rfl) (Steps.refl _) (a := a) (argsL := []) (rest := []) (lenOf pd_0 rfl) rfl (by show 2 * 0 + _ ≤ _; exact Nat.le_of_eq rfl) (hb hby d5_1) (fun _ _ => ⟨rfl, e0, (by decide : 0 + 0 ≤ _), (by decide : 0 + 0 ≤ _)⟩)
  dsimp only [Pt.U, Pt.locs, Pt.cells, Pt.slots] at X2 l2 y2 z2 st2 hQ2
  subst l2 y2 z2
  obtain ⟨rfl, Nq2, eq2⟩ := hQ2
  have N2 := Fr.app N0 Nq2
  have r2 : own_R p e below _ _ T2 (mkF m 4 #[.val (.ref a), .val (.int pv)] []) := r1.trans fun z_ kt => st2.trans kt
  have e2 : T2.heap = h0 := eq2
  have r3 : own_R p e below _ _ T2 (mkF m 6 #[.val (.ref a), .val (.int pv)] [(.int pv), (.ref a)]) := r2.trans fun z_ kt => by
    show own_S p e below T2 (mkF m 4 #[.val (.ref a), .val (.int pv)] []) _
    refine XS.aloadN X2.here hx rfl (hb hby d5_4) rfl rfl ?_
    show own_S p e below T2 (mkF m 5 #[.val (.ref a), .val (.int pv)] [(.ref a)]) _
    refine XS.iloadN X2.here hx rfl (hb hby d5_5) rfl ?_
    exact kt
  obtain ⟨T4, h4, X4, e4, W4, st4⟩ := putF X2 hx hZ hown (host := "") (Or.inl (hw _ (own_g (i := 46) rfl))) Via.refl e2 F_a_value E_a (Or.inr ⟨(hw _ (own_g (i := 47) rfl)), rfl, hnm⟩) (hw _ (own_g (i := 34) rfl)) (ty := .int) (v := (.int pv)) (by decide) rfl rfl (g := (mkF m 6 #[.val (.ref a), .val (.int pv)] [(.int pv), (.ref a)])) rfl rfl (hb hby d5_6)
  have r4 : own_R p e below _ _ T4 (mkF m 9 #[.val (.ref a), .val (.int pv)] []) := r3.trans fun z_ kt => st4 _ kt
  have N4 := Fr.snoc X4 N2 g_a
  have O4 := O0.wr W4 g_a
  have K4 := K0.wr W4 (Or.inl (List.mem_of_getElem? (i := 0) rfl))
  have F4 := F_a_value.same W4
  obtain ⟨fs, hr, hrun, hended, hW, hsame⟩ := X4.leave (v := none) (fun _ => rfl)
  refine ⟨_, _, pre0 _ (r4 _ ?_), hrun, hended, _, _, rfl, ?_, ⟨_, rfl⟩, hW, hsame.mono (by decide) (by decide)⟩
  · exact X4.returnOut hx Bd.returns (hb hby d5_9) hr
  · show Q_igInit Z a pv u1 h0 n0 _ T4.heap _
    rw [e4]
    exact ⟨rfl, N4, K4⟩

theorem d4_0 : decode jdk_33_method_22_code 0 = .ok (.iload_n 0, 1) := by decide +kernel
theorem d4_1 : decode jdk_33_method_22_code 1 = .ok (.bipush (-128), 2) := by decide +kernel
theorem d4_3 : decode jdk_33_method_22_code 3 = .ok (.if_icmp .lt 20, 3) := by decide +kernel
theorem d4_23 : decode jdk_33_method_22_code 23 = .ok (.new 1, 3) := by decide +kernel
theorem d4_26 : decode jdk_33_method_22_code 26 = .ok (.dup, 1) := by decide +kernel
theorem d4_27 : decode jdk_33_method_22_code 27 = .ok (.iload_n 0, 1) := by decide +kernel
theorem d4_28 : decode jdk_33_method_22_code 28 = .ok (.invokespecial 199, 3) := by decide +kernel
theorem pd_1 : parseMethodDescriptor "(I)V" = some ⟨[.int], none⟩ := by decide +kernel
theorem d4_31 : decode jdk_33_method_22_code 31 = .ok (.areturn, 1) := by decide +kernel
theorem d4_6 : decode jdk_33_method_22_code 6 = .ok (.iload_n 0, 1) := by decide +kernel
theorem d4_7 : decode jdk_33_method_22_code 7 = .ok (.getstatic 191, 3) := by decide +kernel
theorem d4_10 : decode jdk_33_method_22_code 10 = .ok (.if_icmp .gt 13, 3) := by decide +kernel
theorem d4_13 : decode jdk_33_method_22_code 13 = .ok (.getstatic 195, 3) := by decide +kernel
theorem d4_16 : decode jdk_33_method_22_code 16 = .ok (.iload_n 0, 1) := by decide +kernel
theorem d4_17 : decode jdk_33_method_22_code 17 = .ok (.sipush 128, 3) := by decide +kernel
theorem d4_20 : decode jdk_33_method_22_code 20 = .ok (.iadd, 1) := by decide +kernel
theorem d4_21 : decode jdk_33_method_22_code 21 = .ok (.aaload, 1) := by decide +kernel
theorem d4_22 : decode jdk_33_method_22_code 22 = .ok (.areturn, 1) := by decide +kernel
theorem ef_valueOf (m : MethodId) (pv : Int32) : entryFrame m #[(.int pv)] 1 = mkF m 0 #[.val (.int pv)] [] := by first | (simp [entryFrame, mkF, argsToLocals, Value.category]; done) | rfl
def Q_valueOf (Z : State) (pv : Int32) (ca : Addr) (kc : ClassId) (vc : List Value) (h0 : Heap) (n0 : Nat) (v : Option Value) (h : Heap) (L : List Loc) : Prop := ∃ (b : Addr), v = some (.ref b) ∧ Fr n0 L ∧ Keep h0 h [] ∧ (Exa Z h b "java/lang/Integer")
set_option maxRecDepth 65536 in
set_option maxHeartbeats 40000000 in
theorem rm_valueOf (l : Launch) (Z : State) (a0 : Array Value) (hw : ∀ d ∈ tables_1, d.before a0 Z = true) (ws : List Jvm.Cond) (pv : Int32) (ca : Addr) (kc : ClassId) (vc : List Value) (h0 : Heap) (n0 : Nat) (O0 : Old Z n0 h0) (S_Integer_IntegerCache_high : Sta Z Z.heap "java/lang/Integer$IntegerCache" "high" "I" (.int (127 : Int32))) (S_Integer_IntegerCache_cache : Sta Z Z.heap "java/lang/Integer$IntegerCache" "cache" "[Ljava/lang/Integer;" (.ref ca)) (OV_ca : Arv Z Z.heap ca kc (.object "java/lang/Integer") (256 : Int32) vc .null) (hall : ∀ i : Nat, i < 256 → ∃ y : Addr, vc.getD i .null = .ref y ∧ Exa Z Z.heap y "java/lang/Integer") :
    MetFree l (⟨"java/lang/Integer", "valueOf", "(I)Ljava/lang/Integer;"⟩ : MethodName) (head1 (Jvm.Cond.code (⟨"java/lang/Integer", "valueOf", "(I)Ljava/lang/Integer;"⟩ : MethodName) jdk_33_method_22_code 1 (some (.object "java/lang/Integer")) :: ws) ({ frames := 3, cells := 1, slots := 1, locals := 38 } : Room)) (fun aa_ U => aa_ = #[(.int pv)] ∧ Z.Warmed39 U.vm ∧ U.heap = h0) (fun _ _ _ _ _ => True) (fun _ U o U' => ∃ v L, o = .returned v ∧ Q_valueOf Z pv ca kc vc h0 n0 v U'.heap L ∧ FrameEnd U o U' L ({ frames := 3, cells := 1, slots := 1, locals := 38 } : Room).cells ({ frames := 3, cells := 1, slots := 1, locals := 38 } : Room).slots) := by
  refine MetFree.of_bodySF (plainFor_of_name pn_Integer) hisR ?_
  intro p e s m args below meth c s₁ Bd hml0 hP hK
  obtain ⟨rfl, hZ, hh⟩ := hP
  have hx := Bd.exec
  have hby := Bd.bytes
  have hml : c.maxLocals = 1 := hml0
  have hown : s.vm.findClass "java/lang/Integer" = some m.cls := findClass_of_methodNamed Bd.named
  have hnm := (name_of_methodNamed Bd.named Bd.method).1
  have X0 : Stand p l e ({ frames := 3, cells := 1, slots := 1, locals := 38 } : Room) s m #[(.int pv)] below meth c s₁ [] 0 0 := Stand.of_body Bd
  have e0 : s₁.heap = h0 := by rw [← hh, Bd.state]; rfl
  have N0 := Fr.nil n0
  have K0 : Keep h0 h0 [] := Keep.refl h0 _
  have pre0 : ∀ t, Steps p.tables e below (s₁.setTop (mkF m 0 #[.val (.int pv)] [])) t → Steps p.tables e below (s₁.setTop (entryFrame m #[(.int pv)] 1)) t := fun t k => castTop (ef_valueOf m pv) k
  have r0 : own_R p e below s₁ (mkF m 0 #[.val (.int pv)] []) s₁ (mkF m 0 #[.val (.int pv)] []) := own_R.refl
  have r1 : own_R p e below _ _ s₁ (mkF m 3 #[.val (.int pv)] [(.int (-128 : Int32)), (.int pv)]) := r0.trans fun z_ kt => by
    show own_S p e below s₁ (mkF m 0 #[.val (.int pv)] []) _
    refine XS.iloadN X0.here hx rfl (hb hby d4_0) rfl ?_
    show own_S p e below s₁ (mkF m 1 #[.val (.int pv)] [(.int pv)]) _
    refine XS.bipush X0.here hx rfl (hb hby d4_1) ?_
    exact kt
  by_cases hc3_2 : pv < (-128 : Int32)
  · skip
    have r3 : own_R p e below _ _ s₁ (mkF m 23 #[.val (.int pv)] []) := r1.trans fun z_ kt => by
      show own_S p e below s₁ (mkF m 3 #[.val (.int pv)] [(.int (-128 : Int32)), (.int pv)]) _
      refine XS.icmpYes X0.here hx rfl (pc0 := 3) (pc' := 23) rfl (hb hby d4_3) rfl (tlt (hc3_2 : pv < (-128 : Int32))).1 (by decide) (by decide) ?_
      exact kt
    obtain ⟨T4, h4, X4, e4, E4, A4, D4, -, st4⟩ := newO X0 hx hZ hown (hw _ (own_g (i := 33) rfl)) (hw _ (own_g (i := 34) rfl)) (hw _ (own_g (i := 21) rfl)) e0 (g := (mkF m 23 #[.val (.int pv)] [])) rfl (hb hby d4_23) (by decide) (by decide)
    obtain ⟨b4, g4⟩ : ∃ z, z = h0.size := ⟨_, rfl⟩
    rw [← g4] at A4 D4 st4
    have r4 : own_R p e below _ _ T4 (mkF m 26 #[.val (.int pv)] [(.ref b4)]) := r3.trans fun z_ kt => st4 _ kt
    have g_b4 : n0 ≤ b4 := Nat.le_trans (own_old_size O0) (Nat.le_of_eq g4.symm)
    have sz_b4 : h0.size ≤ b4 := Nat.le_trans K0.1 (Nat.le_of_eq g4.symm)
    have O4 := O0.ext E4
    have K4 := K0.ext E4
    have F4_47 := D4 (Or.inr (hw _ (own_g (i := 47) rfl))) (ty := .int) (by decide)
    have r5 : own_R p e below _ _ T4 (mkF m 28 #[.val (.int pv)] [(.int pv), (.ref b4), (.ref b4)]) := r4.trans fun z_ kt => by
      show own_S p e below T4 (mkF m 26 #[.val (.int pv)] [(.ref b4)]) _
      refine XS.dup X4.here hx rfl (hb hby d4_26) rfl rfl ?_
      show own_S p e below T4 (mkF m 27 #[.val (.int pv)] [(.ref b4), (.ref b4)]) _
      refine XS.iloadN X4.here hx rfl (hb hby d4_27) rfl ?_
      exact kt
    obtain ⟨_, _, ⟨T6, L6, cc6, n6⟩, -, X6, ⟨Lc6, hQ6, l6, y6, z6⟩, st6⟩ := X4.specialBack hx (y := (⟨"java/lang/Integer", "<init>", "(I)V"⟩ : MethodName)) rfl hown (mvT hZ (hw _ (own_g (i := 35) rfl))) (mvT hZ (hw _ (own_g (i := 36) rfl))) (mvT hZ (hw _ (own_g (i := 38) rfl))) (by decide) (backOf (W := 1) (rm_igInit l Z a0 hw [] (b4) (pv) ((.int (0 : Int32))) h4 n0 O4 (A4) (F4_47) (g_b4)) hZ (hw _ (own_g (i := 38) rfl)) (hw _ (own_g (i := 21) rfl)) (by decide) (by decide)) (g := (mkF m 28 #[.val (.int pv)] [(.int pv), (.ref b4), (.ref b4)])) rfl (by rw [hml]; rfl) (Steps.refl _) (a := b4) (argsL := [(.int pv)]) (rest := [(.ref b4)]) (lenOf pd_1 rfl) rfl (by show 2 * 0 + _ ≤ _; exact Nat.le_of_eq rfl) (hb hby d4_28) (fun _ _ => ⟨rfl, e4, (by decide : 1 + 0 ≤ _), (by decide : 1 + 0 ≤ _)⟩)
    dsimp only [Pt.U, Pt.locs, Pt.cells, Pt.slots] at X6 l6 y6 z6 st6 hQ6
    subst l6 y6 z6
    obtain ⟨h6, e6⟩ : ∃ z, T6.heap = z := ⟨_, rfl⟩
    rw [e6] at hQ6
    obtain ⟨rfl, Nq6, Kq6⟩ := hQ6
    have N6 := Fr.app N0 Nq6
    have r6 : own_R p e below _ _ T6 (mkF m 31 #[.val (.int pv)] [(.ref b4)]) := r5.trans fun z_ kt => st6.trans kt
    have O6 := O4.keep Kq6 (allS g_b4 all0)
    have K6 := K4.trans Kq6 (allS (Or.inr sz_b4) all0)
    have f7 := (A4.keep Kq6)
    obtain ⟨fs, hr, hrun, hended, hW, hsame⟩ := X6.leave (v := some (.ref b4)) (fun h => by rw [Bd.returns] at h; cases h)
    refine ⟨_, _, pre0 _ (r6 _ ?_), hrun, hended, _, _, rfl, ?_, ⟨_, rfl⟩, hW, hsame.mono (by decide) (by decide)⟩
    · exact retOut X6 hx Bd.returns rfl (Or.inr (Or.inr (Or.inr (Or.inr ⟨rfl, rfl, rfl⟩)))) (hb hby d4_31) hr
    · show Q_valueOf Z pv ca kc vc h0 n0 _ T6.heap _
      rw [e6]
      exact ⟨b4, rfl, N6, K6, f7⟩
  · skip
    have r8 : own_R p e below _ _ s₁ (mkF m 7 #[.val (.int pv)] [(.int pv)]) := r1.trans fun z_ kt => by
      show own_S p e below s₁ (mkF m 3 #[.val (.int pv)] [(.int (-128 : Int32)), (.int pv)]) _
      refine XS.icmpNo X0.here hx rfl (hb hby d4_3) rfl (flt (hc3_2 : ¬ (pv < (-128 : Int32)))).1 ?_
      show own_S p e below s₁ (mkF m 6 #[.val (.int pv)] []) _
      refine XS.iloadN X0.here hx rfl (hb hby d4_6) rfl ?_
      exact kt
    obtain ⟨T9, X9, e9, st9⟩ := getS2 X0 hx hZ hown (host := "") (Or.inl (hw _ (own_g (i := 23) rfl))) Via.refl e0 (S_Integer_IntegerCache_high.ext O0.2) (g := (mkF m 7 #[.val (.int pv)] [(.int pv)])) rfl (hb hby d4_7)
    have r9 : own_R p e below _ _ T9 (mkF m 10 #[.val (.int pv)] [(.int (127 : Int32)), (.int pv)]) := r8.trans fun z_ kt => st9 _ kt
    by_cases hc10_10 : (127 : Int32) < pv
    · skip
      have r11 : own_R p e below _ _ T9 (mkF m 23 #[.val (.int pv)] []) := r9.trans fun z_ kt => by
        show own_S p e below T9 (mkF m 10 #[.val (.int pv)] [(.int (127 : Int32)), (.int pv)]) _
        refine XS.icmpYes X9.here hx rfl (pc0 := 10) (pc' := 23) rfl (hb hby d4_10) rfl (tlt (hc10_10 : (127 : Int32) < pv)).2.2.1 (by decide) (by decide) ?_
        exact kt
      obtain ⟨T12, h12, X12, e12, E12, A12, D12, -, st12⟩ := newO X9 hx hZ hown (hw _ (own_g (i := 33) rfl)) (hw _ (own_g (i := 34) rfl)) (hw _ (own_g (i := 21) rfl)) e9 (g := (mkF m 23 #[.val (.int pv)] [])) rfl (hb hby d4_23) (by decide) (by decide)
      obtain ⟨b12, g12⟩ : ∃ z, z = h0.size := ⟨_, rfl⟩
      rw [← g12] at A12 D12 st12
      have r12 : own_R p e below _ _ T12 (mkF m 26 #[.val (.int pv)] [(.ref b12)]) := r11.trans fun z_ kt => st12 _ kt
      have g_b12 : n0 ≤ b12 := Nat.le_trans (own_old_size O0) (Nat.le_of_eq g12.symm)
      have sz_b12 : h0.size ≤ b12 := Nat.le_trans K0.1 (Nat.le_of_eq g12.symm)
      have O12 := O0.ext E12
      have K12 := K0.ext E12
      have F12_47 := D12 (Or.inr (hw _ (own_g (i := 47) rfl))) (ty := .int) (by decide)
      have r13 : own_R p e below _ _ T12 (mkF m 28 #[.val (.int pv)] [(.int pv), (.ref b12), (.ref b12)]) := r12.trans fun z_ kt => by
        show own_S p e below T12 (mkF m 26 #[.val (.int pv)] [(.ref b12)]) _
        refine XS.dup X12.here hx rfl (hb hby d4_26) rfl rfl ?_
        show own_S p e below T12 (mkF m 27 #[.val (.int pv)] [(.ref b12), (.ref b12)]) _
        refine XS.iloadN X12.here hx rfl (hb hby d4_27) rfl ?_
        exact kt
      obtain ⟨_, _, ⟨T14, L14, cc14, n14⟩, -, X14, ⟨Lc14, hQ14, l14, y14, z14⟩, st14⟩ := X12.specialBack hx (y := (⟨"java/lang/Integer", "<init>", "(I)V"⟩ : MethodName)) rfl hown (mvT hZ (hw _ (own_g (i := 35) rfl))) (mvT hZ (hw _ (own_g (i := 36) rfl))) (mvT hZ (hw _ (own_g (i := 38) rfl))) (by decide) (backOf (W := 1) (rm_igInit l Z a0 hw [] (b12) (pv) ((.int (0 : Int32))) h12 n0 O12 (A12) (F12_47) (g_b12)) hZ (hw _ (own_g (i := 38) rfl)) (hw _ (own_g (i := 21) rfl)) (by decide) (by decide)) (g := (mkF m 28 #[.val (.int pv)] [(.int pv), (.ref b12), (.ref b12)])) rfl (by rw [hml]; rfl) (Steps.refl _) (a := b12) (argsL := [(.int pv)]) (rest := [(.ref b12)]) (lenOf pd_1 rfl) rfl (by show 2 * 0 + _ ≤ _; exact Nat.le_of_eq rfl) (hb hby d4_28) (fun _ _ => ⟨rfl, e12, (by decide : 1 + 0 ≤ _), (by decide : 1 + 0 ≤ _)⟩)
      dsimp only [Pt.U, Pt.locs, Pt.cells, Pt.slots] at X14 l14 y14 z14 st14 hQ14
      subst l14 y14 z14
      obtain ⟨h14, e14⟩ : ∃ z, T14.heap = z := ⟨_, rfl⟩
      rw [e14] at hQ14
      obtain ⟨rfl, Nq14, Kq14⟩ := hQ14
      have N14 := Fr.app N0 Nq14
      have r14 : own_R p e below _ _ T14 (mkF m 31 #[.val (.int pv)] [(.ref b12)]) := r13.trans fun z_ kt => st14.trans kt
      have O14 := O12.keep Kq14 (allS g_b12 all0)
      have K14 := K12.trans Kq14 (allS (Or.inr sz_b12) all0)
      have f15 := (A12.keep Kq14)
      obtain ⟨fs, hr, hrun, hended, hW, hsame⟩ := X14.leave (v := some (.ref b12)) (fun h => by rw [Bd.returns] at h; cases h)
      refine ⟨_, _, pre0 _ (r14 _ ?_), hrun, hended, _, _, rfl, ?_, ⟨_, rfl⟩, hW, hsame.mono (by decide) (by decide)⟩
      · exact retOut X14 hx Bd.returns rfl (Or.inr (Or.inr (Or.inr (Or.inr ⟨rfl, rfl, rfl⟩)))) (hb hby d4_31) hr
      · show Q_valueOf Z pv ca kc vc h0 n0 _ T14.heap _
        rw [e14]
        exact ⟨b12, rfl, N14, K14, f15⟩
    · skip
      have r16 : own_R p e below _ _ T9 (mkF m 13 #[.val (.int pv)] []) := r9.trans fun z_ kt => by
        show own_S p e below T9 (mkF m 10 #[.val (.int pv)] [(.int (127 : Int32)), (.int pv)]) _
        refine XS.icmpNo X9.here hx rfl (hb hby d4_10) rfl (flt (hc10_10 : ¬ ((127 : Int32) < pv))).2.2.1 ?_
        exact kt
      obtain ⟨T17, X17, e17, st17⟩ := getS2 X9 hx hZ hown (host := "") (Or.inl (hw _ (own_g (i := 25) rfl))) Via.refl e9 (S_Integer_IntegerCache_cache.ext O0.2) (g := (mkF m 13 #[.val (.int pv)] [])) rfl (hb hby d4_13)
      have r17 : own_R p e below _ _ T17 (mkF m 16 #[.val (.int pv)] [(.ref ca)]) := r16.trans fun z_ kt => st17 _ kt
      have r19 : own_R p e below _ _ T17 (mkF m 21 #[.val (.int pv)] [(.int (pv + (128 : Int32))), (.ref ca)]) := r17.trans fun z_ kt => by
        show own_S p e below T17 (mkF m 16 #[.val (.int pv)] [(.ref ca)]) _
        refine XS.iloadN X17.here hx rfl (hb hby d4_16) rfl ?_
        show own_S p e below T17 (mkF m 17 #[.val (.int pv)] [(.int pv), (.ref ca)]) _
        refine XS.sipush X17.here hx rfl (hb hby d4_17) ?_
        show own_S p e below T17 (mkF m 20 #[.val (.int pv)] [(.int (128 : Int32)), (.int pv), (.ref ca)]) _
        refine XS.iadd X17.here hx rfl (hb hby d4_20) rfl ?_
        exact kt
      obtain ⟨cl18, Ar18, q18, S18, M18, H18, G18⟩ := id (OV_ca.ext O0.2)
      have hk18 : 0 ≤ ((pv + (128 : Int32))).toInt ∧ ((pv + (128 : Int32))).toInt < 256 := by
        have q1 := c_iadd pv (128 : Int32)
        have q2 := rng32 pv
        have q3 := rng32 (pv + (128 : Int32))
        have q4 : (128 : Int32).toInt = 128 := by decide
        have q5 : (-128 : Int32).toInt = -128 := by decide
        have q6 : (127 : Int32).toInt = 127 := by decide
        have q7 := hc3_2
        have q8 := hc10_10
        rw [Int32.lt_iff_toInt_lt] at q7 q8
        omega
      have hj18 : ¬ ((pv + (128 : Int32)) < 0 ∨ cl18.slots.size ≤ ((pv + (128 : Int32))).toNatClampNeg) := by
        rw [S18, Int32.lt_iff_toInt_lt]
        simp only [Int32.toNatClampNeg]
        have q0 : (0 : Int32).toInt = 0 := by decide
        have q1 : (256 : Int32).toInt = 256 := by decide
        omega
      obtain ⟨bq, hb1, hb2⟩ := hall ((pv + (128 : Int32))).toNatClampNeg (by simp only [Int32.toNatClampNeg]; omega)
      have hin18 : ¬ ((pv + (128 : Int32)) < 0 ∨ cl18.slots.size ≤ ((pv + (128 : Int32))).toNatClampNeg) := hj18
      have hat18 : cl18.slots[((pv + (128 : Int32))).toNatClampNeg]? = some (.ref bq) := Has.at H18 hin18 hb1
      have r20 : own_R p e below _ _ T17 (mkF m 22 #[.val (.int pv)] [(.ref bq)]) := r19.trans fun z_ kt => by
        show own_S p e below T17 (mkF m 21 #[.val (.int pv)] [(.int (pv + (128 : Int32))), (.ref ca)]) _
        refine X17.aaload hx (j := (pv + (128 : Int32))) (v := (.ref bq)) (by rw [e17]; exact Ar18.1) (State.isArrayOf_alike hZ.alike Ar18.2.1) rfl Ar18.2.2 hin18 hat18 (g := (mkF m 21 #[.val (.int pv)] [(.int (pv + (128 : Int32))), (.ref ca)])) rfl rfl (hb hby d4_21) _ ?_
        exact kt
      obtain ⟨fs, hr, hrun, hended, hW, hsame⟩ := X17.leave (v := some (.ref bq)) (fun h => by rw [Bd.returns] at h; cases h)
      refine ⟨_, _, pre0 _ (r20 _ ?_), hrun, hended, _, _, rfl, ?_, ⟨_, rfl⟩, hW, hsame.mono (by decide) (by decide)⟩
      · exact retOut X17 hx Bd.returns rfl (Or.inr (Or.inr (Or.inr (Or.inr ⟨rfl, rfl, rfl⟩)))) (hb hby d4_22) hr
      · show Q_valueOf Z pv ca kc vc h0 n0 _ T17.heap _
        rw [e17]
        exact ⟨bq, rfl, N0, K0, (hb2.ext O0.2)⟩

theorem pd_2 : parseMethodDescriptor "(ZZ)V" = some ⟨[.boolean, .boolean], none⟩ := by decide +kernel
theorem pd_3 : parseMethodDescriptor "(Ljava/lang/Object;)Z" = some ⟨[(.object "java/lang/Object")], some .boolean⟩ := by decide +kernel
theorem pd_4 : parseMethodDescriptor "(I)Ljava/lang/Integer;" = some ⟨[.int], some (.object "java/lang/Integer")⟩ := by decide +kernel
theorem pn_CertificateFaultsEqualsPinLaw : plainName "com/example/nonce/nonce/web/CertificateFaultsEqualsPinLaw" = true := by first | (simp [plainName, overriddenIn]; done) | decide +kernel
theorem ef_law (m : MethodId) (pa : Int32) (pb : Int32) (pm : Int32) : entryFrame m #[(.int pa), (.int pb), (.int pm)] maxLocals = mkF m 0 #[.val (.int pa), .val (.int pb), .val (.int pm), .unset, .unset, .unset, .unset, .unset, .unset, .unset, .unset, .unset] [] := by first | (simp [entryFrame, mkF, argsToLocals, Value.category, maxLocals]; done) | rfl
def Q_law (Z : State) (pa : Int32) (pb : Int32) (pm : Int32) (s_NONE : Addr) (ca : Addr) (kc : ClassId) (vc : List Value) (h0 : Heap) (n0 : Nat) (v : Option Value) (h : Heap) (L : List Loc) : Prop := v = some (.int (1 : Int32)) ∧ Fr n0 L
set_option maxRecDepth 65536 in
set_option maxHeartbeats 40000000 in
theorem rm_law (l : Launch) (Z : State) (a0 : Array Value) (hw : ∀ d ∈ tables_1, d.before a0 Z = true) (ws : List Jvm.Cond) (pa : Int32) (pb : Int32) (pm : Int32) (s_NONE : Addr) (ca : Addr) (kc : ClassId) (vc : List Value) (h0 : Heap) (n0 : Nat) (O0 : Old Z n0 h0) (S_CertificateFaults_NONE : Sta Z Z.heap "com/example/nonce/nonce/web/CertificateFaults" "NONE" "Lcom/example/nonce/nonce/web/CertificateFaults;" (.ref s_NONE)) (OE_s_NONE : Exa Z Z.heap s_NONE "com/example/nonce/nonce/web/CertificateFaults") (OF_s_NONE_expiry : Fld Z Z.heap s_NONE "com/example/nonce/nonce/web/CertificateFaults" "expiry" "Z" (.int (0 : Int32))) (OF_s_NONE_revocation : Fld Z Z.heap s_NONE "com/example/nonce/nonce/web/CertificateFaults" "revocation" "Z" (.int (0 : Int32))) (S_Integer_IntegerCache_high : Sta Z Z.heap "java/lang/Integer$IntegerCache" "high" "I" (.int (127 : Int32))) (S_Integer_IntegerCache_cache : Sta Z Z.heap "java/lang/Integer$IntegerCache" "cache" "[Ljava/lang/Integer;" (.ref ca)) (OV_ca : Arv Z Z.heap ca kc (.object "java/lang/Integer") (256 : Int32) vc .null) (hall : ∀ i : Nat, i < 256 → ∃ y : Addr, vc.getD i .null = .ref y ∧ Exa Z Z.heap y "java/lang/Integer") :
    MetFree l x (head1 (Jvm.Cond.code x code maxLocals ret :: ws) room_1) (fun aa_ U => aa_ = #[(.int pa), (.int pb), (.int pm)] ∧ Z.Warmed39 U.vm ∧ U.heap = h0) (fun _ _ _ _ _ => True) (fun _ U o U' => ∃ v L, o = .returned v ∧ Q_law Z pa pb pm s_NONE ca kc vc h0 n0 v U'.heap L ∧ FrameEnd U o U' L room_1.cells room_1.slots) := by
  refine MetFree.of_bodySF (plainFor_of_name pn_CertificateFaultsEqualsPinLaw) hisR ?_
  intro p e s m args below meth c s₁ Bd hml0 hP hK
  obtain ⟨rfl, hZ, hh⟩ := hP
  have hx := Bd.exec
  have hby := Bd.bytes
  have hml : c.maxLocals = 12 := hml0
  have hown : s.vm.findClass "com/example/nonce/nonce/web/CertificateFaultsEqualsPinLaw" = some m.cls := findClass_of_methodNamed Bd.named
  have hnm := (name_of_methodNamed Bd.named Bd.method).1
  have X0 : Stand p l e room_1 s m #[(.int pa), (.int pb), (.int pm)] below meth c s₁ [] 0 0 := Stand.of_body Bd
  have e0 : s₁.heap = h0 := by rw [← hh, Bd.state]; rfl
  have N0 := Fr.nil n0
  have pre0 : ∀ t, Steps p.tables e below (s₁.setTop (mkF m 0 #[.val (.int pa), .val (.int pb), .val (.int pm), .unset, .unset, .unset, .unset, .unset, .unset, .unset, .unset, .unset] [])) t → Steps p.tables e below (s₁.setTop (entryFrame m #[(.int pa), (.int pb), (.int pm)] maxLocals)) t := fun t k => castTop (ef_law m pa pb pm) k
  have r0 : own_R p e below s₁ (mkF m 0 #[.val (.int pa), .val (.int pb), .val (.int pm), .unset, .unset, .unset, .unset, .unset, .unset, .unset, .unset, .unset] []) s₁ (mkF m 0 #[.val (.int pa), .val (.int pb), .val (.int pm), .unset, .unset, .unset, .unset, .unset, .unset, .unset, .unset, .unset] []) := own_R.refl
  have r1 : own_R p e below _ _ s₁ (mkF m 3 #[.val (.int pa), .val (.int pb), .val (.int pm), .unset, .unset, .unset, .unset, .unset, .unset, .unset, .unset, .unset] [(.int (pa &&& (1 : Int32)))]) := r0.trans fun z_ kt => by
    show own_S p e below s₁ (mkF m 0 #[.val (.int pa), .val (.int pb), .val (.int pm), .unset, .unset, .unset, .unset, .unset, .unset, .unset, .unset, .unset] []) _
    refine XS.iloadN X0.here hx rfl (hb hby at_0) rfl ?_
    show own_S p e below s₁ (mkF m 1 #[.val (.int pa), .val (.int pb), .val (.int pm), .unset, .unset, .unset, .unset, .unset, .unset, .unset, .unset, .unset] [(.int pa)]) _
    refine XS.iconst X0.here hx rfl (hb hby at_1) ?_
    show own_S p e below s₁ (mkF m 2 #[.val (.int pa), .val (.int pb), .val (.int pm), .unset, .unset, .unset, .unset, .unset, .unset, .unset, .unset, .unset] [(.int (1 : Int32)), (.int pa)]) _
    refine XS.iand X0.here hx rfl (hb hby at_2) rfl ?_
    exact kt
  obtain ⟨ea, h_ea, r2⟩ : ∃ ea : Int32, (ea = (0 : Int32) ∨ ea = (1 : Int32)) ∧ own_R p e below s₁ (mkF m 0 #[.val (.int pa), .val (.int pb), .val (.int pm), .unset, .unset, .unset, .unset, .unset, .unset, .unset, .unset, .unset] []) s₁ (mkF m 11 #[.val (.int pa), .val (.int pb), .val (.int pm), .unset, .unset, .unset, .unset, .unset, .unset, .unset, .unset, .unset] [(.int ea)]) := by
    by_cases hc3_3 : (pa &&& (1 : Int32)) = (0 : Int32)
    · skip
      have r4 : own_R p e below _ _ s₁ (mkF m 11 #[.val (.int pa), .val (.int pb), .val (.int pm), .unset, .unset, .unset, .unset, .unset, .unset, .unset, .unset, .unset] [(.int (0 : Int32))]) := r1.trans fun z_ kt => by
        show own_S p e below s₁ (mkF m 3 #[.val (.int pa), .val (.int pb), .val (.int pm), .unset, .unset, .unset, .unset, .unset, .unset, .unset, .unset, .unset] [(.int (pa &&& (1 : Int32)))]) _
        refine XS.ifYes X0.here hx rfl (pc0 := 3) (pc' := 10) rfl (hb hby at_3) rfl ((if0 _ _).trans (teq (hc3_3 : (pa &&& (1 : Int32)) = (0 : Int32))).1) (by decide) (by decide) ?_
        show own_S p e below s₁ (mkF m 10 #[.val (.int pa), .val (.int pb), .val (.int pm), .unset, .unset, .unset, .unset, .unset, .unset, .unset, .unset, .unset] []) _
        refine XS.iconst X0.here hx rfl (hb hby at_10) ?_
        exact kt
      exact ⟨(0 : Int32), Or.inl rfl, r4⟩
    · skip
      have r5 : own_R p e below _ _ s₁ (mkF m 11 #[.val (.int pa), .val (.int pb), .val (.int pm), .unset, .unset, .unset, .unset, .unset, .unset, .unset, .unset, .unset] [(.int (1 : Int32))]) := r1.trans fun z_ kt => by
        show own_S p e below s₁ (mkF m 3 #[.val (.int pa), .val (.int pb), .val (.int pm), .unset, .unset, .unset, .unset, .unset, .unset, .unset, .unset, .unset] [(.int (pa &&& (1 : Int32)))]) _
        refine XS.ifNo X0.here hx rfl (hb hby at_3) rfl ((if0 _ _).trans (feq (hc3_3 : ¬ ((pa &&& (1 : Int32)) = (0 : Int32)))).1) ?_
        show own_S p e below s₁ (mkF m 6 #[.val (.int pa), .val (.int pb), .val (.int pm), .unset, .unset, .unset, .unset, .unset, .unset, .unset, .unset, .unset] []) _
        refine XS.iconst X0.here hx rfl (hb hby at_6) ?_
        show own_S p e below s₁ (mkF m 7 #[.val (.int pa), .val (.int pb), .val (.int pm), .unset, .unset, .unset, .unset, .unset, .unset, .unset, .unset, .unset] [(.int (1 : Int32))]) _
        refine XS.goto X0.here hx rfl (pc0 := 7) (pc' := 11) rfl (hb hby at_7) (by decide) (by decide) ?_
        exact kt
      exact ⟨(1 : Int32), Or.inr rfl, r5⟩
  have r6 : own_R p e below _ _ s₁ (mkF m 15 #[.val (.int pa), .val (.int pb), .val (.int pm), .val (.int ea), .unset, .unset, .unset, .unset, .unset, .unset, .unset, .unset] [(.int (pa &&& (2 : Int32)))]) := r2.trans fun z_ kt => by
    show own_S p e below s₁ (mkF m 11 #[.val (.int pa), .val (.int pb), .val (.int pm), .unset, .unset, .unset, .unset, .unset, .unset, .unset, .unset, .unset] [(.int ea)]) _
    refine XS.istoreN X0.here hx rfl (hb hby at_11) rfl (l' := #[.val (.int pa), .val (.int pb), .val (.int pm), .val (.int ea), .unset, .unset, .unset, .unset, .unset, .unset, .unset, .unset]) rfl ?_
    show own_S p e below s₁ (mkF m 12 #[.val (.int pa), .val (.int pb), .val (.int pm), .val (.int ea), .unset, .unset, .unset, .unset, .unset, .unset, .unset, .unset] []) _
    refine XS.iloadN X0.here hx rfl (hb hby at_12) rfl ?_
    show own_S p e below s₁ (mkF m 13 #[.val (.int pa), .val (.int pb), .val (.int pm), .val (.int ea), .unset, .unset, .unset, .unset, .unset, .unset, .unset, .unset] [(.int pa)]) _
    refine XS.iconst X0.here hx rfl (hb hby at_13) ?_
    show own_S p e below s₁ (mkF m 14 #[.val (.int pa), .val (.int pb), .val (.int pm), .val (.int ea), .unset, .unset, .unset, .unset, .unset, .unset, .unset, .unset] [(.int (2 : Int32)), (.int pa)]) _
    refine XS.iand X0.here hx rfl (hb hby at_14) rfl ?_
    exact kt
  obtain ⟨ra, h_ra, r7⟩ : ∃ ra : Int32, (ra = (0 : Int32) ∨ ra = (1 : Int32)) ∧ own_R p e below s₁ (mkF m 0 #[.val (.int pa), .val (.int pb), .val (.int pm), .unset, .unset, .unset, .unset, .unset, .unset, .unset, .unset, .unset] []) s₁ (mkF m 23 #[.val (.int pa), .val (.int pb), .val (.int pm), .val (.int ea), .unset, .unset, .unset, .unset, .unset, .unset, .unset, .unset] [(.int ra)]) := by
    by_cases hc15_8 : (pa &&& (2 : Int32)) = (0 : Int32)
    · skip
      have r9 : own_R p e below _ _ s₁ (mkF m 23 #[.val (.int pa), .val (.int pb), .val (.int pm), .val (.int ea), .unset, .unset, .unset, .unset, .unset, .unset, .unset, .unset] [(.int (0 : Int32))]) := r6.trans fun z_ kt => by
        show own_S p e below s₁ (mkF m 15 #[.val (.int pa), .val (.int pb), .val (.int pm), .val (.int ea), .unset, .unset, .unset, .unset, .unset, .unset, .unset, .unset] [(.int (pa &&& (2 : Int32)))]) _
        refine XS.ifYes X0.here hx rfl (pc0 := 15) (pc' := 22) rfl (hb hby at_15) rfl ((if0 _ _).trans (teq (hc15_8 : (pa &&& (2 : Int32)) = (0 : Int32))).1) (by decide) (by decide) ?_
        show own_S p e below s₁ (mkF m 22 #[.val (.int pa), .val (.int pb), .val (.int pm), .val (.int ea), .unset, .unset, .unset, .unset, .unset, .unset, .unset, .unset] []) _
        refine XS.iconst X0.here hx rfl (hb hby at_22) ?_
        exact kt
      exact ⟨(0 : Int32), Or.inl rfl, r9⟩
    · skip
      have r10 : own_R p e below _ _ s₁ (mkF m 23 #[.val (.int pa), .val (.int pb), .val (.int pm), .val (.int ea), .unset, .unset, .unset, .unset, .unset, .unset, .unset, .unset] [(.int (1 : Int32))]) := r6.trans fun z_ kt => by
        show own_S p e below s₁ (mkF m 15 #[.val (.int pa), .val (.int pb), .val (.int pm), .val (.int ea), .unset, .unset, .unset, .unset, .unset, .unset, .unset, .unset] [(.int (pa &&& (2 : Int32)))]) _
        refine XS.ifNo X0.here hx rfl (hb hby at_15) rfl ((if0 _ _).trans (feq (hc15_8 : ¬ ((pa &&& (2 : Int32)) = (0 : Int32)))).1) ?_
        show own_S p e below s₁ (mkF m 18 #[.val (.int pa), .val (.int pb), .val (.int pm), .val (.int ea), .unset, .unset, .unset, .unset, .unset, .unset, .unset, .unset] []) _
        refine XS.iconst X0.here hx rfl (hb hby at_18) ?_
        show own_S p e below s₁ (mkF m 19 #[.val (.int pa), .val (.int pb), .val (.int pm), .val (.int ea), .unset, .unset, .unset, .unset, .unset, .unset, .unset, .unset] [(.int (1 : Int32))]) _
        refine XS.goto X0.here hx rfl (pc0 := 19) (pc' := 23) rfl (hb hby at_19) (by decide) (by decide) ?_
        exact kt
      exact ⟨(1 : Int32), Or.inr rfl, r10⟩
  have r11 : own_R p e below _ _ s₁ (mkF m 28 #[.val (.int pa), .val (.int pb), .val (.int pm), .val (.int ea), .val (.int ra), .unset, .unset, .unset, .unset, .unset, .unset, .unset] [(.int (pb &&& (1 : Int32)))]) := r7.trans fun z_ kt => by
    show own_S p e below s₁ (mkF m 23 #[.val (.int pa), .val (.int pb), .val (.int pm), .val (.int ea), .unset, .unset, .unset, .unset, .unset, .unset, .unset, .unset] [(.int ra)]) _
    refine XS.istore X0.here hx rfl (hb hby at_23) rfl (l' := #[.val (.int pa), .val (.int pb), .val (.int pm), .val (.int ea), .val (.int ra), .unset, .unset, .unset, .unset, .unset, .unset, .unset]) rfl ?_
    show own_S p e below s₁ (mkF m 25 #[.val (.int pa), .val (.int pb), .val (.int pm), .val (.int ea), .val (.int ra), .unset, .unset, .unset, .unset, .unset, .unset, .unset] []) _
    refine XS.iloadN X0.here hx rfl (hb hby at_25) rfl ?_
    show own_S p e below s₁ (mkF m 26 #[.val (.int pa), .val (.int pb), .val (.int pm), .val (.int ea), .val (.int ra), .unset, .unset, .unset, .unset, .unset, .unset, .unset] [(.int pb)]) _
    refine XS.iconst X0.here hx rfl (hb hby at_26) ?_
    show own_S p e below s₁ (mkF m 27 #[.val (.int pa), .val (.int pb), .val (.int pm), .val (.int ea), .val (.int ra), .unset, .unset, .unset, .unset, .unset, .unset, .unset] [(.int (1 : Int32)), (.int pb)]) _
    refine XS.iand X0.here hx rfl (hb hby at_27) rfl ?_
    exact kt
  obtain ⟨eb, h_eb, r12⟩ : ∃ eb : Int32, (eb = (0 : Int32) ∨ eb = (1 : Int32)) ∧ own_R p e below s₁ (mkF m 0 #[.val (.int pa), .val (.int pb), .val (.int pm), .unset, .unset, .unset, .unset, .unset, .unset, .unset, .unset, .unset] []) s₁ (mkF m 36 #[.val (.int pa), .val (.int pb), .val (.int pm), .val (.int ea), .val (.int ra), .unset, .unset, .unset, .unset, .unset, .unset, .unset] [(.int eb)]) := by
    by_cases hc28_13 : (pb &&& (1 : Int32)) = (0 : Int32)
    · skip
      have r14 : own_R p e below _ _ s₁ (mkF m 36 #[.val (.int pa), .val (.int pb), .val (.int pm), .val (.int ea), .val (.int ra), .unset, .unset, .unset, .unset, .unset, .unset, .unset] [(.int (0 : Int32))]) := r11.trans fun z_ kt => by
        show own_S p e below s₁ (mkF m 28 #[.val (.int pa), .val (.int pb), .val (.int pm), .val (.int ea), .val (.int ra), .unset, .unset, .unset, .unset, .unset, .unset, .unset] [(.int (pb &&& (1 : Int32)))]) _
        refine XS.ifYes X0.here hx rfl (pc0 := 28) (pc' := 35) rfl (hb hby at_28) rfl ((if0 _ _).trans (teq (hc28_13 : (pb &&& (1 : Int32)) = (0 : Int32))).1) (by decide) (by decide) ?_
        show own_S p e below s₁ (mkF m 35 #[.val (.int pa), .val (.int pb), .val (.int pm), .val (.int ea), .val (.int ra), .unset, .unset, .unset, .unset, .unset, .unset, .unset] []) _
        refine XS.iconst X0.here hx rfl (hb hby at_35) ?_
        exact kt
      exact ⟨(0 : Int32), Or.inl rfl, r14⟩
    · skip
      have r15 : own_R p e below _ _ s₁ (mkF m 36 #[.val (.int pa), .val (.int pb), .val (.int pm), .val (.int ea), .val (.int ra), .unset, .unset, .unset, .unset, .unset, .unset, .unset] [(.int (1 : Int32))]) := r11.trans fun z_ kt => by
        show own_S p e below s₁ (mkF m 28 #[.val (.int pa), .val (.int pb), .val (.int pm), .val (.int ea), .val (.int ra), .unset, .unset, .unset, .unset, .unset, .unset, .unset] [(.int (pb &&& (1 : Int32)))]) _
        refine XS.ifNo X0.here hx rfl (hb hby at_28) rfl ((if0 _ _).trans (feq (hc28_13 : ¬ ((pb &&& (1 : Int32)) = (0 : Int32)))).1) ?_
        show own_S p e below s₁ (mkF m 31 #[.val (.int pa), .val (.int pb), .val (.int pm), .val (.int ea), .val (.int ra), .unset, .unset, .unset, .unset, .unset, .unset, .unset] []) _
        refine XS.iconst X0.here hx rfl (hb hby at_31) ?_
        show own_S p e below s₁ (mkF m 32 #[.val (.int pa), .val (.int pb), .val (.int pm), .val (.int ea), .val (.int ra), .unset, .unset, .unset, .unset, .unset, .unset, .unset] [(.int (1 : Int32))]) _
        refine XS.goto X0.here hx rfl (pc0 := 32) (pc' := 36) rfl (hb hby at_32) (by decide) (by decide) ?_
        exact kt
      exact ⟨(1 : Int32), Or.inr rfl, r15⟩
  have r16 : own_R p e below _ _ s₁ (mkF m 41 #[.val (.int pa), .val (.int pb), .val (.int pm), .val (.int ea), .val (.int ra), .val (.int eb), .unset, .unset, .unset, .unset, .unset, .unset] [(.int (pb &&& (2 : Int32)))]) := r12.trans fun z_ kt => by
    show own_S p e below s₁ (mkF m 36 #[.val (.int pa), .val (.int pb), .val (.int pm), .val (.int ea), .val (.int ra), .unset, .unset, .unset, .unset, .unset, .unset, .unset] [(.int eb)]) _
    refine XS.istore X0.here hx rfl (hb hby at_36) rfl (l' := #[.val (.int pa), .val (.int pb), .val (.int pm), .val (.int ea), .val (.int ra), .val (.int eb), .unset, .unset, .unset, .unset, .unset, .unset]) rfl ?_
    show own_S p e below s₁ (mkF m 38 #[.val (.int pa), .val (.int pb), .val (.int pm), .val (.int ea), .val (.int ra), .val (.int eb), .unset, .unset, .unset, .unset, .unset, .unset] []) _
    refine XS.iloadN X0.here hx rfl (hb hby at_38) rfl ?_
    show own_S p e below s₁ (mkF m 39 #[.val (.int pa), .val (.int pb), .val (.int pm), .val (.int ea), .val (.int ra), .val (.int eb), .unset, .unset, .unset, .unset, .unset, .unset] [(.int pb)]) _
    refine XS.iconst X0.here hx rfl (hb hby at_39) ?_
    show own_S p e below s₁ (mkF m 40 #[.val (.int pa), .val (.int pb), .val (.int pm), .val (.int ea), .val (.int ra), .val (.int eb), .unset, .unset, .unset, .unset, .unset, .unset] [(.int (2 : Int32)), (.int pb)]) _
    refine XS.iand X0.here hx rfl (hb hby at_40) rfl ?_
    exact kt
  obtain ⟨rb, h_rb, r17⟩ : ∃ rb : Int32, (rb = (0 : Int32) ∨ rb = (1 : Int32)) ∧ own_R p e below s₁ (mkF m 0 #[.val (.int pa), .val (.int pb), .val (.int pm), .unset, .unset, .unset, .unset, .unset, .unset, .unset, .unset, .unset] []) s₁ (mkF m 49 #[.val (.int pa), .val (.int pb), .val (.int pm), .val (.int ea), .val (.int ra), .val (.int eb), .unset, .unset, .unset, .unset, .unset, .unset] [(.int rb)]) := by
    by_cases hc41_18 : (pb &&& (2 : Int32)) = (0 : Int32)
    · skip
      have r19 : own_R p e below _ _ s₁ (mkF m 49 #[.val (.int pa), .val (.int pb), .val (.int pm), .val (.int ea), .val (.int ra), .val (.int eb), .unset, .unset, .unset, .unset, .unset, .unset] [(.int (0 : Int32))]) := r16.trans fun z_ kt => by
        show own_S p e below s₁ (mkF m 41 #[.val (.int pa), .val (.int pb), .val (.int pm), .val (.int ea), .val (.int ra), .val (.int eb), .unset, .unset, .unset, .unset, .unset, .unset] [(.int (pb &&& (2 : Int32)))]) _
        refine XS.ifYes X0.here hx rfl (pc0 := 41) (pc' := 48) rfl (hb hby at_41) rfl ((if0 _ _).trans (teq (hc41_18 : (pb &&& (2 : Int32)) = (0 : Int32))).1) (by decide) (by decide) ?_
        show own_S p e below s₁ (mkF m 48 #[.val (.int pa), .val (.int pb), .val (.int pm), .val (.int ea), .val (.int ra), .val (.int eb), .unset, .unset, .unset, .unset, .unset, .unset] []) _
        refine XS.iconst X0.here hx rfl (hb hby at_48) ?_
        exact kt
      exact ⟨(0 : Int32), Or.inl rfl, r19⟩
    · skip
      have r20 : own_R p e below _ _ s₁ (mkF m 49 #[.val (.int pa), .val (.int pb), .val (.int pm), .val (.int ea), .val (.int ra), .val (.int eb), .unset, .unset, .unset, .unset, .unset, .unset] [(.int (1 : Int32))]) := r16.trans fun z_ kt => by
        show own_S p e below s₁ (mkF m 41 #[.val (.int pa), .val (.int pb), .val (.int pm), .val (.int ea), .val (.int ra), .val (.int eb), .unset, .unset, .unset, .unset, .unset, .unset] [(.int (pb &&& (2 : Int32)))]) _
        refine XS.ifNo X0.here hx rfl (hb hby at_41) rfl ((if0 _ _).trans (feq (hc41_18 : ¬ ((pb &&& (2 : Int32)) = (0 : Int32)))).1) ?_
        show own_S p e below s₁ (mkF m 44 #[.val (.int pa), .val (.int pb), .val (.int pm), .val (.int ea), .val (.int ra), .val (.int eb), .unset, .unset, .unset, .unset, .unset, .unset] []) _
        refine XS.iconst X0.here hx rfl (hb hby at_44) ?_
        show own_S p e below s₁ (mkF m 45 #[.val (.int pa), .val (.int pb), .val (.int pm), .val (.int ea), .val (.int ra), .val (.int eb), .unset, .unset, .unset, .unset, .unset, .unset] [(.int (1 : Int32))]) _
        refine XS.goto X0.here hx rfl (pc0 := 45) (pc' := 49) rfl (hb hby at_45) (by decide) (by decide) ?_
        exact kt
      exact ⟨(1 : Int32), Or.inr rfl, r20⟩
  have r21 : own_R p e below _ _ s₁ (mkF m 51 #[.val (.int pa), .val (.int pb), .val (.int pm), .val (.int ea), .val (.int ra), .val (.int eb), .val (.int rb), .unset, .unset, .unset, .unset, .unset] []) := r17.trans fun z_ kt => by
    show own_S p e below s₁ (mkF m 49 #[.val (.int pa), .val (.int pb), .val (.int pm), .val (.int ea), .val (.int ra), .val (.int eb), .unset, .unset, .unset, .unset, .unset, .unset] [(.int rb)]) _
    refine XS.istore X0.here hx rfl (hb hby at_49) rfl (l' := #[.val (.int pa), .val (.int pb), .val (.int pm), .val (.int ea), .val (.int ra), .val (.int eb), .val (.int rb), .unset, .unset, .unset, .unset, .unset]) rfl ?_
    exact kt
  obtain ⟨T22, h22, X22, e22, E22, A22, D22, -, st22⟩ := newO X0 hx hZ hown (hw _ (own_g (i := 0) rfl)) (hw _ (own_g (i := 1) rfl)) (hw _ (own_g (i := 2) rfl)) e0 (g := (mkF m 51 #[.val (.int pa), .val (.int pb), .val (.int pm), .val (.int ea), .val (.int ra), .val (.int eb), .val (.int rb), .unset, .unset, .unset, .unset, .unset] [])) rfl (hb hby at_51) (by decide) (by decide)
  obtain ⟨b22, g22⟩ : ∃ z, z = h0.size := ⟨_, rfl⟩
  rw [← g22] at A22 D22 st22
  have r22 : own_R p e below _ _ T22 (mkF m 54 #[.val (.int pa), .val (.int pb), .val (.int pm), .val (.int ea), .val (.int ra), .val (.int eb), .val (.int rb), .unset, .unset, .unset, .unset, .unset] [(.ref b22)]) := r21.trans fun z_ kt => st22 _ kt
  have g_b22 : n0 ≤ b22 := Nat.le_trans (own_old_size O0) (Nat.le_of_eq g22.symm)
  have O22 := O0.ext E22
  have F22_10 := D22 (Or.inr (hw _ (own_g (i := 10) rfl))) (ty := .boolean) (by decide)
  have F22_12 := D22 (Or.inr (hw _ (own_g (i := 12) rfl))) (ty := .boolean) (by decide)
  have r23 : own_R p e below _ _ T22 (mkF m 58 #[.val (.int pa), .val (.int pb), .val (.int pm), .val (.int ea), .val (.int ra), .val (.int eb), .val (.int rb), .unset, .unset, .unset, .unset, .unset] [(.int ra), (.int ea), (.ref b22), (.ref b22)]) := r22.trans fun z_ kt => by
    show own_S p e below T22 (mkF m 54 #[.val (.int pa), .val (.int pb), .val (.int pm), .val (.int ea), .val (.int ra), .val (.int eb), .val (.int rb), .unset, .unset, .unset, .unset, .unset] [(.ref b22)]) _
    refine XS.dup X22.here hx rfl (hb hby at_54) rfl rfl ?_
    show own_S p e below T22 (mkF m 55 #[.val (.int pa), .val (.int pb), .val (.int pm), .val (.int ea), .val (.int ra), .val (.int eb), .val (.int rb), .unset, .unset, .unset, .unset, .unset] [(.ref b22), (.ref b22)]) _
    refine XS.iloadN X22.here hx rfl (hb hby at_55) rfl ?_
    show own_S p e below T22 (mkF m 56 #[.val (.int pa), .val (.int pb), .val (.int pm), .val (.int ea), .val (.int ra), .val (.int eb), .val (.int rb), .unset, .unset, .unset, .unset, .unset] [(.int ea), (.ref b22), (.ref b22)]) _
    refine XS.iload X22.here hx rfl (hb hby at_56) rfl ?_
    exact kt
  obtain ⟨_, _, ⟨T24, L24, cc24, n24⟩, -, X24, ⟨Lc24, hQ24, l24, y24, z24⟩, st24⟩ := X22.specialBack hx (y := (⟨"com/example/nonce/nonce/web/CertificateFaults", "<init>", "(ZZ)V"⟩ : MethodName)) rfl hown (mvT hZ (hw _ (own_g (i := 3) rfl))) (mvT hZ (hw _ (own_g (i := 4) rfl))) (mvT hZ (hw _ (own_g (i := 5) rfl))) (by decide) (backOf (W := 1) (rm_cfInit l Z a0 hw [] (b22) (ea) (ra) ((.int (0 : Int32))) ((.int (0 : Int32))) h22 n0 O22 (A22) (F22_10) (F22_12) (g_b22) (h_ea) (h_ra)) hZ (hw _ (own_g (i := 5) rfl)) (hw _ (own_g (i := 2) rfl)) (by decide) (by decide)) (g := (mkF m 58 #[.val (.int pa), .val (.int pb), .val (.int pm), .val (.int ea), .val (.int ra), .val (.int eb), .val (.int rb), .unset, .unset, .unset, .unset, .unset] [(.int ra), (.int ea), (.ref b22), (.ref b22)])) rfl (by rw [hml]; rfl) (Steps.refl _) (a := b22) (argsL := [(.int ea), (.int ra)]) (rest := [(.ref b22)]) (lenOf pd_2 rfl) rfl (by show 2 * 0 + _ ≤ _; exact Nat.le_of_eq rfl) (hb hby at_58) (fun _ _ => ⟨rfl, e22, (by decide : 1 + 0 ≤ _), (by decide : 2 + 0 ≤ _)⟩)
  dsimp only [Pt.U, Pt.locs, Pt.cells, Pt.slots] at X24 l24 y24 z24 st24 hQ24
  subst l24 y24 z24
  obtain ⟨h24, e24⟩ : ∃ z, T24.heap = z := ⟨_, rfl⟩
  rw [e24] at hQ24
  obtain ⟨rfl, Nq24, Kq24, p24_0, p24_1⟩ := hQ24
  have N24 := Fr.app N0 Nq24
  have r24 : own_R p e below _ _ T24 (mkF m 61 #[.val (.int pa), .val (.int pb), .val (.int pm), .val (.int ea), .val (.int ra), .val (.int eb), .val (.int rb), .unset, .unset, .unset, .unset, .unset] [(.ref b22)]) := r23.trans fun z_ kt => st24.trans kt
  have O24 := O22.keep Kq24 (allS g_b22 all0)
  have r25 : own_R p e below _ _ T24 (mkF m 63 #[.val (.int pa), .val (.int pb), .val (.int pm), .val (.int ea), .val (.int ra), .val (.int eb), .val (.int rb), .val (.ref b22), .unset, .unset, .unset, .unset] []) := r24.trans fun z_ kt => by
    show own_S p e below T24 (mkF m 61 #[.val (.int pa), .val (.int pb), .val (.int pm), .val (.int ea), .val (.int ra), .val (.int eb), .val (.int rb), .unset, .unset, .unset, .unset, .unset] [(.ref b22)]) _
    refine XS.astore X24.here hx rfl (hb hby at_61) rfl rfl (l' := #[.val (.int pa), .val (.int pb), .val (.int pm), .val (.int ea), .val (.int ra), .val (.int eb), .val (.int rb), .val (.ref b22), .unset, .unset, .unset, .unset]) rfl ?_
    exact kt
  obtain ⟨T26, h26, X26, e26, E26, A26, D26, -, st26⟩ := newO X24 hx hZ hown (hw _ (own_g (i := 0) rfl)) (hw _ (own_g (i := 1) rfl)) (hw _ (own_g (i := 2) rfl)) e24 (g := (mkF m 63 #[.val (.int pa), .val (.int pb), .val (.int pm), .val (.int ea), .val (.int ra), .val (.int eb), .val (.int rb), .val (.ref b22), .unset, .unset, .unset, .unset] [])) rfl (hb hby at_63) (by decide) (by decide)
  obtain ⟨b26, g26⟩ : ∃ z, z = h24.size := ⟨_, rfl⟩
  rw [← g26] at A26 D26 st26
  have r26 : own_R p e below _ _ T26 (mkF m 66 #[.val (.int pa), .val (.int pb), .val (.int pm), .val (.int ea), .val (.int ra), .val (.int eb), .val (.int rb), .val (.ref b22), .unset, .unset, .unset, .unset] [(.ref b26)]) := r25.trans fun z_ kt => st26 _ kt
  have f27 := (A22.keep Kq24)
  have ne_b22_b26 : b22 ≠ b26 := Nat.ne_of_lt (Nat.lt_of_lt_of_le f27.lt (Nat.le_of_eq g26.symm))
  have g_b26 : n0 ≤ b26 := Nat.le_trans (own_old_size O24) (Nat.le_of_eq g26.symm)
  have O26 := O24.ext E26
  have F26_10 := D26 (Or.inr (hw _ (own_g (i := 10) rfl))) (ty := .boolean) (by decide)
  have F26_12 := D26 (Or.inr (hw _ (own_g (i := 12) rfl))) (ty := .boolean) (by decide)
  have r28 : own_R p e below _ _ T26 (mkF m 71 #[.val (.int pa), .val (.int pb), .val (.int pm), .val (.int ea), .val (.int ra), .val (.int eb), .val (.int rb), .val (.ref b22), .unset, .unset, .unset, .unset] [(.int rb), (.int eb), (.ref b26), (.ref b26)]) := r26.trans fun z_ kt => by
    show own_S p e below T26 (mkF m 66 #[.val (.int pa), .val (.int pb), .val (.int pm), .val (.int ea), .val (.int ra), .val (.int eb), .val (.int rb), .val (.ref b22), .unset, .unset, .unset, .unset] [(.ref b26)]) _
    refine XS.dup X26.here hx rfl (hb hby at_66) rfl rfl ?_
    show own_S p e below T26 (mkF m 67 #[.val (.int pa), .val (.int pb), .val (.int pm), .val (.int ea), .val (.int ra), .val (.int eb), .val (.int rb), .val (.ref b22), .unset, .unset, .unset, .unset] [(.ref b26), (.ref b26)]) _
    refine XS.iload X26.here hx rfl (hb hby at_67) rfl ?_
    show own_S p e below T26 (mkF m 69 #[.val (.int pa), .val (.int pb), .val (.int pm), .val (.int ea), .val (.int ra), .val (.int eb), .val (.int rb), .val (.ref b22), .unset, .unset, .unset, .unset] [(.int eb), (.ref b26), (.ref b26)]) _
    refine XS.iload X26.here hx rfl (hb hby at_69) rfl ?_
    exact kt
  obtain ⟨_, _, ⟨T29, L29, cc29, n29⟩, -, X29, ⟨Lc29, hQ29, l29, y29, z29⟩, st29⟩ := X26.specialBack hx (y := (⟨"com/example/nonce/nonce/web/CertificateFaults", "<init>", "(ZZ)V"⟩ : MethodName)) rfl hown (mvT hZ (hw _ (own_g (i := 3) rfl))) (mvT hZ (hw _ (own_g (i := 4) rfl))) (mvT hZ (hw _ (own_g (i := 5) rfl))) (by decide) (backOf (W := 1) (rm_cfInit l Z a0 hw [] (b26) (eb) (rb) ((.int (0 : Int32))) ((.int (0 : Int32))) h26 n0 O26 (A26) (F26_10) (F26_12) (g_b26) (h_eb) (h_rb)) hZ (hw _ (own_g (i := 5) rfl)) (hw _ (own_g (i := 2) rfl)) (by decide) (by decide)) (g := (mkF m 71 #[.val (.int pa), .val (.int pb), .val (.int pm), .val (.int ea), .val (.int ra), .val (.int eb), .val (.int rb), .val (.ref b22), .unset, .unset, .unset, .unset] [(.int rb), (.int eb), (.ref b26), (.ref b26)])) rfl (by rw [hml]; rfl) (Steps.refl _) (a := b26) (argsL := [(.int eb), (.int rb)]) (rest := [(.ref b26)]) (lenOf pd_2 rfl) rfl (by show 2 * 0 + _ ≤ _; exact Nat.le_of_eq rfl) (hb hby at_71) (fun _ _ => ⟨rfl, e26, (by decide : 2 + 0 ≤ _), (by decide : 4 + 0 ≤ _)⟩)
  dsimp only [Pt.U, Pt.locs, Pt.cells, Pt.slots] at X29 l29 y29 z29 st29 hQ29
  subst l29 y29 z29
  obtain ⟨h29, e29⟩ : ∃ z, T29.heap = z := ⟨_, rfl⟩
  rw [e29] at hQ29
  obtain ⟨rfl, Nq29, Kq29, p29_0, p29_1⟩ := hQ29
  have N29 := Fr.app N24 Nq29
  have r29 : own_R p e below _ _ T29 (mkF m 74 #[.val (.int pa), .val (.int pb), .val (.int pm), .val (.int ea), .val (.int ra), .val (.int eb), .val (.int rb), .val (.ref b22), .unset, .unset, .unset, .unset] [(.ref b26)]) := r28.trans fun z_ kt => st29.trans kt
  have O29 := O26.keep Kq29 (allS g_b26 all0)
  have r30 : own_R p e below _ _ T29 (mkF m 84 #[.val (.int pa), .val (.int pb), .val (.int pm), .val (.int ea), .val (.int ra), .val (.int eb), .val (.int rb), .val (.ref b22), .val (.ref b26), .val (.int ((pm &&& (2147483647 : Int32)) % (5 : Int32))), .unset, .unset] []) := r29.trans fun z_ kt => by
    show own_S p e below T29 (mkF m 74 #[.val (.int pa), .val (.int pb), .val (.int pm), .val (.int ea), .val (.int ra), .val (.int eb), .val (.int rb), .val (.ref b22), .unset, .unset, .unset, .unset] [(.ref b26)]) _
    refine XS.astore X29.here hx rfl (hb hby at_74) rfl rfl (l' := #[.val (.int pa), .val (.int pb), .val (.int pm), .val (.int ea), .val (.int ra), .val (.int eb), .val (.int rb), .val (.ref b22), .val (.ref b26), .unset, .unset, .unset]) rfl ?_
    show own_S p e below T29 (mkF m 76 #[.val (.int pa), .val (.int pb), .val (.int pm), .val (.int ea), .val (.int ra), .val (.int eb), .val (.int rb), .val (.ref b22), .val (.ref b26), .unset, .unset, .unset] []) _
    refine XS.iloadN X29.here hx rfl (hb hby at_76) rfl ?_
    show own_S p e below T29 (mkF m 77 #[.val (.int pa), .val (.int pb), .val (.int pm), .val (.int ea), .val (.int ra), .val (.int eb), .val (.int rb), .val (.ref b22), .val (.ref b26), .unset, .unset, .unset] [(.int pm)]) _
    refine X29.ldcInt hx hown (mvT hZ (hw _ (own_g (i := 13) rfl))) (g := (mkF m 77 #[.val (.int pa), .val (.int pb), .val (.int pm), .val (.int ea), .val (.int ra), .val (.int eb), .val (.int rb), .val (.ref b22), .val (.ref b26), .unset, .unset, .unset] [(.int pm)])) rfl (hb hby at_77) _ ?_
    show own_S p e below T29 (mkF m 79 #[.val (.int pa), .val (.int pb), .val (.int pm), .val (.int ea), .val (.int ra), .val (.int eb), .val (.int rb), .val (.ref b22), .val (.ref b26), .unset, .unset, .unset] [(.int (2147483647 : Int32)), (.int pm)]) _
    refine XS.iand X29.here hx rfl (hb hby at_79) rfl ?_
    show own_S p e below T29 (mkF m 80 #[.val (.int pa), .val (.int pb), .val (.int pm), .val (.int ea), .val (.int ra), .val (.int eb), .val (.int rb), .val (.ref b22), .val (.ref b26), .unset, .unset, .unset] [(.int (pm &&& (2147483647 : Int32)))]) _
    refine XS.iconst X29.here hx rfl (hb hby at_80) ?_
    show own_S p e below T29 (mkF m 81 #[.val (.int pa), .val (.int pb), .val (.int pm), .val (.int ea), .val (.int ra), .val (.int eb), .val (.int rb), .val (.ref b22), .val (.ref b26), .unset, .unset, .unset] [(.int (5 : Int32)), (.int (pm &&& (2147483647 : Int32)))]) _
    refine iremM X29 hx rfl (hb hby at_81) rfl (by decide) ?_
    show own_S p e below T29 (mkF m 82 #[.val (.int pa), .val (.int pb), .val (.int pm), .val (.int ea), .val (.int ra), .val (.int eb), .val (.int rb), .val (.ref b22), .val (.ref b26), .unset, .unset, .unset] [(.int ((pm &&& (2147483647 : Int32)) % (5 : Int32)))]) _
    refine XS.istore X29.here hx rfl (hb hby at_82) rfl (l' := #[.val (.int pa), .val (.int pb), .val (.int pm), .val (.int ea), .val (.int ra), .val (.int eb), .val (.int rb), .val (.ref b22), .val (.ref b26), .val (.int ((pm &&& (2147483647 : Int32)) % (5 : Int32))), .unset, .unset]) rfl ?_
    exact kt
  obtain ⟨k, h_k⟩ : ∃ z, z = ((pm &&& (2147483647 : Int32)) % (5 : Int32)) := ⟨_, rfl⟩
  rw [← h_k] at r30
  rcases own_split h_k with rfl | rfl | rfl | rfl | rfl
  · skip
    have r31 : own_R p e below _ _ T29 (mkF m 96 #[.val (.int pa), .val (.int pb), .val (.int pm), .val (.int ea), .val (.int ra), .val (.int eb), .val (.int rb), .val (.ref b22), .val (.ref b26), .val (.int (0 : Int32)), .val (.ref b26), .unset] [(.int eb), (.int ea)]) := r30.trans fun z_ kt => by
      show own_S p e below T29 (mkF m 84 #[.val (.int pa), .val (.int pb), .val (.int pm), .val (.int ea), .val (.int ra), .val (.int eb), .val (.int rb), .val (.ref b22), .val (.ref b26), .val (.int (0 : Int32)), .unset, .unset] []) _
      refine XS.iload X29.here hx rfl (hb hby at_84) rfl ?_
      show own_S p e below T29 (mkF m 86 #[.val (.int pa), .val (.int pb), .val (.int pm), .val (.int ea), .val (.int ra), .val (.int eb), .val (.int rb), .val (.ref b22), .val (.ref b26), .val (.int (0 : Int32)), .unset, .unset] [(.int (0 : Int32))]) _
      refine XS.ifNo X29.here hx rfl (hb hby at_86) rfl ((if0 _ _).trans (teq (by decide : (0 : Int32) = (0 : Int32))).2) ?_
      show own_S p e below T29 (mkF m 89 #[.val (.int pa), .val (.int pb), .val (.int pm), .val (.int ea), .val (.int ra), .val (.int eb), .val (.int rb), .val (.ref b22), .val (.ref b26), .val (.int (0 : Int32)), .unset, .unset] []) _
      refine XS.aload X29.here hx rfl (hb hby at_89) rfl rfl ?_
      show own_S p e below T29 (mkF m 91 #[.val (.int pa), .val (.int pb), .val (.int pm), .val (.int ea), .val (.int ra), .val (.int eb), .val (.int rb), .val (.ref b22), .val (.ref b26), .val (.int (0 : Int32)), .unset, .unset] [(.ref b26)]) _
      refine XS.astore X29.here hx rfl (hb hby at_91) rfl rfl (l' := #[.val (.int pa), .val (.int pb), .val (.int pm), .val (.int ea), .val (.int ra), .val (.int eb), .val (.int rb), .val (.ref b22), .val (.ref b26), .val (.int (0 : Int32)), .val (.ref b26), .unset]) rfl ?_
      show own_S p e below T29 (mkF m 93 #[.val (.int pa), .val (.int pb), .val (.int pm), .val (.int ea), .val (.int ra), .val (.int eb), .val (.int rb), .val (.ref b22), .val (.ref b26), .val (.int (0 : Int32)), .val (.ref b26), .unset] []) _
      refine XS.iloadN X29.here hx rfl (hb hby at_93) rfl ?_
      show own_S p e below T29 (mkF m 94 #[.val (.int pa), .val (.int pb), .val (.int pm), .val (.int ea), .val (.int ra), .val (.int eb), .val (.int rb), .val (.ref b22), .val (.ref b26), .val (.int (0 : Int32)), .val (.ref b26), .unset] [(.int ea)]) _
      refine XS.iload X29.here hx rfl (hb hby at_94) rfl ?_
      exact kt
    by_cases hc96_32 : ea = eb
    · skip
      have r33 : own_R p e below _ _ T29 (mkF m 103 #[.val (.int pa), .val (.int pb), .val (.int pm), .val (.int ea), .val (.int ra), .val (.int eb), .val (.int rb), .val (.ref b22), .val (.ref b26), .val (.int (0 : Int32)), .val (.ref b26), .unset] [(.int rb), (.int ra)]) := r31.trans fun z_ kt => by
        show own_S p e below T29 (mkF m 96 #[.val (.int pa), .val (.int pb), .val (.int pm), .val (.int ea), .val (.int ra), .val (.int eb), .val (.int rb), .val (.ref b22), .val (.ref b26), .val (.int (0 : Int32)), .val (.ref b26), .unset] [(.int eb), (.int ea)]) _
        refine XS.icmpNo X29.here hx rfl (hb hby at_96) rfl (teq (hc96_32 : ea = eb)).2 ?_
        show own_S p e below T29 (mkF m 99 #[.val (.int pa), .val (.int pb), .val (.int pm), .val (.int ea), .val (.int ra), .val (.int eb), .val (.int rb), .val (.ref b22), .val (.ref b26), .val (.int (0 : Int32)), .val (.ref b26), .unset] []) _
        refine XS.iload X29.here hx rfl (hb hby at_99) rfl ?_
        show own_S p e below T29 (mkF m 101 #[.val (.int pa), .val (.int pb), .val (.int pm), .val (.int ea), .val (.int ra), .val (.int eb), .val (.int rb), .val (.ref b22), .val (.ref b26), .val (.int (0 : Int32)), .val (.ref b26), .unset] [(.int ra)]) _
        refine XS.iload X29.here hx rfl (hb hby at_101) rfl ?_
        exact kt
      by_cases hc103_34 : ra = rb
      · skip
        have f35 := ((f27.ext E26).keep Kq29)
        have r36 : own_R p e below _ _ T29 (mkF m 190 #[.val (.int pa), .val (.int pb), .val (.int pm), .val (.int ea), .val (.int ra), .val (.int eb), .val (.int rb), .val (.ref b22), .val (.ref b26), .val (.int (0 : Int32)), .val (.ref b26), .val (.int (1 : Int32))] [(.ref b26), (.ref b22)]) := r33.trans fun z_ kt => by
          show own_S p e below T29 (mkF m 103 #[.val (.int pa), .val (.int pb), .val (.int pm), .val (.int ea), .val (.int ra), .val (.int eb), .val (.int rb), .val (.ref b22), .val (.ref b26), .val (.int (0 : Int32)), .val (.ref b26), .unset] [(.int rb), (.int ra)]) _
          refine XS.icmpNo X29.here hx rfl (hb hby at_103) rfl (teq (hc103_34 : ra = rb)).2 ?_
          show own_S p e below T29 (mkF m 106 #[.val (.int pa), .val (.int pb), .val (.int pm), .val (.int ea), .val (.int ra), .val (.int eb), .val (.int rb), .val (.ref b22), .val (.ref b26), .val (.int (0 : Int32)), .val (.ref b26), .unset] []) _
          refine XS.iconst X29.here hx rfl (hb hby at_106) ?_
          show own_S p e below T29 (mkF m 107 #[.val (.int pa), .val (.int pb), .val (.int pm), .val (.int ea), .val (.int ra), .val (.int eb), .val (.int rb), .val (.ref b22), .val (.ref b26), .val (.int (0 : Int32)), .val (.ref b26), .unset] [(.int (1 : Int32))]) _
          refine XS.goto X29.here hx rfl (pc0 := 107) (pc' := 111) rfl (hb hby at_107) (by decide) (by decide) ?_
          show own_S p e below T29 (mkF m 111 #[.val (.int pa), .val (.int pb), .val (.int pm), .val (.int ea), .val (.int ra), .val (.int eb), .val (.int rb), .val (.ref b22), .val (.ref b26), .val (.int (0 : Int32)), .val (.ref b26), .unset] [(.int (1 : Int32))]) _
          refine XS.istore X29.here hx rfl (hb hby at_111) rfl (l' := #[.val (.int pa), .val (.int pb), .val (.int pm), .val (.int ea), .val (.int ra), .val (.int eb), .val (.int rb), .val (.ref b22), .val (.ref b26), .val (.int (0 : Int32)), .val (.ref b26), .val (.int (1 : Int32))]) rfl ?_
          show own_S p e below T29 (mkF m 113 #[.val (.int pa), .val (.int pb), .val (.int pm), .val (.int ea), .val (.int ra), .val (.int eb), .val (.int rb), .val (.ref b22), .val (.ref b26), .val (.int (0 : Int32)), .val (.ref b26), .val (.int (1 : Int32))] []) _
          refine XS.goto X29.here hx rfl (pc0 := 113) (pc' := 186) rfl (hb hby at_113) (by decide) (by decide) ?_
          show own_S p e below T29 (mkF m 186 #[.val (.int pa), .val (.int pb), .val (.int pm), .val (.int ea), .val (.int ra), .val (.int eb), .val (.int rb), .val (.ref b22), .val (.ref b26), .val (.int (0 : Int32)), .val (.ref b26), .val (.int (1 : Int32))] []) _
          refine XS.aload X29.here hx rfl (hb hby at_186) rfl rfl ?_
          show own_S p e below T29 (mkF m 188 #[.val (.int pa), .val (.int pb), .val (.int pm), .val (.int ea), .val (.int ra), .val (.int eb), .val (.int rb), .val (.ref b22), .val (.ref b26), .val (.int (0 : Int32)), .val (.ref b26), .val (.int (1 : Int32))] [(.ref b22)]) _
          refine XS.aload X29.here hx rfl (hb hby at_188) rfl rfl ?_
          exact kt
        have f37 := (A26.keep Kq29)
        have f38 := ((p24_0.ext E26).keep Kq29 (ninS ne_b22_b26 nin0))
        have f39 := ((p24_1.ext E26).keep Kq29 (ninS ne_b22_b26 nin0))
        obtain ⟨cq40, kq40, q40a, q40b, q40c⟩ := isOf hZ e29 f35
        obtain ⟨_, _, ⟨T40, L40, cc40, n40⟩, -, X40, ⟨Lc40, hQ40, l40, y40, z40⟩, st40⟩ := X29.virtualBack hx (y := (⟨"com/example/nonce/nonce/web/CertificateFaults", "equals", "(Ljava/lang/Object;)Z"⟩ : MethodName)) (z := (⟨"com/example/nonce/nonce/web/CertificateFaults", "equals", "(Ljava/lang/Object;)Z"⟩ : MethodName)) hown (mvT hZ (hw _ (own_g (i := 14) rfl))) (mvT hZ (hw _ (own_g (i := 15) rfl))) (notFace_of_selects (args := #[]) (mvT hZ (hw _ (own_g (i := 17) rfl)))) (mvT hZ (hw _ (own_g (i := 17) rfl))) (mvT hZ (hw _ (own_g (i := 16) rfl))) (by decide) (backOf (W := 0) (rm_eqObj l Z a0 hw [] (b22) (b26) (ea) (ra) (eb) (rb) ((1 : Int32)) h29 n0 O29 (f37) (ne_b22_b26) (f38) (f39) (p29_0) (p29_1) (Or.inl ⟨hc96_32, hc103_34, rfl⟩)) hZ (hw _ (own_g (i := 18) rfl)) (hw _ (own_g (i := 2) rfl)) (by decide) (by decide)) q40a q40c (g := (mkF m 190 #[.val (.int pa), .val (.int pb), .val (.int pm), .val (.int ea), .val (.int ra), .val (.int eb), .val (.int rb), .val (.ref b22), .val (.ref b26), .val (.int (0 : Int32)), .val (.ref b26), .val (.int (1 : Int32))] [(.ref b26), (.ref b22)])) rfl (by rw [hml]; rfl) (Steps.refl _) (argsL := [(.ref b26)]) (rest := []) (lenOf pd_3 rfl) rfl (by show 2 * 0 + _ ≤ _; exact Nat.le_of_eq rfl) (hb hby at_190) (fun _ _ => ⟨rfl, e29, (by decide : 2 + 0 ≤ _), (by decide : 4 + 0 ≤ _)⟩)
        dsimp only [Pt.U, Pt.locs, Pt.cells, Pt.slots] at X40 l40 y40 z40 st40 hQ40
        subst l40 y40 z40
        obtain ⟨rfl, Nq40, eq40⟩ := hQ40
        have N40 := Fr.app N29 Nq40
        have r40 : own_R p e below _ _ T40 (mkF m 193 #[.val (.int pa), .val (.int pb), .val (.int pm), .val (.int ea), .val (.int ra), .val (.int eb), .val (.int rb), .val (.ref b22), .val (.ref b26), .val (.int (0 : Int32)), .val (.ref b26), .val (.int (1 : Int32))] [(.int (1 : Int32))]) := r36.trans fun z_ kt => st40.trans kt
        have e40 : T40.heap = h29 := eq40
        have r41 : own_R p e below _ _ T40 (mkF m 203 #[.val (.int pa), .val (.int pb), .val (.int pm), .val (.int ea), .val (.int ra), .val (.int eb), .val (.int rb), .val (.ref b22), .val (.ref b26), .val (.int (0 : Int32)), .val (.ref b26), .val (.int (1 : Int32))] [(.int (1 : Int32))]) := r40.trans fun z_ kt => by
          show own_S p e below T40 (mkF m 193 #[.val (.int pa), .val (.int pb), .val (.int pm), .val (.int ea), .val (.int ra), .val (.int eb), .val (.int rb), .val (.ref b22), .val (.ref b26), .val (.int (0 : Int32)), .val (.ref b26), .val (.int (1 : Int32))] [(.int (1 : Int32))]) _
          refine XS.iload X40.here hx rfl (hb hby at_193) rfl ?_
          show own_S p e below T40 (mkF m 195 #[.val (.int pa), .val (.int pb), .val (.int pm), .val (.int ea), .val (.int ra), .val (.int eb), .val (.int rb), .val (.ref b22), .val (.ref b26), .val (.int (0 : Int32)), .val (.ref b26), .val (.int (1 : Int32))] [(.int (1 : Int32)), (.int (1 : Int32))]) _
          refine XS.icmpNo X40.here hx rfl (hb hby at_195) rfl (teq (by decide : (1 : Int32) = (1 : Int32))).2 ?_
          show own_S p e below T40 (mkF m 198 #[.val (.int pa), .val (.int pb), .val (.int pm), .val (.int ea), .val (.int ra), .val (.int eb), .val (.int rb), .val (.ref b22), .val (.ref b26), .val (.int (0 : Int32)), .val (.ref b26), .val (.int (1 : Int32))] []) _
          refine XS.iconst X40.here hx rfl (hb hby at_198) ?_
          show own_S p e below T40 (mkF m 199 #[.val (.int pa), .val (.int pb), .val (.int pm), .val (.int ea), .val (.int ra), .val (.int eb), .val (.int rb), .val (.ref b22), .val (.ref b26), .val (.int (0 : Int32)), .val (.ref b26), .val (.int (1 : Int32))] [(.int (1 : Int32))]) _
          refine XS.goto X40.here hx rfl (pc0 := 199) (pc' := 203) rfl (hb hby at_199) (by decide) (by decide) ?_
          exact kt
        obtain ⟨fs, hr, hrun, hended, hW, hsame⟩ := X40.leave (v := some (.int (1 : Int32))) (fun h => by rw [Bd.returns] at h; cases h)
        refine ⟨_, _, pre0 _ (r41 _ ?_), hrun, hended, _, _, rfl, ?_, ⟨_, rfl⟩, hW, hsame.mono (by decide) (by decide)⟩
        · exact retN X40 hx (t := .boolean) Bd.returns (by simp) (hb hby at_203) hr
        · show Q_law Z pa pb pm s_NONE ca kc vc h0 n0 _ T40.heap _
          rw [e40]
          exact ⟨rfl, N40⟩
      · skip
        have f42 := ((f27.ext E26).keep Kq29)
        have r43 : own_R p e below _ _ T29 (mkF m 190 #[.val (.int pa), .val (.int pb), .val (.int pm), .val (.int ea), .val (.int ra), .val (.int eb), .val (.int rb), .val (.ref b22), .val (.ref b26), .val (.int (0 : Int32)), .val (.ref b26), .val (.int (0 : Int32))] [(.ref b26), (.ref b22)]) := r33.trans fun z_ kt => by
          show own_S p e below T29 (mkF m 103 #[.val (.int pa), .val (.int pb), .val (.int pm), .val (.int ea), .val (.int ra), .val (.int eb), .val (.int rb), .val (.ref b22), .val (.ref b26), .val (.int (0 : Int32)), .val (.ref b26), .unset] [(.int rb), (.int ra)]) _
          refine XS.icmpYes X29.here hx rfl (pc0 := 103) (pc' := 110) rfl (hb hby at_103) rfl (feq (hc103_34 : ¬ (ra = rb))).2 (by decide) (by decide) ?_
          show own_S p e below T29 (mkF m 110 #[.val (.int pa), .val (.int pb), .val (.int pm), .val (.int ea), .val (.int ra), .val (.int eb), .val (.int rb), .val (.ref b22), .val (.ref b26), .val (.int (0 : Int32)), .val (.ref b26), .unset] []) _
          refine XS.iconst X29.here hx rfl (hb hby at_110) ?_
          show own_S p e below T29 (mkF m 111 #[.val (.int pa), .val (.int pb), .val (.int pm), .val (.int ea), .val (.int ra), .val (.int eb), .val (.int rb), .val (.ref b22), .val (.ref b26), .val (.int (0 : Int32)), .val (.ref b26), .unset] [(.int (0 : Int32))]) _
          refine XS.istore X29.here hx rfl (hb hby at_111) rfl (l' := #[.val (.int pa), .val (.int pb), .val (.int pm), .val (.int ea), .val (.int ra), .val (.int eb), .val (.int rb), .val (.ref b22), .val (.ref b26), .val (.int (0 : Int32)), .val (.ref b26), .val (.int (0 : Int32))]) rfl ?_
          show own_S p e below T29 (mkF m 113 #[.val (.int pa), .val (.int pb), .val (.int pm), .val (.int ea), .val (.int ra), .val (.int eb), .val (.int rb), .val (.ref b22), .val (.ref b26), .val (.int (0 : Int32)), .val (.ref b26), .val (.int (0 : Int32))] []) _
          refine XS.goto X29.here hx rfl (pc0 := 113) (pc' := 186) rfl (hb hby at_113) (by decide) (by decide) ?_
          show own_S p e below T29 (mkF m 186 #[.val (.int pa), .val (.int pb), .val (.int pm), .val (.int ea), .val (.int ra), .val (.int eb), .val (.int rb), .val (.ref b22), .val (.ref b26), .val (.int (0 : Int32)), .val (.ref b26), .val (.int (0 : Int32))] []) _
          refine XS.aload X29.here hx rfl (hb hby at_186) rfl rfl ?_
          show own_S p e below T29 (mkF m 188 #[.val (.int pa), .val (.int pb), .val (.int pm), .val (.int ea), .val (.int ra), .val (.int eb), .val (.int rb), .val (.ref b22), .val (.ref b26), .val (.int (0 : Int32)), .val (.ref b26), .val (.int (0 : Int32))] [(.ref b22)]) _
          refine XS.aload X29.here hx rfl (hb hby at_188) rfl rfl ?_
          exact kt
        have f44 := (A26.keep Kq29)
        have f45 := ((p24_0.ext E26).keep Kq29 (ninS ne_b22_b26 nin0))
        have f46 := ((p24_1.ext E26).keep Kq29 (ninS ne_b22_b26 nin0))
        obtain ⟨cq47, kq47, q47a, q47b, q47c⟩ := isOf hZ e29 f42
        obtain ⟨_, _, ⟨T47, L47, cc47, n47⟩, -, X47, ⟨Lc47, hQ47, l47, y47, z47⟩, st47⟩ := X29.virtualBack hx (y := (⟨"com/example/nonce/nonce/web/CertificateFaults", "equals", "(Ljava/lang/Object;)Z"⟩ : MethodName)) (z := (⟨"com/example/nonce/nonce/web/CertificateFaults", "equals", "(Ljava/lang/Object;)Z"⟩ : MethodName)) hown (mvT hZ (hw _ (own_g (i := 14) rfl))) (mvT hZ (hw _ (own_g (i := 15) rfl))) (notFace_of_selects (args := #[]) (mvT hZ (hw _ (own_g (i := 17) rfl)))) (mvT hZ (hw _ (own_g (i := 17) rfl))) (mvT hZ (hw _ (own_g (i := 16) rfl))) (by decide) (backOf (W := 0) (rm_eqObj l Z a0 hw [] (b22) (b26) (ea) (ra) (eb) (rb) ((0 : Int32)) h29 n0 O29 (f44) (ne_b22_b26) (f45) (f46) (p29_0) (p29_1) (Or.inr (Or.inl ⟨hc96_32, hc103_34, rfl⟩))) hZ (hw _ (own_g (i := 18) rfl)) (hw _ (own_g (i := 2) rfl)) (by decide) (by decide)) q47a q47c (g := (mkF m 190 #[.val (.int pa), .val (.int pb), .val (.int pm), .val (.int ea), .val (.int ra), .val (.int eb), .val (.int rb), .val (.ref b22), .val (.ref b26), .val (.int (0 : Int32)), .val (.ref b26), .val (.int (0 : Int32))] [(.ref b26), (.ref b22)])) rfl (by rw [hml]; rfl) (Steps.refl _) (argsL := [(.ref b26)]) (rest := []) (lenOf pd_3 rfl) rfl (by show 2 * 0 + _ ≤ _; exact Nat.le_of_eq rfl) (hb hby at_190) (fun _ _ => ⟨rfl, e29, (by decide : 2 + 0 ≤ _), (by decide : 4 + 0 ≤ _)⟩)
        dsimp only [Pt.U, Pt.locs, Pt.cells, Pt.slots] at X47 l47 y47 z47 st47 hQ47
        subst l47 y47 z47
        obtain ⟨rfl, Nq47, eq47⟩ := hQ47
        have N47 := Fr.app N29 Nq47
        have r47 : own_R p e below _ _ T47 (mkF m 193 #[.val (.int pa), .val (.int pb), .val (.int pm), .val (.int ea), .val (.int ra), .val (.int eb), .val (.int rb), .val (.ref b22), .val (.ref b26), .val (.int (0 : Int32)), .val (.ref b26), .val (.int (0 : Int32))] [(.int (0 : Int32))]) := r43.trans fun z_ kt => st47.trans kt
        have e47 : T47.heap = h29 := eq47
        have r48 : own_R p e below _ _ T47 (mkF m 203 #[.val (.int pa), .val (.int pb), .val (.int pm), .val (.int ea), .val (.int ra), .val (.int eb), .val (.int rb), .val (.ref b22), .val (.ref b26), .val (.int (0 : Int32)), .val (.ref b26), .val (.int (0 : Int32))] [(.int (1 : Int32))]) := r47.trans fun z_ kt => by
          show own_S p e below T47 (mkF m 193 #[.val (.int pa), .val (.int pb), .val (.int pm), .val (.int ea), .val (.int ra), .val (.int eb), .val (.int rb), .val (.ref b22), .val (.ref b26), .val (.int (0 : Int32)), .val (.ref b26), .val (.int (0 : Int32))] [(.int (0 : Int32))]) _
          refine XS.iload X47.here hx rfl (hb hby at_193) rfl ?_
          show own_S p e below T47 (mkF m 195 #[.val (.int pa), .val (.int pb), .val (.int pm), .val (.int ea), .val (.int ra), .val (.int eb), .val (.int rb), .val (.ref b22), .val (.ref b26), .val (.int (0 : Int32)), .val (.ref b26), .val (.int (0 : Int32))] [(.int (0 : Int32)), (.int (0 : Int32))]) _
          refine XS.icmpNo X47.here hx rfl (hb hby at_195) rfl (teq (by decide : (0 : Int32) = (0 : Int32))).2 ?_
          show own_S p e below T47 (mkF m 198 #[.val (.int pa), .val (.int pb), .val (.int pm), .val (.int ea), .val (.int ra), .val (.int eb), .val (.int rb), .val (.ref b22), .val (.ref b26), .val (.int (0 : Int32)), .val (.ref b26), .val (.int (0 : Int32))] []) _
          refine XS.iconst X47.here hx rfl (hb hby at_198) ?_
          show own_S p e below T47 (mkF m 199 #[.val (.int pa), .val (.int pb), .val (.int pm), .val (.int ea), .val (.int ra), .val (.int eb), .val (.int rb), .val (.ref b22), .val (.ref b26), .val (.int (0 : Int32)), .val (.ref b26), .val (.int (0 : Int32))] [(.int (1 : Int32))]) _
          refine XS.goto X47.here hx rfl (pc0 := 199) (pc' := 203) rfl (hb hby at_199) (by decide) (by decide) ?_
          exact kt
        obtain ⟨fs, hr, hrun, hended, hW, hsame⟩ := X47.leave (v := some (.int (1 : Int32))) (fun h => by rw [Bd.returns] at h; cases h)
        refine ⟨_, _, pre0 _ (r48 _ ?_), hrun, hended, _, _, rfl, ?_, ⟨_, rfl⟩, hW, hsame.mono (by decide) (by decide)⟩
        · exact retN X47 hx (t := .boolean) Bd.returns (by simp) (hb hby at_203) hr
        · show Q_law Z pa pb pm s_NONE ca kc vc h0 n0 _ T47.heap _
          rw [e47]
          exact ⟨rfl, N47⟩
    · skip
      have f49 := ((f27.ext E26).keep Kq29)
      have r50 : own_R p e below _ _ T29 (mkF m 190 #[.val (.int pa), .val (.int pb), .val (.int pm), .val (.int ea), .val (.int ra), .val (.int eb), .val (.int rb), .val (.ref b22), .val (.ref b26), .val (.int (0 : Int32)), .val (.ref b26), .val (.int (0 : Int32))] [(.ref b26), (.ref b22)]) := r31.trans fun z_ kt => by
        show own_S p e below T29 (mkF m 96 #[.val (.int pa), .val (.int pb), .val (.int pm), .val (.int ea), .val (.int ra), .val (.int eb), .val (.int rb), .val (.ref b22), .val (.ref b26), .val (.int (0 : Int32)), .val (.ref b26), .unset] [(.int eb), (.int ea)]) _
        refine XS.icmpYes X29.here hx rfl (pc0 := 96) (pc' := 110) rfl (hb hby at_96) rfl (feq (hc96_32 : ¬ (ea = eb))).2 (by decide) (by decide) ?_
        show own_S p e below T29 (mkF m 110 #[.val (.int pa), .val (.int pb), .val (.int pm), .val (.int ea), .val (.int ra), .val (.int eb), .val (.int rb), .val (.ref b22), .val (.ref b26), .val (.int (0 : Int32)), .val (.ref b26), .unset] []) _
        refine XS.iconst X29.here hx rfl (hb hby at_110) ?_
        show own_S p e below T29 (mkF m 111 #[.val (.int pa), .val (.int pb), .val (.int pm), .val (.int ea), .val (.int ra), .val (.int eb), .val (.int rb), .val (.ref b22), .val (.ref b26), .val (.int (0 : Int32)), .val (.ref b26), .unset] [(.int (0 : Int32))]) _
        refine XS.istore X29.here hx rfl (hb hby at_111) rfl (l' := #[.val (.int pa), .val (.int pb), .val (.int pm), .val (.int ea), .val (.int ra), .val (.int eb), .val (.int rb), .val (.ref b22), .val (.ref b26), .val (.int (0 : Int32)), .val (.ref b26), .val (.int (0 : Int32))]) rfl ?_
        show own_S p e below T29 (mkF m 113 #[.val (.int pa), .val (.int pb), .val (.int pm), .val (.int ea), .val (.int ra), .val (.int eb), .val (.int rb), .val (.ref b22), .val (.ref b26), .val (.int (0 : Int32)), .val (.ref b26), .val (.int (0 : Int32))] []) _
        refine XS.goto X29.here hx rfl (pc0 := 113) (pc' := 186) rfl (hb hby at_113) (by decide) (by decide) ?_
        show own_S p e below T29 (mkF m 186 #[.val (.int pa), .val (.int pb), .val (.int pm), .val (.int ea), .val (.int ra), .val (.int eb), .val (.int rb), .val (.ref b22), .val (.ref b26), .val (.int (0 : Int32)), .val (.ref b26), .val (.int (0 : Int32))] []) _
        refine XS.aload X29.here hx rfl (hb hby at_186) rfl rfl ?_
        show own_S p e below T29 (mkF m 188 #[.val (.int pa), .val (.int pb), .val (.int pm), .val (.int ea), .val (.int ra), .val (.int eb), .val (.int rb), .val (.ref b22), .val (.ref b26), .val (.int (0 : Int32)), .val (.ref b26), .val (.int (0 : Int32))] [(.ref b22)]) _
        refine XS.aload X29.here hx rfl (hb hby at_188) rfl rfl ?_
        exact kt
      have f51 := (A26.keep Kq29)
      have f52 := ((p24_0.ext E26).keep Kq29 (ninS ne_b22_b26 nin0))
      have f53 := ((p24_1.ext E26).keep Kq29 (ninS ne_b22_b26 nin0))
      obtain ⟨cq54, kq54, q54a, q54b, q54c⟩ := isOf hZ e29 f49
      obtain ⟨_, _, ⟨T54, L54, cc54, n54⟩, -, X54, ⟨Lc54, hQ54, l54, y54, z54⟩, st54⟩ := X29.virtualBack hx (y := (⟨"com/example/nonce/nonce/web/CertificateFaults", "equals", "(Ljava/lang/Object;)Z"⟩ : MethodName)) (z := (⟨"com/example/nonce/nonce/web/CertificateFaults", "equals", "(Ljava/lang/Object;)Z"⟩ : MethodName)) hown (mvT hZ (hw _ (own_g (i := 14) rfl))) (mvT hZ (hw _ (own_g (i := 15) rfl))) (notFace_of_selects (args := #[]) (mvT hZ (hw _ (own_g (i := 17) rfl)))) (mvT hZ (hw _ (own_g (i := 17) rfl))) (mvT hZ (hw _ (own_g (i := 16) rfl))) (by decide) (backOf (W := 0) (rm_eqObj l Z a0 hw [] (b22) (b26) (ea) (ra) (eb) (rb) ((0 : Int32)) h29 n0 O29 (f51) (ne_b22_b26) (f52) (f53) (p29_0) (p29_1) (Or.inr (Or.inr ⟨hc96_32, rfl⟩))) hZ (hw _ (own_g (i := 18) rfl)) (hw _ (own_g (i := 2) rfl)) (by decide) (by decide)) q54a q54c (g := (mkF m 190 #[.val (.int pa), .val (.int pb), .val (.int pm), .val (.int ea), .val (.int ra), .val (.int eb), .val (.int rb), .val (.ref b22), .val (.ref b26), .val (.int (0 : Int32)), .val (.ref b26), .val (.int (0 : Int32))] [(.ref b26), (.ref b22)])) rfl (by rw [hml]; rfl) (Steps.refl _) (argsL := [(.ref b26)]) (rest := []) (lenOf pd_3 rfl) rfl (by show 2 * 0 + _ ≤ _; exact Nat.le_of_eq rfl) (hb hby at_190) (fun _ _ => ⟨rfl, e29, (by decide : 2 + 0 ≤ _), (by decide : 4 + 0 ≤ _)⟩)
      dsimp only [Pt.U, Pt.locs, Pt.cells, Pt.slots] at X54 l54 y54 z54 st54 hQ54
      subst l54 y54 z54
      obtain ⟨rfl, Nq54, eq54⟩ := hQ54
      have N54 := Fr.app N29 Nq54
      have r54 : own_R p e below _ _ T54 (mkF m 193 #[.val (.int pa), .val (.int pb), .val (.int pm), .val (.int ea), .val (.int ra), .val (.int eb), .val (.int rb), .val (.ref b22), .val (.ref b26), .val (.int (0 : Int32)), .val (.ref b26), .val (.int (0 : Int32))] [(.int (0 : Int32))]) := r50.trans fun z_ kt => st54.trans kt
      have e54 : T54.heap = h29 := eq54
      have r55 : own_R p e below _ _ T54 (mkF m 203 #[.val (.int pa), .val (.int pb), .val (.int pm), .val (.int ea), .val (.int ra), .val (.int eb), .val (.int rb), .val (.ref b22), .val (.ref b26), .val (.int (0 : Int32)), .val (.ref b26), .val (.int (0 : Int32))] [(.int (1 : Int32))]) := r54.trans fun z_ kt => by
        show own_S p e below T54 (mkF m 193 #[.val (.int pa), .val (.int pb), .val (.int pm), .val (.int ea), .val (.int ra), .val (.int eb), .val (.int rb), .val (.ref b22), .val (.ref b26), .val (.int (0 : Int32)), .val (.ref b26), .val (.int (0 : Int32))] [(.int (0 : Int32))]) _
        refine XS.iload X54.here hx rfl (hb hby at_193) rfl ?_
        show own_S p e below T54 (mkF m 195 #[.val (.int pa), .val (.int pb), .val (.int pm), .val (.int ea), .val (.int ra), .val (.int eb), .val (.int rb), .val (.ref b22), .val (.ref b26), .val (.int (0 : Int32)), .val (.ref b26), .val (.int (0 : Int32))] [(.int (0 : Int32)), (.int (0 : Int32))]) _
        refine XS.icmpNo X54.here hx rfl (hb hby at_195) rfl (teq (by decide : (0 : Int32) = (0 : Int32))).2 ?_
        show own_S p e below T54 (mkF m 198 #[.val (.int pa), .val (.int pb), .val (.int pm), .val (.int ea), .val (.int ra), .val (.int eb), .val (.int rb), .val (.ref b22), .val (.ref b26), .val (.int (0 : Int32)), .val (.ref b26), .val (.int (0 : Int32))] []) _
        refine XS.iconst X54.here hx rfl (hb hby at_198) ?_
        show own_S p e below T54 (mkF m 199 #[.val (.int pa), .val (.int pb), .val (.int pm), .val (.int ea), .val (.int ra), .val (.int eb), .val (.int rb), .val (.ref b22), .val (.ref b26), .val (.int (0 : Int32)), .val (.ref b26), .val (.int (0 : Int32))] [(.int (1 : Int32))]) _
        refine XS.goto X54.here hx rfl (pc0 := 199) (pc' := 203) rfl (hb hby at_199) (by decide) (by decide) ?_
        exact kt
      obtain ⟨fs, hr, hrun, hended, hW, hsame⟩ := X54.leave (v := some (.int (1 : Int32))) (fun h => by rw [Bd.returns] at h; cases h)
      refine ⟨_, _, pre0 _ (r55 _ ?_), hrun, hended, _, _, rfl, ?_, ⟨_, rfl⟩, hW, hsame.mono (by decide) (by decide)⟩
      · exact retN X54 hx (t := .boolean) Bd.returns (by simp) (hb hby at_203) hr
      · show Q_law Z pa pb pm s_NONE ca kc vc h0 n0 _ T54.heap _
        rw [e54]
        exact ⟨rfl, N54⟩
  · skip
    have f56 := ((f27.ext E26).keep Kq29)
    have r57 : own_R p e below _ _ T29 (mkF m 190 #[.val (.int pa), .val (.int pb), .val (.int pm), .val (.int ea), .val (.int ra), .val (.int eb), .val (.int rb), .val (.ref b22), .val (.ref b26), .val (.int (1 : Int32)), .val (.ref b22), .val (.int (1 : Int32))] [(.ref b22), (.ref b22)]) := r30.trans fun z_ kt => by
      show own_S p e below T29 (mkF m 84 #[.val (.int pa), .val (.int pb), .val (.int pm), .val (.int ea), .val (.int ra), .val (.int eb), .val (.int rb), .val (.ref b22), .val (.ref b26), .val (.int (1 : Int32)), .unset, .unset] []) _
      refine XS.iload X29.here hx rfl (hb hby at_84) rfl ?_
      show own_S p e below T29 (mkF m 86 #[.val (.int pa), .val (.int pb), .val (.int pm), .val (.int ea), .val (.int ra), .val (.int eb), .val (.int rb), .val (.ref b22), .val (.ref b26), .val (.int (1 : Int32)), .unset, .unset] [(.int (1 : Int32))]) _
      refine XS.ifYes X29.here hx rfl (pc0 := 86) (pc' := 116) rfl (hb hby at_86) rfl ((if0 _ _).trans (feq (by decide : ¬ ((1 : Int32) = (0 : Int32)))).2) (by decide) (by decide) ?_
      show own_S p e below T29 (mkF m 116 #[.val (.int pa), .val (.int pb), .val (.int pm), .val (.int ea), .val (.int ra), .val (.int eb), .val (.int rb), .val (.ref b22), .val (.ref b26), .val (.int (1 : Int32)), .unset, .unset] []) _
      refine XS.iload X29.here hx rfl (hb hby at_116) rfl ?_
      show own_S p e below T29 (mkF m 118 #[.val (.int pa), .val (.int pb), .val (.int pm), .val (.int ea), .val (.int ra), .val (.int eb), .val (.int rb), .val (.ref b22), .val (.ref b26), .val (.int (1 : Int32)), .unset, .unset] [(.int (1 : Int32))]) _
      refine XS.iconst X29.here hx rfl (hb hby at_118) ?_
      show own_S p e below T29 (mkF m 119 #[.val (.int pa), .val (.int pb), .val (.int pm), .val (.int ea), .val (.int ra), .val (.int eb), .val (.int rb), .val (.ref b22), .val (.ref b26), .val (.int (1 : Int32)), .unset, .unset] [(.int (1 : Int32)), (.int (1 : Int32))]) _
      refine XS.icmpNo X29.here hx rfl (hb hby at_119) rfl (teq (by decide : (1 : Int32) = (1 : Int32))).2 ?_
      show own_S p e below T29 (mkF m 122 #[.val (.int pa), .val (.int pb), .val (.int pm), .val (.int ea), .val (.int ra), .val (.int eb), .val (.int rb), .val (.ref b22), .val (.ref b26), .val (.int (1 : Int32)), .unset, .unset] []) _
      refine XS.aload X29.here hx rfl (hb hby at_122) rfl rfl ?_
      show own_S p e below T29 (mkF m 124 #[.val (.int pa), .val (.int pb), .val (.int pm), .val (.int ea), .val (.int ra), .val (.int eb), .val (.int rb), .val (.ref b22), .val (.ref b26), .val (.int (1 : Int32)), .unset, .unset] [(.ref b22)]) _
      refine XS.astore X29.here hx rfl (hb hby at_124) rfl rfl (l' := #[.val (.int pa), .val (.int pb), .val (.int pm), .val (.int ea), .val (.int ra), .val (.int eb), .val (.int rb), .val (.ref b22), .val (.ref b26), .val (.int (1 : Int32)), .val (.ref b22), .unset]) rfl ?_
      show own_S p e below T29 (mkF m 126 #[.val (.int pa), .val (.int pb), .val (.int pm), .val (.int ea), .val (.int ra), .val (.int eb), .val (.int rb), .val (.ref b22), .val (.ref b26), .val (.int (1 : Int32)), .val (.ref b22), .unset] []) _
      refine XS.iconst X29.here hx rfl (hb hby at_126) ?_
      show own_S p e below T29 (mkF m 127 #[.val (.int pa), .val (.int pb), .val (.int pm), .val (.int ea), .val (.int ra), .val (.int eb), .val (.int rb), .val (.ref b22), .val (.ref b26), .val (.int (1 : Int32)), .val (.ref b22), .unset] [(.int (1 : Int32))]) _
      refine XS.istore X29.here hx rfl (hb hby at_127) rfl (l' := #[.val (.int pa), .val (.int pb), .val (.int pm), .val (.int ea), .val (.int ra), .val (.int eb), .val (.int rb), .val (.ref b22), .val (.ref b26), .val (.int (1 : Int32)), .val (.ref b22), .val (.int (1 : Int32))]) rfl ?_
      show own_S p e below T29 (mkF m 129 #[.val (.int pa), .val (.int pb), .val (.int pm), .val (.int ea), .val (.int ra), .val (.int eb), .val (.int rb), .val (.ref b22), .val (.ref b26), .val (.int (1 : Int32)), .val (.ref b22), .val (.int (1 : Int32))] []) _
      refine XS.goto X29.here hx rfl (pc0 := 129) (pc' := 186) rfl (hb hby at_129) (by decide) (by decide) ?_
      show own_S p e below T29 (mkF m 186 #[.val (.int pa), .val (.int pb), .val (.int pm), .val (.int ea), .val (.int ra), .val (.int eb), .val (.int rb), .val (.ref b22), .val (.ref b26), .val (.int (1 : Int32)), .val (.ref b22), .val (.int (1 : Int32))] []) _
      refine XS.aload X29.here hx rfl (hb hby at_186) rfl rfl ?_
      show own_S p e below T29 (mkF m 188 #[.val (.int pa), .val (.int pb), .val (.int pm), .val (.int ea), .val (.int ra), .val (.int eb), .val (.int rb), .val (.ref b22), .val (.ref b26), .val (.int (1 : Int32)), .val (.ref b22), .val (.int (1 : Int32))] [(.ref b22)]) _
      refine XS.aload X29.here hx rfl (hb hby at_188) rfl rfl ?_
      exact kt
    obtain ⟨cq58, kq58, q58a, q58b, q58c⟩ := isOf hZ e29 f56
    obtain ⟨_, _, ⟨T58, L58, cc58, n58⟩, -, X58, ⟨Lc58, hQ58, l58, y58, z58⟩, st58⟩ := X29.virtualBack hx (y := (⟨"com/example/nonce/nonce/web/CertificateFaults", "equals", "(Ljava/lang/Object;)Z"⟩ : MethodName)) (z := (⟨"com/example/nonce/nonce/web/CertificateFaults", "equals", "(Ljava/lang/Object;)Z"⟩ : MethodName)) hown (mvT hZ (hw _ (own_g (i := 14) rfl))) (mvT hZ (hw _ (own_g (i := 15) rfl))) (notFace_of_selects (args := #[]) (mvT hZ (hw _ (own_g (i := 17) rfl)))) (mvT hZ (hw _ (own_g (i := 17) rfl))) (mvT hZ (hw _ (own_g (i := 16) rfl))) (by decide) (backOf (W := 0) (rm_eqSelf l Z a0 hw [] (b22) h29 n0 O29 ) hZ (hw _ (own_g (i := 18) rfl)) (hw _ (own_g (i := 2) rfl)) (by decide) (by decide)) q58a q58c (g := (mkF m 190 #[.val (.int pa), .val (.int pb), .val (.int pm), .val (.int ea), .val (.int ra), .val (.int eb), .val (.int rb), .val (.ref b22), .val (.ref b26), .val (.int (1 : Int32)), .val (.ref b22), .val (.int (1 : Int32))] [(.ref b22), (.ref b22)])) rfl (by rw [hml]; rfl) (Steps.refl _) (argsL := [(.ref b22)]) (rest := []) (lenOf pd_3 rfl) rfl (by show 2 * 0 + _ ≤ _; exact Nat.le_of_eq rfl) (hb hby at_190) (fun _ _ => ⟨rfl, e29, (by decide : 2 + 0 ≤ _), (by decide : 4 + 0 ≤ _)⟩)
    dsimp only [Pt.U, Pt.locs, Pt.cells, Pt.slots] at X58 l58 y58 z58 st58 hQ58
    subst l58 y58 z58
    obtain ⟨rfl, Nq58, eq58⟩ := hQ58
    have N58 := Fr.app N29 Nq58
    have r58 : own_R p e below _ _ T58 (mkF m 193 #[.val (.int pa), .val (.int pb), .val (.int pm), .val (.int ea), .val (.int ra), .val (.int eb), .val (.int rb), .val (.ref b22), .val (.ref b26), .val (.int (1 : Int32)), .val (.ref b22), .val (.int (1 : Int32))] [(.int (1 : Int32))]) := r57.trans fun z_ kt => st58.trans kt
    have e58 : T58.heap = h29 := eq58
    have r59 : own_R p e below _ _ T58 (mkF m 203 #[.val (.int pa), .val (.int pb), .val (.int pm), .val (.int ea), .val (.int ra), .val (.int eb), .val (.int rb), .val (.ref b22), .val (.ref b26), .val (.int (1 : Int32)), .val (.ref b22), .val (.int (1 : Int32))] [(.int (1 : Int32))]) := r58.trans fun z_ kt => by
      show own_S p e below T58 (mkF m 193 #[.val (.int pa), .val (.int pb), .val (.int pm), .val (.int ea), .val (.int ra), .val (.int eb), .val (.int rb), .val (.ref b22), .val (.ref b26), .val (.int (1 : Int32)), .val (.ref b22), .val (.int (1 : Int32))] [(.int (1 : Int32))]) _
      refine XS.iload X58.here hx rfl (hb hby at_193) rfl ?_
      show own_S p e below T58 (mkF m 195 #[.val (.int pa), .val (.int pb), .val (.int pm), .val (.int ea), .val (.int ra), .val (.int eb), .val (.int rb), .val (.ref b22), .val (.ref b26), .val (.int (1 : Int32)), .val (.ref b22), .val (.int (1 : Int32))] [(.int (1 : Int32)), (.int (1 : Int32))]) _
      refine XS.icmpNo X58.here hx rfl (hb hby at_195) rfl (teq (by decide : (1 : Int32) = (1 : Int32))).2 ?_
      show own_S p e below T58 (mkF m 198 #[.val (.int pa), .val (.int pb), .val (.int pm), .val (.int ea), .val (.int ra), .val (.int eb), .val (.int rb), .val (.ref b22), .val (.ref b26), .val (.int (1 : Int32)), .val (.ref b22), .val (.int (1 : Int32))] []) _
      refine XS.iconst X58.here hx rfl (hb hby at_198) ?_
      show own_S p e below T58 (mkF m 199 #[.val (.int pa), .val (.int pb), .val (.int pm), .val (.int ea), .val (.int ra), .val (.int eb), .val (.int rb), .val (.ref b22), .val (.ref b26), .val (.int (1 : Int32)), .val (.ref b22), .val (.int (1 : Int32))] [(.int (1 : Int32))]) _
      refine XS.goto X58.here hx rfl (pc0 := 199) (pc' := 203) rfl (hb hby at_199) (by decide) (by decide) ?_
      exact kt
    obtain ⟨fs, hr, hrun, hended, hW, hsame⟩ := X58.leave (v := some (.int (1 : Int32))) (fun h => by rw [Bd.returns] at h; cases h)
    refine ⟨_, _, pre0 _ (r59 _ ?_), hrun, hended, _, _, rfl, ?_, ⟨_, rfl⟩, hW, hsame.mono (by decide) (by decide)⟩
    · exact retN X58 hx (t := .boolean) Bd.returns (by simp) (hb hby at_203) hr
    · show Q_law Z pa pb pm s_NONE ca kc vc h0 n0 _ T58.heap _
      rw [e58]
      exact ⟨rfl, N58⟩
  · skip
    have f60 := ((f27.ext E26).keep Kq29)
    have r61 : own_R p e below _ _ T29 (mkF m 190 #[.val (.int pa), .val (.int pb), .val (.int pm), .val (.int ea), .val (.int ra), .val (.int eb), .val (.int rb), .val (.ref b22), .val (.ref b26), .val (.int (2 : Int32)), .val .null, .val (.int (0 : Int32))] [.null, (.ref b22)]) := r30.trans fun z_ kt => by
      show own_S p e below T29 (mkF m 84 #[.val (.int pa), .val (.int pb), .val (.int pm), .val (.int ea), .val (.int ra), .val (.int eb), .val (.int rb), .val (.ref b22), .val (.ref b26), .val (.int (2 : Int32)), .unset, .unset] []) _
      refine XS.iload X29.here hx rfl (hb hby at_84) rfl ?_
      show own_S p e below T29 (mkF m 86 #[.val (.int pa), .val (.int pb), .val (.int pm), .val (.int ea), .val (.int ra), .val (.int eb), .val (.int rb), .val (.ref b22), .val (.ref b26), .val (.int (2 : Int32)), .unset, .unset] [(.int (2 : Int32))]) _
      refine XS.ifYes X29.here hx rfl (pc0 := 86) (pc' := 116) rfl (hb hby at_86) rfl ((if0 _ _).trans (feq (by decide : ¬ ((2 : Int32) = (0 : Int32)))).2) (by decide) (by decide) ?_
      show own_S p e below T29 (mkF m 116 #[.val (.int pa), .val (.int pb), .val (.int pm), .val (.int ea), .val (.int ra), .val (.int eb), .val (.int rb), .val (.ref b22), .val (.ref b26), .val (.int (2 : Int32)), .unset, .unset] []) _
      refine XS.iload X29.here hx rfl (hb hby at_116) rfl ?_
      show own_S p e below T29 (mkF m 118 #[.val (.int pa), .val (.int pb), .val (.int pm), .val (.int ea), .val (.int ra), .val (.int eb), .val (.int rb), .val (.ref b22), .val (.ref b26), .val (.int (2 : Int32)), .unset, .unset] [(.int (2 : Int32))]) _
      refine XS.iconst X29.here hx rfl (hb hby at_118) ?_
      show own_S p e below T29 (mkF m 119 #[.val (.int pa), .val (.int pb), .val (.int pm), .val (.int ea), .val (.int ra), .val (.int eb), .val (.int rb), .val (.ref b22), .val (.ref b26), .val (.int (2 : Int32)), .unset, .unset] [(.int (1 : Int32)), (.int (2 : Int32))]) _
      refine XS.icmpYes X29.here hx rfl (pc0 := 119) (pc' := 132) rfl (hb hby at_119) rfl (feq (by decide : ¬ ((2 : Int32) = (1 : Int32)))).2 (by decide) (by decide) ?_
      show own_S p e below T29 (mkF m 132 #[.val (.int pa), .val (.int pb), .val (.int pm), .val (.int ea), .val (.int ra), .val (.int eb), .val (.int rb), .val (.ref b22), .val (.ref b26), .val (.int (2 : Int32)), .unset, .unset] []) _
      refine XS.iload X29.here hx rfl (hb hby at_132) rfl ?_
      show own_S p e below T29 (mkF m 134 #[.val (.int pa), .val (.int pb), .val (.int pm), .val (.int ea), .val (.int ra), .val (.int eb), .val (.int rb), .val (.ref b22), .val (.ref b26), .val (.int (2 : Int32)), .unset, .unset] [(.int (2 : Int32))]) _
      refine XS.iconst X29.here hx rfl (hb hby at_134) ?_
      show own_S p e below T29 (mkF m 135 #[.val (.int pa), .val (.int pb), .val (.int pm), .val (.int ea), .val (.int ra), .val (.int eb), .val (.int rb), .val (.ref b22), .val (.ref b26), .val (.int (2 : Int32)), .unset, .unset] [(.int (2 : Int32)), (.int (2 : Int32))]) _
      refine XS.icmpNo X29.here hx rfl (hb hby at_135) rfl (teq (by decide : (2 : Int32) = (2 : Int32))).2 ?_
      show own_S p e below T29 (mkF m 138 #[.val (.int pa), .val (.int pb), .val (.int pm), .val (.int ea), .val (.int ra), .val (.int eb), .val (.int rb), .val (.ref b22), .val (.ref b26), .val (.int (2 : Int32)), .unset, .unset] []) _
      refine XS.aconstNull X29.here hx rfl (hb hby at_138) ?_
      show own_S p e below T29 (mkF m 139 #[.val (.int pa), .val (.int pb), .val (.int pm), .val (.int ea), .val (.int ra), .val (.int eb), .val (.int rb), .val (.ref b22), .val (.ref b26), .val (.int (2 : Int32)), .unset, .unset] [.null]) _
      refine XS.astore X29.here hx rfl (hb hby at_139) rfl rfl (l' := #[.val (.int pa), .val (.int pb), .val (.int pm), .val (.int ea), .val (.int ra), .val (.int eb), .val (.int rb), .val (.ref b22), .val (.ref b26), .val (.int (2 : Int32)), .val .null, .unset]) rfl ?_
      show own_S p e below T29 (mkF m 141 #[.val (.int pa), .val (.int pb), .val (.int pm), .val (.int ea), .val (.int ra), .val (.int eb), .val (.int rb), .val (.ref b22), .val (.ref b26), .val (.int (2 : Int32)), .val .null, .unset] []) _
      refine XS.iconst X29.here hx rfl (hb hby at_141) ?_
      show own_S p e below T29 (mkF m 142 #[.val (.int pa), .val (.int pb), .val (.int pm), .val (.int ea), .val (.int ra), .val (.int eb), .val (.int rb), .val (.ref b22), .val (.ref b26), .val (.int (2 : Int32)), .val .null, .unset] [(.int (0 : Int32))]) _
      refine XS.istore X29.here hx rfl (hb hby at_142) rfl (l' := #[.val (.int pa), .val (.int pb), .val (.int pm), .val (.int ea), .val (.int ra), .val (.int eb), .val (.int rb), .val (.ref b22), .val (.ref b26), .val (.int (2 : Int32)), .val .null, .val (.int (0 : Int32))]) rfl ?_
      show own_S p e below T29 (mkF m 144 #[.val (.int pa), .val (.int pb), .val (.int pm), .val (.int ea), .val (.int ra), .val (.int eb), .val (.int rb), .val (.ref b22), .val (.ref b26), .val (.int (2 : Int32)), .val .null, .val (.int (0 : Int32))] []) _
      refine XS.goto X29.here hx rfl (pc0 := 144) (pc' := 186) rfl (hb hby at_144) (by decide) (by decide) ?_
      show own_S p e below T29 (mkF m 186 #[.val (.int pa), .val (.int pb), .val (.int pm), .val (.int ea), .val (.int ra), .val (.int eb), .val (.int rb), .val (.ref b22), .val (.ref b26), .val (.int (2 : Int32)), .val .null, .val (.int (0 : Int32))] []) _
      refine XS.aload X29.here hx rfl (hb hby at_186) rfl rfl ?_
      show own_S p e below T29 (mkF m 188 #[.val (.int pa), .val (.int pb), .val (.int pm), .val (.int ea), .val (.int ra), .val (.int eb), .val (.int rb), .val (.ref b22), .val (.ref b26), .val (.int (2 : Int32)), .val .null, .val (.int (0 : Int32))] [(.ref b22)]) _
      refine XS.aload X29.here hx rfl (hb hby at_188) rfl rfl ?_
      exact kt
    obtain ⟨cq62, kq62, q62a, q62b, q62c⟩ := isOf hZ e29 f60
    obtain ⟨_, _, ⟨T62, L62, cc62, n62⟩, -, X62, ⟨Lc62, hQ62, l62, y62, z62⟩, st62⟩ := X29.virtualBack hx (y := (⟨"com/example/nonce/nonce/web/CertificateFaults", "equals", "(Ljava/lang/Object;)Z"⟩ : MethodName)) (z := (⟨"com/example/nonce/nonce/web/CertificateFaults", "equals", "(Ljava/lang/Object;)Z"⟩ : MethodName)) hown (mvT hZ (hw _ (own_g (i := 14) rfl))) (mvT hZ (hw _ (own_g (i := 15) rfl))) (notFace_of_selects (args := #[]) (mvT hZ (hw _ (own_g (i := 17) rfl)))) (mvT hZ (hw _ (own_g (i := 17) rfl))) (mvT hZ (hw _ (own_g (i := 16) rfl))) (by decide) (backOf (W := 0) (rm_eqNull l Z a0 hw [] (b22) h29 n0 O29 ) hZ (hw _ (own_g (i := 18) rfl)) (hw _ (own_g (i := 2) rfl)) (by decide) (by decide)) q62a q62c (g := (mkF m 190 #[.val (.int pa), .val (.int pb), .val (.int pm), .val (.int ea), .val (.int ra), .val (.int eb), .val (.int rb), .val (.ref b22), .val (.ref b26), .val (.int (2 : Int32)), .val .null, .val (.int (0 : Int32))] [.null, (.ref b22)])) rfl (by rw [hml]; rfl) (Steps.refl _) (argsL := [.null]) (rest := []) (lenOf pd_3 rfl) rfl (by show 2 * 0 + _ ≤ _; exact Nat.le_of_eq rfl) (hb hby at_190) (fun _ _ => ⟨rfl, e29, (by decide : 2 + 0 ≤ _), (by decide : 4 + 0 ≤ _)⟩)
    dsimp only [Pt.U, Pt.locs, Pt.cells, Pt.slots] at X62 l62 y62 z62 st62 hQ62
    subst l62 y62 z62
    obtain ⟨rfl, Nq62, eq62⟩ := hQ62
    have N62 := Fr.app N29 Nq62
    have r62 : own_R p e below _ _ T62 (mkF m 193 #[.val (.int pa), .val (.int pb), .val (.int pm), .val (.int ea), .val (.int ra), .val (.int eb), .val (.int rb), .val (.ref b22), .val (.ref b26), .val (.int (2 : Int32)), .val .null, .val (.int (0 : Int32))] [(.int (0 : Int32))]) := r61.trans fun z_ kt => st62.trans kt
    have e62 : T62.heap = h29 := eq62
    have r63 : own_R p e below _ _ T62 (mkF m 203 #[.val (.int pa), .val (.int pb), .val (.int pm), .val (.int ea), .val (.int ra), .val (.int eb), .val (.int rb), .val (.ref b22), .val (.ref b26), .val (.int (2 : Int32)), .val .null, .val (.int (0 : Int32))] [(.int (1 : Int32))]) := r62.trans fun z_ kt => by
      show own_S p e below T62 (mkF m 193 #[.val (.int pa), .val (.int pb), .val (.int pm), .val (.int ea), .val (.int ra), .val (.int eb), .val (.int rb), .val (.ref b22), .val (.ref b26), .val (.int (2 : Int32)), .val .null, .val (.int (0 : Int32))] [(.int (0 : Int32))]) _
      refine XS.iload X62.here hx rfl (hb hby at_193) rfl ?_
      show own_S p e below T62 (mkF m 195 #[.val (.int pa), .val (.int pb), .val (.int pm), .val (.int ea), .val (.int ra), .val (.int eb), .val (.int rb), .val (.ref b22), .val (.ref b26), .val (.int (2 : Int32)), .val .null, .val (.int (0 : Int32))] [(.int (0 : Int32)), (.int (0 : Int32))]) _
      refine XS.icmpNo X62.here hx rfl (hb hby at_195) rfl (teq (by decide : (0 : Int32) = (0 : Int32))).2 ?_
      show own_S p e below T62 (mkF m 198 #[.val (.int pa), .val (.int pb), .val (.int pm), .val (.int ea), .val (.int ra), .val (.int eb), .val (.int rb), .val (.ref b22), .val (.ref b26), .val (.int (2 : Int32)), .val .null, .val (.int (0 : Int32))] []) _
      refine XS.iconst X62.here hx rfl (hb hby at_198) ?_
      show own_S p e below T62 (mkF m 199 #[.val (.int pa), .val (.int pb), .val (.int pm), .val (.int ea), .val (.int ra), .val (.int eb), .val (.int rb), .val (.ref b22), .val (.ref b26), .val (.int (2 : Int32)), .val .null, .val (.int (0 : Int32))] [(.int (1 : Int32))]) _
      refine XS.goto X62.here hx rfl (pc0 := 199) (pc' := 203) rfl (hb hby at_199) (by decide) (by decide) ?_
      exact kt
    obtain ⟨fs, hr, hrun, hended, hW, hsame⟩ := X62.leave (v := some (.int (1 : Int32))) (fun h => by rw [Bd.returns] at h; cases h)
    refine ⟨_, _, pre0 _ (r63 _ ?_), hrun, hended, _, _, rfl, ?_, ⟨_, rfl⟩, hW, hsame.mono (by decide) (by decide)⟩
    · exact retN X62 hx (t := .boolean) Bd.returns (by simp) (hb hby at_203) hr
    · show Q_law Z pa pb pm s_NONE ca kc vc h0 n0 _ T62.heap _
      rw [e62]
      exact ⟨rfl, N62⟩
  · skip
    have r64 : own_R p e below _ _ T29 (mkF m 154 #[.val (.int pa), .val (.int pb), .val (.int pm), .val (.int ea), .val (.int ra), .val (.int eb), .val (.int rb), .val (.ref b22), .val (.ref b26), .val (.int (3 : Int32)), .unset, .unset] [(.int pb)]) := r30.trans fun z_ kt => by
      show own_S p e below T29 (mkF m 84 #[.val (.int pa), .val (.int pb), .val (.int pm), .val (.int ea), .val (.int ra), .val (.int eb), .val (.int rb), .val (.ref b22), .val (.ref b26), .val (.int (3 : Int32)), .unset, .unset] []) _
      refine XS.iload X29.here hx rfl (hb hby at_84) rfl ?_
      show own_S p e below T29 (mkF m 86 #[.val (.int pa), .val (.int pb), .val (.int pm), .val (.int ea), .val (.int ra), .val (.int eb), .val (.int rb), .val (.ref b22), .val (.ref b26), .val (.int (3 : Int32)), .unset, .unset] [(.int (3 : Int32))]) _
      refine XS.ifYes X29.here hx rfl (pc0 := 86) (pc' := 116) rfl (hb hby at_86) rfl ((if0 _ _).trans (feq (by decide : ¬ ((3 : Int32) = (0 : Int32)))).2) (by decide) (by decide) ?_
      show own_S p e below T29 (mkF m 116 #[.val (.int pa), .val (.int pb), .val (.int pm), .val (.int ea), .val (.int ra), .val (.int eb), .val (.int rb), .val (.ref b22), .val (.ref b26), .val (.int (3 : Int32)), .unset, .unset] []) _
      refine XS.iload X29.here hx rfl (hb hby at_116) rfl ?_
      show own_S p e below T29 (mkF m 118 #[.val (.int pa), .val (.int pb), .val (.int pm), .val (.int ea), .val (.int ra), .val (.int eb), .val (.int rb), .val (.ref b22), .val (.ref b26), .val (.int (3 : Int32)), .unset, .unset] [(.int (3 : Int32))]) _
      refine XS.iconst X29.here hx rfl (hb hby at_118) ?_
      show own_S p e below T29 (mkF m 119 #[.val (.int pa), .val (.int pb), .val (.int pm), .val (.int ea), .val (.int ra), .val (.int eb), .val (.int rb), .val (.ref b22), .val (.ref b26), .val (.int (3 : Int32)), .unset, .unset] [(.int (1 : Int32)), (.int (3 : Int32))]) _
      refine XS.icmpYes X29.here hx rfl (pc0 := 119) (pc' := 132) rfl (hb hby at_119) rfl (feq (by decide : ¬ ((3 : Int32) = (1 : Int32)))).2 (by decide) (by decide) ?_
      show own_S p e below T29 (mkF m 132 #[.val (.int pa), .val (.int pb), .val (.int pm), .val (.int ea), .val (.int ra), .val (.int eb), .val (.int rb), .val (.ref b22), .val (.ref b26), .val (.int (3 : Int32)), .unset, .unset] []) _
      refine XS.iload X29.here hx rfl (hb hby at_132) rfl ?_
      show own_S p e below T29 (mkF m 134 #[.val (.int pa), .val (.int pb), .val (.int pm), .val (.int ea), .val (.int ra), .val (.int eb), .val (.int rb), .val (.ref b22), .val (.ref b26), .val (.int (3 : Int32)), .unset, .unset] [(.int (3 : Int32))]) _
      refine XS.iconst X29.here hx rfl (hb hby at_134) ?_
      show own_S p e below T29 (mkF m 135 #[.val (.int pa), .val (.int pb), .val (.int pm), .val (.int ea), .val (.int ra), .val (.int eb), .val (.int rb), .val (.ref b22), .val (.ref b26), .val (.int (3 : Int32)), .unset, .unset] [(.int (2 : Int32)), (.int (3 : Int32))]) _
      refine XS.icmpYes X29.here hx rfl (pc0 := 135) (pc' := 147) rfl (hb hby at_135) rfl (feq (by decide : ¬ ((3 : Int32) = (2 : Int32)))).2 (by decide) (by decide) ?_
      show own_S p e below T29 (mkF m 147 #[.val (.int pa), .val (.int pb), .val (.int pm), .val (.int ea), .val (.int ra), .val (.int eb), .val (.int rb), .val (.ref b22), .val (.ref b26), .val (.int (3 : Int32)), .unset, .unset] []) _
      refine XS.iload X29.here hx rfl (hb hby at_147) rfl ?_
      show own_S p e below T29 (mkF m 149 #[.val (.int pa), .val (.int pb), .val (.int pm), .val (.int ea), .val (.int ra), .val (.int eb), .val (.int rb), .val (.ref b22), .val (.ref b26), .val (.int (3 : Int32)), .unset, .unset] [(.int (3 : Int32))]) _
      refine XS.iconst X29.here hx rfl (hb hby at_149) ?_
      show own_S p e below T29 (mkF m 150 #[.val (.int pa), .val (.int pb), .val (.int pm), .val (.int ea), .val (.int ra), .val (.int eb), .val (.int rb), .val (.ref b22), .val (.ref b26), .val (.int (3 : Int32)), .unset, .unset] [(.int (3 : Int32)), (.int (3 : Int32))]) _
      refine XS.icmpNo X29.here hx rfl (hb hby at_150) rfl (teq (by decide : (3 : Int32) = (3 : Int32))).2 ?_
      show own_S p e below T29 (mkF m 153 #[.val (.int pa), .val (.int pb), .val (.int pm), .val (.int ea), .val (.int ra), .val (.int eb), .val (.int rb), .val (.ref b22), .val (.ref b26), .val (.int (3 : Int32)), .unset, .unset] []) _
      refine XS.iloadN X29.here hx rfl (hb hby at_153) rfl ?_
      exact kt
    obtain ⟨_, _, ⟨T65, L65, cc65, n65⟩, -, X65, ⟨Lc65, hQ65, l65, y65, z65⟩, st65⟩ := Jvm.LawKit.callS X29 hx (y := (⟨"java/lang/Integer", "valueOf", "(I)Ljava/lang/Integer;"⟩ : MethodName)) hown (mvT hZ (hw _ (own_g (i := 19) rfl))) (mvT hZ (hw _ (own_g (i := 20) rfl))) (mvT hZ (hw _ (own_g (i := 21) rfl))) (mvT hZ (hw _ (own_g (i := 22) rfl))) (by decide) (backOf (W := 0) (rm_valueOf l Z a0 hw [] (pb) (ca) (kc) (vc) h29 n0 O29 (S_Integer_IntegerCache_high) (S_Integer_IntegerCache_cache) (OV_ca) (hall)) hZ (hw _ (own_g (i := 22) rfl)) (hw _ (own_g (i := 21) rfl)) (by decide) (by decide)) (g := (mkF m 154 #[.val (.int pa), .val (.int pb), .val (.int pm), .val (.int ea), .val (.int ra), .val (.int eb), .val (.int rb), .val (.ref b22), .val (.ref b26), .val (.int (3 : Int32)), .unset, .unset] [(.int pb)])) rfl (by rw [hml]; rfl) (argsL := [(.int pb)]) (rest := []) (lenOf pd_4 rfl) rfl (by show 2 * 0 + _ ≤ _; exact Nat.le_of_eq rfl) (hb hby at_154) (fun _ _ => ⟨rfl, e29, (by decide : 2 + 1 ≤ _), (by decide : 4 + 1 ≤ _)⟩)
    dsimp only [Pt.U, Pt.locs, Pt.cells, Pt.slots] at X65 l65 y65 z65 st65 hQ65
    subst l65 y65 z65
    obtain ⟨h65, e65⟩ : ∃ z, T65.heap = z := ⟨_, rfl⟩
    rw [e65] at hQ65
    obtain ⟨b_65, rfl, Nq65, Kq65, p65_0⟩ := hQ65
    have N65 := Fr.app N29 Nq65
    have r65 : own_R p e below _ _ T65 (mkF m 157 #[.val (.int pa), .val (.int pb), .val (.int pm), .val (.int ea), .val (.int ra), .val (.int eb), .val (.int rb), .val (.ref b22), .val (.ref b26), .val (.int (3 : Int32)), .unset, .unset] [(.ref b_65)]) := r64.trans fun z_ kt => st65 _ kt
    have O65 := O29.keep Kq65 all0
    have f66 := (((f27.ext E26).keep Kq29).keep Kq65)
    have r67 : own_R p e below _ _ T65 (mkF m 190 #[.val (.int pa), .val (.int pb), .val (.int pm), .val (.int ea), .val (.int ra), .val (.int eb), .val (.int rb), .val (.ref b22), .val (.ref b26), .val (.int (3 : Int32)), .val (.ref b_65), .val (.int (0 : Int32))] [(.ref b_65), (.ref b22)]) := r65.trans fun z_ kt => by
      show own_S p e below T65 (mkF m 157 #[.val (.int pa), .val (.int pb), .val (.int pm), .val (.int ea), .val (.int ra), .val (.int eb), .val (.int rb), .val (.ref b22), .val (.ref b26), .val (.int (3 : Int32)), .unset, .unset] [(.ref b_65)]) _
      refine XS.astore X65.here hx rfl (hb hby at_157) rfl rfl (l' := #[.val (.int pa), .val (.int pb), .val (.int pm), .val (.int ea), .val (.int ra), .val (.int eb), .val (.int rb), .val (.ref b22), .val (.ref b26), .val (.int (3 : Int32)), .val (.ref b_65), .unset]) rfl ?_
      show own_S p e below T65 (mkF m 159 #[.val (.int pa), .val (.int pb), .val (.int pm), .val (.int ea), .val (.int ra), .val (.int eb), .val (.int rb), .val (.ref b22), .val (.ref b26), .val (.int (3 : Int32)), .val (.ref b_65), .unset] []) _
      refine XS.iconst X65.here hx rfl (hb hby at_159) ?_
      show own_S p e below T65 (mkF m 160 #[.val (.int pa), .val (.int pb), .val (.int pm), .val (.int ea), .val (.int ra), .val (.int eb), .val (.int rb), .val (.ref b22), .val (.ref b26), .val (.int (3 : Int32)), .val (.ref b_65), .unset] [(.int (0 : Int32))]) _
      refine XS.istore X65.here hx rfl (hb hby at_160) rfl (l' := #[.val (.int pa), .val (.int pb), .val (.int pm), .val (.int ea), .val (.int ra), .val (.int eb), .val (.int rb), .val (.ref b22), .val (.ref b26), .val (.int (3 : Int32)), .val (.ref b_65), .val (.int (0 : Int32))]) rfl ?_
      show own_S p e below T65 (mkF m 162 #[.val (.int pa), .val (.int pb), .val (.int pm), .val (.int ea), .val (.int ra), .val (.int eb), .val (.int rb), .val (.ref b22), .val (.ref b26), .val (.int (3 : Int32)), .val (.ref b_65), .val (.int (0 : Int32))] []) _
      refine XS.goto X65.here hx rfl (pc0 := 162) (pc' := 186) rfl (hb hby at_162) (by decide) (by decide) ?_
      show own_S p e below T65 (mkF m 186 #[.val (.int pa), .val (.int pb), .val (.int pm), .val (.int ea), .val (.int ra), .val (.int eb), .val (.int rb), .val (.ref b22), .val (.ref b26), .val (.int (3 : Int32)), .val (.ref b_65), .val (.int (0 : Int32))] []) _
      refine XS.aload X65.here hx rfl (hb hby at_186) rfl rfl ?_
      show own_S p e below T65 (mkF m 188 #[.val (.int pa), .val (.int pb), .val (.int pm), .val (.int ea), .val (.int ra), .val (.int eb), .val (.int rb), .val (.ref b22), .val (.ref b26), .val (.int (3 : Int32)), .val (.ref b_65), .val (.int (0 : Int32))] [(.ref b22)]) _
      refine XS.aload X65.here hx rfl (hb hby at_188) rfl rfl ?_
      exact kt
    obtain ⟨cq68, kq68, q68a, q68b, q68c⟩ := isOf hZ e65 f66
    obtain ⟨_, _, ⟨T68, L68, cc68, n68⟩, -, X68, ⟨Lc68, hQ68, l68, y68, z68⟩, st68⟩ := X65.virtualBack hx (y := (⟨"com/example/nonce/nonce/web/CertificateFaults", "equals", "(Ljava/lang/Object;)Z"⟩ : MethodName)) (z := (⟨"com/example/nonce/nonce/web/CertificateFaults", "equals", "(Ljava/lang/Object;)Z"⟩ : MethodName)) hown (mvT hZ (hw _ (own_g (i := 14) rfl))) (mvT hZ (hw _ (own_g (i := 15) rfl))) (notFace_of_selects (args := #[]) (mvT hZ (hw _ (own_g (i := 17) rfl)))) (mvT hZ (hw _ (own_g (i := 17) rfl))) (mvT hZ (hw _ (own_g (i := 16) rfl))) (by decide) (backOf (W := 0) (rm_eqInt l Z a0 hw [] (b22) (b_65) h65 n0 O65 (f66) (p65_0)) hZ (hw _ (own_g (i := 18) rfl)) (hw _ (own_g (i := 2) rfl)) (by decide) (by decide)) q68a q68c (g := (mkF m 190 #[.val (.int pa), .val (.int pb), .val (.int pm), .val (.int ea), .val (.int ra), .val (.int eb), .val (.int rb), .val (.ref b22), .val (.ref b26), .val (.int (3 : Int32)), .val (.ref b_65), .val (.int (0 : Int32))] [(.ref b_65), (.ref b22)])) rfl (by rw [hml]; rfl) (Steps.refl _) (argsL := [(.ref b_65)]) (rest := []) (lenOf pd_3 rfl) rfl (by show 2 * 0 + _ ≤ _; exact Nat.le_of_eq rfl) (hb hby at_190) (fun _ _ => ⟨rfl, e65, (by decide : 3 + 0 ≤ _), (by decide : 5 + 0 ≤ _)⟩)
    dsimp only [Pt.U, Pt.locs, Pt.cells, Pt.slots] at X68 l68 y68 z68 st68 hQ68
    subst l68 y68 z68
    obtain ⟨rfl, Nq68, eq68⟩ := hQ68
    have N68 := Fr.app N65 Nq68
    have r68 : own_R p e below _ _ T68 (mkF m 193 #[.val (.int pa), .val (.int pb), .val (.int pm), .val (.int ea), .val (.int ra), .val (.int eb), .val (.int rb), .val (.ref b22), .val (.ref b26), .val (.int (3 : Int32)), .val (.ref b_65), .val (.int (0 : Int32))] [(.int (0 : Int32))]) := r67.trans fun z_ kt => st68.trans kt
    have e68 : T68.heap = h65 := eq68
    have r69 : own_R p e below _ _ T68 (mkF m 203 #[.val (.int pa), .val (.int pb), .val (.int pm), .val (.int ea), .val (.int ra), .val (.int eb), .val (.int rb), .val (.ref b22), .val (.ref b26), .val (.int (3 : Int32)), .val (.ref b_65), .val (.int (0 : Int32))] [(.int (1 : Int32))]) := r68.trans fun z_ kt => by
      show own_S p e below T68 (mkF m 193 #[.val (.int pa), .val (.int pb), .val (.int pm), .val (.int ea), .val (.int ra), .val (.int eb), .val (.int rb), .val (.ref b22), .val (.ref b26), .val (.int (3 : Int32)), .val (.ref b_65), .val (.int (0 : Int32))] [(.int (0 : Int32))]) _
      refine XS.iload X68.here hx rfl (hb hby at_193) rfl ?_
      show own_S p e below T68 (mkF m 195 #[.val (.int pa), .val (.int pb), .val (.int pm), .val (.int ea), .val (.int ra), .val (.int eb), .val (.int rb), .val (.ref b22), .val (.ref b26), .val (.int (3 : Int32)), .val (.ref b_65), .val (.int (0 : Int32))] [(.int (0 : Int32)), (.int (0 : Int32))]) _
      refine XS.icmpNo X68.here hx rfl (hb hby at_195) rfl (teq (by decide : (0 : Int32) = (0 : Int32))).2 ?_
      show own_S p e below T68 (mkF m 198 #[.val (.int pa), .val (.int pb), .val (.int pm), .val (.int ea), .val (.int ra), .val (.int eb), .val (.int rb), .val (.ref b22), .val (.ref b26), .val (.int (3 : Int32)), .val (.ref b_65), .val (.int (0 : Int32))] []) _
      refine XS.iconst X68.here hx rfl (hb hby at_198) ?_
      show own_S p e below T68 (mkF m 199 #[.val (.int pa), .val (.int pb), .val (.int pm), .val (.int ea), .val (.int ra), .val (.int eb), .val (.int rb), .val (.ref b22), .val (.ref b26), .val (.int (3 : Int32)), .val (.ref b_65), .val (.int (0 : Int32))] [(.int (1 : Int32))]) _
      refine XS.goto X68.here hx rfl (pc0 := 199) (pc' := 203) rfl (hb hby at_199) (by decide) (by decide) ?_
      exact kt
    obtain ⟨fs, hr, hrun, hended, hW, hsame⟩ := X68.leave (v := some (.int (1 : Int32))) (fun h => by rw [Bd.returns] at h; cases h)
    refine ⟨_, _, pre0 _ (r69 _ ?_), hrun, hended, _, _, rfl, ?_, ⟨_, rfl⟩, hW, hsame.mono (by decide) (by decide)⟩
    · exact retN X68 hx (t := .boolean) Bd.returns (by simp) (hb hby at_203) hr
    · show Q_law Z pa pb pm s_NONE ca kc vc h0 n0 _ T68.heap _
      rw [e68]
      exact ⟨rfl, N68⟩
  · skip
    have r70 : own_R p e below _ _ T29 (mkF m 165 #[.val (.int pa), .val (.int pb), .val (.int pm), .val (.int ea), .val (.int ra), .val (.int eb), .val (.int rb), .val (.ref b22), .val (.ref b26), .val (.int (4 : Int32)), .unset, .unset] []) := r30.trans fun z_ kt => by
      show own_S p e below T29 (mkF m 84 #[.val (.int pa), .val (.int pb), .val (.int pm), .val (.int ea), .val (.int ra), .val (.int eb), .val (.int rb), .val (.ref b22), .val (.ref b26), .val (.int (4 : Int32)), .unset, .unset] []) _
      refine XS.iload X29.here hx rfl (hb hby at_84) rfl ?_
      show own_S p e below T29 (mkF m 86 #[.val (.int pa), .val (.int pb), .val (.int pm), .val (.int ea), .val (.int ra), .val (.int eb), .val (.int rb), .val (.ref b22), .val (.ref b26), .val (.int (4 : Int32)), .unset, .unset] [(.int (4 : Int32))]) _
      refine XS.ifYes X29.here hx rfl (pc0 := 86) (pc' := 116) rfl (hb hby at_86) rfl ((if0 _ _).trans (feq (by decide : ¬ ((4 : Int32) = (0 : Int32)))).2) (by decide) (by decide) ?_
      show own_S p e below T29 (mkF m 116 #[.val (.int pa), .val (.int pb), .val (.int pm), .val (.int ea), .val (.int ra), .val (.int eb), .val (.int rb), .val (.ref b22), .val (.ref b26), .val (.int (4 : Int32)), .unset, .unset] []) _
      refine XS.iload X29.here hx rfl (hb hby at_116) rfl ?_
      show own_S p e below T29 (mkF m 118 #[.val (.int pa), .val (.int pb), .val (.int pm), .val (.int ea), .val (.int ra), .val (.int eb), .val (.int rb), .val (.ref b22), .val (.ref b26), .val (.int (4 : Int32)), .unset, .unset] [(.int (4 : Int32))]) _
      refine XS.iconst X29.here hx rfl (hb hby at_118) ?_
      show own_S p e below T29 (mkF m 119 #[.val (.int pa), .val (.int pb), .val (.int pm), .val (.int ea), .val (.int ra), .val (.int eb), .val (.int rb), .val (.ref b22), .val (.ref b26), .val (.int (4 : Int32)), .unset, .unset] [(.int (1 : Int32)), (.int (4 : Int32))]) _
      refine XS.icmpYes X29.here hx rfl (pc0 := 119) (pc' := 132) rfl (hb hby at_119) rfl (feq (by decide : ¬ ((4 : Int32) = (1 : Int32)))).2 (by decide) (by decide) ?_
      show own_S p e below T29 (mkF m 132 #[.val (.int pa), .val (.int pb), .val (.int pm), .val (.int ea), .val (.int ra), .val (.int eb), .val (.int rb), .val (.ref b22), .val (.ref b26), .val (.int (4 : Int32)), .unset, .unset] []) _
      refine XS.iload X29.here hx rfl (hb hby at_132) rfl ?_
      show own_S p e below T29 (mkF m 134 #[.val (.int pa), .val (.int pb), .val (.int pm), .val (.int ea), .val (.int ra), .val (.int eb), .val (.int rb), .val (.ref b22), .val (.ref b26), .val (.int (4 : Int32)), .unset, .unset] [(.int (4 : Int32))]) _
      refine XS.iconst X29.here hx rfl (hb hby at_134) ?_
      show own_S p e below T29 (mkF m 135 #[.val (.int pa), .val (.int pb), .val (.int pm), .val (.int ea), .val (.int ra), .val (.int eb), .val (.int rb), .val (.ref b22), .val (.ref b26), .val (.int (4 : Int32)), .unset, .unset] [(.int (2 : Int32)), (.int (4 : Int32))]) _
      refine XS.icmpYes X29.here hx rfl (pc0 := 135) (pc' := 147) rfl (hb hby at_135) rfl (feq (by decide : ¬ ((4 : Int32) = (2 : Int32)))).2 (by decide) (by decide) ?_
      show own_S p e below T29 (mkF m 147 #[.val (.int pa), .val (.int pb), .val (.int pm), .val (.int ea), .val (.int ra), .val (.int eb), .val (.int rb), .val (.ref b22), .val (.ref b26), .val (.int (4 : Int32)), .unset, .unset] []) _
      refine XS.iload X29.here hx rfl (hb hby at_147) rfl ?_
      show own_S p e below T29 (mkF m 149 #[.val (.int pa), .val (.int pb), .val (.int pm), .val (.int ea), .val (.int ra), .val (.int eb), .val (.int rb), .val (.ref b22), .val (.ref b26), .val (.int (4 : Int32)), .unset, .unset] [(.int (4 : Int32))]) _
      refine XS.iconst X29.here hx rfl (hb hby at_149) ?_
      show own_S p e below T29 (mkF m 150 #[.val (.int pa), .val (.int pb), .val (.int pm), .val (.int ea), .val (.int ra), .val (.int eb), .val (.int rb), .val (.ref b22), .val (.ref b26), .val (.int (4 : Int32)), .unset, .unset] [(.int (3 : Int32)), (.int (4 : Int32))]) _
      refine XS.icmpYes X29.here hx rfl (pc0 := 150) (pc' := 165) rfl (hb hby at_150) rfl (feq (by decide : ¬ ((4 : Int32) = (3 : Int32)))).2 (by decide) (by decide) ?_
      exact kt
    obtain ⟨T71, X71, e71, st71⟩ := getS2 X29 hx hZ hown (host := "") (Or.inl (hw _ (own_g (i := 30) rfl))) Via.refl e29 (S_CertificateFaults_NONE.ext O29.2) (g := (mkF m 165 #[.val (.int pa), .val (.int pb), .val (.int pm), .val (.int ea), .val (.int ra), .val (.int eb), .val (.int rb), .val (.ref b22), .val (.ref b26), .val (.int (4 : Int32)), .unset, .unset] [])) rfl (hb hby at_165)
    have r71 : own_R p e below _ _ T71 (mkF m 168 #[.val (.int pa), .val (.int pb), .val (.int pm), .val (.int ea), .val (.int ra), .val (.int eb), .val (.int rb), .val (.ref b22), .val (.ref b26), .val (.int (4 : Int32)), .unset, .unset] [(.ref s_NONE)]) := r70.trans fun z_ kt => st71 _ kt
    have r72 : own_R p e below _ _ T71 (mkF m 171 #[.val (.int pa), .val (.int pb), .val (.int pm), .val (.int ea), .val (.int ra), .val (.int eb), .val (.int rb), .val (.ref b22), .val (.ref b26), .val (.int (4 : Int32)), .val (.ref s_NONE), .unset] [(.int ea)]) := r71.trans fun z_ kt => by
      show own_S p e below T71 (mkF m 168 #[.val (.int pa), .val (.int pb), .val (.int pm), .val (.int ea), .val (.int ra), .val (.int eb), .val (.int rb), .val (.ref b22), .val (.ref b26), .val (.int (4 : Int32)), .unset, .unset] [(.ref s_NONE)]) _
      refine XS.astore X71.here hx rfl (hb hby at_168) rfl rfl (l' := #[.val (.int pa), .val (.int pb), .val (.int pm), .val (.int ea), .val (.int ra), .val (.int eb), .val (.int rb), .val (.ref b22), .val (.ref b26), .val (.int (4 : Int32)), .val (.ref s_NONE), .unset]) rfl ?_
      show own_S p e below T71 (mkF m 170 #[.val (.int pa), .val (.int pb), .val (.int pm), .val (.int ea), .val (.int ra), .val (.int eb), .val (.int rb), .val (.ref b22), .val (.ref b26), .val (.int (4 : Int32)), .val (.ref s_NONE), .unset] []) _
      refine XS.iloadN X71.here hx rfl (hb hby at_170) rfl ?_
      exact kt
    by_cases hc171_73 : ea = (0 : Int32)
    · skip
      have r74 : own_R p e below _ _ T71 (mkF m 176 #[.val (.int pa), .val (.int pb), .val (.int pm), .val (.int ea), .val (.int ra), .val (.int eb), .val (.int rb), .val (.ref b22), .val (.ref b26), .val (.int (4 : Int32)), .val (.ref s_NONE), .unset] [(.int ra)]) := r72.trans fun z_ kt => by
        show own_S p e below T71 (mkF m 171 #[.val (.int pa), .val (.int pb), .val (.int pm), .val (.int ea), .val (.int ra), .val (.int eb), .val (.int rb), .val (.ref b22), .val (.ref b26), .val (.int (4 : Int32)), .val (.ref s_NONE), .unset] [(.int ea)]) _
        refine XS.ifNo X71.here hx rfl (hb hby at_171) rfl ((if0 _ _).trans (teq (hc171_73 : ea = (0 : Int32))).2) ?_
        show own_S p e below T71 (mkF m 174 #[.val (.int pa), .val (.int pb), .val (.int pm), .val (.int ea), .val (.int ra), .val (.int eb), .val (.int rb), .val (.ref b22), .val (.ref b26), .val (.int (4 : Int32)), .val (.ref s_NONE), .unset] []) _
        refine XS.iload X71.here hx rfl (hb hby at_174) rfl ?_
        exact kt
      by_cases hc176_75 : ra = (0 : Int32)
      · skip
        have f76 := ((f27.ext E26).keep Kq29)
        have r77 : own_R p e below _ _ T71 (mkF m 190 #[.val (.int pa), .val (.int pb), .val (.int pm), .val (.int ea), .val (.int ra), .val (.int eb), .val (.int rb), .val (.ref b22), .val (.ref b26), .val (.int (4 : Int32)), .val (.ref s_NONE), .val (.int (1 : Int32))] [(.ref s_NONE), (.ref b22)]) := r74.trans fun z_ kt => by
          show own_S p e below T71 (mkF m 176 #[.val (.int pa), .val (.int pb), .val (.int pm), .val (.int ea), .val (.int ra), .val (.int eb), .val (.int rb), .val (.ref b22), .val (.ref b26), .val (.int (4 : Int32)), .val (.ref s_NONE), .unset] [(.int ra)]) _
          refine XS.ifNo X71.here hx rfl (hb hby at_176) rfl ((if0 _ _).trans (teq (hc176_75 : ra = (0 : Int32))).2) ?_
          show own_S p e below T71 (mkF m 179 #[.val (.int pa), .val (.int pb), .val (.int pm), .val (.int ea), .val (.int ra), .val (.int eb), .val (.int rb), .val (.ref b22), .val (.ref b26), .val (.int (4 : Int32)), .val (.ref s_NONE), .unset] []) _
          refine XS.iconst X71.here hx rfl (hb hby at_179) ?_
          show own_S p e below T71 (mkF m 180 #[.val (.int pa), .val (.int pb), .val (.int pm), .val (.int ea), .val (.int ra), .val (.int eb), .val (.int rb), .val (.ref b22), .val (.ref b26), .val (.int (4 : Int32)), .val (.ref s_NONE), .unset] [(.int (1 : Int32))]) _
          refine XS.goto X71.here hx rfl (pc0 := 180) (pc' := 184) rfl (hb hby at_180) (by decide) (by decide) ?_
          show own_S p e below T71 (mkF m 184 #[.val (.int pa), .val (.int pb), .val (.int pm), .val (.int ea), .val (.int ra), .val (.int eb), .val (.int rb), .val (.ref b22), .val (.ref b26), .val (.int (4 : Int32)), .val (.ref s_NONE), .unset] [(.int (1 : Int32))]) _
          refine XS.istore X71.here hx rfl (hb hby at_184) rfl (l' := #[.val (.int pa), .val (.int pb), .val (.int pm), .val (.int ea), .val (.int ra), .val (.int eb), .val (.int rb), .val (.ref b22), .val (.ref b26), .val (.int (4 : Int32)), .val (.ref s_NONE), .val (.int (1 : Int32))]) rfl ?_
          show own_S p e below T71 (mkF m 186 #[.val (.int pa), .val (.int pb), .val (.int pm), .val (.int ea), .val (.int ra), .val (.int eb), .val (.int rb), .val (.ref b22), .val (.ref b26), .val (.int (4 : Int32)), .val (.ref s_NONE), .val (.int (1 : Int32))] []) _
          refine XS.aload X71.here hx rfl (hb hby at_186) rfl rfl ?_
          show own_S p e below T71 (mkF m 188 #[.val (.int pa), .val (.int pb), .val (.int pm), .val (.int ea), .val (.int ra), .val (.int eb), .val (.int rb), .val (.ref b22), .val (.ref b26), .val (.int (4 : Int32)), .val (.ref s_NONE), .val (.int (1 : Int32))] [(.ref b22)]) _
          refine XS.aload X71.here hx rfl (hb hby at_188) rfl rfl ?_
          exact kt
        have f78 := ((p24_0.ext E26).keep Kq29 (ninS ne_b22_b26 nin0))
        have f79 := ((p24_1.ext E26).keep Kq29 (ninS ne_b22_b26 nin0))
        obtain ⟨cq80, kq80, q80a, q80b, q80c⟩ := isOf hZ e71 f76
        obtain ⟨_, _, ⟨T80, L80, cc80, n80⟩, -, X80, ⟨Lc80, hQ80, l80, y80, z80⟩, st80⟩ := X71.virtualBack hx (y := (⟨"com/example/nonce/nonce/web/CertificateFaults", "equals", "(Ljava/lang/Object;)Z"⟩ : MethodName)) (z := (⟨"com/example/nonce/nonce/web/CertificateFaults", "equals", "(Ljava/lang/Object;)Z"⟩ : MethodName)) hown (mvT hZ (hw _ (own_g (i := 14) rfl))) (mvT hZ (hw _ (own_g (i := 15) rfl))) (notFace_of_selects (args := #[]) (mvT hZ (hw _ (own_g (i := 17) rfl)))) (mvT hZ (hw _ (own_g (i := 17) rfl))) (mvT hZ (hw _ (own_g (i := 16) rfl))) (by decide) (backOf (W := 0) (rm_eqObj l Z a0 hw [] (b22) (s_NONE) (ea) (ra) ((0 : Int32)) ((0 : Int32)) ((1 : Int32)) h29 n0 O29 ((OE_s_NONE.ext O29.2)) ((Ne.symm (O29.ne OE_s_NONE.lt g_b22))) (f78) (f79) ((OF_s_NONE_expiry.ext O29.2)) ((OF_s_NONE_revocation.ext O29.2)) (Or.inl ⟨hc171_73, hc176_75, rfl⟩)) hZ (hw _ (own_g (i := 18) rfl)) (hw _ (own_g (i := 2) rfl)) (by decide) (by decide)) q80a q80c (g := (mkF m 190 #[.val (.int pa), .val (.int pb), .val (.int pm), .val (.int ea), .val (.int ra), .val (.int eb), .val (.int rb), .val (.ref b22), .val (.ref b26), .val (.int (4 : Int32)), .val (.ref s_NONE), .val (.int (1 : Int32))] [(.ref s_NONE), (.ref b22)])) rfl (by rw [hml]; rfl) (Steps.refl _) (argsL := [(.ref s_NONE)]) (rest := []) (lenOf pd_3 rfl) rfl (by show 2 * 0 + _ ≤ _; exact Nat.le_of_eq rfl) (hb hby at_190) (fun _ _ => ⟨rfl, e71, (by decide : 2 + 0 ≤ _), (by decide : 4 + 0 ≤ _)⟩)
        dsimp only [Pt.U, Pt.locs, Pt.cells, Pt.slots] at X80 l80 y80 z80 st80 hQ80
        subst l80 y80 z80
        obtain ⟨rfl, Nq80, eq80⟩ := hQ80
        have N80 := Fr.app N29 Nq80
        have r80 : own_R p e below _ _ T80 (mkF m 193 #[.val (.int pa), .val (.int pb), .val (.int pm), .val (.int ea), .val (.int ra), .val (.int eb), .val (.int rb), .val (.ref b22), .val (.ref b26), .val (.int (4 : Int32)), .val (.ref s_NONE), .val (.int (1 : Int32))] [(.int (1 : Int32))]) := r77.trans fun z_ kt => st80.trans kt
        have e80 : T80.heap = h29 := eq80
        have r81 : own_R p e below _ _ T80 (mkF m 203 #[.val (.int pa), .val (.int pb), .val (.int pm), .val (.int ea), .val (.int ra), .val (.int eb), .val (.int rb), .val (.ref b22), .val (.ref b26), .val (.int (4 : Int32)), .val (.ref s_NONE), .val (.int (1 : Int32))] [(.int (1 : Int32))]) := r80.trans fun z_ kt => by
          show own_S p e below T80 (mkF m 193 #[.val (.int pa), .val (.int pb), .val (.int pm), .val (.int ea), .val (.int ra), .val (.int eb), .val (.int rb), .val (.ref b22), .val (.ref b26), .val (.int (4 : Int32)), .val (.ref s_NONE), .val (.int (1 : Int32))] [(.int (1 : Int32))]) _
          refine XS.iload X80.here hx rfl (hb hby at_193) rfl ?_
          show own_S p e below T80 (mkF m 195 #[.val (.int pa), .val (.int pb), .val (.int pm), .val (.int ea), .val (.int ra), .val (.int eb), .val (.int rb), .val (.ref b22), .val (.ref b26), .val (.int (4 : Int32)), .val (.ref s_NONE), .val (.int (1 : Int32))] [(.int (1 : Int32)), (.int (1 : Int32))]) _
          refine XS.icmpNo X80.here hx rfl (hb hby at_195) rfl (teq (by decide : (1 : Int32) = (1 : Int32))).2 ?_
          show own_S p e below T80 (mkF m 198 #[.val (.int pa), .val (.int pb), .val (.int pm), .val (.int ea), .val (.int ra), .val (.int eb), .val (.int rb), .val (.ref b22), .val (.ref b26), .val (.int (4 : Int32)), .val (.ref s_NONE), .val (.int (1 : Int32))] []) _
          refine XS.iconst X80.here hx rfl (hb hby at_198) ?_
          show own_S p e below T80 (mkF m 199 #[.val (.int pa), .val (.int pb), .val (.int pm), .val (.int ea), .val (.int ra), .val (.int eb), .val (.int rb), .val (.ref b22), .val (.ref b26), .val (.int (4 : Int32)), .val (.ref s_NONE), .val (.int (1 : Int32))] [(.int (1 : Int32))]) _
          refine XS.goto X80.here hx rfl (pc0 := 199) (pc' := 203) rfl (hb hby at_199) (by decide) (by decide) ?_
          exact kt
        obtain ⟨fs, hr, hrun, hended, hW, hsame⟩ := X80.leave (v := some (.int (1 : Int32))) (fun h => by rw [Bd.returns] at h; cases h)
        refine ⟨_, _, pre0 _ (r81 _ ?_), hrun, hended, _, _, rfl, ?_, ⟨_, rfl⟩, hW, hsame.mono (by decide) (by decide)⟩
        · exact retN X80 hx (t := .boolean) Bd.returns (by simp) (hb hby at_203) hr
        · show Q_law Z pa pb pm s_NONE ca kc vc h0 n0 _ T80.heap _
          rw [e80]
          exact ⟨rfl, N80⟩
      · skip
        have f82 := ((f27.ext E26).keep Kq29)
        have r83 : own_R p e below _ _ T71 (mkF m 190 #[.val (.int pa), .val (.int pb), .val (.int pm), .val (.int ea), .val (.int ra), .val (.int eb), .val (.int rb), .val (.ref b22), .val (.ref b26), .val (.int (4 : Int32)), .val (.ref s_NONE), .val (.int (0 : Int32))] [(.ref s_NONE), (.ref b22)]) := r74.trans fun z_ kt => by
          show own_S p e below T71 (mkF m 176 #[.val (.int pa), .val (.int pb), .val (.int pm), .val (.int ea), .val (.int ra), .val (.int eb), .val (.int rb), .val (.ref b22), .val (.ref b26), .val (.int (4 : Int32)), .val (.ref s_NONE), .unset] [(.int ra)]) _
          refine XS.ifYes X71.here hx rfl (pc0 := 176) (pc' := 183) rfl (hb hby at_176) rfl ((if0 _ _).trans (feq (hc176_75 : ¬ (ra = (0 : Int32)))).2) (by decide) (by decide) ?_
          show own_S p e below T71 (mkF m 183 #[.val (.int pa), .val (.int pb), .val (.int pm), .val (.int ea), .val (.int ra), .val (.int eb), .val (.int rb), .val (.ref b22), .val (.ref b26), .val (.int (4 : Int32)), .val (.ref s_NONE), .unset] []) _
          refine XS.iconst X71.here hx rfl (hb hby at_183) ?_
          show own_S p e below T71 (mkF m 184 #[.val (.int pa), .val (.int pb), .val (.int pm), .val (.int ea), .val (.int ra), .val (.int eb), .val (.int rb), .val (.ref b22), .val (.ref b26), .val (.int (4 : Int32)), .val (.ref s_NONE), .unset] [(.int (0 : Int32))]) _
          refine XS.istore X71.here hx rfl (hb hby at_184) rfl (l' := #[.val (.int pa), .val (.int pb), .val (.int pm), .val (.int ea), .val (.int ra), .val (.int eb), .val (.int rb), .val (.ref b22), .val (.ref b26), .val (.int (4 : Int32)), .val (.ref s_NONE), .val (.int (0 : Int32))]) rfl ?_
          show own_S p e below T71 (mkF m 186 #[.val (.int pa), .val (.int pb), .val (.int pm), .val (.int ea), .val (.int ra), .val (.int eb), .val (.int rb), .val (.ref b22), .val (.ref b26), .val (.int (4 : Int32)), .val (.ref s_NONE), .val (.int (0 : Int32))] []) _
          refine XS.aload X71.here hx rfl (hb hby at_186) rfl rfl ?_
          show own_S p e below T71 (mkF m 188 #[.val (.int pa), .val (.int pb), .val (.int pm), .val (.int ea), .val (.int ra), .val (.int eb), .val (.int rb), .val (.ref b22), .val (.ref b26), .val (.int (4 : Int32)), .val (.ref s_NONE), .val (.int (0 : Int32))] [(.ref b22)]) _
          refine XS.aload X71.here hx rfl (hb hby at_188) rfl rfl ?_
          exact kt
        have f84 := ((p24_0.ext E26).keep Kq29 (ninS ne_b22_b26 nin0))
        have f85 := ((p24_1.ext E26).keep Kq29 (ninS ne_b22_b26 nin0))
        obtain ⟨cq86, kq86, q86a, q86b, q86c⟩ := isOf hZ e71 f82
        obtain ⟨_, _, ⟨T86, L86, cc86, n86⟩, -, X86, ⟨Lc86, hQ86, l86, y86, z86⟩, st86⟩ := X71.virtualBack hx (y := (⟨"com/example/nonce/nonce/web/CertificateFaults", "equals", "(Ljava/lang/Object;)Z"⟩ : MethodName)) (z := (⟨"com/example/nonce/nonce/web/CertificateFaults", "equals", "(Ljava/lang/Object;)Z"⟩ : MethodName)) hown (mvT hZ (hw _ (own_g (i := 14) rfl))) (mvT hZ (hw _ (own_g (i := 15) rfl))) (notFace_of_selects (args := #[]) (mvT hZ (hw _ (own_g (i := 17) rfl)))) (mvT hZ (hw _ (own_g (i := 17) rfl))) (mvT hZ (hw _ (own_g (i := 16) rfl))) (by decide) (backOf (W := 0) (rm_eqObj l Z a0 hw [] (b22) (s_NONE) (ea) (ra) ((0 : Int32)) ((0 : Int32)) ((0 : Int32)) h29 n0 O29 ((OE_s_NONE.ext O29.2)) ((Ne.symm (O29.ne OE_s_NONE.lt g_b22))) (f84) (f85) ((OF_s_NONE_expiry.ext O29.2)) ((OF_s_NONE_revocation.ext O29.2)) (Or.inr (Or.inl ⟨hc171_73, hc176_75, rfl⟩))) hZ (hw _ (own_g (i := 18) rfl)) (hw _ (own_g (i := 2) rfl)) (by decide) (by decide)) q86a q86c (g := (mkF m 190 #[.val (.int pa), .val (.int pb), .val (.int pm), .val (.int ea), .val (.int ra), .val (.int eb), .val (.int rb), .val (.ref b22), .val (.ref b26), .val (.int (4 : Int32)), .val (.ref s_NONE), .val (.int (0 : Int32))] [(.ref s_NONE), (.ref b22)])) rfl (by rw [hml]; rfl) (Steps.refl _) (argsL := [(.ref s_NONE)]) (rest := []) (lenOf pd_3 rfl) rfl (by show 2 * 0 + _ ≤ _; exact Nat.le_of_eq rfl) (hb hby at_190) (fun _ _ => ⟨rfl, e71, (by decide : 2 + 0 ≤ _), (by decide : 4 + 0 ≤ _)⟩)
        dsimp only [Pt.U, Pt.locs, Pt.cells, Pt.slots] at X86 l86 y86 z86 st86 hQ86
        subst l86 y86 z86
        obtain ⟨rfl, Nq86, eq86⟩ := hQ86
        have N86 := Fr.app N29 Nq86
        have r86 : own_R p e below _ _ T86 (mkF m 193 #[.val (.int pa), .val (.int pb), .val (.int pm), .val (.int ea), .val (.int ra), .val (.int eb), .val (.int rb), .val (.ref b22), .val (.ref b26), .val (.int (4 : Int32)), .val (.ref s_NONE), .val (.int (0 : Int32))] [(.int (0 : Int32))]) := r83.trans fun z_ kt => st86.trans kt
        have e86 : T86.heap = h29 := eq86
        have r87 : own_R p e below _ _ T86 (mkF m 203 #[.val (.int pa), .val (.int pb), .val (.int pm), .val (.int ea), .val (.int ra), .val (.int eb), .val (.int rb), .val (.ref b22), .val (.ref b26), .val (.int (4 : Int32)), .val (.ref s_NONE), .val (.int (0 : Int32))] [(.int (1 : Int32))]) := r86.trans fun z_ kt => by
          show own_S p e below T86 (mkF m 193 #[.val (.int pa), .val (.int pb), .val (.int pm), .val (.int ea), .val (.int ra), .val (.int eb), .val (.int rb), .val (.ref b22), .val (.ref b26), .val (.int (4 : Int32)), .val (.ref s_NONE), .val (.int (0 : Int32))] [(.int (0 : Int32))]) _
          refine XS.iload X86.here hx rfl (hb hby at_193) rfl ?_
          show own_S p e below T86 (mkF m 195 #[.val (.int pa), .val (.int pb), .val (.int pm), .val (.int ea), .val (.int ra), .val (.int eb), .val (.int rb), .val (.ref b22), .val (.ref b26), .val (.int (4 : Int32)), .val (.ref s_NONE), .val (.int (0 : Int32))] [(.int (0 : Int32)), (.int (0 : Int32))]) _
          refine XS.icmpNo X86.here hx rfl (hb hby at_195) rfl (teq (by decide : (0 : Int32) = (0 : Int32))).2 ?_
          show own_S p e below T86 (mkF m 198 #[.val (.int pa), .val (.int pb), .val (.int pm), .val (.int ea), .val (.int ra), .val (.int eb), .val (.int rb), .val (.ref b22), .val (.ref b26), .val (.int (4 : Int32)), .val (.ref s_NONE), .val (.int (0 : Int32))] []) _
          refine XS.iconst X86.here hx rfl (hb hby at_198) ?_
          show own_S p e below T86 (mkF m 199 #[.val (.int pa), .val (.int pb), .val (.int pm), .val (.int ea), .val (.int ra), .val (.int eb), .val (.int rb), .val (.ref b22), .val (.ref b26), .val (.int (4 : Int32)), .val (.ref s_NONE), .val (.int (0 : Int32))] [(.int (1 : Int32))]) _
          refine XS.goto X86.here hx rfl (pc0 := 199) (pc' := 203) rfl (hb hby at_199) (by decide) (by decide) ?_
          exact kt
        obtain ⟨fs, hr, hrun, hended, hW, hsame⟩ := X86.leave (v := some (.int (1 : Int32))) (fun h => by rw [Bd.returns] at h; cases h)
        refine ⟨_, _, pre0 _ (r87 _ ?_), hrun, hended, _, _, rfl, ?_, ⟨_, rfl⟩, hW, hsame.mono (by decide) (by decide)⟩
        · exact retN X86 hx (t := .boolean) Bd.returns (by simp) (hb hby at_203) hr
        · show Q_law Z pa pb pm s_NONE ca kc vc h0 n0 _ T86.heap _
          rw [e86]
          exact ⟨rfl, N86⟩
    · skip
      have f88 := ((f27.ext E26).keep Kq29)
      have r89 : own_R p e below _ _ T71 (mkF m 190 #[.val (.int pa), .val (.int pb), .val (.int pm), .val (.int ea), .val (.int ra), .val (.int eb), .val (.int rb), .val (.ref b22), .val (.ref b26), .val (.int (4 : Int32)), .val (.ref s_NONE), .val (.int (0 : Int32))] [(.ref s_NONE), (.ref b22)]) := r72.trans fun z_ kt => by
        show own_S p e below T71 (mkF m 171 #[.val (.int pa), .val (.int pb), .val (.int pm), .val (.int ea), .val (.int ra), .val (.int eb), .val (.int rb), .val (.ref b22), .val (.ref b26), .val (.int (4 : Int32)), .val (.ref s_NONE), .unset] [(.int ea)]) _
        refine XS.ifYes X71.here hx rfl (pc0 := 171) (pc' := 183) rfl (hb hby at_171) rfl ((if0 _ _).trans (feq (hc171_73 : ¬ (ea = (0 : Int32)))).2) (by decide) (by decide) ?_
        show own_S p e below T71 (mkF m 183 #[.val (.int pa), .val (.int pb), .val (.int pm), .val (.int ea), .val (.int ra), .val (.int eb), .val (.int rb), .val (.ref b22), .val (.ref b26), .val (.int (4 : Int32)), .val (.ref s_NONE), .unset] []) _
        refine XS.iconst X71.here hx rfl (hb hby at_183) ?_
        show own_S p e below T71 (mkF m 184 #[.val (.int pa), .val (.int pb), .val (.int pm), .val (.int ea), .val (.int ra), .val (.int eb), .val (.int rb), .val (.ref b22), .val (.ref b26), .val (.int (4 : Int32)), .val (.ref s_NONE), .unset] [(.int (0 : Int32))]) _
        refine XS.istore X71.here hx rfl (hb hby at_184) rfl (l' := #[.val (.int pa), .val (.int pb), .val (.int pm), .val (.int ea), .val (.int ra), .val (.int eb), .val (.int rb), .val (.ref b22), .val (.ref b26), .val (.int (4 : Int32)), .val (.ref s_NONE), .val (.int (0 : Int32))]) rfl ?_
        show own_S p e below T71 (mkF m 186 #[.val (.int pa), .val (.int pb), .val (.int pm), .val (.int ea), .val (.int ra), .val (.int eb), .val (.int rb), .val (.ref b22), .val (.ref b26), .val (.int (4 : Int32)), .val (.ref s_NONE), .val (.int (0 : Int32))] []) _
        refine XS.aload X71.here hx rfl (hb hby at_186) rfl rfl ?_
        show own_S p e below T71 (mkF m 188 #[.val (.int pa), .val (.int pb), .val (.int pm), .val (.int ea), .val (.int ra), .val (.int eb), .val (.int rb), .val (.ref b22), .val (.ref b26), .val (.int (4 : Int32)), .val (.ref s_NONE), .val (.int (0 : Int32))] [(.ref b22)]) _
        refine XS.aload X71.here hx rfl (hb hby at_188) rfl rfl ?_
        exact kt
      have f90 := ((p24_0.ext E26).keep Kq29 (ninS ne_b22_b26 nin0))
      have f91 := ((p24_1.ext E26).keep Kq29 (ninS ne_b22_b26 nin0))
      obtain ⟨cq92, kq92, q92a, q92b, q92c⟩ := isOf hZ e71 f88
      obtain ⟨_, _, ⟨T92, L92, cc92, n92⟩, -, X92, ⟨Lc92, hQ92, l92, y92, z92⟩, st92⟩ := X71.virtualBack hx (y := (⟨"com/example/nonce/nonce/web/CertificateFaults", "equals", "(Ljava/lang/Object;)Z"⟩ : MethodName)) (z := (⟨"com/example/nonce/nonce/web/CertificateFaults", "equals", "(Ljava/lang/Object;)Z"⟩ : MethodName)) hown (mvT hZ (hw _ (own_g (i := 14) rfl))) (mvT hZ (hw _ (own_g (i := 15) rfl))) (notFace_of_selects (args := #[]) (mvT hZ (hw _ (own_g (i := 17) rfl)))) (mvT hZ (hw _ (own_g (i := 17) rfl))) (mvT hZ (hw _ (own_g (i := 16) rfl))) (by decide) (backOf (W := 0) (rm_eqObj l Z a0 hw [] (b22) (s_NONE) (ea) (ra) ((0 : Int32)) ((0 : Int32)) ((0 : Int32)) h29 n0 O29 ((OE_s_NONE.ext O29.2)) ((Ne.symm (O29.ne OE_s_NONE.lt g_b22))) (f90) (f91) ((OF_s_NONE_expiry.ext O29.2)) ((OF_s_NONE_revocation.ext O29.2)) (Or.inr (Or.inr ⟨hc171_73, rfl⟩))) hZ (hw _ (own_g (i := 18) rfl)) (hw _ (own_g (i := 2) rfl)) (by decide) (by decide)) q92a q92c (g := (mkF m 190 #[.val (.int pa), .val (.int pb), .val (.int pm), .val (.int ea), .val (.int ra), .val (.int eb), .val (.int rb), .val (.ref b22), .val (.ref b26), .val (.int (4 : Int32)), .val (.ref s_NONE), .val (.int (0 : Int32))] [(.ref s_NONE), (.ref b22)])) rfl (by rw [hml]; rfl) (Steps.refl _) (argsL := [(.ref s_NONE)]) (rest := []) (lenOf pd_3 rfl) rfl (by show 2 * 0 + _ ≤ _; exact Nat.le_of_eq rfl) (hb hby at_190) (fun _ _ => ⟨rfl, e71, (by decide : 2 + 0 ≤ _), (by decide : 4 + 0 ≤ _)⟩)
      dsimp only [Pt.U, Pt.locs, Pt.cells, Pt.slots] at X92 l92 y92 z92 st92 hQ92
      subst l92 y92 z92
      obtain ⟨rfl, Nq92, eq92⟩ := hQ92
      have N92 := Fr.app N29 Nq92
      have r92 : own_R p e below _ _ T92 (mkF m 193 #[.val (.int pa), .val (.int pb), .val (.int pm), .val (.int ea), .val (.int ra), .val (.int eb), .val (.int rb), .val (.ref b22), .val (.ref b26), .val (.int (4 : Int32)), .val (.ref s_NONE), .val (.int (0 : Int32))] [(.int (0 : Int32))]) := r89.trans fun z_ kt => st92.trans kt
      have e92 : T92.heap = h29 := eq92
      have r93 : own_R p e below _ _ T92 (mkF m 203 #[.val (.int pa), .val (.int pb), .val (.int pm), .val (.int ea), .val (.int ra), .val (.int eb), .val (.int rb), .val (.ref b22), .val (.ref b26), .val (.int (4 : Int32)), .val (.ref s_NONE), .val (.int (0 : Int32))] [(.int (1 : Int32))]) := r92.trans fun z_ kt => by
        show own_S p e below T92 (mkF m 193 #[.val (.int pa), .val (.int pb), .val (.int pm), .val (.int ea), .val (.int ra), .val (.int eb), .val (.int rb), .val (.ref b22), .val (.ref b26), .val (.int (4 : Int32)), .val (.ref s_NONE), .val (.int (0 : Int32))] [(.int (0 : Int32))]) _
        refine XS.iload X92.here hx rfl (hb hby at_193) rfl ?_
        show own_S p e below T92 (mkF m 195 #[.val (.int pa), .val (.int pb), .val (.int pm), .val (.int ea), .val (.int ra), .val (.int eb), .val (.int rb), .val (.ref b22), .val (.ref b26), .val (.int (4 : Int32)), .val (.ref s_NONE), .val (.int (0 : Int32))] [(.int (0 : Int32)), (.int (0 : Int32))]) _
        refine XS.icmpNo X92.here hx rfl (hb hby at_195) rfl (teq (by decide : (0 : Int32) = (0 : Int32))).2 ?_
        show own_S p e below T92 (mkF m 198 #[.val (.int pa), .val (.int pb), .val (.int pm), .val (.int ea), .val (.int ra), .val (.int eb), .val (.int rb), .val (.ref b22), .val (.ref b26), .val (.int (4 : Int32)), .val (.ref s_NONE), .val (.int (0 : Int32))] []) _
        refine XS.iconst X92.here hx rfl (hb hby at_198) ?_
        show own_S p e below T92 (mkF m 199 #[.val (.int pa), .val (.int pb), .val (.int pm), .val (.int ea), .val (.int ra), .val (.int eb), .val (.int rb), .val (.ref b22), .val (.ref b26), .val (.int (4 : Int32)), .val (.ref s_NONE), .val (.int (0 : Int32))] [(.int (1 : Int32))]) _
        refine XS.goto X92.here hx rfl (pc0 := 199) (pc' := 203) rfl (hb hby at_199) (by decide) (by decide) ?_
        exact kt
      obtain ⟨fs, hr, hrun, hended, hW, hsame⟩ := X92.leave (v := some (.int (1 : Int32))) (fun h => by rw [Bd.returns] at h; cases h)
      refine ⟨_, _, pre0 _ (r93 _ ?_), hrun, hended, _, _, rfl, ?_, ⟨_, rfl⟩, hW, hsame.mono (by decide) (by decide)⟩
      · exact retN X92 hx (t := .boolean) Bd.returns (by simp) (hb hby at_203) hr
      · show Q_law Z pa pb pm s_NONE ca kc vc h0 n0 _ T92.heap _
        rw [e92]
        exact ⟨rfl, N92⟩

theorem own_eq_int {s : State} {args : Array Value} {t : Jvm.Term} {k : Int32} (h : (Jvm.Cond.eq t (Jvm.Term.int k)).value args s none s [] = some true) : t.eval args s none [] s = some (.int k) := by
  cases hv : t.eval args s none [] s with
  | none => simp [Cond.value, hv] at h
  | some v => cases v <;> simp_all [Cond.value, Term.eval]
theorem own_all {s : State} {args : Array Value} {t : Jvm.Term} {a : Addr} {cl : Cell} (et : ∀ idx, t.eval args s none idx s = some (.ref a)) (A : Arr s s.heap a cl (.object "java/lang/Integer")) (L1 : cl.slots.size < 2 ^ 31) (L2 : cl.slots.size.toInt32 = (256 : Int32))
    (h : (Jvm.Cond.all t (.and (.exactly (.elem t (.index 0)) "java/lang/Integer") (.eq (.field (.elem t (.index 0)) "java/lang/Integer" "value" "I") (.sub (.index 0) (.int (128 : Int32)))))).value args s none s [] = some true) :
    Arv s s.heap a cl.cls (.object "java/lang/Integer") (256 : Int32) cl.slots.toList .null ∧ ∀ i : Nat, i < 256 → ∃ y : Addr, cl.slots.toList.getD i .null = .ref y ∧ Exa s s.heap y "java/lang/Integer" := by
  have B : Bxs s a cl "java/lang/Integer" "I" (256 : Int32) (fun j => .int (j - 128)) := Bxs.start et A L1 L2 (by decide) h (fun X j hj hX => eqv_i (by
    have q : (Term.index 0).eval args s none [j.toNatClampNeg] s = some (.int j) := idx_at hj
    simp [Term.eval] at q ⊢
    simp [q]) hX)
  have hs : cl.slots.size = 256 := B.2.1
  have key : ∀ i : Nat, i < 256 → ∃ y : Addr, cl.slots[i]? = some (.ref y) ∧ Exa s s.heap y "java/lang/Integer" := fun i hi => by
    have e : (Int32.ofNat i).toNatClampNeg = i := by rw [Int32.toNatClampNeg, Int32.toInt_ofNat_of_lt (by omega)]; rfl
    have hj : ¬ (Int32.ofNat i < 0 ∨ cl.slots.size ≤ (Int32.ofNat i).toNatClampNeg) := by
      rw [e, hs, Int32.lt_iff_toInt_lt, Int32.toInt_ofNat_of_lt (by omega), show (0 : Int32).toInt = 0 from rfl]
      omega
    obtain ⟨b, b1, b2, -⟩ := B.2.2.2 (Int32.ofNat i) hj
    rw [e] at b1
    exact ⟨b, b1, b2⟩
  have gd : ∀ i : Nat, i < 256 → cl.slots[i]? = some (cl.slots.toList.getD i .null) := fun i hi => by
    obtain ⟨y, y1, -⟩ := key i hi
    rw [List.getD_eq_getElem?_getD, Array.getElem?_toList, y1]
    rfl
  refine ⟨⟨cl, A, rfl, B.2.1, B.2.2.1, fun i hi => gd i (by omega), fun i hi => ?_⟩, fun i hi => ?_⟩
  · obtain ⟨y, y1, -⟩ := key i (by omega)
    have q := gd i (by omega)
    rw [y1] at q
    rw [← Option.some.inj q]
    rfl
  · obtain ⟨y, y1, y2⟩ := key i hi
    have q := gd i hi
    rw [y1] at q
    exact ⟨y, (Option.some.inj q).symm, y2⟩

set_option maxRecDepth 65536 in
set_option maxHeartbeats 40000000 in
theorem comes_1 {Post : Tables → Env → Array Value → State → Outcome → State → Prop} (hpost : ∀ tb e args s v u, (limb_1_1.after args s (.returned v) u = true ∧ limb_1_2.after args s (.returned v) u = true ∧ True) → FrameEnd s (.returned v) u (Jvm.fieldLocs frame_1_writes args s ++ Jvm.arrayLocs frame_1_arrays args s ++ Jvm.staticLocs frame_1_statics s) 16 128 → Post tb e args s (.returned v) u) :
    ArmFor flags0 classFile x code maxLocals ret World_1 tables_1 room_1 Calls_1 rest_1 Pre_1 Post := by
  intro l hfl _ _ p e ha hc hk s m args below hf hA hF happ hP
  obtain ⟨hcalls, hrest, hpre⟩ := hP
  obtain ⟨-, -, -, hnamed, -, -, -, hat⟩ := (Spec.applies_iff hf).mp happ
  obtain ⟨hg, hn⟩ := and_e (Cond.before_iff.mp (show (Jvm.Cond.and given_1 narrow_1).before args s = true from hpre))
  obtain ⟨u1a, u1b⟩ := and_e hg
  obtain ⟨u2a, u2b⟩ := and_e u1b
  obtain ⟨u3a, u3b⟩ := and_e u2b
  obtain ⟨w0, w1, w2, rfl⟩ : ∃ w0 w1 w2 : Value, args = #[w0, w1, w2] := by
    have hs : args.size = 3 := by simpa [Cond.value, given_1] using u1a
    obtain ⟨L⟩ := args
    match L, hs with
    | [w0, w1, w2], _ => exact ⟨w0, w1, w2, rfl⟩
  have hw := fun d (hd : d ∈ tables_1) => atoms_spec (ws := Jvm.Cond.code x code maxLocals ret :: tables_1) hat d (List.mem_cons_of_mem _ hd)
  have hfit : Fit s := fun {y c} hc i hi => by
    obtain ⟨ha, rfl⟩ := Array.getElem?_eq_some_iff.mp hc
    have q := List.all_eq_true.mp ((Array.all_eq_true_iff_forall_mem.mp hF) _ (Array.getElem_mem ha)) i (List.mem_range.mpr hi)
    simpa [Array.getElem?_eq_getElem hi] using q
  obtain ⟨hsets, hown0⟩ := atoms_of _ (rest_1_c_eq ▸ (show rest_1_c.before _ s = true from hrest))
  have hr0 := Cond.before_iff.mp hown0
  obtain ⟨i0, ei0⟩ := is_v u2a
  obtain rfl : w0 = (.int i0) := Option.some.inj ei0
  obtain ⟨i1, ei1⟩ := is_v u3a
  obtain rfl : w1 = (.int i1) := Option.some.inj ei1
  obtain ⟨i2, ei2⟩ := is_v u3b
  obtain rfl : w2 = (.int i2) := Option.some.inj ei2
  obtain ⟨u4a, u4b⟩ := and_e hn
  obtain ⟨u5a, u5b⟩ := and_e u4b
  obtain ⟨s_NONE, ev_s_NONE⟩ := exa_v u4a
  have OE_s_NONE := Exa.start ev_s_NONE u4a
  have S_s_NONE := Sta.start ev_s_NONE (Or.inr ⟨(hw _ (own_g (i := 2) rfl)), (hw _ (own_g (i := 31) rfl))⟩)
  have OF_s_NONE_expiry : Fld s s.heap s_NONE "com/example/nonce/nonce/web/CertificateFaults" "expiry" "Z" (.int (0 : Int32)) := own_eq_fld ev_s_NONE u5a
  have OF_s_NONE_revocation : Fld s s.heap s_NONE "com/example/nonce/nonce/web/CertificateFaults" "revocation" "Z" (.int (0 : Int32)) := own_eq_fld ev_s_NONE u5b
  have hH := own_eq_int (Cond.before_iff.mp (hsets _ (List.mem_of_getElem? (i := 3) rfl)))
  have S_high := Sta.start hH (Or.inl (hsets _ (List.mem_of_getElem? (i := 1) rfl)))
  obtain ⟨ca, ev_ca⟩ := arr_v (Cond.before_iff.mp (hsets _ (List.mem_of_getElem? (i := 4) rfl)))
  obtain ⟨cl, A⟩ := Arr.start ev_ca (Cond.before_iff.mp (hsets _ (List.mem_of_getElem? (i := 4) rfl)))
  have S_ca := Sta.start ev_ca (Or.inr ⟨(hw _ (own_g (i := 24) rfl)), (hsets _ (List.mem_of_getElem? (i := 2) rfl))⟩)
  obtain ⟨L1, L2⟩ := own_len ev_ca A (Cond.before_iff.mp (hsets _ (List.mem_of_getElem? (i := 6) rfl)))
  obtain ⟨OV_ca, hall⟩ := own_all (fun idx => by simpa [Term.eval] using ev_ca) A L1 L2 (Cond.before_iff.mp (hsets _ (List.mem_of_getElem? (i := 7) rfl)))
  obtain ⟨n, o, h1, h2, h3, _, L, rfl, ⟨rfl, N⟩, hq⟩ := rm_law l s _ hw tables_1 i0 i1 i2 s_NONE ca cl.cls cl.slots.toList s.heap s.heap.size (Old.start s) (S_s_NONE) (OE_s_NONE) (OF_s_NONE_expiry) (OF_s_NONE_revocation) (S_high) (S_ca) (OV_ca) (hall) p e ha hc hk s m _ below hf ((Spec.applies_iff_loose hf).mp happ).1 ⟨rfl, State.Warmed39.refl s, rfl⟩ trivial
  refine ⟨n, _, h1, h2, h3, hpost _ _ _ _ _ _ ⟨Cond.after_iff.mpr rfl, Cond.after_iff.mpr (eq_i res_at (Term.int_eval (1)) rfl), trivial⟩ ⟨hq.1, hq.2.1, (hq.2.2.sift fun y hy => Or.inr (N y hy)).mono (by decide) (by decide)⟩⟩
theorem main_1_1 : Claimed_1_1 := comes_1 fun _ _ _ _ _ _ h hF => ⟨h.1, hF⟩
theorem main_1_2 : Claimed_1_2 := comes_1 fun _ _ _ _ _ _ h hF => ⟨h.2.1, hF⟩

end Jvm.Pilot.@@N@@
namespace Jvm.Pilot.@@N@@
open Jvm Jvm.ClassFile Sem Op Lib Jvm.Free Jvm.Stand Jvm.Pilot.@@N@@.Jvm.D
/-! MADE BY PROGRAM (witnessworld.py) out of the Statement's table words and the real class files: 16 classes; the members and pool entries that the words name. The judged class is class 1, her method 1. -/
namespace start1
open Jvm.ClassFile
def u (s : String) : CpInfo := .utf8 (stringToUtf16 s)
/-- a pool by its gaps: so many unusable entries, then the entry; so many at the end -/
def gap : Nat → List CpInfo → List CpInfo
  | 0, r => r
  | n + 1, r => .unusable :: gap n r
def poolList (es : List (Nat × CpInfo)) (last : Nat) : List CpInfo := es.foldr (fun e r => gap e.1 (e.2 :: r)) (gap last [])
def pool (es : List (Nat × CpInfo)) (last : Nat) : Array CpInfo := ⟨poolList es last⟩
def fileOf (pool : Array CpInfo) (this : Nat) (attrs : Array Attribute := #[]) (ms : Array MethodInfo := #[]) (fl : Nat := 33) (sup : Nat := 0) (ifs : Array Nat := #[]) (fds : Array FieldInfo := #[]) : ClassFile where
  minorVersion := 0
  majorVersion := 65
  constantPool := pool
  accessFlags := fl
  thisClass := this
  superClass := sup
  interfaces := ifs
  fields := fds
  methods := ms
  attributes := attrs
def plain (name : String) (sup : Option ClassId) : Class where
  name := name
  kind := .ordinary
  loader := none
  accessFlags := 33
  super := sup
  interfaces := #[]
  cf := none
  fields := #[]
  methods := #[]
  instanceTypes := #[]
  staticTypes := #[]
  resolved := #[]
  callSites := []
  init := .initialized
  statics := none
  mirror := none

def pool0 : Array CpInfo := pool [(5, u "<init>"), (0, u "()V"), (1, .class_ 10), (1, u "java/lang/Object")] 113

def k0c0 : Code := { maxStack := 0, maxLocals := 1, code := object_method_1_code, exceptionTable := #[], attributes := #[] }
def k0m0 : Method := { name := "<init>", desc := "()V", sig := { parameters := [], returnType := none }, accessFlags := 1, code := some k0c0 }
/-- java/lang/Object -/
def k0 : Class := { plain "java/lang/Object" none with
  accessFlags := 33
  interfaces := #[]
  cf := some (fileOf pool0 8 #[] #[{ accessFlags := 1, nameIndex := 5, descriptorIndex := 6, attributes := #[] }] 33 0 #[] #[])
  fields := #[]
  methods := #[k0m0]
  instanceTypes := #[]
  staticTypes := #[]
  resolved := Array.replicate 124 none
  statics := none }

def pool1 : Array CpInfo := pool [(2, .class_ 4), (1, u "java/lang/Object"), (0, u "<init>"), (0, u "()V"), (0, .class_ 8), (0, u "com/example/nonce/nonce/web/CertificateFaults"), (0, .methodref 7 10), (0, .nameAndType 5 11), (0, u "(ZZ)V"), (0, .integer 2147483647), (0, .methodref 14 15), (0, .class_ 16), (0, .nameAndType 17 18), (0, u "java/lang/Integer"), (0, u "valueOf"), (0, u "(I)Ljava/lang/Integer;"), (0, .fieldref 7 20), (0, .nameAndType 21 22), (0, u "NONE"), (0, u "Lcom/example/nonce/nonce/web/CertificateFaults;"), (0, .methodref 7 24), (0, .nameAndType 25 26), (0, u "equals"), (0, u "(Ljava/lang/Object;)Z"), (0, .class_ 28), (0, u "com/example/nonce/nonce/web/CertificateFaultsEqualsPinLaw"), (2, u "law"), (0, u "(III)Z")] 3

def k1m0 : Method := { name := "<init>", desc := "()V", sig := { parameters := [], returnType := none }, accessFlags := 1, code := none }
def k1c1 : Code := { maxStack := 4, maxLocals := 12, code := code, exceptionTable := #[], attributes := #[] }
def k1m1 : Method := { name := "law", desc := "(III)Z", sig := { parameters := [.int, .int, .int], returnType := some .boolean }, accessFlags := 9, code := some k1c1 }
/-- com/example/nonce/nonce/web/CertificateFaultsEqualsPinLaw -/
def k1 : Class := { plain "com/example/nonce/nonce/web/CertificateFaultsEqualsPinLaw" (some 0) with
  accessFlags := 49
  interfaces := #[]
  cf := some (fileOf pool1 27 #[] #[{ accessFlags := 1, nameIndex := 5, descriptorIndex := 6, attributes := #[] }, { accessFlags := 9, nameIndex := 31, descriptorIndex := 32, attributes := #[] }] 49 2 #[] #[])
  fields := #[]
  methods := #[k1m0, k1m1]
  instanceTypes := #[]
  staticTypes := #[]
  resolved := Array.replicate 36 none
  statics := none }

def pool2 : Array CpInfo := pool [(1, .methodref 2 3), (0, .class_ 4), (0, .nameAndType 5 6), (0, u "java/lang/Object"), (0, u "<init>"), (0, u "()V"), (0, .fieldref 8 9), (0, .class_ 10), (0, .nameAndType 11 12), (0, u "com/example/nonce/nonce/web/CertificateFaults"), (0, u "expiry"), (0, u "Z"), (0, .fieldref 8 14), (0, .nameAndType 15 12), (0, u "revocation"), (38, u "(Ljava/lang/Object;)Z"), (19, u "(ZZ)V"), (2, u "NONE"), (0, u "Lcom/example/nonce/nonce/web/CertificateFaults;"), (8, u "equals")] 5

def k2c0 : Code := { maxStack := 2, maxLocals := 3, code := prog_42_method_1_code, exceptionTable := #[], attributes := #[] }
def k2m0 : Method := { name := "<init>", desc := "(ZZ)V", sig := { parameters := [.boolean, .boolean], returnType := none }, accessFlags := 1, code := some k2c0 }
def k2c1 : Code := { maxStack := 2, maxLocals := 3, code := prog_42_method_4_code, exceptionTable := #[], attributes := #[] }
def k2m1 : Method := { name := "equals", desc := "(Ljava/lang/Object;)Z", sig := { parameters := [(.object "java/lang/Object")], returnType := some .boolean }, accessFlags := 1, code := some k2c1 }
/-- com/example/nonce/nonce/web/CertificateFaults -/
def k2 : Class := { plain "com/example/nonce/nonce/web/CertificateFaults" (some 0) with
  accessFlags := 33
  interfaces := #[]
  cf := some (fileOf pool2 8 #[] #[{ accessFlags := 1, nameIndex := 5, descriptorIndex := 74, attributes := #[] }, { accessFlags := 1, nameIndex := 87, descriptorIndex := 54, attributes := #[] }] 33 2 #[] #[{ accessFlags := 25, nameIndex := 77, descriptorIndex := 78, attributes := #[] }, { accessFlags := 18, nameIndex := 11, descriptorIndex := 12, attributes := #[] }, { accessFlags := 18, nameIndex := 15, descriptorIndex := 12, attributes := #[] }])
  fields := #[{ name := "NONE", type := (.object "com/example/nonce/nonce/web/CertificateFaults"), accessFlags := 25, slot := 0, constantValue := 0 }, { name := "expiry", type := .boolean, accessFlags := 18, slot := 0, constantValue := 0 }, { name := "revocation", type := .boolean, accessFlags := 18, slot := 1, constantValue := 0 }]
  methods := #[k2m0, k2m1]
  instanceTypes := #[.boolean, .boolean]
  staticTypes := #[(.object "com/example/nonce/nonce/web/CertificateFaults")]
  resolved := Array.replicate 93 none
  statics := some 0 }

def pool3 : Array CpInfo := pool [(1, .class_ 2), (0, u "java/io/Serializable"), (0, .class_ 4), (0, u "java/lang/Object")] 2

/-- java/io/Serializable -/
def k3 : Class := { plain "java/io/Serializable" (some 0) with
  accessFlags := 1537
  interfaces := #[]
  cf := some (fileOf pool3 1 #[] #[] 1537 3 #[] #[])
  fields := #[]
  methods := #[]
  instanceTypes := #[]
  staticTypes := #[]
  resolved := Array.replicate 7 none
  statics := none }

def pool4 : Array CpInfo := pool [(1, .methodref 2 3), (0, .class_ 4), (0, .nameAndType 5 6), (0, u "java/lang/Object"), (0, u "<init>"), (0, u "()V"), (1, .class_ 10), (1, u "java/lang/Number"), (2, .class_ 14), (0, u "java/io/Serializable"), (0, u "serialVersionUID"), (0, u "J")] 20

def k4c0 : Code := { maxStack := 1, maxLocals := 1, code := jdk_18_method_1_code, exceptionTable := #[], attributes := #[] }
def k4m0 : Method := { name := "<init>", desc := "()V", sig := { parameters := [], returnType := none }, accessFlags := 1, code := some k4c0 }
/-- java/lang/Number -/
def k4 : Class := { plain "java/lang/Number" (some 0) with
  accessFlags := 1057
  interfaces := #[3]
  cf := some (fileOf pool4 8 #[] #[{ accessFlags := 1, nameIndex := 5, descriptorIndex := 6, attributes := #[] }] 1057 2 #[13] #[{ accessFlags := 26, nameIndex := 15, descriptorIndex := 16, attributes := #[] }])
  fields := #[{ name := "serialVersionUID", type := .long, accessFlags := 26, slot := 0, constantValue := 0 }]
  methods := #[k4m0]
  instanceTypes := #[]
  staticTypes := #[.long]
  resolved := Array.replicate 37 none
  statics := none }

def pool5 : Array CpInfo := pool [(1, .class_ 2), (0, u "java/lang/Comparable"), (0, .class_ 4), (0, u "java/lang/Object")] 7

/-- java/lang/Comparable -/
def k5 : Class := { plain "java/lang/Comparable" (some 0) with
  accessFlags := 1537
  interfaces := #[]
  cf := some (fileOf pool5 1 #[] #[] 1537 3 #[] #[])
  fields := #[]
  methods := #[]
  instanceTypes := #[]
  staticTypes := #[]
  resolved := Array.replicate 12 none
  statics := none }

def pool6 : Array CpInfo := pool [(1, .class_ 2), (0, u "java/lang/constant/Constable"), (0, .class_ 4), (0, u "java/lang/Object")] 6

/-- java/lang/constant/Constable -/
def k6 : Class := { plain "java/lang/constant/Constable" (some 0) with
  accessFlags := 1537
  interfaces := #[]
  cf := some (fileOf pool6 1 #[] #[] 1537 3 #[] #[])
  fields := #[]
  methods := #[]
  instanceTypes := #[]
  staticTypes := #[]
  resolved := Array.replicate 11 none
  statics := none }

def pool7 : Array CpInfo := pool [(1, .class_ 2), (0, u "java/lang/constant/ConstantDesc"), (0, .class_ 4), (0, u "java/lang/Object")] 32

/-- java/lang/constant/ConstantDesc -/
def k7 : Class := { plain "java/lang/constant/ConstantDesc" (some 0) with
  accessFlags := 1537
  interfaces := #[]
  cf := some (fileOf pool7 1 #[] #[] 1537 3 #[] #[])
  fields := #[]
  methods := #[]
  instanceTypes := #[]
  staticTypes := #[]
  resolved := Array.replicate 37 none
  statics := none }

def pool8 : Array CpInfo := pool [(1, .class_ 2), (0, u "java/lang/Integer"), (16, u "digits"), (0, u "[C"), (46, u "<init>"), (17, u "DigitOnes"), (0, u "[B"), (2, u "DigitTens"), (10, .nameAndType 67 101), (0, u "()V"), (85, u "valueOf"), (0, u "(I)Ljava/lang/Integer;"), (0, .class_ 190), (0, u "java/lang/Integer$IntegerCache"), (0, .fieldref 189 192), (0, .nameAndType 193 194), (0, u "high"), (0, u "I"), (0, .fieldref 189 196), (0, .nameAndType 197 198), (0, u "cache"), (0, u "[Ljava/lang/Integer;"), (0, .methodref 1 200), (0, .nameAndType 67 201), (0, u "(I)V"), (0, .methodref 203 100), (0, .class_ 204), (0, u "java/lang/Number"), (0, .fieldref 1 206), (0, .nameAndType 207 194), (0, u "value"), (94, u "TYPE"), (0, u "Ljava/lang/Class;"), (0, .class_ 305), (0, u "java/lang/Comparable"), (0, .class_ 307), (0, u "java/lang/constant/Constable"), (0, .class_ 309), (0, u "java/lang/constant/ConstantDesc"), (0, u "MIN_VALUE"), (1, u "MAX_VALUE"), (3, u "SIZE"), (1, u "BYTES"), (1, u "serialVersionUID"), (0, u "J")] 131

def k8c0 : Code := { maxStack := 3, maxLocals := 1, code := jdk_33_method_22_code, exceptionTable := #[], attributes := #[] }
def k8m0 : Method := { name := "valueOf", desc := "(I)Ljava/lang/Integer;", sig := { parameters := [.int], returnType := some (.object "java/lang/Integer") }, accessFlags := 9, code := some k8c0 }
def k8c1 : Code := { maxStack := 2, maxLocals := 2, code := jdk_33_method_23_code, exceptionTable := #[], attributes := #[] }
def k8m1 : Method := { name := "<init>", desc := "(I)V", sig := { parameters := [.int], returnType := none }, accessFlags := 1, code := some k8c1 }
/-- java/lang/Integer -/
def k8 : Class := { plain "java/lang/Integer" (some 4) with
  accessFlags := 49
  interfaces := #[5, 6, 7]
  cf := some (fileOf pool8 1 #[.nestMembers #[189]] #[{ accessFlags := 9, nameIndex := 187, descriptorIndex := 188, attributes := #[] }, { accessFlags := 1, nameIndex := 67, descriptorIndex := 201, attributes := #[] }] 49 203 #[304, 306, 308] #[{ accessFlags := 25, nameIndex := 310, descriptorIndex := 194, attributes := #[] }, { accessFlags := 25, nameIndex := 312, descriptorIndex := 194, attributes := #[] }, { accessFlags := 25, nameIndex := 302, descriptorIndex := 303, attributes := #[] }, { accessFlags := 24, nameIndex := 19, descriptorIndex := 20, attributes := #[] }, { accessFlags := 24, nameIndex := 89, descriptorIndex := 86, attributes := #[] }, { accessFlags := 24, nameIndex := 85, descriptorIndex := 86, attributes := #[] }, { accessFlags := 18, nameIndex := 207, descriptorIndex := 194, attributes := #[] }, { accessFlags := 25, nameIndex := 316, descriptorIndex := 194, attributes := #[] }, { accessFlags := 25, nameIndex := 318, descriptorIndex := 194, attributes := #[] }, { accessFlags := 26, nameIndex := 320, descriptorIndex := 321, attributes := #[] }])
  fields := #[{ name := "MIN_VALUE", type := .int, accessFlags := 25, slot := 0, constantValue := 0 }, { name := "MAX_VALUE", type := .int, accessFlags := 25, slot := 1, constantValue := 0 }, { name := "TYPE", type := (.object "java/lang/Class"), accessFlags := 25, slot := 2, constantValue := 0 }, { name := "digits", type := (.array .char), accessFlags := 24, slot := 3, constantValue := 0 }, { name := "DigitTens", type := (.array .byte), accessFlags := 24, slot := 4, constantValue := 0 }, { name := "DigitOnes", type := (.array .byte), accessFlags := 24, slot := 5, constantValue := 0 }, { name := "value", type := .int, accessFlags := 18, slot := 0, constantValue := 0 }, { name := "SIZE", type := .int, accessFlags := 25, slot := 6, constantValue := 0 }, { name := "BYTES", type := .int, accessFlags := 25, slot := 7, constantValue := 0 }, { name := "serialVersionUID", type := .long, accessFlags := 26, slot := 8, constantValue := 0 }]
  methods := #[k8m0, k8m1]
  instanceTypes := #[.int]
  staticTypes := #[.int, .int, (.object "java/lang/Class"), (.array .char), (.array .byte), (.array .byte), .int, .int, .long]
  resolved := Array.replicate 453 none
  statics := none }

def pool9 : Array CpInfo := pool [(2, .class_ 4), (1, u "java/lang/Object"), (0, u "<init>"), (0, u "()V"), (0, .class_ 8), (0, u "java/lang/Integer"), (7, .class_ 18), (1, u "java/lang/Integer$IntegerCache"), (0, u "$assertionsDisabled"), (0, u "Z"), (26, u "high"), (0, u "I"), (8, u "archivedCache"), (0, u "[Ljava/lang/Integer;"), (12, u "cache"), (0, u "low")] 27

def k9m0 : Method := { name := "<init>", desc := "()V", sig := { parameters := [], returnType := none }, accessFlags := 2, code := none }
/-- java/lang/Integer$IntegerCache -/
def k9 : Class := { plain "java/lang/Integer$IntegerCache" (some 0) with
  accessFlags := 48
  interfaces := #[]
  cf := some (fileOf pool9 16 #[.nestHost 7] #[{ accessFlags := 2, nameIndex := 5, descriptorIndex := 6, attributes := #[] }] 48 2 #[] #[{ accessFlags := 24, nameIndex := 72, descriptorIndex := 48, attributes := #[] }, { accessFlags := 24, nameIndex := 47, descriptorIndex := 48, attributes := #[] }, { accessFlags := 24, nameIndex := 71, descriptorIndex := 58, attributes := #[] }, { accessFlags := 8, nameIndex := 57, descriptorIndex := 58, attributes := #[] }, { accessFlags := 4120, nameIndex := 19, descriptorIndex := 20, attributes := #[] }])
  fields := #[{ name := "low", type := .int, accessFlags := 24, slot := 0, constantValue := 0 }, { name := "high", type := .int, accessFlags := 24, slot := 1, constantValue := 0 }, { name := "cache", type := (.array (.object "java/lang/Integer")), accessFlags := 24, slot := 2, constantValue := 0 }, { name := "archivedCache", type := (.array (.object "java/lang/Integer")), accessFlags := 8, slot := 3, constantValue := 0 }, { name := "$assertionsDisabled", type := .boolean, accessFlags := 4120, slot := 4, constantValue := 0 }]
  methods := #[k9m0]
  instanceTypes := #[]
  staticTypes := #[.int, .int, (.array (.object "java/lang/Integer")), (.array (.object "java/lang/Integer")), .boolean]
  resolved := Array.replicate 100 none
  statics := some 1 }

def pool10 : Array CpInfo := pool [(1, u "java/lang/Cloneable"), (0, .class_ 1), (0, u "java/lang/Object"), (0, .class_ 3)] 3

/-- java/lang/Cloneable -/
def k10 : Class := { plain "java/lang/Cloneable" (some 0) with
  accessFlags := 1537
  interfaces := #[]
  cf := some (fileOf pool10 2 #[] #[] 1537 4 #[] #[])
  fields := #[]
  methods := #[]
  instanceTypes := #[]
  staticTypes := #[]
  resolved := Array.replicate 8 none
  statics := none }

/-- the primitive byte -/
def k11 : Class := { plain "byte" none with kind := .primitive 'B', accessFlags := 0x411 }
/-- [B -/
def k12 : Class := { plain "[B" (some 0) with kind := .array 11 .byte, interfaces := #[10, 3], accessFlags := 1041 }

/-- the primitive int -/
def k13 : Class := { plain "int" none with kind := .primitive 'I', accessFlags := 0x411 }
/-- [I -/
def k14 : Class := { plain "[I" (some 0) with kind := .array 13 .int, interfaces := #[10, 3], accessFlags := 1041 }

/-- [Ljava/lang/Integer; -/
def k15 : Class := { plain "[Ljava/lang/Integer;" (some 0) with kind := .array 8 (.object "java/lang/Integer"), interfaces := #[10, 3], accessFlags := 1041 }

def heap : Heap := #[{ cls := 2, slots := #[.ref 259], vm := .statics 2 },
  { cls := 9, slots := #[.int 0, .int 127, .ref 2, .null, .int 0], vm := .statics 9 },
  { cls := 15, slots := #[.ref 3, .ref 4, .ref 5, .ref 6, .ref 7, .ref 8, .ref 9, .ref 10, .ref 11, .ref 12, .ref 13, .ref 14, .ref 15, .ref 16, .ref 17, .ref 18, .ref 19, .ref 20, .ref 21, .ref 22, .ref 23, .ref 24, .ref 25, .ref 26, .ref 27, .ref 28, .ref 29, .ref 30, .ref 31, .ref 32, .ref 33, .ref 34, .ref 35, .ref 36, .ref 37, .ref 38, .ref 39, .ref 40, .ref 41, .ref 42, .ref 43, .ref 44, .ref 45, .ref 46, .ref 47, .ref 48, .ref 49, .ref 50, .ref 51, .ref 52, .ref 53, .ref 54, .ref 55, .ref 56, .ref 57, .ref 58, .ref 59, .ref 60, .ref 61, .ref 62, .ref 63, .ref 64, .ref 65, .ref 66, .ref 67, .ref 68, .ref 69, .ref 70, .ref 71, .ref 72, .ref 73, .ref 74, .ref 75, .ref 76, .ref 77, .ref 78, .ref 79, .ref 80, .ref 81, .ref 82, .ref 83, .ref 84, .ref 85, .ref 86, .ref 87, .ref 88, .ref 89, .ref 90, .ref 91, .ref 92, .ref 93, .ref 94, .ref 95, .ref 96, .ref 97, .ref 98, .ref 99, .ref 100, .ref 101, .ref 102, .ref 103, .ref 104, .ref 105, .ref 106, .ref 107, .ref 108, .ref 109, .ref 110, .ref 111, .ref 112, .ref 113, .ref 114, .ref 115, .ref 116, .ref 117, .ref 118, .ref 119, .ref 120, .ref 121, .ref 122, .ref 123, .ref 124, .ref 125, .ref 126, .ref 127, .ref 128, .ref 129, .ref 130, .ref 131, .ref 132, .ref 133, .ref 134, .ref 135, .ref 136, .ref 137, .ref 138, .ref 139, .ref 140, .ref 141, .ref 142, .ref 143, .ref 144, .ref 145, .ref 146, .ref 147, .ref 148, .ref 149, .ref 150, .ref 151, .ref 152, .ref 153, .ref 154, .ref 155, .ref 156, .ref 157, .ref 158, .ref 159, .ref 160, .ref 161, .ref 162, .ref 163, .ref 164, .ref 165, .ref 166, .ref 167, .ref 168, .ref 169, .ref 170, .ref 171, .ref 172, .ref 173, .ref 174, .ref 175, .ref 176, .ref 177, .ref 178, .ref 179, .ref 180, .ref 181, .ref 182, .ref 183, .ref 184, .ref 185, .ref 186, .ref 187, .ref 188, .ref 189, .ref 190, .ref 191, .ref 192, .ref 193, .ref 194, .ref 195, .ref 196, .ref 197, .ref 198, .ref 199, .ref 200, .ref 201, .ref 202, .ref 203, .ref 204, .ref 205, .ref 206, .ref 207, .ref 208, .ref 209, .ref 210, .ref 211, .ref 212, .ref 213, .ref 214, .ref 215, .ref 216, .ref 217, .ref 218, .ref 219, .ref 220, .ref 221, .ref 222, .ref 223, .ref 224, .ref 225, .ref 226, .ref 227, .ref 228, .ref 229, .ref 230, .ref 231, .ref 232, .ref 233, .ref 234, .ref 235, .ref 236, .ref 237, .ref 238, .ref 239, .ref 240, .ref 241, .ref 242, .ref 243, .ref 244, .ref 245, .ref 246, .ref 247, .ref 248, .ref 249, .ref 250, .ref 251, .ref 252, .ref 253, .ref 254, .ref 255, .ref 256, .ref 257, .ref 258], vm := .none },
  { cls := 8, slots := #[.int (-128)], vm := .none },
  { cls := 8, slots := #[.int (-127)], vm := .none },
  { cls := 8, slots := #[.int (-126)], vm := .none },
  { cls := 8, slots := #[.int (-125)], vm := .none },
  { cls := 8, slots := #[.int (-124)], vm := .none },
  { cls := 8, slots := #[.int (-123)], vm := .none },
  { cls := 8, slots := #[.int (-122)], vm := .none },
  { cls := 8, slots := #[.int (-121)], vm := .none },
  { cls := 8, slots := #[.int (-120)], vm := .none },
  { cls := 8, slots := #[.int (-119)], vm := .none },
  { cls := 8, slots := #[.int (-118)], vm := .none },
  { cls := 8, slots := #[.int (-117)], vm := .none },
  { cls := 8, slots := #[.int (-116)], vm := .none },
  { cls := 8, slots := #[.int (-115)], vm := .none },
  { cls := 8, slots := #[.int (-114)], vm := .none },
  { cls := 8, slots := #[.int (-113)], vm := .none },
  { cls := 8, slots := #[.int (-112)], vm := .none },
  { cls := 8, slots := #[.int (-111)], vm := .none },
  { cls := 8, slots := #[.int (-110)], vm := .none },
  { cls := 8, slots := #[.int (-109)], vm := .none },
  { cls := 8, slots := #[.int (-108)], vm := .none },
  { cls := 8, slots := #[.int (-107)], vm := .none },
  { cls := 8, slots := #[.int (-106)], vm := .none },
  { cls := 8, slots := #[.int (-105)], vm := .none },
  { cls := 8, slots := #[.int (-104)], vm := .none },
  { cls := 8, slots := #[.int (-103)], vm := .none },
  { cls := 8, slots := #[.int (-102)], vm := .none },
  { cls := 8, slots := #[.int (-101)], vm := .none },
  { cls := 8, slots := #[.int (-100)], vm := .none },
  { cls := 8, slots := #[.int (-99)], vm := .none },
  { cls := 8, slots := #[.int (-98)], vm := .none },
  { cls := 8, slots := #[.int (-97)], vm := .none },
  { cls := 8, slots := #[.int (-96)], vm := .none },
  { cls := 8, slots := #[.int (-95)], vm := .none },
  { cls := 8, slots := #[.int (-94)], vm := .none },
  { cls := 8, slots := #[.int (-93)], vm := .none },
  { cls := 8, slots := #[.int (-92)], vm := .none },
  { cls := 8, slots := #[.int (-91)], vm := .none },
  { cls := 8, slots := #[.int (-90)], vm := .none },
  { cls := 8, slots := #[.int (-89)], vm := .none },
  { cls := 8, slots := #[.int (-88)], vm := .none },
  { cls := 8, slots := #[.int (-87)], vm := .none },
  { cls := 8, slots := #[.int (-86)], vm := .none },
  { cls := 8, slots := #[.int (-85)], vm := .none },
  { cls := 8, slots := #[.int (-84)], vm := .none },
  { cls := 8, slots := #[.int (-83)], vm := .none },
  { cls := 8, slots := #[.int (-82)], vm := .none },
  { cls := 8, slots := #[.int (-81)], vm := .none },
  { cls := 8, slots := #[.int (-80)], vm := .none },
  { cls := 8, slots := #[.int (-79)], vm := .none },
  { cls := 8, slots := #[.int (-78)], vm := .none },
  { cls := 8, slots := #[.int (-77)], vm := .none },
  { cls := 8, slots := #[.int (-76)], vm := .none },
  { cls := 8, slots := #[.int (-75)], vm := .none },
  { cls := 8, slots := #[.int (-74)], vm := .none },
  { cls := 8, slots := #[.int (-73)], vm := .none },
  { cls := 8, slots := #[.int (-72)], vm := .none },
  { cls := 8, slots := #[.int (-71)], vm := .none },
  { cls := 8, slots := #[.int (-70)], vm := .none },
  { cls := 8, slots := #[.int (-69)], vm := .none },
  { cls := 8, slots := #[.int (-68)], vm := .none },
  { cls := 8, slots := #[.int (-67)], vm := .none },
  { cls := 8, slots := #[.int (-66)], vm := .none },
  { cls := 8, slots := #[.int (-65)], vm := .none },
  { cls := 8, slots := #[.int (-64)], vm := .none },
  { cls := 8, slots := #[.int (-63)], vm := .none },
  { cls := 8, slots := #[.int (-62)], vm := .none },
  { cls := 8, slots := #[.int (-61)], vm := .none },
  { cls := 8, slots := #[.int (-60)], vm := .none },
  { cls := 8, slots := #[.int (-59)], vm := .none },
  { cls := 8, slots := #[.int (-58)], vm := .none },
  { cls := 8, slots := #[.int (-57)], vm := .none },
  { cls := 8, slots := #[.int (-56)], vm := .none },
  { cls := 8, slots := #[.int (-55)], vm := .none },
  { cls := 8, slots := #[.int (-54)], vm := .none },
  { cls := 8, slots := #[.int (-53)], vm := .none },
  { cls := 8, slots := #[.int (-52)], vm := .none },
  { cls := 8, slots := #[.int (-51)], vm := .none },
  { cls := 8, slots := #[.int (-50)], vm := .none },
  { cls := 8, slots := #[.int (-49)], vm := .none },
  { cls := 8, slots := #[.int (-48)], vm := .none },
  { cls := 8, slots := #[.int (-47)], vm := .none },
  { cls := 8, slots := #[.int (-46)], vm := .none },
  { cls := 8, slots := #[.int (-45)], vm := .none },
  { cls := 8, slots := #[.int (-44)], vm := .none },
  { cls := 8, slots := #[.int (-43)], vm := .none },
  { cls := 8, slots := #[.int (-42)], vm := .none },
  { cls := 8, slots := #[.int (-41)], vm := .none },
  { cls := 8, slots := #[.int (-40)], vm := .none },
  { cls := 8, slots := #[.int (-39)], vm := .none },
  { cls := 8, slots := #[.int (-38)], vm := .none },
  { cls := 8, slots := #[.int (-37)], vm := .none },
  { cls := 8, slots := #[.int (-36)], vm := .none },
  { cls := 8, slots := #[.int (-35)], vm := .none },
  { cls := 8, slots := #[.int (-34)], vm := .none },
  { cls := 8, slots := #[.int (-33)], vm := .none },
  { cls := 8, slots := #[.int (-32)], vm := .none },
  { cls := 8, slots := #[.int (-31)], vm := .none },
  { cls := 8, slots := #[.int (-30)], vm := .none },
  { cls := 8, slots := #[.int (-29)], vm := .none },
  { cls := 8, slots := #[.int (-28)], vm := .none },
  { cls := 8, slots := #[.int (-27)], vm := .none },
  { cls := 8, slots := #[.int (-26)], vm := .none },
  { cls := 8, slots := #[.int (-25)], vm := .none },
  { cls := 8, slots := #[.int (-24)], vm := .none },
  { cls := 8, slots := #[.int (-23)], vm := .none },
  { cls := 8, slots := #[.int (-22)], vm := .none },
  { cls := 8, slots := #[.int (-21)], vm := .none },
  { cls := 8, slots := #[.int (-20)], vm := .none },
  { cls := 8, slots := #[.int (-19)], vm := .none },
  { cls := 8, slots := #[.int (-18)], vm := .none },
  { cls := 8, slots := #[.int (-17)], vm := .none },
  { cls := 8, slots := #[.int (-16)], vm := .none },
  { cls := 8, slots := #[.int (-15)], vm := .none },
  { cls := 8, slots := #[.int (-14)], vm := .none },
  { cls := 8, slots := #[.int (-13)], vm := .none },
  { cls := 8, slots := #[.int (-12)], vm := .none },
  { cls := 8, slots := #[.int (-11)], vm := .none },
  { cls := 8, slots := #[.int (-10)], vm := .none },
  { cls := 8, slots := #[.int (-9)], vm := .none },
  { cls := 8, slots := #[.int (-8)], vm := .none },
  { cls := 8, slots := #[.int (-7)], vm := .none },
  { cls := 8, slots := #[.int (-6)], vm := .none },
  { cls := 8, slots := #[.int (-5)], vm := .none },
  { cls := 8, slots := #[.int (-4)], vm := .none },
  { cls := 8, slots := #[.int (-3)], vm := .none },
  { cls := 8, slots := #[.int (-2)], vm := .none },
  { cls := 8, slots := #[.int (-1)], vm := .none },
  { cls := 8, slots := #[.int 0], vm := .none },
  { cls := 8, slots := #[.int 1], vm := .none },
  { cls := 8, slots := #[.int 2], vm := .none },
  { cls := 8, slots := #[.int 3], vm := .none },
  { cls := 8, slots := #[.int 4], vm := .none },
  { cls := 8, slots := #[.int 5], vm := .none },
  { cls := 8, slots := #[.int 6], vm := .none },
  { cls := 8, slots := #[.int 7], vm := .none },
  { cls := 8, slots := #[.int 8], vm := .none },
  { cls := 8, slots := #[.int 9], vm := .none },
  { cls := 8, slots := #[.int 10], vm := .none },
  { cls := 8, slots := #[.int 11], vm := .none },
  { cls := 8, slots := #[.int 12], vm := .none },
  { cls := 8, slots := #[.int 13], vm := .none },
  { cls := 8, slots := #[.int 14], vm := .none },
  { cls := 8, slots := #[.int 15], vm := .none },
  { cls := 8, slots := #[.int 16], vm := .none },
  { cls := 8, slots := #[.int 17], vm := .none },
  { cls := 8, slots := #[.int 18], vm := .none },
  { cls := 8, slots := #[.int 19], vm := .none },
  { cls := 8, slots := #[.int 20], vm := .none },
  { cls := 8, slots := #[.int 21], vm := .none },
  { cls := 8, slots := #[.int 22], vm := .none },
  { cls := 8, slots := #[.int 23], vm := .none },
  { cls := 8, slots := #[.int 24], vm := .none },
  { cls := 8, slots := #[.int 25], vm := .none },
  { cls := 8, slots := #[.int 26], vm := .none },
  { cls := 8, slots := #[.int 27], vm := .none },
  { cls := 8, slots := #[.int 28], vm := .none },
  { cls := 8, slots := #[.int 29], vm := .none },
  { cls := 8, slots := #[.int 30], vm := .none },
  { cls := 8, slots := #[.int 31], vm := .none },
  { cls := 8, slots := #[.int 32], vm := .none },
  { cls := 8, slots := #[.int 33], vm := .none },
  { cls := 8, slots := #[.int 34], vm := .none },
  { cls := 8, slots := #[.int 35], vm := .none },
  { cls := 8, slots := #[.int 36], vm := .none },
  { cls := 8, slots := #[.int 37], vm := .none },
  { cls := 8, slots := #[.int 38], vm := .none },
  { cls := 8, slots := #[.int 39], vm := .none },
  { cls := 8, slots := #[.int 40], vm := .none },
  { cls := 8, slots := #[.int 41], vm := .none },
  { cls := 8, slots := #[.int 42], vm := .none },
  { cls := 8, slots := #[.int 43], vm := .none },
  { cls := 8, slots := #[.int 44], vm := .none },
  { cls := 8, slots := #[.int 45], vm := .none },
  { cls := 8, slots := #[.int 46], vm := .none },
  { cls := 8, slots := #[.int 47], vm := .none },
  { cls := 8, slots := #[.int 48], vm := .none },
  { cls := 8, slots := #[.int 49], vm := .none },
  { cls := 8, slots := #[.int 50], vm := .none },
  { cls := 8, slots := #[.int 51], vm := .none },
  { cls := 8, slots := #[.int 52], vm := .none },
  { cls := 8, slots := #[.int 53], vm := .none },
  { cls := 8, slots := #[.int 54], vm := .none },
  { cls := 8, slots := #[.int 55], vm := .none },
  { cls := 8, slots := #[.int 56], vm := .none },
  { cls := 8, slots := #[.int 57], vm := .none },
  { cls := 8, slots := #[.int 58], vm := .none },
  { cls := 8, slots := #[.int 59], vm := .none },
  { cls := 8, slots := #[.int 60], vm := .none },
  { cls := 8, slots := #[.int 61], vm := .none },
  { cls := 8, slots := #[.int 62], vm := .none },
  { cls := 8, slots := #[.int 63], vm := .none },
  { cls := 8, slots := #[.int 64], vm := .none },
  { cls := 8, slots := #[.int 65], vm := .none },
  { cls := 8, slots := #[.int 66], vm := .none },
  { cls := 8, slots := #[.int 67], vm := .none },
  { cls := 8, slots := #[.int 68], vm := .none },
  { cls := 8, slots := #[.int 69], vm := .none },
  { cls := 8, slots := #[.int 70], vm := .none },
  { cls := 8, slots := #[.int 71], vm := .none },
  { cls := 8, slots := #[.int 72], vm := .none },
  { cls := 8, slots := #[.int 73], vm := .none },
  { cls := 8, slots := #[.int 74], vm := .none },
  { cls := 8, slots := #[.int 75], vm := .none },
  { cls := 8, slots := #[.int 76], vm := .none },
  { cls := 8, slots := #[.int 77], vm := .none },
  { cls := 8, slots := #[.int 78], vm := .none },
  { cls := 8, slots := #[.int 79], vm := .none },
  { cls := 8, slots := #[.int 80], vm := .none },
  { cls := 8, slots := #[.int 81], vm := .none },
  { cls := 8, slots := #[.int 82], vm := .none },
  { cls := 8, slots := #[.int 83], vm := .none },
  { cls := 8, slots := #[.int 84], vm := .none },
  { cls := 8, slots := #[.int 85], vm := .none },
  { cls := 8, slots := #[.int 86], vm := .none },
  { cls := 8, slots := #[.int 87], vm := .none },
  { cls := 8, slots := #[.int 88], vm := .none },
  { cls := 8, slots := #[.int 89], vm := .none },
  { cls := 8, slots := #[.int 90], vm := .none },
  { cls := 8, slots := #[.int 91], vm := .none },
  { cls := 8, slots := #[.int 92], vm := .none },
  { cls := 8, slots := #[.int 93], vm := .none },
  { cls := 8, slots := #[.int 94], vm := .none },
  { cls := 8, slots := #[.int 95], vm := .none },
  { cls := 8, slots := #[.int 96], vm := .none },
  { cls := 8, slots := #[.int 97], vm := .none },
  { cls := 8, slots := #[.int 98], vm := .none },
  { cls := 8, slots := #[.int 99], vm := .none },
  { cls := 8, slots := #[.int 100], vm := .none },
  { cls := 8, slots := #[.int 101], vm := .none },
  { cls := 8, slots := #[.int 102], vm := .none },
  { cls := 8, slots := #[.int 103], vm := .none },
  { cls := 8, slots := #[.int 104], vm := .none },
  { cls := 8, slots := #[.int 105], vm := .none },
  { cls := 8, slots := #[.int 106], vm := .none },
  { cls := 8, slots := #[.int 107], vm := .none },
  { cls := 8, slots := #[.int 108], vm := .none },
  { cls := 8, slots := #[.int 109], vm := .none },
  { cls := 8, slots := #[.int 110], vm := .none },
  { cls := 8, slots := #[.int 111], vm := .none },
  { cls := 8, slots := #[.int 112], vm := .none },
  { cls := 8, slots := #[.int 113], vm := .none },
  { cls := 8, slots := #[.int 114], vm := .none },
  { cls := 8, slots := #[.int 115], vm := .none },
  { cls := 8, slots := #[.int 116], vm := .none },
  { cls := 8, slots := #[.int 117], vm := .none },
  { cls := 8, slots := #[.int 118], vm := .none },
  { cls := 8, slots := #[.int 119], vm := .none },
  { cls := 8, slots := #[.int 120], vm := .none },
  { cls := 8, slots := #[.int 121], vm := .none },
  { cls := 8, slots := #[.int 122], vm := .none },
  { cls := 8, slots := #[.int 123], vm := .none },
  { cls := 8, slots := #[.int 124], vm := .none },
  { cls := 8, slots := #[.int 125], vm := .none },
  { cls := 8, slots := #[.int 126], vm := .none },
  { cls := 8, slots := #[.int 127], vm := .none },
  { cls := 2, slots := #[.int 0, .int 0], vm := .none }]
def classes : Array Class := #[k0, k1, k2, k3, k4, k5, k6, k7, k8, k9, k10, k11, k12, k13, k14, k15]
def interned : List (Array UInt16 × Addr) := []
def slotsUsed : Nat := 520
def theMethod : MethodId := ⟨1, 1⟩
def args0 : Array Value := #[.int 5, .int 6, .int 7]
def aboutOver (below : List Frame) : State where
  vm := { classes := classes, interned := interned.toArray }
  heap := heap
  slotsUsed := slotsUsed
  threads := #[{ frames := .invoking theMethod args0 :: below }]
def below0 : List Frame := [.native { method := ⟨0, 0⟩, args := #[] }]
def about1 : State := aboutOver below0
def p0 : Program := .bare "" "" ""
def e0 : Env := launch0.env 0 0 0
theorem w_frames : about1.frames = Frame.invoking theMethod args0 :: below0 := rfl
set_option maxRecDepth 65536 in
theorem w_args : argsFit about1.vm theMethod args0 = true := by decide +kernel
set_option maxRecDepth 65536 in
theorem w_heap : heapFits about1 = true := by decide +kernel
set_option maxRecDepth 65536 in
theorem w_runnable : about1.curStatus? = some .runnable := by decide +kernel
set_option maxRecDepth 65536 in
theorem w_alone : about1.alone = true := by decide +kernel
set_option maxRecDepth 65536 in
theorem w_named : about1.methodNamed? x = some theMethod := by decide +kernel
set_option maxRecDepth 65536 in
theorem w_hears : about1.hears theMethod below0 = true := by decide +kernel
set_option maxRecDepth 65536 in
theorem w_ripe : about1.ripe theMethod args0 below0 = true := by decide +kernel
theorem w_running : about1.status = .running := rfl
set_option maxRecDepth 65536 in
theorem w_room : about1.hasRoom e0.platform room_1 = true :=
  launch0.hasRoom_least _ room_1 (by decide +kernel) (by decide +kernel) (by decide +kernel) (by decide +kernel) (by decide +kernel) (by decide +kernel)
theorem allAtoms_all (ts : List Jvm.Cond) (a : Array Jvm.Value) (st : Jvm.State) : (allAtoms ts).before a st = ts.all (fun c => c.before a st) := by
  induction ts with
  | nil => rfl
  | cons c t ih =>
    show (Jvm.Cond.and c (allAtoms t)).before a st = _
    rw [Jvm.Cond.before_and, ih, List.all_cons]
def words1 : List Jvm.Cond := Jvm.Cond.code x code maxLocals ret :: tables_1
/-- a 'code' word, met by the world's own term for the bytes: nothing is compared byte by byte -/
theorem code_word {y : MethodName} {bytes : ByteArray} {mx : Nat} {rt : Option FieldType} {a : Array Value} {s : State} {m : MethodId} {meth : Method} {c : Code} (h1 : s.methodNamed? y = some m) (h2 : s.vm.method? m = some meth) (h3 : meth.code = some c) (h4 : c.code = bytes)
    (h5 : (c.maxLocals == mx && c.exceptionTable.isEmpty && decide (c.maxStack ≤ mostOperands) && decide (meth.sig.returnType = rt) && !meth.locks && decide (parseMethodDescriptor y.desc = some meth.sig)) = true) : (Jvm.Cond.code y bytes mx rt).before a s = true := by
  simp only [Bool.and_eq_true, beq_iff_eq, Bool.not_eq_true', decide_eq_true_eq] at h5
  obtain ⟨⟨⟨⟨⟨g1, g2⟩, g3⟩, g4⟩, g5⟩, g6⟩ := h5
  simp [Cond.before, Cond.holds, Cond.value, h1, h2, h3, h4, g1, g2, g3, g4, g5, g6]
def isCode : Jvm.Cond → Bool
  | .code _ _ _ _ => true
  | _ => false
theorem all_split {L : List Jvm.Cond} {P : Jvm.Cond → Bool} (h1 : L.all (fun c => isCode c || P c) = true) (h2 : ∀ c ∈ L.filter isCode, P c = true) : L.all P = true := by
  refine List.all_eq_true.mpr fun c hc => ?_
  have h := List.all_eq_true.mp h1 c hc
  rcases Bool.eq_false_or_eq_true (isCode c) with hi | hi
  · exact h2 c (List.mem_filter.mpr ⟨hc, hi⟩)
  · simpa [hi] using h
set_option maxRecDepth 65536 in
theorem w_c0 : (Jvm.Cond.code x code maxLocals ret).before args0 about1 = true := code_word (m := ⟨1, 1⟩) (meth := k1m1) (c := k1c1) (by decide +kernel) rfl rfl rfl (by decide +kernel)
set_option maxRecDepth 65536 in
theorem w_c1 : (Jvm.Cond.code ({ cls := "com/example/nonce/nonce/web/CertificateFaults", name := "<init>", desc := "(ZZ)V" } : Jvm.MethodName) prog_42_method_1_code (3 : Nat) (Option.none : Option Jvm.ClassFile.FieldType)).before args0 about1 = true := code_word (m := ⟨2, 0⟩) (meth := k2m0) (c := k2c0) (by decide +kernel) rfl rfl rfl (by decide +kernel)
set_option maxRecDepth 65536 in
theorem w_c2 : (Jvm.Cond.code ({ cls := "java/lang/Object", name := "<init>", desc := "()V" } : Jvm.MethodName) object_method_1_code (1 : Nat) (Option.none : Option Jvm.ClassFile.FieldType)).before args0 about1 = true := code_word (m := ⟨0, 0⟩) (meth := k0m0) (c := k0c0) (by decide +kernel) rfl rfl rfl (by decide +kernel)
set_option maxRecDepth 65536 in
theorem w_c3 : (Jvm.Cond.code ({ cls := "com/example/nonce/nonce/web/CertificateFaults", name := "equals", desc := "(Ljava/lang/Object;)Z" } : Jvm.MethodName) prog_42_method_4_code (3 : Nat) (Option.some Jvm.ClassFile.FieldType.boolean)).before args0 about1 = true := code_word (m := ⟨2, 1⟩) (meth := k2m1) (c := k2c1) (by decide +kernel) rfl rfl rfl (by decide +kernel)
set_option maxRecDepth 65536 in
theorem w_c4 : (Jvm.Cond.code ({ cls := "java/lang/Integer", name := "valueOf", desc := "(I)Ljava/lang/Integer;" } : Jvm.MethodName) jdk_33_method_22_code (1 : Nat) (Option.some (Jvm.ClassFile.FieldType.object "java/lang/Integer"))).before args0 about1 = true := code_word (m := ⟨8, 0⟩) (meth := k8m0) (c := k8c0) (by decide +kernel) rfl rfl rfl (by decide +kernel)
set_option maxRecDepth 65536 in
theorem w_c5 : (Jvm.Cond.code ({ cls := "java/lang/Integer", name := "<init>", desc := "(I)V" } : Jvm.MethodName) jdk_33_method_23_code (2 : Nat) (Option.none : Option Jvm.ClassFile.FieldType)).before args0 about1 = true := code_word (m := ⟨8, 1⟩) (meth := k8m1) (c := k8c1) (by decide +kernel) rfl rfl rfl (by decide +kernel)
set_option maxRecDepth 65536 in
theorem w_c6 : (Jvm.Cond.code ({ cls := "java/lang/Number", name := "<init>", desc := "()V" } : Jvm.MethodName) jdk_18_method_1_code (1 : Nat) (Option.none : Option Jvm.ClassFile.FieldType)).before args0 about1 = true := code_word (m := ⟨4, 0⟩) (meth := k4m0) (c := k4c0) (by decide +kernel) rfl rfl rfl (by decide +kernel)
def codes1 : List Jvm.Cond := [Jvm.Cond.code x code maxLocals ret, Jvm.Cond.code ({ cls := "com/example/nonce/nonce/web/CertificateFaults", name := "<init>", desc := "(ZZ)V" } : Jvm.MethodName) prog_42_method_1_code (3 : Nat) (Option.none : Option Jvm.ClassFile.FieldType), Jvm.Cond.code ({ cls := "java/lang/Object", name := "<init>", desc := "()V" } : Jvm.MethodName) object_method_1_code (1 : Nat) (Option.none : Option Jvm.ClassFile.FieldType), Jvm.Cond.code ({ cls := "com/example/nonce/nonce/web/CertificateFaults", name := "equals", desc := "(Ljava/lang/Object;)Z" } : Jvm.MethodName) prog_42_method_4_code (3 : Nat) (Option.some Jvm.ClassFile.FieldType.boolean), Jvm.Cond.code ({ cls := "java/lang/Integer", name := "valueOf", desc := "(I)Ljava/lang/Integer;" } : Jvm.MethodName) jdk_33_method_22_code (1 : Nat) (Option.some (Jvm.ClassFile.FieldType.object "java/lang/Integer")), Jvm.Cond.code ({ cls := "java/lang/Integer", name := "<init>", desc := "(I)V" } : Jvm.MethodName) jdk_33_method_23_code (2 : Nat) (Option.none : Option Jvm.ClassFile.FieldType), Jvm.Cond.code ({ cls := "java/lang/Number", name := "<init>", desc := "()V" } : Jvm.MethodName) jdk_18_method_1_code (1 : Nat) (Option.none : Option Jvm.ClassFile.FieldType)]
set_option maxRecDepth 65536 in
theorem codes_eq : words1.filter isCode = codes1 := rfl
theorem w_codes : ∀ c ∈ words1.filter isCode, c.before args0 about1 = true := by
  rw [codes_eq]
  intro c hc
  simp only [codes1, List.mem_cons, List.not_mem_nil, or_false] at hc
  rcases hc with rfl | rfl | rfl | rfl | rfl | rfl | rfl
  · exact w_c0
  · exact w_c1
  · exact w_c2
  · exact w_c3
  · exact w_c4
  · exact w_c5
  · exact w_c6
set_option maxRecDepth 65536 in
theorem w_t1 : (words1.take 24).all (fun c => isCode c || c.before args0 about1) = true := by decide +kernel
set_option maxRecDepth 65536 in
theorem w_t2 : ((words1.drop 24).take 24).all (fun c => isCode c || c.before args0 about1) = true := by decide +kernel
set_option maxRecDepth 65536 in
theorem w_t3 : ((words1.drop 24).drop 24).all (fun c => isCode c || c.before args0 about1) = true := by decide +kernel
theorem w_tables : (allAtoms (Jvm.Cond.code x code maxLocals ret :: tables_1)).before args0 about1 = true := by
  rw [allAtoms_all]
  show words1.all (fun c => c.before args0 about1) = true
  refine all_split ?_ w_codes
  rw [← List.take_append_drop 24 words1, List.all_append, w_t1, ← List.take_append_drop 24 (words1.drop 24), List.all_append, w_t2, w_t3]
  rfl
set_option maxRecDepth 65536 in
theorem w_rest : rest_1_c.before args0 about1 = true := by decide +kernel
set_option maxRecDepth 65536 in
theorem w_case : (Jvm.Cond.and given_1 narrow_1).before args0 about1 = true := by decide +kernel
theorem w_applies : (headSpec (Jvm.Cond.code x code maxLocals ret :: tables_1) room_1).applies x e0.platform about1 = true :=
  (Spec.applies_iff w_frames).mpr ⟨w_running, w_runnable, w_alone, w_named, w_hears, w_ripe, w_room, w_tables⟩
theorem atStart : AtStart classFile x code maxLocals ret World_1 tables_1 room_1 Calls_1 rest_1 Pre_1 launch0 p0 e0 about1 theMethod args0 below0 :=
  ⟨lists_1, trivial, launch0.admits_env _ _ _, launch0.least_env, fairChoices_fair.cas, fairChoices_fair.clock, w_frames, w_args, w_heap, w_applies, trivial, w_rest, w_case⟩
end start1
theorem witness_1 : WitnessClaimed_1 := ⟨start1.p0, start1.e0, start1.about1, start1.theMethod, start1.args0, start1.below0, start1.atStart⟩
end Jvm.Pilot.@@N@@
