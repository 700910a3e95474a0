import JvmDerived
import JvmDerived.Pilot.@@N@@Statement
import JvmDerived.Pilot.@@N@@Code
set_option linter.unusedVariables false
set_option linter.unusedSimpArgs false
namespace Jvm.Pilot.@@N@@
open Jvm Jvm.ClassFile Sem Op Lib Jvm.Free Jvm.Stand Jvm.LawKit Jvm.RoadKit Bundle Jvm.Pilot.@@N@@.Jvm.D
/-- from the state T with the top frame g the run comes to T' with g' -/
def own_R (p : Program) (e : Env) (below : List Frame) (T : State) (g : JFrame) (T' : State) (g' : JFrame) : Prop := ∀ t, Steps p.tables e below (T'.setTop g') t → Steps p.tables e below (T.setTop g) t
abbrev own_S (p : Program) (e : Env) (below : List Frame) (T : State) (g : JFrame) (t : State) : Prop := Steps p.tables e below (T.setTop g) t
theorem own_R.refl {p : Program} {e : Env} {below : List Frame} {T : State} {g : JFrame} : own_R p e below T g T g := fun _ k => k
theorem own_R.trans {p : Program} {e : Env} {below : List Frame} {T T' T'' : State} {g g' g'' : JFrame} (h : own_R p e below T g T' g') (h' : own_R p e below T' g' T'' g'') : own_R p e below T g T'' g'' := fun t k => h t (h' t k)
theorem own_ne_arv {Z : State} {h : Heap} {a b : Addr} {C : String} {k : Nat} {kk : ClassId} {ty : FieldType} {z : Int32} {vs : List Value} {dv : Value} {a0 : Array Value} (E : Exa Z h a C) (wi : (Jvm.Cond.instantiable C k).before a0 Z = true) (V : Arv Z h b kk ty z vs dv) : a ≠ b := by
  obtain ⟨c, A, -⟩ := V
  exact ne_arr E wi A
theorem own_fe {a b x : Addr} {n : Nat} (h : b = a ∨ n ≤ b) (h1 : x ≠ a) (h2 : x < n) : x ≠ b := fun q => h.elim (fun e => h1 (q.trans e)) (fun e => Nat.not_lt.mpr e (q ▸ h2))
theorem own_feg {a b : Addr} {n k : Nat} (h : b = a ∨ n ≤ b) (h1 : k ≤ a) (h2 : k ≤ n) : k ≤ b := h.elim (fun e => e ▸ h1) (Nat.le_trans h2)
theorem own_g {α : Type} {L : List α} {i : Nat} {d : α} (h : L[i]? = some d) : d ∈ L := List.mem_of_getElem? h
theorem own_few {a b : Addr} {ws : List Addr} {n k : Nat} (h : b = a ∨ n ≤ b) (hm : a ∈ ws) (hk : k ≤ n) : b ∈ ws ∨ k ≤ b := h.elim (fun e => Or.inl (e ▸ hm)) (fun e => Or.inr (Nat.le_trans hk e))
theorem own_lt1 (vs : List Value) (d : Value) : vs.length < (vs ++ List.replicate 1 d).length := by simp
theorem own_app {Z : State} {h : Heap} {b : Addr} {k : ClassId} {ty : FieldType} {z : Int32} {vs : List Value} {v d : Value} (F : Arv Z h b k ty z ((vs ++ List.replicate 1 d).set vs.length v) d) : Arv Z h b k ty z (vs ++ [v]) d := by
  have e : (vs ++ List.replicate 1 d).set vs.length v = vs ++ [v] := by simp
  rw [e] at F
  exact F
theorem own_selp {Z s : State} {a0 args : Array Value} {y : MethodName} {n : Nat} (hZ : Z.Warmed39 s.vm) (wi : (Jvm.Cond.instantiable y.cls n).before a0 Z = true) (wp : (Jvm.Cond.privateMethod y).before a0 Z = true) (wm : (Jvm.Cond.instanceMethod y).before a0 Z = true) (hy : y.cls ≠ "java/lang/invoke/MethodHandle" ∧ y.cls ≠ "java/lang/invoke/VarHandle") : (Jvm.Cond.selects y.cls y y).before args s = true := by
  have wi' : (Jvm.Cond.instantiable y.cls n).before args s = true := mvT hZ wi
  obtain ⟨c, k, h1, h2, -, h4, -⟩ := Cond.instantiable_spec wi'
  have h5 : k.isInterface = false := by
    cases hi : k.isInterface with
    | false => rfl
    | true => simp [hi] at h4
  exact Jvm.Stand.selects_self_of_private h1 h2 h5 (Cond.privateMethod_at (mvP hZ wp (args := #[]))) (mvT hZ wm) hy
theorem own_old_size {Z : State} {n0 : Nat} {h : Heap} (O : Old Z n0 h) : n0 ≤ h.size := O.1 ▸ O.2.1

theorem own_eq_fld {s : State} {args : Array Value} {t : Jvm.Term} {a : Addr} {C n d : String} {k : Int32} (ev : t.eval args s none [] s = some (.ref a)) (h : (Jvm.Cond.eq (Jvm.Term.field t C n d) (Jvm.Term.int k)).value args s none s [] = some true) : Fld s s.heap a C n d (.int k) := by
  apply Fld.start
  have q := fld_at (C := C) (n := n) (dd := d) ev
  rw [← q]
  cases hv : (Jvm.Term.field t C n d).eval args s none [] s with
  | none => simp [Cond.value, hv] at h
  | some v => cases v <;> simp_all [Cond.value, Term.eval]

theorem own_eq_val {s : State} {args : Array Value} {t u : Jvm.Term} {y : Addr} (ev : u.eval args s none [] s = some (.ref y)) (h : (Jvm.Cond.eq t u).value args s none s [] = some true) : t.eval args s none [] s = some (.ref y) := by
  cases hv : t.eval args s none [] s with
  | none => simp [Cond.value, hv] at h
  | some v => cases v <;> simp_all [Cond.value]
theorem own_eq_ref {s : State} {args : Array Value} {t u : Jvm.Term} {a y : Addr} {C n d : String} (ev : t.eval args s none [] s = some (.ref a)) (eu : u.eval args s none [] s = some (.ref y)) (h : (Jvm.Cond.eq (Jvm.Term.field t C n d) u).value args s none s [] = some true) : Fld s s.heap a C n d (.ref y) := by
  apply Fld.start
  rw [← fld_at (C := C) (n := n) (dd := d) ev]
  exact own_eq_val eu h
theorem own_eq_null {s : State} {args : Array Value} {t : Jvm.Term} {a : Addr} {C n d : String} (ev : t.eval args s none [] s = some (.ref a)) (h : (Jvm.Cond.eq (Jvm.Term.field t C n d) Jvm.Term.null).value args s none s [] = some true) : Fld s s.heap a C n d .null := by
  apply Fld.start
  rw [← fld_at (C := C) (n := n) (dd := d) ev]
  exact null_v h
theorem own_len {s : State} {args : Array Value} {t : Jvm.Term} {a : Addr} {cl : Cell} {ty : FieldType} {n : Int32} (ev : t.eval args s none [] s = some (.ref a)) (A : Arr s s.heap a cl ty) (h : (Jvm.Cond.eq (Jvm.Term.length t) (Jvm.Term.int n)).value args s none s [] = some true) : cl.slots.size < 2 ^ 31 ∧ cl.slots.size.toInt32 = n := by
  have ha : s.arrayAt? a = some cl := A.fin (Vm.Alike.refl _)
  by_cases hl : cl.slots.size < 2 ^ 31
  · have e := len_f (args := args) (first := s) (o := none) (idx := []) ev ha hl
    refine ⟨hl, ?_⟩
    simp only [Cond.value, e, Term.int_eval] at h
    simpa using h
  · exfalso
    have e : (Jvm.Term.length t).eval args s none [] s = none := by simp [Term.eval, ev, ha]; omega
    simp only [Cond.value, e] at h
    cases h
theorem own_elem {s : State} {args : Array Value} {t u : Jvm.Term} {a y : Addr} {cl : Cell} {ty : FieldType} {j : Int32} (ev : t.eval args s none [] s = some (.ref a)) (eu : u.eval args s none [] s = some (.ref y)) (A : Arr s s.heap a cl ty) (hj : ¬ j < 0) (h : (Jvm.Cond.eq (Jvm.Term.elem t (Jvm.Term.int j)) u).value args s none s [] = some true) : cl.slots[j.toNatClampNeg]? = some (.ref y) := by
  have ha : s.arrayAt? a = some cl := A.fin (Vm.Alike.refl _)
  have e := elem_f (args := args) (first := s) (o := none) (idx := []) (a := Jvm.Term.int j) ev rfl ha hj
  rw [← e]
  exact own_eq_val eu h

theorem own_split {k p : Int32} (h : k = (p &&& (15 : Int32))) : k = (0 : Int32) ∨ k = (1 : Int32) ∨ k = (2 : Int32) ∨ k = (3 : Int32) ∨ k = (4 : Int32) ∨ k = (5 : Int32) ∨ k = (6 : Int32) ∨ k = (7 : Int32) ∨ k = (8 : Int32) ∨ k = (9 : Int32) ∨ k = (10 : Int32) ∨ k = (11 : Int32) ∨ k = (12 : Int32) ∨ k = (13 : Int32) ∨ k = (14 : Int32) ∨ k = (15 : Int32) := by
  have h1 := c_mask p (15 : Int32) 4 (by decide) (by decide)
  rw [← h] at h1
  have h4 : k.toInt = 0 ∨ k.toInt = 1 ∨ k.toInt = 2 ∨ k.toInt = 3 ∨ k.toInt = 4 ∨ k.toInt = 5 ∨ k.toInt = 6 ∨ k.toInt = 7 ∨ k.toInt = 8 ∨ k.toInt = 9 ∨ k.toInt = 10 ∨ k.toInt = 11 ∨ k.toInt = 12 ∨ k.toInt = 13 ∨ k.toInt = 14 ∨ k.toInt = 15 := by
    have e : ((2 ^ 4 : Nat) : Int) = 16 := by decide
    rw [e] at h1
    omega
  rcases h4 with q | q | q | q | q | q | q | q | q | q | q | q | q | q | q | q
  · have e : k = (0 : Int32) := Int32.toInt_inj.mp (by rw [q]; decide)
    exact Or.inl e
  · have e : k = (1 : Int32) := Int32.toInt_inj.mp (by rw [q]; decide)
    exact Or.inr (Or.inl e)
  · have e : k = (2 : Int32) := Int32.toInt_inj.mp (by rw [q]; decide)
    exact Or.inr (Or.inr (Or.inl e))
  · have e : k = (3 : Int32) := Int32.toInt_inj.mp (by rw [q]; decide)
    exact Or.inr (Or.inr (Or.inr (Or.inl e)))
  · have e : k = (4 : Int32) := Int32.toInt_inj.mp (by rw [q]; decide)
    exact Or.inr (Or.inr (Or.inr (Or.inr (Or.inl e))))
  · have e : k = (5 : Int32) := Int32.toInt_inj.mp (by rw [q]; decide)
    exact Or.inr (Or.inr (Or.inr (Or.inr (Or.inr (Or.inl e)))))
  · have e : k = (6 : Int32) := Int32.toInt_inj.mp (by rw [q]; decide)
    exact Or.inr (Or.inr (Or.inr (Or.inr (Or.inr (Or.inr (Or.inl e))))))
  · have e : k = (7 : Int32) := Int32.toInt_inj.mp (by rw [q]; decide)
    exact Or.inr (Or.inr (Or.inr (Or.inr (Or.inr (Or.inr (Or.inr (Or.inl e)))))))
  · have e : k = (8 : Int32) := Int32.toInt_inj.mp (by rw [q]; decide)
    exact Or.inr (Or.inr (Or.inr (Or.inr (Or.inr (Or.inr (Or.inr (Or.inr (Or.inl e))))))))
  · have e : k = (9 : Int32) := Int32.toInt_inj.mp (by rw [q]; decide)
    exact Or.inr (Or.inr (Or.inr (Or.inr (Or.inr (Or.inr (Or.inr (Or.inr (Or.inr (Or.inl e)))))))))
  · have e : k = (10 : Int32) := Int32.toInt_inj.mp (by rw [q]; decide)
    exact Or.inr (Or.inr (Or.inr (Or.inr (Or.inr (Or.inr (Or.inr (Or.inr (Or.inr (Or.inr (Or.inl e))))))))))
  · have e : k = (11 : Int32) := Int32.toInt_inj.mp (by rw [q]; decide)
    exact Or.inr (Or.inr (Or.inr (Or.inr (Or.inr (Or.inr (Or.inr (Or.inr (Or.inr (Or.inr (Or.inr (Or.inl e)))))))))))
  · have e : k = (12 : Int32) := Int32.toInt_inj.mp (by rw [q]; decide)
    exact Or.inr (Or.inr (Or.inr (Or.inr (Or.inr (Or.inr (Or.inr (Or.inr (Or.inr (Or.inr (Or.inr (Or.inr (Or.inl e))))))))))))
  · have e : k = (13 : Int32) := Int32.toInt_inj.mp (by rw [q]; decide)
    exact Or.inr (Or.inr (Or.inr (Or.inr (Or.inr (Or.inr (Or.inr (Or.inr (Or.inr (Or.inr (Or.inr (Or.inr (Or.inr (Or.inl e)))))))))))))
  · have e : k = (14 : Int32) := Int32.toInt_inj.mp (by rw [q]; decide)
    exact Or.inr (Or.inr (Or.inr (Or.inr (Or.inr (Or.inr (Or.inr (Or.inr (Or.inr (Or.inr (Or.inr (Or.inr (Or.inr (Or.inr (Or.inl e))))))))))))))
  · have e : k = (15 : Int32) := Int32.toInt_inj.mp (by rw [q]; decide)
    exact Or.inr (Or.inr (Or.inr (Or.inr (Or.inr (Or.inr (Or.inr (Or.inr (Or.inr (Or.inr (Or.inr (Or.inr (Or.inr (Or.inr (Or.inr (e)))))))))))))))
theorem own_ins {Z : State} {h : Heap} {a : Addr} {C K : String} {c t : ClassId} (E : Exa Z h a C) (f1 : Z.vm.findClass C = some c) (f2 : Z.vm.findClass K = some t) (f3 : Z.vm.assignable c t = true) : Ins Z h a K true := by
  obtain ⟨cell, k, h1, h2, -, h4, -⟩ := E
  cases f1.symm.trans h2
  exact ⟨cell, t, h1, f2, by simp [h4, f3]⟩
theorem own_found {Z : State} {a0 : Array Value} {own K : String} {i : Nat} (w : (Jvm.Cond.classLink own i K).before a0 Z = true) : ∃ t, Z.vm.findClass K = some t := by
  cases hc : Z.vm.findClass K with
  | some t => exact ⟨t, rfl⟩
  | none =>
    have q := Cond.before_iff.mp w
    simp only [Cond.value, State.classLinks, hc] at q
    split at q <;> simp_all

theorem d1_0 : decode prog_22_method_4_code 0 = .ok (.aload_n 0, 1) := by decide +kernel
theorem d1_1 : decode prog_22_method_4_code 1 = .ok (.getstatic 34, 3) := by decide +kernel
theorem d1_4 : decode prog_22_method_4_code 4 = .ok (.if_acmp .eq 17, 3) := by decide +kernel
theorem d1_21 : decode prog_22_method_4_code 21 = .ok (.iconst 1, 1) := by decide +kernel
theorem d1_22 : decode prog_22_method_4_code 22 = .ok (.goto 4, 3) := by decide +kernel
theorem d1_26 : decode prog_22_method_4_code 26 = .ok (.ireturn, 1) := by decide +kernel
theorem d1_7 : decode prog_22_method_4_code 7 = .ok (.aload_n 0, 1) := by decide +kernel
theorem d1_8 : decode prog_22_method_4_code 8 = .ok (.getstatic 37, 3) := by decide +kernel
theorem d1_11 : decode prog_22_method_4_code 11 = .ok (.if_acmp .eq 10, 3) := by decide +kernel
theorem d1_14 : decode prog_22_method_4_code 14 = .ok (.aload_n 0, 1) := by decide +kernel
theorem d1_15 : decode prog_22_method_4_code 15 = .ok (.getstatic 40, 3) := by decide +kernel
theorem d1_18 : decode prog_22_method_4_code 18 = .ok (.if_acmp .ne 7, 3) := by decide +kernel
theorem d1_25 : decode prog_22_method_4_code 25 = .ok (.iconst 0, 1) := by decide +kernel
theorem pn_ColumnType_Kind : plainName "com/example/blindern/blindern/mapping/ColumnType$Kind" = true := by first | (simp [plainName, overriddenIn]; done) | decide +kernel
theorem ef_takes (m : MethodId) (a : Addr) : entryFrame m #[(.ref a)] 1 = mkF m 0 #[.val (.ref a)] [] := by first | (simp [entryFrame, mkF, argsToLocals, Value.category]; done) | rfl
def Q_takes (Z : State) (a : Addr) (wT : Addr) (wS : Addr) (wZ : Addr) (r : Int32) (h0 : Heap) (n0 : Nat) (v_ : Option Value) (h_ : Heap) (L_ : List Loc) : Prop := v_ = some (.int r) ∧ Fr n0 L_ ∧ h_ = h0
set_option maxRecDepth 65536 in
set_option maxHeartbeats 40000000 in
theorem rm_takes (l : Launch) (Z : State) (a0 : Array Value) (hw : ∀ d ∈ tables_1, d.before a0 Z = true) (ws : List Jvm.Cond) (a : Addr) (wT : Addr) (wS : Addr) (wZ : Addr) (r : Int32) (h0 : Heap) (n0 : Nat) (O0 : Old Z n0 h0) (S_ColumnType_Kind_TIME : Sta Z Z.heap "com/example/blindern/blindern/mapping/ColumnType$Kind" "TIME" "Lcom/example/blindern/blindern/mapping/ColumnType$Kind;" (.ref wT)) (S_ColumnType_Kind_TIMESTAMP : Sta Z Z.heap "com/example/blindern/blindern/mapping/ColumnType$Kind" "TIMESTAMP" "Lcom/example/blindern/blindern/mapping/ColumnType$Kind;" (.ref wS)) (S_ColumnType_Kind_TIMESTAMP_TZ : Sta Z Z.heap "com/example/blindern/blindern/mapping/ColumnType$Kind" "TIMESTAMP_TZ" "Lcom/example/blindern/blindern/mapping/ColumnType$Kind;" (.ref wZ)) (hr0 : (a = wT ∧ r = (1 : Int32)) ∨ (a ≠ wT ∧ a = wS ∧ r = (1 : Int32)) ∨ (a ≠ wT ∧ a ≠ wS ∧ a = wZ ∧ r = (1 : Int32)) ∨ (a ≠ wT ∧ a ≠ wS ∧ a ≠ wZ ∧ r = (0 : Int32))) :
    MetFree l (⟨"com/example/blindern/blindern/mapping/ColumnType$Kind", "takesSecondPrecision", "()Z"⟩ : MethodName) (head1 (Jvm.Cond.code (⟨"com/example/blindern/blindern/mapping/ColumnType$Kind", "takesSecondPrecision", "()Z"⟩ : MethodName) prog_22_method_4_code 1 (some .boolean) :: ws) ({ frames := 0, cells := 0, slots := 0, locals := 0 } : Room)) (fun aa_ U_ => aa_ = #[(.ref a)] ∧ Z.Warmed39 U_.vm ∧ U_.heap = h0) (fun _ _ _ _ _ => True) (fun _ U_ o_ U_' => ∃ v_ L_, o_ = .returned v_ ∧ Q_takes Z a wT wS wZ r h0 n0 v_ U_'.heap L_ ∧ FrameEnd U_ o_ U_' L_ ({ frames := 0, cells := 0, slots := 0, locals := 0 } : Room).cells ({ frames := 0, cells := 0, slots := 0, locals := 0 } : Room).slots) := by
  refine MetFree.of_bodySF (plainFor_of_name pn_ColumnType_Kind) hisR ?_
  intro p e s m args below meth c s₁ Bd hml0 hP hK
  obtain ⟨rfl, hZ, hh⟩ := hP
  have hx := Bd.exec
  have hby := Bd.bytes
  have hml : c.maxLocals = 1 := hml0
  have hown : s.vm.findClass "com/example/blindern/blindern/mapping/ColumnType$Kind" = some m.cls := findClass_of_methodNamed Bd.named
  have hnm := (name_of_methodNamed Bd.named Bd.method).1
  have X0 : Stand p l e ({ frames := 0, cells := 0, slots := 0, locals := 0 } : Room) s m #[(.ref a)] below meth c s₁ [] 0 0 := Stand.of_body Bd
  have e0 : s₁.heap = h0 := by rw [← hh, Bd.state]; rfl
  have N0 := Fr.nil n0
  have pre0 : ∀ z_, Steps p.tables e below (s₁.setTop (mkF m 0 #[.val (.ref a)] [])) z_ → Steps p.tables e below (s₁.setTop (entryFrame m #[(.ref a)] 1)) z_ := fun z_ k_ => castTop (ef_takes m a) k_
  have r0 : own_R p e below s₁ (mkF m 0 #[.val (.ref a)] []) s₁ (mkF m 0 #[.val (.ref a)] []) := own_R.refl
  rcases hr0 with ⟨q1, qr⟩ | ⟨q1, q2, qr⟩ | ⟨q1, q2, q3, qr⟩ | ⟨q1, q2, q3, qr⟩
  · skip
    have r1 : own_R p e below _ _ s₁ (mkF m 1 #[.val (.ref a)] [(.ref a)]) := r0.trans fun z_ kt => by
      refine XS.aloadN X0.here hx rfl (hb hby d1_0) rfl rfl ?_
      exact kt
    obtain ⟨T2, X2, e2, st2⟩ := getS2 X0 hx hZ hown (host := "") (Or.inl (hw _ (own_g (i := 41) rfl))) Via.refl e0 (S_ColumnType_Kind_TIME.ext O0.2) (g := (mkF m 1 #[.val (.ref a)] [(.ref a)])) rfl (hb hby d1_1)
    have r2 : own_R p e below _ _ T2 (mkF m 4 #[.val (.ref a)] [(.ref wT), (.ref a)]) := r1.trans fun z_ kt => st2 _ kt
    have r3 : own_R p e below _ _ T2 (mkF m 26 #[.val (.ref a)] [(.int (1 : Int32))]) := r2.trans fun z_ kt => by
      refine Jvm.RoadKit.acmp (g := (mkF m 4 #[.val (.ref a)] [(.ref wT), (.ref a)])) X2 hx rfl rfl rfl (pc0 := 4) (pc' := 21) (same := true) rfl (hb hby d1_4) rfl (decide_eq_true (congrArg Value.ref q1)) (by decide) (by decide) ?_
      refine XS.iconst X2.here hx rfl (hb hby d1_21) ?_
      refine XS.goto X2.here hx rfl (pc0 := 22) (pc' := 26) rfl (hb hby d1_22) (by decide) (by decide) ?_
      exact kt
    obtain ⟨fs_, hr_, hrun_, hended_, hW_, hsame_⟩ := X2.leave (v := some (.int (1 : Int32))) (fun h => by rw [Bd.returns] at h; cases h)
    refine ⟨_, _, pre0 _ (r3 _ ?_), hrun_, hended_, _, _, rfl, ?_, ⟨_, rfl⟩, hW_, hsame_.mono (by decide) (by decide)⟩
    · exact retN X2 hx (t := .boolean) Bd.returns (by simp) (hb hby d1_26) hr_
    · show Q_takes Z a wT wS wZ r h0 n0 _ T2.heap _
      rw [e2]
      exact ⟨by rw [qr], N0, rfl⟩
  · skip
    have r4 : own_R p e below _ _ s₁ (mkF m 1 #[.val (.ref a)] [(.ref a)]) := r0.trans fun z_ kt => by
      refine XS.aloadN X0.here hx rfl (hb hby d1_0) rfl rfl ?_
      exact kt
    obtain ⟨T5, X5, e5, st5⟩ := getS2 X0 hx hZ hown (host := "") (Or.inl (hw _ (own_g (i := 41) rfl))) Via.refl e0 (S_ColumnType_Kind_TIME.ext O0.2) (g := (mkF m 1 #[.val (.ref a)] [(.ref a)])) rfl (hb hby d1_1)
    have r5 : own_R p e below _ _ T5 (mkF m 4 #[.val (.ref a)] [(.ref wT), (.ref a)]) := r4.trans fun z_ kt => st5 _ kt
    have r6 : own_R p e below _ _ T5 (mkF m 8 #[.val (.ref a)] [(.ref a)]) := r5.trans fun z_ kt => by
      refine Jvm.RoadKit.acmp (g := (mkF m 4 #[.val (.ref a)] [(.ref wT), (.ref a)])) X5 hx rfl rfl rfl (pc0 := 4) (pc' := 7) (same := false) rfl (hb hby d1_4) rfl (decide_eq_false fun q => q1 (Value.ref.inj q)) (by decide) (by decide) ?_
      refine XS.aloadN X5.here hx rfl (hb hby d1_7) rfl rfl ?_
      exact kt
    obtain ⟨T7, X7, e7, st7⟩ := getS2 X5 hx hZ hown (host := "") (Or.inl (hw _ (own_g (i := 42) rfl))) Via.refl e5 (S_ColumnType_Kind_TIMESTAMP.ext O0.2) (g := (mkF m 8 #[.val (.ref a)] [(.ref a)])) rfl (hb hby d1_8)
    have r7 : own_R p e below _ _ T7 (mkF m 11 #[.val (.ref a)] [(.ref wS), (.ref a)]) := r6.trans fun z_ kt => st7 _ kt
    have r8 : own_R p e below _ _ T7 (mkF m 26 #[.val (.ref a)] [(.int (1 : Int32))]) := r7.trans fun z_ kt => by
      refine Jvm.RoadKit.acmp (g := (mkF m 11 #[.val (.ref a)] [(.ref wS), (.ref a)])) X7 hx rfl rfl rfl (pc0 := 11) (pc' := 21) (same := true) rfl (hb hby d1_11) rfl (decide_eq_true (congrArg Value.ref q2)) (by decide) (by decide) ?_
      refine XS.iconst X7.here hx rfl (hb hby d1_21) ?_
      refine XS.goto X7.here hx rfl (pc0 := 22) (pc' := 26) rfl (hb hby d1_22) (by decide) (by decide) ?_
      exact kt
    obtain ⟨fs_, hr_, hrun_, hended_, hW_, hsame_⟩ := X7.leave (v := some (.int (1 : Int32))) (fun h => by rw [Bd.returns] at h; cases h)
    refine ⟨_, _, pre0 _ (r8 _ ?_), hrun_, hended_, _, _, rfl, ?_, ⟨_, rfl⟩, hW_, hsame_.mono (by decide) (by decide)⟩
    · exact retN X7 hx (t := .boolean) Bd.returns (by simp) (hb hby d1_26) hr_
    · show Q_takes Z a wT wS wZ r h0 n0 _ T7.heap _
      rw [e7]
      exact ⟨by rw [qr], N0, rfl⟩
  · skip
    have r9 : own_R p e below _ _ s₁ (mkF m 1 #[.val (.ref a)] [(.ref a)]) := r0.trans fun z_ kt => by
      refine XS.aloadN X0.here hx rfl (hb hby d1_0) rfl rfl ?_
      exact kt
    obtain ⟨T10, X10, e10, st10⟩ := getS2 X0 hx hZ hown (host := "") (Or.inl (hw _ (own_g (i := 41) rfl))) Via.refl e0 (S_ColumnType_Kind_TIME.ext O0.2) (g := (mkF m 1 #[.val (.ref a)] [(.ref a)])) rfl (hb hby d1_1)
    have r10 : own_R p e below _ _ T10 (mkF m 4 #[.val (.ref a)] [(.ref wT), (.ref a)]) := r9.trans fun z_ kt => st10 _ kt
    have r11 : own_R p e below _ _ T10 (mkF m 8 #[.val (.ref a)] [(.ref a)]) := r10.trans fun z_ kt => by
      refine Jvm.RoadKit.acmp (g := (mkF m 4 #[.val (.ref a)] [(.ref wT), (.ref a)])) X10 hx rfl rfl rfl (pc0 := 4) (pc' := 7) (same := false) rfl (hb hby d1_4) rfl (decide_eq_false fun q => q1 (Value.ref.inj q)) (by decide) (by decide) ?_
      refine XS.aloadN X10.here hx rfl (hb hby d1_7) rfl rfl ?_
      exact kt
    obtain ⟨T12, X12, e12, st12⟩ := getS2 X10 hx hZ hown (host := "") (Or.inl (hw _ (own_g (i := 42) rfl))) Via.refl e10 (S_ColumnType_Kind_TIMESTAMP.ext O0.2) (g := (mkF m 8 #[.val (.ref a)] [(.ref a)])) rfl (hb hby d1_8)
    have r12 : own_R p e below _ _ T12 (mkF m 11 #[.val (.ref a)] [(.ref wS), (.ref a)]) := r11.trans fun z_ kt => st12 _ kt
    have r13 : own_R p e below _ _ T12 (mkF m 15 #[.val (.ref a)] [(.ref a)]) := r12.trans fun z_ kt => by
      refine Jvm.RoadKit.acmp (g := (mkF m 11 #[.val (.ref a)] [(.ref wS), (.ref a)])) X12 hx rfl rfl rfl (pc0 := 11) (pc' := 14) (same := false) rfl (hb hby d1_11) rfl (decide_eq_false fun q => q2 (Value.ref.inj q)) (by decide) (by decide) ?_
      refine XS.aloadN X12.here hx rfl (hb hby d1_14) rfl rfl ?_
      exact kt
    obtain ⟨T14, X14, e14, st14⟩ := getS2 X12 hx hZ hown (host := "") (Or.inl (hw _ (own_g (i := 43) rfl))) Via.refl e12 (S_ColumnType_Kind_TIMESTAMP_TZ.ext O0.2) (g := (mkF m 15 #[.val (.ref a)] [(.ref a)])) rfl (hb hby d1_15)
    have r14 : own_R p e below _ _ T14 (mkF m 18 #[.val (.ref a)] [(.ref wZ), (.ref a)]) := r13.trans fun z_ kt => st14 _ kt
    have r15 : own_R p e below _ _ T14 (mkF m 26 #[.val (.ref a)] [(.int (1 : Int32))]) := r14.trans fun z_ kt => by
      refine Jvm.RoadKit.acmp (g := (mkF m 18 #[.val (.ref a)] [(.ref wZ), (.ref a)])) X14 hx rfl rfl rfl (pc0 := 18) (pc' := 21) (same := true) rfl (hb hby d1_18) rfl (decide_eq_true (congrArg Value.ref q3)) (by decide) (by decide) ?_
      refine XS.iconst X14.here hx rfl (hb hby d1_21) ?_
      refine XS.goto X14.here hx rfl (pc0 := 22) (pc' := 26) rfl (hb hby d1_22) (by decide) (by decide) ?_
      exact kt
    obtain ⟨fs_, hr_, hrun_, hended_, hW_, hsame_⟩ := X14.leave (v := some (.int (1 : Int32))) (fun h => by rw [Bd.returns] at h; cases h)
    refine ⟨_, _, pre0 _ (r15 _ ?_), hrun_, hended_, _, _, rfl, ?_, ⟨_, rfl⟩, hW_, hsame_.mono (by decide) (by decide)⟩
    · exact retN X14 hx (t := .boolean) Bd.returns (by simp) (hb hby d1_26) hr_
    · show Q_takes Z a wT wS wZ r h0 n0 _ T14.heap _
      rw [e14]
      exact ⟨by rw [qr], N0, rfl⟩
  · skip
    have r16 : own_R p e below _ _ s₁ (mkF m 1 #[.val (.ref a)] [(.ref a)]) := r0.trans fun z_ kt => by
      refine XS.aloadN X0.here hx rfl (hb hby d1_0) rfl rfl ?_
      exact kt
    obtain ⟨T17, X17, e17, st17⟩ := getS2 X0 hx hZ hown (host := "") (Or.inl (hw _ (own_g (i := 41) rfl))) Via.refl e0 (S_ColumnType_Kind_TIME.ext O0.2) (g := (mkF m 1 #[.val (.ref a)] [(.ref a)])) rfl (hb hby d1_1)
    have r17 : own_R p e below _ _ T17 (mkF m 4 #[.val (.ref a)] [(.ref wT), (.ref a)]) := r16.trans fun z_ kt => st17 _ kt
    have r18 : own_R p e below _ _ T17 (mkF m 8 #[.val (.ref a)] [(.ref a)]) := r17.trans fun z_ kt => by
      refine Jvm.RoadKit.acmp (g := (mkF m 4 #[.val (.ref a)] [(.ref wT), (.ref a)])) X17 hx rfl rfl rfl (pc0 := 4) (pc' := 7) (same := false) rfl (hb hby d1_4) rfl (decide_eq_false fun q => q1 (Value.ref.inj q)) (by decide) (by decide) ?_
      refine XS.aloadN X17.here hx rfl (hb hby d1_7) rfl rfl ?_
      exact kt
    obtain ⟨T19, X19, e19, st19⟩ := getS2 X17 hx hZ hown (host := "") (Or.inl (hw _ (own_g (i := 42) rfl))) Via.refl e17 (S_ColumnType_Kind_TIMESTAMP.ext O0.2) (g := (mkF m 8 #[.val (.ref a)] [(.ref a)])) rfl (hb hby d1_8)
    have r19 : own_R p e below _ _ T19 (mkF m 11 #[.val (.ref a)] [(.ref wS), (.ref a)]) := r18.trans fun z_ kt => st19 _ kt
    have r20 : own_R p e below _ _ T19 (mkF m 15 #[.val (.ref a)] [(.ref a)]) := r19.trans fun z_ kt => by
      refine Jvm.RoadKit.acmp (g := (mkF m 11 #[.val (.ref a)] [(.ref wS), (.ref a)])) X19 hx rfl rfl rfl (pc0 := 11) (pc' := 14) (same := false) rfl (hb hby d1_11) rfl (decide_eq_false fun q => q2 (Value.ref.inj q)) (by decide) (by decide) ?_
      refine XS.aloadN X19.here hx rfl (hb hby d1_14) rfl rfl ?_
      exact kt
    obtain ⟨T21, X21, e21, st21⟩ := getS2 X19 hx hZ hown (host := "") (Or.inl (hw _ (own_g (i := 43) rfl))) Via.refl e19 (S_ColumnType_Kind_TIMESTAMP_TZ.ext O0.2) (g := (mkF m 15 #[.val (.ref a)] [(.ref a)])) rfl (hb hby d1_15)
    have r21 : own_R p e below _ _ T21 (mkF m 18 #[.val (.ref a)] [(.ref wZ), (.ref a)]) := r20.trans fun z_ kt => st21 _ kt
    have r22 : own_R p e below _ _ T21 (mkF m 26 #[.val (.ref a)] [(.int (0 : Int32))]) := r21.trans fun z_ kt => by
      refine Jvm.RoadKit.acmp (g := (mkF m 18 #[.val (.ref a)] [(.ref wZ), (.ref a)])) X21 hx rfl rfl rfl (pc0 := 18) (pc' := 25) (same := false) rfl (hb hby d1_18) rfl (decide_eq_false fun q => q3 (Value.ref.inj q)) (by decide) (by decide) ?_
      refine XS.iconst X21.here hx rfl (hb hby d1_25) ?_
      exact kt
    obtain ⟨fs_, hr_, hrun_, hended_, hW_, hsame_⟩ := X21.leave (v := some (.int (0 : Int32))) (fun h => by rw [Bd.returns] at h; cases h)
    refine ⟨_, _, pre0 _ (r22 _ ?_), hrun_, hended_, _, _, rfl, ?_, ⟨_, rfl⟩, hW_, hsame_.mono (by decide) (by decide)⟩
    · exact retN X21 hx (t := .boolean) Bd.returns (by simp) (hb hby d1_26) hr_
    · show Q_takes Z a wT wS wZ r h0 n0 _ T21.heap _
      rw [e21]
      exact ⟨by rw [qr], N0, rfl⟩

theorem d3_0 : decode jdk_40_method_36_code 0 = .ok (.getstatic 90, 3) := by decide +kernel
theorem d3_3 : decode jdk_40_method_36_code 3 = .ok (.areturn, 1) := by decide +kernel
theorem pn_List : plainName "java/util/List" = true := by first | (simp [plainName, overriddenIn]; done) | decide +kernel
theorem ef_listOf (m : MethodId)  : entryFrame m #[] 0 = mkF m 0 #[] [] := by first | (simp [entryFrame, mkF, argsToLocals, Value.category]; done) | rfl
def Q_listOf (Z : State) (s_EL : Addr) (h0 : Heap) (n0 : Nat) (v_ : Option Value) (h_ : Heap) (L_ : List Loc) : Prop := v_ = some (.ref s_EL) ∧ Fr n0 L_ ∧ h_ = h0
set_option maxRecDepth 65536 in
set_option maxHeartbeats 40000000 in
theorem rm_listOf (l : Launch) (Z : State) (a0 : Array Value) (hw : ∀ d ∈ tables_1, d.before a0 Z = true) (ws : List Jvm.Cond) (s_EL : Addr) (h0 : Heap) (n0 : Nat) (O0 : Old Z n0 h0) (S_ImmutableCollections_EMPTY_LIST : Sta Z Z.heap "java/util/ImmutableCollections" "EMPTY_LIST" "Ljava/util/ImmutableCollections$ListN;" (.ref s_EL)) :
    MetFree l (⟨"java/util/List", "of", "()Ljava/util/List;"⟩ : MethodName) (head1 (Jvm.Cond.code (⟨"java/util/List", "of", "()Ljava/util/List;"⟩ : MethodName) jdk_40_method_36_code 0 (some (.object "java/util/List")) :: ws) ({ frames := 0, cells := 0, slots := 0, locals := 0 } : Room)) (fun aa_ U_ => aa_ = #[] ∧ Z.Warmed39 U_.vm ∧ U_.heap = h0) (fun _ _ _ _ _ => True) (fun _ U_ o_ U_' => ∃ v_ L_, o_ = .returned v_ ∧ Q_listOf Z s_EL h0 n0 v_ U_'.heap L_ ∧ FrameEnd U_ o_ U_' L_ ({ frames := 0, cells := 0, slots := 0, locals := 0 } : Room).cells ({ frames := 0, cells := 0, slots := 0, locals := 0 } : Room).slots) := by
  refine MetFree.of_bodySF (plainFor_of_name pn_List) hisR ?_
  intro p e s m args below meth c s₁ Bd hml0 hP hK
  obtain ⟨rfl, hZ, hh⟩ := hP
  have hx := Bd.exec
  have hby := Bd.bytes
  have hml : c.maxLocals = 0 := hml0
  have hown : s.vm.findClass "java/util/List" = some m.cls := findClass_of_methodNamed Bd.named
  have hnm := (name_of_methodNamed Bd.named Bd.method).1
  have X0 : Stand p l e ({ frames := 0, cells := 0, slots := 0, locals := 0 } : Room) s m #[] below meth c s₁ [] 0 0 := Stand.of_body Bd
  have e0 : s₁.heap = h0 := by rw [← hh, Bd.state]; rfl
  have N0 := Fr.nil n0
  have pre0 : ∀ z_, Steps p.tables e below (s₁.setTop (mkF m 0 #[] [])) z_ → Steps p.tables e below (s₁.setTop (entryFrame m #[] 0)) z_ := fun z_ k_ => castTop (ef_listOf m ) k_
  have r0 : own_R p e below s₁ (mkF m 0 #[] []) s₁ (mkF m 0 #[] []) := own_R.refl
  obtain ⟨T1, X1, e1, st1⟩ := getS2 X0 hx hZ hown (host := "") (Or.inl (hw _ (own_g (i := 55) rfl))) Via.refl e0 (S_ImmutableCollections_EMPTY_LIST.ext O0.2) (g := (mkF m 0 #[] [])) rfl (hb hby d3_0)
  have r1 : own_R p e below _ _ T1 (mkF m 3 #[] [(.ref s_EL)]) := r0.trans fun z_ kt => st1 _ kt
  obtain ⟨fs_, hr_, hrun_, hended_, hW_, hsame_⟩ := X1.leave (v := some (.ref s_EL)) (fun h => by rw [Bd.returns] at h; cases h)
  refine ⟨_, _, pre0 _ (r1 _ ?_), hrun_, hended_, _, _, rfl, ?_, ⟨_, rfl⟩, hW_, hsame_.mono (by decide) (by decide)⟩
  · exact retOut X1 hx Bd.returns rfl (Or.inr (Or.inr (Or.inr (Or.inr ⟨rfl, rfl, rfl⟩)))) (hb hby d3_3) hr_
  · show Q_listOf Z s_EL h0 n0 _ T1.heap _
    rw [e1]
    exact ⟨rfl, N0, rfl⟩

theorem d8_0 : decode jdk_56_method_3_code 0 = .ok (.aload_n 0, 1) := by decide +kernel
theorem d8_1 : decode jdk_56_method_3_code 1 = .ok (.instanceof 10, 3) := by decide +kernel
theorem d8_4 : decode jdk_56_method_3_code 4 = .ok (.ifCond .ne 22, 3) := by decide +kernel
theorem d8_7 : decode jdk_56_method_3_code 7 = .ok (.aload_n 0, 1) := by decide +kernel
theorem d8_8 : decode jdk_56_method_3_code 8 = .ok (.instanceof 12, 3) := by decide +kernel
theorem d8_11 : decode jdk_56_method_3_code 11 = .ok (.ifCond .eq 20, 3) := by decide +kernel
theorem d8_14 : decode jdk_56_method_3_code 14 = .ok (.aload_n 0, 1) := by decide +kernel
theorem d8_15 : decode jdk_56_method_3_code 15 = .ok (.checkcast 12, 3) := by decide +kernel
theorem d8_18 : decode jdk_56_method_3_code 18 = .ok (.astore_n 1, 1) := by decide +kernel
theorem d8_19 : decode jdk_56_method_3_code 19 = .ok (.aload_n 1, 1) := by decide +kernel
theorem d8_20 : decode jdk_56_method_3_code 20 = .ok (.getfield 14, 3) := by decide +kernel
theorem d8_23 : decode jdk_56_method_3_code 23 = .ok (.ifCond .ne 8, 3) := by decide +kernel
theorem d8_26 : decode jdk_56_method_3_code 26 = .ok (.aload_n 0, 1) := by decide +kernel
theorem d8_27 : decode jdk_56_method_3_code 27 = .ok (.checkcast 18, 3) := by decide +kernel
theorem d8_30 : decode jdk_56_method_3_code 30 = .ok (.areturn, 1) := by decide +kernel
theorem pn_ImmutableCollections : plainName "java/util/ImmutableCollections" = true := by first | (simp [plainName, overriddenIn]; done) | decide +kernel
theorem ef_listCopy (m : MethodId) (a : Addr) : entryFrame m #[(.ref a)] 2 = mkF m 0 #[.val (.ref a), .unset] [] := by first | (simp [entryFrame, mkF, argsToLocals, Value.category]; done) | rfl
def Q_listCopy (Z : State) (a : Addr) (h0 : Heap) (n0 : Nat) (v_ : Option Value) (h_ : Heap) (L_ : List Loc) : Prop := v_ = some (.ref a) ∧ Fr n0 L_ ∧ h_ = h0
set_option maxRecDepth 65536 in
set_option maxHeartbeats 40000000 in
theorem rm_listCopy (l : Launch) (Z : State) (a0 : Array Value) (hw : ∀ d ∈ tables_1, d.before a0 Z = true) (ws : List Jvm.Cond) (a : Addr) (h0 : Heap) (n0 : Nat) (O0 : Old Z n0 h0) (OE_a : Exa Z Z.heap a "java/util/ImmutableCollections$ListN") (OF_a_allowNulls : Fld Z Z.heap a "java/util/ImmutableCollections$ListN" "allowNulls" "Z" (.int (0 : Int32))) :
    MetFree l (⟨"java/util/ImmutableCollections", "listCopy", "(Ljava/util/Collection;)Ljava/util/List;"⟩ : MethodName) (head1 (Jvm.Cond.code (⟨"java/util/ImmutableCollections", "listCopy", "(Ljava/util/Collection;)Ljava/util/List;"⟩ : MethodName) jdk_56_method_3_code 2 (some (.object "java/util/List")) :: ws) ({ frames := 0, cells := 0, slots := 0, locals := 0 } : Room)) (fun aa_ U_ => aa_ = #[(.ref a)] ∧ Z.Warmed39 U_.vm ∧ U_.heap = h0) (fun _ _ _ _ _ => True) (fun _ U_ o_ U_' => ∃ v_ L_, o_ = .returned v_ ∧ Q_listCopy Z a h0 n0 v_ U_'.heap L_ ∧ FrameEnd U_ o_ U_' L_ ({ frames := 0, cells := 0, slots := 0, locals := 0 } : Room).cells ({ frames := 0, cells := 0, slots := 0, locals := 0 } : Room).slots) := by
  refine MetFree.of_bodySF (plainFor_of_name pn_ImmutableCollections) hisR ?_
  intro p e s m args below meth c s₁ Bd hml0 hP hK
  obtain ⟨rfl, hZ, hh⟩ := hP
  have hx := Bd.exec
  have hby := Bd.bytes
  have hml : c.maxLocals = 2 := hml0
  have hown : s.vm.findClass "java/util/ImmutableCollections" = some m.cls := findClass_of_methodNamed Bd.named
  have hnm := (name_of_methodNamed Bd.named Bd.method).1
  have X0 : Stand p l e ({ frames := 0, cells := 0, slots := 0, locals := 0 } : Room) s m #[(.ref a)] below meth c s₁ [] 0 0 := Stand.of_body Bd
  have e0 : s₁.heap = h0 := by rw [← hh, Bd.state]; rfl
  have N0 := Fr.nil n0
  have pre0 : ∀ z_, Steps p.tables e below (s₁.setTop (mkF m 0 #[.val (.ref a), .unset] [])) z_ → Steps p.tables e below (s₁.setTop (entryFrame m #[(.ref a)] 2)) z_ := fun z_ k_ => castTop (ef_listCopy m a) k_
  have r0 : own_R p e below s₁ (mkF m 0 #[.val (.ref a), .unset] []) s₁ (mkF m 0 #[.val (.ref a), .unset] []) := own_R.refl
  have r1 : own_R p e below _ _ s₁ (mkF m 1 #[.val (.ref a), .unset] [(.ref a)]) := r0.trans fun z_ kt => by
    refine XS.aloadN X0.here hx rfl (hb hby d8_0) rfl rfl ?_
    exact kt
  obtain ⟨cT, f2⟩ := own_found (hw _ (own_g (i := 82) rfl))
  obtain ⟨cN, f1⟩ := own_found (hw _ (own_g (i := 88) rfl))
  cases f3 : Z.vm.assignable cN cT
  · skip
    obtain ⟨T2, X2, e2, st2⟩ := instNo X0 hx hZ hown (hw _ (own_g (i := 82) rfl)) e0 (OE_a.ext O0.2) ⟨cN, cT, f1, f2, f3⟩ (g := (mkF m 1 #[.val (.ref a), .unset] [(.ref a)])) rfl rfl (hb hby d8_1)
    have r2 : own_R p e below _ _ T2 (mkF m 4 #[.val (.ref a), .unset] [(.int (0 : Int32))]) := r1.trans fun z_ kt => st2 _ kt
    have r3 : own_R p e below _ _ T2 (mkF m 8 #[.val (.ref a), .unset] [(.ref a)]) := r2.trans fun z_ kt => by
      refine XS.ifNo X2.here hx rfl (hb hby d8_4) rfl ((if0 _ _).trans (teq (by decide : (0 : Int32) = (0 : Int32))).2) ?_
      refine XS.aloadN X2.here hx rfl (hb hby d8_7) rfl rfl ?_
      exact kt
    obtain ⟨T4, X4, e4, st4⟩ := instY X2 hx hZ hown (hw _ (own_g (i := 88) rfl)) e2 (Ins.self (OE_a.ext O0.2)) (g := (mkF m 8 #[.val (.ref a), .unset] [(.ref a)])) rfl rfl (hb hby d8_8)
    have r4 : own_R p e below _ _ T4 (mkF m 11 #[.val (.ref a), .unset] [(.int (1 : Int32))]) := r3.trans fun z_ kt => st4 _ kt
    have r5 : own_R p e below _ _ T4 (mkF m 15 #[.val (.ref a), .unset] [(.ref a)]) := r4.trans fun z_ kt => by
      refine XS.ifNo X4.here hx rfl (hb hby d8_11) rfl ((if0 _ _).trans (feq (by decide : ¬ ((1 : Int32) = (0 : Int32)))).1) ?_
      refine XS.aloadN X4.here hx rfl (hb hby d8_14) rfl rfl ?_
      exact kt
    obtain ⟨T6, X6, e6, st6⟩ := castY X4 hx hZ hown (hw _ (own_g (i := 88) rfl)) e4 (Ins.self (OE_a.ext O0.2)) (g := (mkF m 15 #[.val (.ref a), .unset] [(.ref a)])) rfl rfl (hb hby d8_15)
    have r6 : own_R p e below _ _ T6 (mkF m 18 #[.val (.ref a), .unset] [(.ref a)]) := r5.trans fun z_ kt => st6 _ kt
    have r7 : own_R p e below _ _ T6 (mkF m 20 #[.val (.ref a), .val (.ref a)] [(.ref a)]) := r6.trans fun z_ kt => by
      refine XS.astoreN X6.here hx rfl (hb hby d8_18) rfl rfl (l' := #[.val (.ref a), .val (.ref a)]) rfl ?_
      refine XS.aloadN X6.here hx rfl (hb hby d8_19) rfl rfl ?_
      exact kt
    obtain ⟨T8, X8, e8, st8⟩ := getF X6 hx hZ hown (Or.inr (hw _ (own_g (i := 90) rfl))) Via.refl e6 (OF_a_allowNulls.ext O0.2) (g := (mkF m 20 #[.val (.ref a), .val (.ref a)] [(.ref a)])) rfl rfl (hb hby d8_20)
    have r8 : own_R p e below _ _ T8 (mkF m 23 #[.val (.ref a), .val (.ref a)] [(.int (0 : Int32))]) := r7.trans fun z_ kt => st8 _ kt
    have r9 : own_R p e below _ _ T8 (mkF m 27 #[.val (.ref a), .val (.ref a)] [(.ref a)]) := r8.trans fun z_ kt => by
      refine XS.ifNo X8.here hx rfl (hb hby d8_23) rfl ((if0 _ _).trans (teq (by decide : (0 : Int32) = (0 : Int32))).2) ?_
      refine XS.aloadN X8.here hx rfl (hb hby d8_26) rfl rfl ?_
      exact kt
    obtain ⟨T10, X10, e10, st10⟩ := castY X8 hx hZ hown (hw _ (own_g (i := 92) rfl)) e8 (Ins.of_exa (OE_a.ext O0.2) (hw _ (own_g (i := 93) rfl))) (g := (mkF m 27 #[.val (.ref a), .val (.ref a)] [(.ref a)])) rfl rfl (hb hby d8_27)
    have r10 : own_R p e below _ _ T10 (mkF m 30 #[.val (.ref a), .val (.ref a)] [(.ref a)]) := r9.trans fun z_ kt => st10 _ kt
    obtain ⟨fs_, hr_, hrun_, hended_, hW_, hsame_⟩ := X10.leave (v := some (.ref a)) (fun h => by rw [Bd.returns] at h; cases h)
    refine ⟨_, _, pre0 _ (r10 _ ?_), hrun_, hended_, _, _, rfl, ?_, ⟨_, rfl⟩, hW_, hsame_.mono (by decide) (by decide)⟩
    · exact retOut X10 hx Bd.returns rfl (Or.inr (Or.inr (Or.inr (Or.inr ⟨rfl, rfl, rfl⟩)))) (hb hby d8_30) hr_
    · show Q_listCopy Z a h0 n0 _ T10.heap _
      rw [e10]
      exact ⟨rfl, N0, rfl⟩
  · skip
    obtain ⟨T11, X11, e11, st11⟩ := instY X0 hx hZ hown (hw _ (own_g (i := 82) rfl)) e0 (own_ins (OE_a.ext O0.2) f1 f2 f3) (g := (mkF m 1 #[.val (.ref a), .unset] [(.ref a)])) rfl rfl (hb hby d8_1)
    have r11 : own_R p e below _ _ T11 (mkF m 4 #[.val (.ref a), .unset] [(.int (1 : Int32))]) := r1.trans fun z_ kt => st11 _ kt
    have r12 : own_R p e below _ _ T11 (mkF m 27 #[.val (.ref a), .unset] [(.ref a)]) := r11.trans fun z_ kt => by
      refine XS.ifYes X11.here hx rfl (pc0 := 4) (pc' := 26) rfl (hb hby d8_4) rfl ((if0 _ _).trans (feq (by decide : ¬ ((1 : Int32) = (0 : Int32)))).2) (by decide) (by decide) ?_
      refine XS.aloadN X11.here hx rfl (hb hby d8_26) rfl rfl ?_
      exact kt
    obtain ⟨T13, X13, e13, st13⟩ := castY X11 hx hZ hown (hw _ (own_g (i := 92) rfl)) e11 (Ins.of_exa (OE_a.ext O0.2) (hw _ (own_g (i := 93) rfl))) (g := (mkF m 27 #[.val (.ref a), .unset] [(.ref a)])) rfl rfl (hb hby d8_27)
    have r13 : own_R p e below _ _ T13 (mkF m 30 #[.val (.ref a), .unset] [(.ref a)]) := r12.trans fun z_ kt => st13 _ kt
    obtain ⟨fs_, hr_, hrun_, hended_, hW_, hsame_⟩ := X13.leave (v := some (.ref a)) (fun h => by rw [Bd.returns] at h; cases h)
    refine ⟨_, _, pre0 _ (r13 _ ?_), hrun_, hended_, _, _, rfl, ?_, ⟨_, rfl⟩, hW_, hsame_.mono (by decide) (by decide)⟩
    · exact retOut X13 hx Bd.returns rfl (Or.inr (Or.inr (Or.inr (Or.inr ⟨rfl, rfl, rfl⟩)))) (hb hby d8_30) hr_
    · show Q_listCopy Z a h0 n0 _ T13.heap _
      rw [e13]
      exact ⟨rfl, N0, rfl⟩

theorem d7_0 : decode jdk_40_method_48_code 0 = .ok (.aload_n 0, 1) := by decide +kernel
theorem d7_1 : decode jdk_40_method_48_code 1 = .ok (.invokestatic 112, 3) := by decide +kernel
theorem pd_0 : parseMethodDescriptor "(Ljava/util/Collection;)Ljava/util/List;" = some ⟨[(.object "java/util/Collection")], some (.object "java/util/List")⟩ := by decide +kernel
theorem d7_4 : decode jdk_40_method_48_code 4 = .ok (.areturn, 1) := by decide +kernel
theorem ef_copyOf (m : MethodId) (a : Addr) : entryFrame m #[(.ref a)] 1 = mkF m 0 #[.val (.ref a)] [] := by first | (simp [entryFrame, mkF, argsToLocals, Value.category]; done) | rfl
def Q_copyOf (Z : State) (a : Addr) (h0 : Heap) (n0 : Nat) (v_ : Option Value) (h_ : Heap) (L_ : List Loc) : Prop := v_ = some (.ref a) ∧ Fr n0 L_ ∧ h_ = h0
set_option maxRecDepth 65536 in
set_option maxHeartbeats 40000000 in
theorem rm_copyOf (l : Launch) (Z : State) (a0 : Array Value) (hw : ∀ d ∈ tables_1, d.before a0 Z = true) (ws : List Jvm.Cond) (a : Addr) (h0 : Heap) (n0 : Nat) (O0 : Old Z n0 h0) (OE_a : Exa Z Z.heap a "java/util/ImmutableCollections$ListN") (OF_a_allowNulls : Fld Z Z.heap a "java/util/ImmutableCollections$ListN" "allowNulls" "Z" (.int (0 : Int32))) :
    MetFree l (⟨"java/util/List", "copyOf", "(Ljava/util/Collection;)Ljava/util/List;"⟩ : MethodName) (head1 (Jvm.Cond.code (⟨"java/util/List", "copyOf", "(Ljava/util/Collection;)Ljava/util/List;"⟩ : MethodName) jdk_40_method_48_code 1 (some (.object "java/util/List")) :: ws) ({ frames := 1, cells := 0, slots := 0, locals := 13 } : Room)) (fun aa_ U_ => aa_ = #[(.ref a)] ∧ Z.Warmed39 U_.vm ∧ U_.heap = h0) (fun _ _ _ _ _ => True) (fun _ U_ o_ U_' => ∃ v_ L_, o_ = .returned v_ ∧ Q_copyOf Z a h0 n0 v_ U_'.heap L_ ∧ FrameEnd U_ o_ U_' L_ ({ frames := 1, cells := 0, slots := 0, locals := 13 } : Room).cells ({ frames := 1, cells := 0, slots := 0, locals := 13 } : Room).slots) := by
  refine MetFree.of_bodySF (plainFor_of_name pn_List) hisR ?_
  intro p e s m args below meth c s₁ Bd hml0 hP hK
  obtain ⟨rfl, hZ, hh⟩ := hP
  have hx := Bd.exec
  have hby := Bd.bytes
  have hml : c.maxLocals = 1 := hml0
  have hown : s.vm.findClass "java/util/List" = some m.cls := findClass_of_methodNamed Bd.named
  have hnm := (name_of_methodNamed Bd.named Bd.method).1
  have X0 : Stand p l e ({ frames := 1, cells := 0, slots := 0, locals := 13 } : Room) s m #[(.ref a)] below meth c s₁ [] 0 0 := Stand.of_body Bd
  have e0 : s₁.heap = h0 := by rw [← hh, Bd.state]; rfl
  have N0 := Fr.nil n0
  have pre0 : ∀ z_, Steps p.tables e below (s₁.setTop (mkF m 0 #[.val (.ref a)] [])) z_ → Steps p.tables e below (s₁.setTop (entryFrame m #[(.ref a)] 1)) z_ := fun z_ k_ => castTop (ef_copyOf m a) k_
  have r0 : own_R p e below s₁ (mkF m 0 #[.val (.ref a)] []) s₁ (mkF m 0 #[.val (.ref a)] []) := own_R.refl
  have r1 : own_R p e below _ _ s₁ (mkF m 1 #[.val (.ref a)] [(.ref a)]) := r0.trans fun z_ kt => by
    refine XS.aloadN X0.here hx rfl (hb hby d7_0) rfl rfl ?_
    exact kt
  obtain ⟨_, _, ⟨T2, L2, cc2, n2⟩, -, X2, ⟨Lc2, hQ2, l2, y2, z2⟩, st2⟩ := Jvm.LawKit.callS X0 hx (y := (⟨"java/util/ImmutableCollections", "listCopy", "(Ljava/util/Collection;)Ljava/util/List;"⟩ : MethodName)) hown (mvT hZ (hw _ (own_g (i := 79) rfl))) (mvT hZ (hw _ (own_g (i := 80) rfl))) (mvT hZ (hw _ (own_g (i := 56) rfl))) (mvT hZ (hw _ (own_g (i := 81) rfl))) (by decide) (backOf (W := 0) (rm_listCopy l Z a0 hw [] (a) h0 n0 O0 (OE_a) (OF_a_allowNulls)) hZ (hw _ (own_g (i := 81) rfl)) (hw _ (own_g (i := 56) rfl)) (by decide) (by decide)) (g := (mkF m 1 #[.val (.ref a)] [(.ref a)])) rfl (by rw [hml]; rfl) (argsL := [(.ref a)]) (rest := []) (lenOf pd_0 rfl) rfl (by show 2 * 0 + _ ≤ _; exact Nat.le_of_eq rfl) (hb hby d7_1) (fun _ _ => ⟨rfl, e0, (by decide : 0 + 0 ≤ _), (by decide : 0 + 0 ≤ _)⟩)
  dsimp only [Pt.U, Pt.locs, Pt.cells, Pt.slots] at X2 l2 y2 z2 st2 hQ2
  subst l2 y2 z2
  obtain ⟨rfl, Nq2, eq2⟩ := hQ2
  have N2 := Fr.app N0 Nq2
  have r2 : own_R p e below _ _ T2 (mkF m 4 #[.val (.ref a)] [(.ref a)]) := r1.trans fun z_ kt => st2 _ kt
  have e2 : T2.heap = h0 := eq2
  obtain ⟨fs_, hr_, hrun_, hended_, hW_, hsame_⟩ := X2.leave (v := some (.ref a)) (fun h => by rw [Bd.returns] at h; cases h)
  refine ⟨_, _, pre0 _ (r2 _ ?_), hrun_, hended_, _, _, rfl, ?_, ⟨_, rfl⟩, hW_, hsame_.mono (by decide) (by decide)⟩
  · exact retOut X2 hx Bd.returns rfl (Or.inr (Or.inr (Or.inr (Or.inr ⟨rfl, rfl, rfl⟩)))) (hb hby d7_4) hr_
  · show Q_copyOf Z a h0 n0 _ T2.heap _
    rw [e2]
    exact ⟨rfl, N2, rfl⟩

theorem d5_0 : decode prog_21_method_2_code 0 = .ok (.aload_n 0, 1) := by decide +kernel
theorem d5_1 : decode prog_21_method_2_code 1 = .ok (.invokespecial 13, 3) := by decide +kernel
theorem d5_4 : decode prog_21_method_2_code 4 = .ok (.aload_n 0, 1) := by decide +kernel
theorem d5_5 : decode prog_21_method_2_code 5 = .ok (.aload_n 1, 1) := by decide +kernel
theorem d5_6 : decode prog_21_method_2_code 6 = .ok (.putfield 18, 3) := by decide +kernel
theorem d5_9 : decode prog_21_method_2_code 9 = .ok (.aload_n 0, 1) := by decide +kernel
theorem d5_10 : decode prog_21_method_2_code 10 = .ok (.iload_n 2, 1) := by decide +kernel
theorem d5_11 : decode prog_21_method_2_code 11 = .ok (.putfield 22, 3) := by decide +kernel
theorem d5_14 : decode prog_21_method_2_code 14 = .ok (.aload_n 0, 1) := by decide +kernel
theorem d5_15 : decode prog_21_method_2_code 15 = .ok (.iload_n 3, 1) := by decide +kernel
theorem d5_16 : decode prog_21_method_2_code 16 = .ok (.putfield 26, 3) := by decide +kernel
theorem d5_19 : decode prog_21_method_2_code 19 = .ok (.aload_n 0, 1) := by decide +kernel
theorem d5_20 : decode prog_21_method_2_code 20 = .ok (.iload 4, 2) := by decide +kernel
theorem d5_22 : decode prog_21_method_2_code 22 = .ok (.putfield 29, 3) := by decide +kernel
theorem d5_25 : decode prog_21_method_2_code 25 = .ok (.aload_n 0, 1) := by decide +kernel
theorem d5_26 : decode prog_21_method_2_code 26 = .ok (.aload 5, 2) := by decide +kernel
theorem d5_28 : decode prog_21_method_2_code 28 = .ok (.putfield 32, 3) := by decide +kernel
theorem d5_31 : decode prog_21_method_2_code 31 = .ok (.aload_n 0, 1) := by decide +kernel
theorem d5_32 : decode prog_21_method_2_code 32 = .ok (.aload 6, 2) := by decide +kernel
theorem d5_34 : decode prog_21_method_2_code 34 = .ok (.invokestatic 36, 3) := by decide +kernel
theorem d5_37 : decode prog_21_method_2_code 37 = .ok (.putfield 40, 3) := by decide +kernel
theorem d5_40 : decode prog_21_method_2_code 40 = .ok (.aload_n 0, 1) := by decide +kernel
theorem d5_41 : decode prog_21_method_2_code 41 = .ok (.aload 7, 2) := by decide +kernel
theorem d5_43 : decode prog_21_method_2_code 43 = .ok (.invokestatic 36, 3) := by decide +kernel
theorem d5_46 : decode prog_21_method_2_code 46 = .ok (.putfield 44, 3) := by decide +kernel
theorem d5_49 : decode prog_21_method_2_code 49 = .ok (.aload_n 0, 1) := by decide +kernel
theorem d5_50 : decode prog_21_method_2_code 50 = .ok (.aload 8, 2) := by decide +kernel
theorem d5_52 : decode prog_21_method_2_code 52 = .ok (.putfield 47, 3) := by decide +kernel
theorem d5_55 : decode prog_21_method_2_code 55 = .ok (.aload_n 0, 1) := by decide +kernel
theorem d5_56 : decode prog_21_method_2_code 56 = .ok (.aload 9, 2) := by decide +kernel
theorem d5_58 : decode prog_21_method_2_code 58 = .ok (.putfield 51, 3) := by decide +kernel
theorem d5_61 : decode prog_21_method_2_code 61 = .ok (.aload_n 0, 1) := by decide +kernel
theorem d5_62 : decode prog_21_method_2_code 62 = .ok (.aload 10, 2) := by decide +kernel
theorem d5_64 : decode prog_21_method_2_code 64 = .ok (.putfield 54, 3) := by decide +kernel
theorem d5_67 : decode prog_21_method_2_code 67 = .ok (.return_, 1) := by decide +kernel
theorem pn_ColumnType : plainName "com/example/blindern/blindern/mapping/ColumnType" = true := by first | (simp [plainName, overriddenIn]; done) | decide +kernel
theorem ef_ctBig (m : MethodId) (a : Addr) (kd : Addr) (pl : Int32) (pp : Int32) (ps : Int32) (s_EL : Addr) : entryFrame m #[(.ref a), (.ref kd), (.int pl), (.int pp), (.int ps), .null, (.ref s_EL), (.ref s_EL), .null, .null, .null] 11 = mkF m 0 #[.val (.ref a), .val (.ref kd), .val (.int pl), .val (.int pp), .val (.int ps), .val .null, .val (.ref s_EL), .val (.ref s_EL), .val .null, .val .null, .val .null] [] := by first | (simp [entryFrame, mkF, argsToLocals, Value.category]; done) | rfl
def Q_ctBig (Z : State) (a : Addr) (kd : Addr) (pl : Int32) (pp : Int32) (ps : Int32) (s_EL : Addr) (u0 : Value) (u1 : Value) (u2 : Value) (u3 : Value) (u4 : Value) (u5 : Value) (u6 : Value) (u7 : Value) (u8 : Value) (u9 : Value) (h0 : Heap) (n0 : Nat) (v_ : Option Value) (h_ : Heap) (L_ : List Loc) : Prop := v_ = none ∧ Fr n0 L_ ∧ Keep h0 h_ [a] ∧ (Fld Z h_ a "com/example/blindern/blindern/mapping/ColumnType" "kind" "Lcom/example/blindern/blindern/mapping/ColumnType$Kind;" (.ref kd)) ∧ (Fld Z h_ a "com/example/blindern/blindern/mapping/ColumnType" "precision" "I" (.int pp))
set_option maxRecDepth 65536 in
set_option maxHeartbeats 40000000 in
theorem rm_ctBig (l : Launch) (Z : State) (a0 : Array Value) (hw : ∀ d ∈ tables_1, d.before a0 Z = true) (ws : List Jvm.Cond) (a : Addr) (kd : Addr) (pl : Int32) (pp : Int32) (ps : Int32) (s_EL : Addr) (u0 : Value) (u1 : Value) (u2 : Value) (u3 : Value) (u4 : Value) (u5 : Value) (u6 : Value) (u7 : Value) (u8 : Value) (u9 : Value) (h0 : Heap) (n0 : Nat) (O0 : Old Z n0 h0) (E_a : Exa Z h0 a "com/example/blindern/blindern/mapping/ColumnType") (g_a : n0 ≤ a) (F_a_kind : Fld Z h0 a "com/example/blindern/blindern/mapping/ColumnType" "kind" "Lcom/example/blindern/blindern/mapping/ColumnType$Kind;" u0) (F_a_length : Fld Z h0 a "com/example/blindern/blindern/mapping/ColumnType" "length" "I" u1) (F_a_precision : Fld Z h0 a "com/example/blindern/blindern/mapping/ColumnType" "precision" "I" u2) (F_a_scale : Fld Z h0 a "com/example/blindern/blindern/mapping/ColumnType" "scale" "I" u3) (F_a_enumType : Fld Z h0 a "com/example/blindern/blindern/mapping/ColumnType" "enumType" "Ljava/lang/String;" u4) (F_a_names : Fld Z h0 a "com/example/blindern/blindern/mapping/ColumnType" "names" "Ljava/util/List;" u5) (F_a_values : Fld Z h0 a "com/example/blindern/blindern/mapping/ColumnType" "values" "Ljava/util/List;" u6) (F_a_column : Fld Z h0 a "com/example/blindern/blindern/mapping/ColumnType" "column" "Lcom/example/blindern/blindern/mapping/ColumnType;" u7) (F_a_where : Fld Z h0 a "com/example/blindern/blindern/mapping/ColumnType" "where" "Ljava/lang/String;" u8) (F_a_given : Fld Z h0 a "com/example/blindern/blindern/mapping/ColumnType" "given" "Ljava/lang/String;" u9) (OE_s_EL : Exa Z Z.heap s_EL "java/util/ImmutableCollections$ListN") (OF_s_EL_allowNulls : Fld Z Z.heap s_EL "java/util/ImmutableCollections$ListN" "allowNulls" "Z" (.int (0 : Int32))) :
    MetFree l (⟨"com/example/blindern/blindern/mapping/ColumnType", "<init>", "(Lcom/example/blindern/blindern/mapping/ColumnType$Kind;IIILjava/lang/String;Ljava/util/List;Ljava/util/List;Lcom/example/blindern/blindern/mapping/ColumnType;Ljava/lang/String;Ljava/lang/String;)V"⟩ : MethodName) (head1 (Jvm.Cond.code (⟨"com/example/blindern/blindern/mapping/ColumnType", "<init>", "(Lcom/example/blindern/blindern/mapping/ColumnType$Kind;IIILjava/lang/String;Ljava/util/List;Ljava/util/List;Lcom/example/blindern/blindern/mapping/ColumnType;Ljava/lang/String;Ljava/lang/String;)V"⟩ : MethodName) prog_21_method_2_code 11 none :: ws) ({ frames := 2, cells := 0, slots := 0, locals := 26 } : Room)) (fun aa_ U_ => aa_ = #[(.ref a), (.ref kd), (.int pl), (.int pp), (.int ps), .null, (.ref s_EL), (.ref s_EL), .null, .null, .null] ∧ Z.Warmed39 U_.vm ∧ U_.heap = h0) (fun _ _ _ _ _ => True) (fun _ U_ o_ U_' => ∃ v_ L_, o_ = .returned v_ ∧ Q_ctBig Z a kd pl pp ps s_EL u0 u1 u2 u3 u4 u5 u6 u7 u8 u9 h0 n0 v_ U_'.heap L_ ∧ FrameEnd U_ o_ U_' L_ ({ frames := 2, cells := 0, slots := 0, locals := 26 } : Room).cells ({ frames := 2, cells := 0, slots := 0, locals := 26 } : Room).slots) := by
  refine MetFree.of_bodySF (plainFor_of_name pn_ColumnType) hisR ?_
  intro p e s m args below meth c s₁ Bd hml0 hP hK
  obtain ⟨rfl, hZ, hh⟩ := hP
  have hx := Bd.exec
  have hby := Bd.bytes
  have hml : c.maxLocals = 11 := hml0
  have hown : s.vm.findClass "com/example/blindern/blindern/mapping/ColumnType" = some m.cls := findClass_of_methodNamed Bd.named
  have hnm := (name_of_methodNamed Bd.named Bd.method).1
  have X0 : Stand p l e ({ frames := 2, cells := 0, slots := 0, locals := 26 } : Room) s m #[(.ref a), (.ref kd), (.int pl), (.int pp), (.int ps), .null, (.ref s_EL), (.ref s_EL), .null, .null, .null] below meth c s₁ [] 0 0 := Stand.of_body Bd
  have e0 : s₁.heap = h0 := by rw [← hh, Bd.state]; rfl
  have N0 := Fr.nil n0
  have K0 : Keep h0 h0 [a] := Keep.refl h0 _
  have pre0 : ∀ z_, Steps p.tables e below (s₁.setTop (mkF m 0 #[.val (.ref a), .val (.ref kd), .val (.int pl), .val (.int pp), .val (.int ps), .val .null, .val (.ref s_EL), .val (.ref s_EL), .val .null, .val .null, .val .null] [])) z_ → Steps p.tables e below (s₁.setTop (entryFrame m #[(.ref a), (.ref kd), (.int pl), (.int pp), (.int ps), .null, (.ref s_EL), (.ref s_EL), .null, .null, .null] 11)) z_ := fun z_ k_ => castTop (ef_ctBig m a kd pl pp ps s_EL) k_
  have r0 : own_R p e below s₁ (mkF m 0 #[.val (.ref a), .val (.ref kd), .val (.int pl), .val (.int pp), .val (.int ps), .val .null, .val (.ref s_EL), .val (.ref s_EL), .val .null, .val .null, .val .null] []) s₁ (mkF m 0 #[.val (.ref a), .val (.ref kd), .val (.int pl), .val (.int pp), .val (.int ps), .val .null, .val (.ref s_EL), .val (.ref s_EL), .val .null, .val .null, .val .null] []) := own_R.refl
  have r1 : own_R p e below _ _ s₁ (mkF m 1 #[.val (.ref a), .val (.ref kd), .val (.int pl), .val (.int pp), .val (.int ps), .val .null, .val (.ref s_EL), .val (.ref s_EL), .val .null, .val .null, .val .null] [(.ref a)]) := r0.trans fun z_ kt => by
    refine XS.aloadN X0.here hx rfl (hb hby d5_0) rfl rfl ?_
    exact kt
  obtain ⟨T2, X2, e2, st2⟩ := initO X0 hx hZ hown (hw _ (own_g (i := 63) rfl)) (hw _ (own_g (i := 64) rfl)) (hw _ (own_g (i := 65) rfl)) e0 (g := (mkF m 1 #[.val (.ref a), .val (.ref kd), .val (.int pl), .val (.int pp), .val (.int ps), .val .null, .val (.ref s_EL), .val (.ref s_EL), .val .null, .val .null, .val .null] [(.ref a)])) rfl (by rw [hml]; rfl) rfl (hb hby d5_1) (by decide) (W := 0) (by show 2 * 0 + _ ≤ _; exact Nat.le_of_eq rfl) (by decide)
  have r2 : own_R p e below _ _ T2 (mkF m 4 #[.val (.ref a), .val (.ref kd), .val (.int pl), .val (.int pp), .val (.int ps), .val .null, .val (.ref s_EL), .val (.ref s_EL), .val .null, .val .null, .val .null] []) := r1.trans fun z_ kt => st2 _ kt
  have r3 : own_R p e below _ _ T2 (mkF m 6 #[.val (.ref a), .val (.ref kd), .val (.int pl), .val (.int pp), .val (.int ps), .val .null, .val (.ref s_EL), .val (.ref s_EL), .val .null, .val .null, .val .null] [(.ref kd), (.ref a)]) := r2.trans fun z_ kt => by
    refine XS.aloadN X2.here hx rfl (hb hby d5_4) rfl rfl ?_
    refine XS.aloadN X2.here hx rfl (hb hby d5_5) rfl rfl ?_
    exact kt
  obtain ⟨T4, h4, X4, e4, W4, st4⟩ := putF X2 hx hZ hown (host := "") (Or.inl (hw _ (own_g (i := 66) rfl))) Via.refl e2 F_a_kind E_a (Or.inr ⟨(hw _ (own_g (i := 67) rfl)), rfl, hnm⟩) (hw _ (own_g (i := 50) rfl)) (ty := (.object "com/example/blindern/blindern/mapping/ColumnType$Kind")) (v := (.ref kd)) (by decide) rfl rfl (g := (mkF m 6 #[.val (.ref a), .val (.ref kd), .val (.int pl), .val (.int pp), .val (.int ps), .val .null, .val (.ref s_EL), .val (.ref s_EL), .val .null, .val .null, .val .null] [(.ref kd), (.ref a)])) rfl rfl (hb hby d5_6)
  have r4 : own_R p e below _ _ T4 (mkF m 9 #[.val (.ref a), .val (.ref kd), .val (.int pl), .val (.int pp), .val (.int ps), .val .null, .val (.ref s_EL), .val (.ref s_EL), .val .null, .val .null, .val .null] []) := r3.trans fun z_ kt => st4 _ kt
  have N4 := Fr.snoc X4 N0 g_a
  have O4 := O0.wr W4 g_a
  have K4 := K0.wr W4 (Or.inl (List.mem_of_getElem? (i := 0) rfl))
  have F4 := F_a_kind.same W4
  have f5 := (F_a_length.other W4 (Or.inr (slot_ne (Or.inr (hw _ (own_g (i := 69) rfl))) (Or.inr (hw _ (own_g (i := 67) rfl))) (by decide) (t := .int) (t' := (.object "com/example/blindern/blindern/mapping/ColumnType$Kind")) (by decide) (by decide))))
  have f6 := (E_a.wr W4)
  have r7 : own_R p e below _ _ T4 (mkF m 11 #[.val (.ref a), .val (.ref kd), .val (.int pl), .val (.int pp), .val (.int ps), .val .null, .val (.ref s_EL), .val (.ref s_EL), .val .null, .val .null, .val .null] [(.int pl), (.ref a)]) := r4.trans fun z_ kt => by
    refine XS.aloadN X4.here hx rfl (hb hby d5_9) rfl rfl ?_
    refine XS.iloadN X4.here hx rfl (hb hby d5_10) rfl ?_
    exact kt
  obtain ⟨T8, h8, X8, e8, W8, st8⟩ := putF X4 hx hZ hown (host := "") (Or.inl (hw _ (own_g (i := 68) rfl))) Via.refl e4 f5 f6 (Or.inr ⟨(hw _ (own_g (i := 69) rfl)), rfl, hnm⟩) (hw _ (own_g (i := 50) rfl)) (ty := .int) (v := (.int pl)) (by decide) rfl rfl (g := (mkF m 11 #[.val (.ref a), .val (.ref kd), .val (.int pl), .val (.int pp), .val (.int ps), .val .null, .val (.ref s_EL), .val (.ref s_EL), .val .null, .val .null, .val .null] [(.int pl), (.ref a)])) rfl rfl (hb hby d5_11)
  have r8 : own_R p e below _ _ T8 (mkF m 14 #[.val (.ref a), .val (.ref kd), .val (.int pl), .val (.int pp), .val (.int ps), .val .null, .val (.ref s_EL), .val (.ref s_EL), .val .null, .val .null, .val .null] []) := r7.trans fun z_ kt => st8 _ kt
  have N8 := Fr.snoc X8 N4 g_a
  have O8 := O4.wr W8 g_a
  have K8 := K4.wr W8 (Or.inl (List.mem_of_getElem? (i := 0) rfl))
  have F8 := f5.same W8
  have f9 := ((F_a_precision.other W4 (Or.inr (slot_ne (Or.inr (hw _ (own_g (i := 71) rfl))) (Or.inr (hw _ (own_g (i := 67) rfl))) (by decide) (t := .int) (t' := (.object "com/example/blindern/blindern/mapping/ColumnType$Kind")) (by decide) (by decide)))).other W8 (Or.inr (slot_ne (Or.inr (hw _ (own_g (i := 71) rfl))) (Or.inr (hw _ (own_g (i := 69) rfl))) (by decide) (t := .int) (t' := .int) (by decide) (by decide))))
  have f10 := (f6.wr W8)
  have r11 : own_R p e below _ _ T8 (mkF m 16 #[.val (.ref a), .val (.ref kd), .val (.int pl), .val (.int pp), .val (.int ps), .val .null, .val (.ref s_EL), .val (.ref s_EL), .val .null, .val .null, .val .null] [(.int pp), (.ref a)]) := r8.trans fun z_ kt => by
    refine XS.aloadN X8.here hx rfl (hb hby d5_14) rfl rfl ?_
    refine XS.iloadN X8.here hx rfl (hb hby d5_15) rfl ?_
    exact kt
  obtain ⟨T12, h12, X12, e12, W12, st12⟩ := putF X8 hx hZ hown (host := "") (Or.inl (hw _ (own_g (i := 70) rfl))) Via.refl e8 f9 f10 (Or.inr ⟨(hw _ (own_g (i := 71) rfl)), rfl, hnm⟩) (hw _ (own_g (i := 50) rfl)) (ty := .int) (v := (.int pp)) (by decide) rfl rfl (g := (mkF m 16 #[.val (.ref a), .val (.ref kd), .val (.int pl), .val (.int pp), .val (.int ps), .val .null, .val (.ref s_EL), .val (.ref s_EL), .val .null, .val .null, .val .null] [(.int pp), (.ref a)])) rfl rfl (hb hby d5_16)
  have r12 : own_R p e below _ _ T12 (mkF m 19 #[.val (.ref a), .val (.ref kd), .val (.int pl), .val (.int pp), .val (.int ps), .val .null, .val (.ref s_EL), .val (.ref s_EL), .val .null, .val .null, .val .null] []) := r11.trans fun z_ kt => st12 _ kt
  have N12 := Fr.snoc X12 N8 g_a
  have O12 := O8.wr W12 g_a
  have K12 := K8.wr W12 (Or.inl (List.mem_of_getElem? (i := 0) rfl))
  have F12 := f9.same W12
  have f13 := (((F_a_scale.other W4 (Or.inr (slot_ne (Or.inr (hw _ (own_g (i := 73) rfl))) (Or.inr (hw _ (own_g (i := 67) rfl))) (by decide) (t := .int) (t' := (.object "com/example/blindern/blindern/mapping/ColumnType$Kind")) (by decide) (by decide)))).other W8 (Or.inr (slot_ne (Or.inr (hw _ (own_g (i := 73) rfl))) (Or.inr (hw _ (own_g (i := 69) rfl))) (by decide) (t := .int) (t' := .int) (by decide) (by decide)))).other W12 (Or.inr (slot_ne (Or.inr (hw _ (own_g (i := 73) rfl))) (Or.inr (hw _ (own_g (i := 71) rfl))) (by decide) (t := .int) (t' := .int) (by decide) (by decide))))
  have f14 := (f10.wr W12)
  have r15 : own_R p e below _ _ T12 (mkF m 22 #[.val (.ref a), .val (.ref kd), .val (.int pl), .val (.int pp), .val (.int ps), .val .null, .val (.ref s_EL), .val (.ref s_EL), .val .null, .val .null, .val .null] [(.int ps), (.ref a)]) := r12.trans fun z_ kt => by
    refine XS.aloadN X12.here hx rfl (hb hby d5_19) rfl rfl ?_
    refine XS.iload X12.here hx rfl (hb hby d5_20) rfl ?_
    exact kt
  obtain ⟨T16, h16, X16, e16, W16, st16⟩ := putF X12 hx hZ hown (host := "") (Or.inl (hw _ (own_g (i := 72) rfl))) Via.refl e12 f13 f14 (Or.inr ⟨(hw _ (own_g (i := 73) rfl)), rfl, hnm⟩) (hw _ (own_g (i := 50) rfl)) (ty := .int) (v := (.int ps)) (by decide) rfl rfl (g := (mkF m 22 #[.val (.ref a), .val (.ref kd), .val (.int pl), .val (.int pp), .val (.int ps), .val .null, .val (.ref s_EL), .val (.ref s_EL), .val .null, .val .null, .val .null] [(.int ps), (.ref a)])) rfl rfl (hb hby d5_22)
  have r16 : own_R p e below _ _ T16 (mkF m 25 #[.val (.ref a), .val (.ref kd), .val (.int pl), .val (.int pp), .val (.int ps), .val .null, .val (.ref s_EL), .val (.ref s_EL), .val .null, .val .null, .val .null] []) := r15.trans fun z_ kt => st16 _ kt
  have N16 := Fr.snoc X16 N12 g_a
  have O16 := O12.wr W16 g_a
  have K16 := K12.wr W16 (Or.inl (List.mem_of_getElem? (i := 0) rfl))
  have F16 := f13.same W16
  have f17 := ((((F_a_enumType.other W4 (Or.inr (slot_ne (Or.inr (hw _ (own_g (i := 75) rfl))) (Or.inr (hw _ (own_g (i := 67) rfl))) (by decide) (t := (.object "java/lang/String")) (t' := (.object "com/example/blindern/blindern/mapping/ColumnType$Kind")) (by decide) (by decide)))).other W8 (Or.inr (slot_ne (Or.inr (hw _ (own_g (i := 75) rfl))) (Or.inr (hw _ (own_g (i := 69) rfl))) (by decide) (t := (.object "java/lang/String")) (t' := .int) (by decide) (by decide)))).other W12 (Or.inr (slot_ne (Or.inr (hw _ (own_g (i := 75) rfl))) (Or.inr (hw _ (own_g (i := 71) rfl))) (by decide) (t := (.object "java/lang/String")) (t' := .int) (by decide) (by decide)))).other W16 (Or.inr (slot_ne (Or.inr (hw _ (own_g (i := 75) rfl))) (Or.inr (hw _ (own_g (i := 73) rfl))) (by decide) (t := (.object "java/lang/String")) (t' := .int) (by decide) (by decide))))
  have f18 := (f14.wr W16)
  have r19 : own_R p e below _ _ T16 (mkF m 28 #[.val (.ref a), .val (.ref kd), .val (.int pl), .val (.int pp), .val (.int ps), .val .null, .val (.ref s_EL), .val (.ref s_EL), .val .null, .val .null, .val .null] [.null, (.ref a)]) := r16.trans fun z_ kt => by
    refine XS.aloadN X16.here hx rfl (hb hby d5_25) rfl rfl ?_
    refine XS.aload X16.here hx rfl (hb hby d5_26) rfl rfl ?_
    exact kt
  obtain ⟨T20, h20, X20, e20, W20, st20⟩ := putF X16 hx hZ hown (host := "") (Or.inl (hw _ (own_g (i := 74) rfl))) Via.refl e16 f17 f18 (Or.inr ⟨(hw _ (own_g (i := 75) rfl)), rfl, hnm⟩) (hw _ (own_g (i := 50) rfl)) (ty := (.object "java/lang/String")) (v := .null) (by decide) rfl rfl (g := (mkF m 28 #[.val (.ref a), .val (.ref kd), .val (.int pl), .val (.int pp), .val (.int ps), .val .null, .val (.ref s_EL), .val (.ref s_EL), .val .null, .val .null, .val .null] [.null, (.ref a)])) rfl rfl (hb hby d5_28)
  have r20 : own_R p e below _ _ T20 (mkF m 31 #[.val (.ref a), .val (.ref kd), .val (.int pl), .val (.int pp), .val (.int ps), .val .null, .val (.ref s_EL), .val (.ref s_EL), .val .null, .val .null, .val .null] []) := r19.trans fun z_ kt => st20 _ kt
  have N20 := Fr.snoc X20 N16 g_a
  have O20 := O16.wr W20 g_a
  have K20 := K16.wr W20 (Or.inl (List.mem_of_getElem? (i := 0) rfl))
  have F20 := f17.same W20
  have r21 : own_R p e below _ _ T20 (mkF m 34 #[.val (.ref a), .val (.ref kd), .val (.int pl), .val (.int pp), .val (.int ps), .val .null, .val (.ref s_EL), .val (.ref s_EL), .val .null, .val .null, .val .null] [(.ref s_EL), (.ref a)]) := r20.trans fun z_ kt => by
    refine XS.aloadN X20.here hx rfl (hb hby d5_31) rfl rfl ?_
    refine XS.aload X20.here hx rfl (hb hby d5_32) rfl rfl ?_
    exact kt
  obtain ⟨_, _, ⟨T22, L22, cc22, n22⟩, -, X22, ⟨Lc22, hQ22, l22, y22, z22⟩, st22⟩ := Jvm.LawKit.callS X20 hx (y := (⟨"java/util/List", "copyOf", "(Ljava/util/Collection;)Ljava/util/List;"⟩ : MethodName)) hown (mvT hZ (hw _ (own_g (i := 76) rfl))) (mvT hZ (hw _ (own_g (i := 77) rfl))) (mvT hZ (hw _ (own_g (i := 53) rfl))) (mvT hZ (hw _ (own_g (i := 78) rfl))) (by decide) (backOf (W := 1) (rm_copyOf l Z a0 hw [] (s_EL) h20 n0 O20 (OE_s_EL) (OF_s_EL_allowNulls)) hZ (hw _ (own_g (i := 78) rfl)) (hw _ (own_g (i := 53) rfl)) (by decide) (by decide)) (g := (mkF m 34 #[.val (.ref a), .val (.ref kd), .val (.int pl), .val (.int pp), .val (.int ps), .val .null, .val (.ref s_EL), .val (.ref s_EL), .val .null, .val .null, .val .null] [(.ref s_EL), (.ref a)])) rfl (by rw [hml]; rfl) (argsL := [(.ref s_EL)]) (rest := [(.ref a)]) (lenOf pd_0 rfl) rfl (by show 2 * 0 + _ ≤ _; exact Nat.le_of_eq rfl) (hb hby d5_34) (fun _ _ => ⟨rfl, e20, (by decide : 0 + 0 ≤ _), (by decide : 0 + 0 ≤ _)⟩)
  dsimp only [Pt.U, Pt.locs, Pt.cells, Pt.slots] at X22 l22 y22 z22 st22 hQ22
  subst l22 y22 z22
  obtain ⟨rfl, Nq22, eq22⟩ := hQ22
  have N22 := Fr.app N20 Nq22
  have r22 : own_R p e below _ _ T22 (mkF m 37 #[.val (.ref a), .val (.ref kd), .val (.int pl), .val (.int pp), .val (.int ps), .val .null, .val (.ref s_EL), .val (.ref s_EL), .val .null, .val .null, .val .null] [(.ref s_EL), (.ref a)]) := r21.trans fun z_ kt => st22 _ kt
  have e22 : T22.heap = h20 := eq22
  have f23 := (((((F_a_names.other W4 (Or.inr (slot_ne (Or.inr (hw _ (own_g (i := 95) rfl))) (Or.inr (hw _ (own_g (i := 67) rfl))) (by decide) (t := (.object "java/util/List")) (t' := (.object "com/example/blindern/blindern/mapping/ColumnType$Kind")) (by decide) (by decide)))).other W8 (Or.inr (slot_ne (Or.inr (hw _ (own_g (i := 95) rfl))) (Or.inr (hw _ (own_g (i := 69) rfl))) (by decide) (t := (.object "java/util/List")) (t' := .int) (by decide) (by decide)))).other W12 (Or.inr (slot_ne (Or.inr (hw _ (own_g (i := 95) rfl))) (Or.inr (hw _ (own_g (i := 71) rfl))) (by decide) (t := (.object "java/util/List")) (t' := .int) (by decide) (by decide)))).other W16 (Or.inr (slot_ne (Or.inr (hw _ (own_g (i := 95) rfl))) (Or.inr (hw _ (own_g (i := 73) rfl))) (by decide) (t := (.object "java/util/List")) (t' := .int) (by decide) (by decide)))).other W20 (Or.inr (slot_ne (Or.inr (hw _ (own_g (i := 95) rfl))) (Or.inr (hw _ (own_g (i := 75) rfl))) (by decide) (t := (.object "java/util/List")) (t' := (.object "java/lang/String")) (by decide) (by decide))))
  have f24 := (f18.wr W20)
  obtain ⟨T25, h25, X25, e25, W25, st25⟩ := putF X22 hx hZ hown (host := "") (Or.inl (hw _ (own_g (i := 94) rfl))) Via.refl e22 f23 f24 (Or.inr ⟨(hw _ (own_g (i := 95) rfl)), rfl, hnm⟩) (hw _ (own_g (i := 50) rfl)) (ty := (.object "java/util/List")) (v := (.ref s_EL)) (by decide) rfl rfl (g := (mkF m 37 #[.val (.ref a), .val (.ref kd), .val (.int pl), .val (.int pp), .val (.int ps), .val .null, .val (.ref s_EL), .val (.ref s_EL), .val .null, .val .null, .val .null] [(.ref s_EL), (.ref a)])) rfl rfl (hb hby d5_37)
  have r25 : own_R p e below _ _ T25 (mkF m 40 #[.val (.ref a), .val (.ref kd), .val (.int pl), .val (.int pp), .val (.int ps), .val .null, .val (.ref s_EL), .val (.ref s_EL), .val .null, .val .null, .val .null] []) := r22.trans fun z_ kt => st25 _ kt
  have N25 := Fr.snoc X25 N22 g_a
  have O25 := O20.wr W25 g_a
  have K25 := K20.wr W25 (Or.inl (List.mem_of_getElem? (i := 0) rfl))
  have F25 := f23.same W25
  have r26 : own_R p e below _ _ T25 (mkF m 43 #[.val (.ref a), .val (.ref kd), .val (.int pl), .val (.int pp), .val (.int ps), .val .null, .val (.ref s_EL), .val (.ref s_EL), .val .null, .val .null, .val .null] [(.ref s_EL), (.ref a)]) := r25.trans fun z_ kt => by
    refine XS.aloadN X25.here hx rfl (hb hby d5_40) rfl rfl ?_
    refine XS.aload X25.here hx rfl (hb hby d5_41) rfl rfl ?_
    exact kt
  obtain ⟨_, _, ⟨T27, L27, cc27, n27⟩, -, X27, ⟨Lc27, hQ27, l27, y27, z27⟩, st27⟩ := Jvm.LawKit.callS X25 hx (y := (⟨"java/util/List", "copyOf", "(Ljava/util/Collection;)Ljava/util/List;"⟩ : MethodName)) hown (mvT hZ (hw _ (own_g (i := 76) rfl))) (mvT hZ (hw _ (own_g (i := 77) rfl))) (mvT hZ (hw _ (own_g (i := 53) rfl))) (mvT hZ (hw _ (own_g (i := 78) rfl))) (by decide) (backOf (W := 1) (rm_copyOf l Z a0 hw [] (s_EL) h25 n0 O25 (OE_s_EL) (OF_s_EL_allowNulls)) hZ (hw _ (own_g (i := 78) rfl)) (hw _ (own_g (i := 53) rfl)) (by decide) (by decide)) (g := (mkF m 43 #[.val (.ref a), .val (.ref kd), .val (.int pl), .val (.int pp), .val (.int ps), .val .null, .val (.ref s_EL), .val (.ref s_EL), .val .null, .val .null, .val .null] [(.ref s_EL), (.ref a)])) rfl (by rw [hml]; rfl) (argsL := [(.ref s_EL)]) (rest := [(.ref a)]) (lenOf pd_0 rfl) rfl (by show 2 * 0 + _ ≤ _; exact Nat.le_of_eq rfl) (hb hby d5_43) (fun _ _ => ⟨rfl, e25, (by decide : 0 + 0 ≤ _), (by decide : 0 + 0 ≤ _)⟩)
  dsimp only [Pt.U, Pt.locs, Pt.cells, Pt.slots] at X27 l27 y27 z27 st27 hQ27
  subst l27 y27 z27
  obtain ⟨rfl, Nq27, eq27⟩ := hQ27
  have N27 := Fr.app N25 Nq27
  have r27 : own_R p e below _ _ T27 (mkF m 46 #[.val (.ref a), .val (.ref kd), .val (.int pl), .val (.int pp), .val (.int ps), .val .null, .val (.ref s_EL), .val (.ref s_EL), .val .null, .val .null, .val .null] [(.ref s_EL), (.ref a)]) := r26.trans fun z_ kt => st27 _ kt
  have e27 : T27.heap = h25 := eq27
  have f28 := ((((((F_a_values.other W4 (Or.inr (slot_ne (Or.inr (hw _ (own_g (i := 97) rfl))) (Or.inr (hw _ (own_g (i := 67) rfl))) (by decide) (t := (.object "java/util/List")) (t' := (.object "com/example/blindern/blindern/mapping/ColumnType$Kind")) (by decide) (by decide)))).other W8 (Or.inr (slot_ne (Or.inr (hw _ (own_g (i := 97) rfl))) (Or.inr (hw _ (own_g (i := 69) rfl))) (by decide) (t := (.object "java/util/List")) (t' := .int) (by decide) (by decide)))).other W12 (Or.inr (slot_ne (Or.inr (hw _ (own_g (i := 97) rfl))) (Or.inr (hw _ (own_g (i := 71) rfl))) (by decide) (t := (.object "java/util/List")) (t' := .int) (by decide) (by decide)))).other W16 (Or.inr (slot_ne (Or.inr (hw _ (own_g (i := 97) rfl))) (Or.inr (hw _ (own_g (i := 73) rfl))) (by decide) (t := (.object "java/util/List")) (t' := .int) (by decide) (by decide)))).other W20 (Or.inr (slot_ne (Or.inr (hw _ (own_g (i := 97) rfl))) (Or.inr (hw _ (own_g (i := 75) rfl))) (by decide) (t := (.object "java/util/List")) (t' := (.object "java/lang/String")) (by decide) (by decide)))).other W25 (Or.inr (slot_ne (Or.inr (hw _ (own_g (i := 97) rfl))) (Or.inr (hw _ (own_g (i := 95) rfl))) (by decide) (t := (.object "java/util/List")) (t' := (.object "java/util/List")) (by decide) (by decide))))
  have f29 := (f24.wr W25)
  obtain ⟨T30, h30, X30, e30, W30, st30⟩ := putF X27 hx hZ hown (host := "") (Or.inl (hw _ (own_g (i := 96) rfl))) Via.refl e27 f28 f29 (Or.inr ⟨(hw _ (own_g (i := 97) rfl)), rfl, hnm⟩) (hw _ (own_g (i := 50) rfl)) (ty := (.object "java/util/List")) (v := (.ref s_EL)) (by decide) rfl rfl (g := (mkF m 46 #[.val (.ref a), .val (.ref kd), .val (.int pl), .val (.int pp), .val (.int ps), .val .null, .val (.ref s_EL), .val (.ref s_EL), .val .null, .val .null, .val .null] [(.ref s_EL), (.ref a)])) rfl rfl (hb hby d5_46)
  have r30 : own_R p e below _ _ T30 (mkF m 49 #[.val (.ref a), .val (.ref kd), .val (.int pl), .val (.int pp), .val (.int ps), .val .null, .val (.ref s_EL), .val (.ref s_EL), .val .null, .val .null, .val .null] []) := r27.trans fun z_ kt => st30 _ kt
  have N30 := Fr.snoc X30 N27 g_a
  have O30 := O25.wr W30 g_a
  have K30 := K25.wr W30 (Or.inl (List.mem_of_getElem? (i := 0) rfl))
  have F30 := f28.same W30
  have f31 := (((((((F_a_column.other W4 (Or.inr (slot_ne (Or.inr (hw _ (own_g (i := 99) rfl))) (Or.inr (hw _ (own_g (i := 67) rfl))) (by decide) (t := (.object "com/example/blindern/blindern/mapping/ColumnType")) (t' := (.object "com/example/blindern/blindern/mapping/ColumnType$Kind")) (by decide) (by decide)))).other W8 (Or.inr (slot_ne (Or.inr (hw _ (own_g (i := 99) rfl))) (Or.inr (hw _ (own_g (i := 69) rfl))) (by decide) (t := (.object "com/example/blindern/blindern/mapping/ColumnType")) (t' := .int) (by decide) (by decide)))).other W12 (Or.inr (slot_ne (Or.inr (hw _ (own_g (i := 99) rfl))) (Or.inr (hw _ (own_g (i := 71) rfl))) (by decide) (t := (.object "com/example/blindern/blindern/mapping/ColumnType")) (t' := .int) (by decide) (by decide)))).other W16 (Or.inr (slot_ne (Or.inr (hw _ (own_g (i := 99) rfl))) (Or.inr (hw _ (own_g (i := 73) rfl))) (by decide) (t := (.object "com/example/blindern/blindern/mapping/ColumnType")) (t' := .int) (by decide) (by decide)))).other W20 (Or.inr (slot_ne (Or.inr (hw _ (own_g (i := 99) rfl))) (Or.inr (hw _ (own_g (i := 75) rfl))) (by decide) (t := (.object "com/example/blindern/blindern/mapping/ColumnType")) (t' := (.object "java/lang/String")) (by decide) (by decide)))).other W25 (Or.inr (slot_ne (Or.inr (hw _ (own_g (i := 99) rfl))) (Or.inr (hw _ (own_g (i := 95) rfl))) (by decide) (t := (.object "com/example/blindern/blindern/mapping/ColumnType")) (t' := (.object "java/util/List")) (by decide) (by decide)))).other W30 (Or.inr (slot_ne (Or.inr (hw _ (own_g (i := 99) rfl))) (Or.inr (hw _ (own_g (i := 97) rfl))) (by decide) (t := (.object "com/example/blindern/blindern/mapping/ColumnType")) (t' := (.object "java/util/List")) (by decide) (by decide))))
  have f32 := (f29.wr W30)
  have r33 : own_R p e below _ _ T30 (mkF m 52 #[.val (.ref a), .val (.ref kd), .val (.int pl), .val (.int pp), .val (.int ps), .val .null, .val (.ref s_EL), .val (.ref s_EL), .val .null, .val .null, .val .null] [.null, (.ref a)]) := r30.trans fun z_ kt => by
    refine XS.aloadN X30.here hx rfl (hb hby d5_49) rfl rfl ?_
    refine XS.aload X30.here hx rfl (hb hby d5_50) rfl rfl ?_
    exact kt
  obtain ⟨T34, h34, X34, e34, W34, st34⟩ := putF X30 hx hZ hown (host := "") (Or.inl (hw _ (own_g (i := 98) rfl))) Via.refl e30 f31 f32 (Or.inr ⟨(hw _ (own_g (i := 99) rfl)), rfl, hnm⟩) (hw _ (own_g (i := 50) rfl)) (ty := (.object "com/example/blindern/blindern/mapping/ColumnType")) (v := .null) (by decide) rfl rfl (g := (mkF m 52 #[.val (.ref a), .val (.ref kd), .val (.int pl), .val (.int pp), .val (.int ps), .val .null, .val (.ref s_EL), .val (.ref s_EL), .val .null, .val .null, .val .null] [.null, (.ref a)])) rfl rfl (hb hby d5_52)
  have r34 : own_R p e below _ _ T34 (mkF m 55 #[.val (.ref a), .val (.ref kd), .val (.int pl), .val (.int pp), .val (.int ps), .val .null, .val (.ref s_EL), .val (.ref s_EL), .val .null, .val .null, .val .null] []) := r33.trans fun z_ kt => st34 _ kt
  have N34 := Fr.snoc X34 N30 g_a
  have O34 := O30.wr W34 g_a
  have K34 := K30.wr W34 (Or.inl (List.mem_of_getElem? (i := 0) rfl))
  have F34 := f31.same W34
  have f35 := ((((((((F_a_where.other W4 (Or.inr (slot_ne (Or.inr (hw _ (own_g (i := 101) rfl))) (Or.inr (hw _ (own_g (i := 67) rfl))) (by decide) (t := (.object "java/lang/String")) (t' := (.object "com/example/blindern/blindern/mapping/ColumnType$Kind")) (by decide) (by decide)))).other W8 (Or.inr (slot_ne (Or.inr (hw _ (own_g (i := 101) rfl))) (Or.inr (hw _ (own_g (i := 69) rfl))) (by decide) (t := (.object "java/lang/String")) (t' := .int) (by decide) (by decide)))).other W12 (Or.inr (slot_ne (Or.inr (hw _ (own_g (i := 101) rfl))) (Or.inr (hw _ (own_g (i := 71) rfl))) (by decide) (t := (.object "java/lang/String")) (t' := .int) (by decide) (by decide)))).other W16 (Or.inr (slot_ne (Or.inr (hw _ (own_g (i := 101) rfl))) (Or.inr (hw _ (own_g (i := 73) rfl))) (by decide) (t := (.object "java/lang/String")) (t' := .int) (by decide) (by decide)))).other W20 (Or.inr (slot_ne (Or.inr (hw _ (own_g (i := 101) rfl))) (Or.inr (hw _ (own_g (i := 75) rfl))) (by decide) (t := (.object "java/lang/String")) (t' := (.object "java/lang/String")) (by decide) (by decide)))).other W25 (Or.inr (slot_ne (Or.inr (hw _ (own_g (i := 101) rfl))) (Or.inr (hw _ (own_g (i := 95) rfl))) (by decide) (t := (.object "java/lang/String")) (t' := (.object "java/util/List")) (by decide) (by decide)))).other W30 (Or.inr (slot_ne (Or.inr (hw _ (own_g (i := 101) rfl))) (Or.inr (hw _ (own_g (i := 97) rfl))) (by decide) (t := (.object "java/lang/String")) (t' := (.object "java/util/List")) (by decide) (by decide)))).other W34 (Or.inr (slot_ne (Or.inr (hw _ (own_g (i := 101) rfl))) (Or.inr (hw _ (own_g (i := 99) rfl))) (by decide) (t := (.object "java/lang/String")) (t' := (.object "com/example/blindern/blindern/mapping/ColumnType")) (by decide) (by decide))))
  have f36 := (f32.wr W34)
  have r37 : own_R p e below _ _ T34 (mkF m 58 #[.val (.ref a), .val (.ref kd), .val (.int pl), .val (.int pp), .val (.int ps), .val .null, .val (.ref s_EL), .val (.ref s_EL), .val .null, .val .null, .val .null] [.null, (.ref a)]) := r34.trans fun z_ kt => by
    refine XS.aloadN X34.here hx rfl (hb hby d5_55) rfl rfl ?_
    refine XS.aload X34.here hx rfl (hb hby d5_56) rfl rfl ?_
    exact kt
  obtain ⟨T38, h38, X38, e38, W38, st38⟩ := putF X34 hx hZ hown (host := "") (Or.inl (hw _ (own_g (i := 100) rfl))) Via.refl e34 f35 f36 (Or.inr ⟨(hw _ (own_g (i := 101) rfl)), rfl, hnm⟩) (hw _ (own_g (i := 50) rfl)) (ty := (.object "java/lang/String")) (v := .null) (by decide) rfl rfl (g := (mkF m 58 #[.val (.ref a), .val (.ref kd), .val (.int pl), .val (.int pp), .val (.int ps), .val .null, .val (.ref s_EL), .val (.ref s_EL), .val .null, .val .null, .val .null] [.null, (.ref a)])) rfl rfl (hb hby d5_58)
  have r38 : own_R p e below _ _ T38 (mkF m 61 #[.val (.ref a), .val (.ref kd), .val (.int pl), .val (.int pp), .val (.int ps), .val .null, .val (.ref s_EL), .val (.ref s_EL), .val .null, .val .null, .val .null] []) := r37.trans fun z_ kt => st38 _ kt
  have N38 := Fr.snoc X38 N34 g_a
  have O38 := O34.wr W38 g_a
  have K38 := K34.wr W38 (Or.inl (List.mem_of_getElem? (i := 0) rfl))
  have F38 := f35.same W38
  have f39 := (((((((((F_a_given.other W4 (Or.inr (slot_ne (Or.inr (hw _ (own_g (i := 103) rfl))) (Or.inr (hw _ (own_g (i := 67) rfl))) (by decide) (t := (.object "java/lang/String")) (t' := (.object "com/example/blindern/blindern/mapping/ColumnType$Kind")) (by decide) (by decide)))).other W8 (Or.inr (slot_ne (Or.inr (hw _ (own_g (i := 103) rfl))) (Or.inr (hw _ (own_g (i := 69) rfl))) (by decide) (t := (.object "java/lang/String")) (t' := .int) (by decide) (by decide)))).other W12 (Or.inr (slot_ne (Or.inr (hw _ (own_g (i := 103) rfl))) (Or.inr (hw _ (own_g (i := 71) rfl))) (by decide) (t := (.object "java/lang/String")) (t' := .int) (by decide) (by decide)))).other W16 (Or.inr (slot_ne (Or.inr (hw _ (own_g (i := 103) rfl))) (Or.inr (hw _ (own_g (i := 73) rfl))) (by decide) (t := (.object "java/lang/String")) (t' := .int) (by decide) (by decide)))).other W20 (Or.inr (slot_ne (Or.inr (hw _ (own_g (i := 103) rfl))) (Or.inr (hw _ (own_g (i := 75) rfl))) (by decide) (t := (.object "java/lang/String")) (t' := (.object "java/lang/String")) (by decide) (by decide)))).other W25 (Or.inr (slot_ne (Or.inr (hw _ (own_g (i := 103) rfl))) (Or.inr (hw _ (own_g (i := 95) rfl))) (by decide) (t := (.object "java/lang/String")) (t' := (.object "java/util/List")) (by decide) (by decide)))).other W30 (Or.inr (slot_ne (Or.inr (hw _ (own_g (i := 103) rfl))) (Or.inr (hw _ (own_g (i := 97) rfl))) (by decide) (t := (.object "java/lang/String")) (t' := (.object "java/util/List")) (by decide) (by decide)))).other W34 (Or.inr (slot_ne (Or.inr (hw _ (own_g (i := 103) rfl))) (Or.inr (hw _ (own_g (i := 99) rfl))) (by decide) (t := (.object "java/lang/String")) (t' := (.object "com/example/blindern/blindern/mapping/ColumnType")) (by decide) (by decide)))).other W38 (Or.inr (slot_ne (Or.inr (hw _ (own_g (i := 103) rfl))) (Or.inr (hw _ (own_g (i := 101) rfl))) (by decide) (t := (.object "java/lang/String")) (t' := (.object "java/lang/String")) (by decide) (by decide))))
  have f40 := (f36.wr W38)
  have r41 : own_R p e below _ _ T38 (mkF m 64 #[.val (.ref a), .val (.ref kd), .val (.int pl), .val (.int pp), .val (.int ps), .val .null, .val (.ref s_EL), .val (.ref s_EL), .val .null, .val .null, .val .null] [.null, (.ref a)]) := r38.trans fun z_ kt => by
    refine XS.aloadN X38.here hx rfl (hb hby d5_61) rfl rfl ?_
    refine XS.aload X38.here hx rfl (hb hby d5_62) rfl rfl ?_
    exact kt
  obtain ⟨T42, h42, X42, e42, W42, st42⟩ := putF X38 hx hZ hown (host := "") (Or.inl (hw _ (own_g (i := 102) rfl))) Via.refl e38 f39 f40 (Or.inr ⟨(hw _ (own_g (i := 103) rfl)), rfl, hnm⟩) (hw _ (own_g (i := 50) rfl)) (ty := (.object "java/lang/String")) (v := .null) (by decide) rfl rfl (g := (mkF m 64 #[.val (.ref a), .val (.ref kd), .val (.int pl), .val (.int pp), .val (.int ps), .val .null, .val (.ref s_EL), .val (.ref s_EL), .val .null, .val .null, .val .null] [.null, (.ref a)])) rfl rfl (hb hby d5_64)
  have r42 : own_R p e below _ _ T42 (mkF m 67 #[.val (.ref a), .val (.ref kd), .val (.int pl), .val (.int pp), .val (.int ps), .val .null, .val (.ref s_EL), .val (.ref s_EL), .val .null, .val .null, .val .null] []) := r41.trans fun z_ kt => st42 _ kt
  have N42 := Fr.snoc X42 N38 g_a
  have O42 := O38.wr W42 g_a
  have K42 := K38.wr W42 (Or.inl (List.mem_of_getElem? (i := 0) rfl))
  have F42 := f39.same W42
  have f43 := (((((((((F4.other W8 (Or.inr (slot_ne (Or.inr (hw _ (own_g (i := 67) rfl))) (Or.inr (hw _ (own_g (i := 69) rfl))) (by decide) (t := (.object "com/example/blindern/blindern/mapping/ColumnType$Kind")) (t' := .int) (by decide) (by decide)))).other W12 (Or.inr (slot_ne (Or.inr (hw _ (own_g (i := 67) rfl))) (Or.inr (hw _ (own_g (i := 71) rfl))) (by decide) (t := (.object "com/example/blindern/blindern/mapping/ColumnType$Kind")) (t' := .int) (by decide) (by decide)))).other W16 (Or.inr (slot_ne (Or.inr (hw _ (own_g (i := 67) rfl))) (Or.inr (hw _ (own_g (i := 73) rfl))) (by decide) (t := (.object "com/example/blindern/blindern/mapping/ColumnType$Kind")) (t' := .int) (by decide) (by decide)))).other W20 (Or.inr (slot_ne (Or.inr (hw _ (own_g (i := 67) rfl))) (Or.inr (hw _ (own_g (i := 75) rfl))) (by decide) (t := (.object "com/example/blindern/blindern/mapping/ColumnType$Kind")) (t' := (.object "java/lang/String")) (by decide) (by decide)))).other W25 (Or.inr (slot_ne (Or.inr (hw _ (own_g (i := 67) rfl))) (Or.inr (hw _ (own_g (i := 95) rfl))) (by decide) (t := (.object "com/example/blindern/blindern/mapping/ColumnType$Kind")) (t' := (.object "java/util/List")) (by decide) (by decide)))).other W30 (Or.inr (slot_ne (Or.inr (hw _ (own_g (i := 67) rfl))) (Or.inr (hw _ (own_g (i := 97) rfl))) (by decide) (t := (.object "com/example/blindern/blindern/mapping/ColumnType$Kind")) (t' := (.object "java/util/List")) (by decide) (by decide)))).other W34 (Or.inr (slot_ne (Or.inr (hw _ (own_g (i := 67) rfl))) (Or.inr (hw _ (own_g (i := 99) rfl))) (by decide) (t := (.object "com/example/blindern/blindern/mapping/ColumnType$Kind")) (t' := (.object "com/example/blindern/blindern/mapping/ColumnType")) (by decide) (by decide)))).other W38 (Or.inr (slot_ne (Or.inr (hw _ (own_g (i := 67) rfl))) (Or.inr (hw _ (own_g (i := 101) rfl))) (by decide) (t := (.object "com/example/blindern/blindern/mapping/ColumnType$Kind")) (t' := (.object "java/lang/String")) (by decide) (by decide)))).other W42 (Or.inr (slot_ne (Or.inr (hw _ (own_g (i := 67) rfl))) (Or.inr (hw _ (own_g (i := 103) rfl))) (by decide) (t := (.object "com/example/blindern/blindern/mapping/ColumnType$Kind")) (t' := (.object "java/lang/String")) (by decide) (by decide))))
  have f44 := (((((((F12.other W16 (Or.inr (slot_ne (Or.inr (hw _ (own_g (i := 71) rfl))) (Or.inr (hw _ (own_g (i := 73) rfl))) (by decide) (t := .int) (t' := .int) (by decide) (by decide)))).other W20 (Or.inr (slot_ne (Or.inr (hw _ (own_g (i := 71) rfl))) (Or.inr (hw _ (own_g (i := 75) rfl))) (by decide) (t := .int) (t' := (.object "java/lang/String")) (by decide) (by decide)))).other W25 (Or.inr (slot_ne (Or.inr (hw _ (own_g (i := 71) rfl))) (Or.inr (hw _ (own_g (i := 95) rfl))) (by decide) (t := .int) (t' := (.object "java/util/List")) (by decide) (by decide)))).other W30 (Or.inr (slot_ne (Or.inr (hw _ (own_g (i := 71) rfl))) (Or.inr (hw _ (own_g (i := 97) rfl))) (by decide) (t := .int) (t' := (.object "java/util/List")) (by decide) (by decide)))).other W34 (Or.inr (slot_ne (Or.inr (hw _ (own_g (i := 71) rfl))) (Or.inr (hw _ (own_g (i := 99) rfl))) (by decide) (t := .int) (t' := (.object "com/example/blindern/blindern/mapping/ColumnType")) (by decide) (by decide)))).other W38 (Or.inr (slot_ne (Or.inr (hw _ (own_g (i := 71) rfl))) (Or.inr (hw _ (own_g (i := 101) rfl))) (by decide) (t := .int) (t' := (.object "java/lang/String")) (by decide) (by decide)))).other W42 (Or.inr (slot_ne (Or.inr (hw _ (own_g (i := 71) rfl))) (Or.inr (hw _ (own_g (i := 103) rfl))) (by decide) (t := .int) (t' := (.object "java/lang/String")) (by decide) (by decide))))
  obtain ⟨fs_, hr_, hrun_, hended_, hW_, hsame_⟩ := X42.leave (v := none) (fun _ => rfl)
  refine ⟨_, _, pre0 _ (r42 _ ?_), hrun_, hended_, _, _, rfl, ?_, ⟨_, rfl⟩, hW_, hsame_.mono (by decide) (by decide)⟩
  · exact X42.returnOut hx Bd.returns (hb hby d5_67) hr_
  · show Q_ctBig Z a kd pl pp ps s_EL u0 u1 u2 u3 u4 u5 u6 u7 u8 u9 h0 n0 _ T42.heap _
    rw [e42]
    exact ⟨rfl, N42, K42, f43, f44⟩

theorem d4_0 : decode prog_21_method_1_code 0 = .ok (.aload_n 0, 1) := by decide +kernel
theorem d4_1 : decode prog_21_method_1_code 1 = .ok (.aload_n 1, 1) := by decide +kernel
theorem d4_2 : decode prog_21_method_1_code 2 = .ok (.iload_n 2, 1) := by decide +kernel
theorem d4_3 : decode prog_21_method_1_code 3 = .ok (.iload_n 3, 1) := by decide +kernel
theorem d4_4 : decode prog_21_method_1_code 4 = .ok (.iload 4, 2) := by decide +kernel
theorem d4_6 : decode prog_21_method_1_code 6 = .ok (.aload 5, 2) := by decide +kernel
theorem d4_8 : decode prog_21_method_1_code 8 = .ok (.aload 6, 2) := by decide +kernel
theorem d4_10 : decode prog_21_method_1_code 10 = .ok (.invokestatic 1, 3) := by decide +kernel
theorem pd_1 : parseMethodDescriptor "()Ljava/util/List;" = some ⟨[], some (.object "java/util/List")⟩ := by decide +kernel
theorem d4_13 : decode prog_21_method_1_code 13 = .ok (.aconst_null, 1) := by decide +kernel
theorem d4_14 : decode prog_21_method_1_code 14 = .ok (.aconst_null, 1) := by decide +kernel
theorem d4_15 : decode prog_21_method_1_code 15 = .ok (.aconst_null, 1) := by decide +kernel
theorem d4_16 : decode prog_21_method_1_code 16 = .ok (.invokespecial 7, 3) := by decide +kernel
theorem pd_2 : parseMethodDescriptor "(Lcom/example/blindern/blindern/mapping/ColumnType$Kind;IIILjava/lang/String;Ljava/util/List;Ljava/util/List;Lcom/example/blindern/blindern/mapping/ColumnType;Ljava/lang/String;Ljava/lang/String;)V" = some ⟨[(.object "com/example/blindern/blindern/mapping/ColumnType$Kind"), .int, .int, .int, (.object "java/lang/String"), (.object "java/util/List"), (.object "java/util/List"), (.object "com/example/blindern/blindern/mapping/ColumnType"), (.object "java/lang/String"), (.object "java/lang/String")], none⟩ := by decide +kernel
theorem d4_19 : decode prog_21_method_1_code 19 = .ok (.return_, 1) := by decide +kernel
theorem ef_ctSmall (m : MethodId) (a : Addr) (kd : Addr) (pl : Int32) (pp : Int32) (ps : Int32) (s_EL : Addr) : entryFrame m #[(.ref a), (.ref kd), (.int pl), (.int pp), (.int ps), .null, (.ref s_EL)] 7 = mkF m 0 #[.val (.ref a), .val (.ref kd), .val (.int pl), .val (.int pp), .val (.int ps), .val .null, .val (.ref s_EL)] [] := by first | (simp [entryFrame, mkF, argsToLocals, Value.category]; done) | rfl
def Q_ctSmall (Z : State) (a : Addr) (kd : Addr) (pl : Int32) (pp : Int32) (ps : Int32) (s_EL : Addr) (u0 : Value) (u1 : Value) (u2 : Value) (u3 : Value) (u4 : Value) (u5 : Value) (u6 : Value) (u7 : Value) (u8 : Value) (u9 : Value) (h0 : Heap) (n0 : Nat) (v_ : Option Value) (h_ : Heap) (L_ : List Loc) : Prop := v_ = none ∧ Fr n0 L_ ∧ Keep h0 h_ [a] ∧ (Fld Z h_ a "com/example/blindern/blindern/mapping/ColumnType" "kind" "Lcom/example/blindern/blindern/mapping/ColumnType$Kind;" (.ref kd)) ∧ (Fld Z h_ a "com/example/blindern/blindern/mapping/ColumnType" "precision" "I" (.int pp))
set_option maxRecDepth 65536 in
set_option maxHeartbeats 40000000 in
theorem rm_ctSmall (l : Launch) (Z : State) (a0 : Array Value) (hw : ∀ d ∈ tables_1, d.before a0 Z = true) (ws : List Jvm.Cond) (a : Addr) (kd : Addr) (pl : Int32) (pp : Int32) (ps : Int32) (s_EL : Addr) (u0 : Value) (u1 : Value) (u2 : Value) (u3 : Value) (u4 : Value) (u5 : Value) (u6 : Value) (u7 : Value) (u8 : Value) (u9 : Value) (h0 : Heap) (n0 : Nat) (O0 : Old Z n0 h0) (E_a : Exa Z h0 a "com/example/blindern/blindern/mapping/ColumnType") (g_a : n0 ≤ a) (F_a_kind : Fld Z h0 a "com/example/blindern/blindern/mapping/ColumnType" "kind" "Lcom/example/blindern/blindern/mapping/ColumnType$Kind;" u0) (F_a_length : Fld Z h0 a "com/example/blindern/blindern/mapping/ColumnType" "length" "I" u1) (F_a_precision : Fld Z h0 a "com/example/blindern/blindern/mapping/ColumnType" "precision" "I" u2) (F_a_scale : Fld Z h0 a "com/example/blindern/blindern/mapping/ColumnType" "scale" "I" u3) (F_a_enumType : Fld Z h0 a "com/example/blindern/blindern/mapping/ColumnType" "enumType" "Ljava/lang/String;" u4) (F_a_names : Fld Z h0 a "com/example/blindern/blindern/mapping/ColumnType" "names" "Ljava/util/List;" u5) (F_a_values : Fld Z h0 a "com/example/blindern/blindern/mapping/ColumnType" "values" "Ljava/util/List;" u6) (F_a_column : Fld Z h0 a "com/example/blindern/blindern/mapping/ColumnType" "column" "Lcom/example/blindern/blindern/mapping/ColumnType;" u7) (F_a_where : Fld Z h0 a "com/example/blindern/blindern/mapping/ColumnType" "where" "Ljava/lang/String;" u8) (F_a_given : Fld Z h0 a "com/example/blindern/blindern/mapping/ColumnType" "given" "Ljava/lang/String;" u9) (S_ImmutableCollections_EMPTY_LIST : Sta Z Z.heap "java/util/ImmutableCollections" "EMPTY_LIST" "Ljava/util/ImmutableCollections$ListN;" (.ref s_EL)) (OE_s_EL : Exa Z Z.heap s_EL "java/util/ImmutableCollections$ListN") (OF_s_EL_allowNulls : Fld Z Z.heap s_EL "java/util/ImmutableCollections$ListN" "allowNulls" "Z" (.int (0 : Int32))) :
    MetFree l (⟨"com/example/blindern/blindern/mapping/ColumnType", "<init>", "(Lcom/example/blindern/blindern/mapping/ColumnType$Kind;IIILjava/lang/String;Ljava/util/List;)V"⟩ : MethodName) (head1 (Jvm.Cond.code (⟨"com/example/blindern/blindern/mapping/ColumnType", "<init>", "(Lcom/example/blindern/blindern/mapping/ColumnType$Kind;IIILjava/lang/String;Ljava/util/List;)V"⟩ : MethodName) prog_21_method_1_code 7 none :: ws) ({ frames := 3, cells := 0, slots := 0, locals := 48 } : Room)) (fun aa_ U_ => aa_ = #[(.ref a), (.ref kd), (.int pl), (.int pp), (.int ps), .null, (.ref s_EL)] ∧ Z.Warmed39 U_.vm ∧ U_.heap = h0) (fun _ _ _ _ _ => True) (fun _ U_ o_ U_' => ∃ v_ L_, o_ = .returned v_ ∧ Q_ctSmall Z a kd pl pp ps s_EL u0 u1 u2 u3 u4 u5 u6 u7 u8 u9 h0 n0 v_ U_'.heap L_ ∧ FrameEnd U_ o_ U_' L_ ({ frames := 3, cells := 0, slots := 0, locals := 48 } : Room).cells ({ frames := 3, cells := 0, slots := 0, locals := 48 } : Room).slots) := by
  refine MetFree.of_bodySF (plainFor_of_name pn_ColumnType) hisR ?_
  intro p e s m args below meth c s₁ Bd hml0 hP hK
  obtain ⟨rfl, hZ, hh⟩ := hP
  have hx := Bd.exec
  have hby := Bd.bytes
  have hml : c.maxLocals = 7 := hml0
  have hown : s.vm.findClass "com/example/blindern/blindern/mapping/ColumnType" = some m.cls := findClass_of_methodNamed Bd.named
  have hnm := (name_of_methodNamed Bd.named Bd.method).1
  have X0 : Stand p l e ({ frames := 3, cells := 0, slots := 0, locals := 48 } : Room) s m #[(.ref a), (.ref kd), (.int pl), (.int pp), (.int ps), .null, (.ref s_EL)] below meth c s₁ [] 0 0 := Stand.of_body Bd
  have e0 : s₁.heap = h0 := by rw [← hh, Bd.state]; rfl
  have N0 := Fr.nil n0
  have K0 : Keep h0 h0 [a] := Keep.refl h0 _
  have pre0 : ∀ z_, Steps p.tables e below (s₁.setTop (mkF m 0 #[.val (.ref a), .val (.ref kd), .val (.int pl), .val (.int pp), .val (.int ps), .val .null, .val (.ref s_EL)] [])) z_ → Steps p.tables e below (s₁.setTop (entryFrame m #[(.ref a), (.ref kd), (.int pl), (.int pp), (.int ps), .null, (.ref s_EL)] 7)) z_ := fun z_ k_ => castTop (ef_ctSmall m a kd pl pp ps s_EL) k_
  have r0 : own_R p e below s₁ (mkF m 0 #[.val (.ref a), .val (.ref kd), .val (.int pl), .val (.int pp), .val (.int ps), .val .null, .val (.ref s_EL)] []) s₁ (mkF m 0 #[.val (.ref a), .val (.ref kd), .val (.int pl), .val (.int pp), .val (.int ps), .val .null, .val (.ref s_EL)] []) := own_R.refl
  have r1 : own_R p e below _ _ s₁ (mkF m 10 #[.val (.ref a), .val (.ref kd), .val (.int pl), .val (.int pp), .val (.int ps), .val .null, .val (.ref s_EL)] [(.ref s_EL), .null, (.int ps), (.int pp), (.int pl), (.ref kd), (.ref a)]) := r0.trans fun z_ kt => by
    refine XS.aloadN X0.here hx rfl (hb hby d4_0) rfl rfl ?_
    refine XS.aloadN X0.here hx rfl (hb hby d4_1) rfl rfl ?_
    refine XS.iloadN X0.here hx rfl (hb hby d4_2) rfl ?_
    refine XS.iloadN X0.here hx rfl (hb hby d4_3) rfl ?_
    refine XS.iload X0.here hx rfl (hb hby d4_4) rfl ?_
    refine XS.aload X0.here hx rfl (hb hby d4_6) rfl rfl ?_
    refine XS.aload X0.here hx rfl (hb hby d4_8) rfl rfl ?_
    exact kt
  obtain ⟨_, _, ⟨T2, L2, cc2, n2⟩, -, X2, ⟨Lc2, hQ2, l2, y2, z2⟩, st2⟩ := Jvm.LawKit.callS X0 hx (y := (⟨"java/util/List", "of", "()Ljava/util/List;"⟩ : MethodName)) hown (mvT hZ (hw _ (own_g (i := 51) rfl))) (mvT hZ (hw _ (own_g (i := 52) rfl))) (mvT hZ (hw _ (own_g (i := 53) rfl))) (mvT hZ (hw _ (own_g (i := 54) rfl))) (by decide) (backOf (W := 7) (rm_listOf l Z a0 hw [] (s_EL) h0 n0 O0 (S_ImmutableCollections_EMPTY_LIST)) hZ (hw _ (own_g (i := 54) rfl)) (hw _ (own_g (i := 53) rfl)) (by decide) (by decide)) (g := (mkF m 10 #[.val (.ref a), .val (.ref kd), .val (.int pl), .val (.int pp), .val (.int ps), .val .null, .val (.ref s_EL)] [(.ref s_EL), .null, (.int ps), (.int pp), (.int pl), (.ref kd), (.ref a)])) rfl (by rw [hml]; rfl) (argsL := []) (rest := [(.ref s_EL), .null, (.int ps), (.int pp), (.int pl), (.ref kd), (.ref a)]) (lenOf pd_1 rfl) rfl (by show 2 * 0 + _ ≤ _; exact Nat.le_of_eq rfl) (hb hby d4_10) (fun _ _ => ⟨rfl, e0, (by decide : 0 + 0 ≤ _), (by decide : 0 + 0 ≤ _)⟩)
  dsimp only [Pt.U, Pt.locs, Pt.cells, Pt.slots] at X2 l2 y2 z2 st2 hQ2
  subst l2 y2 z2
  obtain ⟨rfl, Nq2, eq2⟩ := hQ2
  have N2 := Fr.app N0 Nq2
  have r2 : own_R p e below _ _ T2 (mkF m 13 #[.val (.ref a), .val (.ref kd), .val (.int pl), .val (.int pp), .val (.int ps), .val .null, .val (.ref s_EL)] [(.ref s_EL), (.ref s_EL), .null, (.int ps), (.int pp), (.int pl), (.ref kd), (.ref a)]) := r1.trans fun z_ kt => st2 _ kt
  have e2 : T2.heap = h0 := eq2
  have r3 : own_R p e below _ _ T2 (mkF m 16 #[.val (.ref a), .val (.ref kd), .val (.int pl), .val (.int pp), .val (.int ps), .val .null, .val (.ref s_EL)] [.null, .null, .null, (.ref s_EL), (.ref s_EL), .null, (.int ps), (.int pp), (.int pl), (.ref kd), (.ref a)]) := r2.trans fun z_ kt => by
    refine XS.aconstNull X2.here hx rfl (hb hby d4_13) ?_
    refine XS.aconstNull X2.here hx rfl (hb hby d4_14) ?_
    refine XS.aconstNull X2.here hx rfl (hb hby d4_15) ?_
    exact kt
  obtain ⟨_, _, ⟨T4, L4, cc4, n4⟩, -, X4, ⟨Lc4, hQ4, l4, y4, z4⟩, st4⟩ := X2.specialBack hx (y := (⟨"com/example/blindern/blindern/mapping/ColumnType", "<init>", "(Lcom/example/blindern/blindern/mapping/ColumnType$Kind;IIILjava/lang/String;Ljava/util/List;Ljava/util/List;Lcom/example/blindern/blindern/mapping/ColumnType;Ljava/lang/String;Ljava/lang/String;)V"⟩ : MethodName)) rfl hown (mvT hZ (hw _ (own_g (i := 60) rfl))) (mvT hZ (hw _ (own_g (i := 61) rfl))) (mvT hZ (hw _ (own_g (i := 62) rfl))) (by decide) (backOf (W := 0) (rm_ctBig l Z a0 hw [] (a) (kd) (pl) (pp) (ps) (s_EL) (u0) (u1) (u2) (u3) (u4) (u5) (u6) (u7) (u8) (u9) h0 n0 O0 (E_a) (g_a) (F_a_kind) (F_a_length) (F_a_precision) (F_a_scale) (F_a_enumType) (F_a_names) (F_a_values) (F_a_column) (F_a_where) (F_a_given) (OE_s_EL) (OF_s_EL_allowNulls)) hZ (hw _ (own_g (i := 62) rfl)) (hw _ (own_g (i := 46) rfl)) (by decide) (by decide)) (g := (mkF m 16 #[.val (.ref a), .val (.ref kd), .val (.int pl), .val (.int pp), .val (.int ps), .val .null, .val (.ref s_EL)] [.null, .null, .null, (.ref s_EL), (.ref s_EL), .null, (.int ps), (.int pp), (.int pl), (.ref kd), (.ref a)])) rfl (by rw [hml]; rfl) (Steps.refl _) (a := a) (argsL := [(.ref kd), (.int pl), (.int pp), (.int ps), .null, (.ref s_EL), (.ref s_EL), .null, .null, .null]) (rest := []) (lenOf pd_2 rfl) rfl (by show 2 * 0 + _ ≤ _; exact Nat.le_of_eq rfl) (hb hby d4_16) (fun _ _ => ⟨rfl, e2, (by decide : 0 + 0 ≤ _), (by decide : 0 + 0 ≤ _)⟩)
  dsimp only [Pt.U, Pt.locs, Pt.cells, Pt.slots] at X4 l4 y4 z4 st4 hQ4
  subst l4 y4 z4
  obtain ⟨h4, e4⟩ : ∃ z, T4.heap = z := ⟨_, rfl⟩
  rw [e4] at hQ4
  obtain ⟨rfl, Nq4, Kq4, p4_0, p4_1⟩ := hQ4
  have N4 := Fr.app N2 Nq4
  have r4 : own_R p e below _ _ T4 (mkF m 19 #[.val (.ref a), .val (.ref kd), .val (.int pl), .val (.int pp), .val (.int ps), .val .null, .val (.ref s_EL)] []) := r3.trans fun z_ kt => st4.trans kt
  have O4 := O0.keep Kq4 (allS g_a all0)
  have K4 := K0.trans Kq4 (allS (Or.inl (List.mem_of_getElem? (i := 0) rfl)) all0)
  obtain ⟨fs_, hr_, hrun_, hended_, hW_, hsame_⟩ := X4.leave (v := none) (fun _ => rfl)
  refine ⟨_, _, pre0 _ (r4 _ ?_), hrun_, hended_, _, _, rfl, ?_, ⟨_, rfl⟩, hW_, hsame_.mono (by decide) (by decide)⟩
  · exact X4.returnOut hx Bd.returns (hb hby d4_19) hr_
  · show Q_ctSmall Z a kd pl pp ps s_EL u0 u1 u2 u3 u4 u5 u6 u7 u8 u9 h0 n0 _ T4.heap _
    rw [e4]
    exact ⟨rfl, N4, K4, p4_0, p4_1⟩

theorem d2_0 : decode prog_21_method_4_code 0 = .ok (.aload_n 0, 1) := by decide +kernel
theorem d2_1 : decode prog_21_method_4_code 1 = .ok (.invokevirtual 77, 3) := by decide +kernel
theorem pd_3 : parseMethodDescriptor "()Z" = some ⟨[], some .boolean⟩ := by decide +kernel
theorem d2_4 : decode prog_21_method_4_code 4 = .ok (.ifCond .ne 20, 3) := by decide +kernel
theorem d2_24 : decode prog_21_method_4_code 24 = .ok (.new 8, 3) := by decide +kernel
theorem d2_27 : decode prog_21_method_4_code 27 = .ok (.dup, 1) := by decide +kernel
theorem d2_28 : decode prog_21_method_4_code 28 = .ok (.aload_n 0, 1) := by decide +kernel
theorem d2_29 : decode prog_21_method_4_code 29 = .ok (.iconst 0, 1) := by decide +kernel
theorem d2_30 : decode prog_21_method_4_code 30 = .ok (.iload_n 1, 1) := by decide +kernel
theorem d2_31 : decode prog_21_method_4_code 31 = .ok (.iconst 0, 1) := by decide +kernel
theorem d2_32 : decode prog_21_method_4_code 32 = .ok (.aconst_null, 1) := by decide +kernel
theorem d2_33 : decode prog_21_method_4_code 33 = .ok (.invokestatic 1, 3) := by decide +kernel
theorem d2_36 : decode prog_21_method_4_code 36 = .ok (.invokespecial 96, 3) := by decide +kernel
theorem pd_4 : parseMethodDescriptor "(Lcom/example/blindern/blindern/mapping/ColumnType$Kind;IIILjava/lang/String;Ljava/util/List;)V" = some ⟨[(.object "com/example/blindern/blindern/mapping/ColumnType$Kind"), .int, .int, .int, (.object "java/lang/String"), (.object "java/util/List")], none⟩ := by decide +kernel
theorem d2_39 : decode prog_21_method_4_code 39 = .ok (.areturn, 1) := by decide +kernel
theorem ef_temporal (m : MethodId) (kd : Addr) (pp : Int32) : entryFrame m #[(.ref kd), (.int pp)] 2 = mkF m 0 #[.val (.ref kd), .val (.int pp)] [] := by first | (simp [entryFrame, mkF, argsToLocals, Value.category]; done) | rfl
def Q_temporal (Z : State) (kd : Addr) (pp : Int32) (wT : Addr) (wS : Addr) (wZ : Addr) (s_EL : Addr) (h0 : Heap) (n0 : Nat) (v_ : Option Value) (h_ : Heap) (L_ : List Loc) : Prop := ∃ (b : Addr), v_ = some (.ref b) ∧ Fr n0 L_ ∧ Keep h0 h_ [] ∧ (h0.size ≤ b) ∧ (Exa Z h_ b "com/example/blindern/blindern/mapping/ColumnType") ∧ (Fld Z h_ b "com/example/blindern/blindern/mapping/ColumnType" "kind" "Lcom/example/blindern/blindern/mapping/ColumnType$Kind;" (.ref kd)) ∧ (Fld Z h_ b "com/example/blindern/blindern/mapping/ColumnType" "precision" "I" (.int pp))
set_option maxRecDepth 65536 in
set_option maxHeartbeats 40000000 in
theorem rm_temporal (l : Launch) (Z : State) (a0 : Array Value) (hw : ∀ d ∈ tables_1, d.before a0 Z = true) (ws : List Jvm.Cond) (kd : Addr) (pp : Int32) (wT : Addr) (wS : Addr) (wZ : Addr) (s_EL : Addr) (h0 : Heap) (n0 : Nat) (O0 : Old Z n0 h0) (S_ColumnType_Kind_TIME : Sta Z Z.heap "com/example/blindern/blindern/mapping/ColumnType$Kind" "TIME" "Lcom/example/blindern/blindern/mapping/ColumnType$Kind;" (.ref wT)) (S_ColumnType_Kind_TIMESTAMP : Sta Z Z.heap "com/example/blindern/blindern/mapping/ColumnType$Kind" "TIMESTAMP" "Lcom/example/blindern/blindern/mapping/ColumnType$Kind;" (.ref wS)) (S_ColumnType_Kind_TIMESTAMP_TZ : Sta Z Z.heap "com/example/blindern/blindern/mapping/ColumnType$Kind" "TIMESTAMP_TZ" "Lcom/example/blindern/blindern/mapping/ColumnType$Kind;" (.ref wZ)) (S_ImmutableCollections_EMPTY_LIST : Sta Z Z.heap "java/util/ImmutableCollections" "EMPTY_LIST" "Ljava/util/ImmutableCollections$ListN;" (.ref s_EL)) (OE_s_EL : Exa Z Z.heap s_EL "java/util/ImmutableCollections$ListN") (OF_s_EL_allowNulls : Fld Z Z.heap s_EL "java/util/ImmutableCollections$ListN" "allowNulls" "Z" (.int (0 : Int32))) (OE_kd : Exa Z Z.heap kd "com/example/blindern/blindern/mapping/ColumnType$Kind") (hk : (kd = wT) ∨ (kd ≠ wT ∧ kd = wS) ∨ (kd ≠ wT ∧ kd ≠ wS ∧ kd = wZ)) :
    MetFree l (⟨"com/example/blindern/blindern/mapping/ColumnType", "temporal", "(Lcom/example/blindern/blindern/mapping/ColumnType$Kind;I)Lcom/example/blindern/blindern/mapping/ColumnType;"⟩ : MethodName) (head1 (Jvm.Cond.code (⟨"com/example/blindern/blindern/mapping/ColumnType", "temporal", "(Lcom/example/blindern/blindern/mapping/ColumnType$Kind;I)Lcom/example/blindern/blindern/mapping/ColumnType;"⟩ : MethodName) prog_21_method_4_code 2 (some (.object "com/example/blindern/blindern/mapping/ColumnType")) :: ws) ({ frames := 4, cells := 1, slots := 10, locals := 67 } : Room)) (fun aa_ U_ => aa_ = #[(.ref kd), (.int pp)] ∧ Z.Warmed39 U_.vm ∧ U_.heap = h0) (fun _ _ _ _ _ => True) (fun _ U_ o_ U_' => ∃ v_ L_, o_ = .returned v_ ∧ Q_temporal Z kd pp wT wS wZ s_EL h0 n0 v_ U_'.heap L_ ∧ FrameEnd U_ o_ U_' L_ ({ frames := 4, cells := 1, slots := 10, locals := 67 } : Room).cells ({ frames := 4, cells := 1, slots := 10, locals := 67 } : Room).slots) := by
  refine MetFree.of_bodySF (plainFor_of_name pn_ColumnType) hisR ?_
  intro p e s m args below meth c s₁ Bd hml0 hP hK
  obtain ⟨rfl, hZ, hh⟩ := hP
  have hx := Bd.exec
  have hby := Bd.bytes
  have hml : c.maxLocals = 2 := hml0
  have hown : s.vm.findClass "com/example/blindern/blindern/mapping/ColumnType" = some m.cls := findClass_of_methodNamed Bd.named
  have hnm := (name_of_methodNamed Bd.named Bd.method).1
  have X0 : Stand p l e ({ frames := 4, cells := 1, slots := 10, locals := 67 } : Room) s m #[(.ref kd), (.int pp)] below meth c s₁ [] 0 0 := Stand.of_body Bd
  have e0 : s₁.heap = h0 := by rw [← hh, Bd.state]; rfl
  have N0 := Fr.nil n0
  have K0 : Keep h0 h0 [] := Keep.refl h0 _
  have pre0 : ∀ z_, Steps p.tables e below (s₁.setTop (mkF m 0 #[.val (.ref kd), .val (.int pp)] [])) z_ → Steps p.tables e below (s₁.setTop (entryFrame m #[(.ref kd), (.int pp)] 2)) z_ := fun z_ k_ => castTop (ef_temporal m kd pp) k_
  have r0 : own_R p e below s₁ (mkF m 0 #[.val (.ref kd), .val (.int pp)] []) s₁ (mkF m 0 #[.val (.ref kd), .val (.int pp)] []) := own_R.refl
  have r1 : own_R p e below _ _ s₁ (mkF m 1 #[.val (.ref kd), .val (.int pp)] [(.ref kd)]) := r0.trans fun z_ kt => by
    refine XS.aloadN X0.here hx rfl (hb hby d2_0) rfl rfl ?_
    exact kt
  obtain ⟨cq2, kq2, q2a, q2b, q2c⟩ := isOf hZ e0 (OE_kd.ext O0.2)
  obtain ⟨_, _, ⟨T2, L2, cc2, n2⟩, -, X2, ⟨Lc2, hQ2, l2, y2, z2⟩, st2⟩ := X0.virtualBack hx (y := (⟨"com/example/blindern/blindern/mapping/ColumnType$Kind", "takesSecondPrecision", "()Z"⟩ : MethodName)) (z := (⟨"com/example/blindern/blindern/mapping/ColumnType$Kind", "takesSecondPrecision", "()Z"⟩ : MethodName)) hown (mvT hZ (hw _ (own_g (i := 48) rfl))) (mvT hZ (hw _ (own_g (i := 37) rfl))) (notFace_of_selects (args := #[]) (mvT hZ (hw _ (own_g (i := 39) rfl)))) (mvT hZ (hw _ (own_g (i := 39) rfl))) (mvT hZ (hw _ (own_g (i := 38) rfl))) (by decide) (backOf (W := 0) (rm_takes l Z a0 hw [] (kd) (wT) (wS) (wZ) ((1 : Int32)) h0 n0 O0 (S_ColumnType_Kind_TIME) (S_ColumnType_Kind_TIMESTAMP) (S_ColumnType_Kind_TIMESTAMP_TZ) (hk.elim (fun q => Or.inl ⟨q, rfl⟩) fun q => q.elim (fun q => Or.inr (Or.inl ⟨q.1, q.2, rfl⟩)) fun q => Or.inr (Or.inr (Or.inl ⟨q.1, q.2.1, q.2.2, rfl⟩)))) hZ (hw _ (own_g (i := 40) rfl)) (hw _ (own_g (i := 3) rfl)) (by decide) (by decide)) q2a q2c (g := (mkF m 1 #[.val (.ref kd), .val (.int pp)] [(.ref kd)])) rfl (by rw [hml]; rfl) (Steps.refl _) (argsL := []) (rest := []) (lenOf pd_3 rfl) rfl (by show 2 * 0 + _ ≤ _; exact Nat.le_of_eq rfl) (hb hby d2_1) (fun _ _ => ⟨rfl, e0, (by decide : 0 + 0 ≤ _), (by decide : 0 + 0 ≤ _)⟩)
  dsimp only [Pt.U, Pt.locs, Pt.cells, Pt.slots] at X2 l2 y2 z2 st2 hQ2
  subst l2 y2 z2
  obtain ⟨rfl, Nq2, eq2⟩ := hQ2
  have N2 := Fr.app N0 Nq2
  have r2 : own_R p e below _ _ T2 (mkF m 4 #[.val (.ref kd), .val (.int pp)] [(.int (1 : Int32))]) := r1.trans fun z_ kt => st2.trans kt
  have e2 : T2.heap = h0 := eq2
  have r3 : own_R p e below _ _ T2 (mkF m 24 #[.val (.ref kd), .val (.int pp)] []) := r2.trans fun z_ kt => by
    refine XS.ifYes X2.here hx rfl (pc0 := 4) (pc' := 24) rfl (hb hby d2_4) rfl ((if0 _ _).trans (feq (by decide : ¬ ((1 : Int32) = (0 : Int32)))).2) (by decide) (by decide) ?_
    exact kt
  obtain ⟨T4, h4, X4, e4, E4, A4, D4, -, st4⟩ := newO X2 hx hZ hown (hw _ (own_g (i := 49) rfl)) (hw _ (own_g (i := 50) rfl)) (hw _ (own_g (i := 46) rfl)) e2 (g := (mkF m 24 #[.val (.ref kd), .val (.int pp)] [])) rfl (hb hby d2_24) (by decide) (by decide)
  obtain ⟨b4, g4⟩ : ∃ z, z = h0.size := ⟨_, rfl⟩
  rw [← g4] at A4 D4 st4
  have r4 : own_R p e below _ _ T4 (mkF m 27 #[.val (.ref kd), .val (.int pp)] [(.ref b4)]) := r3.trans fun z_ kt => st4 _ kt
  have g_b4 : n0 ≤ b4 := Nat.le_trans (own_old_size O0) (Nat.le_of_eq g4.symm)
  have sz_b4 : h0.size ≤ b4 := Nat.le_trans K0.1 (Nat.le_of_eq g4.symm)
  have O4 := O0.ext E4
  have K4 := K0.ext E4
  have F4_67 := D4 (Or.inr (hw _ (own_g (i := 67) rfl))) (ty := (.object "com/example/blindern/blindern/mapping/ColumnType$Kind")) (by decide)
  have F4_69 := D4 (Or.inr (hw _ (own_g (i := 69) rfl))) (ty := .int) (by decide)
  have F4_71 := D4 (Or.inr (hw _ (own_g (i := 71) rfl))) (ty := .int) (by decide)
  have F4_73 := D4 (Or.inr (hw _ (own_g (i := 73) rfl))) (ty := .int) (by decide)
  have F4_75 := D4 (Or.inr (hw _ (own_g (i := 75) rfl))) (ty := (.object "java/lang/String")) (by decide)
  have F4_95 := D4 (Or.inr (hw _ (own_g (i := 95) rfl))) (ty := (.object "java/util/List")) (by decide)
  have F4_97 := D4 (Or.inr (hw _ (own_g (i := 97) rfl))) (ty := (.object "java/util/List")) (by decide)
  have F4_99 := D4 (Or.inr (hw _ (own_g (i := 99) rfl))) (ty := (.object "com/example/blindern/blindern/mapping/ColumnType")) (by decide)
  have F4_101 := D4 (Or.inr (hw _ (own_g (i := 101) rfl))) (ty := (.object "java/lang/String")) (by decide)
  have F4_103 := D4 (Or.inr (hw _ (own_g (i := 103) rfl))) (ty := (.object "java/lang/String")) (by decide)
  have r5 : own_R p e below _ _ T4 (mkF m 33 #[.val (.ref kd), .val (.int pp)] [.null, (.int (0 : Int32)), (.int pp), (.int (0 : Int32)), (.ref kd), (.ref b4), (.ref b4)]) := r4.trans fun z_ kt => by
    refine XS.dup X4.here hx rfl (hb hby d2_27) rfl rfl ?_
    refine XS.aloadN X4.here hx rfl (hb hby d2_28) rfl rfl ?_
    refine XS.iconst X4.here hx rfl (hb hby d2_29) ?_
    refine XS.iloadN X4.here hx rfl (hb hby d2_30) rfl ?_
    refine XS.iconst X4.here hx rfl (hb hby d2_31) ?_
    refine XS.aconstNull X4.here hx rfl (hb hby d2_32) ?_
    exact kt
  obtain ⟨_, _, ⟨T6, L6, cc6, n6⟩, -, X6, ⟨Lc6, hQ6, l6, y6, z6⟩, st6⟩ := Jvm.LawKit.callS X4 hx (y := (⟨"java/util/List", "of", "()Ljava/util/List;"⟩ : MethodName)) hown (mvT hZ (hw _ (own_g (i := 51) rfl))) (mvT hZ (hw _ (own_g (i := 52) rfl))) (mvT hZ (hw _ (own_g (i := 53) rfl))) (mvT hZ (hw _ (own_g (i := 54) rfl))) (by decide) (backOf (W := 7) (rm_listOf l Z a0 hw [] (s_EL) h4 n0 O4 (S_ImmutableCollections_EMPTY_LIST)) hZ (hw _ (own_g (i := 54) rfl)) (hw _ (own_g (i := 53) rfl)) (by decide) (by decide)) (g := (mkF m 33 #[.val (.ref kd), .val (.int pp)] [.null, (.int (0 : Int32)), (.int pp), (.int (0 : Int32)), (.ref kd), (.ref b4), (.ref b4)])) rfl (by rw [hml]; rfl) (argsL := []) (rest := [.null, (.int (0 : Int32)), (.int pp), (.int (0 : Int32)), (.ref kd), (.ref b4), (.ref b4)]) (lenOf pd_1 rfl) rfl (by show 2 * 0 + _ ≤ _; exact Nat.le_of_eq rfl) (hb hby d2_33) (fun _ _ => ⟨rfl, e4, (by decide : 1 + 0 ≤ _), (by decide : 10 + 0 ≤ _)⟩)
  dsimp only [Pt.U, Pt.locs, Pt.cells, Pt.slots] at X6 l6 y6 z6 st6 hQ6
  subst l6 y6 z6
  obtain ⟨rfl, Nq6, eq6⟩ := hQ6
  have N6 := Fr.app N2 Nq6
  have r6 : own_R p e below _ _ T6 (mkF m 36 #[.val (.ref kd), .val (.int pp)] [(.ref s_EL), .null, (.int (0 : Int32)), (.int pp), (.int (0 : Int32)), (.ref kd), (.ref b4), (.ref b4)]) := r5.trans fun z_ kt => st6 _ kt
  have e6 : T6.heap = h4 := eq6
  obtain ⟨_, _, ⟨T7, L7, cc7, n7⟩, -, X7, ⟨Lc7, hQ7, l7, y7, z7⟩, st7⟩ := X6.specialBack hx (y := (⟨"com/example/blindern/blindern/mapping/ColumnType", "<init>", "(Lcom/example/blindern/blindern/mapping/ColumnType$Kind;IIILjava/lang/String;Ljava/util/List;)V"⟩ : MethodName)) rfl hown (mvT hZ (hw _ (own_g (i := 57) rfl))) (mvT hZ (hw _ (own_g (i := 58) rfl))) (mvT hZ (hw _ (own_g (i := 59) rfl))) (by decide) (backOf (W := 1) (rm_ctSmall l Z a0 hw [] (b4) (kd) ((0 : Int32)) (pp) ((0 : Int32)) (s_EL) (.null) ((.int (0 : Int32))) ((.int (0 : Int32))) ((.int (0 : Int32))) (.null) (.null) (.null) (.null) (.null) (.null) h4 n0 O4 (A4) (g_b4) (F4_67) (F4_69) (F4_71) (F4_73) (F4_75) (F4_95) (F4_97) (F4_99) (F4_101) (F4_103) (S_ImmutableCollections_EMPTY_LIST) (OE_s_EL) (OF_s_EL_allowNulls)) hZ (hw _ (own_g (i := 59) rfl)) (hw _ (own_g (i := 46) rfl)) (by decide) (by decide)) (g := (mkF m 36 #[.val (.ref kd), .val (.int pp)] [(.ref s_EL), .null, (.int (0 : Int32)), (.int pp), (.int (0 : Int32)), (.ref kd), (.ref b4), (.ref b4)])) rfl (by rw [hml]; rfl) (Steps.refl _) (a := b4) (argsL := [(.ref kd), (.int (0 : Int32)), (.int pp), (.int (0 : Int32)), .null, (.ref s_EL)]) (rest := [(.ref b4)]) (lenOf pd_4 rfl) rfl (by show 2 * 0 + _ ≤ _; exact Nat.le_of_eq rfl) (hb hby d2_36) (fun _ _ => ⟨rfl, e6, (by decide : 1 + 0 ≤ _), (by decide : 10 + 0 ≤ _)⟩)
  dsimp only [Pt.U, Pt.locs, Pt.cells, Pt.slots] at X7 l7 y7 z7 st7 hQ7
  subst l7 y7 z7
  obtain ⟨h7, e7⟩ : ∃ z, T7.heap = z := ⟨_, rfl⟩
  rw [e7] at hQ7
  obtain ⟨rfl, Nq7, Kq7, p7_0, p7_1⟩ := hQ7
  have N7 := Fr.app N6 Nq7
  have r7 : own_R p e below _ _ T7 (mkF m 39 #[.val (.ref kd), .val (.int pp)] [(.ref b4)]) := r6.trans fun z_ kt => st7.trans kt
  have O7 := O4.keep Kq7 (allS g_b4 all0)
  have K7 := K4.trans Kq7 (allS (Or.inr sz_b4) all0)
  have f8 := (A4.keep Kq7)
  obtain ⟨fs_, hr_, hrun_, hended_, hW_, hsame_⟩ := X7.leave (v := some (.ref b4)) (fun h => by rw [Bd.returns] at h; cases h)
  refine ⟨_, _, pre0 _ (r7 _ ?_), hrun_, hended_, _, _, rfl, ?_, ⟨_, rfl⟩, hW_, hsame_.mono (by decide) (by decide)⟩
  · exact retOut X7 hx Bd.returns rfl (Or.inr (Or.inr (Or.inr (Or.inr ⟨rfl, rfl, rfl⟩)))) (hb hby d2_39) hr_
  · show Q_temporal Z kd pp wT wS wZ s_EL h0 n0 _ T7.heap _
    rw [e7]
    exact ⟨b4, rfl, N7, K7, sz_b4, f8, p7_0, p7_1⟩

theorem d9_0 : decode prog_21_method_11_code 0 = .ok (.aload_n 0, 1) := by decide +kernel
theorem d9_1 : decode prog_21_method_11_code 1 = .ok (.getfield 18, 3) := by decide +kernel
theorem d9_4 : decode prog_21_method_11_code 4 = .ok (.areturn, 1) := by decide +kernel
theorem ef_kind (m : MethodId) (a : Addr) : entryFrame m #[(.ref a)] 1 = mkF m 0 #[.val (.ref a)] [] := by first | (simp [entryFrame, mkF, argsToLocals, Value.category]; done) | rfl
def Q_kind (Z : State) (a : Addr) (kd : Addr) (h0 : Heap) (n0 : Nat) (v_ : Option Value) (h_ : Heap) (L_ : List Loc) : Prop := v_ = some (.ref kd) ∧ Fr n0 L_ ∧ h_ = h0
set_option maxRecDepth 65536 in
set_option maxHeartbeats 40000000 in
theorem rm_kind (l : Launch) (Z : State) (a0 : Array Value) (hw : ∀ d ∈ tables_1, d.before a0 Z = true) (ws : List Jvm.Cond) (a : Addr) (kd : Addr) (h0 : Heap) (n0 : Nat) (O0 : Old Z n0 h0) (F_a_kind : Fld Z h0 a "com/example/blindern/blindern/mapping/ColumnType" "kind" "Lcom/example/blindern/blindern/mapping/ColumnType$Kind;" (.ref kd)) :
    MetFree l (⟨"com/example/blindern/blindern/mapping/ColumnType", "kind", "()Lcom/example/blindern/blindern/mapping/ColumnType$Kind;"⟩ : MethodName) (head1 (Jvm.Cond.code (⟨"com/example/blindern/blindern/mapping/ColumnType", "kind", "()Lcom/example/blindern/blindern/mapping/ColumnType$Kind;"⟩ : MethodName) prog_21_method_11_code 1 (some (.object "com/example/blindern/blindern/mapping/ColumnType$Kind")) :: ws) ({ frames := 0, cells := 0, slots := 0, locals := 0 } : Room)) (fun aa_ U_ => aa_ = #[(.ref a)] ∧ Z.Warmed39 U_.vm ∧ U_.heap = h0) (fun _ _ _ _ _ => True) (fun _ U_ o_ U_' => ∃ v_ L_, o_ = .returned v_ ∧ Q_kind Z a kd h0 n0 v_ U_'.heap L_ ∧ FrameEnd U_ o_ U_' L_ ({ frames := 0, cells := 0, slots := 0, locals := 0 } : Room).cells ({ frames := 0, cells := 0, slots := 0, locals := 0 } : Room).slots) := by
  refine MetFree.of_bodySF (plainFor_of_name pn_ColumnType) hisR ?_
  intro p e s m args below meth c s₁ Bd hml0 hP hK
  obtain ⟨rfl, hZ, hh⟩ := hP
  have hx := Bd.exec
  have hby := Bd.bytes
  have hml : c.maxLocals = 1 := hml0
  have hown : s.vm.findClass "com/example/blindern/blindern/mapping/ColumnType" = some m.cls := findClass_of_methodNamed Bd.named
  have hnm := (name_of_methodNamed Bd.named Bd.method).1
  have X0 : Stand p l e ({ frames := 0, cells := 0, slots := 0, locals := 0 } : Room) s m #[(.ref a)] below meth c s₁ [] 0 0 := Stand.of_body Bd
  have e0 : s₁.heap = h0 := by rw [← hh, Bd.state]; rfl
  have N0 := Fr.nil n0
  have pre0 : ∀ z_, Steps p.tables e below (s₁.setTop (mkF m 0 #[.val (.ref a)] [])) z_ → Steps p.tables e below (s₁.setTop (entryFrame m #[(.ref a)] 1)) z_ := fun z_ k_ => castTop (ef_kind m a) k_
  have r0 : own_R p e below s₁ (mkF m 0 #[.val (.ref a)] []) s₁ (mkF m 0 #[.val (.ref a)] []) := own_R.refl
  have r1 : own_R p e below _ _ s₁ (mkF m 1 #[.val (.ref a)] [(.ref a)]) := r0.trans fun z_ kt => by
    refine XS.aloadN X0.here hx rfl (hb hby d9_0) rfl rfl ?_
    exact kt
  obtain ⟨T2, X2, e2, st2⟩ := getF X0 hx hZ hown (host := "") (Or.inl (hw _ (own_g (i := 66) rfl))) Via.refl e0 F_a_kind (g := (mkF m 1 #[.val (.ref a)] [(.ref a)])) rfl rfl (hb hby d9_1)
  have r2 : own_R p e below _ _ T2 (mkF m 4 #[.val (.ref a)] [(.ref kd)]) := r1.trans fun z_ kt => st2 _ kt
  obtain ⟨fs_, hr_, hrun_, hended_, hW_, hsame_⟩ := X2.leave (v := some (.ref kd)) (fun h => by rw [Bd.returns] at h; cases h)
  refine ⟨_, _, pre0 _ (r2 _ ?_), hrun_, hended_, _, _, rfl, ?_, ⟨_, rfl⟩, hW_, hsame_.mono (by decide) (by decide)⟩
  · exact retOut X2 hx Bd.returns rfl (Or.inr (Or.inr (Or.inr (Or.inr ⟨rfl, rfl, rfl⟩)))) (hb hby d9_4) hr_
  · show Q_kind Z a kd h0 n0 _ T2.heap _
    rw [e2]
    exact ⟨rfl, N0, rfl⟩

theorem d10_0 : decode prog_21_method_13_code 0 = .ok (.aload_n 0, 1) := by decide +kernel
theorem d10_1 : decode prog_21_method_13_code 1 = .ok (.getfield 26, 3) := by decide +kernel
theorem d10_4 : decode prog_21_method_13_code 4 = .ok (.ireturn, 1) := by decide +kernel
theorem ef_precision (m : MethodId) (a : Addr) : entryFrame m #[(.ref a)] 1 = mkF m 0 #[.val (.ref a)] [] := by first | (simp [entryFrame, mkF, argsToLocals, Value.category]; done) | rfl
def Q_precision (Z : State) (a : Addr) (pp : Int32) (h0 : Heap) (n0 : Nat) (v_ : Option Value) (h_ : Heap) (L_ : List Loc) : Prop := v_ = some (.int pp) ∧ Fr n0 L_ ∧ h_ = h0
set_option maxRecDepth 65536 in
set_option maxHeartbeats 40000000 in
theorem rm_precision (l : Launch) (Z : State) (a0 : Array Value) (hw : ∀ d ∈ tables_1, d.before a0 Z = true) (ws : List Jvm.Cond) (a : Addr) (pp : Int32) (h0 : Heap) (n0 : Nat) (O0 : Old Z n0 h0) (F_a_precision : Fld Z h0 a "com/example/blindern/blindern/mapping/ColumnType" "precision" "I" (.int pp)) :
    MetFree l (⟨"com/example/blindern/blindern/mapping/ColumnType", "precision", "()I"⟩ : MethodName) (head1 (Jvm.Cond.code (⟨"com/example/blindern/blindern/mapping/ColumnType", "precision", "()I"⟩ : MethodName) prog_21_method_13_code 1 (some .int) :: ws) ({ frames := 0, cells := 0, slots := 0, locals := 0 } : Room)) (fun aa_ U_ => aa_ = #[(.ref a)] ∧ Z.Warmed39 U_.vm ∧ U_.heap = h0) (fun _ _ _ _ _ => True) (fun _ U_ o_ U_' => ∃ v_ L_, o_ = .returned v_ ∧ Q_precision Z a pp h0 n0 v_ U_'.heap L_ ∧ FrameEnd U_ o_ U_' L_ ({ frames := 0, cells := 0, slots := 0, locals := 0 } : Room).cells ({ frames := 0, cells := 0, slots := 0, locals := 0 } : Room).slots) := by
  refine MetFree.of_bodySF (plainFor_of_name pn_ColumnType) hisR ?_
  intro p e s m args below meth c s₁ Bd hml0 hP hK
  obtain ⟨rfl, hZ, hh⟩ := hP
  have hx := Bd.exec
  have hby := Bd.bytes
  have hml : c.maxLocals = 1 := hml0
  have hown : s.vm.findClass "com/example/blindern/blindern/mapping/ColumnType" = some m.cls := findClass_of_methodNamed Bd.named
  have hnm := (name_of_methodNamed Bd.named Bd.method).1
  have X0 : Stand p l e ({ frames := 0, cells := 0, slots := 0, locals := 0 } : Room) s m #[(.ref a)] below meth c s₁ [] 0 0 := Stand.of_body Bd
  have e0 : s₁.heap = h0 := by rw [← hh, Bd.state]; rfl
  have N0 := Fr.nil n0
  have pre0 : ∀ z_, Steps p.tables e below (s₁.setTop (mkF m 0 #[.val (.ref a)] [])) z_ → Steps p.tables e below (s₁.setTop (entryFrame m #[(.ref a)] 1)) z_ := fun z_ k_ => castTop (ef_precision m a) k_
  have r0 : own_R p e below s₁ (mkF m 0 #[.val (.ref a)] []) s₁ (mkF m 0 #[.val (.ref a)] []) := own_R.refl
  have r1 : own_R p e below _ _ s₁ (mkF m 1 #[.val (.ref a)] [(.ref a)]) := r0.trans fun z_ kt => by
    refine XS.aloadN X0.here hx rfl (hb hby d10_0) rfl rfl ?_
    exact kt
  obtain ⟨T2, X2, e2, st2⟩ := getF X0 hx hZ hown (host := "") (Or.inl (hw _ (own_g (i := 70) rfl))) Via.refl e0 F_a_precision (g := (mkF m 1 #[.val (.ref a)] [(.ref a)])) rfl rfl (hb hby d10_1)
  have r2 : own_R p e below _ _ T2 (mkF m 4 #[.val (.ref a)] [(.int pp)]) := r1.trans fun z_ kt => st2 _ kt
  obtain ⟨fs_, hr_, hrun_, hended_, hW_, hsame_⟩ := X2.leave (v := some (.int pp)) (fun h => by rw [Bd.returns] at h; cases h)
  refine ⟨_, _, pre0 _ (r2 _ ?_), hrun_, hended_, _, _, rfl, ?_, ⟨_, rfl⟩, hW_, hsame_.mono (by decide) (by decide)⟩
  · exact retOut X2 hx Bd.returns rfl (Or.inl ⟨rfl, Or.inl rfl, _, rfl⟩) (hb hby d10_4) hr_
  · show Q_precision Z a pp h0 n0 _ T2.heap _
    rw [e2]
    exact ⟨rfl, N0, rfl⟩

theorem pd_5 : parseMethodDescriptor "(Lcom/example/blindern/blindern/mapping/ColumnType$Kind;I)Lcom/example/blindern/blindern/mapping/ColumnType;" = some ⟨[(.object "com/example/blindern/blindern/mapping/ColumnType$Kind"), .int], some (.object "com/example/blindern/blindern/mapping/ColumnType")⟩ := by decide +kernel
theorem pd_6 : parseMethodDescriptor "()Lcom/example/blindern/blindern/mapping/ColumnType$Kind;" = some ⟨[], some (.object "com/example/blindern/blindern/mapping/ColumnType$Kind")⟩ := by decide +kernel
theorem pd_7 : parseMethodDescriptor "()I" = some ⟨[], some .int⟩ := by decide +kernel
theorem pn_KindTakesSecondPrecisionPinLaw : plainName "com/example/blindern/blindern/mapping/KindTakesSecondPrecisionPinLaw" = true := by first | (simp [plainName, overriddenIn]; done) | decide +kernel
theorem ef_law (m : MethodId) (pw : Int32) (pp : Int32) : entryFrame m #[(.int pw), (.int pp)] maxLocals = mkF m 0 #[.val (.int pw), .val (.int pp), .unset, .unset, .unset, .unset, .unset, .unset] [] := by first | (simp [entryFrame, mkF, argsToLocals, Value.category, maxLocals]; done) | rfl
def Q_law (Z : State) (pw : Int32) (pp : Int32) (s_VARCHAR : Addr) (s_CHAR : Addr) (s_SMALLINT : Addr) (s_INTEGER : Addr) (s_BIGINT : Addr) (s_BOOLEAN : Addr) (s_REAL : Addr) (s_DOUBLE : Addr) (s_NUMERIC : Addr) (s_DATE : Addr) (s_TIME : Addr) (s_TIMESTAMP : Addr) (s_TIMESTAMP_TZ : Addr) (s_ENUM_NAME : Addr) (s_ENUM_ORDINAL : Addr) (s_ENUM_VALUE : Addr) (s_EL : Addr) (h0 : Heap) (n0 : Nat) (v_ : Option Value) (h_ : Heap) (L_ : List Loc) : Prop := v_ = some (.int (1 : Int32)) ∧ Fr n0 L_
set_option maxRecDepth 65536 in
set_option maxHeartbeats 40000000 in
theorem rm_law (l : Launch) (Z : State) (a0 : Array Value) (hw : ∀ d ∈ tables_1, d.before a0 Z = true) (ws : List Jvm.Cond) (pw : Int32) (pp : Int32) (s_VARCHAR : Addr) (s_CHAR : Addr) (s_SMALLINT : Addr) (s_INTEGER : Addr) (s_BIGINT : Addr) (s_BOOLEAN : Addr) (s_REAL : Addr) (s_DOUBLE : Addr) (s_NUMERIC : Addr) (s_DATE : Addr) (s_TIME : Addr) (s_TIMESTAMP : Addr) (s_TIMESTAMP_TZ : Addr) (s_ENUM_NAME : Addr) (s_ENUM_ORDINAL : Addr) (s_ENUM_VALUE : Addr) (s_EL : Addr) (h0 : Heap) (n0 : Nat) (O0 : Old Z n0 h0) (S_ColumnType_Kind_VARCHAR : Sta Z Z.heap "com/example/blindern/blindern/mapping/ColumnType$Kind" "VARCHAR" "Lcom/example/blindern/blindern/mapping/ColumnType$Kind;" (.ref s_VARCHAR)) (S_ColumnType_Kind_CHAR : Sta Z Z.heap "com/example/blindern/blindern/mapping/ColumnType$Kind" "CHAR" "Lcom/example/blindern/blindern/mapping/ColumnType$Kind;" (.ref s_CHAR)) (S_ColumnType_Kind_SMALLINT : Sta Z Z.heap "com/example/blindern/blindern/mapping/ColumnType$Kind" "SMALLINT" "Lcom/example/blindern/blindern/mapping/ColumnType$Kind;" (.ref s_SMALLINT)) (S_ColumnType_Kind_INTEGER : Sta Z Z.heap "com/example/blindern/blindern/mapping/ColumnType$Kind" "INTEGER" "Lcom/example/blindern/blindern/mapping/ColumnType$Kind;" (.ref s_INTEGER)) (S_ColumnType_Kind_BIGINT : Sta Z Z.heap "com/example/blindern/blindern/mapping/ColumnType$Kind" "BIGINT" "Lcom/example/blindern/blindern/mapping/ColumnType$Kind;" (.ref s_BIGINT)) (S_ColumnType_Kind_BOOLEAN : Sta Z Z.heap "com/example/blindern/blindern/mapping/ColumnType$Kind" "BOOLEAN" "Lcom/example/blindern/blindern/mapping/ColumnType$Kind;" (.ref s_BOOLEAN)) (S_ColumnType_Kind_REAL : Sta Z Z.heap "com/example/blindern/blindern/mapping/ColumnType$Kind" "REAL" "Lcom/example/blindern/blindern/mapping/ColumnType$Kind;" (.ref s_REAL)) (S_ColumnType_Kind_DOUBLE : Sta Z Z.heap "com/example/blindern/blindern/mapping/ColumnType$Kind" "DOUBLE" "Lcom/example/blindern/blindern/mapping/ColumnType$Kind;" (.ref s_DOUBLE)) (S_ColumnType_Kind_NUMERIC : Sta Z Z.heap "com/example/blindern/blindern/mapping/ColumnType$Kind" "NUMERIC" "Lcom/example/blindern/blindern/mapping/ColumnType$Kind;" (.ref s_NUMERIC)) (S_ColumnType_Kind_DATE : Sta Z Z.heap "com/example/blindern/blindern/mapping/ColumnType$Kind" "DATE" "Lcom/example/blindern/blindern/mapping/ColumnType$Kind;" (.ref s_DATE)) (S_ColumnType_Kind_TIME : Sta Z Z.heap "com/example/blindern/blindern/mapping/ColumnType$Kind" "TIME" "Lcom/example/blindern/blindern/mapping/ColumnType$Kind;" (.ref s_TIME)) (S_ColumnType_Kind_TIMESTAMP : Sta Z Z.heap "com/example/blindern/blindern/mapping/ColumnType$Kind" "TIMESTAMP" "Lcom/example/blindern/blindern/mapping/ColumnType$Kind;" (.ref s_TIMESTAMP)) (S_ColumnType_Kind_TIMESTAMP_TZ : Sta Z Z.heap "com/example/blindern/blindern/mapping/ColumnType$Kind" "TIMESTAMP_TZ" "Lcom/example/blindern/blindern/mapping/ColumnType$Kind;" (.ref s_TIMESTAMP_TZ)) (S_ColumnType_Kind_ENUM_NAME : Sta Z Z.heap "com/example/blindern/blindern/mapping/ColumnType$Kind" "ENUM_NAME" "Lcom/example/blindern/blindern/mapping/ColumnType$Kind;" (.ref s_ENUM_NAME)) (S_ColumnType_Kind_ENUM_ORDINAL : Sta Z Z.heap "com/example/blindern/blindern/mapping/ColumnType$Kind" "ENUM_ORDINAL" "Lcom/example/blindern/blindern/mapping/ColumnType$Kind;" (.ref s_ENUM_ORDINAL)) (S_ColumnType_Kind_ENUM_VALUE : Sta Z Z.heap "com/example/blindern/blindern/mapping/ColumnType$Kind" "ENUM_VALUE" "Lcom/example/blindern/blindern/mapping/ColumnType$Kind;" (.ref s_ENUM_VALUE)) (OE_s_VARCHAR : Exa Z Z.heap s_VARCHAR "com/example/blindern/blindern/mapping/ColumnType$Kind") (OE_s_CHAR : Exa Z Z.heap s_CHAR "com/example/blindern/blindern/mapping/ColumnType$Kind") (OE_s_SMALLINT : Exa Z Z.heap s_SMALLINT "com/example/blindern/blindern/mapping/ColumnType$Kind") (OE_s_INTEGER : Exa Z Z.heap s_INTEGER "com/example/blindern/blindern/mapping/ColumnType$Kind") (OE_s_BIGINT : Exa Z Z.heap s_BIGINT "com/example/blindern/blindern/mapping/ColumnType$Kind") (OE_s_BOOLEAN : Exa Z Z.heap s_BOOLEAN "com/example/blindern/blindern/mapping/ColumnType$Kind") (OE_s_REAL : Exa Z Z.heap s_REAL "com/example/blindern/blindern/mapping/ColumnType$Kind") (OE_s_DOUBLE : Exa Z Z.heap s_DOUBLE "com/example/blindern/blindern/mapping/ColumnType$Kind") (OE_s_NUMERIC : Exa Z Z.heap s_NUMERIC "com/example/blindern/blindern/mapping/ColumnType$Kind") (OE_s_DATE : Exa Z Z.heap s_DATE "com/example/blindern/blindern/mapping/ColumnType$Kind") (OE_s_TIME : Exa Z Z.heap s_TIME "com/example/blindern/blindern/mapping/ColumnType$Kind") (OE_s_TIMESTAMP : Exa Z Z.heap s_TIMESTAMP "com/example/blindern/blindern/mapping/ColumnType$Kind") (OE_s_TIMESTAMP_TZ : Exa Z Z.heap s_TIMESTAMP_TZ "com/example/blindern/blindern/mapping/ColumnType$Kind") (OE_s_ENUM_NAME : Exa Z Z.heap s_ENUM_NAME "com/example/blindern/blindern/mapping/ColumnType$Kind") (OE_s_ENUM_ORDINAL : Exa Z Z.heap s_ENUM_ORDINAL "com/example/blindern/blindern/mapping/ColumnType$Kind") (OE_s_ENUM_VALUE : Exa Z Z.heap s_ENUM_VALUE "com/example/blindern/blindern/mapping/ColumnType$Kind") (OF_s_VARCHAR_ordinal : Fld Z Z.heap s_VARCHAR "java/lang/Enum" "ordinal" "I" (.int (0 : Int32))) (OF_s_CHAR_ordinal : Fld Z Z.heap s_CHAR "java/lang/Enum" "ordinal" "I" (.int (1 : Int32))) (OF_s_SMALLINT_ordinal : Fld Z Z.heap s_SMALLINT "java/lang/Enum" "ordinal" "I" (.int (2 : Int32))) (OF_s_INTEGER_ordinal : Fld Z Z.heap s_INTEGER "java/lang/Enum" "ordinal" "I" (.int (3 : Int32))) (OF_s_BIGINT_ordinal : Fld Z Z.heap s_BIGINT "java/lang/Enum" "ordinal" "I" (.int (4 : Int32))) (OF_s_BOOLEAN_ordinal : Fld Z Z.heap s_BOOLEAN "java/lang/Enum" "ordinal" "I" (.int (5 : Int32))) (OF_s_REAL_ordinal : Fld Z Z.heap s_REAL "java/lang/Enum" "ordinal" "I" (.int (6 : Int32))) (OF_s_DOUBLE_ordinal : Fld Z Z.heap s_DOUBLE "java/lang/Enum" "ordinal" "I" (.int (7 : Int32))) (OF_s_NUMERIC_ordinal : Fld Z Z.heap s_NUMERIC "java/lang/Enum" "ordinal" "I" (.int (8 : Int32))) (OF_s_DATE_ordinal : Fld Z Z.heap s_DATE "java/lang/Enum" "ordinal" "I" (.int (9 : Int32))) (OF_s_TIME_ordinal : Fld Z Z.heap s_TIME "java/lang/Enum" "ordinal" "I" (.int (10 : Int32))) (OF_s_TIMESTAMP_ordinal : Fld Z Z.heap s_TIMESTAMP "java/lang/Enum" "ordinal" "I" (.int (11 : Int32))) (OF_s_TIMESTAMP_TZ_ordinal : Fld Z Z.heap s_TIMESTAMP_TZ "java/lang/Enum" "ordinal" "I" (.int (12 : Int32))) (OF_s_ENUM_NAME_ordinal : Fld Z Z.heap s_ENUM_NAME "java/lang/Enum" "ordinal" "I" (.int (13 : Int32))) (OF_s_ENUM_ORDINAL_ordinal : Fld Z Z.heap s_ENUM_ORDINAL "java/lang/Enum" "ordinal" "I" (.int (14 : Int32))) (OF_s_ENUM_VALUE_ordinal : Fld Z Z.heap s_ENUM_VALUE "java/lang/Enum" "ordinal" "I" (.int (15 : Int32))) (S_ImmutableCollections_EMPTY_LIST : Sta Z Z.heap "java/util/ImmutableCollections" "EMPTY_LIST" "Ljava/util/ImmutableCollections$ListN;" (.ref s_EL)) (OE_s_EL : Exa Z Z.heap s_EL "java/util/ImmutableCollections$ListN") (OF_s_EL_allowNulls : Fld Z Z.heap s_EL "java/util/ImmutableCollections$ListN" "allowNulls" "Z" (.int (0 : Int32))) :
    MetFree l x (head1 (Jvm.Cond.code x code maxLocals ret :: ws) room_1) (fun aa_ U_ => aa_ = #[(.int pw), (.int pp)] ∧ Z.Warmed39 U_.vm ∧ U_.heap = h0) (fun _ _ _ _ _ => True) (fun _ U_ o_ U_' => ∃ v_ L_, o_ = .returned v_ ∧ Q_law Z pw pp s_VARCHAR s_CHAR s_SMALLINT s_INTEGER s_BIGINT s_BOOLEAN s_REAL s_DOUBLE s_NUMERIC s_DATE s_TIME s_TIMESTAMP s_TIMESTAMP_TZ s_ENUM_NAME s_ENUM_ORDINAL s_ENUM_VALUE s_EL h0 n0 v_ U_'.heap L_ ∧ FrameEnd U_ o_ U_' L_ room_1.cells room_1.slots) := by
  refine MetFree.of_bodySF (plainFor_of_name pn_KindTakesSecondPrecisionPinLaw) hisR ?_
  intro p e s m args below meth c s₁ Bd hml0 hP hK
  obtain ⟨rfl, hZ, hh⟩ := hP
  have hx := Bd.exec
  have hby := Bd.bytes
  have hml : c.maxLocals = 8 := hml0
  have hown : s.vm.findClass "com/example/blindern/blindern/mapping/KindTakesSecondPrecisionPinLaw" = some m.cls := findClass_of_methodNamed Bd.named
  have hnm := (name_of_methodNamed Bd.named Bd.method).1
  have X0 : Stand p l e room_1 s m #[(.int pw), (.int pp)] below meth c s₁ [] 0 0 := Stand.of_body Bd
  have e0 : s₁.heap = h0 := by rw [← hh, Bd.state]; rfl
  have N0 := Fr.nil n0
  have pre0 : ∀ z_, Steps p.tables e below (s₁.setTop (mkF m 0 #[.val (.int pw), .val (.int pp), .unset, .unset, .unset, .unset, .unset, .unset] [])) z_ → Steps p.tables e below (s₁.setTop (entryFrame m #[(.int pw), (.int pp)] maxLocals)) z_ := fun z_ k_ => castTop (ef_law m pw pp) k_
  have r0 : own_R p e below s₁ (mkF m 0 #[.val (.int pw), .val (.int pp), .unset, .unset, .unset, .unset, .unset, .unset] []) s₁ (mkF m 0 #[.val (.int pw), .val (.int pp), .unset, .unset, .unset, .unset, .unset, .unset] []) := own_R.refl
  have r1 : own_R p e below _ _ s₁ (mkF m 2 #[.val (.int pw), .val (.int pp), .unset, .unset, .unset, .unset, .unset, .unset] [(.int (16 : Int32))]) := r0.trans fun z_ kt => by
    refine XS.bipush X0.here hx rfl (hb hby at_0) ?_
    exact kt
  obtain ⟨T2, h2, k2, X2, e2, E2, A2, Ov2, st2⟩ := newR X0 hx hZ hown (hw _ (own_g (i := 0) rfl)) (hw _ (own_g (i := 1) rfl)) e0 (g := (mkF m 2 #[.val (.int pw), .val (.int pp), .unset, .unset, .unset, .unset, .unset, .unset] [(.int (16 : Int32))])) rfl (hb hby at_2) rfl (by decide) (cap := 16) (by decide) (by decide) (by decide) (by decide)
  obtain ⟨b2, g2⟩ : ∃ z, z = h0.size := ⟨_, rfl⟩
  rw [← g2] at A2 st2
  have r2 : own_R p e below _ _ T2 (mkF m 5 #[.val (.int pw), .val (.int pp), .unset, .unset, .unset, .unset, .unset, .unset] [(.ref b2)]) := r1.trans fun z_ kt => st2 _ kt
  have g_b2 : n0 ≤ b2 := Nat.le_trans (own_old_size O0) (Nat.le_of_eq g2.symm)
  have O2 := O0.ext E2
  have V2 : Arv Z h2 b2 k2 (.object "com/example/blindern/blindern/mapping/ColumnType$Kind") (16 : Int32) [.null, .null, .null, .null, .null, .null, .null, .null, .null, .null, .null, .null, .null, .null, .null, .null] .null := (Arv.new A2 (by decide)).pad (pad_rep [] .null 16)
  have r3 : own_R p e below _ _ T2 (mkF m 7 #[.val (.int pw), .val (.int pp), .unset, .unset, .unset, .unset, .unset, .unset] [(.int (0 : Int32)), (.ref b2), (.ref b2)]) := r2.trans fun z_ kt => by
    refine XS.dup X2.here hx rfl (hb hby at_5) rfl rfl ?_
    refine XS.iconst X2.here hx rfl (hb hby at_6) ?_
    exact kt
  obtain ⟨T4, X4, e4, st4⟩ := getS2 X2 hx hZ hown (host := "") (Or.inl (hw _ (own_g (i := 2) rfl))) Via.refl e2 (S_ColumnType_Kind_VARCHAR.ext O2.2) (g := (mkF m 7 #[.val (.int pw), .val (.int pp), .unset, .unset, .unset, .unset, .unset, .unset] [(.int (0 : Int32)), (.ref b2), (.ref b2)])) rfl (hb hby at_7)
  have r4 : own_R p e below _ _ T4 (mkF m 10 #[.val (.int pw), .val (.int pp), .unset, .unset, .unset, .unset, .unset, .unset] [(.ref s_VARCHAR), (.int (0 : Int32)), (.ref b2), (.ref b2)]) := r3.trans fun z_ kt => st4 _ kt
  obtain ⟨cl5, Ar5, q5, S5, M5, H5, G5⟩ := id V2
  have hin5 : ¬ ((0 : Int32) < 0 ∨ cl5.slots.size ≤ ((0 : Int32)).toNatClampNeg) := inb_of S5 ⟨by decide, by decide⟩
  obtain ⟨T6, h6, X6, e6, W6, st6⟩ := stR X4 hx hZ e4 Ar5 (j := (0 : Int32)) hin5 rfl (Sto.ofV Ar5 q5 Ov2 (Ins.self (OE_s_VARCHAR.ext O2.2))) (g := (mkF m 10 #[.val (.int pw), .val (.int pp), .unset, .unset, .unset, .unset, .unset, .unset] [(.ref s_VARCHAR), (.int (0 : Int32)), (.ref b2), (.ref b2)])) rfl rfl (hb hby at_10)
  have r6 : own_R p e below _ _ T6 (mkF m 11 #[.val (.int pw), .val (.int pp), .unset, .unset, .unset, .unset, .unset, .unset] [(.ref b2)]) := r4.trans fun z_ kt => st6 _ kt
  have N6 := Fr.snoc X6 N0 g_b2
  have O6 := O2.wr W6 g_b2
  have V6 : Arv Z h6 b2 k2 (.object "com/example/blindern/blindern/mapping/ColumnType$Kind") (16 : Int32) [(.ref s_VARCHAR), .null, .null, .null, .null, .null, .null, .null, .null, .null, .null, .null, .null, .null, .null, .null] .null := Arv.set Ar5 q5 S5 M5 H5 G5 rfl W6 0 rfl (Nat.le_of_ble_eq_true rfl)
  have r7 : own_R p e below _ _ T6 (mkF m 13 #[.val (.int pw), .val (.int pp), .unset, .unset, .unset, .unset, .unset, .unset] [(.int (1 : Int32)), (.ref b2), (.ref b2)]) := r6.trans fun z_ kt => by
    refine XS.dup X6.here hx rfl (hb hby at_11) rfl rfl ?_
    refine XS.iconst X6.here hx rfl (hb hby at_12) ?_
    exact kt
  obtain ⟨T8, X8, e8, st8⟩ := getS2 X6 hx hZ hown (host := "") (Or.inl (hw _ (own_g (i := 6) rfl))) Via.refl e6 (S_ColumnType_Kind_CHAR.ext O6.2) (g := (mkF m 13 #[.val (.int pw), .val (.int pp), .unset, .unset, .unset, .unset, .unset, .unset] [(.int (1 : Int32)), (.ref b2), (.ref b2)])) rfl (hb hby at_13)
  have r8 : own_R p e below _ _ T8 (mkF m 16 #[.val (.int pw), .val (.int pp), .unset, .unset, .unset, .unset, .unset, .unset] [(.ref s_CHAR), (.int (1 : Int32)), (.ref b2), (.ref b2)]) := r7.trans fun z_ kt => st8 _ kt
  obtain ⟨cl9, Ar9, q9, S9, M9, H9, G9⟩ := id V6
  have hin9 : ¬ ((1 : Int32) < 0 ∨ cl9.slots.size ≤ ((1 : Int32)).toNatClampNeg) := inb_of S9 ⟨by decide, by decide⟩
  obtain ⟨T10, h10, X10, e10, W10, st10⟩ := stR X8 hx hZ e8 Ar9 (j := (1 : Int32)) hin9 rfl (Sto.ofV Ar9 q9 Ov2 (Ins.self (OE_s_CHAR.ext O6.2))) (g := (mkF m 16 #[.val (.int pw), .val (.int pp), .unset, .unset, .unset, .unset, .unset, .unset] [(.ref s_CHAR), (.int (1 : Int32)), (.ref b2), (.ref b2)])) rfl rfl (hb hby at_16)
  have r10 : own_R p e below _ _ T10 (mkF m 17 #[.val (.int pw), .val (.int pp), .unset, .unset, .unset, .unset, .unset, .unset] [(.ref b2)]) := r8.trans fun z_ kt => st10 _ kt
  have N10 := Fr.snoc X10 N6 g_b2
  have O10 := O6.wr W10 g_b2
  have V10 : Arv Z h10 b2 k2 (.object "com/example/blindern/blindern/mapping/ColumnType$Kind") (16 : Int32) [(.ref s_VARCHAR), (.ref s_CHAR), .null, .null, .null, .null, .null, .null, .null, .null, .null, .null, .null, .null, .null, .null] .null := Arv.set Ar9 q9 S9 M9 H9 G9 rfl W10 1 rfl (Nat.le_of_ble_eq_true rfl)
  have r11 : own_R p e below _ _ T10 (mkF m 19 #[.val (.int pw), .val (.int pp), .unset, .unset, .unset, .unset, .unset, .unset] [(.int (2 : Int32)), (.ref b2), (.ref b2)]) := r10.trans fun z_ kt => by
    refine XS.dup X10.here hx rfl (hb hby at_17) rfl rfl ?_
    refine XS.iconst X10.here hx rfl (hb hby at_18) ?_
    exact kt
  obtain ⟨T12, X12, e12, st12⟩ := getS2 X10 hx hZ hown (host := "") (Or.inl (hw _ (own_g (i := 8) rfl))) Via.refl e10 (S_ColumnType_Kind_SMALLINT.ext O10.2) (g := (mkF m 19 #[.val (.int pw), .val (.int pp), .unset, .unset, .unset, .unset, .unset, .unset] [(.int (2 : Int32)), (.ref b2), (.ref b2)])) rfl (hb hby at_19)
  have r12 : own_R p e below _ _ T12 (mkF m 22 #[.val (.int pw), .val (.int pp), .unset, .unset, .unset, .unset, .unset, .unset] [(.ref s_SMALLINT), (.int (2 : Int32)), (.ref b2), (.ref b2)]) := r11.trans fun z_ kt => st12 _ kt
  obtain ⟨cl13, Ar13, q13, S13, M13, H13, G13⟩ := id V10
  have hin13 : ¬ ((2 : Int32) < 0 ∨ cl13.slots.size ≤ ((2 : Int32)).toNatClampNeg) := inb_of S13 ⟨by decide, by decide⟩
  obtain ⟨T14, h14, X14, e14, W14, st14⟩ := stR X12 hx hZ e12 Ar13 (j := (2 : Int32)) hin13 rfl (Sto.ofV Ar13 q13 Ov2 (Ins.self (OE_s_SMALLINT.ext O10.2))) (g := (mkF m 22 #[.val (.int pw), .val (.int pp), .unset, .unset, .unset, .unset, .unset, .unset] [(.ref s_SMALLINT), (.int (2 : Int32)), (.ref b2), (.ref b2)])) rfl rfl (hb hby at_22)
  have r14 : own_R p e below _ _ T14 (mkF m 23 #[.val (.int pw), .val (.int pp), .unset, .unset, .unset, .unset, .unset, .unset] [(.ref b2)]) := r12.trans fun z_ kt => st14 _ kt
  have N14 := Fr.snoc X14 N10 g_b2
  have O14 := O10.wr W14 g_b2
  have V14 : Arv Z h14 b2 k2 (.object "com/example/blindern/blindern/mapping/ColumnType$Kind") (16 : Int32) [(.ref s_VARCHAR), (.ref s_CHAR), (.ref s_SMALLINT), .null, .null, .null, .null, .null, .null, .null, .null, .null, .null, .null, .null, .null] .null := Arv.set Ar13 q13 S13 M13 H13 G13 rfl W14 2 rfl (Nat.le_of_ble_eq_true rfl)
  have r15 : own_R p e below _ _ T14 (mkF m 25 #[.val (.int pw), .val (.int pp), .unset, .unset, .unset, .unset, .unset, .unset] [(.int (3 : Int32)), (.ref b2), (.ref b2)]) := r14.trans fun z_ kt => by
    refine XS.dup X14.here hx rfl (hb hby at_23) rfl rfl ?_
    refine XS.iconst X14.here hx rfl (hb hby at_24) ?_
    exact kt
  obtain ⟨T16, X16, e16, st16⟩ := getS2 X14 hx hZ hown (host := "") (Or.inl (hw _ (own_g (i := 10) rfl))) Via.refl e14 (S_ColumnType_Kind_INTEGER.ext O14.2) (g := (mkF m 25 #[.val (.int pw), .val (.int pp), .unset, .unset, .unset, .unset, .unset, .unset] [(.int (3 : Int32)), (.ref b2), (.ref b2)])) rfl (hb hby at_25)
  have r16 : own_R p e below _ _ T16 (mkF m 28 #[.val (.int pw), .val (.int pp), .unset, .unset, .unset, .unset, .unset, .unset] [(.ref s_INTEGER), (.int (3 : Int32)), (.ref b2), (.ref b2)]) := r15.trans fun z_ kt => st16 _ kt
  obtain ⟨cl17, Ar17, q17, S17, M17, H17, G17⟩ := id V14
  have hin17 : ¬ ((3 : Int32) < 0 ∨ cl17.slots.size ≤ ((3 : Int32)).toNatClampNeg) := inb_of S17 ⟨by decide, by decide⟩
  obtain ⟨T18, h18, X18, e18, W18, st18⟩ := stR X16 hx hZ e16 Ar17 (j := (3 : Int32)) hin17 rfl (Sto.ofV Ar17 q17 Ov2 (Ins.self (OE_s_INTEGER.ext O14.2))) (g := (mkF m 28 #[.val (.int pw), .val (.int pp), .unset, .unset, .unset, .unset, .unset, .unset] [(.ref s_INTEGER), (.int (3 : Int32)), (.ref b2), (.ref b2)])) rfl rfl (hb hby at_28)
  have r18 : own_R p e below _ _ T18 (mkF m 29 #[.val (.int pw), .val (.int pp), .unset, .unset, .unset, .unset, .unset, .unset] [(.ref b2)]) := r16.trans fun z_ kt => st18 _ kt
  have N18 := Fr.snoc X18 N14 g_b2
  have O18 := O14.wr W18 g_b2
  have V18 : Arv Z h18 b2 k2 (.object "com/example/blindern/blindern/mapping/ColumnType$Kind") (16 : Int32) [(.ref s_VARCHAR), (.ref s_CHAR), (.ref s_SMALLINT), (.ref s_INTEGER), .null, .null, .null, .null, .null, .null, .null, .null, .null, .null, .null, .null] .null := Arv.set Ar17 q17 S17 M17 H17 G17 rfl W18 3 rfl (Nat.le_of_ble_eq_true rfl)
  have r19 : own_R p e below _ _ T18 (mkF m 31 #[.val (.int pw), .val (.int pp), .unset, .unset, .unset, .unset, .unset, .unset] [(.int (4 : Int32)), (.ref b2), (.ref b2)]) := r18.trans fun z_ kt => by
    refine XS.dup X18.here hx rfl (hb hby at_29) rfl rfl ?_
    refine XS.iconst X18.here hx rfl (hb hby at_30) ?_
    exact kt
  obtain ⟨T20, X20, e20, st20⟩ := getS2 X18 hx hZ hown (host := "") (Or.inl (hw _ (own_g (i := 12) rfl))) Via.refl e18 (S_ColumnType_Kind_BIGINT.ext O18.2) (g := (mkF m 31 #[.val (.int pw), .val (.int pp), .unset, .unset, .unset, .unset, .unset, .unset] [(.int (4 : Int32)), (.ref b2), (.ref b2)])) rfl (hb hby at_31)
  have r20 : own_R p e below _ _ T20 (mkF m 34 #[.val (.int pw), .val (.int pp), .unset, .unset, .unset, .unset, .unset, .unset] [(.ref s_BIGINT), (.int (4 : Int32)), (.ref b2), (.ref b2)]) := r19.trans fun z_ kt => st20 _ kt
  obtain ⟨cl21, Ar21, q21, S21, M21, H21, G21⟩ := id V18
  have hin21 : ¬ ((4 : Int32) < 0 ∨ cl21.slots.size ≤ ((4 : Int32)).toNatClampNeg) := inb_of S21 ⟨by decide, by decide⟩
  obtain ⟨T22, h22, X22, e22, W22, st22⟩ := stR X20 hx hZ e20 Ar21 (j := (4 : Int32)) hin21 rfl (Sto.ofV Ar21 q21 Ov2 (Ins.self (OE_s_BIGINT.ext O18.2))) (g := (mkF m 34 #[.val (.int pw), .val (.int pp), .unset, .unset, .unset, .unset, .unset, .unset] [(.ref s_BIGINT), (.int (4 : Int32)), (.ref b2), (.ref b2)])) rfl rfl (hb hby at_34)
  have r22 : own_R p e below _ _ T22 (mkF m 35 #[.val (.int pw), .val (.int pp), .unset, .unset, .unset, .unset, .unset, .unset] [(.ref b2)]) := r20.trans fun z_ kt => st22 _ kt
  have N22 := Fr.snoc X22 N18 g_b2
  have O22 := O18.wr W22 g_b2
  have V22 : Arv Z h22 b2 k2 (.object "com/example/blindern/blindern/mapping/ColumnType$Kind") (16 : Int32) [(.ref s_VARCHAR), (.ref s_CHAR), (.ref s_SMALLINT), (.ref s_INTEGER), (.ref s_BIGINT), .null, .null, .null, .null, .null, .null, .null, .null, .null, .null, .null] .null := Arv.set Ar21 q21 S21 M21 H21 G21 rfl W22 4 rfl (Nat.le_of_ble_eq_true rfl)
  have r23 : own_R p e below _ _ T22 (mkF m 37 #[.val (.int pw), .val (.int pp), .unset, .unset, .unset, .unset, .unset, .unset] [(.int (5 : Int32)), (.ref b2), (.ref b2)]) := r22.trans fun z_ kt => by
    refine XS.dup X22.here hx rfl (hb hby at_35) rfl rfl ?_
    refine XS.iconst X22.here hx rfl (hb hby at_36) ?_
    exact kt
  obtain ⟨T24, X24, e24, st24⟩ := getS2 X22 hx hZ hown (host := "") (Or.inl (hw _ (own_g (i := 14) rfl))) Via.refl e22 (S_ColumnType_Kind_BOOLEAN.ext O22.2) (g := (mkF m 37 #[.val (.int pw), .val (.int pp), .unset, .unset, .unset, .unset, .unset, .unset] [(.int (5 : Int32)), (.ref b2), (.ref b2)])) rfl (hb hby at_37)
  have r24 : own_R p e below _ _ T24 (mkF m 40 #[.val (.int pw), .val (.int pp), .unset, .unset, .unset, .unset, .unset, .unset] [(.ref s_BOOLEAN), (.int (5 : Int32)), (.ref b2), (.ref b2)]) := r23.trans fun z_ kt => st24 _ kt
  obtain ⟨cl25, Ar25, q25, S25, M25, H25, G25⟩ := id V22
  have hin25 : ¬ ((5 : Int32) < 0 ∨ cl25.slots.size ≤ ((5 : Int32)).toNatClampNeg) := inb_of S25 ⟨by decide, by decide⟩
  obtain ⟨T26, h26, X26, e26, W26, st26⟩ := stR X24 hx hZ e24 Ar25 (j := (5 : Int32)) hin25 rfl (Sto.ofV Ar25 q25 Ov2 (Ins.self (OE_s_BOOLEAN.ext O22.2))) (g := (mkF m 40 #[.val (.int pw), .val (.int pp), .unset, .unset, .unset, .unset, .unset, .unset] [(.ref s_BOOLEAN), (.int (5 : Int32)), (.ref b2), (.ref b2)])) rfl rfl (hb hby at_40)
  have r26 : own_R p e below _ _ T26 (mkF m 41 #[.val (.int pw), .val (.int pp), .unset, .unset, .unset, .unset, .unset, .unset] [(.ref b2)]) := r24.trans fun z_ kt => st26 _ kt
  have N26 := Fr.snoc X26 N22 g_b2
  have O26 := O22.wr W26 g_b2
  have V26 : Arv Z h26 b2 k2 (.object "com/example/blindern/blindern/mapping/ColumnType$Kind") (16 : Int32) [(.ref s_VARCHAR), (.ref s_CHAR), (.ref s_SMALLINT), (.ref s_INTEGER), (.ref s_BIGINT), (.ref s_BOOLEAN), .null, .null, .null, .null, .null, .null, .null, .null, .null, .null] .null := Arv.set Ar25 q25 S25 M25 H25 G25 rfl W26 5 rfl (Nat.le_of_ble_eq_true rfl)
  have r27 : own_R p e below _ _ T26 (mkF m 44 #[.val (.int pw), .val (.int pp), .unset, .unset, .unset, .unset, .unset, .unset] [(.int (6 : Int32)), (.ref b2), (.ref b2)]) := r26.trans fun z_ kt => by
    refine XS.dup X26.here hx rfl (hb hby at_41) rfl rfl ?_
    refine XS.bipush X26.here hx rfl (hb hby at_42) ?_
    exact kt
  obtain ⟨T28, X28, e28, st28⟩ := getS2 X26 hx hZ hown (host := "") (Or.inl (hw _ (own_g (i := 16) rfl))) Via.refl e26 (S_ColumnType_Kind_REAL.ext O26.2) (g := (mkF m 44 #[.val (.int pw), .val (.int pp), .unset, .unset, .unset, .unset, .unset, .unset] [(.int (6 : Int32)), (.ref b2), (.ref b2)])) rfl (hb hby at_44)
  have r28 : own_R p e below _ _ T28 (mkF m 47 #[.val (.int pw), .val (.int pp), .unset, .unset, .unset, .unset, .unset, .unset] [(.ref s_REAL), (.int (6 : Int32)), (.ref b2), (.ref b2)]) := r27.trans fun z_ kt => st28 _ kt
  obtain ⟨cl29, Ar29, q29, S29, M29, H29, G29⟩ := id V26
  have hin29 : ¬ ((6 : Int32) < 0 ∨ cl29.slots.size ≤ ((6 : Int32)).toNatClampNeg) := inb_of S29 ⟨by decide, by decide⟩
  obtain ⟨T30, h30, X30, e30, W30, st30⟩ := stR X28 hx hZ e28 Ar29 (j := (6 : Int32)) hin29 rfl (Sto.ofV Ar29 q29 Ov2 (Ins.self (OE_s_REAL.ext O26.2))) (g := (mkF m 47 #[.val (.int pw), .val (.int pp), .unset, .unset, .unset, .unset, .unset, .unset] [(.ref s_REAL), (.int (6 : Int32)), (.ref b2), (.ref b2)])) rfl rfl (hb hby at_47)
  have r30 : own_R p e below _ _ T30 (mkF m 48 #[.val (.int pw), .val (.int pp), .unset, .unset, .unset, .unset, .unset, .unset] [(.ref b2)]) := r28.trans fun z_ kt => st30 _ kt
  have N30 := Fr.snoc X30 N26 g_b2
  have O30 := O26.wr W30 g_b2
  have V30 : Arv Z h30 b2 k2 (.object "com/example/blindern/blindern/mapping/ColumnType$Kind") (16 : Int32) [(.ref s_VARCHAR), (.ref s_CHAR), (.ref s_SMALLINT), (.ref s_INTEGER), (.ref s_BIGINT), (.ref s_BOOLEAN), (.ref s_REAL), .null, .null, .null, .null, .null, .null, .null, .null, .null] .null := Arv.set Ar29 q29 S29 M29 H29 G29 rfl W30 6 rfl (Nat.le_of_ble_eq_true rfl)
  have r31 : own_R p e below _ _ T30 (mkF m 51 #[.val (.int pw), .val (.int pp), .unset, .unset, .unset, .unset, .unset, .unset] [(.int (7 : Int32)), (.ref b2), (.ref b2)]) := r30.trans fun z_ kt => by
    refine XS.dup X30.here hx rfl (hb hby at_48) rfl rfl ?_
    refine XS.bipush X30.here hx rfl (hb hby at_49) ?_
    exact kt
  obtain ⟨T32, X32, e32, st32⟩ := getS2 X30 hx hZ hown (host := "") (Or.inl (hw _ (own_g (i := 18) rfl))) Via.refl e30 (S_ColumnType_Kind_DOUBLE.ext O30.2) (g := (mkF m 51 #[.val (.int pw), .val (.int pp), .unset, .unset, .unset, .unset, .unset, .unset] [(.int (7 : Int32)), (.ref b2), (.ref b2)])) rfl (hb hby at_51)
  have r32 : own_R p e below _ _ T32 (mkF m 54 #[.val (.int pw), .val (.int pp), .unset, .unset, .unset, .unset, .unset, .unset] [(.ref s_DOUBLE), (.int (7 : Int32)), (.ref b2), (.ref b2)]) := r31.trans fun z_ kt => st32 _ kt
  obtain ⟨cl33, Ar33, q33, S33, M33, H33, G33⟩ := id V30
  have hin33 : ¬ ((7 : Int32) < 0 ∨ cl33.slots.size ≤ ((7 : Int32)).toNatClampNeg) := inb_of S33 ⟨by decide, by decide⟩
  obtain ⟨T34, h34, X34, e34, W34, st34⟩ := stR X32 hx hZ e32 Ar33 (j := (7 : Int32)) hin33 rfl (Sto.ofV Ar33 q33 Ov2 (Ins.self (OE_s_DOUBLE.ext O30.2))) (g := (mkF m 54 #[.val (.int pw), .val (.int pp), .unset, .unset, .unset, .unset, .unset, .unset] [(.ref s_DOUBLE), (.int (7 : Int32)), (.ref b2), (.ref b2)])) rfl rfl (hb hby at_54)
  have r34 : own_R p e below _ _ T34 (mkF m 55 #[.val (.int pw), .val (.int pp), .unset, .unset, .unset, .unset, .unset, .unset] [(.ref b2)]) := r32.trans fun z_ kt => st34 _ kt
  have N34 := Fr.snoc X34 N30 g_b2
  have O34 := O30.wr W34 g_b2
  have V34 : Arv Z h34 b2 k2 (.object "com/example/blindern/blindern/mapping/ColumnType$Kind") (16 : Int32) [(.ref s_VARCHAR), (.ref s_CHAR), (.ref s_SMALLINT), (.ref s_INTEGER), (.ref s_BIGINT), (.ref s_BOOLEAN), (.ref s_REAL), (.ref s_DOUBLE), .null, .null, .null, .null, .null, .null, .null, .null] .null := Arv.set Ar33 q33 S33 M33 H33 G33 rfl W34 7 rfl (Nat.le_of_ble_eq_true rfl)
  have r35 : own_R p e below _ _ T34 (mkF m 58 #[.val (.int pw), .val (.int pp), .unset, .unset, .unset, .unset, .unset, .unset] [(.int (8 : Int32)), (.ref b2), (.ref b2)]) := r34.trans fun z_ kt => by
    refine XS.dup X34.here hx rfl (hb hby at_55) rfl rfl ?_
    refine XS.bipush X34.here hx rfl (hb hby at_56) ?_
    exact kt
  obtain ⟨T36, X36, e36, st36⟩ := getS2 X34 hx hZ hown (host := "") (Or.inl (hw _ (own_g (i := 20) rfl))) Via.refl e34 (S_ColumnType_Kind_NUMERIC.ext O34.2) (g := (mkF m 58 #[.val (.int pw), .val (.int pp), .unset, .unset, .unset, .unset, .unset, .unset] [(.int (8 : Int32)), (.ref b2), (.ref b2)])) rfl (hb hby at_58)
  have r36 : own_R p e below _ _ T36 (mkF m 61 #[.val (.int pw), .val (.int pp), .unset, .unset, .unset, .unset, .unset, .unset] [(.ref s_NUMERIC), (.int (8 : Int32)), (.ref b2), (.ref b2)]) := r35.trans fun z_ kt => st36 _ kt
  obtain ⟨cl37, Ar37, q37, S37, M37, H37, G37⟩ := id V34
  have hin37 : ¬ ((8 : Int32) < 0 ∨ cl37.slots.size ≤ ((8 : Int32)).toNatClampNeg) := inb_of S37 ⟨by decide, by decide⟩
  obtain ⟨T38, h38, X38, e38, W38, st38⟩ := stR X36 hx hZ e36 Ar37 (j := (8 : Int32)) hin37 rfl (Sto.ofV Ar37 q37 Ov2 (Ins.self (OE_s_NUMERIC.ext O34.2))) (g := (mkF m 61 #[.val (.int pw), .val (.int pp), .unset, .unset, .unset, .unset, .unset, .unset] [(.ref s_NUMERIC), (.int (8 : Int32)), (.ref b2), (.ref b2)])) rfl rfl (hb hby at_61)
  have r38 : own_R p e below _ _ T38 (mkF m 62 #[.val (.int pw), .val (.int pp), .unset, .unset, .unset, .unset, .unset, .unset] [(.ref b2)]) := r36.trans fun z_ kt => st38 _ kt
  have N38 := Fr.snoc X38 N34 g_b2
  have O38 := O34.wr W38 g_b2
  have V38 : Arv Z h38 b2 k2 (.object "com/example/blindern/blindern/mapping/ColumnType$Kind") (16 : Int32) [(.ref s_VARCHAR), (.ref s_CHAR), (.ref s_SMALLINT), (.ref s_INTEGER), (.ref s_BIGINT), (.ref s_BOOLEAN), (.ref s_REAL), (.ref s_DOUBLE), (.ref s_NUMERIC), .null, .null, .null, .null, .null, .null, .null] .null := Arv.set Ar37 q37 S37 M37 H37 G37 rfl W38 8 rfl (Nat.le_of_ble_eq_true rfl)
  have r39 : own_R p e below _ _ T38 (mkF m 65 #[.val (.int pw), .val (.int pp), .unset, .unset, .unset, .unset, .unset, .unset] [(.int (9 : Int32)), (.ref b2), (.ref b2)]) := r38.trans fun z_ kt => by
    refine XS.dup X38.here hx rfl (hb hby at_62) rfl rfl ?_
    refine XS.bipush X38.here hx rfl (hb hby at_63) ?_
    exact kt
  obtain ⟨T40, X40, e40, st40⟩ := getS2 X38 hx hZ hown (host := "") (Or.inl (hw _ (own_g (i := 22) rfl))) Via.refl e38 (S_ColumnType_Kind_DATE.ext O38.2) (g := (mkF m 65 #[.val (.int pw), .val (.int pp), .unset, .unset, .unset, .unset, .unset, .unset] [(.int (9 : Int32)), (.ref b2), (.ref b2)])) rfl (hb hby at_65)
  have r40 : own_R p e below _ _ T40 (mkF m 68 #[.val (.int pw), .val (.int pp), .unset, .unset, .unset, .unset, .unset, .unset] [(.ref s_DATE), (.int (9 : Int32)), (.ref b2), (.ref b2)]) := r39.trans fun z_ kt => st40 _ kt
  obtain ⟨cl41, Ar41, q41, S41, M41, H41, G41⟩ := id V38
  have hin41 : ¬ ((9 : Int32) < 0 ∨ cl41.slots.size ≤ ((9 : Int32)).toNatClampNeg) := inb_of S41 ⟨by decide, by decide⟩
  obtain ⟨T42, h42, X42, e42, W42, st42⟩ := stR X40 hx hZ e40 Ar41 (j := (9 : Int32)) hin41 rfl (Sto.ofV Ar41 q41 Ov2 (Ins.self (OE_s_DATE.ext O38.2))) (g := (mkF m 68 #[.val (.int pw), .val (.int pp), .unset, .unset, .unset, .unset, .unset, .unset] [(.ref s_DATE), (.int (9 : Int32)), (.ref b2), (.ref b2)])) rfl rfl (hb hby at_68)
  have r42 : own_R p e below _ _ T42 (mkF m 69 #[.val (.int pw), .val (.int pp), .unset, .unset, .unset, .unset, .unset, .unset] [(.ref b2)]) := r40.trans fun z_ kt => st42 _ kt
  have N42 := Fr.snoc X42 N38 g_b2
  have O42 := O38.wr W42 g_b2
  have V42 : Arv Z h42 b2 k2 (.object "com/example/blindern/blindern/mapping/ColumnType$Kind") (16 : Int32) [(.ref s_VARCHAR), (.ref s_CHAR), (.ref s_SMALLINT), (.ref s_INTEGER), (.ref s_BIGINT), (.ref s_BOOLEAN), (.ref s_REAL), (.ref s_DOUBLE), (.ref s_NUMERIC), (.ref s_DATE), .null, .null, .null, .null, .null, .null] .null := Arv.set Ar41 q41 S41 M41 H41 G41 rfl W42 9 rfl (Nat.le_of_ble_eq_true rfl)
  have r43 : own_R p e below _ _ T42 (mkF m 72 #[.val (.int pw), .val (.int pp), .unset, .unset, .unset, .unset, .unset, .unset] [(.int (10 : Int32)), (.ref b2), (.ref b2)]) := r42.trans fun z_ kt => by
    refine XS.dup X42.here hx rfl (hb hby at_69) rfl rfl ?_
    refine XS.bipush X42.here hx rfl (hb hby at_70) ?_
    exact kt
  obtain ⟨T44, X44, e44, st44⟩ := getS2 X42 hx hZ hown (host := "") (Or.inl (hw _ (own_g (i := 24) rfl))) Via.refl e42 (S_ColumnType_Kind_TIME.ext O42.2) (g := (mkF m 72 #[.val (.int pw), .val (.int pp), .unset, .unset, .unset, .unset, .unset, .unset] [(.int (10 : Int32)), (.ref b2), (.ref b2)])) rfl (hb hby at_72)
  have r44 : own_R p e below _ _ T44 (mkF m 75 #[.val (.int pw), .val (.int pp), .unset, .unset, .unset, .unset, .unset, .unset] [(.ref s_TIME), (.int (10 : Int32)), (.ref b2), (.ref b2)]) := r43.trans fun z_ kt => st44 _ kt
  obtain ⟨cl45, Ar45, q45, S45, M45, H45, G45⟩ := id V42
  have hin45 : ¬ ((10 : Int32) < 0 ∨ cl45.slots.size ≤ ((10 : Int32)).toNatClampNeg) := inb_of S45 ⟨by decide, by decide⟩
  obtain ⟨T46, h46, X46, e46, W46, st46⟩ := stR X44 hx hZ e44 Ar45 (j := (10 : Int32)) hin45 rfl (Sto.ofV Ar45 q45 Ov2 (Ins.self (OE_s_TIME.ext O42.2))) (g := (mkF m 75 #[.val (.int pw), .val (.int pp), .unset, .unset, .unset, .unset, .unset, .unset] [(.ref s_TIME), (.int (10 : Int32)), (.ref b2), (.ref b2)])) rfl rfl (hb hby at_75)
  have r46 : own_R p e below _ _ T46 (mkF m 76 #[.val (.int pw), .val (.int pp), .unset, .unset, .unset, .unset, .unset, .unset] [(.ref b2)]) := r44.trans fun z_ kt => st46 _ kt
  have N46 := Fr.snoc X46 N42 g_b2
  have O46 := O42.wr W46 g_b2
  have V46 : Arv Z h46 b2 k2 (.object "com/example/blindern/blindern/mapping/ColumnType$Kind") (16 : Int32) [(.ref s_VARCHAR), (.ref s_CHAR), (.ref s_SMALLINT), (.ref s_INTEGER), (.ref s_BIGINT), (.ref s_BOOLEAN), (.ref s_REAL), (.ref s_DOUBLE), (.ref s_NUMERIC), (.ref s_DATE), (.ref s_TIME), .null, .null, .null, .null, .null] .null := Arv.set Ar45 q45 S45 M45 H45 G45 rfl W46 10 rfl (Nat.le_of_ble_eq_true rfl)
  have r47 : own_R p e below _ _ T46 (mkF m 79 #[.val (.int pw), .val (.int pp), .unset, .unset, .unset, .unset, .unset, .unset] [(.int (11 : Int32)), (.ref b2), (.ref b2)]) := r46.trans fun z_ kt => by
    refine XS.dup X46.here hx rfl (hb hby at_76) rfl rfl ?_
    refine XS.bipush X46.here hx rfl (hb hby at_77) ?_
    exact kt
  obtain ⟨T48, X48, e48, st48⟩ := getS2 X46 hx hZ hown (host := "") (Or.inl (hw _ (own_g (i := 26) rfl))) Via.refl e46 (S_ColumnType_Kind_TIMESTAMP.ext O46.2) (g := (mkF m 79 #[.val (.int pw), .val (.int pp), .unset, .unset, .unset, .unset, .unset, .unset] [(.int (11 : Int32)), (.ref b2), (.ref b2)])) rfl (hb hby at_79)
  have r48 : own_R p e below _ _ T48 (mkF m 82 #[.val (.int pw), .val (.int pp), .unset, .unset, .unset, .unset, .unset, .unset] [(.ref s_TIMESTAMP), (.int (11 : Int32)), (.ref b2), (.ref b2)]) := r47.trans fun z_ kt => st48 _ kt
  obtain ⟨cl49, Ar49, q49, S49, M49, H49, G49⟩ := id V46
  have hin49 : ¬ ((11 : Int32) < 0 ∨ cl49.slots.size ≤ ((11 : Int32)).toNatClampNeg) := inb_of S49 ⟨by decide, by decide⟩
  obtain ⟨T50, h50, X50, e50, W50, st50⟩ := stR X48 hx hZ e48 Ar49 (j := (11 : Int32)) hin49 rfl (Sto.ofV Ar49 q49 Ov2 (Ins.self (OE_s_TIMESTAMP.ext O46.2))) (g := (mkF m 82 #[.val (.int pw), .val (.int pp), .unset, .unset, .unset, .unset, .unset, .unset] [(.ref s_TIMESTAMP), (.int (11 : Int32)), (.ref b2), (.ref b2)])) rfl rfl (hb hby at_82)
  have r50 : own_R p e below _ _ T50 (mkF m 83 #[.val (.int pw), .val (.int pp), .unset, .unset, .unset, .unset, .unset, .unset] [(.ref b2)]) := r48.trans fun z_ kt => st50 _ kt
  have N50 := Fr.snoc X50 N46 g_b2
  have O50 := O46.wr W50 g_b2
  have V50 : Arv Z h50 b2 k2 (.object "com/example/blindern/blindern/mapping/ColumnType$Kind") (16 : Int32) [(.ref s_VARCHAR), (.ref s_CHAR), (.ref s_SMALLINT), (.ref s_INTEGER), (.ref s_BIGINT), (.ref s_BOOLEAN), (.ref s_REAL), (.ref s_DOUBLE), (.ref s_NUMERIC), (.ref s_DATE), (.ref s_TIME), (.ref s_TIMESTAMP), .null, .null, .null, .null] .null := Arv.set Ar49 q49 S49 M49 H49 G49 rfl W50 11 rfl (Nat.le_of_ble_eq_true rfl)
  have r51 : own_R p e below _ _ T50 (mkF m 86 #[.val (.int pw), .val (.int pp), .unset, .unset, .unset, .unset, .unset, .unset] [(.int (12 : Int32)), (.ref b2), (.ref b2)]) := r50.trans fun z_ kt => by
    refine XS.dup X50.here hx rfl (hb hby at_83) rfl rfl ?_
    refine XS.bipush X50.here hx rfl (hb hby at_84) ?_
    exact kt
  obtain ⟨T52, X52, e52, st52⟩ := getS2 X50 hx hZ hown (host := "") (Or.inl (hw _ (own_g (i := 28) rfl))) Via.refl e50 (S_ColumnType_Kind_TIMESTAMP_TZ.ext O50.2) (g := (mkF m 86 #[.val (.int pw), .val (.int pp), .unset, .unset, .unset, .unset, .unset, .unset] [(.int (12 : Int32)), (.ref b2), (.ref b2)])) rfl (hb hby at_86)
  have r52 : own_R p e below _ _ T52 (mkF m 89 #[.val (.int pw), .val (.int pp), .unset, .unset, .unset, .unset, .unset, .unset] [(.ref s_TIMESTAMP_TZ), (.int (12 : Int32)), (.ref b2), (.ref b2)]) := r51.trans fun z_ kt => st52 _ kt
  obtain ⟨cl53, Ar53, q53, S53, M53, H53, G53⟩ := id V50
  have hin53 : ¬ ((12 : Int32) < 0 ∨ cl53.slots.size ≤ ((12 : Int32)).toNatClampNeg) := inb_of S53 ⟨by decide, by decide⟩
  obtain ⟨T54, h54, X54, e54, W54, st54⟩ := stR X52 hx hZ e52 Ar53 (j := (12 : Int32)) hin53 rfl (Sto.ofV Ar53 q53 Ov2 (Ins.self (OE_s_TIMESTAMP_TZ.ext O50.2))) (g := (mkF m 89 #[.val (.int pw), .val (.int pp), .unset, .unset, .unset, .unset, .unset, .unset] [(.ref s_TIMESTAMP_TZ), (.int (12 : Int32)), (.ref b2), (.ref b2)])) rfl rfl (hb hby at_89)
  have r54 : own_R p e below _ _ T54 (mkF m 90 #[.val (.int pw), .val (.int pp), .unset, .unset, .unset, .unset, .unset, .unset] [(.ref b2)]) := r52.trans fun z_ kt => st54 _ kt
  have N54 := Fr.snoc X54 N50 g_b2
  have O54 := O50.wr W54 g_b2
  have V54 : Arv Z h54 b2 k2 (.object "com/example/blindern/blindern/mapping/ColumnType$Kind") (16 : Int32) [(.ref s_VARCHAR), (.ref s_CHAR), (.ref s_SMALLINT), (.ref s_INTEGER), (.ref s_BIGINT), (.ref s_BOOLEAN), (.ref s_REAL), (.ref s_DOUBLE), (.ref s_NUMERIC), (.ref s_DATE), (.ref s_TIME), (.ref s_TIMESTAMP), (.ref s_TIMESTAMP_TZ), .null, .null, .null] .null := Arv.set Ar53 q53 S53 M53 H53 G53 rfl W54 12 rfl (Nat.le_of_ble_eq_true rfl)
  have r55 : own_R p e below _ _ T54 (mkF m 93 #[.val (.int pw), .val (.int pp), .unset, .unset, .unset, .unset, .unset, .unset] [(.int (13 : Int32)), (.ref b2), (.ref b2)]) := r54.trans fun z_ kt => by
    refine XS.dup X54.here hx rfl (hb hby at_90) rfl rfl ?_
    refine XS.bipush X54.here hx rfl (hb hby at_91) ?_
    exact kt
  obtain ⟨T56, X56, e56, st56⟩ := getS2 X54 hx hZ hown (host := "") (Or.inl (hw _ (own_g (i := 30) rfl))) Via.refl e54 (S_ColumnType_Kind_ENUM_NAME.ext O54.2) (g := (mkF m 93 #[.val (.int pw), .val (.int pp), .unset, .unset, .unset, .unset, .unset, .unset] [(.int (13 : Int32)), (.ref b2), (.ref b2)])) rfl (hb hby at_93)
  have r56 : own_R p e below _ _ T56 (mkF m 96 #[.val (.int pw), .val (.int pp), .unset, .unset, .unset, .unset, .unset, .unset] [(.ref s_ENUM_NAME), (.int (13 : Int32)), (.ref b2), (.ref b2)]) := r55.trans fun z_ kt => st56 _ kt
  obtain ⟨cl57, Ar57, q57, S57, M57, H57, G57⟩ := id V54
  have hin57 : ¬ ((13 : Int32) < 0 ∨ cl57.slots.size ≤ ((13 : Int32)).toNatClampNeg) := inb_of S57 ⟨by decide, by decide⟩
  obtain ⟨T58, h58, X58, e58, W58, st58⟩ := stR X56 hx hZ e56 Ar57 (j := (13 : Int32)) hin57 rfl (Sto.ofV Ar57 q57 Ov2 (Ins.self (OE_s_ENUM_NAME.ext O54.2))) (g := (mkF m 96 #[.val (.int pw), .val (.int pp), .unset, .unset, .unset, .unset, .unset, .unset] [(.ref s_ENUM_NAME), (.int (13 : Int32)), (.ref b2), (.ref b2)])) rfl rfl (hb hby at_96)
  have r58 : own_R p e below _ _ T58 (mkF m 97 #[.val (.int pw), .val (.int pp), .unset, .unset, .unset, .unset, .unset, .unset] [(.ref b2)]) := r56.trans fun z_ kt => st58 _ kt
  have N58 := Fr.snoc X58 N54 g_b2
  have O58 := O54.wr W58 g_b2
  have V58 : Arv Z h58 b2 k2 (.object "com/example/blindern/blindern/mapping/ColumnType$Kind") (16 : Int32) [(.ref s_VARCHAR), (.ref s_CHAR), (.ref s_SMALLINT), (.ref s_INTEGER), (.ref s_BIGINT), (.ref s_BOOLEAN), (.ref s_REAL), (.ref s_DOUBLE), (.ref s_NUMERIC), (.ref s_DATE), (.ref s_TIME), (.ref s_TIMESTAMP), (.ref s_TIMESTAMP_TZ), (.ref s_ENUM_NAME), .null, .null] .null := Arv.set Ar57 q57 S57 M57 H57 G57 rfl W58 13 rfl (Nat.le_of_ble_eq_true rfl)
  have r59 : own_R p e below _ _ T58 (mkF m 100 #[.val (.int pw), .val (.int pp), .unset, .unset, .unset, .unset, .unset, .unset] [(.int (14 : Int32)), (.ref b2), (.ref b2)]) := r58.trans fun z_ kt => by
    refine XS.dup X58.here hx rfl (hb hby at_97) rfl rfl ?_
    refine XS.bipush X58.here hx rfl (hb hby at_98) ?_
    exact kt
  obtain ⟨T60, X60, e60, st60⟩ := getS2 X58 hx hZ hown (host := "") (Or.inl (hw _ (own_g (i := 32) rfl))) Via.refl e58 (S_ColumnType_Kind_ENUM_ORDINAL.ext O58.2) (g := (mkF m 100 #[.val (.int pw), .val (.int pp), .unset, .unset, .unset, .unset, .unset, .unset] [(.int (14 : Int32)), (.ref b2), (.ref b2)])) rfl (hb hby at_100)
  have r60 : own_R p e below _ _ T60 (mkF m 103 #[.val (.int pw), .val (.int pp), .unset, .unset, .unset, .unset, .unset, .unset] [(.ref s_ENUM_ORDINAL), (.int (14 : Int32)), (.ref b2), (.ref b2)]) := r59.trans fun z_ kt => st60 _ kt
  obtain ⟨cl61, Ar61, q61, S61, M61, H61, G61⟩ := id V58
  have hin61 : ¬ ((14 : Int32) < 0 ∨ cl61.slots.size ≤ ((14 : Int32)).toNatClampNeg) := inb_of S61 ⟨by decide, by decide⟩
  obtain ⟨T62, h62, X62, e62, W62, st62⟩ := stR X60 hx hZ e60 Ar61 (j := (14 : Int32)) hin61 rfl (Sto.ofV Ar61 q61 Ov2 (Ins.self (OE_s_ENUM_ORDINAL.ext O58.2))) (g := (mkF m 103 #[.val (.int pw), .val (.int pp), .unset, .unset, .unset, .unset, .unset, .unset] [(.ref s_ENUM_ORDINAL), (.int (14 : Int32)), (.ref b2), (.ref b2)])) rfl rfl (hb hby at_103)
  have r62 : own_R p e below _ _ T62 (mkF m 104 #[.val (.int pw), .val (.int pp), .unset, .unset, .unset, .unset, .unset, .unset] [(.ref b2)]) := r60.trans fun z_ kt => st62 _ kt
  have N62 := Fr.snoc X62 N58 g_b2
  have O62 := O58.wr W62 g_b2
  have V62 : Arv Z h62 b2 k2 (.object "com/example/blindern/blindern/mapping/ColumnType$Kind") (16 : Int32) [(.ref s_VARCHAR), (.ref s_CHAR), (.ref s_SMALLINT), (.ref s_INTEGER), (.ref s_BIGINT), (.ref s_BOOLEAN), (.ref s_REAL), (.ref s_DOUBLE), (.ref s_NUMERIC), (.ref s_DATE), (.ref s_TIME), (.ref s_TIMESTAMP), (.ref s_TIMESTAMP_TZ), (.ref s_ENUM_NAME), (.ref s_ENUM_ORDINAL), .null] .null := Arv.set Ar61 q61 S61 M61 H61 G61 rfl W62 14 rfl (Nat.le_of_ble_eq_true rfl)
  have r63 : own_R p e below _ _ T62 (mkF m 107 #[.val (.int pw), .val (.int pp), .unset, .unset, .unset, .unset, .unset, .unset] [(.int (15 : Int32)), (.ref b2), (.ref b2)]) := r62.trans fun z_ kt => by
    refine XS.dup X62.here hx rfl (hb hby at_104) rfl rfl ?_
    refine XS.bipush X62.here hx rfl (hb hby at_105) ?_
    exact kt
  obtain ⟨T64, X64, e64, st64⟩ := getS2 X62 hx hZ hown (host := "") (Or.inl (hw _ (own_g (i := 34) rfl))) Via.refl e62 (S_ColumnType_Kind_ENUM_VALUE.ext O62.2) (g := (mkF m 107 #[.val (.int pw), .val (.int pp), .unset, .unset, .unset, .unset, .unset, .unset] [(.int (15 : Int32)), (.ref b2), (.ref b2)])) rfl (hb hby at_107)
  have r64 : own_R p e below _ _ T64 (mkF m 110 #[.val (.int pw), .val (.int pp), .unset, .unset, .unset, .unset, .unset, .unset] [(.ref s_ENUM_VALUE), (.int (15 : Int32)), (.ref b2), (.ref b2)]) := r63.trans fun z_ kt => st64 _ kt
  obtain ⟨cl65, Ar65, q65, S65, M65, H65, G65⟩ := id V62
  have hin65 : ¬ ((15 : Int32) < 0 ∨ cl65.slots.size ≤ ((15 : Int32)).toNatClampNeg) := inb_of S65 ⟨by decide, by decide⟩
  obtain ⟨T66, h66, X66, e66, W66, st66⟩ := stR X64 hx hZ e64 Ar65 (j := (15 : Int32)) hin65 rfl (Sto.ofV Ar65 q65 Ov2 (Ins.self (OE_s_ENUM_VALUE.ext O62.2))) (g := (mkF m 110 #[.val (.int pw), .val (.int pp), .unset, .unset, .unset, .unset, .unset, .unset] [(.ref s_ENUM_VALUE), (.int (15 : Int32)), (.ref b2), (.ref b2)])) rfl rfl (hb hby at_110)
  have r66 : own_R p e below _ _ T66 (mkF m 111 #[.val (.int pw), .val (.int pp), .unset, .unset, .unset, .unset, .unset, .unset] [(.ref b2)]) := r64.trans fun z_ kt => st66 _ kt
  have N66 := Fr.snoc X66 N62 g_b2
  have O66 := O62.wr W66 g_b2
  have V66 : Arv Z h66 b2 k2 (.object "com/example/blindern/blindern/mapping/ColumnType$Kind") (16 : Int32) [(.ref s_VARCHAR), (.ref s_CHAR), (.ref s_SMALLINT), (.ref s_INTEGER), (.ref s_BIGINT), (.ref s_BOOLEAN), (.ref s_REAL), (.ref s_DOUBLE), (.ref s_NUMERIC), (.ref s_DATE), (.ref s_TIME), (.ref s_TIMESTAMP), (.ref s_TIMESTAMP_TZ), (.ref s_ENUM_NAME), (.ref s_ENUM_ORDINAL), (.ref s_ENUM_VALUE)] .null := Arv.set Ar65 q65 S65 M65 H65 G65 rfl W66 15 rfl (Nat.le_of_ble_eq_true rfl)
  have r67 : own_R p e below _ _ T66 (mkF m 117 #[.val (.int pw), .val (.int pp), .val (.ref b2), .val (.int (pw &&& (15 : Int32))), .unset, .unset, .unset, .unset] []) := r66.trans fun z_ kt => by
    refine XS.astoreN X66.here hx rfl (hb hby at_111) rfl rfl (l' := #[.val (.int pw), .val (.int pp), .val (.ref b2), .unset, .unset, .unset, .unset, .unset]) rfl ?_
    refine XS.iloadN X66.here hx rfl (hb hby at_112) rfl ?_
    refine XS.bipush X66.here hx rfl (hb hby at_113) ?_
    refine XS.iand X66.here hx rfl (hb hby at_115) rfl ?_
    refine XS.istoreN X66.here hx rfl (hb hby at_116) rfl (l' := #[.val (.int pw), .val (.int pp), .val (.ref b2), .val (.int (pw &&& (15 : Int32))), .unset, .unset, .unset, .unset]) rfl ?_
    exact kt
  obtain ⟨k, h_k⟩ : ∃ z, z = (pw &&& (15 : Int32)) := ⟨_, rfl⟩
  rw [← h_k] at r67
  rcases own_split h_k with rfl | rfl | rfl | rfl | rfl | rfl | rfl | rfl | rfl | rfl | rfl | rfl | rfl | rfl | rfl | rfl
  · skip
    have r69 : own_R p e below _ _ T66 (mkF m 119 #[.val (.int pw), .val (.int pp), .val (.ref b2), .val (.int (0 : Int32)), .unset, .unset, .unset, .unset] [(.int (0 : Int32)), (.ref b2)]) := r67.trans fun z_ kt => by
      refine XS.aloadN X66.here hx rfl (hb hby at_117) rfl rfl ?_
      refine XS.iloadN X66.here hx rfl (hb hby at_118) rfl ?_
      exact kt
    obtain ⟨cl68, Ar68, q68, S68, M68, H68, G68⟩ := id V66
    have hin68 : ¬ ((0 : Int32) < 0 ∨ cl68.slots.size ≤ ((0 : Int32)).toNatClampNeg) := inb_of S68 ⟨by decide, by decide⟩
    have hat68 : cl68.slots[((0 : Int32)).toNatClampNeg]? = some (.ref s_VARCHAR) := Has.at H68 hin68 rfl
    have r70 : own_R p e below _ _ T66 (mkF m 143 #[.val (.int pw), .val (.int pp), .val (.ref b2), .val (.int (0 : Int32)), .val (.ref s_VARCHAR), .val (.int (0 : Int32)), .unset, .unset] [(.ref s_VARCHAR)]) := r69.trans fun z_ kt => by
      refine X66.aaload hx (j := (0 : Int32)) (v := (.ref s_VARCHAR)) (by rw [e66]; exact Ar68.1) (State.isArrayOf_alike hZ.alike Ar68.2.1) rfl Ar68.2.2 hin68 hat68 (g := (mkF m 119 #[.val (.int pw), .val (.int pp), .val (.ref b2), .val (.int (0 : Int32)), .unset, .unset, .unset, .unset] [(.int (0 : Int32)), (.ref b2)])) rfl rfl (hb hby at_119) _ ?_
      refine XS.astore X66.here hx rfl (hb hby at_120) rfl rfl (l' := #[.val (.int pw), .val (.int pp), .val (.ref b2), .val (.int (0 : Int32)), .val (.ref s_VARCHAR), .unset, .unset, .unset]) rfl ?_
      refine XS.iloadN X66.here hx rfl (hb hby at_122) rfl ?_
      refine XS.bipush X66.here hx rfl (hb hby at_123) ?_
      refine XS.icmpYes X66.here hx rfl (pc0 := 125) (pc' := 138) rfl (hb hby at_125) rfl (tlt (by decide : (0 : Int32) < (10 : Int32))).1 (by decide) (by decide) ?_
      refine XS.iconst X66.here hx rfl (hb hby at_138) ?_
      refine XS.istore X66.here hx rfl (hb hby at_139) rfl (l' := #[.val (.int pw), .val (.int pp), .val (.ref b2), .val (.int (0 : Int32)), .val (.ref s_VARCHAR), .val (.int (0 : Int32)), .unset, .unset]) rfl ?_
      refine XS.aload X66.here hx rfl (hb hby at_141) rfl rfl ?_
      exact kt
    obtain ⟨cq71, kq71, q71a, q71b, q71c⟩ := isOf hZ e66 (OE_s_VARCHAR.ext O66.2)
    obtain ⟨_, _, ⟨T71, L71, cc71, n71⟩, -, X71, ⟨Lc71, hQ71, l71, y71, z71⟩, st71⟩ := X66.virtualBack hx (y := (⟨"com/example/blindern/blindern/mapping/ColumnType$Kind", "takesSecondPrecision", "()Z"⟩ : MethodName)) (z := (⟨"com/example/blindern/blindern/mapping/ColumnType$Kind", "takesSecondPrecision", "()Z"⟩ : MethodName)) hown (mvT hZ (hw _ (own_g (i := 36) rfl))) (mvT hZ (hw _ (own_g (i := 37) rfl))) (notFace_of_selects (args := #[]) (mvT hZ (hw _ (own_g (i := 39) rfl)))) (mvT hZ (hw _ (own_g (i := 39) rfl))) (mvT hZ (hw _ (own_g (i := 38) rfl))) (by decide) (backOf (W := 0) (rm_takes l Z a0 hw [] (s_VARCHAR) (s_TIME) (s_TIMESTAMP) (s_TIMESTAMP_TZ) ((0 : Int32)) h66 n0 O66 (S_ColumnType_Kind_TIME) (S_ColumnType_Kind_TIMESTAMP) (S_ColumnType_Kind_TIMESTAMP_TZ) (Or.inr (Or.inr (Or.inr ⟨Fld.ne OF_s_VARCHAR_ordinal OF_s_TIME_ordinal (by decide), Fld.ne OF_s_VARCHAR_ordinal OF_s_TIMESTAMP_ordinal (by decide), Fld.ne OF_s_VARCHAR_ordinal OF_s_TIMESTAMP_TZ_ordinal (by decide), rfl⟩)))) hZ (hw _ (own_g (i := 40) rfl)) (hw _ (own_g (i := 3) rfl)) (by decide) (by decide)) q71a q71c (g := (mkF m 143 #[.val (.int pw), .val (.int pp), .val (.ref b2), .val (.int (0 : Int32)), .val (.ref s_VARCHAR), .val (.int (0 : Int32)), .unset, .unset] [(.ref s_VARCHAR)])) rfl (by rw [hml]; rfl) (Steps.refl _) (argsL := []) (rest := []) (lenOf pd_3 rfl) rfl (by show 2 * 0 + _ ≤ _; exact Nat.le_of_eq rfl) (hb hby at_143) (fun _ _ => ⟨rfl, e66, (by decide : 1 + 0 ≤ _), (by decide : 16 + 0 ≤ _)⟩)
    dsimp only [Pt.U, Pt.locs, Pt.cells, Pt.slots] at X71 l71 y71 z71 st71 hQ71
    subst l71 y71 z71
    obtain ⟨rfl, Nq71, eq71⟩ := hQ71
    have N71 := Fr.app N66 Nq71
    have r71 : own_R p e below _ _ T71 (mkF m 146 #[.val (.int pw), .val (.int pp), .val (.ref b2), .val (.int (0 : Int32)), .val (.ref s_VARCHAR), .val (.int (0 : Int32)), .unset, .unset] [(.int (0 : Int32))]) := r70.trans fun z_ kt => st71.trans kt
    have e71 : T71.heap = h66 := eq71
    have r72 : own_R p e below _ _ T71 (mkF m 196 #[.val (.int pw), .val (.int pp), .val (.ref b2), .val (.int (0 : Int32)), .val (.ref s_VARCHAR), .val (.int (0 : Int32)), .val (.int (0 : Int32)), .unset] [(.int (1 : Int32))]) := r71.trans fun z_ kt => by
      refine XS.istore X71.here hx rfl (hb hby at_146) rfl (l' := #[.val (.int pw), .val (.int pp), .val (.ref b2), .val (.int (0 : Int32)), .val (.ref s_VARCHAR), .val (.int (0 : Int32)), .val (.int (0 : Int32)), .unset]) rfl ?_
      refine XS.iload X71.here hx rfl (hb hby at_148) rfl ?_
      refine XS.iload X71.here hx rfl (hb hby at_150) rfl ?_
      refine XS.icmpYes X71.here hx rfl (pc0 := 152) (pc' := 157) rfl (hb hby at_152) rfl (teq (by decide : (0 : Int32) = (0 : Int32))).1 (by decide) (by decide) ?_
      refine XS.iload X71.here hx rfl (hb hby at_157) rfl ?_
      refine XS.ifYes X71.here hx rfl (pc0 := 159) (pc' := 195) rfl (hb hby at_159) rfl ((if0 _ _).trans (teq (by decide : (0 : Int32) = (0 : Int32))).1) (by decide) (by decide) ?_
      refine XS.iconst X71.here hx rfl (hb hby at_195) ?_
      exact kt
    obtain ⟨fs_, hr_, hrun_, hended_, hW_, hsame_⟩ := X71.leave (v := some (.int (1 : Int32))) (fun h => by rw [Bd.returns] at h; cases h)
    refine ⟨_, _, pre0 _ (r72 _ ?_), hrun_, hended_, _, _, rfl, ?_, ⟨_, rfl⟩, hW_, hsame_.mono (by decide) (by decide)⟩
    · exact retN X71 hx (t := .boolean) Bd.returns (by simp) (hb hby at_196) hr_
    · show Q_law Z pw pp s_VARCHAR s_CHAR s_SMALLINT s_INTEGER s_BIGINT s_BOOLEAN s_REAL s_DOUBLE s_NUMERIC s_DATE s_TIME s_TIMESTAMP s_TIMESTAMP_TZ s_ENUM_NAME s_ENUM_ORDINAL s_ENUM_VALUE s_EL h0 n0 _ T71.heap _
      rw [e71]
      exact ⟨rfl, N71⟩
  · skip
    have r74 : own_R p e below _ _ T66 (mkF m 119 #[.val (.int pw), .val (.int pp), .val (.ref b2), .val (.int (1 : Int32)), .unset, .unset, .unset, .unset] [(.int (1 : Int32)), (.ref b2)]) := r67.trans fun z_ kt => by
      refine XS.aloadN X66.here hx rfl (hb hby at_117) rfl rfl ?_
      refine XS.iloadN X66.here hx rfl (hb hby at_118) rfl ?_
      exact kt
    obtain ⟨cl73, Ar73, q73, S73, M73, H73, G73⟩ := id V66
    have hin73 : ¬ ((1 : Int32) < 0 ∨ cl73.slots.size ≤ ((1 : Int32)).toNatClampNeg) := inb_of S73 ⟨by decide, by decide⟩
    have hat73 : cl73.slots[((1 : Int32)).toNatClampNeg]? = some (.ref s_CHAR) := Has.at H73 hin73 rfl
    have r75 : own_R p e below _ _ T66 (mkF m 143 #[.val (.int pw), .val (.int pp), .val (.ref b2), .val (.int (1 : Int32)), .val (.ref s_CHAR), .val (.int (0 : Int32)), .unset, .unset] [(.ref s_CHAR)]) := r74.trans fun z_ kt => by
      refine X66.aaload hx (j := (1 : Int32)) (v := (.ref s_CHAR)) (by rw [e66]; exact Ar73.1) (State.isArrayOf_alike hZ.alike Ar73.2.1) rfl Ar73.2.2 hin73 hat73 (g := (mkF m 119 #[.val (.int pw), .val (.int pp), .val (.ref b2), .val (.int (1 : Int32)), .unset, .unset, .unset, .unset] [(.int (1 : Int32)), (.ref b2)])) rfl rfl (hb hby at_119) _ ?_
      refine XS.astore X66.here hx rfl (hb hby at_120) rfl rfl (l' := #[.val (.int pw), .val (.int pp), .val (.ref b2), .val (.int (1 : Int32)), .val (.ref s_CHAR), .unset, .unset, .unset]) rfl ?_
      refine XS.iloadN X66.here hx rfl (hb hby at_122) rfl ?_
      refine XS.bipush X66.here hx rfl (hb hby at_123) ?_
      refine XS.icmpYes X66.here hx rfl (pc0 := 125) (pc' := 138) rfl (hb hby at_125) rfl (tlt (by decide : (1 : Int32) < (10 : Int32))).1 (by decide) (by decide) ?_
      refine XS.iconst X66.here hx rfl (hb hby at_138) ?_
      refine XS.istore X66.here hx rfl (hb hby at_139) rfl (l' := #[.val (.int pw), .val (.int pp), .val (.ref b2), .val (.int (1 : Int32)), .val (.ref s_CHAR), .val (.int (0 : Int32)), .unset, .unset]) rfl ?_
      refine XS.aload X66.here hx rfl (hb hby at_141) rfl rfl ?_
      exact kt
    obtain ⟨cq76, kq76, q76a, q76b, q76c⟩ := isOf hZ e66 (OE_s_CHAR.ext O66.2)
    obtain ⟨_, _, ⟨T76, L76, cc76, n76⟩, -, X76, ⟨Lc76, hQ76, l76, y76, z76⟩, st76⟩ := X66.virtualBack hx (y := (⟨"com/example/blindern/blindern/mapping/ColumnType$Kind", "takesSecondPrecision", "()Z"⟩ : MethodName)) (z := (⟨"com/example/blindern/blindern/mapping/ColumnType$Kind", "takesSecondPrecision", "()Z"⟩ : MethodName)) hown (mvT hZ (hw _ (own_g (i := 36) rfl))) (mvT hZ (hw _ (own_g (i := 37) rfl))) (notFace_of_selects (args := #[]) (mvT hZ (hw _ (own_g (i := 39) rfl)))) (mvT hZ (hw _ (own_g (i := 39) rfl))) (mvT hZ (hw _ (own_g (i := 38) rfl))) (by decide) (backOf (W := 0) (rm_takes l Z a0 hw [] (s_CHAR) (s_TIME) (s_TIMESTAMP) (s_TIMESTAMP_TZ) ((0 : Int32)) h66 n0 O66 (S_ColumnType_Kind_TIME) (S_ColumnType_Kind_TIMESTAMP) (S_ColumnType_Kind_TIMESTAMP_TZ) (Or.inr (Or.inr (Or.inr ⟨Fld.ne OF_s_CHAR_ordinal OF_s_TIME_ordinal (by decide), Fld.ne OF_s_CHAR_ordinal OF_s_TIMESTAMP_ordinal (by decide), Fld.ne OF_s_CHAR_ordinal OF_s_TIMESTAMP_TZ_ordinal (by decide), rfl⟩)))) hZ (hw _ (own_g (i := 40) rfl)) (hw _ (own_g (i := 3) rfl)) (by decide) (by decide)) q76a q76c (g := (mkF m 143 #[.val (.int pw), .val (.int pp), .val (.ref b2), .val (.int (1 : Int32)), .val (.ref s_CHAR), .val (.int (0 : Int32)), .unset, .unset] [(.ref s_CHAR)])) rfl (by rw [hml]; rfl) (Steps.refl _) (argsL := []) (rest := []) (lenOf pd_3 rfl) rfl (by show 2 * 0 + _ ≤ _; exact Nat.le_of_eq rfl) (hb hby at_143) (fun _ _ => ⟨rfl, e66, (by decide : 1 + 0 ≤ _), (by decide : 16 + 0 ≤ _)⟩)
    dsimp only [Pt.U, Pt.locs, Pt.cells, Pt.slots] at X76 l76 y76 z76 st76 hQ76
    subst l76 y76 z76
    obtain ⟨rfl, Nq76, eq76⟩ := hQ76
    have N76 := Fr.app N66 Nq76
    have r76 : own_R p e below _ _ T76 (mkF m 146 #[.val (.int pw), .val (.int pp), .val (.ref b2), .val (.int (1 : Int32)), .val (.ref s_CHAR), .val (.int (0 : Int32)), .unset, .unset] [(.int (0 : Int32))]) := r75.trans fun z_ kt => st76.trans kt
    have e76 : T76.heap = h66 := eq76
    have r77 : own_R p e below _ _ T76 (mkF m 196 #[.val (.int pw), .val (.int pp), .val (.ref b2), .val (.int (1 : Int32)), .val (.ref s_CHAR), .val (.int (0 : Int32)), .val (.int (0 : Int32)), .unset] [(.int (1 : Int32))]) := r76.trans fun z_ kt => by
      refine XS.istore X76.here hx rfl (hb hby at_146) rfl (l' := #[.val (.int pw), .val (.int pp), .val (.ref b2), .val (.int (1 : Int32)), .val (.ref s_CHAR), .val (.int (0 : Int32)), .val (.int (0 : Int32)), .unset]) rfl ?_
      refine XS.iload X76.here hx rfl (hb hby at_148) rfl ?_
      refine XS.iload X76.here hx rfl (hb hby at_150) rfl ?_
      refine XS.icmpYes X76.here hx rfl (pc0 := 152) (pc' := 157) rfl (hb hby at_152) rfl (teq (by decide : (0 : Int32) = (0 : Int32))).1 (by decide) (by decide) ?_
      refine XS.iload X76.here hx rfl (hb hby at_157) rfl ?_
      refine XS.ifYes X76.here hx rfl (pc0 := 159) (pc' := 195) rfl (hb hby at_159) rfl ((if0 _ _).trans (teq (by decide : (0 : Int32) = (0 : Int32))).1) (by decide) (by decide) ?_
      refine XS.iconst X76.here hx rfl (hb hby at_195) ?_
      exact kt
    obtain ⟨fs_, hr_, hrun_, hended_, hW_, hsame_⟩ := X76.leave (v := some (.int (1 : Int32))) (fun h => by rw [Bd.returns] at h; cases h)
    refine ⟨_, _, pre0 _ (r77 _ ?_), hrun_, hended_, _, _, rfl, ?_, ⟨_, rfl⟩, hW_, hsame_.mono (by decide) (by decide)⟩
    · exact retN X76 hx (t := .boolean) Bd.returns (by simp) (hb hby at_196) hr_
    · show Q_law Z pw pp s_VARCHAR s_CHAR s_SMALLINT s_INTEGER s_BIGINT s_BOOLEAN s_REAL s_DOUBLE s_NUMERIC s_DATE s_TIME s_TIMESTAMP s_TIMESTAMP_TZ s_ENUM_NAME s_ENUM_ORDINAL s_ENUM_VALUE s_EL h0 n0 _ T76.heap _
      rw [e76]
      exact ⟨rfl, N76⟩
  · skip
    have r79 : own_R p e below _ _ T66 (mkF m 119 #[.val (.int pw), .val (.int pp), .val (.ref b2), .val (.int (2 : Int32)), .unset, .unset, .unset, .unset] [(.int (2 : Int32)), (.ref b2)]) := r67.trans fun z_ kt => by
      refine XS.aloadN X66.here hx rfl (hb hby at_117) rfl rfl ?_
      refine XS.iloadN X66.here hx rfl (hb hby at_118) rfl ?_
      exact kt
    obtain ⟨cl78, Ar78, q78, S78, M78, H78, G78⟩ := id V66
    have hin78 : ¬ ((2 : Int32) < 0 ∨ cl78.slots.size ≤ ((2 : Int32)).toNatClampNeg) := inb_of S78 ⟨by decide, by decide⟩
    have hat78 : cl78.slots[((2 : Int32)).toNatClampNeg]? = some (.ref s_SMALLINT) := Has.at H78 hin78 rfl
    have r80 : own_R p e below _ _ T66 (mkF m 143 #[.val (.int pw), .val (.int pp), .val (.ref b2), .val (.int (2 : Int32)), .val (.ref s_SMALLINT), .val (.int (0 : Int32)), .unset, .unset] [(.ref s_SMALLINT)]) := r79.trans fun z_ kt => by
      refine X66.aaload hx (j := (2 : Int32)) (v := (.ref s_SMALLINT)) (by rw [e66]; exact Ar78.1) (State.isArrayOf_alike hZ.alike Ar78.2.1) rfl Ar78.2.2 hin78 hat78 (g := (mkF m 119 #[.val (.int pw), .val (.int pp), .val (.ref b2), .val (.int (2 : Int32)), .unset, .unset, .unset, .unset] [(.int (2 : Int32)), (.ref b2)])) rfl rfl (hb hby at_119) _ ?_
      refine XS.astore X66.here hx rfl (hb hby at_120) rfl rfl (l' := #[.val (.int pw), .val (.int pp), .val (.ref b2), .val (.int (2 : Int32)), .val (.ref s_SMALLINT), .unset, .unset, .unset]) rfl ?_
      refine XS.iloadN X66.here hx rfl (hb hby at_122) rfl ?_
      refine XS.bipush X66.here hx rfl (hb hby at_123) ?_
      refine XS.icmpYes X66.here hx rfl (pc0 := 125) (pc' := 138) rfl (hb hby at_125) rfl (tlt (by decide : (2 : Int32) < (10 : Int32))).1 (by decide) (by decide) ?_
      refine XS.iconst X66.here hx rfl (hb hby at_138) ?_
      refine XS.istore X66.here hx rfl (hb hby at_139) rfl (l' := #[.val (.int pw), .val (.int pp), .val (.ref b2), .val (.int (2 : Int32)), .val (.ref s_SMALLINT), .val (.int (0 : Int32)), .unset, .unset]) rfl ?_
      refine XS.aload X66.here hx rfl (hb hby at_141) rfl rfl ?_
      exact kt
    obtain ⟨cq81, kq81, q81a, q81b, q81c⟩ := isOf hZ e66 (OE_s_SMALLINT.ext O66.2)
    obtain ⟨_, _, ⟨T81, L81, cc81, n81⟩, -, X81, ⟨Lc81, hQ81, l81, y81, z81⟩, st81⟩ := X66.virtualBack hx (y := (⟨"com/example/blindern/blindern/mapping/ColumnType$Kind", "takesSecondPrecision", "()Z"⟩ : MethodName)) (z := (⟨"com/example/blindern/blindern/mapping/ColumnType$Kind", "takesSecondPrecision", "()Z"⟩ : MethodName)) hown (mvT hZ (hw _ (own_g (i := 36) rfl))) (mvT hZ (hw _ (own_g (i := 37) rfl))) (notFace_of_selects (args := #[]) (mvT hZ (hw _ (own_g (i := 39) rfl)))) (mvT hZ (hw _ (own_g (i := 39) rfl))) (mvT hZ (hw _ (own_g (i := 38) rfl))) (by decide) (backOf (W := 0) (rm_takes l Z a0 hw [] (s_SMALLINT) (s_TIME) (s_TIMESTAMP) (s_TIMESTAMP_TZ) ((0 : Int32)) h66 n0 O66 (S_ColumnType_Kind_TIME) (S_ColumnType_Kind_TIMESTAMP) (S_ColumnType_Kind_TIMESTAMP_TZ) (Or.inr (Or.inr (Or.inr ⟨Fld.ne OF_s_SMALLINT_ordinal OF_s_TIME_ordinal (by decide), Fld.ne OF_s_SMALLINT_ordinal OF_s_TIMESTAMP_ordinal (by decide), Fld.ne OF_s_SMALLINT_ordinal OF_s_TIMESTAMP_TZ_ordinal (by decide), rfl⟩)))) hZ (hw _ (own_g (i := 40) rfl)) (hw _ (own_g (i := 3) rfl)) (by decide) (by decide)) q81a q81c (g := (mkF m 143 #[.val (.int pw), .val (.int pp), .val (.ref b2), .val (.int (2 : Int32)), .val (.ref s_SMALLINT), .val (.int (0 : Int32)), .unset, .unset] [(.ref s_SMALLINT)])) rfl (by rw [hml]; rfl) (Steps.refl _) (argsL := []) (rest := []) (lenOf pd_3 rfl) rfl (by show 2 * 0 + _ ≤ _; exact Nat.le_of_eq rfl) (hb hby at_143) (fun _ _ => ⟨rfl, e66, (by decide : 1 + 0 ≤ _), (by decide : 16 + 0 ≤ _)⟩)
    dsimp only [Pt.U, Pt.locs, Pt.cells, Pt.slots] at X81 l81 y81 z81 st81 hQ81
    subst l81 y81 z81
    obtain ⟨rfl, Nq81, eq81⟩ := hQ81
    have N81 := Fr.app N66 Nq81
    have r81 : own_R p e below _ _ T81 (mkF m 146 #[.val (.int pw), .val (.int pp), .val (.ref b2), .val (.int (2 : Int32)), .val (.ref s_SMALLINT), .val (.int (0 : Int32)), .unset, .unset] [(.int (0 : Int32))]) := r80.trans fun z_ kt => st81.trans kt
    have e81 : T81.heap = h66 := eq81
    have r82 : own_R p e below _ _ T81 (mkF m 196 #[.val (.int pw), .val (.int pp), .val (.ref b2), .val (.int (2 : Int32)), .val (.ref s_SMALLINT), .val (.int (0 : Int32)), .val (.int (0 : Int32)), .unset] [(.int (1 : Int32))]) := r81.trans fun z_ kt => by
      refine XS.istore X81.here hx rfl (hb hby at_146) rfl (l' := #[.val (.int pw), .val (.int pp), .val (.ref b2), .val (.int (2 : Int32)), .val (.ref s_SMALLINT), .val (.int (0 : Int32)), .val (.int (0 : Int32)), .unset]) rfl ?_
      refine XS.iload X81.here hx rfl (hb hby at_148) rfl ?_
      refine XS.iload X81.here hx rfl (hb hby at_150) rfl ?_
      refine XS.icmpYes X81.here hx rfl (pc0 := 152) (pc' := 157) rfl (hb hby at_152) rfl (teq (by decide : (0 : Int32) = (0 : Int32))).1 (by decide) (by decide) ?_
      refine XS.iload X81.here hx rfl (hb hby at_157) rfl ?_
      refine XS.ifYes X81.here hx rfl (pc0 := 159) (pc' := 195) rfl (hb hby at_159) rfl ((if0 _ _).trans (teq (by decide : (0 : Int32) = (0 : Int32))).1) (by decide) (by decide) ?_
      refine XS.iconst X81.here hx rfl (hb hby at_195) ?_
      exact kt
    obtain ⟨fs_, hr_, hrun_, hended_, hW_, hsame_⟩ := X81.leave (v := some (.int (1 : Int32))) (fun h => by rw [Bd.returns] at h; cases h)
    refine ⟨_, _, pre0 _ (r82 _ ?_), hrun_, hended_, _, _, rfl, ?_, ⟨_, rfl⟩, hW_, hsame_.mono (by decide) (by decide)⟩
    · exact retN X81 hx (t := .boolean) Bd.returns (by simp) (hb hby at_196) hr_
    · show Q_law Z pw pp s_VARCHAR s_CHAR s_SMALLINT s_INTEGER s_BIGINT s_BOOLEAN s_REAL s_DOUBLE s_NUMERIC s_DATE s_TIME s_TIMESTAMP s_TIMESTAMP_TZ s_ENUM_NAME s_ENUM_ORDINAL s_ENUM_VALUE s_EL h0 n0 _ T81.heap _
      rw [e81]
      exact ⟨rfl, N81⟩
  · skip
    have r84 : own_R p e below _ _ T66 (mkF m 119 #[.val (.int pw), .val (.int pp), .val (.ref b2), .val (.int (3 : Int32)), .unset, .unset, .unset, .unset] [(.int (3 : Int32)), (.ref b2)]) := r67.trans fun z_ kt => by
      refine XS.aloadN X66.here hx rfl (hb hby at_117) rfl rfl ?_
      refine XS.iloadN X66.here hx rfl (hb hby at_118) rfl ?_
      exact kt
    obtain ⟨cl83, Ar83, q83, S83, M83, H83, G83⟩ := id V66
    have hin83 : ¬ ((3 : Int32) < 0 ∨ cl83.slots.size ≤ ((3 : Int32)).toNatClampNeg) := inb_of S83 ⟨by decide, by decide⟩
    have hat83 : cl83.slots[((3 : Int32)).toNatClampNeg]? = some (.ref s_INTEGER) := Has.at H83 hin83 rfl
    have r85 : own_R p e below _ _ T66 (mkF m 143 #[.val (.int pw), .val (.int pp), .val (.ref b2), .val (.int (3 : Int32)), .val (.ref s_INTEGER), .val (.int (0 : Int32)), .unset, .unset] [(.ref s_INTEGER)]) := r84.trans fun z_ kt => by
      refine X66.aaload hx (j := (3 : Int32)) (v := (.ref s_INTEGER)) (by rw [e66]; exact Ar83.1) (State.isArrayOf_alike hZ.alike Ar83.2.1) rfl Ar83.2.2 hin83 hat83 (g := (mkF m 119 #[.val (.int pw), .val (.int pp), .val (.ref b2), .val (.int (3 : Int32)), .unset, .unset, .unset, .unset] [(.int (3 : Int32)), (.ref b2)])) rfl rfl (hb hby at_119) _ ?_
      refine XS.astore X66.here hx rfl (hb hby at_120) rfl rfl (l' := #[.val (.int pw), .val (.int pp), .val (.ref b2), .val (.int (3 : Int32)), .val (.ref s_INTEGER), .unset, .unset, .unset]) rfl ?_
      refine XS.iloadN X66.here hx rfl (hb hby at_122) rfl ?_
      refine XS.bipush X66.here hx rfl (hb hby at_123) ?_
      refine XS.icmpYes X66.here hx rfl (pc0 := 125) (pc' := 138) rfl (hb hby at_125) rfl (tlt (by decide : (3 : Int32) < (10 : Int32))).1 (by decide) (by decide) ?_
      refine XS.iconst X66.here hx rfl (hb hby at_138) ?_
      refine XS.istore X66.here hx rfl (hb hby at_139) rfl (l' := #[.val (.int pw), .val (.int pp), .val (.ref b2), .val (.int (3 : Int32)), .val (.ref s_INTEGER), .val (.int (0 : Int32)), .unset, .unset]) rfl ?_
      refine XS.aload X66.here hx rfl (hb hby at_141) rfl rfl ?_
      exact kt
    obtain ⟨cq86, kq86, q86a, q86b, q86c⟩ := isOf hZ e66 (OE_s_INTEGER.ext O66.2)
    obtain ⟨_, _, ⟨T86, L86, cc86, n86⟩, -, X86, ⟨Lc86, hQ86, l86, y86, z86⟩, st86⟩ := X66.virtualBack hx (y := (⟨"com/example/blindern/blindern/mapping/ColumnType$Kind", "takesSecondPrecision", "()Z"⟩ : MethodName)) (z := (⟨"com/example/blindern/blindern/mapping/ColumnType$Kind", "takesSecondPrecision", "()Z"⟩ : MethodName)) hown (mvT hZ (hw _ (own_g (i := 36) rfl))) (mvT hZ (hw _ (own_g (i := 37) rfl))) (notFace_of_selects (args := #[]) (mvT hZ (hw _ (own_g (i := 39) rfl)))) (mvT hZ (hw _ (own_g (i := 39) rfl))) (mvT hZ (hw _ (own_g (i := 38) rfl))) (by decide) (backOf (W := 0) (rm_takes l Z a0 hw [] (s_INTEGER) (s_TIME) (s_TIMESTAMP) (s_TIMESTAMP_TZ) ((0 : Int32)) h66 n0 O66 (S_ColumnType_Kind_TIME) (S_ColumnType_Kind_TIMESTAMP) (S_ColumnType_Kind_TIMESTAMP_TZ) (Or.inr (Or.inr (Or.inr ⟨Fld.ne OF_s_INTEGER_ordinal OF_s_TIME_ordinal (by decide), Fld.ne OF_s_INTEGER_ordinal OF_s_TIMESTAMP_ordinal (by decide), Fld.ne OF_s_INTEGER_ordinal OF_s_TIMESTAMP_TZ_ordinal (by decide), rfl⟩)))) hZ (hw _ (own_g (i := 40) rfl)) (hw _ (own_g (i := 3) rfl)) (by decide) (by decide)) q86a q86c (g := (mkF m 143 #[.val (.int pw), .val (.int pp), .val (.ref b2), .val (.int (3 : Int32)), .val (.ref s_INTEGER), .val (.int (0 : Int32)), .unset, .unset] [(.ref s_INTEGER)])) rfl (by rw [hml]; rfl) (Steps.refl _) (argsL := []) (rest := []) (lenOf pd_3 rfl) rfl (by show 2 * 0 + _ ≤ _; exact Nat.le_of_eq rfl) (hb hby at_143) (fun _ _ => ⟨rfl, e66, (by decide : 1 + 0 ≤ _), (by decide : 16 + 0 ≤ _)⟩)
    dsimp only [Pt.U, Pt.locs, Pt.cells, Pt.slots] at X86 l86 y86 z86 st86 hQ86
    subst l86 y86 z86
    obtain ⟨rfl, Nq86, eq86⟩ := hQ86
    have N86 := Fr.app N66 Nq86
    have r86 : own_R p e below _ _ T86 (mkF m 146 #[.val (.int pw), .val (.int pp), .val (.ref b2), .val (.int (3 : Int32)), .val (.ref s_INTEGER), .val (.int (0 : Int32)), .unset, .unset] [(.int (0 : Int32))]) := r85.trans fun z_ kt => st86.trans kt
    have e86 : T86.heap = h66 := eq86
    have r87 : own_R p e below _ _ T86 (mkF m 196 #[.val (.int pw), .val (.int pp), .val (.ref b2), .val (.int (3 : Int32)), .val (.ref s_INTEGER), .val (.int (0 : Int32)), .val (.int (0 : Int32)), .unset] [(.int (1 : Int32))]) := r86.trans fun z_ kt => by
      refine XS.istore X86.here hx rfl (hb hby at_146) rfl (l' := #[.val (.int pw), .val (.int pp), .val (.ref b2), .val (.int (3 : Int32)), .val (.ref s_INTEGER), .val (.int (0 : Int32)), .val (.int (0 : Int32)), .unset]) rfl ?_
      refine XS.iload X86.here hx rfl (hb hby at_148) rfl ?_
      refine XS.iload X86.here hx rfl (hb hby at_150) rfl ?_
      refine XS.icmpYes X86.here hx rfl (pc0 := 152) (pc' := 157) rfl (hb hby at_152) rfl (teq (by decide : (0 : Int32) = (0 : Int32))).1 (by decide) (by decide) ?_
      refine XS.iload X86.here hx rfl (hb hby at_157) rfl ?_
      refine XS.ifYes X86.here hx rfl (pc0 := 159) (pc' := 195) rfl (hb hby at_159) rfl ((if0 _ _).trans (teq (by decide : (0 : Int32) = (0 : Int32))).1) (by decide) (by decide) ?_
      refine XS.iconst X86.here hx rfl (hb hby at_195) ?_
      exact kt
    obtain ⟨fs_, hr_, hrun_, hended_, hW_, hsame_⟩ := X86.leave (v := some (.int (1 : Int32))) (fun h => by rw [Bd.returns] at h; cases h)
    refine ⟨_, _, pre0 _ (r87 _ ?_), hrun_, hended_, _, _, rfl, ?_, ⟨_, rfl⟩, hW_, hsame_.mono (by decide) (by decide)⟩
    · exact retN X86 hx (t := .boolean) Bd.returns (by simp) (hb hby at_196) hr_
    · show Q_law Z pw pp s_VARCHAR s_CHAR s_SMALLINT s_INTEGER s_BIGINT s_BOOLEAN s_REAL s_DOUBLE s_NUMERIC s_DATE s_TIME s_TIMESTAMP s_TIMESTAMP_TZ s_ENUM_NAME s_ENUM_ORDINAL s_ENUM_VALUE s_EL h0 n0 _ T86.heap _
      rw [e86]
      exact ⟨rfl, N86⟩
  · skip
    have r89 : own_R p e below _ _ T66 (mkF m 119 #[.val (.int pw), .val (.int pp), .val (.ref b2), .val (.int (4 : Int32)), .unset, .unset, .unset, .unset] [(.int (4 : Int32)), (.ref b2)]) := r67.trans fun z_ kt => by
      refine XS.aloadN X66.here hx rfl (hb hby at_117) rfl rfl ?_
      refine XS.iloadN X66.here hx rfl (hb hby at_118) rfl ?_
      exact kt
    obtain ⟨cl88, Ar88, q88, S88, M88, H88, G88⟩ := id V66
    have hin88 : ¬ ((4 : Int32) < 0 ∨ cl88.slots.size ≤ ((4 : Int32)).toNatClampNeg) := inb_of S88 ⟨by decide, by decide⟩
    have hat88 : cl88.slots[((4 : Int32)).toNatClampNeg]? = some (.ref s_BIGINT) := Has.at H88 hin88 rfl
    have r90 : own_R p e below _ _ T66 (mkF m 143 #[.val (.int pw), .val (.int pp), .val (.ref b2), .val (.int (4 : Int32)), .val (.ref s_BIGINT), .val (.int (0 : Int32)), .unset, .unset] [(.ref s_BIGINT)]) := r89.trans fun z_ kt => by
      refine X66.aaload hx (j := (4 : Int32)) (v := (.ref s_BIGINT)) (by rw [e66]; exact Ar88.1) (State.isArrayOf_alike hZ.alike Ar88.2.1) rfl Ar88.2.2 hin88 hat88 (g := (mkF m 119 #[.val (.int pw), .val (.int pp), .val (.ref b2), .val (.int (4 : Int32)), .unset, .unset, .unset, .unset] [(.int (4 : Int32)), (.ref b2)])) rfl rfl (hb hby at_119) _ ?_
      refine XS.astore X66.here hx rfl (hb hby at_120) rfl rfl (l' := #[.val (.int pw), .val (.int pp), .val (.ref b2), .val (.int (4 : Int32)), .val (.ref s_BIGINT), .unset, .unset, .unset]) rfl ?_
      refine XS.iloadN X66.here hx rfl (hb hby at_122) rfl ?_
      refine XS.bipush X66.here hx rfl (hb hby at_123) ?_
      refine XS.icmpYes X66.here hx rfl (pc0 := 125) (pc' := 138) rfl (hb hby at_125) rfl (tlt (by decide : (4 : Int32) < (10 : Int32))).1 (by decide) (by decide) ?_
      refine XS.iconst X66.here hx rfl (hb hby at_138) ?_
      refine XS.istore X66.here hx rfl (hb hby at_139) rfl (l' := #[.val (.int pw), .val (.int pp), .val (.ref b2), .val (.int (4 : Int32)), .val (.ref s_BIGINT), .val (.int (0 : Int32)), .unset, .unset]) rfl ?_
      refine XS.aload X66.here hx rfl (hb hby at_141) rfl rfl ?_
      exact kt
    obtain ⟨cq91, kq91, q91a, q91b, q91c⟩ := isOf hZ e66 (OE_s_BIGINT.ext O66.2)
    obtain ⟨_, _, ⟨T91, L91, cc91, n91⟩, -, X91, ⟨Lc91, hQ91, l91, y91, z91⟩, st91⟩ := X66.virtualBack hx (y := (⟨"com/example/blindern/blindern/mapping/ColumnType$Kind", "takesSecondPrecision", "()Z"⟩ : MethodName)) (z := (⟨"com/example/blindern/blindern/mapping/ColumnType$Kind", "takesSecondPrecision", "()Z"⟩ : MethodName)) hown (mvT hZ (hw _ (own_g (i := 36) rfl))) (mvT hZ (hw _ (own_g (i := 37) rfl))) (notFace_of_selects (args := #[]) (mvT hZ (hw _ (own_g (i := 39) rfl)))) (mvT hZ (hw _ (own_g (i := 39) rfl))) (mvT hZ (hw _ (own_g (i := 38) rfl))) (by decide) (backOf (W := 0) (rm_takes l Z a0 hw [] (s_BIGINT) (s_TIME) (s_TIMESTAMP) (s_TIMESTAMP_TZ) ((0 : Int32)) h66 n0 O66 (S_ColumnType_Kind_TIME) (S_ColumnType_Kind_TIMESTAMP) (S_ColumnType_Kind_TIMESTAMP_TZ) (Or.inr (Or.inr (Or.inr ⟨Fld.ne OF_s_BIGINT_ordinal OF_s_TIME_ordinal (by decide), Fld.ne OF_s_BIGINT_ordinal OF_s_TIMESTAMP_ordinal (by decide), Fld.ne OF_s_BIGINT_ordinal OF_s_TIMESTAMP_TZ_ordinal (by decide), rfl⟩)))) hZ (hw _ (own_g (i := 40) rfl)) (hw _ (own_g (i := 3) rfl)) (by decide) (by decide)) q91a q91c (g := (mkF m 143 #[.val (.int pw), .val (.int pp), .val (.ref b2), .val (.int (4 : Int32)), .val (.ref s_BIGINT), .val (.int (0 : Int32)), .unset, .unset] [(.ref s_BIGINT)])) rfl (by rw [hml]; rfl) (Steps.refl _) (argsL := []) (rest := []) (lenOf pd_3 rfl) rfl (by show 2 * 0 + _ ≤ _; exact Nat.le_of_eq rfl) (hb hby at_143) (fun _ _ => ⟨rfl, e66, (by decide : 1 + 0 ≤ _), (by decide : 16 + 0 ≤ _)⟩)
    dsimp only [Pt.U, Pt.locs, Pt.cells, Pt.slots] at X91 l91 y91 z91 st91 hQ91
    subst l91 y91 z91
    obtain ⟨rfl, Nq91, eq91⟩ := hQ91
    have N91 := Fr.app N66 Nq91
    have r91 : own_R p e below _ _ T91 (mkF m 146 #[.val (.int pw), .val (.int pp), .val (.ref b2), .val (.int (4 : Int32)), .val (.ref s_BIGINT), .val (.int (0 : Int32)), .unset, .unset] [(.int (0 : Int32))]) := r90.trans fun z_ kt => st91.trans kt
    have e91 : T91.heap = h66 := eq91
    have r92 : own_R p e below _ _ T91 (mkF m 196 #[.val (.int pw), .val (.int pp), .val (.ref b2), .val (.int (4 : Int32)), .val (.ref s_BIGINT), .val (.int (0 : Int32)), .val (.int (0 : Int32)), .unset] [(.int (1 : Int32))]) := r91.trans fun z_ kt => by
      refine XS.istore X91.here hx rfl (hb hby at_146) rfl (l' := #[.val (.int pw), .val (.int pp), .val (.ref b2), .val (.int (4 : Int32)), .val (.ref s_BIGINT), .val (.int (0 : Int32)), .val (.int (0 : Int32)), .unset]) rfl ?_
      refine XS.iload X91.here hx rfl (hb hby at_148) rfl ?_
      refine XS.iload X91.here hx rfl (hb hby at_150) rfl ?_
      refine XS.icmpYes X91.here hx rfl (pc0 := 152) (pc' := 157) rfl (hb hby at_152) rfl (teq (by decide : (0 : Int32) = (0 : Int32))).1 (by decide) (by decide) ?_
      refine XS.iload X91.here hx rfl (hb hby at_157) rfl ?_
      refine XS.ifYes X91.here hx rfl (pc0 := 159) (pc' := 195) rfl (hb hby at_159) rfl ((if0 _ _).trans (teq (by decide : (0 : Int32) = (0 : Int32))).1) (by decide) (by decide) ?_
      refine XS.iconst X91.here hx rfl (hb hby at_195) ?_
      exact kt
    obtain ⟨fs_, hr_, hrun_, hended_, hW_, hsame_⟩ := X91.leave (v := some (.int (1 : Int32))) (fun h => by rw [Bd.returns] at h; cases h)
    refine ⟨_, _, pre0 _ (r92 _ ?_), hrun_, hended_, _, _, rfl, ?_, ⟨_, rfl⟩, hW_, hsame_.mono (by decide) (by decide)⟩
    · exact retN X91 hx (t := .boolean) Bd.returns (by simp) (hb hby at_196) hr_
    · show Q_law Z pw pp s_VARCHAR s_CHAR s_SMALLINT s_INTEGER s_BIGINT s_BOOLEAN s_REAL s_DOUBLE s_NUMERIC s_DATE s_TIME s_TIMESTAMP s_TIMESTAMP_TZ s_ENUM_NAME s_ENUM_ORDINAL s_ENUM_VALUE s_EL h0 n0 _ T91.heap _
      rw [e91]
      exact ⟨rfl, N91⟩
  · skip
    have r94 : own_R p e below _ _ T66 (mkF m 119 #[.val (.int pw), .val (.int pp), .val (.ref b2), .val (.int (5 : Int32)), .unset, .unset, .unset, .unset] [(.int (5 : Int32)), (.ref b2)]) := r67.trans fun z_ kt => by
      refine XS.aloadN X66.here hx rfl (hb hby at_117) rfl rfl ?_
      refine XS.iloadN X66.here hx rfl (hb hby at_118) rfl ?_
      exact kt
    obtain ⟨cl93, Ar93, q93, S93, M93, H93, G93⟩ := id V66
    have hin93 : ¬ ((5 : Int32) < 0 ∨ cl93.slots.size ≤ ((5 : Int32)).toNatClampNeg) := inb_of S93 ⟨by decide, by decide⟩
    have hat93 : cl93.slots[((5 : Int32)).toNatClampNeg]? = some (.ref s_BOOLEAN) := Has.at H93 hin93 rfl
    have r95 : own_R p e below _ _ T66 (mkF m 143 #[.val (.int pw), .val (.int pp), .val (.ref b2), .val (.int (5 : Int32)), .val (.ref s_BOOLEAN), .val (.int (0 : Int32)), .unset, .unset] [(.ref s_BOOLEAN)]) := r94.trans fun z_ kt => by
      refine X66.aaload hx (j := (5 : Int32)) (v := (.ref s_BOOLEAN)) (by rw [e66]; exact Ar93.1) (State.isArrayOf_alike hZ.alike Ar93.2.1) rfl Ar93.2.2 hin93 hat93 (g := (mkF m 119 #[.val (.int pw), .val (.int pp), .val (.ref b2), .val (.int (5 : Int32)), .unset, .unset, .unset, .unset] [(.int (5 : Int32)), (.ref b2)])) rfl rfl (hb hby at_119) _ ?_
      refine XS.astore X66.here hx rfl (hb hby at_120) rfl rfl (l' := #[.val (.int pw), .val (.int pp), .val (.ref b2), .val (.int (5 : Int32)), .val (.ref s_BOOLEAN), .unset, .unset, .unset]) rfl ?_
      refine XS.iloadN X66.here hx rfl (hb hby at_122) rfl ?_
      refine XS.bipush X66.here hx rfl (hb hby at_123) ?_
      refine XS.icmpYes X66.here hx rfl (pc0 := 125) (pc' := 138) rfl (hb hby at_125) rfl (tlt (by decide : (5 : Int32) < (10 : Int32))).1 (by decide) (by decide) ?_
      refine XS.iconst X66.here hx rfl (hb hby at_138) ?_
      refine XS.istore X66.here hx rfl (hb hby at_139) rfl (l' := #[.val (.int pw), .val (.int pp), .val (.ref b2), .val (.int (5 : Int32)), .val (.ref s_BOOLEAN), .val (.int (0 : Int32)), .unset, .unset]) rfl ?_
      refine XS.aload X66.here hx rfl (hb hby at_141) rfl rfl ?_
      exact kt
    obtain ⟨cq96, kq96, q96a, q96b, q96c⟩ := isOf hZ e66 (OE_s_BOOLEAN.ext O66.2)
    obtain ⟨_, _, ⟨T96, L96, cc96, n96⟩, -, X96, ⟨Lc96, hQ96, l96, y96, z96⟩, st96⟩ := X66.virtualBack hx (y := (⟨"com/example/blindern/blindern/mapping/ColumnType$Kind", "takesSecondPrecision", "()Z"⟩ : MethodName)) (z := (⟨"com/example/blindern/blindern/mapping/ColumnType$Kind", "takesSecondPrecision", "()Z"⟩ : MethodName)) hown (mvT hZ (hw _ (own_g (i := 36) rfl))) (mvT hZ (hw _ (own_g (i := 37) rfl))) (notFace_of_selects (args := #[]) (mvT hZ (hw _ (own_g (i := 39) rfl)))) (mvT hZ (hw _ (own_g (i := 39) rfl))) (mvT hZ (hw _ (own_g (i := 38) rfl))) (by decide) (backOf (W := 0) (rm_takes l Z a0 hw [] (s_BOOLEAN) (s_TIME) (s_TIMESTAMP) (s_TIMESTAMP_TZ) ((0 : Int32)) h66 n0 O66 (S_ColumnType_Kind_TIME) (S_ColumnType_Kind_TIMESTAMP) (S_ColumnType_Kind_TIMESTAMP_TZ) (Or.inr (Or.inr (Or.inr ⟨Fld.ne OF_s_BOOLEAN_ordinal OF_s_TIME_ordinal (by decide), Fld.ne OF_s_BOOLEAN_ordinal OF_s_TIMESTAMP_ordinal (by decide), Fld.ne OF_s_BOOLEAN_ordinal OF_s_TIMESTAMP_TZ_ordinal (by decide), rfl⟩)))) hZ (hw _ (own_g (i := 40) rfl)) (hw _ (own_g (i := 3) rfl)) (by decide) (by decide)) q96a q96c (g := (mkF m 143 #[.val (.int pw), .val (.int pp), .val (.ref b2), .val (.int (5 : Int32)), .val (.ref s_BOOLEAN), .val (.int (0 : Int32)), .unset, .unset] [(.ref s_BOOLEAN)])) rfl (by rw [hml]; rfl) (Steps.refl _) (argsL := []) (rest := []) (lenOf pd_3 rfl) rfl (by show 2 * 0 + _ ≤ _; exact Nat.le_of_eq rfl) (hb hby at_143) (fun _ _ => ⟨rfl, e66, (by decide : 1 + 0 ≤ _), (by decide : 16 + 0 ≤ _)⟩)
    dsimp only [Pt.U, Pt.locs, Pt.cells, Pt.slots] at X96 l96 y96 z96 st96 hQ96
    subst l96 y96 z96
    obtain ⟨rfl, Nq96, eq96⟩ := hQ96
    have N96 := Fr.app N66 Nq96
    have r96 : own_R p e below _ _ T96 (mkF m 146 #[.val (.int pw), .val (.int pp), .val (.ref b2), .val (.int (5 : Int32)), .val (.ref s_BOOLEAN), .val (.int (0 : Int32)), .unset, .unset] [(.int (0 : Int32))]) := r95.trans fun z_ kt => st96.trans kt
    have e96 : T96.heap = h66 := eq96
    have r97 : own_R p e below _ _ T96 (mkF m 196 #[.val (.int pw), .val (.int pp), .val (.ref b2), .val (.int (5 : Int32)), .val (.ref s_BOOLEAN), .val (.int (0 : Int32)), .val (.int (0 : Int32)), .unset] [(.int (1 : Int32))]) := r96.trans fun z_ kt => by
      refine XS.istore X96.here hx rfl (hb hby at_146) rfl (l' := #[.val (.int pw), .val (.int pp), .val (.ref b2), .val (.int (5 : Int32)), .val (.ref s_BOOLEAN), .val (.int (0 : Int32)), .val (.int (0 : Int32)), .unset]) rfl ?_
      refine XS.iload X96.here hx rfl (hb hby at_148) rfl ?_
      refine XS.iload X96.here hx rfl (hb hby at_150) rfl ?_
      refine XS.icmpYes X96.here hx rfl (pc0 := 152) (pc' := 157) rfl (hb hby at_152) rfl (teq (by decide : (0 : Int32) = (0 : Int32))).1 (by decide) (by decide) ?_
      refine XS.iload X96.here hx rfl (hb hby at_157) rfl ?_
      refine XS.ifYes X96.here hx rfl (pc0 := 159) (pc' := 195) rfl (hb hby at_159) rfl ((if0 _ _).trans (teq (by decide : (0 : Int32) = (0 : Int32))).1) (by decide) (by decide) ?_
      refine XS.iconst X96.here hx rfl (hb hby at_195) ?_
      exact kt
    obtain ⟨fs_, hr_, hrun_, hended_, hW_, hsame_⟩ := X96.leave (v := some (.int (1 : Int32))) (fun h => by rw [Bd.returns] at h; cases h)
    refine ⟨_, _, pre0 _ (r97 _ ?_), hrun_, hended_, _, _, rfl, ?_, ⟨_, rfl⟩, hW_, hsame_.mono (by decide) (by decide)⟩
    · exact retN X96 hx (t := .boolean) Bd.returns (by simp) (hb hby at_196) hr_
    · show Q_law Z pw pp s_VARCHAR s_CHAR s_SMALLINT s_INTEGER s_BIGINT s_BOOLEAN s_REAL s_DOUBLE s_NUMERIC s_DATE s_TIME s_TIMESTAMP s_TIMESTAMP_TZ s_ENUM_NAME s_ENUM_ORDINAL s_ENUM_VALUE s_EL h0 n0 _ T96.heap _
      rw [e96]
      exact ⟨rfl, N96⟩
  · skip
    have r99 : own_R p e below _ _ T66 (mkF m 119 #[.val (.int pw), .val (.int pp), .val (.ref b2), .val (.int (6 : Int32)), .unset, .unset, .unset, .unset] [(.int (6 : Int32)), (.ref b2)]) := r67.trans fun z_ kt => by
      refine XS.aloadN X66.here hx rfl (hb hby at_117) rfl rfl ?_
      refine XS.iloadN X66.here hx rfl (hb hby at_118) rfl ?_
      exact kt
    obtain ⟨cl98, Ar98, q98, S98, M98, H98, G98⟩ := id V66
    have hin98 : ¬ ((6 : Int32) < 0 ∨ cl98.slots.size ≤ ((6 : Int32)).toNatClampNeg) := inb_of S98 ⟨by decide, by decide⟩
    have hat98 : cl98.slots[((6 : Int32)).toNatClampNeg]? = some (.ref s_REAL) := Has.at H98 hin98 rfl
    have r100 : own_R p e below _ _ T66 (mkF m 143 #[.val (.int pw), .val (.int pp), .val (.ref b2), .val (.int (6 : Int32)), .val (.ref s_REAL), .val (.int (0 : Int32)), .unset, .unset] [(.ref s_REAL)]) := r99.trans fun z_ kt => by
      refine X66.aaload hx (j := (6 : Int32)) (v := (.ref s_REAL)) (by rw [e66]; exact Ar98.1) (State.isArrayOf_alike hZ.alike Ar98.2.1) rfl Ar98.2.2 hin98 hat98 (g := (mkF m 119 #[.val (.int pw), .val (.int pp), .val (.ref b2), .val (.int (6 : Int32)), .unset, .unset, .unset, .unset] [(.int (6 : Int32)), (.ref b2)])) rfl rfl (hb hby at_119) _ ?_
      refine XS.astore X66.here hx rfl (hb hby at_120) rfl rfl (l' := #[.val (.int pw), .val (.int pp), .val (.ref b2), .val (.int (6 : Int32)), .val (.ref s_REAL), .unset, .unset, .unset]) rfl ?_
      refine XS.iloadN X66.here hx rfl (hb hby at_122) rfl ?_
      refine XS.bipush X66.here hx rfl (hb hby at_123) ?_
      refine XS.icmpYes X66.here hx rfl (pc0 := 125) (pc' := 138) rfl (hb hby at_125) rfl (tlt (by decide : (6 : Int32) < (10 : Int32))).1 (by decide) (by decide) ?_
      refine XS.iconst X66.here hx rfl (hb hby at_138) ?_
      refine XS.istore X66.here hx rfl (hb hby at_139) rfl (l' := #[.val (.int pw), .val (.int pp), .val (.ref b2), .val (.int (6 : Int32)), .val (.ref s_REAL), .val (.int (0 : Int32)), .unset, .unset]) rfl ?_
      refine XS.aload X66.here hx rfl (hb hby at_141) rfl rfl ?_
      exact kt
    obtain ⟨cq101, kq101, q101a, q101b, q101c⟩ := isOf hZ e66 (OE_s_REAL.ext O66.2)
    obtain ⟨_, _, ⟨T101, L101, cc101, n101⟩, -, X101, ⟨Lc101, hQ101, l101, y101, z101⟩, st101⟩ := X66.virtualBack hx (y := (⟨"com/example/blindern/blindern/mapping/ColumnType$Kind", "takesSecondPrecision", "()Z"⟩ : MethodName)) (z := (⟨"com/example/blindern/blindern/mapping/ColumnType$Kind", "takesSecondPrecision", "()Z"⟩ : MethodName)) hown (mvT hZ (hw _ (own_g (i := 36) rfl))) (mvT hZ (hw _ (own_g (i := 37) rfl))) (notFace_of_selects (args := #[]) (mvT hZ (hw _ (own_g (i := 39) rfl)))) (mvT hZ (hw _ (own_g (i := 39) rfl))) (mvT hZ (hw _ (own_g (i := 38) rfl))) (by decide) (backOf (W := 0) (rm_takes l Z a0 hw [] (s_REAL) (s_TIME) (s_TIMESTAMP) (s_TIMESTAMP_TZ) ((0 : Int32)) h66 n0 O66 (S_ColumnType_Kind_TIME) (S_ColumnType_Kind_TIMESTAMP) (S_ColumnType_Kind_TIMESTAMP_TZ) (Or.inr (Or.inr (Or.inr ⟨Fld.ne OF_s_REAL_ordinal OF_s_TIME_ordinal (by decide), Fld.ne OF_s_REAL_ordinal OF_s_TIMESTAMP_ordinal (by decide), Fld.ne OF_s_REAL_ordinal OF_s_TIMESTAMP_TZ_ordinal (by decide), rfl⟩)))) hZ (hw _ (own_g (i := 40) rfl)) (hw _ (own_g (i := 3) rfl)) (by decide) (by decide)) q101a q101c (g := (mkF m 143 #[.val (.int pw), .val (.int pp), .val (.ref b2), .val (.int (6 : Int32)), .val (.ref s_REAL), .val (.int (0 : Int32)), .unset, .unset] [(.ref s_REAL)])) rfl (by rw [hml]; rfl) (Steps.refl _) (argsL := []) (rest := []) (lenOf pd_3 rfl) rfl (by show 2 * 0 + _ ≤ _; exact Nat.le_of_eq rfl) (hb hby at_143) (fun _ _ => ⟨rfl, e66, (by decide : 1 + 0 ≤ _), (by decide : 16 + 0 ≤ _)⟩)
    dsimp only [Pt.U, Pt.locs, Pt.cells, Pt.slots] at X101 l101 y101 z101 st101 hQ101
    subst l101 y101 z101
    obtain ⟨rfl, Nq101, eq101⟩ := hQ101
    have N101 := Fr.app N66 Nq101
    have r101 : own_R p e below _ _ T101 (mkF m 146 #[.val (.int pw), .val (.int pp), .val (.ref b2), .val (.int (6 : Int32)), .val (.ref s_REAL), .val (.int (0 : Int32)), .unset, .unset] [(.int (0 : Int32))]) := r100.trans fun z_ kt => st101.trans kt
    have e101 : T101.heap = h66 := eq101
    have r102 : own_R p e below _ _ T101 (mkF m 196 #[.val (.int pw), .val (.int pp), .val (.ref b2), .val (.int (6 : Int32)), .val (.ref s_REAL), .val (.int (0 : Int32)), .val (.int (0 : Int32)), .unset] [(.int (1 : Int32))]) := r101.trans fun z_ kt => by
      refine XS.istore X101.here hx rfl (hb hby at_146) rfl (l' := #[.val (.int pw), .val (.int pp), .val (.ref b2), .val (.int (6 : Int32)), .val (.ref s_REAL), .val (.int (0 : Int32)), .val (.int (0 : Int32)), .unset]) rfl ?_
      refine XS.iload X101.here hx rfl (hb hby at_148) rfl ?_
      refine XS.iload X101.here hx rfl (hb hby at_150) rfl ?_
      refine XS.icmpYes X101.here hx rfl (pc0 := 152) (pc' := 157) rfl (hb hby at_152) rfl (teq (by decide : (0 : Int32) = (0 : Int32))).1 (by decide) (by decide) ?_
      refine XS.iload X101.here hx rfl (hb hby at_157) rfl ?_
      refine XS.ifYes X101.here hx rfl (pc0 := 159) (pc' := 195) rfl (hb hby at_159) rfl ((if0 _ _).trans (teq (by decide : (0 : Int32) = (0 : Int32))).1) (by decide) (by decide) ?_
      refine XS.iconst X101.here hx rfl (hb hby at_195) ?_
      exact kt
    obtain ⟨fs_, hr_, hrun_, hended_, hW_, hsame_⟩ := X101.leave (v := some (.int (1 : Int32))) (fun h => by rw [Bd.returns] at h; cases h)
    refine ⟨_, _, pre0 _ (r102 _ ?_), hrun_, hended_, _, _, rfl, ?_, ⟨_, rfl⟩, hW_, hsame_.mono (by decide) (by decide)⟩
    · exact retN X101 hx (t := .boolean) Bd.returns (by simp) (hb hby at_196) hr_
    · show Q_law Z pw pp s_VARCHAR s_CHAR s_SMALLINT s_INTEGER s_BIGINT s_BOOLEAN s_REAL s_DOUBLE s_NUMERIC s_DATE s_TIME s_TIMESTAMP s_TIMESTAMP_TZ s_ENUM_NAME s_ENUM_ORDINAL s_ENUM_VALUE s_EL h0 n0 _ T101.heap _
      rw [e101]
      exact ⟨rfl, N101⟩
  · skip
    have r104 : own_R p e below _ _ T66 (mkF m 119 #[.val (.int pw), .val (.int pp), .val (.ref b2), .val (.int (7 : Int32)), .unset, .unset, .unset, .unset] [(.int (7 : Int32)), (.ref b2)]) := r67.trans fun z_ kt => by
      refine XS.aloadN X66.here hx rfl (hb hby at_117) rfl rfl ?_
      refine XS.iloadN X66.here hx rfl (hb hby at_118) rfl ?_
      exact kt
    obtain ⟨cl103, Ar103, q103, S103, M103, H103, G103⟩ := id V66
    have hin103 : ¬ ((7 : Int32) < 0 ∨ cl103.slots.size ≤ ((7 : Int32)).toNatClampNeg) := inb_of S103 ⟨by decide, by decide⟩
    have hat103 : cl103.slots[((7 : Int32)).toNatClampNeg]? = some (.ref s_DOUBLE) := Has.at H103 hin103 rfl
    have r105 : own_R p e below _ _ T66 (mkF m 143 #[.val (.int pw), .val (.int pp), .val (.ref b2), .val (.int (7 : Int32)), .val (.ref s_DOUBLE), .val (.int (0 : Int32)), .unset, .unset] [(.ref s_DOUBLE)]) := r104.trans fun z_ kt => by
      refine X66.aaload hx (j := (7 : Int32)) (v := (.ref s_DOUBLE)) (by rw [e66]; exact Ar103.1) (State.isArrayOf_alike hZ.alike Ar103.2.1) rfl Ar103.2.2 hin103 hat103 (g := (mkF m 119 #[.val (.int pw), .val (.int pp), .val (.ref b2), .val (.int (7 : Int32)), .unset, .unset, .unset, .unset] [(.int (7 : Int32)), (.ref b2)])) rfl rfl (hb hby at_119) _ ?_
      refine XS.astore X66.here hx rfl (hb hby at_120) rfl rfl (l' := #[.val (.int pw), .val (.int pp), .val (.ref b2), .val (.int (7 : Int32)), .val (.ref s_DOUBLE), .unset, .unset, .unset]) rfl ?_
      refine XS.iloadN X66.here hx rfl (hb hby at_122) rfl ?_
      refine XS.bipush X66.here hx rfl (hb hby at_123) ?_
      refine XS.icmpYes X66.here hx rfl (pc0 := 125) (pc' := 138) rfl (hb hby at_125) rfl (tlt (by decide : (7 : Int32) < (10 : Int32))).1 (by decide) (by decide) ?_
      refine XS.iconst X66.here hx rfl (hb hby at_138) ?_
      refine XS.istore X66.here hx rfl (hb hby at_139) rfl (l' := #[.val (.int pw), .val (.int pp), .val (.ref b2), .val (.int (7 : Int32)), .val (.ref s_DOUBLE), .val (.int (0 : Int32)), .unset, .unset]) rfl ?_
      refine XS.aload X66.here hx rfl (hb hby at_141) rfl rfl ?_
      exact kt
    obtain ⟨cq106, kq106, q106a, q106b, q106c⟩ := isOf hZ e66 (OE_s_DOUBLE.ext O66.2)
    obtain ⟨_, _, ⟨T106, L106, cc106, n106⟩, -, X106, ⟨Lc106, hQ106, l106, y106, z106⟩, st106⟩ := X66.virtualBack hx (y := (⟨"com/example/blindern/blindern/mapping/ColumnType$Kind", "takesSecondPrecision", "()Z"⟩ : MethodName)) (z := (⟨"com/example/blindern/blindern/mapping/ColumnType$Kind", "takesSecondPrecision", "()Z"⟩ : MethodName)) hown (mvT hZ (hw _ (own_g (i := 36) rfl))) (mvT hZ (hw _ (own_g (i := 37) rfl))) (notFace_of_selects (args := #[]) (mvT hZ (hw _ (own_g (i := 39) rfl)))) (mvT hZ (hw _ (own_g (i := 39) rfl))) (mvT hZ (hw _ (own_g (i := 38) rfl))) (by decide) (backOf (W := 0) (rm_takes l Z a0 hw [] (s_DOUBLE) (s_TIME) (s_TIMESTAMP) (s_TIMESTAMP_TZ) ((0 : Int32)) h66 n0 O66 (S_ColumnType_Kind_TIME) (S_ColumnType_Kind_TIMESTAMP) (S_ColumnType_Kind_TIMESTAMP_TZ) (Or.inr (Or.inr (Or.inr ⟨Fld.ne OF_s_DOUBLE_ordinal OF_s_TIME_ordinal (by decide), Fld.ne OF_s_DOUBLE_ordinal OF_s_TIMESTAMP_ordinal (by decide), Fld.ne OF_s_DOUBLE_ordinal OF_s_TIMESTAMP_TZ_ordinal (by decide), rfl⟩)))) hZ (hw _ (own_g (i := 40) rfl)) (hw _ (own_g (i := 3) rfl)) (by decide) (by decide)) q106a q106c (g := (mkF m 143 #[.val (.int pw), .val (.int pp), .val (.ref b2), .val (.int (7 : Int32)), .val (.ref s_DOUBLE), .val (.int (0 : Int32)), .unset, .unset] [(.ref s_DOUBLE)])) rfl (by rw [hml]; rfl) (Steps.refl _) (argsL := []) (rest := []) (lenOf pd_3 rfl) rfl (by show 2 * 0 + _ ≤ _; exact Nat.le_of_eq rfl) (hb hby at_143) (fun _ _ => ⟨rfl, e66, (by decide : 1 + 0 ≤ _), (by decide : 16 + 0 ≤ _)⟩)
    dsimp only [Pt.U, Pt.locs, Pt.cells, Pt.slots] at X106 l106 y106 z106 st106 hQ106
    subst l106 y106 z106
    obtain ⟨rfl, Nq106, eq106⟩ := hQ106
    have N106 := Fr.app N66 Nq106
    have r106 : own_R p e below _ _ T106 (mkF m 146 #[.val (.int pw), .val (.int pp), .val (.ref b2), .val (.int (7 : Int32)), .val (.ref s_DOUBLE), .val (.int (0 : Int32)), .unset, .unset] [(.int (0 : Int32))]) := r105.trans fun z_ kt => st106.trans kt
    have e106 : T106.heap = h66 := eq106
    have r107 : own_R p e below _ _ T106 (mkF m 196 #[.val (.int pw), .val (.int pp), .val (.ref b2), .val (.int (7 : Int32)), .val (.ref s_DOUBLE), .val (.int (0 : Int32)), .val (.int (0 : Int32)), .unset] [(.int (1 : Int32))]) := r106.trans fun z_ kt => by
      refine XS.istore X106.here hx rfl (hb hby at_146) rfl (l' := #[.val (.int pw), .val (.int pp), .val (.ref b2), .val (.int (7 : Int32)), .val (.ref s_DOUBLE), .val (.int (0 : Int32)), .val (.int (0 : Int32)), .unset]) rfl ?_
      refine XS.iload X106.here hx rfl (hb hby at_148) rfl ?_
      refine XS.iload X106.here hx rfl (hb hby at_150) rfl ?_
      refine XS.icmpYes X106.here hx rfl (pc0 := 152) (pc' := 157) rfl (hb hby at_152) rfl (teq (by decide : (0 : Int32) = (0 : Int32))).1 (by decide) (by decide) ?_
      refine XS.iload X106.here hx rfl (hb hby at_157) rfl ?_
      refine XS.ifYes X106.here hx rfl (pc0 := 159) (pc' := 195) rfl (hb hby at_159) rfl ((if0 _ _).trans (teq (by decide : (0 : Int32) = (0 : Int32))).1) (by decide) (by decide) ?_
      refine XS.iconst X106.here hx rfl (hb hby at_195) ?_
      exact kt
    obtain ⟨fs_, hr_, hrun_, hended_, hW_, hsame_⟩ := X106.leave (v := some (.int (1 : Int32))) (fun h => by rw [Bd.returns] at h; cases h)
    refine ⟨_, _, pre0 _ (r107 _ ?_), hrun_, hended_, _, _, rfl, ?_, ⟨_, rfl⟩, hW_, hsame_.mono (by decide) (by decide)⟩
    · exact retN X106 hx (t := .boolean) Bd.returns (by simp) (hb hby at_196) hr_
    · show Q_law Z pw pp s_VARCHAR s_CHAR s_SMALLINT s_INTEGER s_BIGINT s_BOOLEAN s_REAL s_DOUBLE s_NUMERIC s_DATE s_TIME s_TIMESTAMP s_TIMESTAMP_TZ s_ENUM_NAME s_ENUM_ORDINAL s_ENUM_VALUE s_EL h0 n0 _ T106.heap _
      rw [e106]
      exact ⟨rfl, N106⟩
  · skip
    have r109 : own_R p e below _ _ T66 (mkF m 119 #[.val (.int pw), .val (.int pp), .val (.ref b2), .val (.int (8 : Int32)), .unset, .unset, .unset, .unset] [(.int (8 : Int32)), (.ref b2)]) := r67.trans fun z_ kt => by
      refine XS.aloadN X66.here hx rfl (hb hby at_117) rfl rfl ?_
      refine XS.iloadN X66.here hx rfl (hb hby at_118) rfl ?_
      exact kt
    obtain ⟨cl108, Ar108, q108, S108, M108, H108, G108⟩ := id V66
    have hin108 : ¬ ((8 : Int32) < 0 ∨ cl108.slots.size ≤ ((8 : Int32)).toNatClampNeg) := inb_of S108 ⟨by decide, by decide⟩
    have hat108 : cl108.slots[((8 : Int32)).toNatClampNeg]? = some (.ref s_NUMERIC) := Has.at H108 hin108 rfl
    have r110 : own_R p e below _ _ T66 (mkF m 143 #[.val (.int pw), .val (.int pp), .val (.ref b2), .val (.int (8 : Int32)), .val (.ref s_NUMERIC), .val (.int (0 : Int32)), .unset, .unset] [(.ref s_NUMERIC)]) := r109.trans fun z_ kt => by
      refine X66.aaload hx (j := (8 : Int32)) (v := (.ref s_NUMERIC)) (by rw [e66]; exact Ar108.1) (State.isArrayOf_alike hZ.alike Ar108.2.1) rfl Ar108.2.2 hin108 hat108 (g := (mkF m 119 #[.val (.int pw), .val (.int pp), .val (.ref b2), .val (.int (8 : Int32)), .unset, .unset, .unset, .unset] [(.int (8 : Int32)), (.ref b2)])) rfl rfl (hb hby at_119) _ ?_
      refine XS.astore X66.here hx rfl (hb hby at_120) rfl rfl (l' := #[.val (.int pw), .val (.int pp), .val (.ref b2), .val (.int (8 : Int32)), .val (.ref s_NUMERIC), .unset, .unset, .unset]) rfl ?_
      refine XS.iloadN X66.here hx rfl (hb hby at_122) rfl ?_
      refine XS.bipush X66.here hx rfl (hb hby at_123) ?_
      refine XS.icmpYes X66.here hx rfl (pc0 := 125) (pc' := 138) rfl (hb hby at_125) rfl (tlt (by decide : (8 : Int32) < (10 : Int32))).1 (by decide) (by decide) ?_
      refine XS.iconst X66.here hx rfl (hb hby at_138) ?_
      refine XS.istore X66.here hx rfl (hb hby at_139) rfl (l' := #[.val (.int pw), .val (.int pp), .val (.ref b2), .val (.int (8 : Int32)), .val (.ref s_NUMERIC), .val (.int (0 : Int32)), .unset, .unset]) rfl ?_
      refine XS.aload X66.here hx rfl (hb hby at_141) rfl rfl ?_
      exact kt
    obtain ⟨cq111, kq111, q111a, q111b, q111c⟩ := isOf hZ e66 (OE_s_NUMERIC.ext O66.2)
    obtain ⟨_, _, ⟨T111, L111, cc111, n111⟩, -, X111, ⟨Lc111, hQ111, l111, y111, z111⟩, st111⟩ := X66.virtualBack hx (y := (⟨"com/example/blindern/blindern/mapping/ColumnType$Kind", "takesSecondPrecision", "()Z"⟩ : MethodName)) (z := (⟨"com/example/blindern/blindern/mapping/ColumnType$Kind", "takesSecondPrecision", "()Z"⟩ : MethodName)) hown (mvT hZ (hw _ (own_g (i := 36) rfl))) (mvT hZ (hw _ (own_g (i := 37) rfl))) (notFace_of_selects (args := #[]) (mvT hZ (hw _ (own_g (i := 39) rfl)))) (mvT hZ (hw _ (own_g (i := 39) rfl))) (mvT hZ (hw _ (own_g (i := 38) rfl))) (by decide) (backOf (W := 0) (rm_takes l Z a0 hw [] (s_NUMERIC) (s_TIME) (s_TIMESTAMP) (s_TIMESTAMP_TZ) ((0 : Int32)) h66 n0 O66 (S_ColumnType_Kind_TIME) (S_ColumnType_Kind_TIMESTAMP) (S_ColumnType_Kind_TIMESTAMP_TZ) (Or.inr (Or.inr (Or.inr ⟨Fld.ne OF_s_NUMERIC_ordinal OF_s_TIME_ordinal (by decide), Fld.ne OF_s_NUMERIC_ordinal OF_s_TIMESTAMP_ordinal (by decide), Fld.ne OF_s_NUMERIC_ordinal OF_s_TIMESTAMP_TZ_ordinal (by decide), rfl⟩)))) hZ (hw _ (own_g (i := 40) rfl)) (hw _ (own_g (i := 3) rfl)) (by decide) (by decide)) q111a q111c (g := (mkF m 143 #[.val (.int pw), .val (.int pp), .val (.ref b2), .val (.int (8 : Int32)), .val (.ref s_NUMERIC), .val (.int (0 : Int32)), .unset, .unset] [(.ref s_NUMERIC)])) rfl (by rw [hml]; rfl) (Steps.refl _) (argsL := []) (rest := []) (lenOf pd_3 rfl) rfl (by show 2 * 0 + _ ≤ _; exact Nat.le_of_eq rfl) (hb hby at_143) (fun _ _ => ⟨rfl, e66, (by decide : 1 + 0 ≤ _), (by decide : 16 + 0 ≤ _)⟩)
    dsimp only [Pt.U, Pt.locs, Pt.cells, Pt.slots] at X111 l111 y111 z111 st111 hQ111
    subst l111 y111 z111
    obtain ⟨rfl, Nq111, eq111⟩ := hQ111
    have N111 := Fr.app N66 Nq111
    have r111 : own_R p e below _ _ T111 (mkF m 146 #[.val (.int pw), .val (.int pp), .val (.ref b2), .val (.int (8 : Int32)), .val (.ref s_NUMERIC), .val (.int (0 : Int32)), .unset, .unset] [(.int (0 : Int32))]) := r110.trans fun z_ kt => st111.trans kt
    have e111 : T111.heap = h66 := eq111
    have r112 : own_R p e below _ _ T111 (mkF m 196 #[.val (.int pw), .val (.int pp), .val (.ref b2), .val (.int (8 : Int32)), .val (.ref s_NUMERIC), .val (.int (0 : Int32)), .val (.int (0 : Int32)), .unset] [(.int (1 : Int32))]) := r111.trans fun z_ kt => by
      refine XS.istore X111.here hx rfl (hb hby at_146) rfl (l' := #[.val (.int pw), .val (.int pp), .val (.ref b2), .val (.int (8 : Int32)), .val (.ref s_NUMERIC), .val (.int (0 : Int32)), .val (.int (0 : Int32)), .unset]) rfl ?_
      refine XS.iload X111.here hx rfl (hb hby at_148) rfl ?_
      refine XS.iload X111.here hx rfl (hb hby at_150) rfl ?_
      refine XS.icmpYes X111.here hx rfl (pc0 := 152) (pc' := 157) rfl (hb hby at_152) rfl (teq (by decide : (0 : Int32) = (0 : Int32))).1 (by decide) (by decide) ?_
      refine XS.iload X111.here hx rfl (hb hby at_157) rfl ?_
      refine XS.ifYes X111.here hx rfl (pc0 := 159) (pc' := 195) rfl (hb hby at_159) rfl ((if0 _ _).trans (teq (by decide : (0 : Int32) = (0 : Int32))).1) (by decide) (by decide) ?_
      refine XS.iconst X111.here hx rfl (hb hby at_195) ?_
      exact kt
    obtain ⟨fs_, hr_, hrun_, hended_, hW_, hsame_⟩ := X111.leave (v := some (.int (1 : Int32))) (fun h => by rw [Bd.returns] at h; cases h)
    refine ⟨_, _, pre0 _ (r112 _ ?_), hrun_, hended_, _, _, rfl, ?_, ⟨_, rfl⟩, hW_, hsame_.mono (by decide) (by decide)⟩
    · exact retN X111 hx (t := .boolean) Bd.returns (by simp) (hb hby at_196) hr_
    · show Q_law Z pw pp s_VARCHAR s_CHAR s_SMALLINT s_INTEGER s_BIGINT s_BOOLEAN s_REAL s_DOUBLE s_NUMERIC s_DATE s_TIME s_TIMESTAMP s_TIMESTAMP_TZ s_ENUM_NAME s_ENUM_ORDINAL s_ENUM_VALUE s_EL h0 n0 _ T111.heap _
      rw [e111]
      exact ⟨rfl, N111⟩
  · skip
    have r114 : own_R p e below _ _ T66 (mkF m 119 #[.val (.int pw), .val (.int pp), .val (.ref b2), .val (.int (9 : Int32)), .unset, .unset, .unset, .unset] [(.int (9 : Int32)), (.ref b2)]) := r67.trans fun z_ kt => by
      refine XS.aloadN X66.here hx rfl (hb hby at_117) rfl rfl ?_
      refine XS.iloadN X66.here hx rfl (hb hby at_118) rfl ?_
      exact kt
    obtain ⟨cl113, Ar113, q113, S113, M113, H113, G113⟩ := id V66
    have hin113 : ¬ ((9 : Int32) < 0 ∨ cl113.slots.size ≤ ((9 : Int32)).toNatClampNeg) := inb_of S113 ⟨by decide, by decide⟩
    have hat113 : cl113.slots[((9 : Int32)).toNatClampNeg]? = some (.ref s_DATE) := Has.at H113 hin113 rfl
    have r115 : own_R p e below _ _ T66 (mkF m 143 #[.val (.int pw), .val (.int pp), .val (.ref b2), .val (.int (9 : Int32)), .val (.ref s_DATE), .val (.int (0 : Int32)), .unset, .unset] [(.ref s_DATE)]) := r114.trans fun z_ kt => by
      refine X66.aaload hx (j := (9 : Int32)) (v := (.ref s_DATE)) (by rw [e66]; exact Ar113.1) (State.isArrayOf_alike hZ.alike Ar113.2.1) rfl Ar113.2.2 hin113 hat113 (g := (mkF m 119 #[.val (.int pw), .val (.int pp), .val (.ref b2), .val (.int (9 : Int32)), .unset, .unset, .unset, .unset] [(.int (9 : Int32)), (.ref b2)])) rfl rfl (hb hby at_119) _ ?_
      refine XS.astore X66.here hx rfl (hb hby at_120) rfl rfl (l' := #[.val (.int pw), .val (.int pp), .val (.ref b2), .val (.int (9 : Int32)), .val (.ref s_DATE), .unset, .unset, .unset]) rfl ?_
      refine XS.iloadN X66.here hx rfl (hb hby at_122) rfl ?_
      refine XS.bipush X66.here hx rfl (hb hby at_123) ?_
      refine XS.icmpYes X66.here hx rfl (pc0 := 125) (pc' := 138) rfl (hb hby at_125) rfl (tlt (by decide : (9 : Int32) < (10 : Int32))).1 (by decide) (by decide) ?_
      refine XS.iconst X66.here hx rfl (hb hby at_138) ?_
      refine XS.istore X66.here hx rfl (hb hby at_139) rfl (l' := #[.val (.int pw), .val (.int pp), .val (.ref b2), .val (.int (9 : Int32)), .val (.ref s_DATE), .val (.int (0 : Int32)), .unset, .unset]) rfl ?_
      refine XS.aload X66.here hx rfl (hb hby at_141) rfl rfl ?_
      exact kt
    obtain ⟨cq116, kq116, q116a, q116b, q116c⟩ := isOf hZ e66 (OE_s_DATE.ext O66.2)
    obtain ⟨_, _, ⟨T116, L116, cc116, n116⟩, -, X116, ⟨Lc116, hQ116, l116, y116, z116⟩, st116⟩ := X66.virtualBack hx (y := (⟨"com/example/blindern/blindern/mapping/ColumnType$Kind", "takesSecondPrecision", "()Z"⟩ : MethodName)) (z := (⟨"com/example/blindern/blindern/mapping/ColumnType$Kind", "takesSecondPrecision", "()Z"⟩ : MethodName)) hown (mvT hZ (hw _ (own_g (i := 36) rfl))) (mvT hZ (hw _ (own_g (i := 37) rfl))) (notFace_of_selects (args := #[]) (mvT hZ (hw _ (own_g (i := 39) rfl)))) (mvT hZ (hw _ (own_g (i := 39) rfl))) (mvT hZ (hw _ (own_g (i := 38) rfl))) (by decide) (backOf (W := 0) (rm_takes l Z a0 hw [] (s_DATE) (s_TIME) (s_TIMESTAMP) (s_TIMESTAMP_TZ) ((0 : Int32)) h66 n0 O66 (S_ColumnType_Kind_TIME) (S_ColumnType_Kind_TIMESTAMP) (S_ColumnType_Kind_TIMESTAMP_TZ) (Or.inr (Or.inr (Or.inr ⟨Fld.ne OF_s_DATE_ordinal OF_s_TIME_ordinal (by decide), Fld.ne OF_s_DATE_ordinal OF_s_TIMESTAMP_ordinal (by decide), Fld.ne OF_s_DATE_ordinal OF_s_TIMESTAMP_TZ_ordinal (by decide), rfl⟩)))) hZ (hw _ (own_g (i := 40) rfl)) (hw _ (own_g (i := 3) rfl)) (by decide) (by decide)) q116a q116c (g := (mkF m 143 #[.val (.int pw), .val (.int pp), .val (.ref b2), .val (.int (9 : Int32)), .val (.ref s_DATE), .val (.int (0 : Int32)), .unset, .unset] [(.ref s_DATE)])) rfl (by rw [hml]; rfl) (Steps.refl _) (argsL := []) (rest := []) (lenOf pd_3 rfl) rfl (by show 2 * 0 + _ ≤ _; exact Nat.le_of_eq rfl) (hb hby at_143) (fun _ _ => ⟨rfl, e66, (by decide : 1 + 0 ≤ _), (by decide : 16 + 0 ≤ _)⟩)
    dsimp only [Pt.U, Pt.locs, Pt.cells, Pt.slots] at X116 l116 y116 z116 st116 hQ116
    subst l116 y116 z116
    obtain ⟨rfl, Nq116, eq116⟩ := hQ116
    have N116 := Fr.app N66 Nq116
    have r116 : own_R p e below _ _ T116 (mkF m 146 #[.val (.int pw), .val (.int pp), .val (.ref b2), .val (.int (9 : Int32)), .val (.ref s_DATE), .val (.int (0 : Int32)), .unset, .unset] [(.int (0 : Int32))]) := r115.trans fun z_ kt => st116.trans kt
    have e116 : T116.heap = h66 := eq116
    have r117 : own_R p e below _ _ T116 (mkF m 196 #[.val (.int pw), .val (.int pp), .val (.ref b2), .val (.int (9 : Int32)), .val (.ref s_DATE), .val (.int (0 : Int32)), .val (.int (0 : Int32)), .unset] [(.int (1 : Int32))]) := r116.trans fun z_ kt => by
      refine XS.istore X116.here hx rfl (hb hby at_146) rfl (l' := #[.val (.int pw), .val (.int pp), .val (.ref b2), .val (.int (9 : Int32)), .val (.ref s_DATE), .val (.int (0 : Int32)), .val (.int (0 : Int32)), .unset]) rfl ?_
      refine XS.iload X116.here hx rfl (hb hby at_148) rfl ?_
      refine XS.iload X116.here hx rfl (hb hby at_150) rfl ?_
      refine XS.icmpYes X116.here hx rfl (pc0 := 152) (pc' := 157) rfl (hb hby at_152) rfl (teq (by decide : (0 : Int32) = (0 : Int32))).1 (by decide) (by decide) ?_
      refine XS.iload X116.here hx rfl (hb hby at_157) rfl ?_
      refine XS.ifYes X116.here hx rfl (pc0 := 159) (pc' := 195) rfl (hb hby at_159) rfl ((if0 _ _).trans (teq (by decide : (0 : Int32) = (0 : Int32))).1) (by decide) (by decide) ?_
      refine XS.iconst X116.here hx rfl (hb hby at_195) ?_
      exact kt
    obtain ⟨fs_, hr_, hrun_, hended_, hW_, hsame_⟩ := X116.leave (v := some (.int (1 : Int32))) (fun h => by rw [Bd.returns] at h; cases h)
    refine ⟨_, _, pre0 _ (r117 _ ?_), hrun_, hended_, _, _, rfl, ?_, ⟨_, rfl⟩, hW_, hsame_.mono (by decide) (by decide)⟩
    · exact retN X116 hx (t := .boolean) Bd.returns (by simp) (hb hby at_196) hr_
    · show Q_law Z pw pp s_VARCHAR s_CHAR s_SMALLINT s_INTEGER s_BIGINT s_BOOLEAN s_REAL s_DOUBLE s_NUMERIC s_DATE s_TIME s_TIMESTAMP s_TIMESTAMP_TZ s_ENUM_NAME s_ENUM_ORDINAL s_ENUM_VALUE s_EL h0 n0 _ T116.heap _
      rw [e116]
      exact ⟨rfl, N116⟩
  · skip
    have r119 : own_R p e below _ _ T66 (mkF m 119 #[.val (.int pw), .val (.int pp), .val (.ref b2), .val (.int (10 : Int32)), .unset, .unset, .unset, .unset] [(.int (10 : Int32)), (.ref b2)]) := r67.trans fun z_ kt => by
      refine XS.aloadN X66.here hx rfl (hb hby at_117) rfl rfl ?_
      refine XS.iloadN X66.here hx rfl (hb hby at_118) rfl ?_
      exact kt
    obtain ⟨cl118, Ar118, q118, S118, M118, H118, G118⟩ := id V66
    have hin118 : ¬ ((10 : Int32) < 0 ∨ cl118.slots.size ≤ ((10 : Int32)).toNatClampNeg) := inb_of S118 ⟨by decide, by decide⟩
    have hat118 : cl118.slots[((10 : Int32)).toNatClampNeg]? = some (.ref s_TIME) := Has.at H118 hin118 rfl
    have r120 : own_R p e below _ _ T66 (mkF m 143 #[.val (.int pw), .val (.int pp), .val (.ref b2), .val (.int (10 : Int32)), .val (.ref s_TIME), .val (.int (1 : Int32)), .unset, .unset] [(.ref s_TIME)]) := r119.trans fun z_ kt => by
      refine X66.aaload hx (j := (10 : Int32)) (v := (.ref s_TIME)) (by rw [e66]; exact Ar118.1) (State.isArrayOf_alike hZ.alike Ar118.2.1) rfl Ar118.2.2 hin118 hat118 (g := (mkF m 119 #[.val (.int pw), .val (.int pp), .val (.ref b2), .val (.int (10 : Int32)), .unset, .unset, .unset, .unset] [(.int (10 : Int32)), (.ref b2)])) rfl rfl (hb hby at_119) _ ?_
      refine XS.astore X66.here hx rfl (hb hby at_120) rfl rfl (l' := #[.val (.int pw), .val (.int pp), .val (.ref b2), .val (.int (10 : Int32)), .val (.ref s_TIME), .unset, .unset, .unset]) rfl ?_
      refine XS.iloadN X66.here hx rfl (hb hby at_122) rfl ?_
      refine XS.bipush X66.here hx rfl (hb hby at_123) ?_
      refine XS.icmpNo X66.here hx rfl (hb hby at_125) rfl (flt (by decide : ¬ ((10 : Int32) < (10 : Int32)))).1 ?_
      refine XS.iloadN X66.here hx rfl (hb hby at_128) rfl ?_
      refine XS.bipush X66.here hx rfl (hb hby at_129) ?_
      refine XS.icmpNo X66.here hx rfl (hb hby at_131) rfl (flt (by decide : ¬ ((12 : Int32) < (10 : Int32)))).2.2.1 ?_
      refine XS.iconst X66.here hx rfl (hb hby at_134) ?_
      refine XS.goto X66.here hx rfl (pc0 := 135) (pc' := 139) rfl (hb hby at_135) (by decide) (by decide) ?_
      refine XS.istore X66.here hx rfl (hb hby at_139) rfl (l' := #[.val (.int pw), .val (.int pp), .val (.ref b2), .val (.int (10 : Int32)), .val (.ref s_TIME), .val (.int (1 : Int32)), .unset, .unset]) rfl ?_
      refine XS.aload X66.here hx rfl (hb hby at_141) rfl rfl ?_
      exact kt
    obtain ⟨cq121, kq121, q121a, q121b, q121c⟩ := isOf hZ e66 (OE_s_TIME.ext O66.2)
    obtain ⟨_, _, ⟨T121, L121, cc121, n121⟩, -, X121, ⟨Lc121, hQ121, l121, y121, z121⟩, st121⟩ := X66.virtualBack hx (y := (⟨"com/example/blindern/blindern/mapping/ColumnType$Kind", "takesSecondPrecision", "()Z"⟩ : MethodName)) (z := (⟨"com/example/blindern/blindern/mapping/ColumnType$Kind", "takesSecondPrecision", "()Z"⟩ : MethodName)) hown (mvT hZ (hw _ (own_g (i := 36) rfl))) (mvT hZ (hw _ (own_g (i := 37) rfl))) (notFace_of_selects (args := #[]) (mvT hZ (hw _ (own_g (i := 39) rfl)))) (mvT hZ (hw _ (own_g (i := 39) rfl))) (mvT hZ (hw _ (own_g (i := 38) rfl))) (by decide) (backOf (W := 0) (rm_takes l Z a0 hw [] (s_TIME) (s_TIME) (s_TIMESTAMP) (s_TIMESTAMP_TZ) ((1 : Int32)) h66 n0 O66 (S_ColumnType_Kind_TIME) (S_ColumnType_Kind_TIMESTAMP) (S_ColumnType_Kind_TIMESTAMP_TZ) (Or.inl ⟨rfl, rfl⟩)) hZ (hw _ (own_g (i := 40) rfl)) (hw _ (own_g (i := 3) rfl)) (by decide) (by decide)) q121a q121c (g := (mkF m 143 #[.val (.int pw), .val (.int pp), .val (.ref b2), .val (.int (10 : Int32)), .val (.ref s_TIME), .val (.int (1 : Int32)), .unset, .unset] [(.ref s_TIME)])) rfl (by rw [hml]; rfl) (Steps.refl _) (argsL := []) (rest := []) (lenOf pd_3 rfl) rfl (by show 2 * 0 + _ ≤ _; exact Nat.le_of_eq rfl) (hb hby at_143) (fun _ _ => ⟨rfl, e66, (by decide : 1 + 0 ≤ _), (by decide : 16 + 0 ≤ _)⟩)
    dsimp only [Pt.U, Pt.locs, Pt.cells, Pt.slots] at X121 l121 y121 z121 st121 hQ121
    subst l121 y121 z121
    obtain ⟨rfl, Nq121, eq121⟩ := hQ121
    have N121 := Fr.app N66 Nq121
    have r121 : own_R p e below _ _ T121 (mkF m 146 #[.val (.int pw), .val (.int pp), .val (.ref b2), .val (.int (10 : Int32)), .val (.ref s_TIME), .val (.int (1 : Int32)), .unset, .unset] [(.int (1 : Int32))]) := r120.trans fun z_ kt => st121.trans kt
    have e121 : T121.heap = h66 := eq121
    have r122 : own_R p e below _ _ T121 (mkF m 165 #[.val (.int pw), .val (.int pp), .val (.ref b2), .val (.int (10 : Int32)), .val (.ref s_TIME), .val (.int (1 : Int32)), .val (.int (1 : Int32)), .unset] [(.int pp), (.ref s_TIME)]) := r121.trans fun z_ kt => by
      refine XS.istore X121.here hx rfl (hb hby at_146) rfl (l' := #[.val (.int pw), .val (.int pp), .val (.ref b2), .val (.int (10 : Int32)), .val (.ref s_TIME), .val (.int (1 : Int32)), .val (.int (1 : Int32)), .unset]) rfl ?_
      refine XS.iload X121.here hx rfl (hb hby at_148) rfl ?_
      refine XS.iload X121.here hx rfl (hb hby at_150) rfl ?_
      refine XS.icmpYes X121.here hx rfl (pc0 := 152) (pc' := 157) rfl (hb hby at_152) rfl (teq (by decide : (1 : Int32) = (1 : Int32))).1 (by decide) (by decide) ?_
      refine XS.iload X121.here hx rfl (hb hby at_157) rfl ?_
      refine XS.ifNo X121.here hx rfl (hb hby at_159) rfl ((if0 _ _).trans (feq (by decide : ¬ ((1 : Int32) = (0 : Int32)))).1) ?_
      refine XS.aload X121.here hx rfl (hb hby at_162) rfl rfl ?_
      refine XS.iloadN X121.here hx rfl (hb hby at_164) rfl ?_
      exact kt
    obtain ⟨_, _, ⟨T123, L123, cc123, n123⟩, -, X123, ⟨Lc123, hQ123, l123, y123, z123⟩, st123⟩ := Jvm.LawKit.callS X121 hx (y := (⟨"com/example/blindern/blindern/mapping/ColumnType", "temporal", "(Lcom/example/blindern/blindern/mapping/ColumnType$Kind;I)Lcom/example/blindern/blindern/mapping/ColumnType;"⟩ : MethodName)) hown (mvT hZ (hw _ (own_g (i := 44) rfl))) (mvT hZ (hw _ (own_g (i := 45) rfl))) (mvT hZ (hw _ (own_g (i := 46) rfl))) (mvT hZ (hw _ (own_g (i := 47) rfl))) (by decide) (backOf (W := 0) (rm_temporal l Z a0 hw [] (s_TIME) (pp) (s_TIME) (s_TIMESTAMP) (s_TIMESTAMP_TZ) (s_EL) h66 n0 O66 (S_ColumnType_Kind_TIME) (S_ColumnType_Kind_TIMESTAMP) (S_ColumnType_Kind_TIMESTAMP_TZ) (S_ImmutableCollections_EMPTY_LIST) (OE_s_EL) (OF_s_EL_allowNulls) (OE_s_TIME) (Or.inl rfl)) hZ (hw _ (own_g (i := 47) rfl)) (hw _ (own_g (i := 46) rfl)) (by decide) (by decide)) (g := (mkF m 165 #[.val (.int pw), .val (.int pp), .val (.ref b2), .val (.int (10 : Int32)), .val (.ref s_TIME), .val (.int (1 : Int32)), .val (.int (1 : Int32)), .unset] [(.int pp), (.ref s_TIME)])) rfl (by rw [hml]; rfl) (argsL := [(.ref s_TIME), (.int pp)]) (rest := []) (lenOf pd_5 rfl) rfl (by show 2 * 0 + _ ≤ _; exact Nat.le_of_eq rfl) (hb hby at_165) (fun _ _ => ⟨rfl, e121, (by decide : 1 + 1 ≤ _), (by decide : 16 + 10 ≤ _)⟩)
    dsimp only [Pt.U, Pt.locs, Pt.cells, Pt.slots] at X123 l123 y123 z123 st123 hQ123
    subst l123 y123 z123
    obtain ⟨h123, e123⟩ : ∃ z, T123.heap = z := ⟨_, rfl⟩
    rw [e123] at hQ123
    obtain ⟨b_123, rfl, Nq123, Kq123, p123_0, p123_1, p123_2, p123_3⟩ := hQ123
    have N123 := Fr.app N121 Nq123
    have r123 : own_R p e below _ _ T123 (mkF m 168 #[.val (.int pw), .val (.int pp), .val (.ref b2), .val (.int (10 : Int32)), .val (.ref s_TIME), .val (.int (1 : Int32)), .val (.int (1 : Int32)), .unset] [(.ref b_123)]) := r122.trans fun z_ kt => st123 _ kt
    have ne_b2_b_123 : b2 ≠ b_123 := Nat.ne_of_lt (Nat.lt_of_lt_of_le V66.lt p123_0)
    have g_b_123 : n0 ≤ b_123 := Nat.le_trans (own_old_size O66) p123_0
    have O123 := O66.keep Kq123 all0
    have r124 : own_R p e below _ _ T123 (mkF m 172 #[.val (.int pw), .val (.int pp), .val (.ref b2), .val (.int (10 : Int32)), .val (.ref s_TIME), .val (.int (1 : Int32)), .val (.int (1 : Int32)), .val (.ref b_123)] [(.ref b_123)]) := r123.trans fun z_ kt => by
      refine XS.astore X123.here hx rfl (hb hby at_168) rfl rfl (l' := #[.val (.int pw), .val (.int pp), .val (.ref b2), .val (.int (10 : Int32)), .val (.ref s_TIME), .val (.int (1 : Int32)), .val (.int (1 : Int32)), .val (.ref b_123)]) rfl ?_
      refine XS.aload X123.here hx rfl (hb hby at_170) rfl rfl ?_
      exact kt
    obtain ⟨cq125, kq125, q125a, q125b, q125c⟩ := isOf hZ e123 p123_1
    obtain ⟨_, _, ⟨T125, L125, cc125, n125⟩, -, X125, ⟨Lc125, hQ125, l125, y125, z125⟩, st125⟩ := X123.virtualBack hx (y := (⟨"com/example/blindern/blindern/mapping/ColumnType", "kind", "()Lcom/example/blindern/blindern/mapping/ColumnType$Kind;"⟩ : MethodName)) (z := (⟨"com/example/blindern/blindern/mapping/ColumnType", "kind", "()Lcom/example/blindern/blindern/mapping/ColumnType$Kind;"⟩ : MethodName)) hown (mvT hZ (hw _ (own_g (i := 104) rfl))) (mvT hZ (hw _ (own_g (i := 105) rfl))) (notFace_of_selects (args := #[]) (mvT hZ (hw _ (own_g (i := 107) rfl)))) (mvT hZ (hw _ (own_g (i := 107) rfl))) (mvT hZ (hw _ (own_g (i := 106) rfl))) (by decide) (backOf (W := 0) (rm_kind l Z a0 hw [] (b_123) (s_TIME) h123 n0 O123 (p123_2)) hZ (hw _ (own_g (i := 108) rfl)) (hw _ (own_g (i := 46) rfl)) (by decide) (by decide)) q125a q125c (g := (mkF m 172 #[.val (.int pw), .val (.int pp), .val (.ref b2), .val (.int (10 : Int32)), .val (.ref s_TIME), .val (.int (1 : Int32)), .val (.int (1 : Int32)), .val (.ref b_123)] [(.ref b_123)])) rfl (by rw [hml]; rfl) (Steps.refl _) (argsL := []) (rest := []) (lenOf pd_6 rfl) rfl (by show 2 * 0 + _ ≤ _; exact Nat.le_of_eq rfl) (hb hby at_172) (fun _ _ => ⟨rfl, e123, (by decide : 2 + 0 ≤ _), (by decide : 26 + 0 ≤ _)⟩)
    dsimp only [Pt.U, Pt.locs, Pt.cells, Pt.slots] at X125 l125 y125 z125 st125 hQ125
    subst l125 y125 z125
    obtain ⟨rfl, Nq125, eq125⟩ := hQ125
    have N125 := Fr.app N123 Nq125
    have r125 : own_R p e below _ _ T125 (mkF m 175 #[.val (.int pw), .val (.int pp), .val (.ref b2), .val (.int (10 : Int32)), .val (.ref s_TIME), .val (.int (1 : Int32)), .val (.int (1 : Int32)), .val (.ref b_123)] [(.ref s_TIME)]) := r124.trans fun z_ kt => st125.trans kt
    have e125 : T125.heap = h123 := eq125
    have r126 : own_R p e below _ _ T125 (mkF m 182 #[.val (.int pw), .val (.int pp), .val (.ref b2), .val (.int (10 : Int32)), .val (.ref s_TIME), .val (.int (1 : Int32)), .val (.int (1 : Int32)), .val (.ref b_123)] [(.ref b_123)]) := r125.trans fun z_ kt => by
      refine XS.aload X125.here hx rfl (hb hby at_175) rfl rfl ?_
      refine Jvm.RoadKit.acmp (g := (mkF m 177 #[.val (.int pw), .val (.int pp), .val (.ref b2), .val (.int (10 : Int32)), .val (.ref s_TIME), .val (.int (1 : Int32)), .val (.int (1 : Int32)), .val (.ref b_123)] [(.ref s_TIME), (.ref s_TIME)])) X125 hx rfl rfl rfl (pc0 := 177) (pc' := 180) (same := true) rfl (hb hby at_177) rfl (decide_eq_true rfl) (by decide) (by decide) ?_
      refine XS.aload X125.here hx rfl (hb hby at_180) rfl rfl ?_
      exact kt
    obtain ⟨cq127, kq127, q127a, q127b, q127c⟩ := isOf hZ e125 p123_1
    obtain ⟨_, _, ⟨T127, L127, cc127, n127⟩, -, X127, ⟨Lc127, hQ127, l127, y127, z127⟩, st127⟩ := X125.virtualBack hx (y := (⟨"com/example/blindern/blindern/mapping/ColumnType", "precision", "()I"⟩ : MethodName)) (z := (⟨"com/example/blindern/blindern/mapping/ColumnType", "precision", "()I"⟩ : MethodName)) hown (mvT hZ (hw _ (own_g (i := 109) rfl))) (mvT hZ (hw _ (own_g (i := 110) rfl))) (notFace_of_selects (args := #[]) (mvT hZ (hw _ (own_g (i := 112) rfl)))) (mvT hZ (hw _ (own_g (i := 112) rfl))) (mvT hZ (hw _ (own_g (i := 111) rfl))) (by decide) (backOf (W := 0) (rm_precision l Z a0 hw [] (b_123) (pp) h123 n0 O123 (p123_3)) hZ (hw _ (own_g (i := 113) rfl)) (hw _ (own_g (i := 46) rfl)) (by decide) (by decide)) q127a q127c (g := (mkF m 182 #[.val (.int pw), .val (.int pp), .val (.ref b2), .val (.int (10 : Int32)), .val (.ref s_TIME), .val (.int (1 : Int32)), .val (.int (1 : Int32)), .val (.ref b_123)] [(.ref b_123)])) rfl (by rw [hml]; rfl) (Steps.refl _) (argsL := []) (rest := []) (lenOf pd_7 rfl) rfl (by show 2 * 0 + _ ≤ _; exact Nat.le_of_eq rfl) (hb hby at_182) (fun _ _ => ⟨rfl, e125, (by decide : 2 + 0 ≤ _), (by decide : 26 + 0 ≤ _)⟩)
    dsimp only [Pt.U, Pt.locs, Pt.cells, Pt.slots] at X127 l127 y127 z127 st127 hQ127
    subst l127 y127 z127
    obtain ⟨rfl, Nq127, eq127⟩ := hQ127
    have N127 := Fr.app N125 Nq127
    have r127 : own_R p e below _ _ T127 (mkF m 185 #[.val (.int pw), .val (.int pp), .val (.ref b2), .val (.int (10 : Int32)), .val (.ref s_TIME), .val (.int (1 : Int32)), .val (.int (1 : Int32)), .val (.ref b_123)] [(.int pp)]) := r126.trans fun z_ kt => st127.trans kt
    have e127 : T127.heap = h123 := eq127
    have r128 : own_R p e below _ _ T127 (mkF m 194 #[.val (.int pw), .val (.int pp), .val (.ref b2), .val (.int (10 : Int32)), .val (.ref s_TIME), .val (.int (1 : Int32)), .val (.int (1 : Int32)), .val (.ref b_123)] [(.int (1 : Int32))]) := r127.trans fun z_ kt => by
      refine XS.iloadN X127.here hx rfl (hb hby at_185) rfl ?_
      refine XS.icmpNo X127.here hx rfl (hb hby at_186) rfl (teq (rfl : pp = pp)).2 ?_
      refine XS.iconst X127.here hx rfl (hb hby at_189) ?_
      refine XS.goto X127.here hx rfl (pc0 := 190) (pc' := 194) rfl (hb hby at_190) (by decide) (by decide) ?_
      exact kt
    obtain ⟨fs_, hr_, hrun_, hended_, hW_, hsame_⟩ := X127.leave (v := some (.int (1 : Int32))) (fun h => by rw [Bd.returns] at h; cases h)
    refine ⟨_, _, pre0 _ (r128 _ ?_), hrun_, hended_, _, _, rfl, ?_, ⟨_, rfl⟩, hW_, hsame_.mono (by decide) (by decide)⟩
    · exact retN X127 hx (t := .boolean) Bd.returns (by simp) (hb hby at_194) hr_
    · show Q_law Z pw pp s_VARCHAR s_CHAR s_SMALLINT s_INTEGER s_BIGINT s_BOOLEAN s_REAL s_DOUBLE s_NUMERIC s_DATE s_TIME s_TIMESTAMP s_TIMESTAMP_TZ s_ENUM_NAME s_ENUM_ORDINAL s_ENUM_VALUE s_EL h0 n0 _ T127.heap _
      rw [e127]
      exact ⟨rfl, N127⟩
  · skip
    have r130 : own_R p e below _ _ T66 (mkF m 119 #[.val (.int pw), .val (.int pp), .val (.ref b2), .val (.int (11 : Int32)), .unset, .unset, .unset, .unset] [(.int (11 : Int32)), (.ref b2)]) := r67.trans fun z_ kt => by
      refine XS.aloadN X66.here hx rfl (hb hby at_117) rfl rfl ?_
      refine XS.iloadN X66.here hx rfl (hb hby at_118) rfl ?_
      exact kt
    obtain ⟨cl129, Ar129, q129, S129, M129, H129, G129⟩ := id V66
    have hin129 : ¬ ((11 : Int32) < 0 ∨ cl129.slots.size ≤ ((11 : Int32)).toNatClampNeg) := inb_of S129 ⟨by decide, by decide⟩
    have hat129 : cl129.slots[((11 : Int32)).toNatClampNeg]? = some (.ref s_TIMESTAMP) := Has.at H129 hin129 rfl
    have r131 : own_R p e below _ _ T66 (mkF m 143 #[.val (.int pw), .val (.int pp), .val (.ref b2), .val (.int (11 : Int32)), .val (.ref s_TIMESTAMP), .val (.int (1 : Int32)), .unset, .unset] [(.ref s_TIMESTAMP)]) := r130.trans fun z_ kt => by
      refine X66.aaload hx (j := (11 : Int32)) (v := (.ref s_TIMESTAMP)) (by rw [e66]; exact Ar129.1) (State.isArrayOf_alike hZ.alike Ar129.2.1) rfl Ar129.2.2 hin129 hat129 (g := (mkF m 119 #[.val (.int pw), .val (.int pp), .val (.ref b2), .val (.int (11 : Int32)), .unset, .unset, .unset, .unset] [(.int (11 : Int32)), (.ref b2)])) rfl rfl (hb hby at_119) _ ?_
      refine XS.astore X66.here hx rfl (hb hby at_120) rfl rfl (l' := #[.val (.int pw), .val (.int pp), .val (.ref b2), .val (.int (11 : Int32)), .val (.ref s_TIMESTAMP), .unset, .unset, .unset]) rfl ?_
      refine XS.iloadN X66.here hx rfl (hb hby at_122) rfl ?_
      refine XS.bipush X66.here hx rfl (hb hby at_123) ?_
      refine XS.icmpNo X66.here hx rfl (hb hby at_125) rfl (flt (by decide : ¬ ((11 : Int32) < (10 : Int32)))).1 ?_
      refine XS.iloadN X66.here hx rfl (hb hby at_128) rfl ?_
      refine XS.bipush X66.here hx rfl (hb hby at_129) ?_
      refine XS.icmpNo X66.here hx rfl (hb hby at_131) rfl (flt (by decide : ¬ ((12 : Int32) < (11 : Int32)))).2.2.1 ?_
      refine XS.iconst X66.here hx rfl (hb hby at_134) ?_
      refine XS.goto X66.here hx rfl (pc0 := 135) (pc' := 139) rfl (hb hby at_135) (by decide) (by decide) ?_
      refine XS.istore X66.here hx rfl (hb hby at_139) rfl (l' := #[.val (.int pw), .val (.int pp), .val (.ref b2), .val (.int (11 : Int32)), .val (.ref s_TIMESTAMP), .val (.int (1 : Int32)), .unset, .unset]) rfl ?_
      refine XS.aload X66.here hx rfl (hb hby at_141) rfl rfl ?_
      exact kt
    obtain ⟨cq132, kq132, q132a, q132b, q132c⟩ := isOf hZ e66 (OE_s_TIMESTAMP.ext O66.2)
    obtain ⟨_, _, ⟨T132, L132, cc132, n132⟩, -, X132, ⟨Lc132, hQ132, l132, y132, z132⟩, st132⟩ := X66.virtualBack hx (y := (⟨"com/example/blindern/blindern/mapping/ColumnType$Kind", "takesSecondPrecision", "()Z"⟩ : MethodName)) (z := (⟨"com/example/blindern/blindern/mapping/ColumnType$Kind", "takesSecondPrecision", "()Z"⟩ : MethodName)) hown (mvT hZ (hw _ (own_g (i := 36) rfl))) (mvT hZ (hw _ (own_g (i := 37) rfl))) (notFace_of_selects (args := #[]) (mvT hZ (hw _ (own_g (i := 39) rfl)))) (mvT hZ (hw _ (own_g (i := 39) rfl))) (mvT hZ (hw _ (own_g (i := 38) rfl))) (by decide) (backOf (W := 0) (rm_takes l Z a0 hw [] (s_TIMESTAMP) (s_TIME) (s_TIMESTAMP) (s_TIMESTAMP_TZ) ((1 : Int32)) h66 n0 O66 (S_ColumnType_Kind_TIME) (S_ColumnType_Kind_TIMESTAMP) (S_ColumnType_Kind_TIMESTAMP_TZ) (Or.inr (Or.inl ⟨Fld.ne OF_s_TIMESTAMP_ordinal OF_s_TIME_ordinal (by decide), rfl, rfl⟩))) hZ (hw _ (own_g (i := 40) rfl)) (hw _ (own_g (i := 3) rfl)) (by decide) (by decide)) q132a q132c (g := (mkF m 143 #[.val (.int pw), .val (.int pp), .val (.ref b2), .val (.int (11 : Int32)), .val (.ref s_TIMESTAMP), .val (.int (1 : Int32)), .unset, .unset] [(.ref s_TIMESTAMP)])) rfl (by rw [hml]; rfl) (Steps.refl _) (argsL := []) (rest := []) (lenOf pd_3 rfl) rfl (by show 2 * 0 + _ ≤ _; exact Nat.le_of_eq rfl) (hb hby at_143) (fun _ _ => ⟨rfl, e66, (by decide : 1 + 0 ≤ _), (by decide : 16 + 0 ≤ _)⟩)
    dsimp only [Pt.U, Pt.locs, Pt.cells, Pt.slots] at X132 l132 y132 z132 st132 hQ132
    subst l132 y132 z132
    obtain ⟨rfl, Nq132, eq132⟩ := hQ132
    have N132 := Fr.app N66 Nq132
    have r132 : own_R p e below _ _ T132 (mkF m 146 #[.val (.int pw), .val (.int pp), .val (.ref b2), .val (.int (11 : Int32)), .val (.ref s_TIMESTAMP), .val (.int (1 : Int32)), .unset, .unset] [(.int (1 : Int32))]) := r131.trans fun z_ kt => st132.trans kt
    have e132 : T132.heap = h66 := eq132
    have r133 : own_R p e below _ _ T132 (mkF m 165 #[.val (.int pw), .val (.int pp), .val (.ref b2), .val (.int (11 : Int32)), .val (.ref s_TIMESTAMP), .val (.int (1 : Int32)), .val (.int (1 : Int32)), .unset] [(.int pp), (.ref s_TIMESTAMP)]) := r132.trans fun z_ kt => by
      refine XS.istore X132.here hx rfl (hb hby at_146) rfl (l' := #[.val (.int pw), .val (.int pp), .val (.ref b2), .val (.int (11 : Int32)), .val (.ref s_TIMESTAMP), .val (.int (1 : Int32)), .val (.int (1 : Int32)), .unset]) rfl ?_
      refine XS.iload X132.here hx rfl (hb hby at_148) rfl ?_
      refine XS.iload X132.here hx rfl (hb hby at_150) rfl ?_
      refine XS.icmpYes X132.here hx rfl (pc0 := 152) (pc' := 157) rfl (hb hby at_152) rfl (teq (by decide : (1 : Int32) = (1 : Int32))).1 (by decide) (by decide) ?_
      refine XS.iload X132.here hx rfl (hb hby at_157) rfl ?_
      refine XS.ifNo X132.here hx rfl (hb hby at_159) rfl ((if0 _ _).trans (feq (by decide : ¬ ((1 : Int32) = (0 : Int32)))).1) ?_
      refine XS.aload X132.here hx rfl (hb hby at_162) rfl rfl ?_
      refine XS.iloadN X132.here hx rfl (hb hby at_164) rfl ?_
      exact kt
    obtain ⟨_, _, ⟨T134, L134, cc134, n134⟩, -, X134, ⟨Lc134, hQ134, l134, y134, z134⟩, st134⟩ := Jvm.LawKit.callS X132 hx (y := (⟨"com/example/blindern/blindern/mapping/ColumnType", "temporal", "(Lcom/example/blindern/blindern/mapping/ColumnType$Kind;I)Lcom/example/blindern/blindern/mapping/ColumnType;"⟩ : MethodName)) hown (mvT hZ (hw _ (own_g (i := 44) rfl))) (mvT hZ (hw _ (own_g (i := 45) rfl))) (mvT hZ (hw _ (own_g (i := 46) rfl))) (mvT hZ (hw _ (own_g (i := 47) rfl))) (by decide) (backOf (W := 0) (rm_temporal l Z a0 hw [] (s_TIMESTAMP) (pp) (s_TIME) (s_TIMESTAMP) (s_TIMESTAMP_TZ) (s_EL) h66 n0 O66 (S_ColumnType_Kind_TIME) (S_ColumnType_Kind_TIMESTAMP) (S_ColumnType_Kind_TIMESTAMP_TZ) (S_ImmutableCollections_EMPTY_LIST) (OE_s_EL) (OF_s_EL_allowNulls) (OE_s_TIMESTAMP) (Or.inr (Or.inl ⟨Fld.ne OF_s_TIMESTAMP_ordinal OF_s_TIME_ordinal (by decide), rfl⟩))) hZ (hw _ (own_g (i := 47) rfl)) (hw _ (own_g (i := 46) rfl)) (by decide) (by decide)) (g := (mkF m 165 #[.val (.int pw), .val (.int pp), .val (.ref b2), .val (.int (11 : Int32)), .val (.ref s_TIMESTAMP), .val (.int (1 : Int32)), .val (.int (1 : Int32)), .unset] [(.int pp), (.ref s_TIMESTAMP)])) rfl (by rw [hml]; rfl) (argsL := [(.ref s_TIMESTAMP), (.int pp)]) (rest := []) (lenOf pd_5 rfl) rfl (by show 2 * 0 + _ ≤ _; exact Nat.le_of_eq rfl) (hb hby at_165) (fun _ _ => ⟨rfl, e132, (by decide : 1 + 1 ≤ _), (by decide : 16 + 10 ≤ _)⟩)
    dsimp only [Pt.U, Pt.locs, Pt.cells, Pt.slots] at X134 l134 y134 z134 st134 hQ134
    subst l134 y134 z134
    obtain ⟨h134, e134⟩ : ∃ z, T134.heap = z := ⟨_, rfl⟩
    rw [e134] at hQ134
    obtain ⟨b_134, rfl, Nq134, Kq134, p134_0, p134_1, p134_2, p134_3⟩ := hQ134
    have N134 := Fr.app N132 Nq134
    have r134 : own_R p e below _ _ T134 (mkF m 168 #[.val (.int pw), .val (.int pp), .val (.ref b2), .val (.int (11 : Int32)), .val (.ref s_TIMESTAMP), .val (.int (1 : Int32)), .val (.int (1 : Int32)), .unset] [(.ref b_134)]) := r133.trans fun z_ kt => st134 _ kt
    have ne_b2_b_134 : b2 ≠ b_134 := Nat.ne_of_lt (Nat.lt_of_lt_of_le V66.lt p134_0)
    have g_b_134 : n0 ≤ b_134 := Nat.le_trans (own_old_size O66) p134_0
    have O134 := O66.keep Kq134 all0
    have r135 : own_R p e below _ _ T134 (mkF m 172 #[.val (.int pw), .val (.int pp), .val (.ref b2), .val (.int (11 : Int32)), .val (.ref s_TIMESTAMP), .val (.int (1 : Int32)), .val (.int (1 : Int32)), .val (.ref b_134)] [(.ref b_134)]) := r134.trans fun z_ kt => by
      refine XS.astore X134.here hx rfl (hb hby at_168) rfl rfl (l' := #[.val (.int pw), .val (.int pp), .val (.ref b2), .val (.int (11 : Int32)), .val (.ref s_TIMESTAMP), .val (.int (1 : Int32)), .val (.int (1 : Int32)), .val (.ref b_134)]) rfl ?_
      refine XS.aload X134.here hx rfl (hb hby at_170) rfl rfl ?_
      exact kt
    obtain ⟨cq136, kq136, q136a, q136b, q136c⟩ := isOf hZ e134 p134_1
    obtain ⟨_, _, ⟨T136, L136, cc136, n136⟩, -, X136, ⟨Lc136, hQ136, l136, y136, z136⟩, st136⟩ := X134.virtualBack hx (y := (⟨"com/example/blindern/blindern/mapping/ColumnType", "kind", "()Lcom/example/blindern/blindern/mapping/ColumnType$Kind;"⟩ : MethodName)) (z := (⟨"com/example/blindern/blindern/mapping/ColumnType", "kind", "()Lcom/example/blindern/blindern/mapping/ColumnType$Kind;"⟩ : MethodName)) hown (mvT hZ (hw _ (own_g (i := 104) rfl))) (mvT hZ (hw _ (own_g (i := 105) rfl))) (notFace_of_selects (args := #[]) (mvT hZ (hw _ (own_g (i := 107) rfl)))) (mvT hZ (hw _ (own_g (i := 107) rfl))) (mvT hZ (hw _ (own_g (i := 106) rfl))) (by decide) (backOf (W := 0) (rm_kind l Z a0 hw [] (b_134) (s_TIMESTAMP) h134 n0 O134 (p134_2)) hZ (hw _ (own_g (i := 108) rfl)) (hw _ (own_g (i := 46) rfl)) (by decide) (by decide)) q136a q136c (g := (mkF m 172 #[.val (.int pw), .val (.int pp), .val (.ref b2), .val (.int (11 : Int32)), .val (.ref s_TIMESTAMP), .val (.int (1 : Int32)), .val (.int (1 : Int32)), .val (.ref b_134)] [(.ref b_134)])) rfl (by rw [hml]; rfl) (Steps.refl _) (argsL := []) (rest := []) (lenOf pd_6 rfl) rfl (by show 2 * 0 + _ ≤ _; exact Nat.le_of_eq rfl) (hb hby at_172) (fun _ _ => ⟨rfl, e134, (by decide : 2 + 0 ≤ _), (by decide : 26 + 0 ≤ _)⟩)
    dsimp only [Pt.U, Pt.locs, Pt.cells, Pt.slots] at X136 l136 y136 z136 st136 hQ136
    subst l136 y136 z136
    obtain ⟨rfl, Nq136, eq136⟩ := hQ136
    have N136 := Fr.app N134 Nq136
    have r136 : own_R p e below _ _ T136 (mkF m 175 #[.val (.int pw), .val (.int pp), .val (.ref b2), .val (.int (11 : Int32)), .val (.ref s_TIMESTAMP), .val (.int (1 : Int32)), .val (.int (1 : Int32)), .val (.ref b_134)] [(.ref s_TIMESTAMP)]) := r135.trans fun z_ kt => st136.trans kt
    have e136 : T136.heap = h134 := eq136
    have r137 : own_R p e below _ _ T136 (mkF m 182 #[.val (.int pw), .val (.int pp), .val (.ref b2), .val (.int (11 : Int32)), .val (.ref s_TIMESTAMP), .val (.int (1 : Int32)), .val (.int (1 : Int32)), .val (.ref b_134)] [(.ref b_134)]) := r136.trans fun z_ kt => by
      refine XS.aload X136.here hx rfl (hb hby at_175) rfl rfl ?_
      refine Jvm.RoadKit.acmp (g := (mkF m 177 #[.val (.int pw), .val (.int pp), .val (.ref b2), .val (.int (11 : Int32)), .val (.ref s_TIMESTAMP), .val (.int (1 : Int32)), .val (.int (1 : Int32)), .val (.ref b_134)] [(.ref s_TIMESTAMP), (.ref s_TIMESTAMP)])) X136 hx rfl rfl rfl (pc0 := 177) (pc' := 180) (same := true) rfl (hb hby at_177) rfl (decide_eq_true rfl) (by decide) (by decide) ?_
      refine XS.aload X136.here hx rfl (hb hby at_180) rfl rfl ?_
      exact kt
    obtain ⟨cq138, kq138, q138a, q138b, q138c⟩ := isOf hZ e136 p134_1
    obtain ⟨_, _, ⟨T138, L138, cc138, n138⟩, -, X138, ⟨Lc138, hQ138, l138, y138, z138⟩, st138⟩ := X136.virtualBack hx (y := (⟨"com/example/blindern/blindern/mapping/ColumnType", "precision", "()I"⟩ : MethodName)) (z := (⟨"com/example/blindern/blindern/mapping/ColumnType", "precision", "()I"⟩ : MethodName)) hown (mvT hZ (hw _ (own_g (i := 109) rfl))) (mvT hZ (hw _ (own_g (i := 110) rfl))) (notFace_of_selects (args := #[]) (mvT hZ (hw _ (own_g (i := 112) rfl)))) (mvT hZ (hw _ (own_g (i := 112) rfl))) (mvT hZ (hw _ (own_g (i := 111) rfl))) (by decide) (backOf (W := 0) (rm_precision l Z a0 hw [] (b_134) (pp) h134 n0 O134 (p134_3)) hZ (hw _ (own_g (i := 113) rfl)) (hw _ (own_g (i := 46) rfl)) (by decide) (by decide)) q138a q138c (g := (mkF m 182 #[.val (.int pw), .val (.int pp), .val (.ref b2), .val (.int (11 : Int32)), .val (.ref s_TIMESTAMP), .val (.int (1 : Int32)), .val (.int (1 : Int32)), .val (.ref b_134)] [(.ref b_134)])) rfl (by rw [hml]; rfl) (Steps.refl _) (argsL := []) (rest := []) (lenOf pd_7 rfl) rfl (by show 2 * 0 + _ ≤ _; exact Nat.le_of_eq rfl) (hb hby at_182) (fun _ _ => ⟨rfl, e136, (by decide : 2 + 0 ≤ _), (by decide : 26 + 0 ≤ _)⟩)
    dsimp only [Pt.U, Pt.locs, Pt.cells, Pt.slots] at X138 l138 y138 z138 st138 hQ138
    subst l138 y138 z138
    obtain ⟨rfl, Nq138, eq138⟩ := hQ138
    have N138 := Fr.app N136 Nq138
    have r138 : own_R p e below _ _ T138 (mkF m 185 #[.val (.int pw), .val (.int pp), .val (.ref b2), .val (.int (11 : Int32)), .val (.ref s_TIMESTAMP), .val (.int (1 : Int32)), .val (.int (1 : Int32)), .val (.ref b_134)] [(.int pp)]) := r137.trans fun z_ kt => st138.trans kt
    have e138 : T138.heap = h134 := eq138
    have r139 : own_R p e below _ _ T138 (mkF m 194 #[.val (.int pw), .val (.int pp), .val (.ref b2), .val (.int (11 : Int32)), .val (.ref s_TIMESTAMP), .val (.int (1 : Int32)), .val (.int (1 : Int32)), .val (.ref b_134)] [(.int (1 : Int32))]) := r138.trans fun z_ kt => by
      refine XS.iloadN X138.here hx rfl (hb hby at_185) rfl ?_
      refine XS.icmpNo X138.here hx rfl (hb hby at_186) rfl (teq (rfl : pp = pp)).2 ?_
      refine XS.iconst X138.here hx rfl (hb hby at_189) ?_
      refine XS.goto X138.here hx rfl (pc0 := 190) (pc' := 194) rfl (hb hby at_190) (by decide) (by decide) ?_
      exact kt
    obtain ⟨fs_, hr_, hrun_, hended_, hW_, hsame_⟩ := X138.leave (v := some (.int (1 : Int32))) (fun h => by rw [Bd.returns] at h; cases h)
    refine ⟨_, _, pre0 _ (r139 _ ?_), hrun_, hended_, _, _, rfl, ?_, ⟨_, rfl⟩, hW_, hsame_.mono (by decide) (by decide)⟩
    · exact retN X138 hx (t := .boolean) Bd.returns (by simp) (hb hby at_194) hr_
    · show Q_law Z pw pp s_VARCHAR s_CHAR s_SMALLINT s_INTEGER s_BIGINT s_BOOLEAN s_REAL s_DOUBLE s_NUMERIC s_DATE s_TIME s_TIMESTAMP s_TIMESTAMP_TZ s_ENUM_NAME s_ENUM_ORDINAL s_ENUM_VALUE s_EL h0 n0 _ T138.heap _
      rw [e138]
      exact ⟨rfl, N138⟩
  · skip
    have r141 : own_R p e below _ _ T66 (mkF m 119 #[.val (.int pw), .val (.int pp), .val (.ref b2), .val (.int (12 : Int32)), .unset, .unset, .unset, .unset] [(.int (12 : Int32)), (.ref b2)]) := r67.trans fun z_ kt => by
      refine XS.aloadN X66.here hx rfl (hb hby at_117) rfl rfl ?_
      refine XS.iloadN X66.here hx rfl (hb hby at_118) rfl ?_
      exact kt
    obtain ⟨cl140, Ar140, q140, S140, M140, H140, G140⟩ := id V66
    have hin140 : ¬ ((12 : Int32) < 0 ∨ cl140.slots.size ≤ ((12 : Int32)).toNatClampNeg) := inb_of S140 ⟨by decide, by decide⟩
    have hat140 : cl140.slots[((12 : Int32)).toNatClampNeg]? = some (.ref s_TIMESTAMP_TZ) := Has.at H140 hin140 rfl
    have r142 : own_R p e below _ _ T66 (mkF m 143 #[.val (.int pw), .val (.int pp), .val (.ref b2), .val (.int (12 : Int32)), .val (.ref s_TIMESTAMP_TZ), .val (.int (1 : Int32)), .unset, .unset] [(.ref s_TIMESTAMP_TZ)]) := r141.trans fun z_ kt => by
      refine X66.aaload hx (j := (12 : Int32)) (v := (.ref s_TIMESTAMP_TZ)) (by rw [e66]; exact Ar140.1) (State.isArrayOf_alike hZ.alike Ar140.2.1) rfl Ar140.2.2 hin140 hat140 (g := (mkF m 119 #[.val (.int pw), .val (.int pp), .val (.ref b2), .val (.int (12 : Int32)), .unset, .unset, .unset, .unset] [(.int (12 : Int32)), (.ref b2)])) rfl rfl (hb hby at_119) _ ?_
      refine XS.astore X66.here hx rfl (hb hby at_120) rfl rfl (l' := #[.val (.int pw), .val (.int pp), .val (.ref b2), .val (.int (12 : Int32)), .val (.ref s_TIMESTAMP_TZ), .unset, .unset, .unset]) rfl ?_
      refine XS.iloadN X66.here hx rfl (hb hby at_122) rfl ?_
      refine XS.bipush X66.here hx rfl (hb hby at_123) ?_
      refine XS.icmpNo X66.here hx rfl (hb hby at_125) rfl (flt (by decide : ¬ ((12 : Int32) < (10 : Int32)))).1 ?_
      refine XS.iloadN X66.here hx rfl (hb hby at_128) rfl ?_
      refine XS.bipush X66.here hx rfl (hb hby at_129) ?_
      refine XS.icmpNo X66.here hx rfl (hb hby at_131) rfl (flt (by decide : ¬ ((12 : Int32) < (12 : Int32)))).2.2.1 ?_
      refine XS.iconst X66.here hx rfl (hb hby at_134) ?_
      refine XS.goto X66.here hx rfl (pc0 := 135) (pc' := 139) rfl (hb hby at_135) (by decide) (by decide) ?_
      refine XS.istore X66.here hx rfl (hb hby at_139) rfl (l' := #[.val (.int pw), .val (.int pp), .val (.ref b2), .val (.int (12 : Int32)), .val (.ref s_TIMESTAMP_TZ), .val (.int (1 : Int32)), .unset, .unset]) rfl ?_
      refine XS.aload X66.here hx rfl (hb hby at_141) rfl rfl ?_
      exact kt
    obtain ⟨cq143, kq143, q143a, q143b, q143c⟩ := isOf hZ e66 (OE_s_TIMESTAMP_TZ.ext O66.2)
    obtain ⟨_, _, ⟨T143, L143, cc143, n143⟩, -, X143, ⟨Lc143, hQ143, l143, y143, z143⟩, st143⟩ := X66.virtualBack hx (y := (⟨"com/example/blindern/blindern/mapping/ColumnType$Kind", "takesSecondPrecision", "()Z"⟩ : MethodName)) (z := (⟨"com/example/blindern/blindern/mapping/ColumnType$Kind", "takesSecondPrecision", "()Z"⟩ : MethodName)) hown (mvT hZ (hw _ (own_g (i := 36) rfl))) (mvT hZ (hw _ (own_g (i := 37) rfl))) (notFace_of_selects (args := #[]) (mvT hZ (hw _ (own_g (i := 39) rfl)))) (mvT hZ (hw _ (own_g (i := 39) rfl))) (mvT hZ (hw _ (own_g (i := 38) rfl))) (by decide) (backOf (W := 0) (rm_takes l Z a0 hw [] (s_TIMESTAMP_TZ) (s_TIME) (s_TIMESTAMP) (s_TIMESTAMP_TZ) ((1 : Int32)) h66 n0 O66 (S_ColumnType_Kind_TIME) (S_ColumnType_Kind_TIMESTAMP) (S_ColumnType_Kind_TIMESTAMP_TZ) (Or.inr (Or.inr (Or.inl ⟨Fld.ne OF_s_TIMESTAMP_TZ_ordinal OF_s_TIME_ordinal (by decide), Fld.ne OF_s_TIMESTAMP_TZ_ordinal OF_s_TIMESTAMP_ordinal (by decide), rfl, rfl⟩)))) hZ (hw _ (own_g (i := 40) rfl)) (hw _ (own_g (i := 3) rfl)) (by decide) (by decide)) q143a q143c (g := (mkF m 143 #[.val (.int pw), .val (.int pp), .val (.ref b2), .val (.int (12 : Int32)), .val (.ref s_TIMESTAMP_TZ), .val (.int (1 : Int32)), .unset, .unset] [(.ref s_TIMESTAMP_TZ)])) rfl (by rw [hml]; rfl) (Steps.refl _) (argsL := []) (rest := []) (lenOf pd_3 rfl) rfl (by show 2 * 0 + _ ≤ _; exact Nat.le_of_eq rfl) (hb hby at_143) (fun _ _ => ⟨rfl, e66, (by decide : 1 + 0 ≤ _), (by decide : 16 + 0 ≤ _)⟩)
    dsimp only [Pt.U, Pt.locs, Pt.cells, Pt.slots] at X143 l143 y143 z143 st143 hQ143
    subst l143 y143 z143
    obtain ⟨rfl, Nq143, eq143⟩ := hQ143
    have N143 := Fr.app N66 Nq143
    have r143 : own_R p e below _ _ T143 (mkF m 146 #[.val (.int pw), .val (.int pp), .val (.ref b2), .val (.int (12 : Int32)), .val (.ref s_TIMESTAMP_TZ), .val (.int (1 : Int32)), .unset, .unset] [(.int (1 : Int32))]) := r142.trans fun z_ kt => st143.trans kt
    have e143 : T143.heap = h66 := eq143
    have r144 : own_R p e below _ _ T143 (mkF m 165 #[.val (.int pw), .val (.int pp), .val (.ref b2), .val (.int (12 : Int32)), .val (.ref s_TIMESTAMP_TZ), .val (.int (1 : Int32)), .val (.int (1 : Int32)), .unset] [(.int pp), (.ref s_TIMESTAMP_TZ)]) := r143.trans fun z_ kt => by
      refine XS.istore X143.here hx rfl (hb hby at_146) rfl (l' := #[.val (.int pw), .val (.int pp), .val (.ref b2), .val (.int (12 : Int32)), .val (.ref s_TIMESTAMP_TZ), .val (.int (1 : Int32)), .val (.int (1 : Int32)), .unset]) rfl ?_
      refine XS.iload X143.here hx rfl (hb hby at_148) rfl ?_
      refine XS.iload X143.here hx rfl (hb hby at_150) rfl ?_
      refine XS.icmpYes X143.here hx rfl (pc0 := 152) (pc' := 157) rfl (hb hby at_152) rfl (teq (by decide : (1 : Int32) = (1 : Int32))).1 (by decide) (by decide) ?_
      refine XS.iload X143.here hx rfl (hb hby at_157) rfl ?_
      refine XS.ifNo X143.here hx rfl (hb hby at_159) rfl ((if0 _ _).trans (feq (by decide : ¬ ((1 : Int32) = (0 : Int32)))).1) ?_
      refine XS.aload X143.here hx rfl (hb hby at_162) rfl rfl ?_
      refine XS.iloadN X143.here hx rfl (hb hby at_164) rfl ?_
      exact kt
    obtain ⟨_, _, ⟨T145, L145, cc145, n145⟩, -, X145, ⟨Lc145, hQ145, l145, y145, z145⟩, st145⟩ := Jvm.LawKit.callS X143 hx (y := (⟨"com/example/blindern/blindern/mapping/ColumnType", "temporal", "(Lcom/example/blindern/blindern/mapping/ColumnType$Kind;I)Lcom/example/blindern/blindern/mapping/ColumnType;"⟩ : MethodName)) hown (mvT hZ (hw _ (own_g (i := 44) rfl))) (mvT hZ (hw _ (own_g (i := 45) rfl))) (mvT hZ (hw _ (own_g (i := 46) rfl))) (mvT hZ (hw _ (own_g (i := 47) rfl))) (by decide) (backOf (W := 0) (rm_temporal l Z a0 hw [] (s_TIMESTAMP_TZ) (pp) (s_TIME) (s_TIMESTAMP) (s_TIMESTAMP_TZ) (s_EL) h66 n0 O66 (S_ColumnType_Kind_TIME) (S_ColumnType_Kind_TIMESTAMP) (S_ColumnType_Kind_TIMESTAMP_TZ) (S_ImmutableCollections_EMPTY_LIST) (OE_s_EL) (OF_s_EL_allowNulls) (OE_s_TIMESTAMP_TZ) (Or.inr (Or.inr (⟨Fld.ne OF_s_TIMESTAMP_TZ_ordinal OF_s_TIME_ordinal (by decide), Fld.ne OF_s_TIMESTAMP_TZ_ordinal OF_s_TIMESTAMP_ordinal (by decide), rfl⟩)))) hZ (hw _ (own_g (i := 47) rfl)) (hw _ (own_g (i := 46) rfl)) (by decide) (by decide)) (g := (mkF m 165 #[.val (.int pw), .val (.int pp), .val (.ref b2), .val (.int (12 : Int32)), .val (.ref s_TIMESTAMP_TZ), .val (.int (1 : Int32)), .val (.int (1 : Int32)), .unset] [(.int pp), (.ref s_TIMESTAMP_TZ)])) rfl (by rw [hml]; rfl) (argsL := [(.ref s_TIMESTAMP_TZ), (.int pp)]) (rest := []) (lenOf pd_5 rfl) rfl (by show 2 * 0 + _ ≤ _; exact Nat.le_of_eq rfl) (hb hby at_165) (fun _ _ => ⟨rfl, e143, (by decide : 1 + 1 ≤ _), (by decide : 16 + 10 ≤ _)⟩)
    dsimp only [Pt.U, Pt.locs, Pt.cells, Pt.slots] at X145 l145 y145 z145 st145 hQ145
    subst l145 y145 z145
    obtain ⟨h145, e145⟩ : ∃ z, T145.heap = z := ⟨_, rfl⟩
    rw [e145] at hQ145
    obtain ⟨b_145, rfl, Nq145, Kq145, p145_0, p145_1, p145_2, p145_3⟩ := hQ145
    have N145 := Fr.app N143 Nq145
    have r145 : own_R p e below _ _ T145 (mkF m 168 #[.val (.int pw), .val (.int pp), .val (.ref b2), .val (.int (12 : Int32)), .val (.ref s_TIMESTAMP_TZ), .val (.int (1 : Int32)), .val (.int (1 : Int32)), .unset] [(.ref b_145)]) := r144.trans fun z_ kt => st145 _ kt
    have ne_b2_b_145 : b2 ≠ b_145 := Nat.ne_of_lt (Nat.lt_of_lt_of_le V66.lt p145_0)
    have g_b_145 : n0 ≤ b_145 := Nat.le_trans (own_old_size O66) p145_0
    have O145 := O66.keep Kq145 all0
    have r146 : own_R p e below _ _ T145 (mkF m 172 #[.val (.int pw), .val (.int pp), .val (.ref b2), .val (.int (12 : Int32)), .val (.ref s_TIMESTAMP_TZ), .val (.int (1 : Int32)), .val (.int (1 : Int32)), .val (.ref b_145)] [(.ref b_145)]) := r145.trans fun z_ kt => by
      refine XS.astore X145.here hx rfl (hb hby at_168) rfl rfl (l' := #[.val (.int pw), .val (.int pp), .val (.ref b2), .val (.int (12 : Int32)), .val (.ref s_TIMESTAMP_TZ), .val (.int (1 : Int32)), .val (.int (1 : Int32)), .val (.ref b_145)]) rfl ?_
      refine XS.aload X145.here hx rfl (hb hby at_170) rfl rfl ?_
      exact kt
    obtain ⟨cq147, kq147, q147a, q147b, q147c⟩ := isOf hZ e145 p145_1
    obtain ⟨_, _, ⟨T147, L147, cc147, n147⟩, -, X147, ⟨Lc147, hQ147, l147, y147, z147⟩, st147⟩ := X145.virtualBack hx (y := (⟨"com/example/blindern/blindern/mapping/ColumnType", "kind", "()Lcom/example/blindern/blindern/mapping/ColumnType$Kind;"⟩ : MethodName)) (z := (⟨"com/example/blindern/blindern/mapping/ColumnType", "kind", "()Lcom/example/blindern/blindern/mapping/ColumnType$Kind;"⟩ : MethodName)) hown (mvT hZ (hw _ (own_g (i := 104) rfl))) (mvT hZ (hw _ (own_g (i := 105) rfl))) (notFace_of_selects (args := #[]) (mvT hZ (hw _ (own_g (i := 107) rfl)))) (mvT hZ (hw _ (own_g (i := 107) rfl))) (mvT hZ (hw _ (own_g (i := 106) rfl))) (by decide) (backOf (W := 0) (rm_kind l Z a0 hw [] (b_145) (s_TIMESTAMP_TZ) h145 n0 O145 (p145_2)) hZ (hw _ (own_g (i := 108) rfl)) (hw _ (own_g (i := 46) rfl)) (by decide) (by decide)) q147a q147c (g := (mkF m 172 #[.val (.int pw), .val (.int pp), .val (.ref b2), .val (.int (12 : Int32)), .val (.ref s_TIMESTAMP_TZ), .val (.int (1 : Int32)), .val (.int (1 : Int32)), .val (.ref b_145)] [(.ref b_145)])) rfl (by rw [hml]; rfl) (Steps.refl _) (argsL := []) (rest := []) (lenOf pd_6 rfl) rfl (by show 2 * 0 + _ ≤ _; exact Nat.le_of_eq rfl) (hb hby at_172) (fun _ _ => ⟨rfl, e145, (by decide : 2 + 0 ≤ _), (by decide : 26 + 0 ≤ _)⟩)
    dsimp only [Pt.U, Pt.locs, Pt.cells, Pt.slots] at X147 l147 y147 z147 st147 hQ147
    subst l147 y147 z147
    obtain ⟨rfl, Nq147, eq147⟩ := hQ147
    have N147 := Fr.app N145 Nq147
    have r147 : own_R p e below _ _ T147 (mkF m 175 #[.val (.int pw), .val (.int pp), .val (.ref b2), .val (.int (12 : Int32)), .val (.ref s_TIMESTAMP_TZ), .val (.int (1 : Int32)), .val (.int (1 : Int32)), .val (.ref b_145)] [(.ref s_TIMESTAMP_TZ)]) := r146.trans fun z_ kt => st147.trans kt
    have e147 : T147.heap = h145 := eq147
    have r148 : own_R p e below _ _ T147 (mkF m 182 #[.val (.int pw), .val (.int pp), .val (.ref b2), .val (.int (12 : Int32)), .val (.ref s_TIMESTAMP_TZ), .val (.int (1 : Int32)), .val (.int (1 : Int32)), .val (.ref b_145)] [(.ref b_145)]) := r147.trans fun z_ kt => by
      refine XS.aload X147.here hx rfl (hb hby at_175) rfl rfl ?_
      refine Jvm.RoadKit.acmp (g := (mkF m 177 #[.val (.int pw), .val (.int pp), .val (.ref b2), .val (.int (12 : Int32)), .val (.ref s_TIMESTAMP_TZ), .val (.int (1 : Int32)), .val (.int (1 : Int32)), .val (.ref b_145)] [(.ref s_TIMESTAMP_TZ), (.ref s_TIMESTAMP_TZ)])) X147 hx rfl rfl rfl (pc0 := 177) (pc' := 180) (same := true) rfl (hb hby at_177) rfl (decide_eq_true rfl) (by decide) (by decide) ?_
      refine XS.aload X147.here hx rfl (hb hby at_180) rfl rfl ?_
      exact kt
    obtain ⟨cq149, kq149, q149a, q149b, q149c⟩ := isOf hZ e147 p145_1
    obtain ⟨_, _, ⟨T149, L149, cc149, n149⟩, -, X149, ⟨Lc149, hQ149, l149, y149, z149⟩, st149⟩ := X147.virtualBack hx (y := (⟨"com/example/blindern/blindern/mapping/ColumnType", "precision", "()I"⟩ : MethodName)) (z := (⟨"com/example/blindern/blindern/mapping/ColumnType", "precision", "()I"⟩ : MethodName)) hown (mvT hZ (hw _ (own_g (i := 109) rfl))) (mvT hZ (hw _ (own_g (i := 110) rfl))) (notFace_of_selects (args := #[]) (mvT hZ (hw _ (own_g (i := 112) rfl)))) (mvT hZ (hw _ (own_g (i := 112) rfl))) (mvT hZ (hw _ (own_g (i := 111) rfl))) (by decide) (backOf (W := 0) (rm_precision l Z a0 hw [] (b_145) (pp) h145 n0 O145 (p145_3)) hZ (hw _ (own_g (i := 113) rfl)) (hw _ (own_g (i := 46) rfl)) (by decide) (by decide)) q149a q149c (g := (mkF m 182 #[.val (.int pw), .val (.int pp), .val (.ref b2), .val (.int (12 : Int32)), .val (.ref s_TIMESTAMP_TZ), .val (.int (1 : Int32)), .val (.int (1 : Int32)), .val (.ref b_145)] [(.ref b_145)])) rfl (by rw [hml]; rfl) (Steps.refl _) (argsL := []) (rest := []) (lenOf pd_7 rfl) rfl (by show 2 * 0 + _ ≤ _; exact Nat.le_of_eq rfl) (hb hby at_182) (fun _ _ => ⟨rfl, e147, (by decide : 2 + 0 ≤ _), (by decide : 26 + 0 ≤ _)⟩)
    dsimp only [Pt.U, Pt.locs, Pt.cells, Pt.slots] at X149 l149 y149 z149 st149 hQ149
    subst l149 y149 z149
    obtain ⟨rfl, Nq149, eq149⟩ := hQ149
    have N149 := Fr.app N147 Nq149
    have r149 : own_R p e below _ _ T149 (mkF m 185 #[.val (.int pw), .val (.int pp), .val (.ref b2), .val (.int (12 : Int32)), .val (.ref s_TIMESTAMP_TZ), .val (.int (1 : Int32)), .val (.int (1 : Int32)), .val (.ref b_145)] [(.int pp)]) := r148.trans fun z_ kt => st149.trans kt
    have e149 : T149.heap = h145 := eq149
    have r150 : own_R p e below _ _ T149 (mkF m 194 #[.val (.int pw), .val (.int pp), .val (.ref b2), .val (.int (12 : Int32)), .val (.ref s_TIMESTAMP_TZ), .val (.int (1 : Int32)), .val (.int (1 : Int32)), .val (.ref b_145)] [(.int (1 : Int32))]) := r149.trans fun z_ kt => by
      refine XS.iloadN X149.here hx rfl (hb hby at_185) rfl ?_
      refine XS.icmpNo X149.here hx rfl (hb hby at_186) rfl (teq (rfl : pp = pp)).2 ?_
      refine XS.iconst X149.here hx rfl (hb hby at_189) ?_
      refine XS.goto X149.here hx rfl (pc0 := 190) (pc' := 194) rfl (hb hby at_190) (by decide) (by decide) ?_
      exact kt
    obtain ⟨fs_, hr_, hrun_, hended_, hW_, hsame_⟩ := X149.leave (v := some (.int (1 : Int32))) (fun h => by rw [Bd.returns] at h; cases h)
    refine ⟨_, _, pre0 _ (r150 _ ?_), hrun_, hended_, _, _, rfl, ?_, ⟨_, rfl⟩, hW_, hsame_.mono (by decide) (by decide)⟩
    · exact retN X149 hx (t := .boolean) Bd.returns (by simp) (hb hby at_194) hr_
    · show Q_law Z pw pp s_VARCHAR s_CHAR s_SMALLINT s_INTEGER s_BIGINT s_BOOLEAN s_REAL s_DOUBLE s_NUMERIC s_DATE s_TIME s_TIMESTAMP s_TIMESTAMP_TZ s_ENUM_NAME s_ENUM_ORDINAL s_ENUM_VALUE s_EL h0 n0 _ T149.heap _
      rw [e149]
      exact ⟨rfl, N149⟩
  · skip
    have r152 : own_R p e below _ _ T66 (mkF m 119 #[.val (.int pw), .val (.int pp), .val (.ref b2), .val (.int (13 : Int32)), .unset, .unset, .unset, .unset] [(.int (13 : Int32)), (.ref b2)]) := r67.trans fun z_ kt => by
      refine XS.aloadN X66.here hx rfl (hb hby at_117) rfl rfl ?_
      refine XS.iloadN X66.here hx rfl (hb hby at_118) rfl ?_
      exact kt
    obtain ⟨cl151, Ar151, q151, S151, M151, H151, G151⟩ := id V66
    have hin151 : ¬ ((13 : Int32) < 0 ∨ cl151.slots.size ≤ ((13 : Int32)).toNatClampNeg) := inb_of S151 ⟨by decide, by decide⟩
    have hat151 : cl151.slots[((13 : Int32)).toNatClampNeg]? = some (.ref s_ENUM_NAME) := Has.at H151 hin151 rfl
    have r153 : own_R p e below _ _ T66 (mkF m 143 #[.val (.int pw), .val (.int pp), .val (.ref b2), .val (.int (13 : Int32)), .val (.ref s_ENUM_NAME), .val (.int (0 : Int32)), .unset, .unset] [(.ref s_ENUM_NAME)]) := r152.trans fun z_ kt => by
      refine X66.aaload hx (j := (13 : Int32)) (v := (.ref s_ENUM_NAME)) (by rw [e66]; exact Ar151.1) (State.isArrayOf_alike hZ.alike Ar151.2.1) rfl Ar151.2.2 hin151 hat151 (g := (mkF m 119 #[.val (.int pw), .val (.int pp), .val (.ref b2), .val (.int (13 : Int32)), .unset, .unset, .unset, .unset] [(.int (13 : Int32)), (.ref b2)])) rfl rfl (hb hby at_119) _ ?_
      refine XS.astore X66.here hx rfl (hb hby at_120) rfl rfl (l' := #[.val (.int pw), .val (.int pp), .val (.ref b2), .val (.int (13 : Int32)), .val (.ref s_ENUM_NAME), .unset, .unset, .unset]) rfl ?_
      refine XS.iloadN X66.here hx rfl (hb hby at_122) rfl ?_
      refine XS.bipush X66.here hx rfl (hb hby at_123) ?_
      refine XS.icmpNo X66.here hx rfl (hb hby at_125) rfl (flt (by decide : ¬ ((13 : Int32) < (10 : Int32)))).1 ?_
      refine XS.iloadN X66.here hx rfl (hb hby at_128) rfl ?_
      refine XS.bipush X66.here hx rfl (hb hby at_129) ?_
      refine XS.icmpYes X66.here hx rfl (pc0 := 131) (pc' := 138) rfl (hb hby at_131) rfl (tlt (by decide : (12 : Int32) < (13 : Int32))).2.2.1 (by decide) (by decide) ?_
      refine XS.iconst X66.here hx rfl (hb hby at_138) ?_
      refine XS.istore X66.here hx rfl (hb hby at_139) rfl (l' := #[.val (.int pw), .val (.int pp), .val (.ref b2), .val (.int (13 : Int32)), .val (.ref s_ENUM_NAME), .val (.int (0 : Int32)), .unset, .unset]) rfl ?_
      refine XS.aload X66.here hx rfl (hb hby at_141) rfl rfl ?_
      exact kt
    obtain ⟨cq154, kq154, q154a, q154b, q154c⟩ := isOf hZ e66 (OE_s_ENUM_NAME.ext O66.2)
    obtain ⟨_, _, ⟨T154, L154, cc154, n154⟩, -, X154, ⟨Lc154, hQ154, l154, y154, z154⟩, st154⟩ := X66.virtualBack hx (y := (⟨"com/example/blindern/blindern/mapping/ColumnType$Kind", "takesSecondPrecision", "()Z"⟩ : MethodName)) (z := (⟨"com/example/blindern/blindern/mapping/ColumnType$Kind", "takesSecondPrecision", "()Z"⟩ : MethodName)) hown (mvT hZ (hw _ (own_g (i := 36) rfl))) (mvT hZ (hw _ (own_g (i := 37) rfl))) (notFace_of_selects (args := #[]) (mvT hZ (hw _ (own_g (i := 39) rfl)))) (mvT hZ (hw _ (own_g (i := 39) rfl))) (mvT hZ (hw _ (own_g (i := 38) rfl))) (by decide) (backOf (W := 0) (rm_takes l Z a0 hw [] (s_ENUM_NAME) (s_TIME) (s_TIMESTAMP) (s_TIMESTAMP_TZ) ((0 : Int32)) h66 n0 O66 (S_ColumnType_Kind_TIME) (S_ColumnType_Kind_TIMESTAMP) (S_ColumnType_Kind_TIMESTAMP_TZ) (Or.inr (Or.inr (Or.inr ⟨Fld.ne OF_s_ENUM_NAME_ordinal OF_s_TIME_ordinal (by decide), Fld.ne OF_s_ENUM_NAME_ordinal OF_s_TIMESTAMP_ordinal (by decide), Fld.ne OF_s_ENUM_NAME_ordinal OF_s_TIMESTAMP_TZ_ordinal (by decide), rfl⟩)))) hZ (hw _ (own_g (i := 40) rfl)) (hw _ (own_g (i := 3) rfl)) (by decide) (by decide)) q154a q154c (g := (mkF m 143 #[.val (.int pw), .val (.int pp), .val (.ref b2), .val (.int (13 : Int32)), .val (.ref s_ENUM_NAME), .val (.int (0 : Int32)), .unset, .unset] [(.ref s_ENUM_NAME)])) rfl (by rw [hml]; rfl) (Steps.refl _) (argsL := []) (rest := []) (lenOf pd_3 rfl) rfl (by show 2 * 0 + _ ≤ _; exact Nat.le_of_eq rfl) (hb hby at_143) (fun _ _ => ⟨rfl, e66, (by decide : 1 + 0 ≤ _), (by decide : 16 + 0 ≤ _)⟩)
    dsimp only [Pt.U, Pt.locs, Pt.cells, Pt.slots] at X154 l154 y154 z154 st154 hQ154
    subst l154 y154 z154
    obtain ⟨rfl, Nq154, eq154⟩ := hQ154
    have N154 := Fr.app N66 Nq154
    have r154 : own_R p e below _ _ T154 (mkF m 146 #[.val (.int pw), .val (.int pp), .val (.ref b2), .val (.int (13 : Int32)), .val (.ref s_ENUM_NAME), .val (.int (0 : Int32)), .unset, .unset] [(.int (0 : Int32))]) := r153.trans fun z_ kt => st154.trans kt
    have e154 : T154.heap = h66 := eq154
    have r155 : own_R p e below _ _ T154 (mkF m 196 #[.val (.int pw), .val (.int pp), .val (.ref b2), .val (.int (13 : Int32)), .val (.ref s_ENUM_NAME), .val (.int (0 : Int32)), .val (.int (0 : Int32)), .unset] [(.int (1 : Int32))]) := r154.trans fun z_ kt => by
      refine XS.istore X154.here hx rfl (hb hby at_146) rfl (l' := #[.val (.int pw), .val (.int pp), .val (.ref b2), .val (.int (13 : Int32)), .val (.ref s_ENUM_NAME), .val (.int (0 : Int32)), .val (.int (0 : Int32)), .unset]) rfl ?_
      refine XS.iload X154.here hx rfl (hb hby at_148) rfl ?_
      refine XS.iload X154.here hx rfl (hb hby at_150) rfl ?_
      refine XS.icmpYes X154.here hx rfl (pc0 := 152) (pc' := 157) rfl (hb hby at_152) rfl (teq (by decide : (0 : Int32) = (0 : Int32))).1 (by decide) (by decide) ?_
      refine XS.iload X154.here hx rfl (hb hby at_157) rfl ?_
      refine XS.ifYes X154.here hx rfl (pc0 := 159) (pc' := 195) rfl (hb hby at_159) rfl ((if0 _ _).trans (teq (by decide : (0 : Int32) = (0 : Int32))).1) (by decide) (by decide) ?_
      refine XS.iconst X154.here hx rfl (hb hby at_195) ?_
      exact kt
    obtain ⟨fs_, hr_, hrun_, hended_, hW_, hsame_⟩ := X154.leave (v := some (.int (1 : Int32))) (fun h => by rw [Bd.returns] at h; cases h)
    refine ⟨_, _, pre0 _ (r155 _ ?_), hrun_, hended_, _, _, rfl, ?_, ⟨_, rfl⟩, hW_, hsame_.mono (by decide) (by decide)⟩
    · exact retN X154 hx (t := .boolean) Bd.returns (by simp) (hb hby at_196) hr_
    · show Q_law Z pw pp s_VARCHAR s_CHAR s_SMALLINT s_INTEGER s_BIGINT s_BOOLEAN s_REAL s_DOUBLE s_NUMERIC s_DATE s_TIME s_TIMESTAMP s_TIMESTAMP_TZ s_ENUM_NAME s_ENUM_ORDINAL s_ENUM_VALUE s_EL h0 n0 _ T154.heap _
      rw [e154]
      exact ⟨rfl, N154⟩
  · skip
    have r157 : own_R p e below _ _ T66 (mkF m 119 #[.val (.int pw), .val (.int pp), .val (.ref b2), .val (.int (14 : Int32)), .unset, .unset, .unset, .unset] [(.int (14 : Int32)), (.ref b2)]) := r67.trans fun z_ kt => by
      refine XS.aloadN X66.here hx rfl (hb hby at_117) rfl rfl ?_
      refine XS.iloadN X66.here hx rfl (hb hby at_118) rfl ?_
      exact kt
    obtain ⟨cl156, Ar156, q156, S156, M156, H156, G156⟩ := id V66
    have hin156 : ¬ ((14 : Int32) < 0 ∨ cl156.slots.size ≤ ((14 : Int32)).toNatClampNeg) := inb_of S156 ⟨by decide, by decide⟩
    have hat156 : cl156.slots[((14 : Int32)).toNatClampNeg]? = some (.ref s_ENUM_ORDINAL) := Has.at H156 hin156 rfl
    have r158 : own_R p e below _ _ T66 (mkF m 143 #[.val (.int pw), .val (.int pp), .val (.ref b2), .val (.int (14 : Int32)), .val (.ref s_ENUM_ORDINAL), .val (.int (0 : Int32)), .unset, .unset] [(.ref s_ENUM_ORDINAL)]) := r157.trans fun z_ kt => by
      refine X66.aaload hx (j := (14 : Int32)) (v := (.ref s_ENUM_ORDINAL)) (by rw [e66]; exact Ar156.1) (State.isArrayOf_alike hZ.alike Ar156.2.1) rfl Ar156.2.2 hin156 hat156 (g := (mkF m 119 #[.val (.int pw), .val (.int pp), .val (.ref b2), .val (.int (14 : Int32)), .unset, .unset, .unset, .unset] [(.int (14 : Int32)), (.ref b2)])) rfl rfl (hb hby at_119) _ ?_
      refine XS.astore X66.here hx rfl (hb hby at_120) rfl rfl (l' := #[.val (.int pw), .val (.int pp), .val (.ref b2), .val (.int (14 : Int32)), .val (.ref s_ENUM_ORDINAL), .unset, .unset, .unset]) rfl ?_
      refine XS.iloadN X66.here hx rfl (hb hby at_122) rfl ?_
      refine XS.bipush X66.here hx rfl (hb hby at_123) ?_
      refine XS.icmpNo X66.here hx rfl (hb hby at_125) rfl (flt (by decide : ¬ ((14 : Int32) < (10 : Int32)))).1 ?_
      refine XS.iloadN X66.here hx rfl (hb hby at_128) rfl ?_
      refine XS.bipush X66.here hx rfl (hb hby at_129) ?_
      refine XS.icmpYes X66.here hx rfl (pc0 := 131) (pc' := 138) rfl (hb hby at_131) rfl (tlt (by decide : (12 : Int32) < (14 : Int32))).2.2.1 (by decide) (by decide) ?_
      refine XS.iconst X66.here hx rfl (hb hby at_138) ?_
      refine XS.istore X66.here hx rfl (hb hby at_139) rfl (l' := #[.val (.int pw), .val (.int pp), .val (.ref b2), .val (.int (14 : Int32)), .val (.ref s_ENUM_ORDINAL), .val (.int (0 : Int32)), .unset, .unset]) rfl ?_
      refine XS.aload X66.here hx rfl (hb hby at_141) rfl rfl ?_
      exact kt
    obtain ⟨cq159, kq159, q159a, q159b, q159c⟩ := isOf hZ e66 (OE_s_ENUM_ORDINAL.ext O66.2)
    obtain ⟨_, _, ⟨T159, L159, cc159, n159⟩, -, X159, ⟨Lc159, hQ159, l159, y159, z159⟩, st159⟩ := X66.virtualBack hx (y := (⟨"com/example/blindern/blindern/mapping/ColumnType$Kind", "takesSecondPrecision", "()Z"⟩ : MethodName)) (z := (⟨"com/example/blindern/blindern/mapping/ColumnType$Kind", "takesSecondPrecision", "()Z"⟩ : MethodName)) hown (mvT hZ (hw _ (own_g (i := 36) rfl))) (mvT hZ (hw _ (own_g (i := 37) rfl))) (notFace_of_selects (args := #[]) (mvT hZ (hw _ (own_g (i := 39) rfl)))) (mvT hZ (hw _ (own_g (i := 39) rfl))) (mvT hZ (hw _ (own_g (i := 38) rfl))) (by decide) (backOf (W := 0) (rm_takes l Z a0 hw [] (s_ENUM_ORDINAL) (s_TIME) (s_TIMESTAMP) (s_TIMESTAMP_TZ) ((0 : Int32)) h66 n0 O66 (S_ColumnType_Kind_TIME) (S_ColumnType_Kind_TIMESTAMP) (S_ColumnType_Kind_TIMESTAMP_TZ) (Or.inr (Or.inr (Or.inr ⟨Fld.ne OF_s_ENUM_ORDINAL_ordinal OF_s_TIME_ordinal (by decide), Fld.ne OF_s_ENUM_ORDINAL_ordinal OF_s_TIMESTAMP_ordinal (by decide), Fld.ne OF_s_ENUM_ORDINAL_ordinal OF_s_TIMESTAMP_TZ_ordinal (by decide), rfl⟩)))) hZ (hw _ (own_g (i := 40) rfl)) (hw _ (own_g (i := 3) rfl)) (by decide) (by decide)) q159a q159c (g := (mkF m 143 #[.val (.int pw), .val (.int pp), .val (.ref b2), .val (.int (14 : Int32)), .val (.ref s_ENUM_ORDINAL), .val (.int (0 : Int32)), .unset, .unset] [(.ref s_ENUM_ORDINAL)])) rfl (by rw [hml]; rfl) (Steps.refl _) (argsL := []) (rest := []) (lenOf pd_3 rfl) rfl (by show 2 * 0 + _ ≤ _; exact Nat.le_of_eq rfl) (hb hby at_143) (fun _ _ => ⟨rfl, e66, (by decide : 1 + 0 ≤ _), (by decide : 16 + 0 ≤ _)⟩)
    dsimp only [Pt.U, Pt.locs, Pt.cells, Pt.slots] at X159 l159 y159 z159 st159 hQ159
    subst l159 y159 z159
    obtain ⟨rfl, Nq159, eq159⟩ := hQ159
    have N159 := Fr.app N66 Nq159
    have r159 : own_R p e below _ _ T159 (mkF m 146 #[.val (.int pw), .val (.int pp), .val (.ref b2), .val (.int (14 : Int32)), .val (.ref s_ENUM_ORDINAL), .val (.int (0 : Int32)), .unset, .unset] [(.int (0 : Int32))]) := r158.trans fun z_ kt => st159.trans kt
    have e159 : T159.heap = h66 := eq159
    have r160 : own_R p e below _ _ T159 (mkF m 196 #[.val (.int pw), .val (.int pp), .val (.ref b2), .val (.int (14 : Int32)), .val (.ref s_ENUM_ORDINAL), .val (.int (0 : Int32)), .val (.int (0 : Int32)), .unset] [(.int (1 : Int32))]) := r159.trans fun z_ kt => by
      refine XS.istore X159.here hx rfl (hb hby at_146) rfl (l' := #[.val (.int pw), .val (.int pp), .val (.ref b2), .val (.int (14 : Int32)), .val (.ref s_ENUM_ORDINAL), .val (.int (0 : Int32)), .val (.int (0 : Int32)), .unset]) rfl ?_
      refine XS.iload X159.here hx rfl (hb hby at_148) rfl ?_
      refine XS.iload X159.here hx rfl (hb hby at_150) rfl ?_
      refine XS.icmpYes X159.here hx rfl (pc0 := 152) (pc' := 157) rfl (hb hby at_152) rfl (teq (by decide : (0 : Int32) = (0 : Int32))).1 (by decide) (by decide) ?_
      refine XS.iload X159.here hx rfl (hb hby at_157) rfl ?_
      refine XS.ifYes X159.here hx rfl (pc0 := 159) (pc' := 195) rfl (hb hby at_159) rfl ((if0 _ _).trans (teq (by decide : (0 : Int32) = (0 : Int32))).1) (by decide) (by decide) ?_
      refine XS.iconst X159.here hx rfl (hb hby at_195) ?_
      exact kt
    obtain ⟨fs_, hr_, hrun_, hended_, hW_, hsame_⟩ := X159.leave (v := some (.int (1 : Int32))) (fun h => by rw [Bd.returns] at h; cases h)
    refine ⟨_, _, pre0 _ (r160 _ ?_), hrun_, hended_, _, _, rfl, ?_, ⟨_, rfl⟩, hW_, hsame_.mono (by decide) (by decide)⟩
    · exact retN X159 hx (t := .boolean) Bd.returns (by simp) (hb hby at_196) hr_
    · show Q_law Z pw pp s_VARCHAR s_CHAR s_SMALLINT s_INTEGER s_BIGINT s_BOOLEAN s_REAL s_DOUBLE s_NUMERIC s_DATE s_TIME s_TIMESTAMP s_TIMESTAMP_TZ s_ENUM_NAME s_ENUM_ORDINAL s_ENUM_VALUE s_EL h0 n0 _ T159.heap _
      rw [e159]
      exact ⟨rfl, N159⟩
  · skip
    have r162 : own_R p e below _ _ T66 (mkF m 119 #[.val (.int pw), .val (.int pp), .val (.ref b2), .val (.int (15 : Int32)), .unset, .unset, .unset, .unset] [(.int (15 : Int32)), (.ref b2)]) := r67.trans fun z_ kt => by
      refine XS.aloadN X66.here hx rfl (hb hby at_117) rfl rfl ?_
      refine XS.iloadN X66.here hx rfl (hb hby at_118) rfl ?_
      exact kt
    obtain ⟨cl161, Ar161, q161, S161, M161, H161, G161⟩ := id V66
    have hin161 : ¬ ((15 : Int32) < 0 ∨ cl161.slots.size ≤ ((15 : Int32)).toNatClampNeg) := inb_of S161 ⟨by decide, by decide⟩
    have hat161 : cl161.slots[((15 : Int32)).toNatClampNeg]? = some (.ref s_ENUM_VALUE) := Has.at H161 hin161 rfl
    have r163 : own_R p e below _ _ T66 (mkF m 143 #[.val (.int pw), .val (.int pp), .val (.ref b2), .val (.int (15 : Int32)), .val (.ref s_ENUM_VALUE), .val (.int (0 : Int32)), .unset, .unset] [(.ref s_ENUM_VALUE)]) := r162.trans fun z_ kt => by
      refine X66.aaload hx (j := (15 : Int32)) (v := (.ref s_ENUM_VALUE)) (by rw [e66]; exact Ar161.1) (State.isArrayOf_alike hZ.alike Ar161.2.1) rfl Ar161.2.2 hin161 hat161 (g := (mkF m 119 #[.val (.int pw), .val (.int pp), .val (.ref b2), .val (.int (15 : Int32)), .unset, .unset, .unset, .unset] [(.int (15 : Int32)), (.ref b2)])) rfl rfl (hb hby at_119) _ ?_
      refine XS.astore X66.here hx rfl (hb hby at_120) rfl rfl (l' := #[.val (.int pw), .val (.int pp), .val (.ref b2), .val (.int (15 : Int32)), .val (.ref s_ENUM_VALUE), .unset, .unset, .unset]) rfl ?_
      refine XS.iloadN X66.here hx rfl (hb hby at_122) rfl ?_
      refine XS.bipush X66.here hx rfl (hb hby at_123) ?_
      refine XS.icmpNo X66.here hx rfl (hb hby at_125) rfl (flt (by decide : ¬ ((15 : Int32) < (10 : Int32)))).1 ?_
      refine XS.iloadN X66.here hx rfl (hb hby at_128) rfl ?_
      refine XS.bipush X66.here hx rfl (hb hby at_129) ?_
      refine XS.icmpYes X66.here hx rfl (pc0 := 131) (pc' := 138) rfl (hb hby at_131) rfl (tlt (by decide : (12 : Int32) < (15 : Int32))).2.2.1 (by decide) (by decide) ?_
      refine XS.iconst X66.here hx rfl (hb hby at_138) ?_
      refine XS.istore X66.here hx rfl (hb hby at_139) rfl (l' := #[.val (.int pw), .val (.int pp), .val (.ref b2), .val (.int (15 : Int32)), .val (.ref s_ENUM_VALUE), .val (.int (0 : Int32)), .unset, .unset]) rfl ?_
      refine XS.aload X66.here hx rfl (hb hby at_141) rfl rfl ?_
      exact kt
    obtain ⟨cq164, kq164, q164a, q164b, q164c⟩ := isOf hZ e66 (OE_s_ENUM_VALUE.ext O66.2)
    obtain ⟨_, _, ⟨T164, L164, cc164, n164⟩, -, X164, ⟨Lc164, hQ164, l164, y164, z164⟩, st164⟩ := X66.virtualBack hx (y := (⟨"com/example/blindern/blindern/mapping/ColumnType$Kind", "takesSecondPrecision", "()Z"⟩ : MethodName)) (z := (⟨"com/example/blindern/blindern/mapping/ColumnType$Kind", "takesSecondPrecision", "()Z"⟩ : MethodName)) hown (mvT hZ (hw _ (own_g (i := 36) rfl))) (mvT hZ (hw _ (own_g (i := 37) rfl))) (notFace_of_selects (args := #[]) (mvT hZ (hw _ (own_g (i := 39) rfl)))) (mvT hZ (hw _ (own_g (i := 39) rfl))) (mvT hZ (hw _ (own_g (i := 38) rfl))) (by decide) (backOf (W := 0) (rm_takes l Z a0 hw [] (s_ENUM_VALUE) (s_TIME) (s_TIMESTAMP) (s_TIMESTAMP_TZ) ((0 : Int32)) h66 n0 O66 (S_ColumnType_Kind_TIME) (S_ColumnType_Kind_TIMESTAMP) (S_ColumnType_Kind_TIMESTAMP_TZ) (Or.inr (Or.inr (Or.inr ⟨Fld.ne OF_s_ENUM_VALUE_ordinal OF_s_TIME_ordinal (by decide), Fld.ne OF_s_ENUM_VALUE_ordinal OF_s_TIMESTAMP_ordinal (by decide), Fld.ne OF_s_ENUM_VALUE_ordinal OF_s_TIMESTAMP_TZ_ordinal (by decide), rfl⟩)))) hZ (hw _ (own_g (i := 40) rfl)) (hw _ (own_g (i := 3) rfl)) (by decide) (by decide)) q164a q164c (g := (mkF m 143 #[.val (.int pw), .val (.int pp), .val (.ref b2), .val (.int (15 : Int32)), .val (.ref s_ENUM_VALUE), .val (.int (0 : Int32)), .unset, .unset] [(.ref s_ENUM_VALUE)])) rfl (by rw [hml]; rfl) (Steps.refl _) (argsL := []) (rest := []) (lenOf pd_3 rfl) rfl (by show 2 * 0 + _ ≤ _; exact Nat.le_of_eq rfl) (hb hby at_143) (fun _ _ => ⟨rfl, e66, (by decide : 1 + 0 ≤ _), (by decide : 16 + 0 ≤ _)⟩)
    dsimp only [Pt.U, Pt.locs, Pt.cells, Pt.slots] at X164 l164 y164 z164 st164 hQ164
    subst l164 y164 z164
    obtain ⟨rfl, Nq164, eq164⟩ := hQ164
    have N164 := Fr.app N66 Nq164
    have r164 : own_R p e below _ _ T164 (mkF m 146 #[.val (.int pw), .val (.int pp), .val (.ref b2), .val (.int (15 : Int32)), .val (.ref s_ENUM_VALUE), .val (.int (0 : Int32)), .unset, .unset] [(.int (0 : Int32))]) := r163.trans fun z_ kt => st164.trans kt
    have e164 : T164.heap = h66 := eq164
    have r165 : own_R p e below _ _ T164 (mkF m 196 #[.val (.int pw), .val (.int pp), .val (.ref b2), .val (.int (15 : Int32)), .val (.ref s_ENUM_VALUE), .val (.int (0 : Int32)), .val (.int (0 : Int32)), .unset] [(.int (1 : Int32))]) := r164.trans fun z_ kt => by
      refine XS.istore X164.here hx rfl (hb hby at_146) rfl (l' := #[.val (.int pw), .val (.int pp), .val (.ref b2), .val (.int (15 : Int32)), .val (.ref s_ENUM_VALUE), .val (.int (0 : Int32)), .val (.int (0 : Int32)), .unset]) rfl ?_
      refine XS.iload X164.here hx rfl (hb hby at_148) rfl ?_
      refine XS.iload X164.here hx rfl (hb hby at_150) rfl ?_
      refine XS.icmpYes X164.here hx rfl (pc0 := 152) (pc' := 157) rfl (hb hby at_152) rfl (teq (by decide : (0 : Int32) = (0 : Int32))).1 (by decide) (by decide) ?_
      refine XS.iload X164.here hx rfl (hb hby at_157) rfl ?_
      refine XS.ifYes X164.here hx rfl (pc0 := 159) (pc' := 195) rfl (hb hby at_159) rfl ((if0 _ _).trans (teq (by decide : (0 : Int32) = (0 : Int32))).1) (by decide) (by decide) ?_
      refine XS.iconst X164.here hx rfl (hb hby at_195) ?_
      exact kt
    obtain ⟨fs_, hr_, hrun_, hended_, hW_, hsame_⟩ := X164.leave (v := some (.int (1 : Int32))) (fun h => by rw [Bd.returns] at h; cases h)
    refine ⟨_, _, pre0 _ (r165 _ ?_), hrun_, hended_, _, _, rfl, ?_, ⟨_, rfl⟩, hW_, hsame_.mono (by decide) (by decide)⟩
    · exact retN X164 hx (t := .boolean) Bd.returns (by simp) (hb hby at_196) hr_
    · show Q_law Z pw pp s_VARCHAR s_CHAR s_SMALLINT s_INTEGER s_BIGINT s_BOOLEAN s_REAL s_DOUBLE s_NUMERIC s_DATE s_TIME s_TIMESTAMP s_TIMESTAMP_TZ s_ENUM_NAME s_ENUM_ORDINAL s_ENUM_VALUE s_EL h0 n0 _ T164.heap _
      rw [e164]
      exact ⟨rfl, N164⟩

set_option maxRecDepth 65536 in
set_option maxHeartbeats 40000000 in
theorem comes_1 {Post : Tables → Env → Array Value → State → Outcome → State → Prop} (hpost : ∀ tb e args s v u, (limb_1_1.after args s (.returned v) u = true ∧ limb_1_2.after args s (.returned v) u = true ∧ True) → FrameEnd s (.returned v) u (Jvm.fieldLocs frame_1_writes args s ++ Jvm.arrayLocs frame_1_arrays args s ++ Jvm.staticLocs frame_1_statics s) 16 128 → Post tb e args s (.returned v) u) :
    ArmFor flags0 classFile x code maxLocals ret World_1 tables_1 room_1 Calls_1 rest_1 Pre_1 Post := by
  intro l hfl _ _ p e ha hc hk s m args below hf hA hF happ hP
  obtain ⟨hcalls, hrest, hpre⟩ := hP
  obtain ⟨-, -, -, hnamed, -, -, -, hat⟩ := (Spec.applies_iff hf).mp happ
  obtain ⟨hg, hn⟩ := and_e (Cond.before_iff.mp (show (Jvm.Cond.and given_1 narrow_1).before args s = true from hpre))
  obtain ⟨u1a, u1b⟩ := and_e hg
  obtain ⟨u2a, u2b⟩ := and_e u1b
  obtain ⟨w0, w1, rfl⟩ : ∃ w0 w1 : Value, args = #[w0, w1] := by
    have hs : args.size = 2 := by simpa [Cond.value, given_1] using u1a
    obtain ⟨L⟩ := args
    match L, hs with
    | [w0, w1], _ => exact ⟨w0, w1, rfl⟩
  have hw := fun d (hd : d ∈ tables_1) => atoms_spec (ws := Jvm.Cond.code x code maxLocals ret :: tables_1) hat d (List.mem_cons_of_mem _ hd)
  have hfit : Fit s := fun {y c} hc i hi => by
    obtain ⟨ha, rfl⟩ := Array.getElem?_eq_some_iff.mp hc
    have q := List.all_eq_true.mp ((Array.all_eq_true_iff_forall_mem.mp hF) _ (Array.getElem_mem ha)) i (List.mem_range.mpr hi)
    simpa [Array.getElem?_eq_getElem hi] using q
  obtain ⟨hsets, hown0⟩ := atoms_of _ (rest_1_c_eq ▸ (show rest_1_c.before _ s = true from hrest))
  have hr0 := Cond.before_iff.mp hown0
  obtain ⟨i0, ei0⟩ := is_v u2a
  obtain rfl : w0 = (.int i0) := Option.some.inj ei0
  obtain ⟨i1, ei1⟩ := is_v u2b
  obtain rfl : w1 = (.int i1) := Option.some.inj ei1
  obtain ⟨u3a, u3b⟩ := and_e hn
  obtain ⟨u4a, u4b⟩ := and_e u3b
  obtain ⟨u5a, u5b⟩ := and_e u4b
  obtain ⟨u6a, u6b⟩ := and_e u5b
  obtain ⟨u7a, u7b⟩ := and_e u6b
  obtain ⟨u8a, u8b⟩ := and_e u7b
  obtain ⟨u9a, u9b⟩ := and_e u8b
  obtain ⟨u10a, u10b⟩ := and_e u9b
  obtain ⟨u11a, u11b⟩ := and_e u10b
  obtain ⟨u12a, u12b⟩ := and_e u11b
  obtain ⟨u13a, u13b⟩ := and_e u12b
  obtain ⟨u14a, u14b⟩ := and_e u13b
  obtain ⟨u15a, u15b⟩ := and_e u14b
  obtain ⟨u16a, u16b⟩ := and_e u15b
  obtain ⟨u17a, u17b⟩ := and_e u16b
  obtain ⟨u18a, u18b⟩ := and_e u17b
  obtain ⟨u19a, u19b⟩ := and_e u18b
  obtain ⟨u20a, u20b⟩ := and_e u19b
  obtain ⟨u21a, u21b⟩ := and_e u20b
  obtain ⟨u22a, u22b⟩ := and_e u21b
  obtain ⟨u23a, u23b⟩ := and_e u22b
  obtain ⟨u24a, u24b⟩ := and_e u23b
  obtain ⟨u25a, u25b⟩ := and_e u24b
  obtain ⟨u26a, u26b⟩ := and_e u25b
  obtain ⟨u27a, u27b⟩ := and_e u26b
  obtain ⟨u28a, u28b⟩ := and_e u27b
  obtain ⟨u29a, u29b⟩ := and_e u28b
  obtain ⟨u30a, u30b⟩ := and_e u29b
  obtain ⟨u31a, u31b⟩ := and_e u30b
  obtain ⟨u32a, u32b⟩ := and_e u31b
  obtain ⟨u33a, u33b⟩ := and_e u32b
  obtain ⟨s_VARCHAR, ev_s_VARCHAR⟩ := exa_v u3a
  have OE_s_VARCHAR := Exa.start ev_s_VARCHAR u3a
  have S_s_VARCHAR := Sta.start ev_s_VARCHAR (Or.inr ⟨(hw _ (own_g (i := 3) rfl)), (hw _ (own_g (i := 4) rfl))⟩)
  obtain ⟨s_CHAR, ev_s_CHAR⟩ := exa_v u4a
  have OE_s_CHAR := Exa.start ev_s_CHAR u4a
  have S_s_CHAR := Sta.start ev_s_CHAR (Or.inr ⟨(hw _ (own_g (i := 3) rfl)), (hw _ (own_g (i := 7) rfl))⟩)
  obtain ⟨s_SMALLINT, ev_s_SMALLINT⟩ := exa_v u5a
  have OE_s_SMALLINT := Exa.start ev_s_SMALLINT u5a
  have S_s_SMALLINT := Sta.start ev_s_SMALLINT (Or.inr ⟨(hw _ (own_g (i := 3) rfl)), (hw _ (own_g (i := 9) rfl))⟩)
  obtain ⟨s_INTEGER, ev_s_INTEGER⟩ := exa_v u6a
  have OE_s_INTEGER := Exa.start ev_s_INTEGER u6a
  have S_s_INTEGER := Sta.start ev_s_INTEGER (Or.inr ⟨(hw _ (own_g (i := 3) rfl)), (hw _ (own_g (i := 11) rfl))⟩)
  obtain ⟨s_BIGINT, ev_s_BIGINT⟩ := exa_v u7a
  have OE_s_BIGINT := Exa.start ev_s_BIGINT u7a
  have S_s_BIGINT := Sta.start ev_s_BIGINT (Or.inr ⟨(hw _ (own_g (i := 3) rfl)), (hw _ (own_g (i := 13) rfl))⟩)
  obtain ⟨s_BOOLEAN, ev_s_BOOLEAN⟩ := exa_v u8a
  have OE_s_BOOLEAN := Exa.start ev_s_BOOLEAN u8a
  have S_s_BOOLEAN := Sta.start ev_s_BOOLEAN (Or.inr ⟨(hw _ (own_g (i := 3) rfl)), (hw _ (own_g (i := 15) rfl))⟩)
  obtain ⟨s_REAL, ev_s_REAL⟩ := exa_v u9a
  have OE_s_REAL := Exa.start ev_s_REAL u9a
  have S_s_REAL := Sta.start ev_s_REAL (Or.inr ⟨(hw _ (own_g (i := 3) rfl)), (hw _ (own_g (i := 17) rfl))⟩)
  obtain ⟨s_DOUBLE, ev_s_DOUBLE⟩ := exa_v u10a
  have OE_s_DOUBLE := Exa.start ev_s_DOUBLE u10a
  have S_s_DOUBLE := Sta.start ev_s_DOUBLE (Or.inr ⟨(hw _ (own_g (i := 3) rfl)), (hw _ (own_g (i := 19) rfl))⟩)
  obtain ⟨s_NUMERIC, ev_s_NUMERIC⟩ := exa_v u11a
  have OE_s_NUMERIC := Exa.start ev_s_NUMERIC u11a
  have S_s_NUMERIC := Sta.start ev_s_NUMERIC (Or.inr ⟨(hw _ (own_g (i := 3) rfl)), (hw _ (own_g (i := 21) rfl))⟩)
  obtain ⟨s_DATE, ev_s_DATE⟩ := exa_v u12a
  have OE_s_DATE := Exa.start ev_s_DATE u12a
  have S_s_DATE := Sta.start ev_s_DATE (Or.inr ⟨(hw _ (own_g (i := 3) rfl)), (hw _ (own_g (i := 23) rfl))⟩)
  obtain ⟨s_TIME, ev_s_TIME⟩ := exa_v u13a
  have OE_s_TIME := Exa.start ev_s_TIME u13a
  have S_s_TIME := Sta.start ev_s_TIME (Or.inr ⟨(hw _ (own_g (i := 3) rfl)), (hw _ (own_g (i := 25) rfl))⟩)
  obtain ⟨s_TIMESTAMP, ev_s_TIMESTAMP⟩ := exa_v u14a
  have OE_s_TIMESTAMP := Exa.start ev_s_TIMESTAMP u14a
  have S_s_TIMESTAMP := Sta.start ev_s_TIMESTAMP (Or.inr ⟨(hw _ (own_g (i := 3) rfl)), (hw _ (own_g (i := 27) rfl))⟩)
  obtain ⟨s_TIMESTAMP_TZ, ev_s_TIMESTAMP_TZ⟩ := exa_v u15a
  have OE_s_TIMESTAMP_TZ := Exa.start ev_s_TIMESTAMP_TZ u15a
  have S_s_TIMESTAMP_TZ := Sta.start ev_s_TIMESTAMP_TZ (Or.inr ⟨(hw _ (own_g (i := 3) rfl)), (hw _ (own_g (i := 29) rfl))⟩)
  obtain ⟨s_ENUM_NAME, ev_s_ENUM_NAME⟩ := exa_v u16a
  have OE_s_ENUM_NAME := Exa.start ev_s_ENUM_NAME u16a
  have S_s_ENUM_NAME := Sta.start ev_s_ENUM_NAME (Or.inr ⟨(hw _ (own_g (i := 3) rfl)), (hw _ (own_g (i := 31) rfl))⟩)
  obtain ⟨s_ENUM_ORDINAL, ev_s_ENUM_ORDINAL⟩ := exa_v u17a
  have OE_s_ENUM_ORDINAL := Exa.start ev_s_ENUM_ORDINAL u17a
  have S_s_ENUM_ORDINAL := Sta.start ev_s_ENUM_ORDINAL (Or.inr ⟨(hw _ (own_g (i := 3) rfl)), (hw _ (own_g (i := 33) rfl))⟩)
  obtain ⟨s_ENUM_VALUE, ev_s_ENUM_VALUE⟩ := exa_v u18a
  have OE_s_ENUM_VALUE := Exa.start ev_s_ENUM_VALUE u18a
  have S_s_ENUM_VALUE := Sta.start ev_s_ENUM_VALUE (Or.inr ⟨(hw _ (own_g (i := 3) rfl)), (hw _ (own_g (i := 35) rfl))⟩)
  have OF_s_VARCHAR_ordinal : Fld s s.heap s_VARCHAR "java/lang/Enum" "ordinal" "I" (.int (0 : Int32)) := own_eq_fld ev_s_VARCHAR u19a
  have OF_s_TIME_ordinal : Fld s s.heap s_TIME "java/lang/Enum" "ordinal" "I" (.int (10 : Int32)) := own_eq_fld ev_s_TIME u20a
  have OF_s_TIMESTAMP_ordinal : Fld s s.heap s_TIMESTAMP "java/lang/Enum" "ordinal" "I" (.int (11 : Int32)) := own_eq_fld ev_s_TIMESTAMP u21a
  have OF_s_TIMESTAMP_TZ_ordinal : Fld s s.heap s_TIMESTAMP_TZ "java/lang/Enum" "ordinal" "I" (.int (12 : Int32)) := own_eq_fld ev_s_TIMESTAMP_TZ u22a
  have OF_s_ENUM_ORDINAL_ordinal : Fld s s.heap s_ENUM_ORDINAL "java/lang/Enum" "ordinal" "I" (.int (14 : Int32)) := own_eq_fld ev_s_ENUM_ORDINAL u23a
  have OF_s_NUMERIC_ordinal : Fld s s.heap s_NUMERIC "java/lang/Enum" "ordinal" "I" (.int (8 : Int32)) := own_eq_fld ev_s_NUMERIC u24a
  have OF_s_ENUM_NAME_ordinal : Fld s s.heap s_ENUM_NAME "java/lang/Enum" "ordinal" "I" (.int (13 : Int32)) := own_eq_fld ev_s_ENUM_NAME u25a
  have OF_s_REAL_ordinal : Fld s s.heap s_REAL "java/lang/Enum" "ordinal" "I" (.int (6 : Int32)) := own_eq_fld ev_s_REAL u26a
  have OF_s_DOUBLE_ordinal : Fld s s.heap s_DOUBLE "java/lang/Enum" "ordinal" "I" (.int (7 : Int32)) := own_eq_fld ev_s_DOUBLE u27a
  have OF_s_INTEGER_ordinal : Fld s s.heap s_INTEGER "java/lang/Enum" "ordinal" "I" (.int (3 : Int32)) := own_eq_fld ev_s_INTEGER u28a
  have OF_s_ENUM_VALUE_ordinal : Fld s s.heap s_ENUM_VALUE "java/lang/Enum" "ordinal" "I" (.int (15 : Int32)) := own_eq_fld ev_s_ENUM_VALUE u29a
  have OF_s_CHAR_ordinal : Fld s s.heap s_CHAR "java/lang/Enum" "ordinal" "I" (.int (1 : Int32)) := own_eq_fld ev_s_CHAR u30a
  have OF_s_BOOLEAN_ordinal : Fld s s.heap s_BOOLEAN "java/lang/Enum" "ordinal" "I" (.int (5 : Int32)) := own_eq_fld ev_s_BOOLEAN u31a
  have OF_s_SMALLINT_ordinal : Fld s s.heap s_SMALLINT "java/lang/Enum" "ordinal" "I" (.int (2 : Int32)) := own_eq_fld ev_s_SMALLINT u32a
  have OF_s_DATE_ordinal : Fld s s.heap s_DATE "java/lang/Enum" "ordinal" "I" (.int (9 : Int32)) := own_eq_fld ev_s_DATE u33a
  have OF_s_BIGINT_ordinal : Fld s s.heap s_BIGINT "java/lang/Enum" "ordinal" "I" (.int (4 : Int32)) := own_eq_fld ev_s_BIGINT u33b
  obtain ⟨s_EL, ev⟩ := exa_v (Cond.before_iff.mp (hsets _ (List.mem_of_getElem? (i := 2) rfl)))
  have OE := Exa.start ev (Cond.before_iff.mp (hsets _ (List.mem_of_getElem? (i := 2) rfl)))
  have SZ := Sta.start ev (Or.inl (hsets _ (List.mem_of_getElem? (i := 1) rfl)))
  have F1 : Fld s s.heap s_EL "java/util/ImmutableCollections$ListN" "allowNulls" "Z" (.int (0 : Int32)) := own_eq_fld ev (Cond.before_iff.mp (hsets _ (List.mem_of_getElem? (i := 6) rfl)))
  obtain ⟨n, o, h1, h2, h3, _, L, rfl, ⟨rfl, N⟩, hq⟩ := rm_law l s _ hw tables_1 i0 i1 s_VARCHAR s_CHAR s_SMALLINT s_INTEGER s_BIGINT s_BOOLEAN s_REAL s_DOUBLE s_NUMERIC s_DATE s_TIME s_TIMESTAMP s_TIMESTAMP_TZ s_ENUM_NAME s_ENUM_ORDINAL s_ENUM_VALUE s_EL s.heap s.heap.size (Old.start s) (S_s_VARCHAR) (S_s_CHAR) (S_s_SMALLINT) (S_s_INTEGER) (S_s_BIGINT) (S_s_BOOLEAN) (S_s_REAL) (S_s_DOUBLE) (S_s_NUMERIC) (S_s_DATE) (S_s_TIME) (S_s_TIMESTAMP) (S_s_TIMESTAMP_TZ) (S_s_ENUM_NAME) (S_s_ENUM_ORDINAL) (S_s_ENUM_VALUE) (OE_s_VARCHAR) (OE_s_CHAR) (OE_s_SMALLINT) (OE_s_INTEGER) (OE_s_BIGINT) (OE_s_BOOLEAN) (OE_s_REAL) (OE_s_DOUBLE) (OE_s_NUMERIC) (OE_s_DATE) (OE_s_TIME) (OE_s_TIMESTAMP) (OE_s_TIMESTAMP_TZ) (OE_s_ENUM_NAME) (OE_s_ENUM_ORDINAL) (OE_s_ENUM_VALUE) (OF_s_VARCHAR_ordinal) (OF_s_CHAR_ordinal) (OF_s_SMALLINT_ordinal) (OF_s_INTEGER_ordinal) (OF_s_BIGINT_ordinal) (OF_s_BOOLEAN_ordinal) (OF_s_REAL_ordinal) (OF_s_DOUBLE_ordinal) (OF_s_NUMERIC_ordinal) (OF_s_DATE_ordinal) (OF_s_TIME_ordinal) (OF_s_TIMESTAMP_ordinal) (OF_s_TIMESTAMP_TZ_ordinal) (OF_s_ENUM_NAME_ordinal) (OF_s_ENUM_ORDINAL_ordinal) (OF_s_ENUM_VALUE_ordinal) (SZ) (OE) (F1) p e ha hc hk s m _ below hf ((Spec.applies_iff_loose hf).mp happ).1 ⟨rfl, State.Warmed39.refl s, rfl⟩ trivial
  refine ⟨n, _, h1, h2, h3, hpost _ _ _ _ _ _ ⟨Cond.after_iff.mpr rfl, Cond.after_iff.mpr (eq_i res_at (Term.int_eval (1)) rfl), trivial⟩ ⟨hq.1, hq.2.1, (hq.2.2.sift fun y hy => Or.inr (N y hy)).mono (by decide) (by decide)⟩⟩
theorem main_1_1 : Claimed_1_1 := comes_1 fun _ _ _ _ _ _ h hF => ⟨h.1, hF⟩
theorem main_1_2 : Claimed_1_2 := comes_1 fun _ _ _ _ _ _ h hF => ⟨h.2.1, hF⟩

end Jvm.Pilot.@@N@@
namespace Jvm.Pilot.@@N@@
open Jvm Jvm.ClassFile Sem Op Lib Jvm.Free Jvm.Stand Jvm.Pilot.@@N@@.Jvm.D
/-! MADE BY PROGRAM (witnessworld.py) out of the Statement's table words and the real class files: 26 classes; the members and pool entries that the words name. The judged class is class 1, her method 1. -/
namespace start1
open Jvm.ClassFile
def u (s : String) : CpInfo := .utf8 (stringToUtf16 s)
/-- a pool by its gaps: so many unusable entries, then the entry; so many at the end -/
def gap : Nat → List CpInfo → List CpInfo
  | 0, r => r
  | n + 1, r => .unusable :: gap n r
def poolList (es : List (Nat × CpInfo)) (last : Nat) : List CpInfo := es.foldr (fun e r => gap e.1 (e.2 :: r)) (gap last [])
def pool (es : List (Nat × CpInfo)) (last : Nat) : Array CpInfo := ⟨poolList es last⟩
def fileOf (pool : Array CpInfo) (this : Nat) (attrs : Array Attribute := #[]) (ms : Array MethodInfo := #[]) (fl : Nat := 33) (sup : Nat := 0) (ifs : Array Nat := #[]) (fds : Array FieldInfo := #[]) : ClassFile where
  minorVersion := 0
  majorVersion := 65
  constantPool := pool
  accessFlags := fl
  thisClass := this
  superClass := sup
  interfaces := ifs
  fields := fds
  methods := ms
  attributes := attrs
def plain (name : String) (sup : Option ClassId) : Class where
  name := name
  kind := .ordinary
  loader := none
  accessFlags := 33
  super := sup
  interfaces := #[]
  cf := none
  fields := #[]
  methods := #[]
  instanceTypes := #[]
  staticTypes := #[]
  resolved := #[]
  callSites := []
  init := .initialized
  statics := none
  mirror := none

def pool0 : Array CpInfo := pool [(5, u "<init>"), (0, u "()V"), (1, .class_ 10), (1, u "java/lang/Object")] 113

def k0c0 : Code := { maxStack := 0, maxLocals := 1, code := object_method_1_code, exceptionTable := #[], attributes := #[] }
def k0m0 : Method := { name := "<init>", desc := "()V", sig := { parameters := [], returnType := none }, accessFlags := 1, code := some k0c0 }
/-- java/lang/Object -/
def k0 : Class := { plain "java/lang/Object" none with
  accessFlags := 33
  interfaces := #[]
  cf := some (fileOf pool0 8 #[] #[{ accessFlags := 1, nameIndex := 5, descriptorIndex := 6, attributes := #[] }] 33 0 #[] #[])
  fields := #[]
  methods := #[k0m0]
  instanceTypes := #[]
  staticTypes := #[]
  resolved := Array.replicate 124 none
  statics := none }

def pool1 : Array CpInfo := pool [(2, .class_ 4), (1, u "java/lang/Object"), (0, u "<init>"), (0, u "()V"), (0, .class_ 8), (0, u "com/example/blindern/blindern/mapping/ColumnType$Kind"), (0, .fieldref 7 10), (0, .nameAndType 11 12), (0, u "VARCHAR"), (0, u "Lcom/example/blindern/blindern/mapping/ColumnType$Kind;"), (0, .fieldref 7 14), (0, .nameAndType 15 12), (0, u "CHAR"), (0, .fieldref 7 17), (0, .nameAndType 18 12), (0, u "SMALLINT"), (0, .fieldref 7 20), (0, .nameAndType 21 12), (0, u "INTEGER"), (0, .fieldref 7 23), (0, .nameAndType 24 12), (0, u "BIGINT"), (0, .fieldref 7 26), (0, .nameAndType 27 12), (0, u "BOOLEAN"), (0, .fieldref 7 29), (0, .nameAndType 30 12), (0, u "REAL"), (0, .fieldref 7 32), (0, .nameAndType 33 12), (0, u "DOUBLE"), (0, .fieldref 7 35), (0, .nameAndType 36 12), (0, u "NUMERIC"), (0, .fieldref 7 38), (0, .nameAndType 39 12), (0, u "DATE"), (0, .fieldref 7 41), (0, .nameAndType 42 12), (0, u "TIME"), (0, .fieldref 7 44), (0, .nameAndType 45 12), (0, u "TIMESTAMP"), (0, .fieldref 7 47), (0, .nameAndType 48 12), (0, u "TIMESTAMP_TZ"), (0, .fieldref 7 50), (0, .nameAndType 51 12), (0, u "ENUM_NAME"), (0, .fieldref 7 53), (0, .nameAndType 54 12), (0, u "ENUM_ORDINAL"), (0, .fieldref 7 56), (0, .nameAndType 57 12), (0, u "ENUM_VALUE"), (0, .methodref 7 59), (0, .nameAndType 60 61), (0, u "takesSecondPrecision"), (0, u "()Z"), (0, .methodref 63 64), (0, .class_ 65), (0, .nameAndType 66 67), (0, u "com/example/blindern/blindern/mapping/ColumnType"), (0, u "temporal"), (0, u "(Lcom/example/blindern/blindern/mapping/ColumnType$Kind;I)Lcom/example/blindern/blindern/mapping/ColumnType;"), (0, .methodref 63 69), (0, .nameAndType 70 71), (0, u "kind"), (0, u "()Lcom/example/blindern/blindern/mapping/ColumnType$Kind;"), (0, .methodref 63 73), (0, .nameAndType 74 75), (0, u "precision"), (0, u "()I"), (0, .class_ 77), (0, u "com/example/blindern/blindern/mapping/KindTakesSecondPrecisionPinLaw"), (2, u "law"), (0, u "(II)Z")] 7

def k1m0 : Method := { name := "<init>", desc := "()V", sig := { parameters := [], returnType := none }, accessFlags := 1, code := none }
def k1c1 : Code := { maxStack := 4, maxLocals := 8, code := code, exceptionTable := #[], attributes := #[] }
def k1m1 : Method := { name := "law", desc := "(II)Z", sig := { parameters := [.int, .int], returnType := some .boolean }, accessFlags := 9, code := some k1c1 }
/-- com/example/blindern/blindern/mapping/KindTakesSecondPrecisionPinLaw -/
def k1 : Class := { plain "com/example/blindern/blindern/mapping/KindTakesSecondPrecisionPinLaw" (some 0) with
  accessFlags := 49
  interfaces := #[]
  cf := some (fileOf pool1 76 #[] #[{ accessFlags := 1, nameIndex := 5, descriptorIndex := 6, attributes := #[] }, { accessFlags := 9, nameIndex := 80, descriptorIndex := 81, attributes := #[] }] 49 2 #[] #[])
  fields := #[]
  methods := #[k1m0, k1m1]
  instanceTypes := #[]
  staticTypes := #[]
  resolved := Array.replicate 89 none
  statics := none }

def pool2 : Array CpInfo := pool [(1, .class_ 2), (0, u "java/lang/constant/Constable"), (0, .class_ 4), (0, u "java/lang/Object")] 6

/-- java/lang/constant/Constable -/
def k2 : Class := { plain "java/lang/constant/Constable" (some 0) with
  accessFlags := 1537
  interfaces := #[]
  cf := some (fileOf pool2 1 #[] #[] 1537 3 #[] #[])
  fields := #[]
  methods := #[]
  instanceTypes := #[]
  staticTypes := #[]
  resolved := Array.replicate 11 none
  statics := none }

def pool3 : Array CpInfo := pool [(1, .class_ 2), (0, u "java/lang/Comparable"), (0, .class_ 4), (0, u "java/lang/Object")] 7

/-- java/lang/Comparable -/
def k3 : Class := { plain "java/lang/Comparable" (some 0) with
  accessFlags := 1537
  interfaces := #[]
  cf := some (fileOf pool3 1 #[] #[] 1537 3 #[] #[])
  fields := #[]
  methods := #[]
  instanceTypes := #[]
  staticTypes := #[]
  resolved := Array.replicate 12 none
  statics := none }

def pool4 : Array CpInfo := pool [(1, .class_ 2), (0, u "java/io/Serializable"), (0, .class_ 4), (0, u "java/lang/Object")] 2

/-- java/io/Serializable -/
def k4 : Class := { plain "java/io/Serializable" (some 0) with
  accessFlags := 1537
  interfaces := #[]
  cf := some (fileOf pool4 1 #[] #[] 1537 3 #[] #[])
  fields := #[]
  methods := #[]
  instanceTypes := #[]
  staticTypes := #[]
  resolved := Array.replicate 7 none
  statics := none }

def pool5 : Array CpInfo := pool [(2, .class_ 4), (1, u "java/lang/Enum"), (0, u "name"), (0, u "Ljava/lang/String;"), (2, u "ordinal"), (0, u "I"), (1, .class_ 14), (1, u "java/lang/Object"), (4, u "hash"), (86, .class_ 108), (1, u "java/lang/Enum$EnumDesc"), (2, .class_ 112), (0, u "java/lang/constant/Constable"), (0, .class_ 114), (0, u "java/lang/Comparable"), (0, .class_ 116), (0, u "java/io/Serializable")] 87

/-- java/lang/Enum -/
def k5 : Class := { plain "java/lang/Enum" (some 0) with
  accessFlags := 1057
  interfaces := #[2, 3, 4]
  cf := some (fileOf pool5 2 #[.nestMembers #[106]] #[] 1057 12 #[111, 113, 115] #[{ accessFlags := 18, nameIndex := 5, descriptorIndex := 6, attributes := #[] }, { accessFlags := 18, nameIndex := 9, descriptorIndex := 10, attributes := #[] }, { accessFlags := 2, nameIndex := 19, descriptorIndex := 10, attributes := #[] }])
  fields := #[{ name := "name", type := (.object "java/lang/String"), accessFlags := 18, slot := 0, constantValue := 0 }, { name := "ordinal", type := .int, accessFlags := 18, slot := 1, constantValue := 0 }, { name := "hash", type := .int, accessFlags := 2, slot := 2, constantValue := 0 }]
  methods := #[]
  instanceTypes := #[(.object "java/lang/String"), .int, .int]
  staticTypes := #[]
  resolved := Array.replicate 204 none
  statics := none }

def pool6 : Array CpInfo := pool [(1, .class_ 2), (0, u "com/example/blindern/blindern/mapping/ColumnType$Kind"), (2, u "VARCHAR"), (0, u "Lcom/example/blindern/blindern/mapping/ColumnType$Kind;"), (2, u "CHAR"), (2, u "SMALLINT"), (2, u "INTEGER"), (2, u "BIGINT"), (2, u "BOOLEAN"), (2, u "REAL"), (2, u "DOUBLE"), (2, u "NUMERIC"), (2, u "DATE"), (0, .fieldref 1 35), (0, .nameAndType 36 6), (0, u "TIME"), (0, .fieldref 1 38), (0, .nameAndType 39 6), (0, u "TIMESTAMP"), (0, .fieldref 1 41), (0, .nameAndType 42 6), (0, u "TIMESTAMP_TZ"), (2, u "ENUM_NAME"), (2, u "ENUM_ORDINAL"), (2, u "ENUM_VALUE"), (2, u "$VALUES"), (0, u "[Lcom/example/blindern/blindern/mapping/ColumnType$Kind;"), (6, .class_ 64), (1, u "java/lang/Enum"), (34, u "takesSecondPrecision"), (0, u "()Z"), (6, .class_ 108), (0, u "com/example/blindern/blindern/mapping/ColumnType")] 2

def k6c0 : Code := { maxStack := 2, maxLocals := 1, code := prog_22_method_4_code, exceptionTable := #[], attributes := #[] }
def k6m0 : Method := { name := "takesSecondPrecision", desc := "()Z", sig := { parameters := [], returnType := some .boolean }, accessFlags := 1, code := some k6c0 }
/-- com/example/blindern/blindern/mapping/ColumnType$Kind -/
def k6 : Class := { plain "com/example/blindern/blindern/mapping/ColumnType$Kind" (some 5) with
  accessFlags := 16433
  interfaces := #[]
  cf := some (fileOf pool6 1 #[.nestHost 107] #[{ accessFlags := 1, nameIndex := 99, descriptorIndex := 100, attributes := #[] }] 16433 62 #[] #[{ accessFlags := 16409, nameIndex := 5, descriptorIndex := 6, attributes := #[] }, { accessFlags := 16409, nameIndex := 9, descriptorIndex := 6, attributes := #[] }, { accessFlags := 16409, nameIndex := 12, descriptorIndex := 6, attributes := #[] }, { accessFlags := 16409, nameIndex := 15, descriptorIndex := 6, attributes := #[] }, { accessFlags := 16409, nameIndex := 18, descriptorIndex := 6, attributes := #[] }, { accessFlags := 16409, nameIndex := 21, descriptorIndex := 6, attributes := #[] }, { accessFlags := 16409, nameIndex := 24, descriptorIndex := 6, attributes := #[] }, { accessFlags := 16409, nameIndex := 27, descriptorIndex := 6, attributes := #[] }, { accessFlags := 16409, nameIndex := 30, descriptorIndex := 6, attributes := #[] }, { accessFlags := 16409, nameIndex := 33, descriptorIndex := 6, attributes := #[] }, { accessFlags := 16409, nameIndex := 36, descriptorIndex := 6, attributes := #[] }, { accessFlags := 16409, nameIndex := 39, descriptorIndex := 6, attributes := #[] }, { accessFlags := 16409, nameIndex := 42, descriptorIndex := 6, attributes := #[] }, { accessFlags := 16409, nameIndex := 45, descriptorIndex := 6, attributes := #[] }, { accessFlags := 16409, nameIndex := 48, descriptorIndex := 6, attributes := #[] }, { accessFlags := 16409, nameIndex := 51, descriptorIndex := 6, attributes := #[] }, { accessFlags := 4122, nameIndex := 54, descriptorIndex := 55, attributes := #[] }])
  fields := #[{ name := "VARCHAR", type := (.object "com/example/blindern/blindern/mapping/ColumnType$Kind"), accessFlags := 16409, slot := 0, constantValue := 0 }, { name := "CHAR", type := (.object "com/example/blindern/blindern/mapping/ColumnType$Kind"), accessFlags := 16409, slot := 1, constantValue := 0 }, { name := "SMALLINT", type := (.object "com/example/blindern/blindern/mapping/ColumnType$Kind"), accessFlags := 16409, slot := 2, constantValue := 0 }, { name := "INTEGER", type := (.object "com/example/blindern/blindern/mapping/ColumnType$Kind"), accessFlags := 16409, slot := 3, constantValue := 0 }, { name := "BIGINT", type := (.object "com/example/blindern/blindern/mapping/ColumnType$Kind"), accessFlags := 16409, slot := 4, constantValue := 0 }, { name := "BOOLEAN", type := (.object "com/example/blindern/blindern/mapping/ColumnType$Kind"), accessFlags := 16409, slot := 5, constantValue := 0 }, { name := "REAL", type := (.object "com/example/blindern/blindern/mapping/ColumnType$Kind"), accessFlags := 16409, slot := 6, constantValue := 0 }, { name := "DOUBLE", type := (.object "com/example/blindern/blindern/mapping/ColumnType$Kind"), accessFlags := 16409, slot := 7, constantValue := 0 }, { name := "NUMERIC", type := (.object "com/example/blindern/blindern/mapping/ColumnType$Kind"), accessFlags := 16409, slot := 8, constantValue := 0 }, { name := "DATE", type := (.object "com/example/blindern/blindern/mapping/ColumnType$Kind"), accessFlags := 16409, slot := 9, constantValue := 0 }, { name := "TIME", type := (.object "com/example/blindern/blindern/mapping/ColumnType$Kind"), accessFlags := 16409, slot := 10, constantValue := 0 }, { name := "TIMESTAMP", type := (.object "com/example/blindern/blindern/mapping/ColumnType$Kind"), accessFlags := 16409, slot := 11, constantValue := 0 }, { name := "TIMESTAMP_TZ", type := (.object "com/example/blindern/blindern/mapping/ColumnType$Kind"), accessFlags := 16409, slot := 12, constantValue := 0 }, { name := "ENUM_NAME", type := (.object "com/example/blindern/blindern/mapping/ColumnType$Kind"), accessFlags := 16409, slot := 13, constantValue := 0 }, { name := "ENUM_ORDINAL", type := (.object "com/example/blindern/blindern/mapping/ColumnType$Kind"), accessFlags := 16409, slot := 14, constantValue := 0 }, { name := "ENUM_VALUE", type := (.object "com/example/blindern/blindern/mapping/ColumnType$Kind"), accessFlags := 16409, slot := 15, constantValue := 0 }, { name := "$VALUES", type := (.array (.object "com/example/blindern/blindern/mapping/ColumnType$Kind")), accessFlags := 4122, slot := 16, constantValue := 0 }]
  methods := #[k6m0]
  instanceTypes := #[(.object "java/lang/String"), .int, .int]
  staticTypes := #[(.object "com/example/blindern/blindern/mapping/ColumnType$Kind"), (.object "com/example/blindern/blindern/mapping/ColumnType$Kind"), (.object "com/example/blindern/blindern/mapping/ColumnType$Kind"), (.object "com/example/blindern/blindern/mapping/ColumnType$Kind"), (.object "com/example/blindern/blindern/mapping/ColumnType$Kind"), (.object "com/example/blindern/blindern/mapping/ColumnType$Kind"), (.object "com/example/blindern/blindern/mapping/ColumnType$Kind"), (.object "com/example/blindern/blindern/mapping/ColumnType$Kind"), (.object "com/example/blindern/blindern/mapping/ColumnType$Kind"), (.object "com/example/blindern/blindern/mapping/ColumnType$Kind"), (.object "com/example/blindern/blindern/mapping/ColumnType$Kind"), (.object "com/example/blindern/blindern/mapping/ColumnType$Kind"), (.object "com/example/blindern/blindern/mapping/ColumnType$Kind"), (.object "com/example/blindern/blindern/mapping/ColumnType$Kind"), (.object "com/example/blindern/blindern/mapping/ColumnType$Kind"), (.object "com/example/blindern/blindern/mapping/ColumnType$Kind"), (.array (.object "com/example/blindern/blindern/mapping/ColumnType$Kind"))]
  resolved := Array.replicate 111 none
  statics := some 0 }

def pool7 : Array CpInfo := pool [(1, .interfaceMethodref 2 3), (0, .class_ 4), (0, .nameAndType 5 6), (0, u "java/util/List"), (0, u "of"), (0, u "()Ljava/util/List;"), (0, .methodref 8 9), (0, .class_ 10), (0, .nameAndType 11 12), (0, u "com/example/blindern/blindern/mapping/ColumnType"), (0, u "<init>"), (0, u "(Lcom/example/blindern/blindern/mapping/ColumnType$Kind;IIILjava/lang/String;Ljava/util/List;Ljava/util/List;Lcom/example/blindern/blindern/mapping/ColumnType;Ljava/lang/String;Ljava/lang/String;)V"), (0, .methodref 14 15), (0, .class_ 16), (0, .nameAndType 11 17), (0, u "java/lang/Object"), (0, u "()V"), (0, .fieldref 8 19), (0, .nameAndType 20 21), (0, u "kind"), (0, u "Lcom/example/blindern/blindern/mapping/ColumnType$Kind;"), (0, .fieldref 8 23), (0, .nameAndType 24 25), (0, u "length"), (0, u "I"), (0, .fieldref 8 27), (0, .nameAndType 28 25), (0, u "precision"), (0, .fieldref 8 30), (0, .nameAndType 31 25), (0, u "scale"), (0, .fieldref 8 33), (0, .nameAndType 34 35), (0, u "enumType"), (0, u "Ljava/lang/String;"), (0, .interfaceMethodref 2 37), (0, .nameAndType 38 39), (0, u "copyOf"), (0, u "(Ljava/util/Collection;)Ljava/util/List;"), (0, .fieldref 8 41), (0, .nameAndType 42 43), (0, u "names"), (0, u "Ljava/util/List;"), (0, .fieldref 8 45), (0, .nameAndType 46 43), (0, u "values"), (0, .fieldref 8 48), (0, .nameAndType 49 50), (0, u "column"), (0, u "Lcom/example/blindern/blindern/mapping/ColumnType;"), (0, .fieldref 8 52), (0, .nameAndType 53 35), (0, u "where"), (0, .fieldref 8 55), (0, .nameAndType 56 35), (0, u "given"), (1, .class_ 60), (1, u "com/example/blindern/blindern/mapping/ColumnType$Kind"), (16, .methodref 58 78), (0, .nameAndType 79 80), (0, u "takesSecondPrecision"), (0, u "()Z"), (15, .methodref 8 97), (0, .nameAndType 11 98), (0, u "(Lcom/example/blindern/blindern/mapping/ColumnType$Kind;IIILjava/lang/String;Ljava/util/List;)V"), (49, u "temporal"), (0, u "(Lcom/example/blindern/blindern/mapping/ColumnType$Kind;I)Lcom/example/blindern/blindern/mapping/ColumnType;"), (14, u "()Lcom/example/blindern/blindern/mapping/ColumnType$Kind;"), (0, u "()I")] 31

def k7c0 : Code := { maxStack := 11, maxLocals := 7, code := prog_21_method_1_code, exceptionTable := #[], attributes := #[] }
def k7m0 : Method := { name := "<init>", desc := "(Lcom/example/blindern/blindern/mapping/ColumnType$Kind;IIILjava/lang/String;Ljava/util/List;)V", sig := { parameters := [(.object "com/example/blindern/blindern/mapping/ColumnType$Kind"), .int, .int, .int, (.object "java/lang/String"), (.object "java/util/List")], returnType := none }, accessFlags := 2, code := some k7c0 }
def k7c1 : Code := { maxStack := 2, maxLocals := 11, code := prog_21_method_2_code, exceptionTable := #[], attributes := #[] }
def k7m1 : Method := { name := "<init>", desc := "(Lcom/example/blindern/blindern/mapping/ColumnType$Kind;IIILjava/lang/String;Ljava/util/List;Ljava/util/List;Lcom/example/blindern/blindern/mapping/ColumnType;Ljava/lang/String;Ljava/lang/String;)V", sig := { parameters := [(.object "com/example/blindern/blindern/mapping/ColumnType$Kind"), .int, .int, .int, (.object "java/lang/String"), (.object "java/util/List"), (.object "java/util/List"), (.object "com/example/blindern/blindern/mapping/ColumnType"), (.object "java/lang/String"), (.object "java/lang/String")], returnType := none }, accessFlags := 2, code := some k7c1 }
def k7c2 : Code := { maxStack := 8, maxLocals := 2, code := prog_21_method_4_code, exceptionTable := #[], attributes := #[] }
def k7m2 : Method := { name := "temporal", desc := "(Lcom/example/blindern/blindern/mapping/ColumnType$Kind;I)Lcom/example/blindern/blindern/mapping/ColumnType;", sig := { parameters := [(.object "com/example/blindern/blindern/mapping/ColumnType$Kind"), .int], returnType := some (.object "com/example/blindern/blindern/mapping/ColumnType") }, accessFlags := 9, code := some k7c2 }
def k7c3 : Code := { maxStack := 1, maxLocals := 1, code := prog_21_method_11_code, exceptionTable := #[], attributes := #[] }
def k7m3 : Method := { name := "kind", desc := "()Lcom/example/blindern/blindern/mapping/ColumnType$Kind;", sig := { parameters := [], returnType := some (.object "com/example/blindern/blindern/mapping/ColumnType$Kind") }, accessFlags := 1, code := some k7c3 }
def k7c4 : Code := { maxStack := 1, maxLocals := 1, code := prog_21_method_13_code, exceptionTable := #[], attributes := #[] }
def k7m4 : Method := { name := "precision", desc := "()I", sig := { parameters := [], returnType := some .int }, accessFlags := 1, code := some k7c4 }
/-- com/example/blindern/blindern/mapping/ColumnType -/
def k7 : Class := { plain "com/example/blindern/blindern/mapping/ColumnType" (some 0) with
  accessFlags := 33
  interfaces := #[]
  cf := some (fileOf pool7 8 #[.nestMembers #[58]] #[{ accessFlags := 2, nameIndex := 11, descriptorIndex := 98, attributes := #[] }, { accessFlags := 2, nameIndex := 11, descriptorIndex := 12, attributes := #[] }, { accessFlags := 9, nameIndex := 148, descriptorIndex := 149, attributes := #[] }, { accessFlags := 1, nameIndex := 20, descriptorIndex := 164, attributes := #[] }, { accessFlags := 1, nameIndex := 28, descriptorIndex := 165, attributes := #[] }] 33 14 #[] #[{ accessFlags := 18, nameIndex := 20, descriptorIndex := 21, attributes := #[] }, { accessFlags := 18, nameIndex := 24, descriptorIndex := 25, attributes := #[] }, { accessFlags := 18, nameIndex := 28, descriptorIndex := 25, attributes := #[] }, { accessFlags := 18, nameIndex := 31, descriptorIndex := 25, attributes := #[] }, { accessFlags := 18, nameIndex := 34, descriptorIndex := 35, attributes := #[] }, { accessFlags := 18, nameIndex := 42, descriptorIndex := 43, attributes := #[] }, { accessFlags := 18, nameIndex := 46, descriptorIndex := 43, attributes := #[] }, { accessFlags := 18, nameIndex := 49, descriptorIndex := 50, attributes := #[] }, { accessFlags := 18, nameIndex := 53, descriptorIndex := 35, attributes := #[] }, { accessFlags := 18, nameIndex := 56, descriptorIndex := 35, attributes := #[] }])
  fields := #[{ name := "kind", type := (.object "com/example/blindern/blindern/mapping/ColumnType$Kind"), accessFlags := 18, slot := 0, constantValue := 0 }, { name := "length", type := .int, accessFlags := 18, slot := 1, constantValue := 0 }, { name := "precision", type := .int, accessFlags := 18, slot := 2, constantValue := 0 }, { name := "scale", type := .int, accessFlags := 18, slot := 3, constantValue := 0 }, { name := "enumType", type := (.object "java/lang/String"), accessFlags := 18, slot := 4, constantValue := 0 }, { name := "names", type := (.object "java/util/List"), accessFlags := 18, slot := 5, constantValue := 0 }, { name := "values", type := (.object "java/util/List"), accessFlags := 18, slot := 6, constantValue := 0 }, { name := "column", type := (.object "com/example/blindern/blindern/mapping/ColumnType"), accessFlags := 18, slot := 7, constantValue := 0 }, { name := "where", type := (.object "java/lang/String"), accessFlags := 18, slot := 8, constantValue := 0 }, { name := "given", type := (.object "java/lang/String"), accessFlags := 18, slot := 9, constantValue := 0 }]
  methods := #[k7m0, k7m1, k7m2, k7m3, k7m4]
  instanceTypes := #[(.object "com/example/blindern/blindern/mapping/ColumnType$Kind"), .int, .int, .int, (.object "java/lang/String"), (.object "java/util/List"), (.object "java/util/List"), (.object "com/example/blindern/blindern/mapping/ColumnType"), (.object "java/lang/String"), (.object "java/lang/String")]
  staticTypes := #[]
  resolved := Array.replicate 197 none
  statics := none }

def pool8 : Array CpInfo := pool [(8, .class_ 10), (1, u "java/lang/Iterable"), (24, .class_ 36), (0, u "java/lang/Object")] 25

/-- java/lang/Iterable -/
def k8 : Class := { plain "java/lang/Iterable" (some 0) with
  accessFlags := 1537
  interfaces := #[]
  cf := some (fileOf pool8 8 #[] #[] 1537 35 #[] #[])
  fields := #[]
  methods := #[]
  instanceTypes := #[]
  staticTypes := #[]
  resolved := Array.replicate 62 none
  statics := none }

def pool9 : Array CpInfo := pool [(10, .class_ 12), (1, u "java/util/Collection"), (47, .class_ 61), (0, u "java/lang/Object"), (0, .class_ 63), (0, u "java/lang/Iterable")] 51

/-- java/util/Collection -/
def k9 : Class := { plain "java/util/Collection" (some 0) with
  accessFlags := 1537
  interfaces := #[8]
  cf := some (fileOf pool9 10 #[] #[] 1537 60 #[62] #[])
  fields := #[]
  methods := #[]
  instanceTypes := #[]
  staticTypes := #[]
  resolved := Array.replicate 115 none
  statics := none }

def pool10 : Array CpInfo := pool [(8, .class_ 10), (1, u "java/util/SequencedCollection"), (15, .class_ 27), (0, u "java/lang/Object"), (0, .class_ 29), (0, u "java/util/Collection")] 27

/-- java/util/SequencedCollection -/
def k10 : Class := { plain "java/util/SequencedCollection" (some 0) with
  accessFlags := 1537
  interfaces := #[9]
  cf := some (fileOf pool10 8 #[] #[] 1537 26 #[28] #[])
  fields := #[]
  methods := #[]
  instanceTypes := #[]
  staticTypes := #[]
  resolved := Array.replicate 57 none
  statics := none }

def pool11 : Array CpInfo := pool [(8, .class_ 10), (1, u "java/util/List"), (77, u "of"), (1, .fieldref 91 92), (0, .class_ 93), (0, .nameAndType 94 95), (0, u "java/util/ImmutableCollections"), (0, u "EMPTY_LIST"), (0, u "Ljava/util/ImmutableCollections$ListN;"), (7, .class_ 104), (0, u "java/lang/Object"), (7, .methodref 91 113), (0, .nameAndType 114 115), (0, u "listCopy"), (0, u "(Ljava/util/Collection;)Ljava/util/List;"), (3, u "()Ljava/util/List;"), (0, .class_ 121), (0, u "java/util/SequencedCollection"), (112, u "copyOf")] 16

def k11c0 : Code := { maxStack := 1, maxLocals := 0, code := jdk_40_method_36_code, exceptionTable := #[], attributes := #[] }
def k11m0 : Method := { name := "of", desc := "()Ljava/util/List;", sig := { parameters := [], returnType := some (.object "java/util/List") }, accessFlags := 9, code := some k11c0 }
def k11c1 : Code := { maxStack := 1, maxLocals := 1, code := jdk_40_method_48_code, exceptionTable := #[], attributes := #[] }
def k11m1 : Method := { name := "copyOf", desc := "(Ljava/util/Collection;)Ljava/util/List;", sig := { parameters := [(.object "java/util/Collection")], returnType := some (.object "java/util/List") }, accessFlags := 9, code := some k11c1 }
/-- java/util/List -/
def k11 : Class := { plain "java/util/List" (some 0) with
  accessFlags := 1537
  interfaces := #[10]
  cf := some (fileOf pool11 8 #[] #[{ accessFlags := 9, nameIndex := 88, descriptorIndex := 119, attributes := #[] }, { accessFlags := 9, nameIndex := 234, descriptorIndex := 115, attributes := #[] }] 1537 103 #[120] #[])
  fields := #[]
  methods := #[k11m0, k11m1]
  instanceTypes := #[]
  staticTypes := #[]
  resolved := Array.replicate 251 none
  statics := none }

def pool12 : Array CpInfo := pool [(2, .class_ 4), (1, u "java/lang/Object"), (0, u "<init>"), (0, u "()V"), (3, .class_ 11), (0, u "java/util/ImmutableCollections$List12"), (0, .class_ 13), (0, u "java/util/ImmutableCollections$ListN"), (0, .fieldref 12 15), (0, .nameAndType 16 17), (0, u "allowNulls"), (0, u "Z"), (0, .class_ 19), (0, u "java/util/List"), (27, .class_ 49), (1, u "java/util/ImmutableCollections"), (0, u "$assertionsDisabled"), (5, u "[Ljava/lang/Object;"), (5, u "EMPTY_LIST"), (0, u "Ljava/util/ImmutableCollections$ListN;"), (8, u "EMPTY_LIST_NULLS"), (22, u "SALT32L"), (0, u "J"), (2, u "REVERSE"), (6, u "archivedObjects"), (2, u "EMPTY"), (0, u "Ljava/lang/Object;"), (0, .class_ 112), (0, u "java/util/ImmutableCollections$SetN"), (5, u "EMPTY_SET"), (0, u "Ljava/util/ImmutableCollections$SetN;"), (0, .class_ 121), (0, u "java/util/ImmutableCollections$MapN"), (3, u "EMPTY_MAP"), (0, u "Ljava/util/ImmutableCollections$MapN;"), (4, u "EXPAND_FACTOR"), (0, u "I"), (9, u "listCopy"), (0, u "(Ljava/util/Collection;)Ljava/util/List;"), (25, .class_ 170), (0, u "java/util/ImmutableCollections$MapN$MapNIterator"), (0, .class_ 172), (0, u "java/util/ImmutableCollections$MapN$1"), (0, .class_ 174), (0, u "java/util/ImmutableCollections$Map1"), (0, .class_ 176), (0, u "java/util/ImmutableCollections$AbstractImmutableMap"), (0, .class_ 178), (0, u "java/util/ImmutableCollections$SetN$SetNIterator"), (0, .class_ 180), (0, u "java/util/ImmutableCollections$Set12"), (0, .class_ 182), (0, u "java/util/ImmutableCollections$Set12$1"), (0, .class_ 184), (0, u "java/util/ImmutableCollections$AbstractImmutableSet"), (0, .class_ 186), (0, u "java/util/ImmutableCollections$SubList"), (0, .class_ 188), (0, u "java/util/ImmutableCollections$ListItr"), (0, .class_ 190), (0, u "java/util/ImmutableCollections$AbstractImmutableList"), (0, .class_ 192), (0, u "java/util/ImmutableCollections$AbstractImmutableCollection"), (0, .class_ 194), (0, u "java/util/ImmutableCollections$Access"), (0, .class_ 196), (0, u "java/util/ImmutableCollections$Access$1")] 16

def k12m0 : Method := { name := "<init>", desc := "()V", sig := { parameters := [], returnType := none }, accessFlags := 2, code := none }
def k12c1 : Code := { maxStack := 1, maxLocals := 2, code := jdk_56_method_3_code, exceptionTable := #[], attributes := #[] }
def k12m1 : Method := { name := "listCopy", desc := "(Ljava/util/Collection;)Ljava/util/List;", sig := { parameters := [(.object "java/util/Collection")], returnType := some (.object "java/util/List") }, accessFlags := 8, code := some k12c1 }
/-- java/util/ImmutableCollections -/
def k12 : Class := { plain "java/util/ImmutableCollections" (some 0) with
  accessFlags := 32
  interfaces := #[]
  cf := some (fileOf pool12 47 #[.nestMembers #[120, 169, 171, 173, 175, 111, 177, 179, 181, 183, 12, 10, 185, 187, 189, 191, 193, 195]] #[{ accessFlags := 2, nameIndex := 5, descriptorIndex := 6, attributes := #[] }, { accessFlags := 8, nameIndex := 142, descriptorIndex := 143, attributes := #[] }] 32 2 #[] #[{ accessFlags := 26, nameIndex := 95, descriptorIndex := 96, attributes := #[] }, { accessFlags := 26, nameIndex := 99, descriptorIndex := 17, attributes := #[] }, { accessFlags := 10, nameIndex := 106, descriptorIndex := 56, attributes := #[] }, { accessFlags := 26, nameIndex := 109, descriptorIndex := 110, attributes := #[] }, { accessFlags := 24, nameIndex := 62, descriptorIndex := 63, attributes := #[] }, { accessFlags := 24, nameIndex := 72, descriptorIndex := 63, attributes := #[] }, { accessFlags := 24, nameIndex := 118, descriptorIndex := 119, attributes := #[] }, { accessFlags := 24, nameIndex := 125, descriptorIndex := 126, attributes := #[] }, { accessFlags := 24, nameIndex := 131, descriptorIndex := 132, attributes := #[] }, { accessFlags := 4120, nameIndex := 50, descriptorIndex := 17, attributes := #[] }])
  fields := #[{ name := "SALT32L", type := .long, accessFlags := 26, slot := 0, constantValue := 0 }, { name := "REVERSE", type := .boolean, accessFlags := 26, slot := 1, constantValue := 0 }, { name := "archivedObjects", type := (.array (.object "java/lang/Object")), accessFlags := 10, slot := 2, constantValue := 0 }, { name := "EMPTY", type := (.object "java/lang/Object"), accessFlags := 26, slot := 3, constantValue := 0 }, { name := "EMPTY_LIST", type := (.object "java/util/ImmutableCollections$ListN"), accessFlags := 24, slot := 4, constantValue := 0 }, { name := "EMPTY_LIST_NULLS", type := (.object "java/util/ImmutableCollections$ListN"), accessFlags := 24, slot := 5, constantValue := 0 }, { name := "EMPTY_SET", type := (.object "java/util/ImmutableCollections$SetN"), accessFlags := 24, slot := 6, constantValue := 0 }, { name := "EMPTY_MAP", type := (.object "java/util/ImmutableCollections$MapN"), accessFlags := 24, slot := 7, constantValue := 0 }, { name := "EXPAND_FACTOR", type := .int, accessFlags := 24, slot := 8, constantValue := 0 }, { name := "$assertionsDisabled", type := .boolean, accessFlags := 4120, slot := 9, constantValue := 0 }]
  methods := #[k12m0, k12m1]
  instanceTypes := #[]
  staticTypes := #[.long, .boolean, (.array (.object "java/lang/Object")), (.object "java/lang/Object"), (.object "java/util/ImmutableCollections$ListN"), (.object "java/util/ImmutableCollections$ListN"), (.object "java/util/ImmutableCollections$SetN"), (.object "java/util/ImmutableCollections$MapN"), .int, .boolean]
  resolved := Array.replicate 213 none
  statics := some 1 }

def pool13 : Array CpInfo := pool [(2, .class_ 4), (1, u "java/lang/Object"), (0, u "<init>"), (0, u "()V"), (1, .class_ 10), (1, u "java/util/AbstractCollection"), (66, .class_ 78), (0, u "java/util/Collection")] 81

def k13m0 : Method := { name := "<init>", desc := "()V", sig := { parameters := [], returnType := none }, accessFlags := 4, code := none }
/-- java/util/AbstractCollection -/
def k13 : Class := { plain "java/util/AbstractCollection" (some 0) with
  accessFlags := 1057
  interfaces := #[9]
  cf := some (fileOf pool13 8 #[] #[{ accessFlags := 4, nameIndex := 5, descriptorIndex := 6, attributes := #[] }] 1057 2 #[77] #[])
  fields := #[]
  methods := #[k13m0]
  instanceTypes := #[]
  staticTypes := #[]
  resolved := Array.replicate 160 none
  statics := none }

def pool14 : Array CpInfo := pool [(2, .class_ 4), (1, u "java/util/AbstractCollection"), (0, u "<init>"), (0, u "()V"), (1, .class_ 10), (1, u "java/util/ImmutableCollections"), (2, .class_ 14), (0, u "java/util/ImmutableCollections$AbstractImmutableCollection")] 41

def k14m0 : Method := { name := "<init>", desc := "()V", sig := { parameters := [], returnType := none }, accessFlags := 0, code := none }
/-- java/util/ImmutableCollections$AbstractImmutableCollection -/
def k14 : Class := { plain "java/util/ImmutableCollections$AbstractImmutableCollection" (some 13) with
  accessFlags := 1056
  interfaces := #[]
  cf := some (fileOf pool14 13 #[.nestHost 8] #[{ accessFlags := 0, nameIndex := 5, descriptorIndex := 6, attributes := #[] }] 1056 2 #[] #[])
  fields := #[]
  methods := #[k14m0]
  instanceTypes := #[]
  staticTypes := #[]
  resolved := Array.replicate 56 none
  statics := none }

def pool15 : Array CpInfo := pool [(1, .class_ 2), (0, u "java/util/RandomAccess"), (0, .class_ 4), (0, u "java/lang/Object")] 2

/-- java/util/RandomAccess -/
def k15 : Class := { plain "java/util/RandomAccess" (some 0) with
  accessFlags := 1537
  interfaces := #[]
  cf := some (fileOf pool15 1 #[] #[] 1537 3 #[] #[])
  fields := #[]
  methods := #[]
  instanceTypes := #[]
  staticTypes := #[]
  resolved := Array.replicate 7 none
  statics := none }

def pool16 : Array CpInfo := pool [(2, .class_ 4), (1, u "java/util/ImmutableCollections$AbstractImmutableCollection"), (0, u "<init>"), (0, u "()V"), (1, .class_ 10), (1, u "java/util/ImmutableCollections"), (3, .class_ 16), (1, u "java/util/ImmutableCollections$AbstractImmutableList"), (60, .class_ 78), (0, u "java/util/List"), (45, .class_ 125), (0, u "java/util/RandomAccess")] 70

def k16m0 : Method := { name := "<init>", desc := "()V", sig := { parameters := [], returnType := none }, accessFlags := 0, code := none }
/-- java/util/ImmutableCollections$AbstractImmutableList -/
def k16 : Class := { plain "java/util/ImmutableCollections$AbstractImmutableList" (some 14) with
  accessFlags := 1056
  interfaces := #[11, 15]
  cf := some (fileOf pool16 14 #[.nestHost 8] #[{ accessFlags := 0, nameIndex := 5, descriptorIndex := 6, attributes := #[] }] 1056 2 #[77, 124] #[])
  fields := #[]
  methods := #[k16m0]
  instanceTypes := #[]
  staticTypes := #[]
  resolved := Array.replicate 196 none
  statics := none }

def pool17 : Array CpInfo := pool [(2, .class_ 4), (1, u "java/util/ImmutableCollections$AbstractImmutableList"), (9, .class_ 16), (1, u "java/util/ImmutableCollections$List12"), (0, u "e0"), (0, u "Ljava/lang/Object;"), (1, .class_ 22), (1, u "java/util/ImmutableCollections"), (3, u "e1"), (43, .class_ 71), (0, u "java/io/Serializable")] 53

/-- java/util/ImmutableCollections$List12 -/
def k17 : Class := { plain "java/util/ImmutableCollections$List12" (some 16) with
  accessFlags := 48
  interfaces := #[4]
  cf := some (fileOf pool17 14 #[.nestHost 20] #[] 48 2 #[70] #[{ accessFlags := 18, nameIndex := 17, descriptorIndex := 18, attributes := #[] }, { accessFlags := 18, nameIndex := 26, descriptorIndex := 18, attributes := #[] }])
  fields := #[{ name := "e0", type := (.object "java/lang/Object"), accessFlags := 18, slot := 0, constantValue := 0 }, { name := "e1", type := (.object "java/lang/Object"), accessFlags := 18, slot := 1, constantValue := 0 }]
  methods := #[]
  instanceTypes := #[(.object "java/lang/Object"), (.object "java/lang/Object")]
  staticTypes := #[]
  resolved := Array.replicate 125 none
  statics := none }

def pool18 : Array CpInfo := pool [(2, .class_ 4), (1, u "java/util/ImmutableCollections$AbstractImmutableList"), (3, .class_ 10), (1, u "java/util/ImmutableCollections$ListN"), (0, u "elements"), (0, u "[Ljava/lang/Object;"), (2, u "allowNulls"), (0, u "Z"), (42, .class_ 60), (0, u "java/io/Serializable"), (53, .class_ 115), (0, u "java/util/ImmutableCollections")] 3

/-- java/util/ImmutableCollections$ListN -/
def k18 : Class := { plain "java/util/ImmutableCollections$ListN" (some 16) with
  accessFlags := 48
  interfaces := #[4]
  cf := some (fileOf pool18 8 #[.nestHost 114] #[] 48 2 #[59] #[{ accessFlags := 18, nameIndex := 11, descriptorIndex := 12, attributes := #[] }, { accessFlags := 18, nameIndex := 15, descriptorIndex := 16, attributes := #[] }])
  fields := #[{ name := "elements", type := (.array (.object "java/lang/Object")), accessFlags := 18, slot := 0, constantValue := 0 }, { name := "allowNulls", type := .boolean, accessFlags := 18, slot := 1, constantValue := 0 }]
  methods := #[]
  instanceTypes := #[(.array (.object "java/lang/Object")), .boolean]
  staticTypes := #[]
  resolved := Array.replicate 119 none
  statics := none }

def pool19 : Array CpInfo := pool [(1, u "java/lang/Cloneable"), (0, .class_ 1), (0, u "java/lang/Object"), (0, .class_ 3)] 3

/-- java/lang/Cloneable -/
def k19 : Class := { plain "java/lang/Cloneable" (some 0) with
  accessFlags := 1537
  interfaces := #[]
  cf := some (fileOf pool19 2 #[] #[] 1537 4 #[] #[])
  fields := #[]
  methods := #[]
  instanceTypes := #[]
  staticTypes := #[]
  resolved := Array.replicate 8 none
  statics := none }

/-- the primitive byte -/
def k20 : Class := { plain "byte" none with kind := .primitive 'B', accessFlags := 0x411 }
/-- [B -/
def k21 : Class := { plain "[B" (some 0) with kind := .array 20 .byte, interfaces := #[19, 4], accessFlags := 1041 }

/-- the primitive int -/
def k22 : Class := { plain "int" none with kind := .primitive 'I', accessFlags := 0x411 }
/-- [I -/
def k23 : Class := { plain "[I" (some 0) with kind := .array 22 .int, interfaces := #[19, 4], accessFlags := 1041 }

/-- [Lcom/example/blindern/blindern/mapping/ColumnType$Kind; -/
def k24 : Class := { plain "[Lcom/example/blindern/blindern/mapping/ColumnType$Kind;" (some 0) with kind := .array 6 (.object "com/example/blindern/blindern/mapping/ColumnType$Kind"), interfaces := #[19, 4], accessFlags := 1041 }

/-- [Ljava/lang/Object; -/
def k25 : Class := { plain "[Ljava/lang/Object;" (some 0) with kind := .array 0 (.object "java/lang/Object"), interfaces := #[19, 4], accessFlags := 1041 }

def heap : Heap := #[{ cls := 6, slots := #[.ref 3, .ref 4, .ref 5, .ref 6, .ref 7, .ref 8, .ref 9, .ref 10, .ref 11, .ref 12, .ref 13, .ref 14, .ref 15, .ref 16, .ref 17, .ref 18, .null], vm := .statics 6 },
  { cls := 12, slots := #[.long 0, .int 0, .null, .null, .ref 19, .null, .null, .null, .int 0, .int 0], vm := .statics 12 },
  { cls := 25, slots := #[], vm := .none },
  { cls := 6, slots := #[.null, .int 0, .int 0], vm := .none },
  { cls := 6, slots := #[.null, .int 1, .int 0], vm := .none },
  { cls := 6, slots := #[.null, .int 2, .int 0], vm := .none },
  { cls := 6, slots := #[.null, .int 3, .int 0], vm := .none },
  { cls := 6, slots := #[.null, .int 4, .int 0], vm := .none },
  { cls := 6, slots := #[.null, .int 5, .int 0], vm := .none },
  { cls := 6, slots := #[.null, .int 6, .int 0], vm := .none },
  { cls := 6, slots := #[.null, .int 7, .int 0], vm := .none },
  { cls := 6, slots := #[.null, .int 8, .int 0], vm := .none },
  { cls := 6, slots := #[.null, .int 9, .int 0], vm := .none },
  { cls := 6, slots := #[.null, .int 10, .int 0], vm := .none },
  { cls := 6, slots := #[.null, .int 11, .int 0], vm := .none },
  { cls := 6, slots := #[.null, .int 12, .int 0], vm := .none },
  { cls := 6, slots := #[.null, .int 13, .int 0], vm := .none },
  { cls := 6, slots := #[.null, .int 14, .int 0], vm := .none },
  { cls := 6, slots := #[.null, .int 15, .int 0], vm := .none },
  { cls := 18, slots := #[.ref 2, .int 0], vm := .none }]
def classes : Array Class := #[k0, k1, k2, k3, k4, k5, k6, k7, k8, k9, k10, k11, k12, k13, k14, k15, k16, k17, k18, k19, k20, k21, k22, k23, k24, k25]
def interned : List (Array UInt16 × Addr) := []
def slotsUsed : Nat := 77
def theMethod : MethodId := ⟨1, 1⟩
def args0 : Array Value := #[.int 5, .int 6]
def aboutOver (below : List Frame) : State where
  vm := { classes := classes, interned := interned.toArray }
  heap := heap
  slotsUsed := slotsUsed
  threads := #[{ frames := .invoking theMethod args0 :: below }]
def below0 : List Frame := [.native { method := ⟨0, 0⟩, args := #[] }]
def about1 : State := aboutOver below0
def p0 : Program := .bare "" "" ""
def e0 : Env := launch0.env 0 0 0
theorem w_frames : about1.frames = Frame.invoking theMethod args0 :: below0 := rfl
set_option maxRecDepth 65536 in
theorem w_args : argsFit about1.vm theMethod args0 = true := by decide +kernel
set_option maxRecDepth 65536 in
theorem w_heap : heapFits about1 = true := by decide +kernel
set_option maxRecDepth 65536 in
theorem w_runnable : about1.curStatus? = some .runnable := by decide +kernel
set_option maxRecDepth 65536 in
theorem w_alone : about1.alone = true := by decide +kernel
set_option maxRecDepth 65536 in
theorem w_named : about1.methodNamed? x = some theMethod := by decide +kernel
set_option maxRecDepth 65536 in
theorem w_hears : about1.hears theMethod below0 = true := by decide +kernel
set_option maxRecDepth 65536 in
theorem w_ripe : about1.ripe theMethod args0 below0 = true := by decide +kernel
theorem w_running : about1.status = .running := rfl
set_option maxRecDepth 65536 in
theorem w_room : about1.hasRoom e0.platform room_1 = true :=
  launch0.hasRoom_least _ room_1 (by decide +kernel) (by decide +kernel) (by decide +kernel) (by decide +kernel) (by decide +kernel) (by decide +kernel)
theorem allAtoms_all (ts : List Jvm.Cond) (a : Array Jvm.Value) (st : Jvm.State) : (allAtoms ts).before a st = ts.all (fun c => c.before a st) := by
  induction ts with
  | nil => rfl
  | cons c t ih =>
    show (Jvm.Cond.and c (allAtoms t)).before a st = _
    rw [Jvm.Cond.before_and, ih, List.all_cons]
def words1 : List Jvm.Cond := Jvm.Cond.code x code maxLocals ret :: tables_1
/-- a 'code' word, met by the world's own term for the bytes: nothing is compared byte by byte -/
theorem code_word {y : MethodName} {bytes : ByteArray} {mx : Nat} {rt : Option FieldType} {a : Array Value} {s : State} {m : MethodId} {meth : Method} {c : Code} (h1 : s.methodNamed? y = some m) (h2 : s.vm.method? m = some meth) (h3 : meth.code = some c) (h4 : c.code = bytes)
    (h5 : (c.maxLocals == mx && c.exceptionTable.isEmpty && decide (c.maxStack ≤ mostOperands) && decide (meth.sig.returnType = rt) && !meth.locks && decide (parseMethodDescriptor y.desc = some meth.sig)) = true) : (Jvm.Cond.code y bytes mx rt).before a s = true := by
  simp only [Bool.and_eq_true, beq_iff_eq, Bool.not_eq_true', decide_eq_true_eq] at h5
  obtain ⟨⟨⟨⟨⟨g1, g2⟩, g3⟩, g4⟩, g5⟩, g6⟩ := h5
  simp [Cond.before, Cond.holds, Cond.value, h1, h2, h3, h4, g1, g2, g3, g4, g5, g6]
def isCode : Jvm.Cond → Bool
  | .code _ _ _ _ => true
  | _ => false
theorem all_split {L : List Jvm.Cond} {P : Jvm.Cond → Bool} (h1 : L.all (fun c => isCode c || P c) = true) (h2 : ∀ c ∈ L.filter isCode, P c = true) : L.all P = true := by
  refine List.all_eq_true.mpr fun c hc => ?_
  have h := List.all_eq_true.mp h1 c hc
  rcases Bool.eq_false_or_eq_true (isCode c) with hi | hi
  · exact h2 c (List.mem_filter.mpr ⟨hc, hi⟩)
  · simpa [hi] using h
set_option maxRecDepth 65536 in
theorem w_c0 : (Jvm.Cond.code x code maxLocals ret).before args0 about1 = true := code_word (m := ⟨1, 1⟩) (meth := k1m1) (c := k1c1) (by decide +kernel) rfl rfl rfl (by decide +kernel)
set_option maxRecDepth 65536 in
theorem w_c1 : (Jvm.Cond.code ({ cls := "com/example/blindern/blindern/mapping/ColumnType$Kind", name := "takesSecondPrecision", desc := "()Z" } : Jvm.MethodName) prog_22_method_4_code (1 : Nat) (Option.some Jvm.ClassFile.FieldType.boolean)).before args0 about1 = true := code_word (m := ⟨6, 0⟩) (meth := k6m0) (c := k6c0) (by decide +kernel) rfl rfl rfl (by decide +kernel)
set_option maxRecDepth 65536 in
theorem w_c2 : (Jvm.Cond.code ({ cls := "com/example/blindern/blindern/mapping/ColumnType", name := "temporal", desc := "(Lcom/example/blindern/blindern/mapping/ColumnType$Kind;I)Lcom/example/blindern/blindern/mapping/ColumnType;" } : Jvm.MethodName) prog_21_method_4_code (2 : Nat) (Option.some (Jvm.ClassFile.FieldType.object "com/example/blindern/blindern/mapping/ColumnType"))).before args0 about1 = true := code_word (m := ⟨7, 2⟩) (meth := k7m2) (c := k7c2) (by decide +kernel) rfl rfl rfl (by decide +kernel)
set_option maxRecDepth 65536 in
theorem w_c3 : (Jvm.Cond.code ({ cls := "java/util/List", name := "of", desc := "()Ljava/util/List;" } : Jvm.MethodName) jdk_40_method_36_code (0 : Nat) (Option.some (Jvm.ClassFile.FieldType.object "java/util/List"))).before args0 about1 = true := code_word (m := ⟨11, 0⟩) (meth := k11m0) (c := k11c0) (by decide +kernel) rfl rfl rfl (by decide +kernel)
set_option maxRecDepth 65536 in
theorem w_c4 : (Jvm.Cond.code ({ cls := "com/example/blindern/blindern/mapping/ColumnType", name := "<init>", desc := "(Lcom/example/blindern/blindern/mapping/ColumnType$Kind;IIILjava/lang/String;Ljava/util/List;)V" } : Jvm.MethodName) prog_21_method_1_code (7 : Nat) (Option.none : Option Jvm.ClassFile.FieldType)).before args0 about1 = true := code_word (m := ⟨7, 0⟩) (meth := k7m0) (c := k7c0) (by decide +kernel) rfl rfl rfl (by decide +kernel)
set_option maxRecDepth 65536 in
theorem w_c5 : (Jvm.Cond.code ({ cls := "com/example/blindern/blindern/mapping/ColumnType", name := "<init>", desc := "(Lcom/example/blindern/blindern/mapping/ColumnType$Kind;IIILjava/lang/String;Ljava/util/List;Ljava/util/List;Lcom/example/blindern/blindern/mapping/ColumnType;Ljava/lang/String;Ljava/lang/String;)V" } : Jvm.MethodName) prog_21_method_2_code (11 : Nat) (Option.none : Option Jvm.ClassFile.FieldType)).before args0 about1 = true := code_word (m := ⟨7, 1⟩) (meth := k7m1) (c := k7c1) (by decide +kernel) rfl rfl rfl (by decide +kernel)
set_option maxRecDepth 65536 in
theorem w_c6 : (Jvm.Cond.code ({ cls := "java/lang/Object", name := "<init>", desc := "()V" } : Jvm.MethodName) object_method_1_code (1 : Nat) (Option.none : Option Jvm.ClassFile.FieldType)).before args0 about1 = true := code_word (m := ⟨0, 0⟩) (meth := k0m0) (c := k0c0) (by decide +kernel) rfl rfl rfl (by decide +kernel)
set_option maxRecDepth 65536 in
theorem w_c7 : (Jvm.Cond.code ({ cls := "java/util/List", name := "copyOf", desc := "(Ljava/util/Collection;)Ljava/util/List;" } : Jvm.MethodName) jdk_40_method_48_code (1 : Nat) (Option.some (Jvm.ClassFile.FieldType.object "java/util/List"))).before args0 about1 = true := code_word (m := ⟨11, 1⟩) (meth := k11m1) (c := k11c1) (by decide +kernel) rfl rfl rfl (by decide +kernel)
set_option maxRecDepth 65536 in
theorem w_c8 : (Jvm.Cond.code ({ cls := "java/util/ImmutableCollections", name := "listCopy", desc := "(Ljava/util/Collection;)Ljava/util/List;" } : Jvm.MethodName) jdk_56_method_3_code (2 : Nat) (Option.some (Jvm.ClassFile.FieldType.object "java/util/List"))).before args0 about1 = true := code_word (m := ⟨12, 1⟩) (meth := k12m1) (c := k12c1) (by decide +kernel) rfl rfl rfl (by decide +kernel)
set_option maxRecDepth 65536 in
theorem w_c9 : (Jvm.Cond.code ({ cls := "com/example/blindern/blindern/mapping/ColumnType", name := "kind", desc := "()Lcom/example/blindern/blindern/mapping/ColumnType$Kind;" } : Jvm.MethodName) prog_21_method_11_code (1 : Nat) (Option.some (Jvm.ClassFile.FieldType.object "com/example/blindern/blindern/mapping/ColumnType$Kind"))).before args0 about1 = true := code_word (m := ⟨7, 3⟩) (meth := k7m3) (c := k7c3) (by decide +kernel) rfl rfl rfl (by decide +kernel)
set_option maxRecDepth 65536 in
theorem w_c10 : (Jvm.Cond.code ({ cls := "com/example/blindern/blindern/mapping/ColumnType", name := "precision", desc := "()I" } : Jvm.MethodName) prog_21_method_13_code (1 : Nat) (Option.some Jvm.ClassFile.FieldType.int)).before args0 about1 = true := code_word (m := ⟨7, 4⟩) (meth := k7m4) (c := k7c4) (by decide +kernel) rfl rfl rfl (by decide +kernel)
def codes1 : List Jvm.Cond := [Jvm.Cond.code x code maxLocals ret, Jvm.Cond.code ({ cls := "com/example/blindern/blindern/mapping/ColumnType$Kind", name := "takesSecondPrecision", desc := "()Z" } : Jvm.MethodName) prog_22_method_4_code (1 : Nat) (Option.some Jvm.ClassFile.FieldType.boolean), Jvm.Cond.code ({ cls := "com/example/blindern/blindern/mapping/ColumnType", name := "temporal", desc := "(Lcom/example/blindern/blindern/mapping/ColumnType$Kind;I)Lcom/example/blindern/blindern/mapping/ColumnType;" } : Jvm.MethodName) prog_21_method_4_code (2 : Nat) (Option.some (Jvm.ClassFile.FieldType.object "com/example/blindern/blindern/mapping/ColumnType")), Jvm.Cond.code ({ cls := "java/util/List", name := "of", desc := "()Ljava/util/List;" } : Jvm.MethodName) jdk_40_method_36_code (0 : Nat) (Option.some (Jvm.ClassFile.FieldType.object "java/util/List")), Jvm.Cond.code ({ cls := "com/example/blindern/blindern/mapping/ColumnType", name := "<init>", desc := "(Lcom/example/blindern/blindern/mapping/ColumnType$Kind;IIILjava/lang/String;Ljava/util/List;)V" } : Jvm.MethodName) prog_21_method_1_code (7 : Nat) (Option.none : Option Jvm.ClassFile.FieldType), Jvm.Cond.code ({ cls := "com/example/blindern/blindern/mapping/ColumnType", name := "<init>", desc := "(Lcom/example/blindern/blindern/mapping/ColumnType$Kind;IIILjava/lang/String;Ljava/util/List;Ljava/util/List;Lcom/example/blindern/blindern/mapping/ColumnType;Ljava/lang/String;Ljava/lang/String;)V" } : Jvm.MethodName) prog_21_method_2_code (11 : Nat) (Option.none : Option Jvm.ClassFile.FieldType), Jvm.Cond.code ({ cls := "java/lang/Object", name := "<init>", desc := "()V" } : Jvm.MethodName) object_method_1_code (1 : Nat) (Option.none : Option Jvm.ClassFile.FieldType), Jvm.Cond.code ({ cls := "java/util/List", name := "copyOf", desc := "(Ljava/util/Collection;)Ljava/util/List;" } : Jvm.MethodName) jdk_40_method_48_code (1 : Nat) (Option.some (Jvm.ClassFile.FieldType.object "java/util/List")), Jvm.Cond.code ({ cls := "java/util/ImmutableCollections", name := "listCopy", desc := "(Ljava/util/Collection;)Ljava/util/List;" } : Jvm.MethodName) jdk_56_method_3_code (2 : Nat) (Option.some (Jvm.ClassFile.FieldType.object "java/util/List")), Jvm.Cond.code ({ cls := "com/example/blindern/blindern/mapping/ColumnType", name := "kind", desc := "()Lcom/example/blindern/blindern/mapping/ColumnType$Kind;" } : Jvm.MethodName) prog_21_method_11_code (1 : Nat) (Option.some (Jvm.ClassFile.FieldType.object "com/example/blindern/blindern/mapping/ColumnType$Kind")), Jvm.Cond.code ({ cls := "com/example/blindern/blindern/mapping/ColumnType", name := "precision", desc := "()I" } : Jvm.MethodName) prog_21_method_13_code (1 : Nat) (Option.some Jvm.ClassFile.FieldType.int)]
set_option maxRecDepth 65536 in
theorem codes_eq : words1.filter isCode = codes1 := rfl
theorem w_codes : ∀ c ∈ words1.filter isCode, c.before args0 about1 = true := by
  rw [codes_eq]
  intro c hc
  simp only [codes1, List.mem_cons, List.not_mem_nil, or_false] at hc
  rcases hc with rfl | rfl | rfl | rfl | rfl | rfl | rfl | rfl | rfl | rfl | rfl
  · exact w_c0
  · exact w_c1
  · exact w_c2
  · exact w_c3
  · exact w_c4
  · exact w_c5
  · exact w_c6
  · exact w_c7
  · exact w_c8
  · exact w_c9
  · exact w_c10
set_option maxRecDepth 65536 in
theorem w_t1 : (words1.take 24).all (fun c => isCode c || c.before args0 about1) = true := by decide +kernel
set_option maxRecDepth 65536 in
theorem w_t2 : ((words1.drop 24).take 24).all (fun c => isCode c || c.before args0 about1) = true := by decide +kernel
set_option maxRecDepth 65536 in
theorem w_t3 : (((words1.drop 24).drop 24).take 24).all (fun c => isCode c || c.before args0 about1) = true := by decide +kernel
set_option maxRecDepth 65536 in
theorem w_t4 : ((((words1.drop 24).drop 24).drop 24).take 24).all (fun c => isCode c || c.before args0 about1) = true := by decide +kernel
set_option maxRecDepth 65536 in
theorem w_t5 : ((((words1.drop 24).drop 24).drop 24).drop 24).all (fun c => isCode c || c.before args0 about1) = true := by decide +kernel
theorem w_tables : (allAtoms (Jvm.Cond.code x code maxLocals ret :: tables_1)).before args0 about1 = true := by
  rw [allAtoms_all]
  show words1.all (fun c => c.before args0 about1) = true
  refine all_split ?_ w_codes
  rw [← List.take_append_drop 24 words1, List.all_append, w_t1, ← List.take_append_drop 24 (words1.drop 24), List.all_append, w_t2, ← List.take_append_drop 24 ((words1.drop 24).drop 24), List.all_append, w_t3, ← List.take_append_drop 24 (((words1.drop 24).drop 24).drop 24), List.all_append, w_t4, w_t5]
  rfl
set_option maxRecDepth 65536 in
theorem w_rest : rest_1_c.before args0 about1 = true := by decide +kernel
set_option maxRecDepth 65536 in
theorem w_case : (Jvm.Cond.and given_1 narrow_1).before args0 about1 = true := by decide +kernel
theorem w_applies : (headSpec (Jvm.Cond.code x code maxLocals ret :: tables_1) room_1).applies x e0.platform about1 = true :=
  (Spec.applies_iff w_frames).mpr ⟨w_running, w_runnable, w_alone, w_named, w_hears, w_ripe, w_room, w_tables⟩
theorem atStart : AtStart classFile x code maxLocals ret World_1 tables_1 room_1 Calls_1 rest_1 Pre_1 launch0 p0 e0 about1 theMethod args0 below0 :=
  ⟨lists_1, trivial, launch0.admits_env _ _ _, launch0.least_env, fairChoices_fair.cas, fairChoices_fair.clock, w_frames, w_args, w_heap, w_applies, trivial, w_rest, w_case⟩
end start1
theorem witness_1 : WitnessClaimed_1 := ⟨start1.p0, start1.e0, start1.about1, start1.theMethod, start1.args0, start1.below0, start1.atStart⟩
end Jvm.Pilot.@@N@@
