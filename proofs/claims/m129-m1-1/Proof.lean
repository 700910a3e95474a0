import JvmDerived
import JvmDerived.Pilot.@@N@@Statement
import JvmDerived.Pilot.@@N@@Code
set_option linter.unusedVariables false
set_option linter.unusedSimpArgs false
namespace Jvm.Pilot.@@N@@
open Jvm Jvm.ClassFile Sem Op Lib Jvm.Free Jvm.Stand Jvm.LawKit Jvm.RoadKit Bundle Jvm.Pilot.@@N@@.Jvm.D
/-- from the state T with the top frame g the run comes to T' with g' -/
def own_R (p : Program) (e : Env) (below : List Frame) (T : State) (g : JFrame) (T' : State) (g' : JFrame) : Prop := ∀ t, Steps p.tables e below (T'.setTop g') t → Steps p.tables e below (T.setTop g) t
abbrev own_S (p : Program) (e : Env) (below : List Frame) (T : State) (g : JFrame) (t : State) : Prop := Steps p.tables e below (T.setTop g) t
theorem own_R.refl {p : Program} {e : Env} {below : List Frame} {T : State} {g : JFrame} : own_R p e below T g T g := fun _ k => k
theorem own_R.trans {p : Program} {e : Env} {below : List Frame} {T T' T'' : State} {g g' g'' : JFrame} (h : own_R p e below T g T' g') (h' : own_R p e below T' g' T'' g'') : own_R p e below T g T'' g'' := fun t k => h t (h' t k)
theorem own_ne_arv {Z : State} {h : Heap} {a b : Addr} {C : String} {k : Nat} {kk : ClassId} {ty : FieldType} {z : Int32} {vs : List Value} {dv : Value} {a0 : Array Value} (E : Exa Z h a C) (wi : (Jvm.Cond.instantiable C k).before a0 Z = true) (V : Arv Z h b kk ty z vs dv) : a ≠ b := by
  obtain ⟨c, A, -⟩ := V
  exact ne_arr E wi A
theorem own_fe {a b x : Addr} {n : Nat} (h : b = a ∨ n ≤ b) (h1 : x ≠ a) (h2 : x < n) : x ≠ b := fun q => h.elim (fun e => h1 (q.trans e)) (fun e => Nat.not_lt.mpr e (q ▸ h2))
theorem own_feg {a b : Addr} {n k : Nat} (h : b = a ∨ n ≤ b) (h1 : k ≤ a) (h2 : k ≤ n) : k ≤ b := h.elim (fun e => e ▸ h1) (Nat.le_trans h2)
theorem own_g {α : Type} {L : List α} {i : Nat} {d : α} (h : L[i]? = some d) : d ∈ L := List.mem_of_getElem? h
theorem own_few {a b : Addr} {ws : List Addr} {n k : Nat} (h : b = a ∨ n ≤ b) (hm : a ∈ ws) (hk : k ≤ n) : b ∈ ws ∨ k ≤ b := h.elim (fun e => Or.inl (e ▸ hm)) (fun e => Or.inr (Nat.le_trans hk e))
theorem own_lt1 (vs : List Value) (d : Value) : vs.length < (vs ++ List.replicate 1 d).length := by simp
theorem own_app {Z : State} {h : Heap} {b : Addr} {k : ClassId} {ty : FieldType} {z : Int32} {vs : List Value} {v d : Value} (F : Arv Z h b k ty z ((vs ++ List.replicate 1 d).set vs.length v) d) : Arv Z h b k ty z (vs ++ [v]) d := by
  have e : (vs ++ List.replicate 1 d).set vs.length v = vs ++ [v] := by simp
  rw [e] at F
  exact F
theorem own_selp {Z s : State} {a0 args : Array Value} {y : MethodName} {n : Nat} (hZ : Z.Warmed39 s.vm) (wi : (Jvm.Cond.instantiable y.cls n).before a0 Z = true) (wp : (Jvm.Cond.privateMethod y).before a0 Z = true) (wm : (Jvm.Cond.instanceMethod y).before a0 Z = true) (hy : y.cls ≠ "java/lang/invoke/MethodHandle" ∧ y.cls ≠ "java/lang/invoke/VarHandle") : (Jvm.Cond.selects y.cls y y).before args s = true := by
  have wi' : (Jvm.Cond.instantiable y.cls n).before args s = true := mvT hZ wi
  obtain ⟨c, k, h1, h2, -, h4, -⟩ := Cond.instantiable_spec wi'
  have h5 : k.isInterface = false := by
    cases hi : k.isInterface with
    | false => rfl
    | true => simp [hi] at h4
  exact Jvm.Stand.selects_self_of_private h1 h2 h5 (Cond.privateMethod_at (mvP hZ wp (args := #[]))) (mvT hZ wm) hy
theorem own_old_size {Z : State} {n0 : Nat} {h : Heap} (O : Old Z n0 h) : n0 ≤ h.size := O.1 ▸ O.2.1

theorem own_eq_fld {s : State} {args : Array Value} {t : Jvm.Term} {a : Addr} {C n d : String} {k : Int32} (ev : t.eval args s none [] s = some (.ref a)) (h : (Jvm.Cond.eq (Jvm.Term.field t C n d) (Jvm.Term.int k)).value args s none s [] = some true) : Fld s s.heap a C n d (.int k) := by
  apply Fld.start
  have q := fld_at (C := C) (n := n) (dd := d) ev
  rw [← q]
  cases hv : (Jvm.Term.field t C n d).eval args s none [] s with
  | none => simp [Cond.value, hv] at h
  | some v => cases v <;> simp_all [Cond.value, Term.eval]

theorem own_eq_val {s : State} {args : Array Value} {t u : Jvm.Term} {y : Addr} (ev : u.eval args s none [] s = some (.ref y)) (h : (Jvm.Cond.eq t u).value args s none s [] = some true) : t.eval args s none [] s = some (.ref y) := by
  cases hv : t.eval args s none [] s with
  | none => simp [Cond.value, hv] at h
  | some v => cases v <;> simp_all [Cond.value]
theorem own_eq_ref {s : State} {args : Array Value} {t u : Jvm.Term} {a y : Addr} {C n d : String} (ev : t.eval args s none [] s = some (.ref a)) (eu : u.eval args s none [] s = some (.ref y)) (h : (Jvm.Cond.eq (Jvm.Term.field t C n d) u).value args s none s [] = some true) : Fld s s.heap a C n d (.ref y) := by
  apply Fld.start
  rw [← fld_at (C := C) (n := n) (dd := d) ev]
  exact own_eq_val eu h
theorem own_eq_null {s : State} {args : Array Value} {t : Jvm.Term} {a : Addr} {C n d : String} (ev : t.eval args s none [] s = some (.ref a)) (h : (Jvm.Cond.eq (Jvm.Term.field t C n d) Jvm.Term.null).value args s none s [] = some true) : Fld s s.heap a C n d .null := by
  apply Fld.start
  rw [← fld_at (C := C) (n := n) (dd := d) ev]
  exact null_v h
theorem own_len {s : State} {args : Array Value} {t : Jvm.Term} {a : Addr} {cl : Cell} {ty : FieldType} {n : Int32} (ev : t.eval args s none [] s = some (.ref a)) (A : Arr s s.heap a cl ty) (h : (Jvm.Cond.eq (Jvm.Term.length t) (Jvm.Term.int n)).value args s none s [] = some true) : cl.slots.size < 2 ^ 31 ∧ cl.slots.size.toInt32 = n := by
  have ha : s.arrayAt? a = some cl := A.fin (Vm.Alike.refl _)
  by_cases hl : cl.slots.size < 2 ^ 31
  · have e := len_f (args := args) (first := s) (o := none) (idx := []) ev ha hl
    refine ⟨hl, ?_⟩
    simp only [Cond.value, e, Term.int_eval] at h
    simpa using h
  · exfalso
    have e : (Jvm.Term.length t).eval args s none [] s = none := by simp [Term.eval, ev, ha]; omega
    simp only [Cond.value, e] at h
    cases h
theorem own_elem {s : State} {args : Array Value} {t u : Jvm.Term} {a y : Addr} {cl : Cell} {ty : FieldType} {j : Int32} (ev : t.eval args s none [] s = some (.ref a)) (eu : u.eval args s none [] s = some (.ref y)) (A : Arr s s.heap a cl ty) (hj : ¬ j < 0) (h : (Jvm.Cond.eq (Jvm.Term.elem t (Jvm.Term.int j)) u).value args s none s [] = some true) : cl.slots[j.toNatClampNeg]? = some (.ref y) := by
  have ha : s.arrayAt? a = some cl := A.fin (Vm.Alike.refl _)
  have e := elem_f (args := args) (first := s) (o := none) (idx := []) (a := Jvm.Term.int j) ev rfl ha hj
  rw [← e]
  exact own_eq_val eu h

theorem own_split {k p : Int32} (h : k = (p &&& (2147483647 : Int32)) % (7 : Int32)) : k = (0 : Int32) ∨ k = (1 : Int32) ∨ k = (2 : Int32) ∨ k = (3 : Int32) ∨ k = (4 : Int32) ∨ k = (5 : Int32) ∨ k = (6 : Int32) := by
  have h1 := (c_and p (2147483647 : Int32) (by decide)).1
  have h2 := (c_iremV (p &&& (2147483647 : Int32)) (7 : Int32)).1 h1 (by decide)
  rw [← h] at h2
  have h3 : (7 : Int32).toInt = 7 := by decide
  have h4 : k.toInt = 0 ∨ k.toInt = 1 ∨ k.toInt = 2 ∨ k.toInt = 3 ∨ k.toInt = 4 ∨ k.toInt = 5 ∨ k.toInt = 6 := by omega
  rcases h4 with q | q | q | q | q | q | q
  · have e : k = (0 : Int32) := Int32.toInt_inj.mp (by rw [q]; decide)
    exact Or.inl e
  · have e : k = (1 : Int32) := Int32.toInt_inj.mp (by rw [q]; decide)
    exact Or.inr (Or.inl e)
  · have e : k = (2 : Int32) := Int32.toInt_inj.mp (by rw [q]; decide)
    exact Or.inr (Or.inr (Or.inl e))
  · have e : k = (3 : Int32) := Int32.toInt_inj.mp (by rw [q]; decide)
    exact Or.inr (Or.inr (Or.inr (Or.inl e)))
  · have e : k = (4 : Int32) := Int32.toInt_inj.mp (by rw [q]; decide)
    exact Or.inr (Or.inr (Or.inr (Or.inr (Or.inl e))))
  · have e : k = (5 : Int32) := Int32.toInt_inj.mp (by rw [q]; decide)
    exact Or.inr (Or.inr (Or.inr (Or.inr (Or.inr (Or.inl e)))))
  · have e : k = (6 : Int32) := Int32.toInt_inj.mp (by rw [q]; decide)
    exact Or.inr (Or.inr (Or.inr (Or.inr (Or.inr (Or.inr (e))))))

theorem d2_0 : decode prog_11_method_1_code 0 = .ok (.getstatic 52, 3) := by decide +kernel
theorem d2_3 : decode prog_11_method_1_code 3 = .ok (.invokevirtual 56, 3) := by decide +kernel
theorem d2_6 : decode prog_11_method_1_code 6 = .ok (.checkcast 57, 3) := by decide +kernel
theorem d2_9 : decode prog_11_method_1_code 9 = .ok (.areturn, 1) := by decide +kernel
theorem pn_JavaType : plainName "com/example/tenon/tenon/generator/JavaType" = true := by first | (simp [plainName, overriddenIn]; done) | decide +kernel
theorem ef_values (m : MethodId)  : entryFrame m #[] 0 = mkF m 0 #[] [] := by first | (simp [entryFrame, mkF, argsToLocals, Value.category]; done) | rfl
def Q_values (Z : State) (vv : Addr) (kk : ClassId) (vs : List Value) (h0 : Heap) (n0 : Nat) (v : Option Value) (h : Heap) (L : List Loc) : Prop := ∃ (b : Addr), v = some (.ref b) ∧ Fr n0 L ∧ Keep h0 h [] ∧ (h0.size ≤ b) ∧ (Exa Z h b "[Lcom/example/tenon/tenon/generator/JavaType;") ∧ (Arv Z h b kk (.object "com/example/tenon/tenon/generator/JavaType") (16 : Int32) vs .null)
set_option maxRecDepth 65536 in
set_option maxHeartbeats 40000000 in
theorem rm_values (l : Launch) (Z : State) (a0 : Array Value) (hw : ∀ d ∈ tables_1, d.before a0 Z = true) (ws : List Jvm.Cond) (vv : Addr) (kk : ClassId) (vs : List Value) (h0 : Heap) (n0 : Nat) (O0 : Old Z n0 h0) (S_JavaType__VALUES : Sta Z Z.heap "com/example/tenon/tenon/generator/JavaType" "$VALUES" "[Lcom/example/tenon/tenon/generator/JavaType;" (.ref vv)) (OE_vv : Exa Z Z.heap vv "[Lcom/example/tenon/tenon/generator/JavaType;") (OV_vv : Arv Z Z.heap vv kk (.object "com/example/tenon/tenon/generator/JavaType") (16 : Int32) vs .null) :
    MetFree l (⟨"com/example/tenon/tenon/generator/JavaType", "values", "()[Lcom/example/tenon/tenon/generator/JavaType;"⟩ : MethodName) (head1 (Jvm.Cond.code (⟨"com/example/tenon/tenon/generator/JavaType", "values", "()[Lcom/example/tenon/tenon/generator/JavaType;"⟩ : MethodName) prog_11_method_1_code 0 (some (.array (.object "com/example/tenon/tenon/generator/JavaType"))) :: ws) ({ frames := 1, cells := 1, slots := 16, locals := 14 } : Room)) (fun aa_ U => aa_ = #[] ∧ Z.Warmed39 U.vm ∧ U.heap = h0) (fun _ _ _ _ _ => True) (fun _ U o U' => ∃ v L, o = .returned v ∧ Q_values Z vv kk vs h0 n0 v U'.heap L ∧ FrameEnd U o U' L ({ frames := 1, cells := 1, slots := 16, locals := 14 } : Room).cells ({ frames := 1, cells := 1, slots := 16, locals := 14 } : Room).slots) := by
  refine MetFree.of_bodySF (plainFor_of_name pn_JavaType) hisR ?_
  intro p e s m args below meth c s₁ Bd hml0 hP hK
  obtain ⟨rfl, hZ, hh⟩ := hP
  have hx := Bd.exec
  have hby := Bd.bytes
  have hml : c.maxLocals = 0 := hml0
  have hown : s.vm.findClass "com/example/tenon/tenon/generator/JavaType" = some m.cls := findClass_of_methodNamed Bd.named
  have hnm := (name_of_methodNamed Bd.named Bd.method).1
  have X0 : Stand p l e ({ frames := 1, cells := 1, slots := 16, locals := 14 } : Room) s m #[] below meth c s₁ [] 0 0 := Stand.of_body Bd
  have e0 : s₁.heap = h0 := by rw [← hh, Bd.state]; rfl
  have N0 := Fr.nil n0
  have K0 : Keep h0 h0 [] := Keep.refl h0 _
  have pre0 : ∀ t, Steps p.tables e below (s₁.setTop (mkF m 0 #[] [])) t → Steps p.tables e below (s₁.setTop (entryFrame m #[] 0)) t := fun t k => castTop (ef_values m ) k
  have r0 : own_R p e below s₁ (mkF m 0 #[] []) s₁ (mkF m 0 #[] []) := own_R.refl
  obtain ⟨T1, X1, e1, st1⟩ := getS2 X0 hx hZ hown (host := "") (Or.inl (hw _ (own_g (i := 41) rfl))) Via.refl e0 (S_JavaType__VALUES.ext O0.2) (g := (mkF m 0 #[] [])) rfl (hb hby d2_0)
  have r1 : own_R p e below _ _ T1 (mkF m 3 #[] [(.ref vv)]) := r0.trans fun z_ kt => st1 _ kt
  obtain ⟨T2, h2, X2, e2, E2, A2, B2, st2⟩ := cloneH X1 hx hZ hown (hw _ (own_g (i := 43) rfl)) (hw _ (own_g (i := 44) rfl)) (hw _ (own_g (i := 48) rfl)) (hw _ (own_g (i := 46) rfl)) (hw _ (own_g (i := 47) rfl)) (hw _ (own_g (i := 49) rfl)) e1 (Arv.arh (OV_vv.ext O0.2)) (OE_vv.ext O0.2) (g := (mkF m 3 #[] [(.ref vv)])) rfl (by rw [hml]; rfl) rfl (hb hby d2_3) (by decide) (W := 0) (cap := 16) (by show 2 * 0 + _ ≤ _; exact Nat.le_of_eq rfl) (by decide) (by decide) (by decide) (by decide)
  obtain ⟨b2, g2⟩ : ∃ z, z = h0.size := ⟨_, rfl⟩
  rw [← g2] at A2 B2 st2
  have r2 : own_R p e below _ _ T2 (mkF m 6 #[] [(.ref b2)]) := r1.trans fun z_ kt => st2 _ kt
  have g_b2 : n0 ≤ b2 := Nat.le_trans (own_old_size O0) (Nat.le_of_eq g2.symm)
  have sz_b2 : h0.size ≤ b2 := Nat.le_trans K0.1 (Nat.le_of_eq g2.symm)
  have O2 := O0.ext E2
  have K2 := K0.ext E2
  have V2 : Arv Z h2 b2 kk (.object "com/example/tenon/tenon/generator/JavaType") (16 : Int32) vs .null := A2
  obtain ⟨T3, X3, e3, st3⟩ := castY X2 hx hZ hown (hw _ (own_g (i := 53) rfl)) e2 (Ins.self B2) (g := (mkF m 6 #[] [(.ref b2)])) rfl rfl (hb hby d2_6)
  have r3 : own_R p e below _ _ T3 (mkF m 9 #[] [(.ref b2)]) := r2.trans fun z_ kt => st3 _ kt
  obtain ⟨fs, hr, hrun, hended, hW, hsame⟩ := X3.leave (v := some (.ref b2)) (fun h => by rw [Bd.returns] at h; cases h)
  refine ⟨_, _, pre0 _ (r3 _ ?_), hrun, hended, _, _, rfl, ?_, ⟨_, rfl⟩, hW, hsame.mono (by decide) (by decide)⟩
  · exact retOut X3 hx Bd.returns rfl (Or.inr (Or.inr (Or.inr (Or.inr ⟨rfl, rfl, rfl⟩)))) (hb hby d2_9) hr
  · show Q_values Z vv kk vs h0 n0 _ T3.heap _
    rw [e3]
    exact ⟨b2, rfl, N0, K2, sz_b2, B2, V2⟩

theorem d1_0 : decode prog_11_method_5_code 0 = .ok (.invokestatic 95, 3) := by decide +kernel
theorem pd_0 : parseMethodDescriptor "()[Lcom/example/tenon/tenon/generator/JavaType;" = some ⟨[], some (.array (.object "com/example/tenon/tenon/generator/JavaType"))⟩ := by decide +kernel
theorem d1_3 : decode prog_11_method_5_code 3 = .ok (.astore_n 1, 1) := by decide +kernel
theorem d1_4 : decode prog_11_method_5_code 4 = .ok (.aload_n 1, 1) := by decide +kernel
theorem d1_5 : decode prog_11_method_5_code 5 = .ok (.arraylength, 1) := by decide +kernel
theorem d1_6 : decode prog_11_method_5_code 6 = .ok (.istore_n 2, 1) := by decide +kernel
theorem d1_7 : decode prog_11_method_5_code 7 = .ok (.iconst 0, 1) := by decide +kernel
theorem d1_8 : decode prog_11_method_5_code 8 = .ok (.istore_n 3, 1) := by decide +kernel
theorem d1_9 : decode prog_11_method_5_code 9 = .ok (.iload_n 3, 1) := by decide +kernel
theorem d1_10 : decode prog_11_method_5_code 10 = .ok (.iload_n 2, 1) := by decide +kernel
theorem d1_11 : decode prog_11_method_5_code 11 = .ok (.if_icmp .ge 26, 3) := by decide +kernel
theorem d1_14 : decode prog_11_method_5_code 14 = .ok (.aload_n 1, 1) := by decide +kernel
theorem d1_15 : decode prog_11_method_5_code 15 = .ok (.iload_n 3, 1) := by decide +kernel
theorem d1_16 : decode prog_11_method_5_code 16 = .ok (.aaload, 1) := by decide +kernel
theorem d1_17 : decode prog_11_method_5_code 17 = .ok (.astore 4, 2) := by decide +kernel
theorem d1_19 : decode prog_11_method_5_code 19 = .ok (.aload 4, 2) := by decide +kernel
theorem d1_21 : decode prog_11_method_5_code 21 = .ok (.getfield 84, 3) := by decide +kernel
theorem d1_24 : decode prog_11_method_5_code 24 = .ok (.aload_n 0, 1) := by decide +kernel
theorem d1_25 : decode prog_11_method_5_code 25 = .ok (.if_acmp .ne 6, 3) := by decide +kernel
theorem d1_31 : decode prog_11_method_5_code 31 = .ok (.iinc 3 1, 3) := by decide +kernel
theorem d1_34 : decode prog_11_method_5_code 34 = .ok (.goto (-25), 3) := by decide +kernel
theorem d1_28 : decode prog_11_method_5_code 28 = .ok (.aload 4, 2) := by decide +kernel
theorem d1_30 : decode prog_11_method_5_code 30 = .ok (.areturn, 1) := by decide +kernel
theorem ef_array (m : MethodId) (a : Addr) : entryFrame m #[(.ref a)] 5 = mkF m 0 #[.val (.ref a), .unset, .unset, .unset, .unset] [] := by first | (simp [entryFrame, mkF, argsToLocals, Value.category]; done) | rfl
def Q_array (Z : State) (a : Addr) (w : Addr) (vv : Addr) (kk : ClassId) (s_VOID : Addr) (s_BOOLEAN : Addr) (s_BYTE : Addr) (s_SHORT : Addr) (s_INT : Addr) (s_LONG : Addr) (s_FLOAT : Addr) (s_DOUBLE : Addr) (s_STRING : Addr) (s_BOOLEAN_ARRAY : Addr) (s_BYTE_ARRAY : Addr) (s_SHORT_ARRAY : Addr) (s_INT_ARRAY : Addr) (s_LONG_ARRAY : Addr) (s_FLOAT_ARRAY : Addr) (s_DOUBLE_ARRAY : Addr) (h0 : Heap) (n0 : Nat) (v : Option Value) (h : Heap) (L : List Loc) : Prop := v = some (.ref w) ∧ Fr n0 L ∧ Keep h0 h []
set_option maxRecDepth 65536 in
set_option maxHeartbeats 40000000 in
theorem rm_array (l : Launch) (Z : State) (a0 : Array Value) (hw : ∀ d ∈ tables_1, d.before a0 Z = true) (ws : List Jvm.Cond) (a : Addr) (w : Addr) (vv : Addr) (kk : ClassId) (s_VOID : Addr) (s_BOOLEAN : Addr) (s_BYTE : Addr) (s_SHORT : Addr) (s_INT : Addr) (s_LONG : Addr) (s_FLOAT : Addr) (s_DOUBLE : Addr) (s_STRING : Addr) (s_BOOLEAN_ARRAY : Addr) (s_BYTE_ARRAY : Addr) (s_SHORT_ARRAY : Addr) (s_INT_ARRAY : Addr) (s_LONG_ARRAY : Addr) (s_FLOAT_ARRAY : Addr) (s_DOUBLE_ARRAY : Addr) (h0 : Heap) (n0 : Nat) (O0 : Old Z n0 h0) (S_JavaType__VALUES : Sta Z Z.heap "com/example/tenon/tenon/generator/JavaType" "$VALUES" "[Lcom/example/tenon/tenon/generator/JavaType;" (.ref vv)) (OE_vv : Exa Z Z.heap vv "[Lcom/example/tenon/tenon/generator/JavaType;") (OV_vv : Arv Z Z.heap vv kk (.object "com/example/tenon/tenon/generator/JavaType") (16 : Int32) [(.ref s_VOID), (.ref s_BOOLEAN), (.ref s_BYTE), (.ref s_SHORT), (.ref s_INT), (.ref s_LONG), (.ref s_FLOAT), (.ref s_DOUBLE), (.ref s_STRING), (.ref s_BOOLEAN_ARRAY), (.ref s_BYTE_ARRAY), (.ref s_SHORT_ARRAY), (.ref s_INT_ARRAY), (.ref s_LONG_ARRAY), (.ref s_FLOAT_ARRAY), (.ref s_DOUBLE_ARRAY)] .null) (OF_s_VOID_element : Fld Z Z.heap s_VOID "com/example/tenon/tenon/generator/JavaType" "element" "Lcom/example/tenon/tenon/generator/JavaType;" .null) (OF_s_BOOLEAN_element : Fld Z Z.heap s_BOOLEAN "com/example/tenon/tenon/generator/JavaType" "element" "Lcom/example/tenon/tenon/generator/JavaType;" .null) (OF_s_BYTE_element : Fld Z Z.heap s_BYTE "com/example/tenon/tenon/generator/JavaType" "element" "Lcom/example/tenon/tenon/generator/JavaType;" .null) (OF_s_SHORT_element : Fld Z Z.heap s_SHORT "com/example/tenon/tenon/generator/JavaType" "element" "Lcom/example/tenon/tenon/generator/JavaType;" .null) (OF_s_INT_element : Fld Z Z.heap s_INT "com/example/tenon/tenon/generator/JavaType" "element" "Lcom/example/tenon/tenon/generator/JavaType;" .null) (OF_s_LONG_element : Fld Z Z.heap s_LONG "com/example/tenon/tenon/generator/JavaType" "element" "Lcom/example/tenon/tenon/generator/JavaType;" .null) (OF_s_FLOAT_element : Fld Z Z.heap s_FLOAT "com/example/tenon/tenon/generator/JavaType" "element" "Lcom/example/tenon/tenon/generator/JavaType;" .null) (OF_s_DOUBLE_element : Fld Z Z.heap s_DOUBLE "com/example/tenon/tenon/generator/JavaType" "element" "Lcom/example/tenon/tenon/generator/JavaType;" .null) (OF_s_STRING_element : Fld Z Z.heap s_STRING "com/example/tenon/tenon/generator/JavaType" "element" "Lcom/example/tenon/tenon/generator/JavaType;" .null) (OF_s_BOOLEAN_ARRAY_element : Fld Z Z.heap s_BOOLEAN_ARRAY "com/example/tenon/tenon/generator/JavaType" "element" "Lcom/example/tenon/tenon/generator/JavaType;" (.ref s_BOOLEAN)) (OF_s_BYTE_ARRAY_element : Fld Z Z.heap s_BYTE_ARRAY "com/example/tenon/tenon/generator/JavaType" "element" "Lcom/example/tenon/tenon/generator/JavaType;" (.ref s_BYTE)) (OF_s_SHORT_ARRAY_element : Fld Z Z.heap s_SHORT_ARRAY "com/example/tenon/tenon/generator/JavaType" "element" "Lcom/example/tenon/tenon/generator/JavaType;" (.ref s_SHORT)) (OF_s_INT_ARRAY_element : Fld Z Z.heap s_INT_ARRAY "com/example/tenon/tenon/generator/JavaType" "element" "Lcom/example/tenon/tenon/generator/JavaType;" (.ref s_INT)) (OF_s_LONG_ARRAY_element : Fld Z Z.heap s_LONG_ARRAY "com/example/tenon/tenon/generator/JavaType" "element" "Lcom/example/tenon/tenon/generator/JavaType;" (.ref s_LONG)) (OF_s_FLOAT_ARRAY_element : Fld Z Z.heap s_FLOAT_ARRAY "com/example/tenon/tenon/generator/JavaType" "element" "Lcom/example/tenon/tenon/generator/JavaType;" (.ref s_FLOAT)) (OF_s_DOUBLE_ARRAY_element : Fld Z Z.heap s_DOUBLE_ARRAY "com/example/tenon/tenon/generator/JavaType" "element" "Lcom/example/tenon/tenon/generator/JavaType;" (.ref s_DOUBLE)) (hsel : (s_BOOLEAN = a → w = s_BOOLEAN_ARRAY) ∧ (s_BYTE = a → w = s_BYTE_ARRAY) ∧ (s_SHORT = a → w = s_SHORT_ARRAY) ∧ (s_INT = a → w = s_INT_ARRAY) ∧ (s_LONG = a → w = s_LONG_ARRAY) ∧ (s_FLOAT = a → w = s_FLOAT_ARRAY) ∧ (s_DOUBLE = a → w = s_DOUBLE_ARRAY)) (hex : s_BOOLEAN = a ∨ s_BYTE = a ∨ s_SHORT = a ∨ s_INT = a ∨ s_LONG = a ∨ s_FLOAT = a ∨ s_DOUBLE = a) :
    MetFree l (⟨"com/example/tenon/tenon/generator/JavaType", "array", "()Lcom/example/tenon/tenon/generator/JavaType;"⟩ : MethodName) (head1 (Jvm.Cond.code (⟨"com/example/tenon/tenon/generator/JavaType", "array", "()Lcom/example/tenon/tenon/generator/JavaType;"⟩ : MethodName) prog_11_method_5_code 5 (some (.object "com/example/tenon/tenon/generator/JavaType")) :: ws) ({ frames := 2, cells := 1, slots := 16, locals := 25 } : Room)) (fun aa_ U => aa_ = #[(.ref a)] ∧ Z.Warmed39 U.vm ∧ U.heap = h0) (fun _ _ _ _ _ => True) (fun _ U o U' => ∃ v L, o = .returned v ∧ Q_array Z a w vv kk s_VOID s_BOOLEAN s_BYTE s_SHORT s_INT s_LONG s_FLOAT s_DOUBLE s_STRING s_BOOLEAN_ARRAY s_BYTE_ARRAY s_SHORT_ARRAY s_INT_ARRAY s_LONG_ARRAY s_FLOAT_ARRAY s_DOUBLE_ARRAY h0 n0 v U'.heap L ∧ FrameEnd U o U' L ({ frames := 2, cells := 1, slots := 16, locals := 25 } : Room).cells ({ frames := 2, cells := 1, slots := 16, locals := 25 } : Room).slots) := by
  refine MetFree.of_bodySF (plainFor_of_name pn_JavaType) hisR ?_
  intro p e s m args below meth c s₁ Bd hml0 hP hK
  obtain ⟨rfl, hZ, hh⟩ := hP
  have hx := Bd.exec
  have hby := Bd.bytes
  have hml : c.maxLocals = 5 := hml0
  have hown : s.vm.findClass "com/example/tenon/tenon/generator/JavaType" = some m.cls := findClass_of_methodNamed Bd.named
  have hnm := (name_of_methodNamed Bd.named Bd.method).1
  have X0 : Stand p l e ({ frames := 2, cells := 1, slots := 16, locals := 25 } : Room) s m #[(.ref a)] below meth c s₁ [] 0 0 := Stand.of_body Bd
  have e0 : s₁.heap = h0 := by rw [← hh, Bd.state]; rfl
  have N0 := Fr.nil n0
  have K0 : Keep h0 h0 [] := Keep.refl h0 _
  have pre0 : ∀ t, Steps p.tables e below (s₁.setTop (mkF m 0 #[.val (.ref a), .unset, .unset, .unset, .unset] [])) t → Steps p.tables e below (s₁.setTop (entryFrame m #[(.ref a)] 5)) t := fun t k => castTop (ef_array m a) k
  have r0 : own_R p e below s₁ (mkF m 0 #[.val (.ref a), .unset, .unset, .unset, .unset] []) s₁ (mkF m 0 #[.val (.ref a), .unset, .unset, .unset, .unset] []) := own_R.refl
  obtain ⟨_, _, ⟨T1, L1, cc1, n1⟩, -, X1, ⟨Lc1, hQ1, l1, y1, z1⟩, st1⟩ := Jvm.LawKit.callS X0 hx (y := (⟨"com/example/tenon/tenon/generator/JavaType", "values", "()[Lcom/example/tenon/tenon/generator/JavaType;"⟩ : MethodName)) hown (mvT hZ (hw _ (own_g (i := 38) rfl))) (mvT hZ (hw _ (own_g (i := 39) rfl))) (mvT hZ (hw _ (own_g (i := 3) rfl))) (mvT hZ (hw _ (own_g (i := 40) rfl))) (by decide) (backOf (W := 0) (rm_values l Z a0 hw [] (vv) (kk) ([(.ref s_VOID), (.ref s_BOOLEAN), (.ref s_BYTE), (.ref s_SHORT), (.ref s_INT), (.ref s_LONG), (.ref s_FLOAT), (.ref s_DOUBLE), (.ref s_STRING), (.ref s_BOOLEAN_ARRAY), (.ref s_BYTE_ARRAY), (.ref s_SHORT_ARRAY), (.ref s_INT_ARRAY), (.ref s_LONG_ARRAY), (.ref s_FLOAT_ARRAY), (.ref s_DOUBLE_ARRAY)]) h0 n0 O0 (S_JavaType__VALUES) (OE_vv) (OV_vv)) hZ (hw _ (own_g (i := 40) rfl)) (hw _ (own_g (i := 3) rfl)) (by decide) (by decide)) (g := (mkF m 0 #[.val (.ref a), .unset, .unset, .unset, .unset] [])) rfl (by rw [hml]; rfl) (argsL := []) (rest := []) (lenOf pd_0 rfl) rfl (by show 2 * 0 + _ ≤ _; exact Nat.le_of_eq rfl) (hb hby d1_0) (fun _ _ => ⟨rfl, e0, (by decide : 0 + 1 ≤ _), (by decide : 0 + 16 ≤ _)⟩)
  dsimp only [Pt.U, Pt.locs, Pt.cells, Pt.slots] at X1 l1 y1 z1 st1 hQ1
  subst l1 y1 z1
  obtain ⟨h1, e1⟩ : ∃ z, T1.heap = z := ⟨_, rfl⟩
  rw [e1] at hQ1
  obtain ⟨b_1, rfl, Nq1, Kq1, p1_0, p1_1, p1_2⟩ := hQ1
  have N1 := Fr.app N0 Nq1
  have r1 : own_R p e below _ _ T1 (mkF m 3 #[.val (.ref a), .unset, .unset, .unset, .unset] [(.ref b_1)]) := r0.trans fun z_ kt => st1 _ kt
  have g_b_1 : n0 ≤ b_1 := Nat.le_trans (own_old_size O0) p1_0
  have sz_b_1 : h0.size ≤ b_1 := Nat.le_trans K0.1 p1_0
  have O1 := O0.keep Kq1 all0
  have K1 := K0.trans Kq1 all0
  have r3 : own_R p e below _ _ T1 (mkF m 5 #[.val (.ref a), .val (.ref b_1), .unset, .unset, .unset] [(.ref b_1)]) := r1.trans fun z_ kt => by
    show own_S p e below T1 (mkF m 3 #[.val (.ref a), .unset, .unset, .unset, .unset] [(.ref b_1)]) _
    refine XS.astoreN X1.here hx rfl (hb hby d1_3) rfl rfl (l' := #[.val (.ref a), .val (.ref b_1), .unset, .unset, .unset]) rfl ?_
    show own_S p e below T1 (mkF m 4 #[.val (.ref a), .val (.ref b_1), .unset, .unset, .unset] []) _
    refine XS.aloadN X1.here hx rfl (hb hby d1_4) rfl rfl ?_
    exact kt
  obtain ⟨cl2, Ar2, q2, S2, M2, H2, G2⟩ := id p1_2
  have r5 : own_R p e below _ _ T1 (mkF m 16 #[.val (.ref a), .val (.ref b_1), .val (.int (16 : Int32)), .val (.int (0 : Int32)), .unset] [(.int (0 : Int32)), (.ref b_1)]) := r3.trans fun z_ kt => by
    show own_S p e below T1 (mkF m 5 #[.val (.ref a), .val (.ref b_1), .unset, .unset, .unset] [(.ref b_1)]) _
    refine X1.arraylength hx (by rw [e1]; exact Ar2.1) (State.isArrayOf_alike hZ.alike Ar2.2.1) (g := (mkF m 5 #[.val (.ref a), .val (.ref b_1), .unset, .unset, .unset] [(.ref b_1)])) rfl rfl (hb hby d1_5) _ ?_
    rw [len_of S2 M2]
    show own_S p e below T1 (mkF m 6 #[.val (.ref a), .val (.ref b_1), .unset, .unset, .unset] [(.int (16 : Int32))]) _
    refine XS.istoreN X1.here hx rfl (hb hby d1_6) rfl (l' := #[.val (.ref a), .val (.ref b_1), .val (.int (16 : Int32)), .unset, .unset]) rfl ?_
    show own_S p e below T1 (mkF m 7 #[.val (.ref a), .val (.ref b_1), .val (.int (16 : Int32)), .unset, .unset] []) _
    refine XS.iconst X1.here hx rfl (hb hby d1_7) ?_
    show own_S p e below T1 (mkF m 8 #[.val (.ref a), .val (.ref b_1), .val (.int (16 : Int32)), .unset, .unset] [(.int (0 : Int32))]) _
    refine XS.istoreN X1.here hx rfl (hb hby d1_8) rfl (l' := #[.val (.ref a), .val (.ref b_1), .val (.int (16 : Int32)), .val (.int (0 : Int32)), .unset]) rfl ?_
    show own_S p e below T1 (mkF m 9 #[.val (.ref a), .val (.ref b_1), .val (.int (16 : Int32)), .val (.int (0 : Int32)), .unset] []) _
    refine XS.iloadN X1.here hx rfl (hb hby d1_9) rfl ?_
    show own_S p e below T1 (mkF m 10 #[.val (.ref a), .val (.ref b_1), .val (.int (16 : Int32)), .val (.int (0 : Int32)), .unset] [(.int (0 : Int32))]) _
    refine XS.iloadN X1.here hx rfl (hb hby d1_10) rfl ?_
    show own_S p e below T1 (mkF m 11 #[.val (.ref a), .val (.ref b_1), .val (.int (16 : Int32)), .val (.int (0 : Int32)), .unset] [(.int (16 : Int32)), (.int (0 : Int32))]) _
    refine XS.icmpNo X1.here hx rfl (hb hby d1_11) rfl (tlt (by decide : (0 : Int32) < (16 : Int32))).2.1 ?_
    show own_S p e below T1 (mkF m 14 #[.val (.ref a), .val (.ref b_1), .val (.int (16 : Int32)), .val (.int (0 : Int32)), .unset] []) _
    refine XS.aloadN X1.here hx rfl (hb hby d1_14) rfl rfl ?_
    show own_S p e below T1 (mkF m 15 #[.val (.ref a), .val (.ref b_1), .val (.int (16 : Int32)), .val (.int (0 : Int32)), .unset] [(.ref b_1)]) _
    refine XS.iloadN X1.here hx rfl (hb hby d1_15) rfl ?_
    exact kt
  obtain ⟨cl4, Ar4, q4, S4, M4, H4, G4⟩ := id p1_2
  have hin4 : ¬ ((0 : Int32) < 0 ∨ cl4.slots.size ≤ ((0 : Int32)).toNatClampNeg) := inb_of S4 ⟨by decide, by decide⟩
  have hat4 : cl4.slots[((0 : Int32)).toNatClampNeg]? = some (.ref s_VOID) := Has.at H4 hin4 rfl
  have r6 : own_R p e below _ _ T1 (mkF m 21 #[.val (.ref a), .val (.ref b_1), .val (.int (16 : Int32)), .val (.int (0 : Int32)), .val (.ref s_VOID)] [(.ref s_VOID)]) := r5.trans fun z_ kt => by
    show own_S p e below T1 (mkF m 16 #[.val (.ref a), .val (.ref b_1), .val (.int (16 : Int32)), .val (.int (0 : Int32)), .unset] [(.int (0 : Int32)), (.ref b_1)]) _
    refine X1.aaload hx (j := (0 : Int32)) (v := (.ref s_VOID)) (by rw [e1]; exact Ar4.1) (State.isArrayOf_alike hZ.alike Ar4.2.1) rfl Ar4.2.2 hin4 hat4 (g := (mkF m 16 #[.val (.ref a), .val (.ref b_1), .val (.int (16 : Int32)), .val (.int (0 : Int32)), .unset] [(.int (0 : Int32)), (.ref b_1)])) rfl rfl (hb hby d1_16) _ ?_
    show own_S p e below T1 (mkF m 17 #[.val (.ref a), .val (.ref b_1), .val (.int (16 : Int32)), .val (.int (0 : Int32)), .unset] [(.ref s_VOID)]) _
    refine XS.astore X1.here hx rfl (hb hby d1_17) rfl rfl (l' := #[.val (.ref a), .val (.ref b_1), .val (.int (16 : Int32)), .val (.int (0 : Int32)), .val (.ref s_VOID)]) rfl ?_
    show own_S p e below T1 (mkF m 19 #[.val (.ref a), .val (.ref b_1), .val (.int (16 : Int32)), .val (.int (0 : Int32)), .val (.ref s_VOID)] []) _
    refine XS.aload X1.here hx rfl (hb hby d1_19) rfl rfl ?_
    exact kt
  obtain ⟨T7, X7, e7, st7⟩ := getF X1 hx hZ hown (host := "") (Or.inl (hw _ (own_g (i := 55) rfl))) Via.refl e1 (OF_s_VOID_element.ext O1.2) (g := (mkF m 21 #[.val (.ref a), .val (.ref b_1), .val (.int (16 : Int32)), .val (.int (0 : Int32)), .val (.ref s_VOID)] [(.ref s_VOID)])) rfl rfl (hb hby d1_21)
  have r7 : own_R p e below _ _ T7 (mkF m 24 #[.val (.ref a), .val (.ref b_1), .val (.int (16 : Int32)), .val (.int (0 : Int32)), .val (.ref s_VOID)] [.null]) := r6.trans fun z_ kt => st7 _ kt
  have r9 : own_R p e below _ _ T7 (mkF m 16 #[.val (.ref a), .val (.ref b_1), .val (.int (16 : Int32)), .val (.int (1 : Int32)), .val (.ref s_VOID)] [(.int (1 : Int32)), (.ref b_1)]) := r7.trans fun z_ kt => by
    show own_S p e below T7 (mkF m 24 #[.val (.ref a), .val (.ref b_1), .val (.int (16 : Int32)), .val (.int (0 : Int32)), .val (.ref s_VOID)] [.null]) _
    refine XS.aloadN X7.here hx rfl (hb hby d1_24) rfl rfl ?_
    show own_S p e below T7 (mkF m 25 #[.val (.ref a), .val (.ref b_1), .val (.int (16 : Int32)), .val (.int (0 : Int32)), .val (.ref s_VOID)] [(.ref a), .null]) _
    refine Jvm.RoadKit.acmp (g := (mkF m 25 #[.val (.ref a), .val (.ref b_1), .val (.int (16 : Int32)), .val (.int (0 : Int32)), .val (.ref s_VOID)] [(.ref a), .null])) X7 hx rfl rfl rfl (pc0 := 25) (pc' := 31) (same := false) rfl (hb hby d1_25) rfl (decide_eq_false nofun) (by decide) (by decide) ?_
    show own_S p e below T7 (mkF m 31 #[.val (.ref a), .val (.ref b_1), .val (.int (16 : Int32)), .val (.int (0 : Int32)), .val (.ref s_VOID)] []) _
    refine XS.iinc X7.here hx rfl (hb hby d1_31) rfl (l' := #[.val (.ref a), .val (.ref b_1), .val (.int (16 : Int32)), .val (.int (1 : Int32)), .val (.ref s_VOID)]) rfl ?_
    show own_S p e below T7 (mkF m 34 #[.val (.ref a), .val (.ref b_1), .val (.int (16 : Int32)), .val (.int (1 : Int32)), .val (.ref s_VOID)] []) _
    refine XS.goto X7.here hx rfl (pc0 := 34) (pc' := 9) rfl (hb hby d1_34) (by decide) (by decide) ?_
    show own_S p e below T7 (mkF m 9 #[.val (.ref a), .val (.ref b_1), .val (.int (16 : Int32)), .val (.int (1 : Int32)), .val (.ref s_VOID)] []) _
    refine XS.iloadN X7.here hx rfl (hb hby d1_9) rfl ?_
    show own_S p e below T7 (mkF m 10 #[.val (.ref a), .val (.ref b_1), .val (.int (16 : Int32)), .val (.int (1 : Int32)), .val (.ref s_VOID)] [(.int (1 : Int32))]) _
    refine XS.iloadN X7.here hx rfl (hb hby d1_10) rfl ?_
    show own_S p e below T7 (mkF m 11 #[.val (.ref a), .val (.ref b_1), .val (.int (16 : Int32)), .val (.int (1 : Int32)), .val (.ref s_VOID)] [(.int (16 : Int32)), (.int (1 : Int32))]) _
    refine XS.icmpNo X7.here hx rfl (hb hby d1_11) rfl (tlt (by decide : (1 : Int32) < (16 : Int32))).2.1 ?_
    show own_S p e below T7 (mkF m 14 #[.val (.ref a), .val (.ref b_1), .val (.int (16 : Int32)), .val (.int (1 : Int32)), .val (.ref s_VOID)] []) _
    refine XS.aloadN X7.here hx rfl (hb hby d1_14) rfl rfl ?_
    show own_S p e below T7 (mkF m 15 #[.val (.ref a), .val (.ref b_1), .val (.int (16 : Int32)), .val (.int (1 : Int32)), .val (.ref s_VOID)] [(.ref b_1)]) _
    refine XS.iloadN X7.here hx rfl (hb hby d1_15) rfl ?_
    exact kt
  obtain ⟨cl8, Ar8, q8, S8, M8, H8, G8⟩ := id p1_2
  have hin8 : ¬ ((1 : Int32) < 0 ∨ cl8.slots.size ≤ ((1 : Int32)).toNatClampNeg) := inb_of S8 ⟨by decide, by decide⟩
  have hat8 : cl8.slots[((1 : Int32)).toNatClampNeg]? = some (.ref s_BOOLEAN) := Has.at H8 hin8 rfl
  have r10 : own_R p e below _ _ T7 (mkF m 21 #[.val (.ref a), .val (.ref b_1), .val (.int (16 : Int32)), .val (.int (1 : Int32)), .val (.ref s_BOOLEAN)] [(.ref s_BOOLEAN)]) := r9.trans fun z_ kt => by
    show own_S p e below T7 (mkF m 16 #[.val (.ref a), .val (.ref b_1), .val (.int (16 : Int32)), .val (.int (1 : Int32)), .val (.ref s_VOID)] [(.int (1 : Int32)), (.ref b_1)]) _
    refine X7.aaload hx (j := (1 : Int32)) (v := (.ref s_BOOLEAN)) (by rw [e7]; exact Ar8.1) (State.isArrayOf_alike hZ.alike Ar8.2.1) rfl Ar8.2.2 hin8 hat8 (g := (mkF m 16 #[.val (.ref a), .val (.ref b_1), .val (.int (16 : Int32)), .val (.int (1 : Int32)), .val (.ref s_VOID)] [(.int (1 : Int32)), (.ref b_1)])) rfl rfl (hb hby d1_16) _ ?_
    show own_S p e below T7 (mkF m 17 #[.val (.ref a), .val (.ref b_1), .val (.int (16 : Int32)), .val (.int (1 : Int32)), .val (.ref s_VOID)] [(.ref s_BOOLEAN)]) _
    refine XS.astore X7.here hx rfl (hb hby d1_17) rfl rfl (l' := #[.val (.ref a), .val (.ref b_1), .val (.int (16 : Int32)), .val (.int (1 : Int32)), .val (.ref s_BOOLEAN)]) rfl ?_
    show own_S p e below T7 (mkF m 19 #[.val (.ref a), .val (.ref b_1), .val (.int (16 : Int32)), .val (.int (1 : Int32)), .val (.ref s_BOOLEAN)] []) _
    refine XS.aload X7.here hx rfl (hb hby d1_19) rfl rfl ?_
    exact kt
  obtain ⟨T11, X11, e11, st11⟩ := getF X7 hx hZ hown (host := "") (Or.inl (hw _ (own_g (i := 55) rfl))) Via.refl e7 (OF_s_BOOLEAN_element.ext O1.2) (g := (mkF m 21 #[.val (.ref a), .val (.ref b_1), .val (.int (16 : Int32)), .val (.int (1 : Int32)), .val (.ref s_BOOLEAN)] [(.ref s_BOOLEAN)])) rfl rfl (hb hby d1_21)
  have r11 : own_R p e below _ _ T11 (mkF m 24 #[.val (.ref a), .val (.ref b_1), .val (.int (16 : Int32)), .val (.int (1 : Int32)), .val (.ref s_BOOLEAN)] [.null]) := r10.trans fun z_ kt => st11 _ kt
  have r13 : own_R p e below _ _ T11 (mkF m 16 #[.val (.ref a), .val (.ref b_1), .val (.int (16 : Int32)), .val (.int (2 : Int32)), .val (.ref s_BOOLEAN)] [(.int (2 : Int32)), (.ref b_1)]) := r11.trans fun z_ kt => by
    show own_S p e below T11 (mkF m 24 #[.val (.ref a), .val (.ref b_1), .val (.int (16 : Int32)), .val (.int (1 : Int32)), .val (.ref s_BOOLEAN)] [.null]) _
    refine XS.aloadN X11.here hx rfl (hb hby d1_24) rfl rfl ?_
    show own_S p e below T11 (mkF m 25 #[.val (.ref a), .val (.ref b_1), .val (.int (16 : Int32)), .val (.int (1 : Int32)), .val (.ref s_BOOLEAN)] [(.ref a), .null]) _
    refine Jvm.RoadKit.acmp (g := (mkF m 25 #[.val (.ref a), .val (.ref b_1), .val (.int (16 : Int32)), .val (.int (1 : Int32)), .val (.ref s_BOOLEAN)] [(.ref a), .null])) X11 hx rfl rfl rfl (pc0 := 25) (pc' := 31) (same := false) rfl (hb hby d1_25) rfl (decide_eq_false nofun) (by decide) (by decide) ?_
    show own_S p e below T11 (mkF m 31 #[.val (.ref a), .val (.ref b_1), .val (.int (16 : Int32)), .val (.int (1 : Int32)), .val (.ref s_BOOLEAN)] []) _
    refine XS.iinc X11.here hx rfl (hb hby d1_31) rfl (l' := #[.val (.ref a), .val (.ref b_1), .val (.int (16 : Int32)), .val (.int (2 : Int32)), .val (.ref s_BOOLEAN)]) rfl ?_
    show own_S p e below T11 (mkF m 34 #[.val (.ref a), .val (.ref b_1), .val (.int (16 : Int32)), .val (.int (2 : Int32)), .val (.ref s_BOOLEAN)] []) _
    refine XS.goto X11.here hx rfl (pc0 := 34) (pc' := 9) rfl (hb hby d1_34) (by decide) (by decide) ?_
    show own_S p e below T11 (mkF m 9 #[.val (.ref a), .val (.ref b_1), .val (.int (16 : Int32)), .val (.int (2 : Int32)), .val (.ref s_BOOLEAN)] []) _
    refine XS.iloadN X11.here hx rfl (hb hby d1_9) rfl ?_
    show own_S p e below T11 (mkF m 10 #[.val (.ref a), .val (.ref b_1), .val (.int (16 : Int32)), .val (.int (2 : Int32)), .val (.ref s_BOOLEAN)] [(.int (2 : Int32))]) _
    refine XS.iloadN X11.here hx rfl (hb hby d1_10) rfl ?_
    show own_S p e below T11 (mkF m 11 #[.val (.ref a), .val (.ref b_1), .val (.int (16 : Int32)), .val (.int (2 : Int32)), .val (.ref s_BOOLEAN)] [(.int (16 : Int32)), (.int (2 : Int32))]) _
    refine XS.icmpNo X11.here hx rfl (hb hby d1_11) rfl (tlt (by decide : (2 : Int32) < (16 : Int32))).2.1 ?_
    show own_S p e below T11 (mkF m 14 #[.val (.ref a), .val (.ref b_1), .val (.int (16 : Int32)), .val (.int (2 : Int32)), .val (.ref s_BOOLEAN)] []) _
    refine XS.aloadN X11.here hx rfl (hb hby d1_14) rfl rfl ?_
    show own_S p e below T11 (mkF m 15 #[.val (.ref a), .val (.ref b_1), .val (.int (16 : Int32)), .val (.int (2 : Int32)), .val (.ref s_BOOLEAN)] [(.ref b_1)]) _
    refine XS.iloadN X11.here hx rfl (hb hby d1_15) rfl ?_
    exact kt
  obtain ⟨cl12, Ar12, q12, S12, M12, H12, G12⟩ := id p1_2
  have hin12 : ¬ ((2 : Int32) < 0 ∨ cl12.slots.size ≤ ((2 : Int32)).toNatClampNeg) := inb_of S12 ⟨by decide, by decide⟩
  have hat12 : cl12.slots[((2 : Int32)).toNatClampNeg]? = some (.ref s_BYTE) := Has.at H12 hin12 rfl
  have r14 : own_R p e below _ _ T11 (mkF m 21 #[.val (.ref a), .val (.ref b_1), .val (.int (16 : Int32)), .val (.int (2 : Int32)), .val (.ref s_BYTE)] [(.ref s_BYTE)]) := r13.trans fun z_ kt => by
    show own_S p e below T11 (mkF m 16 #[.val (.ref a), .val (.ref b_1), .val (.int (16 : Int32)), .val (.int (2 : Int32)), .val (.ref s_BOOLEAN)] [(.int (2 : Int32)), (.ref b_1)]) _
    refine X11.aaload hx (j := (2 : Int32)) (v := (.ref s_BYTE)) (by rw [e11]; exact Ar12.1) (State.isArrayOf_alike hZ.alike Ar12.2.1) rfl Ar12.2.2 hin12 hat12 (g := (mkF m 16 #[.val (.ref a), .val (.ref b_1), .val (.int (16 : Int32)), .val (.int (2 : Int32)), .val (.ref s_BOOLEAN)] [(.int (2 : Int32)), (.ref b_1)])) rfl rfl (hb hby d1_16) _ ?_
    show own_S p e below T11 (mkF m 17 #[.val (.ref a), .val (.ref b_1), .val (.int (16 : Int32)), .val (.int (2 : Int32)), .val (.ref s_BOOLEAN)] [(.ref s_BYTE)]) _
    refine XS.astore X11.here hx rfl (hb hby d1_17) rfl rfl (l' := #[.val (.ref a), .val (.ref b_1), .val (.int (16 : Int32)), .val (.int (2 : Int32)), .val (.ref s_BYTE)]) rfl ?_
    show own_S p e below T11 (mkF m 19 #[.val (.ref a), .val (.ref b_1), .val (.int (16 : Int32)), .val (.int (2 : Int32)), .val (.ref s_BYTE)] []) _
    refine XS.aload X11.here hx rfl (hb hby d1_19) rfl rfl ?_
    exact kt
  obtain ⟨T15, X15, e15, st15⟩ := getF X11 hx hZ hown (host := "") (Or.inl (hw _ (own_g (i := 55) rfl))) Via.refl e11 (OF_s_BYTE_element.ext O1.2) (g := (mkF m 21 #[.val (.ref a), .val (.ref b_1), .val (.int (16 : Int32)), .val (.int (2 : Int32)), .val (.ref s_BYTE)] [(.ref s_BYTE)])) rfl rfl (hb hby d1_21)
  have r15 : own_R p e below _ _ T15 (mkF m 24 #[.val (.ref a), .val (.ref b_1), .val (.int (16 : Int32)), .val (.int (2 : Int32)), .val (.ref s_BYTE)] [.null]) := r14.trans fun z_ kt => st15 _ kt
  have r17 : own_R p e below _ _ T15 (mkF m 16 #[.val (.ref a), .val (.ref b_1), .val (.int (16 : Int32)), .val (.int (3 : Int32)), .val (.ref s_BYTE)] [(.int (3 : Int32)), (.ref b_1)]) := r15.trans fun z_ kt => by
    show own_S p e below T15 (mkF m 24 #[.val (.ref a), .val (.ref b_1), .val (.int (16 : Int32)), .val (.int (2 : Int32)), .val (.ref s_BYTE)] [.null]) _
    refine XS.aloadN X15.here hx rfl (hb hby d1_24) rfl rfl ?_
    show own_S p e below T15 (mkF m 25 #[.val (.ref a), .val (.ref b_1), .val (.int (16 : Int32)), .val (.int (2 : Int32)), .val (.ref s_BYTE)] [(.ref a), .null]) _
    refine Jvm.RoadKit.acmp (g := (mkF m 25 #[.val (.ref a), .val (.ref b_1), .val (.int (16 : Int32)), .val (.int (2 : Int32)), .val (.ref s_BYTE)] [(.ref a), .null])) X15 hx rfl rfl rfl (pc0 := 25) (pc' := 31) (same := false) rfl (hb hby d1_25) rfl (decide_eq_false nofun) (by decide) (by decide) ?_
    show own_S p e below T15 (mkF m 31 #[.val (.ref a), .val (.ref b_1), .val (.int (16 : Int32)), .val (.int (2 : Int32)), .val (.ref s_BYTE)] []) _
    refine XS.iinc X15.here hx rfl (hb hby d1_31) rfl (l' := #[.val (.ref a), .val (.ref b_1), .val (.int (16 : Int32)), .val (.int (3 : Int32)), .val (.ref s_BYTE)]) rfl ?_
    show own_S p e below T15 (mkF m 34 #[.val (.ref a), .val (.ref b_1), .val (.int (16 : Int32)), .val (.int (3 : Int32)), .val (.ref s_BYTE)] []) _
    refine XS.goto X15.here hx rfl (pc0 := 34) (pc' := 9) rfl (hb hby d1_34) (by decide) (by decide) ?_
    show own_S p e below T15 (mkF m 9 #[.val (.ref a), .val (.ref b_1), .val (.int (16 : Int32)), .val (.int (3 : Int32)), .val (.ref s_BYTE)] []) _
    refine XS.iloadN X15.here hx rfl (hb hby d1_9) rfl ?_
    show own_S p e below T15 (mkF m 10 #[.val (.ref a), .val (.ref b_1), .val (.int (16 : Int32)), .val (.int (3 : Int32)), .val (.ref s_BYTE)] [(.int (3 : Int32))]) _
    refine XS.iloadN X15.here hx rfl (hb hby d1_10) rfl ?_
    show own_S p e below T15 (mkF m 11 #[.val (.ref a), .val (.ref b_1), .val (.int (16 : Int32)), .val (.int (3 : Int32)), .val (.ref s_BYTE)] [(.int (16 : Int32)), (.int (3 : Int32))]) _
    refine XS.icmpNo X15.here hx rfl (hb hby d1_11) rfl (tlt (by decide : (3 : Int32) < (16 : Int32))).2.1 ?_
    show own_S p e below T15 (mkF m 14 #[.val (.ref a), .val (.ref b_1), .val (.int (16 : Int32)), .val (.int (3 : Int32)), .val (.ref s_BYTE)] []) _
    refine XS.aloadN X15.here hx rfl (hb hby d1_14) rfl rfl ?_
    show own_S p e below T15 (mkF m 15 #[.val (.ref a), .val (.ref b_1), .val (.int (16 : Int32)), .val (.int (3 : Int32)), .val (.ref s_BYTE)] [(.ref b_1)]) _
    refine XS.iloadN X15.here hx rfl (hb hby d1_15) rfl ?_
    exact kt
  obtain ⟨cl16, Ar16, q16, S16, M16, H16, G16⟩ := id p1_2
  have hin16 : ¬ ((3 : Int32) < 0 ∨ cl16.slots.size ≤ ((3 : Int32)).toNatClampNeg) := inb_of S16 ⟨by decide, by decide⟩
  have hat16 : cl16.slots[((3 : Int32)).toNatClampNeg]? = some (.ref s_SHORT) := Has.at H16 hin16 rfl
  have r18 : own_R p e below _ _ T15 (mkF m 21 #[.val (.ref a), .val (.ref b_1), .val (.int (16 : Int32)), .val (.int (3 : Int32)), .val (.ref s_SHORT)] [(.ref s_SHORT)]) := r17.trans fun z_ kt => by
    show own_S p e below T15 (mkF m 16 #[.val (.ref a), .val (.ref b_1), .val (.int (16 : Int32)), .val (.int (3 : Int32)), .val (.ref s_BYTE)] [(.int (3 : Int32)), (.ref b_1)]) _
    refine X15.aaload hx (j := (3 : Int32)) (v := (.ref s_SHORT)) (by rw [e15]; exact Ar16.1) (State.isArrayOf_alike hZ.alike Ar16.2.1) rfl Ar16.2.2 hin16 hat16 (g := (mkF m 16 #[.val (.ref a), .val (.ref b_1), .val (.int (16 : Int32)), .val (.int (3 : Int32)), .val (.ref s_BYTE)] [(.int (3 : Int32)), (.ref b_1)])) rfl rfl (hb hby d1_16) _ ?_
    show own_S p e below T15 (mkF m 17 #[.val (.ref a), .val (.ref b_1), .val (.int (16 : Int32)), .val (.int (3 : Int32)), .val (.ref s_BYTE)] [(.ref s_SHORT)]) _
    refine XS.astore X15.here hx rfl (hb hby d1_17) rfl rfl (l' := #[.val (.ref a), .val (.ref b_1), .val (.int (16 : Int32)), .val (.int (3 : Int32)), .val (.ref s_SHORT)]) rfl ?_
    show own_S p e below T15 (mkF m 19 #[.val (.ref a), .val (.ref b_1), .val (.int (16 : Int32)), .val (.int (3 : Int32)), .val (.ref s_SHORT)] []) _
    refine XS.aload X15.here hx rfl (hb hby d1_19) rfl rfl ?_
    exact kt
  obtain ⟨T19, X19, e19, st19⟩ := getF X15 hx hZ hown (host := "") (Or.inl (hw _ (own_g (i := 55) rfl))) Via.refl e15 (OF_s_SHORT_element.ext O1.2) (g := (mkF m 21 #[.val (.ref a), .val (.ref b_1), .val (.int (16 : Int32)), .val (.int (3 : Int32)), .val (.ref s_SHORT)] [(.ref s_SHORT)])) rfl rfl (hb hby d1_21)
  have r19 : own_R p e below _ _ T19 (mkF m 24 #[.val (.ref a), .val (.ref b_1), .val (.int (16 : Int32)), .val (.int (3 : Int32)), .val (.ref s_SHORT)] [.null]) := r18.trans fun z_ kt => st19 _ kt
  have r21 : own_R p e below _ _ T19 (mkF m 16 #[.val (.ref a), .val (.ref b_1), .val (.int (16 : Int32)), .val (.int (4 : Int32)), .val (.ref s_SHORT)] [(.int (4 : Int32)), (.ref b_1)]) := r19.trans fun z_ kt => by
    show own_S p e below T19 (mkF m 24 #[.val (.ref a), .val (.ref b_1), .val (.int (16 : Int32)), .val (.int (3 : Int32)), .val (.ref s_SHORT)] [.null]) _
    refine XS.aloadN X19.here hx rfl (hb hby d1_24) rfl rfl ?_
    show own_S p e below T19 (mkF m 25 #[.val (.ref a), .val (.ref b_1), .val (.int (16 : Int32)), .val (.int (3 : Int32)), .val (.ref s_SHORT)] [(.ref a), .null]) _
    refine Jvm.RoadKit.acmp (g := (mkF m 25 #[.val (.ref a), .val (.ref b_1), .val (.int (16 : Int32)), .val (.int (3 : Int32)), .val (.ref s_SHORT)] [(.ref a), .null])) X19 hx rfl rfl rfl (pc0 := 25) (pc' := 31) (same := false) rfl (hb hby d1_25) rfl (decide_eq_false nofun) (by decide) (by decide) ?_
    show own_S p e below T19 (mkF m 31 #[.val (.ref a), .val (.ref b_1), .val (.int (16 : Int32)), .val (.int (3 : Int32)), .val (.ref s_SHORT)] []) _
    refine XS.iinc X19.here hx rfl (hb hby d1_31) rfl (l' := #[.val (.ref a), .val (.ref b_1), .val (.int (16 : Int32)), .val (.int (4 : Int32)), .val (.ref s_SHORT)]) rfl ?_
    show own_S p e below T19 (mkF m 34 #[.val (.ref a), .val (.ref b_1), .val (.int (16 : Int32)), .val (.int (4 : Int32)), .val (.ref s_SHORT)] []) _
    refine XS.goto X19.here hx rfl (pc0 := 34) (pc' := 9) rfl (hb hby d1_34) (by decide) (by decide) ?_
    show own_S p e below T19 (mkF m 9 #[.val (.ref a), .val (.ref b_1), .val (.int (16 : Int32)), .val (.int (4 : Int32)), .val (.ref s_SHORT)] []) _
    refine XS.iloadN X19.here hx rfl (hb hby d1_9) rfl ?_
    show own_S p e below T19 (mkF m 10 #[.val (.ref a), .val (.ref b_1), .val (.int (16 : Int32)), .val (.int (4 : Int32)), .val (.ref s_SHORT)] [(.int (4 : Int32))]) _
    refine XS.iloadN X19.here hx rfl (hb hby d1_10) rfl ?_
    show own_S p e below T19 (mkF m 11 #[.val (.ref a), .val (.ref b_1), .val (.int (16 : Int32)), .val (.int (4 : Int32)), .val (.ref s_SHORT)] [(.int (16 : Int32)), (.int (4 : Int32))]) _
    refine XS.icmpNo X19.here hx rfl (hb hby d1_11) rfl (tlt (by decide : (4 : Int32) < (16 : Int32))).2.1 ?_
    show own_S p e below T19 (mkF m 14 #[.val (.ref a), .val (.ref b_1), .val (.int (16 : Int32)), .val (.int (4 : Int32)), .val (.ref s_SHORT)] []) _
    refine XS.aloadN X19.here hx rfl (hb hby d1_14) rfl rfl ?_
    show own_S p e below T19 (mkF m 15 #[.val (.ref a), .val (.ref b_1), .val (.int (16 : Int32)), .val (.int (4 : Int32)), .val (.ref s_SHORT)] [(.ref b_1)]) _
    refine XS.iloadN X19.here hx rfl (hb hby d1_15) rfl ?_
    exact kt
  obtain ⟨cl20, Ar20, q20, S20, M20, H20, G20⟩ := id p1_2
  have hin20 : ¬ ((4 : Int32) < 0 ∨ cl20.slots.size ≤ ((4 : Int32)).toNatClampNeg) := inb_of S20 ⟨by decide, by decide⟩
  have hat20 : cl20.slots[((4 : Int32)).toNatClampNeg]? = some (.ref s_INT) := Has.at H20 hin20 rfl
  have r22 : own_R p e below _ _ T19 (mkF m 21 #[.val (.ref a), .val (.ref b_1), .val (.int (16 : Int32)), .val (.int (4 : Int32)), .val (.ref s_INT)] [(.ref s_INT)]) := r21.trans fun z_ kt => by
    show own_S p e below T19 (mkF m 16 #[.val (.ref a), .val (.ref b_1), .val (.int (16 : Int32)), .val (.int (4 : Int32)), .val (.ref s_SHORT)] [(.int (4 : Int32)), (.ref b_1)]) _
    refine X19.aaload hx (j := (4 : Int32)) (v := (.ref s_INT)) (by rw [e19]; exact Ar20.1) (State.isArrayOf_alike hZ.alike Ar20.2.1) rfl Ar20.2.2 hin20 hat20 (g := (mkF m 16 #[.val (.ref a), .val (.ref b_1), .val (.int (16 : Int32)), .val (.int (4 : Int32)), .val (.ref s_SHORT)] [(.int (4 : Int32)), (.ref b_1)])) rfl rfl (hb hby d1_16) _ ?_
    show own_S p e below T19 (mkF m 17 #[.val (.ref a), .val (.ref b_1), .val (.int (16 : Int32)), .val (.int (4 : Int32)), .val (.ref s_SHORT)] [(.ref s_INT)]) _
    refine XS.astore X19.here hx rfl (hb hby d1_17) rfl rfl (l' := #[.val (.ref a), .val (.ref b_1), .val (.int (16 : Int32)), .val (.int (4 : Int32)), .val (.ref s_INT)]) rfl ?_
    show own_S p e below T19 (mkF m 19 #[.val (.ref a), .val (.ref b_1), .val (.int (16 : Int32)), .val (.int (4 : Int32)), .val (.ref s_INT)] []) _
    refine XS.aload X19.here hx rfl (hb hby d1_19) rfl rfl ?_
    exact kt
  obtain ⟨T23, X23, e23, st23⟩ := getF X19 hx hZ hown (host := "") (Or.inl (hw _ (own_g (i := 55) rfl))) Via.refl e19 (OF_s_INT_element.ext O1.2) (g := (mkF m 21 #[.val (.ref a), .val (.ref b_1), .val (.int (16 : Int32)), .val (.int (4 : Int32)), .val (.ref s_INT)] [(.ref s_INT)])) rfl rfl (hb hby d1_21)
  have r23 : own_R p e below _ _ T23 (mkF m 24 #[.val (.ref a), .val (.ref b_1), .val (.int (16 : Int32)), .val (.int (4 : Int32)), .val (.ref s_INT)] [.null]) := r22.trans fun z_ kt => st23 _ kt
  have r25 : own_R p e below _ _ T23 (mkF m 16 #[.val (.ref a), .val (.ref b_1), .val (.int (16 : Int32)), .val (.int (5 : Int32)), .val (.ref s_INT)] [(.int (5 : Int32)), (.ref b_1)]) := r23.trans fun z_ kt => by
    show own_S p e below T23 (mkF m 24 #[.val (.ref a), .val (.ref b_1), .val (.int (16 : Int32)), .val (.int (4 : Int32)), .val (.ref s_INT)] [.null]) _
    refine XS.aloadN X23.here hx rfl (hb hby d1_24) rfl rfl ?_
    show own_S p e below T23 (mkF m 25 #[.val (.ref a), .val (.ref b_1), .val (.int (16 : Int32)), .val (.int (4 : Int32)), .val (.ref s_INT)] [(.ref a), .null]) _
    refine Jvm.RoadKit.acmp (g := (mkF m 25 #[.val (.ref a), .val (.ref b_1), .val (.int (16 : Int32)), .val (.int (4 : Int32)), .val (.ref s_INT)] [(.ref a), .null])) X23 hx rfl rfl rfl (pc0 := 25) (pc' := 31) (same := false) rfl (hb hby d1_25) rfl (decide_eq_false nofun) (by decide) (by decide) ?_
    show own_S p e below T23 (mkF m 31 #[.val (.ref a), .val (.ref b_1), .val (.int (16 : Int32)), .val (.int (4 : Int32)), .val (.ref s_INT)] []) _
    refine XS.iinc X23.here hx rfl (hb hby d1_31) rfl (l' := #[.val (.ref a), .val (.ref b_1), .val (.int (16 : Int32)), .val (.int (5 : Int32)), .val (.ref s_INT)]) rfl ?_
    show own_S p e below T23 (mkF m 34 #[.val (.ref a), .val (.ref b_1), .val (.int (16 : Int32)), .val (.int (5 : Int32)), .val (.ref s_INT)] []) _
    refine XS.goto X23.here hx rfl (pc0 := 34) (pc' := 9) rfl (hb hby d1_34) (by decide) (by decide) ?_
    show own_S p e below T23 (mkF m 9 #[.val (.ref a), .val (.ref b_1), .val (.int (16 : Int32)), .val (.int (5 : Int32)), .val (.ref s_INT)] []) _
    refine XS.iloadN X23.here hx rfl (hb hby d1_9) rfl ?_
    show own_S p e below T23 (mkF m 10 #[.val (.ref a), .val (.ref b_1), .val (.int (16 : Int32)), .val (.int (5 : Int32)), .val (.ref s_INT)] [(.int (5 : Int32))]) _
    refine XS.iloadN X23.here hx rfl (hb hby d1_10) rfl ?_
    show own_S p e below T23 (mkF m 11 #[.val (.ref a), .val (.ref b_1), .val (.int (16 : Int32)), .val (.int (5 : Int32)), .val (.ref s_INT)] [(.int (16 : Int32)), (.int (5 : Int32))]) _
    refine XS.icmpNo X23.here hx rfl (hb hby d1_11) rfl (tlt (by decide : (5 : Int32) < (16 : Int32))).2.1 ?_
    show own_S p e below T23 (mkF m 14 #[.val (.ref a), .val (.ref b_1), .val (.int (16 : Int32)), .val (.int (5 : Int32)), .val (.ref s_INT)] []) _
    refine XS.aloadN X23.here hx rfl (hb hby d1_14) rfl rfl ?_
    show own_S p e below T23 (mkF m 15 #[.val (.ref a), .val (.ref b_1), .val (.int (16 : Int32)), .val (.int (5 : Int32)), .val (.ref s_INT)] [(.ref b_1)]) _
    refine XS.iloadN X23.here hx rfl (hb hby d1_15) rfl ?_
    exact kt
  obtain ⟨cl24, Ar24, q24, S24, M24, H24, G24⟩ := id p1_2
  have hin24 : ¬ ((5 : Int32) < 0 ∨ cl24.slots.size ≤ ((5 : Int32)).toNatClampNeg) := inb_of S24 ⟨by decide, by decide⟩
  have hat24 : cl24.slots[((5 : Int32)).toNatClampNeg]? = some (.ref s_LONG) := Has.at H24 hin24 rfl
  have r26 : own_R p e below _ _ T23 (mkF m 21 #[.val (.ref a), .val (.ref b_1), .val (.int (16 : Int32)), .val (.int (5 : Int32)), .val (.ref s_LONG)] [(.ref s_LONG)]) := r25.trans fun z_ kt => by
    show own_S p e below T23 (mkF m 16 #[.val (.ref a), .val (.ref b_1), .val (.int (16 : Int32)), .val (.int (5 : Int32)), .val (.ref s_INT)] [(.int (5 : Int32)), (.ref b_1)]) _
    refine X23.aaload hx (j := (5 : Int32)) (v := (.ref s_LONG)) (by rw [e23]; exact Ar24.1) (State.isArrayOf_alike hZ.alike Ar24.2.1) rfl Ar24.2.2 hin24 hat24 (g := (mkF m 16 #[.val (.ref a), .val (.ref b_1), .val (.int (16 : Int32)), .val (.int (5 : Int32)), .val (.ref s_INT)] [(.int (5 : Int32)), (.ref b_1)])) rfl rfl (hb hby d1_16) _ ?_
    show own_S p e below T23 (mkF m 17 #[.val (.ref a), .val (.ref b_1), .val (.int (16 : Int32)), .val (.int (5 : Int32)), .val (.ref s_INT)] [(.ref s_LONG)]) _
    refine XS.astore X23.here hx rfl (hb hby d1_17) rfl rfl (l' := #[.val (.ref a), .val (.ref b_1), .val (.int (16 : Int32)), .val (.int (5 : Int32)), .val (.ref s_LONG)]) rfl ?_
    show own_S p e below T23 (mkF m 19 #[.val (.ref a), .val (.ref b_1), .val (.int (16 : Int32)), .val (.int (5 : Int32)), .val (.ref s_LONG)] []) _
    refine XS.aload X23.here hx rfl (hb hby d1_19) rfl rfl ?_
    exact kt
  obtain ⟨T27, X27, e27, st27⟩ := getF X23 hx hZ hown (host := "") (Or.inl (hw _ (own_g (i := 55) rfl))) Via.refl e23 (OF_s_LONG_element.ext O1.2) (g := (mkF m 21 #[.val (.ref a), .val (.ref b_1), .val (.int (16 : Int32)), .val (.int (5 : Int32)), .val (.ref s_LONG)] [(.ref s_LONG)])) rfl rfl (hb hby d1_21)
  have r27 : own_R p e below _ _ T27 (mkF m 24 #[.val (.ref a), .val (.ref b_1), .val (.int (16 : Int32)), .val (.int (5 : Int32)), .val (.ref s_LONG)] [.null]) := r26.trans fun z_ kt => st27 _ kt
  have r29 : own_R p e below _ _ T27 (mkF m 16 #[.val (.ref a), .val (.ref b_1), .val (.int (16 : Int32)), .val (.int (6 : Int32)), .val (.ref s_LONG)] [(.int (6 : Int32)), (.ref b_1)]) := r27.trans fun z_ kt => by
    show own_S p e below T27 (mkF m 24 #[.val (.ref a), .val (.ref b_1), .val (.int (16 : Int32)), .val (.int (5 : Int32)), .val (.ref s_LONG)] [.null]) _
    refine XS.aloadN X27.here hx rfl (hb hby d1_24) rfl rfl ?_
    show own_S p e below T27 (mkF m 25 #[.val (.ref a), .val (.ref b_1), .val (.int (16 : Int32)), .val (.int (5 : Int32)), .val (.ref s_LONG)] [(.ref a), .null]) _
    refine Jvm.RoadKit.acmp (g := (mkF m 25 #[.val (.ref a), .val (.ref b_1), .val (.int (16 : Int32)), .val (.int (5 : Int32)), .val (.ref s_LONG)] [(.ref a), .null])) X27 hx rfl rfl rfl (pc0 := 25) (pc' := 31) (same := false) rfl (hb hby d1_25) rfl (decide_eq_false nofun) (by decide) (by decide) ?_
    show own_S p e below T27 (mkF m 31 #[.val (.ref a), .val (.ref b_1), .val (.int (16 : Int32)), .val (.int (5 : Int32)), .val (.ref s_LONG)] []) _
    refine XS.iinc X27.here hx rfl (hb hby d1_31) rfl (l' := #[.val (.ref a), .val (.ref b_1), .val (.int (16 : Int32)), .val (.int (6 : Int32)), .val (.ref s_LONG)]) rfl ?_
    show own_S p e below T27 (mkF m 34 #[.val (.ref a), .val (.ref b_1), .val (.int (16 : Int32)), .val (.int (6 : Int32)), .val (.ref s_LONG)] []) _
    refine XS.goto X27.here hx rfl (pc0 := 34) (pc' := 9) rfl (hb hby d1_34) (by decide) (by decide) ?_
    show own_S p e below T27 (mkF m 9 #[.val (.ref a), .val (.ref b_1), .val (.int (16 : Int32)), .val (.int (6 : Int32)), .val (.ref s_LONG)] []) _
    refine XS.iloadN X27.here hx rfl (hb hby d1_9) rfl ?_
    show own_S p e below T27 (mkF m 10 #[.val (.ref a), .val (.ref b_1), .val (.int (16 : Int32)), .val (.int (6 : Int32)), .val (.ref s_LONG)] [(.int (6 : Int32))]) _
    refine XS.iloadN X27.here hx rfl (hb hby d1_10) rfl ?_
    show own_S p e below T27 (mkF m 11 #[.val (.ref a), .val (.ref b_1), .val (.int (16 : Int32)), .val (.int (6 : Int32)), .val (.ref s_LONG)] [(.int (16 : Int32)), (.int (6 : Int32))]) _
    refine XS.icmpNo X27.here hx rfl (hb hby d1_11) rfl (tlt (by decide : (6 : Int32) < (16 : Int32))).2.1 ?_
    show own_S p e below T27 (mkF m 14 #[.val (.ref a), .val (.ref b_1), .val (.int (16 : Int32)), .val (.int (6 : Int32)), .val (.ref s_LONG)] []) _
    refine XS.aloadN X27.here hx rfl (hb hby d1_14) rfl rfl ?_
    show own_S p e below T27 (mkF m 15 #[.val (.ref a), .val (.ref b_1), .val (.int (16 : Int32)), .val (.int (6 : Int32)), .val (.ref s_LONG)] [(.ref b_1)]) _
    refine XS.iloadN X27.here hx rfl (hb hby d1_15) rfl ?_
    exact kt
  obtain ⟨cl28, Ar28, q28, S28, M28, H28, G28⟩ := id p1_2
  have hin28 : ¬ ((6 : Int32) < 0 ∨ cl28.slots.size ≤ ((6 : Int32)).toNatClampNeg) := inb_of S28 ⟨by decide, by decide⟩
  have hat28 : cl28.slots[((6 : Int32)).toNatClampNeg]? = some (.ref s_FLOAT) := Has.at H28 hin28 rfl
  have r30 : own_R p e below _ _ T27 (mkF m 21 #[.val (.ref a), .val (.ref b_1), .val (.int (16 : Int32)), .val (.int (6 : Int32)), .val (.ref s_FLOAT)] [(.ref s_FLOAT)]) := r29.trans fun z_ kt => by
    show own_S p e below T27 (mkF m 16 #[.val (.ref a), .val (.ref b_1), .val (.int (16 : Int32)), .val (.int (6 : Int32)), .val (.ref s_LONG)] [(.int (6 : Int32)), (.ref b_1)]) _
    refine X27.aaload hx (j := (6 : Int32)) (v := (.ref s_FLOAT)) (by rw [e27]; exact Ar28.1) (State.isArrayOf_alike hZ.alike Ar28.2.1) rfl Ar28.2.2 hin28 hat28 (g := (mkF m 16 #[.val (.ref a), .val (.ref b_1), .val (.int (16 : Int32)), .val (.int (6 : Int32)), .val (.ref s_LONG)] [(.int (6 : Int32)), (.ref b_1)])) rfl rfl (hb hby d1_16) _ ?_
    show own_S p e below T27 (mkF m 17 #[.val (.ref a), .val (.ref b_1), .val (.int (16 : Int32)), .val (.int (6 : Int32)), .val (.ref s_LONG)] [(.ref s_FLOAT)]) _
    refine XS.astore X27.here hx rfl (hb hby d1_17) rfl rfl (l' := #[.val (.ref a), .val (.ref b_1), .val (.int (16 : Int32)), .val (.int (6 : Int32)), .val (.ref s_FLOAT)]) rfl ?_
    show own_S p e below T27 (mkF m 19 #[.val (.ref a), .val (.ref b_1), .val (.int (16 : Int32)), .val (.int (6 : Int32)), .val (.ref s_FLOAT)] []) _
    refine XS.aload X27.here hx rfl (hb hby d1_19) rfl rfl ?_
    exact kt
  obtain ⟨T31, X31, e31, st31⟩ := getF X27 hx hZ hown (host := "") (Or.inl (hw _ (own_g (i := 55) rfl))) Via.refl e27 (OF_s_FLOAT_element.ext O1.2) (g := (mkF m 21 #[.val (.ref a), .val (.ref b_1), .val (.int (16 : Int32)), .val (.int (6 : Int32)), .val (.ref s_FLOAT)] [(.ref s_FLOAT)])) rfl rfl (hb hby d1_21)
  have r31 : own_R p e below _ _ T31 (mkF m 24 #[.val (.ref a), .val (.ref b_1), .val (.int (16 : Int32)), .val (.int (6 : Int32)), .val (.ref s_FLOAT)] [.null]) := r30.trans fun z_ kt => st31 _ kt
  have r33 : own_R p e below _ _ T31 (mkF m 16 #[.val (.ref a), .val (.ref b_1), .val (.int (16 : Int32)), .val (.int (7 : Int32)), .val (.ref s_FLOAT)] [(.int (7 : Int32)), (.ref b_1)]) := r31.trans fun z_ kt => by
    show own_S p e below T31 (mkF m 24 #[.val (.ref a), .val (.ref b_1), .val (.int (16 : Int32)), .val (.int (6 : Int32)), .val (.ref s_FLOAT)] [.null]) _
    refine XS.aloadN X31.here hx rfl (hb hby d1_24) rfl rfl ?_
    show own_S p e below T31 (mkF m 25 #[.val (.ref a), .val (.ref b_1), .val (.int (16 : Int32)), .val (.int (6 : Int32)), .val (.ref s_FLOAT)] [(.ref a), .null]) _
    refine Jvm.RoadKit.acmp (g := (mkF m 25 #[.val (.ref a), .val (.ref b_1), .val (.int (16 : Int32)), .val (.int (6 : Int32)), .val (.ref s_FLOAT)] [(.ref a), .null])) X31 hx rfl rfl rfl (pc0 := 25) (pc' := 31) (same := false) rfl (hb hby d1_25) rfl (decide_eq_false nofun) (by decide) (by decide) ?_
    show own_S p e below T31 (mkF m 31 #[.val (.ref a), .val (.ref b_1), .val (.int (16 : Int32)), .val (.int (6 : Int32)), .val (.ref s_FLOAT)] []) _
    refine XS.iinc X31.here hx rfl (hb hby d1_31) rfl (l' := #[.val (.ref a), .val (.ref b_1), .val (.int (16 : Int32)), .val (.int (7 : Int32)), .val (.ref s_FLOAT)]) rfl ?_
    show own_S p e below T31 (mkF m 34 #[.val (.ref a), .val (.ref b_1), .val (.int (16 : Int32)), .val (.int (7 : Int32)), .val (.ref s_FLOAT)] []) _
    refine XS.goto X31.here hx rfl (pc0 := 34) (pc' := 9) rfl (hb hby d1_34) (by decide) (by decide) ?_
    show own_S p e below T31 (mkF m 9 #[.val (.ref a), .val (.ref b_1), .val (.int (16 : Int32)), .val (.int (7 : Int32)), .val (.ref s_FLOAT)] []) _
    refine XS.iloadN X31.here hx rfl (hb hby d1_9) rfl ?_
    show own_S p e below T31 (mkF m 10 #[.val (.ref a), .val (.ref b_1), .val (.int (16 : Int32)), .val (.int (7 : Int32)), .val (.ref s_FLOAT)] [(.int (7 : Int32))]) _
    refine XS.iloadN X31.here hx rfl (hb hby d1_10) rfl ?_
    show own_S p e below T31 (mkF m 11 #[.val (.ref a), .val (.ref b_1), .val (.int (16 : Int32)), .val (.int (7 : Int32)), .val (.ref s_FLOAT)] [(.int (16 : Int32)), (.int (7 : Int32))]) _
    refine XS.icmpNo X31.here hx rfl (hb hby d1_11) rfl (tlt (by decide : (7 : Int32) < (16 : Int32))).2.1 ?_
    show own_S p e below T31 (mkF m 14 #[.val (.ref a), .val (.ref b_1), .val (.int (16 : Int32)), .val (.int (7 : Int32)), .val (.ref s_FLOAT)] []) _
    refine XS.aloadN X31.here hx rfl (hb hby d1_14) rfl rfl ?_
    show own_S p e below T31 (mkF m 15 #[.val (.ref a), .val (.ref b_1), .val (.int (16 : Int32)), .val (.int (7 : Int32)), .val (.ref s_FLOAT)] [(.ref b_1)]) _
    refine XS.iloadN X31.here hx rfl (hb hby d1_15) rfl ?_
    exact kt
  obtain ⟨cl32, Ar32, q32, S32, M32, H32, G32⟩ := id p1_2
  have hin32 : ¬ ((7 : Int32) < 0 ∨ cl32.slots.size ≤ ((7 : Int32)).toNatClampNeg) := inb_of S32 ⟨by decide, by decide⟩
  have hat32 : cl32.slots[((7 : Int32)).toNatClampNeg]? = some (.ref s_DOUBLE) := Has.at H32 hin32 rfl
  have r34 : own_R p e below _ _ T31 (mkF m 21 #[.val (.ref a), .val (.ref b_1), .val (.int (16 : Int32)), .val (.int (7 : Int32)), .val (.ref s_DOUBLE)] [(.ref s_DOUBLE)]) := r33.trans fun z_ kt => by
    show own_S p e below T31 (mkF m 16 #[.val (.ref a), .val (.ref b_1), .val (.int (16 : Int32)), .val (.int (7 : Int32)), .val (.ref s_FLOAT)] [(.int (7 : Int32)), (.ref b_1)]) _
    refine X31.aaload hx (j := (7 : Int32)) (v := (.ref s_DOUBLE)) (by rw [e31]; exact Ar32.1) (State.isArrayOf_alike hZ.alike Ar32.2.1) rfl Ar32.2.2 hin32 hat32 (g := (mkF m 16 #[.val (.ref a), .val (.ref b_1), .val (.int (16 : Int32)), .val (.int (7 : Int32)), .val (.ref s_FLOAT)] [(.int (7 : Int32)), (.ref b_1)])) rfl rfl (hb hby d1_16) _ ?_
    show own_S p e below T31 (mkF m 17 #[.val (.ref a), .val (.ref b_1), .val (.int (16 : Int32)), .val (.int (7 : Int32)), .val (.ref s_FLOAT)] [(.ref s_DOUBLE)]) _
    refine XS.astore X31.here hx rfl (hb hby d1_17) rfl rfl (l' := #[.val (.ref a), .val (.ref b_1), .val (.int (16 : Int32)), .val (.int (7 : Int32)), .val (.ref s_DOUBLE)]) rfl ?_
    show own_S p e below T31 (mkF m 19 #[.val (.ref a), .val (.ref b_1), .val (.int (16 : Int32)), .val (.int (7 : Int32)), .val (.ref s_DOUBLE)] []) _
    refine XS.aload X31.here hx rfl (hb hby d1_19) rfl rfl ?_
    exact kt
  obtain ⟨T35, X35, e35, st35⟩ := getF X31 hx hZ hown (host := "") (Or.inl (hw _ (own_g (i := 55) rfl))) Via.refl e31 (OF_s_DOUBLE_element.ext O1.2) (g := (mkF m 21 #[.val (.ref a), .val (.ref b_1), .val (.int (16 : Int32)), .val (.int (7 : Int32)), .val (.ref s_DOUBLE)] [(.ref s_DOUBLE)])) rfl rfl (hb hby d1_21)
  have r35 : own_R p e below _ _ T35 (mkF m 24 #[.val (.ref a), .val (.ref b_1), .val (.int (16 : Int32)), .val (.int (7 : Int32)), .val (.ref s_DOUBLE)] [.null]) := r34.trans fun z_ kt => st35 _ kt
  have r37 : own_R p e below _ _ T35 (mkF m 16 #[.val (.ref a), .val (.ref b_1), .val (.int (16 : Int32)), .val (.int (8 : Int32)), .val (.ref s_DOUBLE)] [(.int (8 : Int32)), (.ref b_1)]) := r35.trans fun z_ kt => by
    show own_S p e below T35 (mkF m 24 #[.val (.ref a), .val (.ref b_1), .val (.int (16 : Int32)), .val (.int (7 : Int32)), .val (.ref s_DOUBLE)] [.null]) _
    refine XS.aloadN X35.here hx rfl (hb hby d1_24) rfl rfl ?_
    show own_S p e below T35 (mkF m 25 #[.val (.ref a), .val (.ref b_1), .val (.int (16 : Int32)), .val (.int (7 : Int32)), .val (.ref s_DOUBLE)] [(.ref a), .null]) _
    refine Jvm.RoadKit.acmp (g := (mkF m 25 #[.val (.ref a), .val (.ref b_1), .val (.int (16 : Int32)), .val (.int (7 : Int32)), .val (.ref s_DOUBLE)] [(.ref a), .null])) X35 hx rfl rfl rfl (pc0 := 25) (pc' := 31) (same := false) rfl (hb hby d1_25) rfl (decide_eq_false nofun) (by decide) (by decide) ?_
    show own_S p e below T35 (mkF m 31 #[.val (.ref a), .val (.ref b_1), .val (.int (16 : Int32)), .val (.int (7 : Int32)), .val (.ref s_DOUBLE)] []) _
    refine XS.iinc X35.here hx rfl (hb hby d1_31) rfl (l' := #[.val (.ref a), .val (.ref b_1), .val (.int (16 : Int32)), .val (.int (8 : Int32)), .val (.ref s_DOUBLE)]) rfl ?_
    show own_S p e below T35 (mkF m 34 #[.val (.ref a), .val (.ref b_1), .val (.int (16 : Int32)), .val (.int (8 : Int32)), .val (.ref s_DOUBLE)] []) _
    refine XS.goto X35.here hx rfl (pc0 := 34) (pc' := 9) rfl (hb hby d1_34) (by decide) (by decide) ?_
    show own_S p e below T35 (mkF m 9 #[.val (.ref a), .val (.ref b_1), .val (.int (16 : Int32)), .val (.int (8 : Int32)), .val (.ref s_DOUBLE)] []) _
    refine XS.iloadN X35.here hx rfl (hb hby d1_9) rfl ?_
    show own_S p e below T35 (mkF m 10 #[.val (.ref a), .val (.ref b_1), .val (.int (16 : Int32)), .val (.int (8 : Int32)), .val (.ref s_DOUBLE)] [(.int (8 : Int32))]) _
    refine XS.iloadN X35.here hx rfl (hb hby d1_10) rfl ?_
    show own_S p e below T35 (mkF m 11 #[.val (.ref a), .val (.ref b_1), .val (.int (16 : Int32)), .val (.int (8 : Int32)), .val (.ref s_DOUBLE)] [(.int (16 : Int32)), (.int (8 : Int32))]) _
    refine XS.icmpNo X35.here hx rfl (hb hby d1_11) rfl (tlt (by decide : (8 : Int32) < (16 : Int32))).2.1 ?_
    show own_S p e below T35 (mkF m 14 #[.val (.ref a), .val (.ref b_1), .val (.int (16 : Int32)), .val (.int (8 : Int32)), .val (.ref s_DOUBLE)] []) _
    refine XS.aloadN X35.here hx rfl (hb hby d1_14) rfl rfl ?_
    show own_S p e below T35 (mkF m 15 #[.val (.ref a), .val (.ref b_1), .val (.int (16 : Int32)), .val (.int (8 : Int32)), .val (.ref s_DOUBLE)] [(.ref b_1)]) _
    refine XS.iloadN X35.here hx rfl (hb hby d1_15) rfl ?_
    exact kt
  obtain ⟨cl36, Ar36, q36, S36, M36, H36, G36⟩ := id p1_2
  have hin36 : ¬ ((8 : Int32) < 0 ∨ cl36.slots.size ≤ ((8 : Int32)).toNatClampNeg) := inb_of S36 ⟨by decide, by decide⟩
  have hat36 : cl36.slots[((8 : Int32)).toNatClampNeg]? = some (.ref s_STRING) := Has.at H36 hin36 rfl
  have r38 : own_R p e below _ _ T35 (mkF m 21 #[.val (.ref a), .val (.ref b_1), .val (.int (16 : Int32)), .val (.int (8 : Int32)), .val (.ref s_STRING)] [(.ref s_STRING)]) := r37.trans fun z_ kt => by
    show own_S p e below T35 (mkF m 16 #[.val (.ref a), .val (.ref b_1), .val (.int (16 : Int32)), .val (.int (8 : Int32)), .val (.ref s_DOUBLE)] [(.int (8 : Int32)), (.ref b_1)]) _
    refine X35.aaload hx (j := (8 : Int32)) (v := (.ref s_STRING)) (by rw [e35]; exact Ar36.1) (State.isArrayOf_alike hZ.alike Ar36.2.1) rfl Ar36.2.2 hin36 hat36 (g := (mkF m 16 #[.val (.ref a), .val (.ref b_1), .val (.int (16 : Int32)), .val (.int (8 : Int32)), .val (.ref s_DOUBLE)] [(.int (8 : Int32)), (.ref b_1)])) rfl rfl (hb hby d1_16) _ ?_
    show own_S p e below T35 (mkF m 17 #[.val (.ref a), .val (.ref b_1), .val (.int (16 : Int32)), .val (.int (8 : Int32)), .val (.ref s_DOUBLE)] [(.ref s_STRING)]) _
    refine XS.astore X35.here hx rfl (hb hby d1_17) rfl rfl (l' := #[.val (.ref a), .val (.ref b_1), .val (.int (16 : Int32)), .val (.int (8 : Int32)), .val (.ref s_STRING)]) rfl ?_
    show own_S p e below T35 (mkF m 19 #[.val (.ref a), .val (.ref b_1), .val (.int (16 : Int32)), .val (.int (8 : Int32)), .val (.ref s_STRING)] []) _
    refine XS.aload X35.here hx rfl (hb hby d1_19) rfl rfl ?_
    exact kt
  obtain ⟨T39, X39, e39, st39⟩ := getF X35 hx hZ hown (host := "") (Or.inl (hw _ (own_g (i := 55) rfl))) Via.refl e35 (OF_s_STRING_element.ext O1.2) (g := (mkF m 21 #[.val (.ref a), .val (.ref b_1), .val (.int (16 : Int32)), .val (.int (8 : Int32)), .val (.ref s_STRING)] [(.ref s_STRING)])) rfl rfl (hb hby d1_21)
  have r39 : own_R p e below _ _ T39 (mkF m 24 #[.val (.ref a), .val (.ref b_1), .val (.int (16 : Int32)), .val (.int (8 : Int32)), .val (.ref s_STRING)] [.null]) := r38.trans fun z_ kt => st39 _ kt
  have r41 : own_R p e below _ _ T39 (mkF m 16 #[.val (.ref a), .val (.ref b_1), .val (.int (16 : Int32)), .val (.int (9 : Int32)), .val (.ref s_STRING)] [(.int (9 : Int32)), (.ref b_1)]) := r39.trans fun z_ kt => by
    show own_S p e below T39 (mkF m 24 #[.val (.ref a), .val (.ref b_1), .val (.int (16 : Int32)), .val (.int (8 : Int32)), .val (.ref s_STRING)] [.null]) _
    refine XS.aloadN X39.here hx rfl (hb hby d1_24) rfl rfl ?_
    show own_S p e below T39 (mkF m 25 #[.val (.ref a), .val (.ref b_1), .val (.int (16 : Int32)), .val (.int (8 : Int32)), .val (.ref s_STRING)] [(.ref a), .null]) _
    refine Jvm.RoadKit.acmp (g := (mkF m 25 #[.val (.ref a), .val (.ref b_1), .val (.int (16 : Int32)), .val (.int (8 : Int32)), .val (.ref s_STRING)] [(.ref a), .null])) X39 hx rfl rfl rfl (pc0 := 25) (pc' := 31) (same := false) rfl (hb hby d1_25) rfl (decide_eq_false nofun) (by decide) (by decide) ?_
    show own_S p e below T39 (mkF m 31 #[.val (.ref a), .val (.ref b_1), .val (.int (16 : Int32)), .val (.int (8 : Int32)), .val (.ref s_STRING)] []) _
    refine XS.iinc X39.here hx rfl (hb hby d1_31) rfl (l' := #[.val (.ref a), .val (.ref b_1), .val (.int (16 : Int32)), .val (.int (9 : Int32)), .val (.ref s_STRING)]) rfl ?_
    show own_S p e below T39 (mkF m 34 #[.val (.ref a), .val (.ref b_1), .val (.int (16 : Int32)), .val (.int (9 : Int32)), .val (.ref s_STRING)] []) _
    refine XS.goto X39.here hx rfl (pc0 := 34) (pc' := 9) rfl (hb hby d1_34) (by decide) (by decide) ?_
    show own_S p e below T39 (mkF m 9 #[.val (.ref a), .val (.ref b_1), .val (.int (16 : Int32)), .val (.int (9 : Int32)), .val (.ref s_STRING)] []) _
    refine XS.iloadN X39.here hx rfl (hb hby d1_9) rfl ?_
    show own_S p e below T39 (mkF m 10 #[.val (.ref a), .val (.ref b_1), .val (.int (16 : Int32)), .val (.int (9 : Int32)), .val (.ref s_STRING)] [(.int (9 : Int32))]) _
    refine XS.iloadN X39.here hx rfl (hb hby d1_10) rfl ?_
    show own_S p e below T39 (mkF m 11 #[.val (.ref a), .val (.ref b_1), .val (.int (16 : Int32)), .val (.int (9 : Int32)), .val (.ref s_STRING)] [(.int (16 : Int32)), (.int (9 : Int32))]) _
    refine XS.icmpNo X39.here hx rfl (hb hby d1_11) rfl (tlt (by decide : (9 : Int32) < (16 : Int32))).2.1 ?_
    show own_S p e below T39 (mkF m 14 #[.val (.ref a), .val (.ref b_1), .val (.int (16 : Int32)), .val (.int (9 : Int32)), .val (.ref s_STRING)] []) _
    refine XS.aloadN X39.here hx rfl (hb hby d1_14) rfl rfl ?_
    show own_S p e below T39 (mkF m 15 #[.val (.ref a), .val (.ref b_1), .val (.int (16 : Int32)), .val (.int (9 : Int32)), .val (.ref s_STRING)] [(.ref b_1)]) _
    refine XS.iloadN X39.here hx rfl (hb hby d1_15) rfl ?_
    exact kt
  obtain ⟨cl40, Ar40, q40, S40, M40, H40, G40⟩ := id p1_2
  have hin40 : ¬ ((9 : Int32) < 0 ∨ cl40.slots.size ≤ ((9 : Int32)).toNatClampNeg) := inb_of S40 ⟨by decide, by decide⟩
  have hat40 : cl40.slots[((9 : Int32)).toNatClampNeg]? = some (.ref s_BOOLEAN_ARRAY) := Has.at H40 hin40 rfl
  have r42 : own_R p e below _ _ T39 (mkF m 21 #[.val (.ref a), .val (.ref b_1), .val (.int (16 : Int32)), .val (.int (9 : Int32)), .val (.ref s_BOOLEAN_ARRAY)] [(.ref s_BOOLEAN_ARRAY)]) := r41.trans fun z_ kt => by
    show own_S p e below T39 (mkF m 16 #[.val (.ref a), .val (.ref b_1), .val (.int (16 : Int32)), .val (.int (9 : Int32)), .val (.ref s_STRING)] [(.int (9 : Int32)), (.ref b_1)]) _
    refine X39.aaload hx (j := (9 : Int32)) (v := (.ref s_BOOLEAN_ARRAY)) (by rw [e39]; exact Ar40.1) (State.isArrayOf_alike hZ.alike Ar40.2.1) rfl Ar40.2.2 hin40 hat40 (g := (mkF m 16 #[.val (.ref a), .val (.ref b_1), .val (.int (16 : Int32)), .val (.int (9 : Int32)), .val (.ref s_STRING)] [(.int (9 : Int32)), (.ref b_1)])) rfl rfl (hb hby d1_16) _ ?_
    show own_S p e below T39 (mkF m 17 #[.val (.ref a), .val (.ref b_1), .val (.int (16 : Int32)), .val (.int (9 : Int32)), .val (.ref s_STRING)] [(.ref s_BOOLEAN_ARRAY)]) _
    refine XS.astore X39.here hx rfl (hb hby d1_17) rfl rfl (l' := #[.val (.ref a), .val (.ref b_1), .val (.int (16 : Int32)), .val (.int (9 : Int32)), .val (.ref s_BOOLEAN_ARRAY)]) rfl ?_
    show own_S p e below T39 (mkF m 19 #[.val (.ref a), .val (.ref b_1), .val (.int (16 : Int32)), .val (.int (9 : Int32)), .val (.ref s_BOOLEAN_ARRAY)] []) _
    refine XS.aload X39.here hx rfl (hb hby d1_19) rfl rfl ?_
    exact kt
  obtain ⟨T43, X43, e43, st43⟩ := getF X39 hx hZ hown (host := "") (Or.inl (hw _ (own_g (i := 55) rfl))) Via.refl e39 (OF_s_BOOLEAN_ARRAY_element.ext O1.2) (g := (mkF m 21 #[.val (.ref a), .val (.ref b_1), .val (.int (16 : Int32)), .val (.int (9 : Int32)), .val (.ref s_BOOLEAN_ARRAY)] [(.ref s_BOOLEAN_ARRAY)])) rfl rfl (hb hby d1_21)
  have r43 : own_R p e below _ _ T43 (mkF m 24 #[.val (.ref a), .val (.ref b_1), .val (.int (16 : Int32)), .val (.int (9 : Int32)), .val (.ref s_BOOLEAN_ARRAY)] [(.ref s_BOOLEAN)]) := r42.trans fun z_ kt => st43 _ kt
  have r44 : own_R p e below _ _ T43 (mkF m 25 #[.val (.ref a), .val (.ref b_1), .val (.int (16 : Int32)), .val (.int (9 : Int32)), .val (.ref s_BOOLEAN_ARRAY)] [(.ref a), (.ref s_BOOLEAN)]) := r43.trans fun z_ kt => by
    show own_S p e below T43 (mkF m 24 #[.val (.ref a), .val (.ref b_1), .val (.int (16 : Int32)), .val (.int (9 : Int32)), .val (.ref s_BOOLEAN_ARRAY)] [(.ref s_BOOLEAN)]) _
    refine XS.aloadN X43.here hx rfl (hb hby d1_24) rfl rfl ?_
    exact kt
  by_cases ha25_45 : s_BOOLEAN = a
  · skip
    have r46 : own_R p e below _ _ T43 (mkF m 30 #[.val (.ref a), .val (.ref b_1), .val (.int (16 : Int32)), .val (.int (9 : Int32)), .val (.ref s_BOOLEAN_ARRAY)] [(.ref s_BOOLEAN_ARRAY)]) := r44.trans fun z_ kt => by
      show own_S p e below T43 (mkF m 25 #[.val (.ref a), .val (.ref b_1), .val (.int (16 : Int32)), .val (.int (9 : Int32)), .val (.ref s_BOOLEAN_ARRAY)] [(.ref a), (.ref s_BOOLEAN)]) _
      refine Jvm.RoadKit.acmp (g := (mkF m 25 #[.val (.ref a), .val (.ref b_1), .val (.int (16 : Int32)), .val (.int (9 : Int32)), .val (.ref s_BOOLEAN_ARRAY)] [(.ref a), (.ref s_BOOLEAN)])) X43 hx rfl rfl rfl (pc0 := 25) (pc' := 28) (same := true) rfl (hb hby d1_25) rfl (decide_eq_true (congrArg Value.ref ha25_45)) (by decide) (by decide) ?_
      show own_S p e below T43 (mkF m 28 #[.val (.ref a), .val (.ref b_1), .val (.int (16 : Int32)), .val (.int (9 : Int32)), .val (.ref s_BOOLEAN_ARRAY)] []) _
      refine XS.aload X43.here hx rfl (hb hby d1_28) rfl rfl ?_
      exact kt
    obtain ⟨fs, hr, hrun, hended, hW, hsame⟩ := X43.leave (v := some (.ref s_BOOLEAN_ARRAY)) (fun h => by rw [Bd.returns] at h; cases h)
    refine ⟨_, _, pre0 _ (r46 _ ?_), hrun, hended, _, _, rfl, ?_, ⟨_, rfl⟩, hW, hsame.mono (by decide) (by decide)⟩
    · exact retOut X43 hx Bd.returns rfl (Or.inr (Or.inr (Or.inr (Or.inr ⟨rfl, rfl, rfl⟩)))) (hb hby d1_30) hr
    · show Q_array Z a w vv kk s_VOID s_BOOLEAN s_BYTE s_SHORT s_INT s_LONG s_FLOAT s_DOUBLE s_STRING s_BOOLEAN_ARRAY s_BYTE_ARRAY s_SHORT_ARRAY s_INT_ARRAY s_LONG_ARRAY s_FLOAT_ARRAY s_DOUBLE_ARRAY h0 n0 _ T43.heap _
      rw [e43]
      exact ⟨by rw [hsel.1 ha25_45], N1, K1⟩
  · skip
    have r48 : own_R p e below _ _ T43 (mkF m 16 #[.val (.ref a), .val (.ref b_1), .val (.int (16 : Int32)), .val (.int (10 : Int32)), .val (.ref s_BOOLEAN_ARRAY)] [(.int (10 : Int32)), (.ref b_1)]) := r44.trans fun z_ kt => by
      show own_S p e below T43 (mkF m 25 #[.val (.ref a), .val (.ref b_1), .val (.int (16 : Int32)), .val (.int (9 : Int32)), .val (.ref s_BOOLEAN_ARRAY)] [(.ref a), (.ref s_BOOLEAN)]) _
      refine Jvm.RoadKit.acmp (g := (mkF m 25 #[.val (.ref a), .val (.ref b_1), .val (.int (16 : Int32)), .val (.int (9 : Int32)), .val (.ref s_BOOLEAN_ARRAY)] [(.ref a), (.ref s_BOOLEAN)])) X43 hx rfl rfl rfl (pc0 := 25) (pc' := 31) (same := false) rfl (hb hby d1_25) rfl (decide_eq_false fun q => ha25_45 (Value.ref.inj q)) (by decide) (by decide) ?_
      show own_S p e below T43 (mkF m 31 #[.val (.ref a), .val (.ref b_1), .val (.int (16 : Int32)), .val (.int (9 : Int32)), .val (.ref s_BOOLEAN_ARRAY)] []) _
      refine XS.iinc X43.here hx rfl (hb hby d1_31) rfl (l' := #[.val (.ref a), .val (.ref b_1), .val (.int (16 : Int32)), .val (.int (10 : Int32)), .val (.ref s_BOOLEAN_ARRAY)]) rfl ?_
      show own_S p e below T43 (mkF m 34 #[.val (.ref a), .val (.ref b_1), .val (.int (16 : Int32)), .val (.int (10 : Int32)), .val (.ref s_BOOLEAN_ARRAY)] []) _
      refine XS.goto X43.here hx rfl (pc0 := 34) (pc' := 9) rfl (hb hby d1_34) (by decide) (by decide) ?_
      show own_S p e below T43 (mkF m 9 #[.val (.ref a), .val (.ref b_1), .val (.int (16 : Int32)), .val (.int (10 : Int32)), .val (.ref s_BOOLEAN_ARRAY)] []) _
      refine XS.iloadN X43.here hx rfl (hb hby d1_9) rfl ?_
      show own_S p e below T43 (mkF m 10 #[.val (.ref a), .val (.ref b_1), .val (.int (16 : Int32)), .val (.int (10 : Int32)), .val (.ref s_BOOLEAN_ARRAY)] [(.int (10 : Int32))]) _
      refine XS.iloadN X43.here hx rfl (hb hby d1_10) rfl ?_
      show own_S p e below T43 (mkF m 11 #[.val (.ref a), .val (.ref b_1), .val (.int (16 : Int32)), .val (.int (10 : Int32)), .val (.ref s_BOOLEAN_ARRAY)] [(.int (16 : Int32)), (.int (10 : Int32))]) _
      refine XS.icmpNo X43.here hx rfl (hb hby d1_11) rfl (tlt (by decide : (10 : Int32) < (16 : Int32))).2.1 ?_
      show own_S p e below T43 (mkF m 14 #[.val (.ref a), .val (.ref b_1), .val (.int (16 : Int32)), .val (.int (10 : Int32)), .val (.ref s_BOOLEAN_ARRAY)] []) _
      refine XS.aloadN X43.here hx rfl (hb hby d1_14) rfl rfl ?_
      show own_S p e below T43 (mkF m 15 #[.val (.ref a), .val (.ref b_1), .val (.int (16 : Int32)), .val (.int (10 : Int32)), .val (.ref s_BOOLEAN_ARRAY)] [(.ref b_1)]) _
      refine XS.iloadN X43.here hx rfl (hb hby d1_15) rfl ?_
      exact kt
    obtain ⟨cl47, Ar47, q47, S47, M47, H47, G47⟩ := id p1_2
    have hin47 : ¬ ((10 : Int32) < 0 ∨ cl47.slots.size ≤ ((10 : Int32)).toNatClampNeg) := inb_of S47 ⟨by decide, by decide⟩
    have hat47 : cl47.slots[((10 : Int32)).toNatClampNeg]? = some (.ref s_BYTE_ARRAY) := Has.at H47 hin47 rfl
    have r49 : own_R p e below _ _ T43 (mkF m 21 #[.val (.ref a), .val (.ref b_1), .val (.int (16 : Int32)), .val (.int (10 : Int32)), .val (.ref s_BYTE_ARRAY)] [(.ref s_BYTE_ARRAY)]) := r48.trans fun z_ kt => by
      show own_S p e below T43 (mkF m 16 #[.val (.ref a), .val (.ref b_1), .val (.int (16 : Int32)), .val (.int (10 : Int32)), .val (.ref s_BOOLEAN_ARRAY)] [(.int (10 : Int32)), (.ref b_1)]) _
      refine X43.aaload hx (j := (10 : Int32)) (v := (.ref s_BYTE_ARRAY)) (by rw [e43]; exact Ar47.1) (State.isArrayOf_alike hZ.alike Ar47.2.1) rfl Ar47.2.2 hin47 hat47 (g := (mkF m 16 #[.val (.ref a), .val (.ref b_1), .val (.int (16 : Int32)), .val (.int (10 : Int32)), .val (.ref s_BOOLEAN_ARRAY)] [(.int (10 : Int32)), (.ref b_1)])) rfl rfl (hb hby d1_16) _ ?_
      show own_S p e below T43 (mkF m 17 #[.val (.ref a), .val (.ref b_1), .val (.int (16 : Int32)), .val (.int (10 : Int32)), .val (.ref s_BOOLEAN_ARRAY)] [(.ref s_BYTE_ARRAY)]) _
      refine XS.astore X43.here hx rfl (hb hby d1_17) rfl rfl (l' := #[.val (.ref a), .val (.ref b_1), .val (.int (16 : Int32)), .val (.int (10 : Int32)), .val (.ref s_BYTE_ARRAY)]) rfl ?_
      show own_S p e below T43 (mkF m 19 #[.val (.ref a), .val (.ref b_1), .val (.int (16 : Int32)), .val (.int (10 : Int32)), .val (.ref s_BYTE_ARRAY)] []) _
      refine XS.aload X43.here hx rfl (hb hby d1_19) rfl rfl ?_
      exact kt
    obtain ⟨T50, X50, e50, st50⟩ := getF X43 hx hZ hown (host := "") (Or.inl (hw _ (own_g (i := 55) rfl))) Via.refl e43 (OF_s_BYTE_ARRAY_element.ext O1.2) (g := (mkF m 21 #[.val (.ref a), .val (.ref b_1), .val (.int (16 : Int32)), .val (.int (10 : Int32)), .val (.ref s_BYTE_ARRAY)] [(.ref s_BYTE_ARRAY)])) rfl rfl (hb hby d1_21)
    have r50 : own_R p e below _ _ T50 (mkF m 24 #[.val (.ref a), .val (.ref b_1), .val (.int (16 : Int32)), .val (.int (10 : Int32)), .val (.ref s_BYTE_ARRAY)] [(.ref s_BYTE)]) := r49.trans fun z_ kt => st50 _ kt
    have r51 : own_R p e below _ _ T50 (mkF m 25 #[.val (.ref a), .val (.ref b_1), .val (.int (16 : Int32)), .val (.int (10 : Int32)), .val (.ref s_BYTE_ARRAY)] [(.ref a), (.ref s_BYTE)]) := r50.trans fun z_ kt => by
      show own_S p e below T50 (mkF m 24 #[.val (.ref a), .val (.ref b_1), .val (.int (16 : Int32)), .val (.int (10 : Int32)), .val (.ref s_BYTE_ARRAY)] [(.ref s_BYTE)]) _
      refine XS.aloadN X50.here hx rfl (hb hby d1_24) rfl rfl ?_
      exact kt
    by_cases ha25_52 : s_BYTE = a
    · skip
      have r53 : own_R p e below _ _ T50 (mkF m 30 #[.val (.ref a), .val (.ref b_1), .val (.int (16 : Int32)), .val (.int (10 : Int32)), .val (.ref s_BYTE_ARRAY)] [(.ref s_BYTE_ARRAY)]) := r51.trans fun z_ kt => by
        show own_S p e below T50 (mkF m 25 #[.val (.ref a), .val (.ref b_1), .val (.int (16 : Int32)), .val (.int (10 : Int32)), .val (.ref s_BYTE_ARRAY)] [(.ref a), (.ref s_BYTE)]) _
        refine Jvm.RoadKit.acmp (g := (mkF m 25 #[.val (.ref a), .val (.ref b_1), .val (.int (16 : Int32)), .val (.int (10 : Int32)), .val (.ref s_BYTE_ARRAY)] [(.ref a), (.ref s_BYTE)])) X50 hx rfl rfl rfl (pc0 := 25) (pc' := 28) (same := true) rfl (hb hby d1_25) rfl (decide_eq_true (congrArg Value.ref ha25_52)) (by decide) (by decide) ?_
        show own_S p e below T50 (mkF m 28 #[.val (.ref a), .val (.ref b_1), .val (.int (16 : Int32)), .val (.int (10 : Int32)), .val (.ref s_BYTE_ARRAY)] []) _
        refine XS.aload X50.here hx rfl (hb hby d1_28) rfl rfl ?_
        exact kt
      obtain ⟨fs, hr, hrun, hended, hW, hsame⟩ := X50.leave (v := some (.ref s_BYTE_ARRAY)) (fun h => by rw [Bd.returns] at h; cases h)
      refine ⟨_, _, pre0 _ (r53 _ ?_), hrun, hended, _, _, rfl, ?_, ⟨_, rfl⟩, hW, hsame.mono (by decide) (by decide)⟩
      · exact retOut X50 hx Bd.returns rfl (Or.inr (Or.inr (Or.inr (Or.inr ⟨rfl, rfl, rfl⟩)))) (hb hby d1_30) hr
      · show Q_array Z a w vv kk s_VOID s_BOOLEAN s_BYTE s_SHORT s_INT s_LONG s_FLOAT s_DOUBLE s_STRING s_BOOLEAN_ARRAY s_BYTE_ARRAY s_SHORT_ARRAY s_INT_ARRAY s_LONG_ARRAY s_FLOAT_ARRAY s_DOUBLE_ARRAY h0 n0 _ T50.heap _
        rw [e50]
        exact ⟨by rw [hsel.2.1 ha25_52], N1, K1⟩
    · skip
      have r55 : own_R p e below _ _ T50 (mkF m 16 #[.val (.ref a), .val (.ref b_1), .val (.int (16 : Int32)), .val (.int (11 : Int32)), .val (.ref s_BYTE_ARRAY)] [(.int (11 : Int32)), (.ref b_1)]) := r51.trans fun z_ kt => by
        show own_S p e below T50 (mkF m 25 #[.val (.ref a), .val (.ref b_1), .val (.int (16 : Int32)), .val (.int (10 : Int32)), .val (.ref s_BYTE_ARRAY)] [(.ref a), (.ref s_BYTE)]) _
        refine Jvm.RoadKit.acmp (g := (mkF m 25 #[.val (.ref a), .val (.ref b_1), .val (.int (16 : Int32)), .val (.int (10 : Int32)), .val (.ref s_BYTE_ARRAY)] [(.ref a), (.ref s_BYTE)])) X50 hx rfl rfl rfl (pc0 := 25) (pc' := 31) (same := false) rfl (hb hby d1_25) rfl (decide_eq_false fun q => ha25_52 (Value.ref.inj q)) (by decide) (by decide) ?_
        show own_S p e below T50 (mkF m 31 #[.val (.ref a), .val (.ref b_1), .val (.int (16 : Int32)), .val (.int (10 : Int32)), .val (.ref s_BYTE_ARRAY)] []) _
        refine XS.iinc X50.here hx rfl (hb hby d1_31) rfl (l' := #[.val (.ref a), .val (.ref b_1), .val (.int (16 : Int32)), .val (.int (11 : Int32)), .val (.ref s_BYTE_ARRAY)]) rfl ?_
        show own_S p e below T50 (mkF m 34 #[.val (.ref a), .val (.ref b_1), .val (.int (16 : Int32)), .val (.int (11 : Int32)), .val (.ref s_BYTE_ARRAY)] []) _
        refine XS.goto X50.here hx rfl (pc0 := 34) (pc' := 9) rfl (hb hby d1_34) (by decide) (by decide) ?_
        show own_S p e below T50 (mkF m 9 #[.val (.ref a), .val (.ref b_1), .val (.int (16 : Int32)), .val (.int (11 : Int32)), .val (.ref s_BYTE_ARRAY)] []) _
        refine XS.iloadN X50.here hx rfl (hb hby d1_9) rfl ?_
        show own_S p e below T50 (mkF m 10 #[.val (.ref a), .val (.ref b_1), .val (.int (16 : Int32)), .val (.int (11 : Int32)), .val (.ref s_BYTE_ARRAY)] [(.int (11 : Int32))]) _
        refine XS.iloadN X50.here hx rfl (hb hby d1_10) rfl ?_
        show own_S p e below T50 (mkF m 11 #[.val (.ref a), .val (.ref b_1), .val (.int (16 : Int32)), .val (.int (11 : Int32)), .val (.ref s_BYTE_ARRAY)] [(.int (16 : Int32)), (.int (11 : Int32))]) _
        refine XS.icmpNo X50.here hx rfl (hb hby d1_11) rfl (tlt (by decide : (11 : Int32) < (16 : Int32))).2.1 ?_
        show own_S p e below T50 (mkF m 14 #[.val (.ref a), .val (.ref b_1), .val (.int (16 : Int32)), .val (.int (11 : Int32)), .val (.ref s_BYTE_ARRAY)] []) _
        refine XS.aloadN X50.here hx rfl (hb hby d1_14) rfl rfl ?_
        show own_S p e below T50 (mkF m 15 #[.val (.ref a), .val (.ref b_1), .val (.int (16 : Int32)), .val (.int (11 : Int32)), .val (.ref s_BYTE_ARRAY)] [(.ref b_1)]) _
        refine XS.iloadN X50.here hx rfl (hb hby d1_15) rfl ?_
        exact kt
      obtain ⟨cl54, Ar54, q54, S54, M54, H54, G54⟩ := id p1_2
      have hin54 : ¬ ((11 : Int32) < 0 ∨ cl54.slots.size ≤ ((11 : Int32)).toNatClampNeg) := inb_of S54 ⟨by decide, by decide⟩
      have hat54 : cl54.slots[((11 : Int32)).toNatClampNeg]? = some (.ref s_SHORT_ARRAY) := Has.at H54 hin54 rfl
      have r56 : own_R p e below _ _ T50 (mkF m 21 #[.val (.ref a), .val (.ref b_1), .val (.int (16 : Int32)), .val (.int (11 : Int32)), .val (.ref s_SHORT_ARRAY)] [(.ref s_SHORT_ARRAY)]) := r55.trans fun z_ kt => by
        show own_S p e below T50 (mkF m 16 #[.val (.ref a), .val (.ref b_1), .val (.int (16 : Int32)), .val (.int (11 : Int32)), .val (.ref s_BYTE_ARRAY)] [(.int (11 : Int32)), (.ref b_1)]) _
        refine X50.aaload hx (j := (11 : Int32)) (v := (.ref s_SHORT_ARRAY)) (by rw [e50]; exact Ar54.1) (State.isArrayOf_alike hZ.alike Ar54.2.1) rfl Ar54.2.2 hin54 hat54 (g := (mkF m 16 #[.val (.ref a), .val (.ref b_1), .val (.int (16 : Int32)), .val (.int (11 : Int32)), .val (.ref s_BYTE_ARRAY)] [(.int (11 : Int32)), (.ref b_1)])) rfl rfl (hb hby d1_16) _ ?_
        show own_S p e below T50 (mkF m 17 #[.val (.ref a), .val (.ref b_1), .val (.int (16 : Int32)), .val (.int (11 : Int32)), .val (.ref s_BYTE_ARRAY)] [(.ref s_SHORT_ARRAY)]) _
        refine XS.astore X50.here hx rfl (hb hby d1_17) rfl rfl (l' := #[.val (.ref a), .val (.ref b_1), .val (.int (16 : Int32)), .val (.int (11 : Int32)), .val (.ref s_SHORT_ARRAY)]) rfl ?_
        show own_S p e below T50 (mkF m 19 #[.val (.ref a), .val (.ref b_1), .val (.int (16 : Int32)), .val (.int (11 : Int32)), .val (.ref s_SHORT_ARRAY)] []) _
        refine XS.aload X50.here hx rfl (hb hby d1_19) rfl rfl ?_
        exact kt
      obtain ⟨T57, X57, e57, st57⟩ := getF X50 hx hZ hown (host := "") (Or.inl (hw _ (own_g (i := 55) rfl))) Via.refl e50 (OF_s_SHORT_ARRAY_element.ext O1.2) (g := (mkF m 21 #[.val (.ref a), .val (.ref b_1), .val (.int (16 : Int32)), .val (.int (11 : Int32)), .val (.ref s_SHORT_ARRAY)] [(.ref s_SHORT_ARRAY)])) rfl rfl (hb hby d1_21)
      have r57 : own_R p e below _ _ T57 (mkF m 24 #[.val (.ref a), .val (.ref b_1), .val (.int (16 : Int32)), .val (.int (11 : Int32)), .val (.ref s_SHORT_ARRAY)] [(.ref s_SHORT)]) := r56.trans fun z_ kt => st57 _ kt
      have r58 : own_R p e below _ _ T57 (mkF m 25 #[.val (.ref a), .val (.ref b_1), .val (.int (16 : Int32)), .val (.int (11 : Int32)), .val (.ref s_SHORT_ARRAY)] [(.ref a), (.ref s_SHORT)]) := r57.trans fun z_ kt => by
        show own_S p e below T57 (mkF m 24 #[.val (.ref a), .val (.ref b_1), .val (.int (16 : Int32)), .val (.int (11 : Int32)), .val (.ref s_SHORT_ARRAY)] [(.ref s_SHORT)]) _
        refine XS.aloadN X57.here hx rfl (hb hby d1_24) rfl rfl ?_
        exact kt
      by_cases ha25_59 : s_SHORT = a
      · skip
        have r60 : own_R p e below _ _ T57 (mkF m 30 #[.val (.ref a), .val (.ref b_1), .val (.int (16 : Int32)), .val (.int (11 : Int32)), .val (.ref s_SHORT_ARRAY)] [(.ref s_SHORT_ARRAY)]) := r58.trans fun z_ kt => by
          show own_S p e below T57 (mkF m 25 #[.val (.ref a), .val (.ref b_1), .val (.int (16 : Int32)), .val (.int (11 : Int32)), .val (.ref s_SHORT_ARRAY)] [(.ref a), (.ref s_SHORT)]) _
          refine Jvm.RoadKit.acmp (g := (mkF m 25 #[.val (.ref a), .val (.ref b_1), .val (.int (16 : Int32)), .val (.int (11 : Int32)), .val (.ref s_SHORT_ARRAY)] [(.ref a), (.ref s_SHORT)])) X57 hx rfl rfl rfl (pc0 := 25) (pc' := 28) (same := true) rfl (hb hby d1_25) rfl (decide_eq_true (congrArg Value.ref ha25_59)) (by decide) (by decide) ?_
          show own_S p e below T57 (mkF m 28 #[.val (.ref a), .val (.ref b_1), .val (.int (16 : Int32)), .val (.int (11 : Int32)), .val (.ref s_SHORT_ARRAY)] []) _
          refine XS.aload X57.here hx rfl (hb hby d1_28) rfl rfl ?_
          exact kt
        obtain ⟨fs, hr, hrun, hended, hW, hsame⟩ := X57.leave (v := some (.ref s_SHORT_ARRAY)) (fun h => by rw [Bd.returns] at h; cases h)
        refine ⟨_, _, pre0 _ (r60 _ ?_), hrun, hended, _, _, rfl, ?_, ⟨_, rfl⟩, hW, hsame.mono (by decide) (by decide)⟩
        · exact retOut X57 hx Bd.returns rfl (Or.inr (Or.inr (Or.inr (Or.inr ⟨rfl, rfl, rfl⟩)))) (hb hby d1_30) hr
        · show Q_array Z a w vv kk s_VOID s_BOOLEAN s_BYTE s_SHORT s_INT s_LONG s_FLOAT s_DOUBLE s_STRING s_BOOLEAN_ARRAY s_BYTE_ARRAY s_SHORT_ARRAY s_INT_ARRAY s_LONG_ARRAY s_FLOAT_ARRAY s_DOUBLE_ARRAY h0 n0 _ T57.heap _
          rw [e57]
          exact ⟨by rw [hsel.2.2.1 ha25_59], N1, K1⟩
      · skip
        have r62 : own_R p e below _ _ T57 (mkF m 16 #[.val (.ref a), .val (.ref b_1), .val (.int (16 : Int32)), .val (.int (12 : Int32)), .val (.ref s_SHORT_ARRAY)] [(.int (12 : Int32)), (.ref b_1)]) := r58.trans fun z_ kt => by
          show own_S p e below T57 (mkF m 25 #[.val (.ref a), .val (.ref b_1), .val (.int (16 : Int32)), .val (.int (11 : Int32)), .val (.ref s_SHORT_ARRAY)] [(.ref a), (.ref s_SHORT)]) _
          refine Jvm.RoadKit.acmp (g := (mkF m 25 #[.val (.ref a), .val (.ref b_1), .val (.int (16 : Int32)), .val (.int (11 : Int32)), .val (.ref s_SHORT_ARRAY)] [(.ref a), (.ref s_SHORT)])) X57 hx rfl rfl rfl (pc0 := 25) (pc' := 31) (same := false) rfl (hb hby d1_25) rfl (decide_eq_false fun q => ha25_59 (Value.ref.inj q)) (by decide) (by decide) ?_
          show own_S p e below T57 (mkF m 31 #[.val (.ref a), .val (.ref b_1), .val (.int (16 : Int32)), .val (.int (11 : Int32)), .val (.ref s_SHORT_ARRAY)] []) _
          refine XS.iinc X57.here hx rfl (hb hby d1_31) rfl (l' := #[.val (.ref a), .val (.ref b_1), .val (.int (16 : Int32)), .val (.int (12 : Int32)), .val (.ref s_SHORT_ARRAY)]) rfl ?_
          show own_S p e below T57 (mkF m 34 #[.val (.ref a), .val (.ref b_1), .val (.int (16 : Int32)), .val (.int (12 : Int32)), .val (.ref s_SHORT_ARRAY)] []) _
          refine XS.goto X57.here hx rfl (pc0 := 34) (pc' := 9) rfl (hb hby d1_34) (by decide) (by decide) ?_
          show own_S p e below T57 (mkF m 9 #[.val (.ref a), .val (.ref b_1), .val (.int (16 : Int32)), .val (.int (12 : Int32)), .val (.ref s_SHORT_ARRAY)] []) _
          refine XS.iloadN X57.here hx rfl (hb hby d1_9) rfl ?_
          show own_S p e below T57 (mkF m 10 #[.val (.ref a), .val (.ref b_1), .val (.int (16 : Int32)), .val (.int (12 : Int32)), .val (.ref s_SHORT_ARRAY)] [(.int (12 : Int32))]) _
          refine XS.iloadN X57.here hx rfl (hb hby d1_10) rfl ?_
          show own_S p e below T57 (mkF m 11 #[.val (.ref a), .val (.ref b_1), .val (.int (16 : Int32)), .val (.int (12 : Int32)), .val (.ref s_SHORT_ARRAY)] [(.int (16 : Int32)), (.int (12 : Int32))]) _
          refine XS.icmpNo X57.here hx rfl (hb hby d1_11) rfl (tlt (by decide : (12 : Int32) < (16 : Int32))).2.1 ?_
          show own_S p e below T57 (mkF m 14 #[.val (.ref a), .val (.ref b_1), .val (.int (16 : Int32)), .val (.int (12 : Int32)), .val (.ref s_SHORT_ARRAY)] []) _
          refine XS.aloadN X57.here hx rfl (hb hby d1_14) rfl rfl ?_
          show own_S p e below T57 (mkF m 15 #[.val (.ref a), .val (.ref b_1), .val (.int (16 : Int32)), .val (.int (12 : Int32)), .val (.ref s_SHORT_ARRAY)] [(.ref b_1)]) _
          refine XS.iloadN X57.here hx rfl (hb hby d1_15) rfl ?_
          exact kt
        obtain ⟨cl61, Ar61, q61, S61, M61, H61, G61⟩ := id p1_2
        have hin61 : ¬ ((12 : Int32) < 0 ∨ cl61.slots.size ≤ ((12 : Int32)).toNatClampNeg) := inb_of S61 ⟨by decide, by decide⟩
        have hat61 : cl61.slots[((12 : Int32)).toNatClampNeg]? = some (.ref s_INT_ARRAY) := Has.at H61 hin61 rfl
        have r63 : own_R p e below _ _ T57 (mkF m 21 #[.val (.ref a), .val (.ref b_1), .val (.int (16 : Int32)), .val (.int (12 : Int32)), .val (.ref s_INT_ARRAY)] [(.ref s_INT_ARRAY)]) := r62.trans fun z_ kt => by
          show own_S p e below T57 (mkF m 16 #[.val (.ref a), .val (.ref b_1), .val (.int (16 : Int32)), .val (.int (12 : Int32)), .val (.ref s_SHORT_ARRAY)] [(.int (12 : Int32)), (.ref b_1)]) _
          refine X57.aaload hx (j := (12 : Int32)) (v := (.ref s_INT_ARRAY)) (by rw [e57]; exact Ar61.1) (State.isArrayOf_alike hZ.alike Ar61.2.1) rfl Ar61.2.2 hin61 hat61 (g := (mkF m 16 #[.val (.ref a), .val (.ref b_1), .val (.int (16 : Int32)), .val (.int (12 : Int32)), .val (.ref s_SHORT_ARRAY)] [(.int (12 : Int32)), (.ref b_1)])) rfl rfl (hb hby d1_16) _ ?_
          show own_S p e below T57 (mkF m 17 #[.val (.ref a), .val (.ref b_1), .val (.int (16 : Int32)), .val (.int (12 : Int32)), .val (.ref s_SHORT_ARRAY)] [(.ref s_INT_ARRAY)]) _
          refine XS.astore X57.here hx rfl (hb hby d1_17) rfl rfl (l' := #[.val (.ref a), .val (.ref b_1), .val (.int (16 : Int32)), .val (.int (12 : Int32)), .val (.ref s_INT_ARRAY)]) rfl ?_
          show own_S p e below T57 (mkF m 19 #[.val (.ref a), .val (.ref b_1), .val (.int (16 : Int32)), .val (.int (12 : Int32)), .val (.ref s_INT_ARRAY)] []) _
          refine XS.aload X57.here hx rfl (hb hby d1_19) rfl rfl ?_
          exact kt
        obtain ⟨T64, X64, e64, st64⟩ := getF X57 hx hZ hown (host := "") (Or.inl (hw _ (own_g (i := 55) rfl))) Via.refl e57 (OF_s_INT_ARRAY_element.ext O1.2) (g := (mkF m 21 #[.val (.ref a), .val (.ref b_1), .val (.int (16 : Int32)), .val (.int (12 : Int32)), .val (.ref s_INT_ARRAY)] [(.ref s_INT_ARRAY)])) rfl rfl (hb hby d1_21)
        have r64 : own_R p e below _ _ T64 (mkF m 24 #[.val (.ref a), .val (.ref b_1), .val (.int (16 : Int32)), .val (.int (12 : Int32)), .val (.ref s_INT_ARRAY)] [(.ref s_INT)]) := r63.trans fun z_ kt => st64 _ kt
        have r65 : own_R p e below _ _ T64 (mkF m 25 #[.val (.ref a), .val (.ref b_1), .val (.int (16 : Int32)), .val (.int (12 : Int32)), .val (.ref s_INT_ARRAY)] [(.ref a), (.ref s_INT)]) := r64.trans fun z_ kt => by
          show own_S p e below T64 (mkF m 24 #[.val (.ref a), .val (.ref b_1), .val (.int (16 : Int32)), .val (.int (12 : Int32)), .val (.ref s_INT_ARRAY)] [(.ref s_INT)]) _
          refine XS.aloadN X64.here hx rfl (hb hby d1_24) rfl rfl ?_
          exact kt
        by_cases ha25_66 : s_INT = a
        · skip
          have r67 : own_R p e below _ _ T64 (mkF m 30 #[.val (.ref a), .val (.ref b_1), .val (.int (16 : Int32)), .val (.int (12 : Int32)), .val (.ref s_INT_ARRAY)] [(.ref s_INT_ARRAY)]) := r65.trans fun z_ kt => by
            show own_S p e below T64 (mkF m 25 #[.val (.ref a), .val (.ref b_1), .val (.int (16 : Int32)), .val (.int (12 : Int32)), .val (.ref s_INT_ARRAY)] [(.ref a), (.ref s_INT)]) _
            refine Jvm.RoadKit.acmp (g := (mkF m 25 #[.val (.ref a), .val (.ref b_1), .val (.int (16 : Int32)), .val (.int (12 : Int32)), .val (.ref s_INT_ARRAY)] [(.ref a), (.ref s_INT)])) X64 hx rfl rfl rfl (pc0 := 25) (pc' := 28) (same := true) rfl (hb hby d1_25) rfl (decide_eq_true (congrArg Value.ref ha25_66)) (by decide) (by decide) ?_
            show own_S p e below T64 (mkF m 28 #[.val (.ref a), .val (.ref b_1), .val (.int (16 : Int32)), .val (.int (12 : Int32)), .val (.ref s_INT_ARRAY)] []) _
            refine XS.aload X64.here hx rfl (hb hby d1_28) rfl rfl ?_
            exact kt
          obtain ⟨fs, hr, hrun, hended, hW, hsame⟩ := X64.leave (v := some (.ref s_INT_ARRAY)) (fun h => by rw [Bd.returns] at h; cases h)
          refine ⟨_, _, pre0 _ (r67 _ ?_), hrun, hended, _, _, rfl, ?_, ⟨_, rfl⟩, hW, hsame.mono (by decide) (by decide)⟩
          · exact retOut X64 hx Bd.returns rfl (Or.inr (Or.inr (Or.inr (Or.inr ⟨rfl, rfl, rfl⟩)))) (hb hby d1_30) hr
          · show Q_array Z a w vv kk s_VOID s_BOOLEAN s_BYTE s_SHORT s_INT s_LONG s_FLOAT s_DOUBLE s_STRING s_BOOLEAN_ARRAY s_BYTE_ARRAY s_SHORT_ARRAY s_INT_ARRAY s_LONG_ARRAY s_FLOAT_ARRAY s_DOUBLE_ARRAY h0 n0 _ T64.heap _
            rw [e64]
            exact ⟨by rw [hsel.2.2.2.1 ha25_66], N1, K1⟩
        · skip
          have r69 : own_R p e below _ _ T64 (mkF m 16 #[.val (.ref a), .val (.ref b_1), .val (.int (16 : Int32)), .val (.int (13 : Int32)), .val (.ref s_INT_ARRAY)] [(.int (13 : Int32)), (.ref b_1)]) := r65.trans fun z_ kt => by
            show own_S p e below T64 (mkF m 25 #[.val (.ref a), .val (.ref b_1), .val (.int (16 : Int32)), .val (.int (12 : Int32)), .val (.ref s_INT_ARRAY)] [(.ref a), (.ref s_INT)]) _
            refine Jvm.RoadKit.acmp (g := (mkF m 25 #[.val (.ref a), .val (.ref b_1), .val (.int (16 : Int32)), .val (.int (12 : Int32)), .val (.ref s_INT_ARRAY)] [(.ref a), (.ref s_INT)])) X64 hx rfl rfl rfl (pc0 := 25) (pc' := 31) (same := false) rfl (hb hby d1_25) rfl (decide_eq_false fun q => ha25_66 (Value.ref.inj q)) (by decide) (by decide) ?_
            show own_S p e below T64 (mkF m 31 #[.val (.ref a), .val (.ref b_1), .val (.int (16 : Int32)), .val (.int (12 : Int32)), .val (.ref s_INT_ARRAY)] []) _
            refine XS.iinc X64.here hx rfl (hb hby d1_31) rfl (l' := #[.val (.ref a), .val (.ref b_1), .val (.int (16 : Int32)), .val (.int (13 : Int32)), .val (.ref s_INT_ARRAY)]) rfl ?_
            show own_S p e below T64 (mkF m 34 #[.val (.ref a), .val (.ref b_1), .val (.int (16 : Int32)), .val (.int (13 : Int32)), .val (.ref s_INT_ARRAY)] []) _
            refine XS.goto X64.here hx rfl (pc0 := 34) (pc' := 9) rfl (hb hby d1_34) (by decide) (by decide) ?_
            show own_S p e below T64 (mkF m 9 #[.val (.ref a), .val (.ref b_1), .val (.int (16 : Int32)), .val (.int (13 : Int32)), .val (.ref s_INT_ARRAY)] []) _
            refine XS.iloadN X64.here hx rfl (hb hby d1_9) rfl ?_
            show own_S p e below T64 (mkF m 10 #[.val (.ref a), .val (.ref b_1), .val (.int (16 : Int32)), .val (.int (13 : Int32)), .val (.ref s_INT_ARRAY)] [(.int (13 : Int32))]) _
            refine XS.iloadN X64.here hx rfl (hb hby d1_10) rfl ?_
            show own_S p e below T64 (mkF m 11 #[.val (.ref a), .val (.ref b_1), .val (.int (16 : Int32)), .val (.int (13 : Int32)), .val (.ref s_INT_ARRAY)] [(.int (16 : Int32)), (.int (13 : Int32))]) _
            refine XS.icmpNo X64.here hx rfl (hb hby d1_11) rfl (tlt (by decide : (13 : Int32) < (16 : Int32))).2.1 ?_
            show own_S p e below T64 (mkF m 14 #[.val (.ref a), .val (.ref b_1), .val (.int (16 : Int32)), .val (.int (13 : Int32)), .val (.ref s_INT_ARRAY)] []) _
            refine XS.aloadN X64.here hx rfl (hb hby d1_14) rfl rfl ?_
            show own_S p e below T64 (mkF m 15 #[.val (.ref a), .val (.ref b_1), .val (.int (16 : Int32)), .val (.int (13 : Int32)), .val (.ref s_INT_ARRAY)] [(.ref b_1)]) _
            refine XS.iloadN X64.here hx rfl (hb hby d1_15) rfl ?_
            exact kt
          obtain ⟨cl68, Ar68, q68, S68, M68, H68, G68⟩ := id p1_2
          have hin68 : ¬ ((13 : Int32) < 0 ∨ cl68.slots.size ≤ ((13 : Int32)).toNatClampNeg) := inb_of S68 ⟨by decide, by decide⟩
          have hat68 : cl68.slots[((13 : Int32)).toNatClampNeg]? = some (.ref s_LONG_ARRAY) := Has.at H68 hin68 rfl
          have r70 : own_R p e below _ _ T64 (mkF m 21 #[.val (.ref a), .val (.ref b_1), .val (.int (16 : Int32)), .val (.int (13 : Int32)), .val (.ref s_LONG_ARRAY)] [(.ref s_LONG_ARRAY)]) := r69.trans fun z_ kt => by
            show own_S p e below T64 (mkF m 16 #[.val (.ref a), .val (.ref b_1), .val (.int (16 : Int32)), .val (.int (13 : Int32)), .val (.ref s_INT_ARRAY)] [(.int (13 : Int32)), (.ref b_1)]) _
            refine X64.aaload hx (j := (13 : Int32)) (v := (.ref s_LONG_ARRAY)) (by rw [e64]; exact Ar68.1) (State.isArrayOf_alike hZ.alike Ar68.2.1) rfl Ar68.2.2 hin68 hat68 (g := (mkF m 16 #[.val (.ref a), .val (.ref b_1), .val (.int (16 : Int32)), .val (.int (13 : Int32)), .val (.ref s_INT_ARRAY)] [(.int (13 : Int32)), (.ref b_1)])) rfl rfl (hb hby d1_16) _ ?_
            show own_S p e below T64 (mkF m 17 #[.val (.ref a), .val (.ref b_1), .val (.int (16 : Int32)), .val (.int (13 : Int32)), .val (.ref s_INT_ARRAY)] [(.ref s_LONG_ARRAY)]) _
            refine XS.astore X64.here hx rfl (hb hby d1_17) rfl rfl (l' := #[.val (.ref a), .val (.ref b_1), .val (.int (16 : Int32)), .val (.int (13 : Int32)), .val (.ref s_LONG_ARRAY)]) rfl ?_
            show own_S p e below T64 (mkF m 19 #[.val (.ref a), .val (.ref b_1), .val (.int (16 : Int32)), .val (.int (13 : Int32)), .val (.ref s_LONG_ARRAY)] []) _
            refine XS.aload X64.here hx rfl (hb hby d1_19) rfl rfl ?_
            exact kt
          obtain ⟨T71, X71, e71, st71⟩ := getF X64 hx hZ hown (host := "") (Or.inl (hw _ (own_g (i := 55) rfl))) Via.refl e64 (OF_s_LONG_ARRAY_element.ext O1.2) (g := (mkF m 21 #[.val (.ref a), .val (.ref b_1), .val (.int (16 : Int32)), .val (.int (13 : Int32)), .val (.ref s_LONG_ARRAY)] [(.ref s_LONG_ARRAY)])) rfl rfl (hb hby d1_21)
          have r71 : own_R p e below _ _ T71 (mkF m 24 #[.val (.ref a), .val (.ref b_1), .val (.int (16 : Int32)), .val (.int (13 : Int32)), .val (.ref s_LONG_ARRAY)] [(.ref s_LONG)]) := r70.trans fun z_ kt => st71 _ kt
          have r72 : own_R p e below _ _ T71 (mkF m 25 #[.val (.ref a), .val (.ref b_1), .val (.int (16 : Int32)), .val (.int (13 : Int32)), .val (.ref s_LONG_ARRAY)] [(.ref a), (.ref s_LONG)]) := r71.trans fun z_ kt => by
            show own_S p e below T71 (mkF m 24 #[.val (.ref a), .val (.ref b_1), .val (.int (16 : Int32)), .val (.int (13 : Int32)), .val (.ref s_LONG_ARRAY)] [(.ref s_LONG)]) _
            refine XS.aloadN X71.here hx rfl (hb hby d1_24) rfl rfl ?_
            exact kt
          by_cases ha25_73 : s_LONG = a
          · skip
            have r74 : own_R p e below _ _ T71 (mkF m 30 #[.val (.ref a), .val (.ref b_1), .val (.int (16 : Int32)), .val (.int (13 : Int32)), .val (.ref s_LONG_ARRAY)] [(.ref s_LONG_ARRAY)]) := r72.trans fun z_ kt => by
              show own_S p e below T71 (mkF m 25 #[.val (.ref a), .val (.ref b_1), .val (.int (16 : Int32)), .val (.int (13 : Int32)), .val (.ref s_LONG_ARRAY)] [(.ref a), (.ref s_LONG)]) _
              refine Jvm.RoadKit.acmp (g := (mkF m 25 #[.val (.ref a), .val (.ref b_1), .val (.int (16 : Int32)), .val (.int (13 : Int32)), .val (.ref s_LONG_ARRAY)] [(.ref a), (.ref s_LONG)])) X71 hx rfl rfl rfl (pc0 := 25) (pc' := 28) (same := true) rfl (hb hby d1_25) rfl (decide_eq_true (congrArg Value.ref ha25_73)) (by decide) (by decide) ?_
              show own_S p e below T71 (mkF m 28 #[.val (.ref a), .val (.ref b_1), .val (.int (16 : Int32)), .val (.int (13 : Int32)), .val (.ref s_LONG_ARRAY)] []) _
              refine XS.aload X71.here hx rfl (hb hby d1_28) rfl rfl ?_
              exact kt
            obtain ⟨fs, hr, hrun, hended, hW, hsame⟩ := X71.leave (v := some (.ref s_LONG_ARRAY)) (fun h => by rw [Bd.returns] at h; cases h)
            refine ⟨_, _, pre0 _ (r74 _ ?_), hrun, hended, _, _, rfl, ?_, ⟨_, rfl⟩, hW, hsame.mono (by decide) (by decide)⟩
            · exact retOut X71 hx Bd.returns rfl (Or.inr (Or.inr (Or.inr (Or.inr ⟨rfl, rfl, rfl⟩)))) (hb hby d1_30) hr
            · show Q_array Z a w vv kk s_VOID s_BOOLEAN s_BYTE s_SHORT s_INT s_LONG s_FLOAT s_DOUBLE s_STRING s_BOOLEAN_ARRAY s_BYTE_ARRAY s_SHORT_ARRAY s_INT_ARRAY s_LONG_ARRAY s_FLOAT_ARRAY s_DOUBLE_ARRAY h0 n0 _ T71.heap _
              rw [e71]
              exact ⟨by rw [hsel.2.2.2.2.1 ha25_73], N1, K1⟩
          · skip
            have r76 : own_R p e below _ _ T71 (mkF m 16 #[.val (.ref a), .val (.ref b_1), .val (.int (16 : Int32)), .val (.int (14 : Int32)), .val (.ref s_LONG_ARRAY)] [(.int (14 : Int32)), (.ref b_1)]) := r72.trans fun z_ kt => by
              show own_S p e below T71 (mkF m 25 #[.val (.ref a), .val (.ref b_1), .val (.int (16 : Int32)), .val (.int (13 : Int32)), .val (.ref s_LONG_ARRAY)] [(.ref a), (.ref s_LONG)]) _
              refine Jvm.RoadKit.acmp (g := (mkF m 25 #[.val (.ref a), .val (.ref b_1), .val (.int (16 : Int32)), .val (.int (13 : Int32)), .val (.ref s_LONG_ARRAY)] [(.ref a), (.ref s_LONG)])) X71 hx rfl rfl rfl (pc0 := 25) (pc' := 31) (same := false) rfl (hb hby d1_25) rfl (decide_eq_false fun q => ha25_73 (Value.ref.inj q)) (by decide) (by decide) ?_
              show own_S p e below T71 (mkF m 31 #[.val (.ref a), .val (.ref b_1), .val (.int (16 : Int32)), .val (.int (13 : Int32)), .val (.ref s_LONG_ARRAY)] []) _
              refine XS.iinc X71.here hx rfl (hb hby d1_31) rfl (l' := #[.val (.ref a), .val (.ref b_1), .val (.int (16 : Int32)), .val (.int (14 : Int32)), .val (.ref s_LONG_ARRAY)]) rfl ?_
              show own_S p e below T71 (mkF m 34 #[.val (.ref a), .val (.ref b_1), .val (.int (16 : Int32)), .val (.int (14 : Int32)), .val (.ref s_LONG_ARRAY)] []) _
              refine XS.goto X71.here hx rfl (pc0 := 34) (pc' := 9) rfl (hb hby d1_34) (by decide) (by decide) ?_
              show own_S p e below T71 (mkF m 9 #[.val (.ref a), .val (.ref b_1), .val (.int (16 : Int32)), .val (.int (14 : Int32)), .val (.ref s_LONG_ARRAY)] []) _
              refine XS.iloadN X71.here hx rfl (hb hby d1_9) rfl ?_
              show own_S p e below T71 (mkF m 10 #[.val (.ref a), .val (.ref b_1), .val (.int (16 : Int32)), .val (.int (14 : Int32)), .val (.ref s_LONG_ARRAY)] [(.int (14 : Int32))]) _
              refine XS.iloadN X71.here hx rfl (hb hby d1_10) rfl ?_
              show own_S p e below T71 (mkF m 11 #[.val (.ref a), .val (.ref b_1), .val (.int (16 : Int32)), .val (.int (14 : Int32)), .val (.ref s_LONG_ARRAY)] [(.int (16 : Int32)), (.int (14 : Int32))]) _
              refine XS.icmpNo X71.here hx rfl (hb hby d1_11) rfl (tlt (by decide : (14 : Int32) < (16 : Int32))).2.1 ?_
              show own_S p e below T71 (mkF m 14 #[.val (.ref a), .val (.ref b_1), .val (.int (16 : Int32)), .val (.int (14 : Int32)), .val (.ref s_LONG_ARRAY)] []) _
              refine XS.aloadN X71.here hx rfl (hb hby d1_14) rfl rfl ?_
              show own_S p e below T71 (mkF m 15 #[.val (.ref a), .val (.ref b_1), .val (.int (16 : Int32)), .val (.int (14 : Int32)), .val (.ref s_LONG_ARRAY)] [(.ref b_1)]) _
              refine XS.iloadN X71.here hx rfl (hb hby d1_15) rfl ?_
              exact kt
            obtain ⟨cl75, Ar75, q75, S75, M75, H75, G75⟩ := id p1_2
            have hin75 : ¬ ((14 : Int32) < 0 ∨ cl75.slots.size ≤ ((14 : Int32)).toNatClampNeg) := inb_of S75 ⟨by decide, by decide⟩
            have hat75 : cl75.slots[((14 : Int32)).toNatClampNeg]? = some (.ref s_FLOAT_ARRAY) := Has.at H75 hin75 rfl
            have r77 : own_R p e below _ _ T71 (mkF m 21 #[.val (.ref a), .val (.ref b_1), .val (.int (16 : Int32)), .val (.int (14 : Int32)), .val (.ref s_FLOAT_ARRAY)] [(.ref s_FLOAT_ARRAY)]) := r76.trans fun z_ kt => by
              show own_S p e below T71 (mkF m 16 #[.val (.ref a), .val (.ref b_1), .val (.int (16 : Int32)), .val (.int (14 : Int32)), .val (.ref s_LONG_ARRAY)] [(.int (14 : Int32)), (.ref b_1)]) _
              refine X71.aaload hx (j := (14 : Int32)) (v := (.ref s_FLOAT_ARRAY)) (by rw [e71]; exact Ar75.1) (State.isArrayOf_alike hZ.alike Ar75.2.1) rfl Ar75.2.2 hin75 hat75 (g := (mkF m 16 #[.val (.ref a), .val (.ref b_1), .val (.int (16 : Int32)), .val (.int (14 : Int32)), .val (.ref s_LONG_ARRAY)] [(.int (14 : Int32)), (.ref b_1)])) rfl rfl (hb hby d1_16) _ ?_
              show own_S p e below T71 (mkF m 17 #[.val (.ref a), .val (.ref b_1), .val (.int (16 : Int32)), .val (.int (14 : Int32)), .val (.ref s_LONG_ARRAY)] [(.ref s_FLOAT_ARRAY)]) _
              refine XS.astore X71.here hx rfl (hb hby d1_17) rfl rfl (l' := #[.val (.ref a), .val (.ref b_1), .val (.int (16 : Int32)), .val (.int (14 : Int32)), .val (.ref s_FLOAT_ARRAY)]) rfl ?_
              show own_S p e below T71 (mkF m 19 #[.val (.ref a), .val (.ref b_1), .val (.int (16 : Int32)), .val (.int (14 : Int32)), .val (.ref s_FLOAT_ARRAY)] []) _
              refine XS.aload X71.here hx rfl (hb hby d1_19) rfl rfl ?_
              exact kt
            obtain ⟨T78, X78, e78, st78⟩ := getF X71 hx hZ hown (host := "") (Or.inl (hw _ (own_g (i := 55) rfl))) Via.refl e71 (OF_s_FLOAT_ARRAY_element.ext O1.2) (g := (mkF m 21 #[.val (.ref a), .val (.ref b_1), .val (.int (16 : Int32)), .val (.int (14 : Int32)), .val (.ref s_FLOAT_ARRAY)] [(.ref s_FLOAT_ARRAY)])) rfl rfl (hb hby d1_21)
            have r78 : own_R p e below _ _ T78 (mkF m 24 #[.val (.ref a), .val (.ref b_1), .val (.int (16 : Int32)), .val (.int (14 : Int32)), .val (.ref s_FLOAT_ARRAY)] [(.ref s_FLOAT)]) := r77.trans fun z_ kt => st78 _ kt
            have r79 : own_R p e below _ _ T78 (mkF m 25 #[.val (.ref a), .val (.ref b_1), .val (.int (16 : Int32)), .val (.int (14 : Int32)), .val (.ref s_FLOAT_ARRAY)] [(.ref a), (.ref s_FLOAT)]) := r78.trans fun z_ kt => by
              show own_S p e below T78 (mkF m 24 #[.val (.ref a), .val (.ref b_1), .val (.int (16 : Int32)), .val (.int (14 : Int32)), .val (.ref s_FLOAT_ARRAY)] [(.ref s_FLOAT)]) _
              refine XS.aloadN X78.here hx rfl (hb hby d1_24) rfl rfl ?_
              exact kt
            by_cases ha25_80 : s_FLOAT = a
            · skip
              have r81 : own_R p e below _ _ T78 (mkF m 30 #[.val (.ref a), .val (.ref b_1), .val (.int (16 : Int32)), .val (.int (14 : Int32)), .val (.ref s_FLOAT_ARRAY)] [(.ref s_FLOAT_ARRAY)]) := r79.trans fun z_ kt => by
                show own_S p e below T78 (mkF m 25 #[.val (.ref a), .val (.ref b_1), .val (.int (16 : Int32)), .val (.int (14 : Int32)), .val (.ref s_FLOAT_ARRAY)] [(.ref a), (.ref s_FLOAT)]) _
                refine Jvm.RoadKit.acmp (g := (mkF m 25 #[.val (.ref a), .val (.ref b_1), .val (.int (16 : Int32)), .val (.int (14 : Int32)), .val (.ref s_FLOAT_ARRAY)] [(.ref a), (.ref s_FLOAT)])) X78 hx rfl rfl rfl (pc0 := 25) (pc' := 28) (same := true) rfl (hb hby d1_25) rfl (decide_eq_true (congrArg Value.ref ha25_80)) (by decide) (by decide) ?_
                show own_S p e below T78 (mkF m 28 #[.val (.ref a), .val (.ref b_1), .val (.int (16 : Int32)), .val (.int (14 : Int32)), .val (.ref s_FLOAT_ARRAY)] []) _
                refine XS.aload X78.here hx rfl (hb hby d1_28) rfl rfl ?_
                exact kt
              obtain ⟨fs, hr, hrun, hended, hW, hsame⟩ := X78.leave (v := some (.ref s_FLOAT_ARRAY)) (fun h => by rw [Bd.returns] at h; cases h)
              refine ⟨_, _, pre0 _ (r81 _ ?_), hrun, hended, _, _, rfl, ?_, ⟨_, rfl⟩, hW, hsame.mono (by decide) (by decide)⟩
              · exact retOut X78 hx Bd.returns rfl (Or.inr (Or.inr (Or.inr (Or.inr ⟨rfl, rfl, rfl⟩)))) (hb hby d1_30) hr
              · show Q_array Z a w vv kk s_VOID s_BOOLEAN s_BYTE s_SHORT s_INT s_LONG s_FLOAT s_DOUBLE s_STRING s_BOOLEAN_ARRAY s_BYTE_ARRAY s_SHORT_ARRAY s_INT_ARRAY s_LONG_ARRAY s_FLOAT_ARRAY s_DOUBLE_ARRAY h0 n0 _ T78.heap _
                rw [e78]
                exact ⟨by rw [hsel.2.2.2.2.2.1 ha25_80], N1, K1⟩
            · skip
              have r83 : own_R p e below _ _ T78 (mkF m 16 #[.val (.ref a), .val (.ref b_1), .val (.int (16 : Int32)), .val (.int (15 : Int32)), .val (.ref s_FLOAT_ARRAY)] [(.int (15 : Int32)), (.ref b_1)]) := r79.trans fun z_ kt => by
                show own_S p e below T78 (mkF m 25 #[.val (.ref a), .val (.ref b_1), .val (.int (16 : Int32)), .val (.int (14 : Int32)), .val (.ref s_FLOAT_ARRAY)] [(.ref a), (.ref s_FLOAT)]) _
                refine Jvm.RoadKit.acmp (g := (mkF m 25 #[.val (.ref a), .val (.ref b_1), .val (.int (16 : Int32)), .val (.int (14 : Int32)), .val (.ref s_FLOAT_ARRAY)] [(.ref a), (.ref s_FLOAT)])) X78 hx rfl rfl rfl (pc0 := 25) (pc' := 31) (same := false) rfl (hb hby d1_25) rfl (decide_eq_false fun q => ha25_80 (Value.ref.inj q)) (by decide) (by decide) ?_
                show own_S p e below T78 (mkF m 31 #[.val (.ref a), .val (.ref b_1), .val (.int (16 : Int32)), .val (.int (14 : Int32)), .val (.ref s_FLOAT_ARRAY)] []) _
                refine XS.iinc X78.here hx rfl (hb hby d1_31) rfl (l' := #[.val (.ref a), .val (.ref b_1), .val (.int (16 : Int32)), .val (.int (15 : Int32)), .val (.ref s_FLOAT_ARRAY)]) rfl ?_
                show own_S p e below T78 (mkF m 34 #[.val (.ref a), .val (.ref b_1), .val (.int (16 : Int32)), .val (.int (15 : Int32)), .val (.ref s_FLOAT_ARRAY)] []) _
                refine XS.goto X78.here hx rfl (pc0 := 34) (pc' := 9) rfl (hb hby d1_34) (by decide) (by decide) ?_
                show own_S p e below T78 (mkF m 9 #[.val (.ref a), .val (.ref b_1), .val (.int (16 : Int32)), .val (.int (15 : Int32)), .val (.ref s_FLOAT_ARRAY)] []) _
                refine XS.iloadN X78.here hx rfl (hb hby d1_9) rfl ?_
                show own_S p e below T78 (mkF m 10 #[.val (.ref a), .val (.ref b_1), .val (.int (16 : Int32)), .val (.int (15 : Int32)), .val (.ref s_FLOAT_ARRAY)] [(.int (15 : Int32))]) _
                refine XS.iloadN X78.here hx rfl (hb hby d1_10) rfl ?_
                show own_S p e below T78 (mkF m 11 #[.val (.ref a), .val (.ref b_1), .val (.int (16 : Int32)), .val (.int (15 : Int32)), .val (.ref s_FLOAT_ARRAY)] [(.int (16 : Int32)), (.int (15 : Int32))]) _
                refine XS.icmpNo X78.here hx rfl (hb hby d1_11) rfl (tlt (by decide : (15 : Int32) < (16 : Int32))).2.1 ?_
                show own_S p e below T78 (mkF m 14 #[.val (.ref a), .val (.ref b_1), .val (.int (16 : Int32)), .val (.int (15 : Int32)), .val (.ref s_FLOAT_ARRAY)] []) _
                refine XS.aloadN X78.here hx rfl (hb hby d1_14) rfl rfl ?_
                show own_S p e below T78 (mkF m 15 #[.val (.ref a), .val (.ref b_1), .val (.int (16 : Int32)), .val (.int (15 : Int32)), .val (.ref s_FLOAT_ARRAY)] [(.ref b_1)]) _
                refine XS.iloadN X78.here hx rfl (hb hby d1_15) rfl ?_
                exact kt
              obtain ⟨cl82, Ar82, q82, S82, M82, H82, G82⟩ := id p1_2
              have hin82 : ¬ ((15 : Int32) < 0 ∨ cl82.slots.size ≤ ((15 : Int32)).toNatClampNeg) := inb_of S82 ⟨by decide, by decide⟩
              have hat82 : cl82.slots[((15 : Int32)).toNatClampNeg]? = some (.ref s_DOUBLE_ARRAY) := Has.at H82 hin82 rfl
              have r84 : own_R p e below _ _ T78 (mkF m 21 #[.val (.ref a), .val (.ref b_1), .val (.int (16 : Int32)), .val (.int (15 : Int32)), .val (.ref s_DOUBLE_ARRAY)] [(.ref s_DOUBLE_ARRAY)]) := r83.trans fun z_ kt => by
                show own_S p e below T78 (mkF m 16 #[.val (.ref a), .val (.ref b_1), .val (.int (16 : Int32)), .val (.int (15 : Int32)), .val (.ref s_FLOAT_ARRAY)] [(.int (15 : Int32)), (.ref b_1)]) _
                refine X78.aaload hx (j := (15 : Int32)) (v := (.ref s_DOUBLE_ARRAY)) (by rw [e78]; exact Ar82.1) (State.isArrayOf_alike hZ.alike Ar82.2.1) rfl Ar82.2.2 hin82 hat82 (g := (mkF m 16 #[.val (.ref a), .val (.ref b_1), .val (.int (16 : Int32)), .val (.int (15 : Int32)), .val (.ref s_FLOAT_ARRAY)] [(.int (15 : Int32)), (.ref b_1)])) rfl rfl (hb hby d1_16) _ ?_
                show own_S p e below T78 (mkF m 17 #[.val (.ref a), .val (.ref b_1), .val (.int (16 : Int32)), .val (.int (15 : Int32)), .val (.ref s_FLOAT_ARRAY)] [(.ref s_DOUBLE_ARRAY)]) _
                refine XS.astore X78.here hx rfl (hb hby d1_17) rfl rfl (l' := #[.val (.ref a), .val (.ref b_1), .val (.int (16 : Int32)), .val (.int (15 : Int32)), .val (.ref s_DOUBLE_ARRAY)]) rfl ?_
                show own_S p e below T78 (mkF m 19 #[.val (.ref a), .val (.ref b_1), .val (.int (16 : Int32)), .val (.int (15 : Int32)), .val (.ref s_DOUBLE_ARRAY)] []) _
                refine XS.aload X78.here hx rfl (hb hby d1_19) rfl rfl ?_
                exact kt
              obtain ⟨T85, X85, e85, st85⟩ := getF X78 hx hZ hown (host := "") (Or.inl (hw _ (own_g (i := 55) rfl))) Via.refl e78 (OF_s_DOUBLE_ARRAY_element.ext O1.2) (g := (mkF m 21 #[.val (.ref a), .val (.ref b_1), .val (.int (16 : Int32)), .val (.int (15 : Int32)), .val (.ref s_DOUBLE_ARRAY)] [(.ref s_DOUBLE_ARRAY)])) rfl rfl (hb hby d1_21)
              have r85 : own_R p e below _ _ T85 (mkF m 24 #[.val (.ref a), .val (.ref b_1), .val (.int (16 : Int32)), .val (.int (15 : Int32)), .val (.ref s_DOUBLE_ARRAY)] [(.ref s_DOUBLE)]) := r84.trans fun z_ kt => st85 _ kt
              have r86 : own_R p e below _ _ T85 (mkF m 25 #[.val (.ref a), .val (.ref b_1), .val (.int (16 : Int32)), .val (.int (15 : Int32)), .val (.ref s_DOUBLE_ARRAY)] [(.ref a), (.ref s_DOUBLE)]) := r85.trans fun z_ kt => by
                show own_S p e below T85 (mkF m 24 #[.val (.ref a), .val (.ref b_1), .val (.int (16 : Int32)), .val (.int (15 : Int32)), .val (.ref s_DOUBLE_ARRAY)] [(.ref s_DOUBLE)]) _
                refine XS.aloadN X85.here hx rfl (hb hby d1_24) rfl rfl ?_
                exact kt
              by_cases ha25_87 : s_DOUBLE = a
              · skip
                have r88 : own_R p e below _ _ T85 (mkF m 30 #[.val (.ref a), .val (.ref b_1), .val (.int (16 : Int32)), .val (.int (15 : Int32)), .val (.ref s_DOUBLE_ARRAY)] [(.ref s_DOUBLE_ARRAY)]) := r86.trans fun z_ kt => by
                  show own_S p e below T85 (mkF m 25 #[.val (.ref a), .val (.ref b_1), .val (.int (16 : Int32)), .val (.int (15 : Int32)), .val (.ref s_DOUBLE_ARRAY)] [(.ref a), (.ref s_DOUBLE)]) _
                  refine Jvm.RoadKit.acmp (g := (mkF m 25 #[.val (.ref a), .val (.ref b_1), .val (.int (16 : Int32)), .val (.int (15 : Int32)), .val (.ref s_DOUBLE_ARRAY)] [(.ref a), (.ref s_DOUBLE)])) X85 hx rfl rfl rfl (pc0 := 25) (pc' := 28) (same := true) rfl (hb hby d1_25) rfl (decide_eq_true (congrArg Value.ref ha25_87)) (by decide) (by decide) ?_
                  show own_S p e below T85 (mkF m 28 #[.val (.ref a), .val (.ref b_1), .val (.int (16 : Int32)), .val (.int (15 : Int32)), .val (.ref s_DOUBLE_ARRAY)] []) _
                  refine XS.aload X85.here hx rfl (hb hby d1_28) rfl rfl ?_
                  exact kt
                obtain ⟨fs, hr, hrun, hended, hW, hsame⟩ := X85.leave (v := some (.ref s_DOUBLE_ARRAY)) (fun h => by rw [Bd.returns] at h; cases h)
                refine ⟨_, _, pre0 _ (r88 _ ?_), hrun, hended, _, _, rfl, ?_, ⟨_, rfl⟩, hW, hsame.mono (by decide) (by decide)⟩
                · exact retOut X85 hx Bd.returns rfl (Or.inr (Or.inr (Or.inr (Or.inr ⟨rfl, rfl, rfl⟩)))) (hb hby d1_30) hr
                · show Q_array Z a w vv kk s_VOID s_BOOLEAN s_BYTE s_SHORT s_INT s_LONG s_FLOAT s_DOUBLE s_STRING s_BOOLEAN_ARRAY s_BYTE_ARRAY s_SHORT_ARRAY s_INT_ARRAY s_LONG_ARRAY s_FLOAT_ARRAY s_DOUBLE_ARRAY h0 n0 _ T85.heap _
                  rw [e85]
                  exact ⟨by rw [hsel.2.2.2.2.2.2 ha25_87], N1, K1⟩
              · skip
                rcases hex with q | q | q | q | q | q | q
                · exact absurd q ha25_45
                · exact absurd q ha25_52
                · exact absurd q ha25_59
                · exact absurd q ha25_66
                · exact absurd q ha25_73
                · exact absurd q ha25_80
                · exact absurd q ha25_87

theorem pd_1 : parseMethodDescriptor "()Lcom/example/tenon/tenon/generator/JavaType;" = some ⟨[], some (.object "com/example/tenon/tenon/generator/JavaType")⟩ := by decide +kernel
theorem pn_JavaTypeArrayPinLaw : plainName "com/example/tenon/tenon/generator/JavaTypeArrayPinLaw" = true := by first | (simp [plainName, overriddenIn]; done) | decide +kernel
theorem ef_law (m : MethodId) (px : Int32) : entryFrame m #[(.int px)] maxLocals = mkF m 0 #[.val (.int px), .unset, .unset, .unset] [] := by first | (simp [entryFrame, mkF, argsToLocals, Value.category, maxLocals]; done) | rfl
def Q_law (Z : State) (px : Int32) (vv : Addr) (kk : ClassId) (s_VOID : Addr) (s_BOOLEAN : Addr) (s_BYTE : Addr) (s_SHORT : Addr) (s_INT : Addr) (s_LONG : Addr) (s_FLOAT : Addr) (s_DOUBLE : Addr) (s_STRING : Addr) (s_BOOLEAN_ARRAY : Addr) (s_BYTE_ARRAY : Addr) (s_SHORT_ARRAY : Addr) (s_INT_ARRAY : Addr) (s_LONG_ARRAY : Addr) (s_FLOAT_ARRAY : Addr) (s_DOUBLE_ARRAY : Addr) (h0 : Heap) (n0 : Nat) (v : Option Value) (h : Heap) (L : List Loc) : Prop := v = some (.int (1 : Int32)) ∧ Fr n0 L
set_option maxRecDepth 65536 in
set_option maxHeartbeats 40000000 in
theorem rm_law (l : Launch) (Z : State) (a0 : Array Value) (hw : ∀ d ∈ tables_1, d.before a0 Z = true) (ws : List Jvm.Cond) (px : Int32) (vv : Addr) (kk : ClassId) (s_VOID : Addr) (s_BOOLEAN : Addr) (s_BYTE : Addr) (s_SHORT : Addr) (s_INT : Addr) (s_LONG : Addr) (s_FLOAT : Addr) (s_DOUBLE : Addr) (s_STRING : Addr) (s_BOOLEAN_ARRAY : Addr) (s_BYTE_ARRAY : Addr) (s_SHORT_ARRAY : Addr) (s_INT_ARRAY : Addr) (s_LONG_ARRAY : Addr) (s_FLOAT_ARRAY : Addr) (s_DOUBLE_ARRAY : Addr) (h0 : Heap) (n0 : Nat) (O0 : Old Z n0 h0) (S_JavaType_BOOLEAN : Sta Z Z.heap "com/example/tenon/tenon/generator/JavaType" "BOOLEAN" "Lcom/example/tenon/tenon/generator/JavaType;" (.ref s_BOOLEAN)) (S_JavaType_BYTE : Sta Z Z.heap "com/example/tenon/tenon/generator/JavaType" "BYTE" "Lcom/example/tenon/tenon/generator/JavaType;" (.ref s_BYTE)) (S_JavaType_SHORT : Sta Z Z.heap "com/example/tenon/tenon/generator/JavaType" "SHORT" "Lcom/example/tenon/tenon/generator/JavaType;" (.ref s_SHORT)) (S_JavaType_INT : Sta Z Z.heap "com/example/tenon/tenon/generator/JavaType" "INT" "Lcom/example/tenon/tenon/generator/JavaType;" (.ref s_INT)) (S_JavaType_LONG : Sta Z Z.heap "com/example/tenon/tenon/generator/JavaType" "LONG" "Lcom/example/tenon/tenon/generator/JavaType;" (.ref s_LONG)) (S_JavaType_FLOAT : Sta Z Z.heap "com/example/tenon/tenon/generator/JavaType" "FLOAT" "Lcom/example/tenon/tenon/generator/JavaType;" (.ref s_FLOAT)) (S_JavaType_DOUBLE : Sta Z Z.heap "com/example/tenon/tenon/generator/JavaType" "DOUBLE" "Lcom/example/tenon/tenon/generator/JavaType;" (.ref s_DOUBLE)) (S_JavaType_BOOLEAN_ARRAY : Sta Z Z.heap "com/example/tenon/tenon/generator/JavaType" "BOOLEAN_ARRAY" "Lcom/example/tenon/tenon/generator/JavaType;" (.ref s_BOOLEAN_ARRAY)) (S_JavaType_BYTE_ARRAY : Sta Z Z.heap "com/example/tenon/tenon/generator/JavaType" "BYTE_ARRAY" "Lcom/example/tenon/tenon/generator/JavaType;" (.ref s_BYTE_ARRAY)) (S_JavaType_SHORT_ARRAY : Sta Z Z.heap "com/example/tenon/tenon/generator/JavaType" "SHORT_ARRAY" "Lcom/example/tenon/tenon/generator/JavaType;" (.ref s_SHORT_ARRAY)) (S_JavaType_INT_ARRAY : Sta Z Z.heap "com/example/tenon/tenon/generator/JavaType" "INT_ARRAY" "Lcom/example/tenon/tenon/generator/JavaType;" (.ref s_INT_ARRAY)) (S_JavaType_LONG_ARRAY : Sta Z Z.heap "com/example/tenon/tenon/generator/JavaType" "LONG_ARRAY" "Lcom/example/tenon/tenon/generator/JavaType;" (.ref s_LONG_ARRAY)) (S_JavaType_FLOAT_ARRAY : Sta Z Z.heap "com/example/tenon/tenon/generator/JavaType" "FLOAT_ARRAY" "Lcom/example/tenon/tenon/generator/JavaType;" (.ref s_FLOAT_ARRAY)) (S_JavaType_DOUBLE_ARRAY : Sta Z Z.heap "com/example/tenon/tenon/generator/JavaType" "DOUBLE_ARRAY" "Lcom/example/tenon/tenon/generator/JavaType;" (.ref s_DOUBLE_ARRAY)) (OE_s_BOOLEAN : Exa Z Z.heap s_BOOLEAN "com/example/tenon/tenon/generator/JavaType") (OE_s_BYTE : Exa Z Z.heap s_BYTE "com/example/tenon/tenon/generator/JavaType") (OE_s_SHORT : Exa Z Z.heap s_SHORT "com/example/tenon/tenon/generator/JavaType") (OE_s_INT : Exa Z Z.heap s_INT "com/example/tenon/tenon/generator/JavaType") (OE_s_LONG : Exa Z Z.heap s_LONG "com/example/tenon/tenon/generator/JavaType") (OE_s_FLOAT : Exa Z Z.heap s_FLOAT "com/example/tenon/tenon/generator/JavaType") (OE_s_DOUBLE : Exa Z Z.heap s_DOUBLE "com/example/tenon/tenon/generator/JavaType") (OE_s_BOOLEAN_ARRAY : Exa Z Z.heap s_BOOLEAN_ARRAY "com/example/tenon/tenon/generator/JavaType") (OE_s_BYTE_ARRAY : Exa Z Z.heap s_BYTE_ARRAY "com/example/tenon/tenon/generator/JavaType") (OE_s_SHORT_ARRAY : Exa Z Z.heap s_SHORT_ARRAY "com/example/tenon/tenon/generator/JavaType") (OE_s_INT_ARRAY : Exa Z Z.heap s_INT_ARRAY "com/example/tenon/tenon/generator/JavaType") (OE_s_LONG_ARRAY : Exa Z Z.heap s_LONG_ARRAY "com/example/tenon/tenon/generator/JavaType") (OE_s_FLOAT_ARRAY : Exa Z Z.heap s_FLOAT_ARRAY "com/example/tenon/tenon/generator/JavaType") (OE_s_DOUBLE_ARRAY : Exa Z Z.heap s_DOUBLE_ARRAY "com/example/tenon/tenon/generator/JavaType") (S_JavaType__VALUES : Sta Z Z.heap "com/example/tenon/tenon/generator/JavaType" "$VALUES" "[Lcom/example/tenon/tenon/generator/JavaType;" (.ref vv)) (OE_vv : Exa Z Z.heap vv "[Lcom/example/tenon/tenon/generator/JavaType;") (OV_vv : Arv Z Z.heap vv kk (.object "com/example/tenon/tenon/generator/JavaType") (16 : Int32) [(.ref s_VOID), (.ref s_BOOLEAN), (.ref s_BYTE), (.ref s_SHORT), (.ref s_INT), (.ref s_LONG), (.ref s_FLOAT), (.ref s_DOUBLE), (.ref s_STRING), (.ref s_BOOLEAN_ARRAY), (.ref s_BYTE_ARRAY), (.ref s_SHORT_ARRAY), (.ref s_INT_ARRAY), (.ref s_LONG_ARRAY), (.ref s_FLOAT_ARRAY), (.ref s_DOUBLE_ARRAY)] .null) (OF_s_VOID_element : Fld Z Z.heap s_VOID "com/example/tenon/tenon/generator/JavaType" "element" "Lcom/example/tenon/tenon/generator/JavaType;" .null) (OF_s_BOOLEAN_element : Fld Z Z.heap s_BOOLEAN "com/example/tenon/tenon/generator/JavaType" "element" "Lcom/example/tenon/tenon/generator/JavaType;" .null) (OF_s_BYTE_element : Fld Z Z.heap s_BYTE "com/example/tenon/tenon/generator/JavaType" "element" "Lcom/example/tenon/tenon/generator/JavaType;" .null) (OF_s_SHORT_element : Fld Z Z.heap s_SHORT "com/example/tenon/tenon/generator/JavaType" "element" "Lcom/example/tenon/tenon/generator/JavaType;" .null) (OF_s_INT_element : Fld Z Z.heap s_INT "com/example/tenon/tenon/generator/JavaType" "element" "Lcom/example/tenon/tenon/generator/JavaType;" .null) (OF_s_LONG_element : Fld Z Z.heap s_LONG "com/example/tenon/tenon/generator/JavaType" "element" "Lcom/example/tenon/tenon/generator/JavaType;" .null) (OF_s_FLOAT_element : Fld Z Z.heap s_FLOAT "com/example/tenon/tenon/generator/JavaType" "element" "Lcom/example/tenon/tenon/generator/JavaType;" .null) (OF_s_DOUBLE_element : Fld Z Z.heap s_DOUBLE "com/example/tenon/tenon/generator/JavaType" "element" "Lcom/example/tenon/tenon/generator/JavaType;" .null) (OF_s_STRING_element : Fld Z Z.heap s_STRING "com/example/tenon/tenon/generator/JavaType" "element" "Lcom/example/tenon/tenon/generator/JavaType;" .null) (OF_s_BOOLEAN_ARRAY_element : Fld Z Z.heap s_BOOLEAN_ARRAY "com/example/tenon/tenon/generator/JavaType" "element" "Lcom/example/tenon/tenon/generator/JavaType;" (.ref s_BOOLEAN)) (OF_s_BYTE_ARRAY_element : Fld Z Z.heap s_BYTE_ARRAY "com/example/tenon/tenon/generator/JavaType" "element" "Lcom/example/tenon/tenon/generator/JavaType;" (.ref s_BYTE)) (OF_s_SHORT_ARRAY_element : Fld Z Z.heap s_SHORT_ARRAY "com/example/tenon/tenon/generator/JavaType" "element" "Lcom/example/tenon/tenon/generator/JavaType;" (.ref s_SHORT)) (OF_s_INT_ARRAY_element : Fld Z Z.heap s_INT_ARRAY "com/example/tenon/tenon/generator/JavaType" "element" "Lcom/example/tenon/tenon/generator/JavaType;" (.ref s_INT)) (OF_s_LONG_ARRAY_element : Fld Z Z.heap s_LONG_ARRAY "com/example/tenon/tenon/generator/JavaType" "element" "Lcom/example/tenon/tenon/generator/JavaType;" (.ref s_LONG)) (OF_s_FLOAT_ARRAY_element : Fld Z Z.heap s_FLOAT_ARRAY "com/example/tenon/tenon/generator/JavaType" "element" "Lcom/example/tenon/tenon/generator/JavaType;" (.ref s_FLOAT)) (OF_s_DOUBLE_ARRAY_element : Fld Z Z.heap s_DOUBLE_ARRAY "com/example/tenon/tenon/generator/JavaType" "element" "Lcom/example/tenon/tenon/generator/JavaType;" (.ref s_DOUBLE)) (OF_s_BOOLEAN_ordinal : Fld Z Z.heap s_BOOLEAN "java/lang/Enum" "ordinal" "I" (.int (1 : Int32))) (OF_s_BYTE_ordinal : Fld Z Z.heap s_BYTE "java/lang/Enum" "ordinal" "I" (.int (2 : Int32))) (OF_s_SHORT_ordinal : Fld Z Z.heap s_SHORT "java/lang/Enum" "ordinal" "I" (.int (3 : Int32))) (OF_s_INT_ordinal : Fld Z Z.heap s_INT "java/lang/Enum" "ordinal" "I" (.int (4 : Int32))) (OF_s_LONG_ordinal : Fld Z Z.heap s_LONG "java/lang/Enum" "ordinal" "I" (.int (5 : Int32))) (OF_s_FLOAT_ordinal : Fld Z Z.heap s_FLOAT "java/lang/Enum" "ordinal" "I" (.int (6 : Int32))) (OF_s_DOUBLE_ordinal : Fld Z Z.heap s_DOUBLE "java/lang/Enum" "ordinal" "I" (.int (7 : Int32))) :
    MetFree l x (head1 (Jvm.Cond.code x code maxLocals ret :: ws) room_1) (fun aa_ U => aa_ = #[(.int px)] ∧ Z.Warmed39 U.vm ∧ U.heap = h0) (fun _ _ _ _ _ => True) (fun _ U o U' => ∃ v L, o = .returned v ∧ Q_law Z px vv kk s_VOID s_BOOLEAN s_BYTE s_SHORT s_INT s_LONG s_FLOAT s_DOUBLE s_STRING s_BOOLEAN_ARRAY s_BYTE_ARRAY s_SHORT_ARRAY s_INT_ARRAY s_LONG_ARRAY s_FLOAT_ARRAY s_DOUBLE_ARRAY h0 n0 v U'.heap L ∧ FrameEnd U o U' L room_1.cells room_1.slots) := by
  refine MetFree.of_bodySF (plainFor_of_name pn_JavaTypeArrayPinLaw) hisR ?_
  intro p e s m args below meth c s₁ Bd hml0 hP hK
  obtain ⟨rfl, hZ, hh⟩ := hP
  have hx := Bd.exec
  have hby := Bd.bytes
  have hml : c.maxLocals = 4 := hml0
  have hown : s.vm.findClass "com/example/tenon/tenon/generator/JavaTypeArrayPinLaw" = some m.cls := findClass_of_methodNamed Bd.named
  have hnm := (name_of_methodNamed Bd.named Bd.method).1
  have X0 : Stand p l e room_1 s m #[(.int px)] below meth c s₁ [] 0 0 := Stand.of_body Bd
  have e0 : s₁.heap = h0 := by rw [← hh, Bd.state]; rfl
  have N0 := Fr.nil n0
  have pre0 : ∀ t, Steps p.tables e below (s₁.setTop (mkF m 0 #[.val (.int px), .unset, .unset, .unset] [])) t → Steps p.tables e below (s₁.setTop (entryFrame m #[(.int px)] maxLocals)) t := fun t k => castTop (ef_law m px) k
  have r0 : own_R p e below s₁ (mkF m 0 #[.val (.int px), .unset, .unset, .unset] []) s₁ (mkF m 0 #[.val (.int px), .unset, .unset, .unset] []) := own_R.refl
  have r1 : own_R p e below _ _ s₁ (mkF m 2 #[.val (.int px), .unset, .unset, .unset] [(.int (7 : Int32))]) := r0.trans fun z_ kt => by
    show own_S p e below s₁ (mkF m 0 #[.val (.int px), .unset, .unset, .unset] []) _
    refine XS.bipush X0.here hx rfl (hb hby at_0) ?_
    exact kt
  obtain ⟨T2, h2, k2, X2, e2, E2, A2, Ov2, st2⟩ := newR X0 hx hZ hown (hw _ (own_g (i := 0) rfl)) (hw _ (own_g (i := 1) rfl)) e0 (g := (mkF m 2 #[.val (.int px), .unset, .unset, .unset] [(.int (7 : Int32))])) rfl (hb hby at_2) rfl (by decide) (cap := 7) (by decide) (by decide) (by decide) (by decide)
  obtain ⟨b2, g2⟩ : ∃ z, z = h0.size := ⟨_, rfl⟩
  rw [← g2] at A2 st2
  have r2 : own_R p e below _ _ T2 (mkF m 5 #[.val (.int px), .unset, .unset, .unset] [(.ref b2)]) := r1.trans fun z_ kt => st2 _ kt
  have g_b2 : n0 ≤ b2 := Nat.le_trans (own_old_size O0) (Nat.le_of_eq g2.symm)
  have O2 := O0.ext E2
  have V2 : Arv Z h2 b2 k2 (.object "com/example/tenon/tenon/generator/JavaType") (7 : Int32) [.null, .null, .null, .null, .null, .null, .null] .null := (Arv.new A2 (by decide)).pad (pad_rep [] .null 7)
  have r3 : own_R p e below _ _ T2 (mkF m 7 #[.val (.int px), .unset, .unset, .unset] [(.int (0 : Int32)), (.ref b2), (.ref b2)]) := r2.trans fun z_ kt => by
    show own_S p e below T2 (mkF m 5 #[.val (.int px), .unset, .unset, .unset] [(.ref b2)]) _
    refine XS.dup X2.here hx rfl (hb hby at_5) rfl rfl ?_
    show own_S p e below T2 (mkF m 6 #[.val (.int px), .unset, .unset, .unset] [(.ref b2), (.ref b2)]) _
    refine XS.iconst X2.here hx rfl (hb hby at_6) ?_
    exact kt
  obtain ⟨T4, X4, e4, st4⟩ := getS2 X2 hx hZ hown (host := "") (Or.inl (hw _ (own_g (i := 2) rfl))) Via.refl e2 (S_JavaType_BOOLEAN.ext O2.2) (g := (mkF m 7 #[.val (.int px), .unset, .unset, .unset] [(.int (0 : Int32)), (.ref b2), (.ref b2)])) rfl (hb hby at_7)
  have r4 : own_R p e below _ _ T4 (mkF m 10 #[.val (.int px), .unset, .unset, .unset] [(.ref s_BOOLEAN), (.int (0 : Int32)), (.ref b2), (.ref b2)]) := r3.trans fun z_ kt => st4 _ kt
  obtain ⟨cl5, Ar5, q5, S5, M5, H5, G5⟩ := id V2
  have hin5 : ¬ ((0 : Int32) < 0 ∨ cl5.slots.size ≤ ((0 : Int32)).toNatClampNeg) := inb_of S5 ⟨by decide, by decide⟩
  obtain ⟨T6, h6, X6, e6, W6, st6⟩ := stR X4 hx hZ e4 Ar5 (j := (0 : Int32)) hin5 rfl (Sto.ofV Ar5 q5 Ov2 (Ins.self (OE_s_BOOLEAN.ext O2.2))) (g := (mkF m 10 #[.val (.int px), .unset, .unset, .unset] [(.ref s_BOOLEAN), (.int (0 : Int32)), (.ref b2), (.ref b2)])) rfl rfl (hb hby at_10)
  have r6 : own_R p e below _ _ T6 (mkF m 11 #[.val (.int px), .unset, .unset, .unset] [(.ref b2)]) := r4.trans fun z_ kt => st6 _ kt
  have N6 := Fr.snoc X6 N0 g_b2
  have O6 := O2.wr W6 g_b2
  have V6 : Arv Z h6 b2 k2 (.object "com/example/tenon/tenon/generator/JavaType") (7 : Int32) [(.ref s_BOOLEAN), .null, .null, .null, .null, .null, .null] .null := Arv.set Ar5 q5 S5 M5 H5 G5 rfl W6 0 rfl (Nat.le_of_ble_eq_true rfl)
  have r7 : own_R p e below _ _ T6 (mkF m 13 #[.val (.int px), .unset, .unset, .unset] [(.int (1 : Int32)), (.ref b2), (.ref b2)]) := r6.trans fun z_ kt => by
    show own_S p e below T6 (mkF m 11 #[.val (.int px), .unset, .unset, .unset] [(.ref b2)]) _
    refine XS.dup X6.here hx rfl (hb hby at_11) rfl rfl ?_
    show own_S p e below T6 (mkF m 12 #[.val (.int px), .unset, .unset, .unset] [(.ref b2), (.ref b2)]) _
    refine XS.iconst X6.here hx rfl (hb hby at_12) ?_
    exact kt
  obtain ⟨T8, X8, e8, st8⟩ := getS2 X6 hx hZ hown (host := "") (Or.inl (hw _ (own_g (i := 6) rfl))) Via.refl e6 (S_JavaType_BYTE.ext O6.2) (g := (mkF m 13 #[.val (.int px), .unset, .unset, .unset] [(.int (1 : Int32)), (.ref b2), (.ref b2)])) rfl (hb hby at_13)
  have r8 : own_R p e below _ _ T8 (mkF m 16 #[.val (.int px), .unset, .unset, .unset] [(.ref s_BYTE), (.int (1 : Int32)), (.ref b2), (.ref b2)]) := r7.trans fun z_ kt => st8 _ kt
  obtain ⟨cl9, Ar9, q9, S9, M9, H9, G9⟩ := id V6
  have hin9 : ¬ ((1 : Int32) < 0 ∨ cl9.slots.size ≤ ((1 : Int32)).toNatClampNeg) := inb_of S9 ⟨by decide, by decide⟩
  obtain ⟨T10, h10, X10, e10, W10, st10⟩ := stR X8 hx hZ e8 Ar9 (j := (1 : Int32)) hin9 rfl (Sto.ofV Ar9 q9 Ov2 (Ins.self (OE_s_BYTE.ext O6.2))) (g := (mkF m 16 #[.val (.int px), .unset, .unset, .unset] [(.ref s_BYTE), (.int (1 : Int32)), (.ref b2), (.ref b2)])) rfl rfl (hb hby at_16)
  have r10 : own_R p e below _ _ T10 (mkF m 17 #[.val (.int px), .unset, .unset, .unset] [(.ref b2)]) := r8.trans fun z_ kt => st10 _ kt
  have N10 := Fr.snoc X10 N6 g_b2
  have O10 := O6.wr W10 g_b2
  have V10 : Arv Z h10 b2 k2 (.object "com/example/tenon/tenon/generator/JavaType") (7 : Int32) [(.ref s_BOOLEAN), (.ref s_BYTE), .null, .null, .null, .null, .null] .null := Arv.set Ar9 q9 S9 M9 H9 G9 rfl W10 1 rfl (Nat.le_of_ble_eq_true rfl)
  have r11 : own_R p e below _ _ T10 (mkF m 19 #[.val (.int px), .unset, .unset, .unset] [(.int (2 : Int32)), (.ref b2), (.ref b2)]) := r10.trans fun z_ kt => by
    show own_S p e below T10 (mkF m 17 #[.val (.int px), .unset, .unset, .unset] [(.ref b2)]) _
    refine XS.dup X10.here hx rfl (hb hby at_17) rfl rfl ?_
    show own_S p e below T10 (mkF m 18 #[.val (.int px), .unset, .unset, .unset] [(.ref b2), (.ref b2)]) _
    refine XS.iconst X10.here hx rfl (hb hby at_18) ?_
    exact kt
  obtain ⟨T12, X12, e12, st12⟩ := getS2 X10 hx hZ hown (host := "") (Or.inl (hw _ (own_g (i := 8) rfl))) Via.refl e10 (S_JavaType_SHORT.ext O10.2) (g := (mkF m 19 #[.val (.int px), .unset, .unset, .unset] [(.int (2 : Int32)), (.ref b2), (.ref b2)])) rfl (hb hby at_19)
  have r12 : own_R p e below _ _ T12 (mkF m 22 #[.val (.int px), .unset, .unset, .unset] [(.ref s_SHORT), (.int (2 : Int32)), (.ref b2), (.ref b2)]) := r11.trans fun z_ kt => st12 _ kt
  obtain ⟨cl13, Ar13, q13, S13, M13, H13, G13⟩ := id V10
  have hin13 : ¬ ((2 : Int32) < 0 ∨ cl13.slots.size ≤ ((2 : Int32)).toNatClampNeg) := inb_of S13 ⟨by decide, by decide⟩
  obtain ⟨T14, h14, X14, e14, W14, st14⟩ := stR X12 hx hZ e12 Ar13 (j := (2 : Int32)) hin13 rfl (Sto.ofV Ar13 q13 Ov2 (Ins.self (OE_s_SHORT.ext O10.2))) (g := (mkF m 22 #[.val (.int px), .unset, .unset, .unset] [(.ref s_SHORT), (.int (2 : Int32)), (.ref b2), (.ref b2)])) rfl rfl (hb hby at_22)
  have r14 : own_R p e below _ _ T14 (mkF m 23 #[.val (.int px), .unset, .unset, .unset] [(.ref b2)]) := r12.trans fun z_ kt => st14 _ kt
  have N14 := Fr.snoc X14 N10 g_b2
  have O14 := O10.wr W14 g_b2
  have V14 : Arv Z h14 b2 k2 (.object "com/example/tenon/tenon/generator/JavaType") (7 : Int32) [(.ref s_BOOLEAN), (.ref s_BYTE), (.ref s_SHORT), .null, .null, .null, .null] .null := Arv.set Ar13 q13 S13 M13 H13 G13 rfl W14 2 rfl (Nat.le_of_ble_eq_true rfl)
  have r15 : own_R p e below _ _ T14 (mkF m 25 #[.val (.int px), .unset, .unset, .unset] [(.int (3 : Int32)), (.ref b2), (.ref b2)]) := r14.trans fun z_ kt => by
    show own_S p e below T14 (mkF m 23 #[.val (.int px), .unset, .unset, .unset] [(.ref b2)]) _
    refine XS.dup X14.here hx rfl (hb hby at_23) rfl rfl ?_
    show own_S p e below T14 (mkF m 24 #[.val (.int px), .unset, .unset, .unset] [(.ref b2), (.ref b2)]) _
    refine XS.iconst X14.here hx rfl (hb hby at_24) ?_
    exact kt
  obtain ⟨T16, X16, e16, st16⟩ := getS2 X14 hx hZ hown (host := "") (Or.inl (hw _ (own_g (i := 10) rfl))) Via.refl e14 (S_JavaType_INT.ext O14.2) (g := (mkF m 25 #[.val (.int px), .unset, .unset, .unset] [(.int (3 : Int32)), (.ref b2), (.ref b2)])) rfl (hb hby at_25)
  have r16 : own_R p e below _ _ T16 (mkF m 28 #[.val (.int px), .unset, .unset, .unset] [(.ref s_INT), (.int (3 : Int32)), (.ref b2), (.ref b2)]) := r15.trans fun z_ kt => st16 _ kt
  obtain ⟨cl17, Ar17, q17, S17, M17, H17, G17⟩ := id V14
  have hin17 : ¬ ((3 : Int32) < 0 ∨ cl17.slots.size ≤ ((3 : Int32)).toNatClampNeg) := inb_of S17 ⟨by decide, by decide⟩
  obtain ⟨T18, h18, X18, e18, W18, st18⟩ := stR X16 hx hZ e16 Ar17 (j := (3 : Int32)) hin17 rfl (Sto.ofV Ar17 q17 Ov2 (Ins.self (OE_s_INT.ext O14.2))) (g := (mkF m 28 #[.val (.int px), .unset, .unset, .unset] [(.ref s_INT), (.int (3 : Int32)), (.ref b2), (.ref b2)])) rfl rfl (hb hby at_28)
  have r18 : own_R p e below _ _ T18 (mkF m 29 #[.val (.int px), .unset, .unset, .unset] [(.ref b2)]) := r16.trans fun z_ kt => st18 _ kt
  have N18 := Fr.snoc X18 N14 g_b2
  have O18 := O14.wr W18 g_b2
  have V18 : Arv Z h18 b2 k2 (.object "com/example/tenon/tenon/generator/JavaType") (7 : Int32) [(.ref s_BOOLEAN), (.ref s_BYTE), (.ref s_SHORT), (.ref s_INT), .null, .null, .null] .null := Arv.set Ar17 q17 S17 M17 H17 G17 rfl W18 3 rfl (Nat.le_of_ble_eq_true rfl)
  have r19 : own_R p e below _ _ T18 (mkF m 31 #[.val (.int px), .unset, .unset, .unset] [(.int (4 : Int32)), (.ref b2), (.ref b2)]) := r18.trans fun z_ kt => by
    show own_S p e below T18 (mkF m 29 #[.val (.int px), .unset, .unset, .unset] [(.ref b2)]) _
    refine XS.dup X18.here hx rfl (hb hby at_29) rfl rfl ?_
    show own_S p e below T18 (mkF m 30 #[.val (.int px), .unset, .unset, .unset] [(.ref b2), (.ref b2)]) _
    refine XS.iconst X18.here hx rfl (hb hby at_30) ?_
    exact kt
  obtain ⟨T20, X20, e20, st20⟩ := getS2 X18 hx hZ hown (host := "") (Or.inl (hw _ (own_g (i := 12) rfl))) Via.refl e18 (S_JavaType_LONG.ext O18.2) (g := (mkF m 31 #[.val (.int px), .unset, .unset, .unset] [(.int (4 : Int32)), (.ref b2), (.ref b2)])) rfl (hb hby at_31)
  have r20 : own_R p e below _ _ T20 (mkF m 34 #[.val (.int px), .unset, .unset, .unset] [(.ref s_LONG), (.int (4 : Int32)), (.ref b2), (.ref b2)]) := r19.trans fun z_ kt => st20 _ kt
  obtain ⟨cl21, Ar21, q21, S21, M21, H21, G21⟩ := id V18
  have hin21 : ¬ ((4 : Int32) < 0 ∨ cl21.slots.size ≤ ((4 : Int32)).toNatClampNeg) := inb_of S21 ⟨by decide, by decide⟩
  obtain ⟨T22, h22, X22, e22, W22, st22⟩ := stR X20 hx hZ e20 Ar21 (j := (4 : Int32)) hin21 rfl (Sto.ofV Ar21 q21 Ov2 (Ins.self (OE_s_LONG.ext O18.2))) (g := (mkF m 34 #[.val (.int px), .unset, .unset, .unset] [(.ref s_LONG), (.int (4 : Int32)), (.ref b2), (.ref b2)])) rfl rfl (hb hby at_34)
  have r22 : own_R p e below _ _ T22 (mkF m 35 #[.val (.int px), .unset, .unset, .unset] [(.ref b2)]) := r20.trans fun z_ kt => st22 _ kt
  have N22 := Fr.snoc X22 N18 g_b2
  have O22 := O18.wr W22 g_b2
  have V22 : Arv Z h22 b2 k2 (.object "com/example/tenon/tenon/generator/JavaType") (7 : Int32) [(.ref s_BOOLEAN), (.ref s_BYTE), (.ref s_SHORT), (.ref s_INT), (.ref s_LONG), .null, .null] .null := Arv.set Ar21 q21 S21 M21 H21 G21 rfl W22 4 rfl (Nat.le_of_ble_eq_true rfl)
  have r23 : own_R p e below _ _ T22 (mkF m 37 #[.val (.int px), .unset, .unset, .unset] [(.int (5 : Int32)), (.ref b2), (.ref b2)]) := r22.trans fun z_ kt => by
    show own_S p e below T22 (mkF m 35 #[.val (.int px), .unset, .unset, .unset] [(.ref b2)]) _
    refine XS.dup X22.here hx rfl (hb hby at_35) rfl rfl ?_
    show own_S p e below T22 (mkF m 36 #[.val (.int px), .unset, .unset, .unset] [(.ref b2), (.ref b2)]) _
    refine XS.iconst X22.here hx rfl (hb hby at_36) ?_
    exact kt
  obtain ⟨T24, X24, e24, st24⟩ := getS2 X22 hx hZ hown (host := "") (Or.inl (hw _ (own_g (i := 14) rfl))) Via.refl e22 (S_JavaType_FLOAT.ext O22.2) (g := (mkF m 37 #[.val (.int px), .unset, .unset, .unset] [(.int (5 : Int32)), (.ref b2), (.ref b2)])) rfl (hb hby at_37)
  have r24 : own_R p e below _ _ T24 (mkF m 40 #[.val (.int px), .unset, .unset, .unset] [(.ref s_FLOAT), (.int (5 : Int32)), (.ref b2), (.ref b2)]) := r23.trans fun z_ kt => st24 _ kt
  obtain ⟨cl25, Ar25, q25, S25, M25, H25, G25⟩ := id V22
  have hin25 : ¬ ((5 : Int32) < 0 ∨ cl25.slots.size ≤ ((5 : Int32)).toNatClampNeg) := inb_of S25 ⟨by decide, by decide⟩
  obtain ⟨T26, h26, X26, e26, W26, st26⟩ := stR X24 hx hZ e24 Ar25 (j := (5 : Int32)) hin25 rfl (Sto.ofV Ar25 q25 Ov2 (Ins.self (OE_s_FLOAT.ext O22.2))) (g := (mkF m 40 #[.val (.int px), .unset, .unset, .unset] [(.ref s_FLOAT), (.int (5 : Int32)), (.ref b2), (.ref b2)])) rfl rfl (hb hby at_40)
  have r26 : own_R p e below _ _ T26 (mkF m 41 #[.val (.int px), .unset, .unset, .unset] [(.ref b2)]) := r24.trans fun z_ kt => st26 _ kt
  have N26 := Fr.snoc X26 N22 g_b2
  have O26 := O22.wr W26 g_b2
  have V26 : Arv Z h26 b2 k2 (.object "com/example/tenon/tenon/generator/JavaType") (7 : Int32) [(.ref s_BOOLEAN), (.ref s_BYTE), (.ref s_SHORT), (.ref s_INT), (.ref s_LONG), (.ref s_FLOAT), .null] .null := Arv.set Ar25 q25 S25 M25 H25 G25 rfl W26 5 rfl (Nat.le_of_ble_eq_true rfl)
  have r27 : own_R p e below _ _ T26 (mkF m 44 #[.val (.int px), .unset, .unset, .unset] [(.int (6 : Int32)), (.ref b2), (.ref b2)]) := r26.trans fun z_ kt => by
    show own_S p e below T26 (mkF m 41 #[.val (.int px), .unset, .unset, .unset] [(.ref b2)]) _
    refine XS.dup X26.here hx rfl (hb hby at_41) rfl rfl ?_
    show own_S p e below T26 (mkF m 42 #[.val (.int px), .unset, .unset, .unset] [(.ref b2), (.ref b2)]) _
    refine XS.bipush X26.here hx rfl (hb hby at_42) ?_
    exact kt
  obtain ⟨T28, X28, e28, st28⟩ := getS2 X26 hx hZ hown (host := "") (Or.inl (hw _ (own_g (i := 16) rfl))) Via.refl e26 (S_JavaType_DOUBLE.ext O26.2) (g := (mkF m 44 #[.val (.int px), .unset, .unset, .unset] [(.int (6 : Int32)), (.ref b2), (.ref b2)])) rfl (hb hby at_44)
  have r28 : own_R p e below _ _ T28 (mkF m 47 #[.val (.int px), .unset, .unset, .unset] [(.ref s_DOUBLE), (.int (6 : Int32)), (.ref b2), (.ref b2)]) := r27.trans fun z_ kt => st28 _ kt
  obtain ⟨cl29, Ar29, q29, S29, M29, H29, G29⟩ := id V26
  have hin29 : ¬ ((6 : Int32) < 0 ∨ cl29.slots.size ≤ ((6 : Int32)).toNatClampNeg) := inb_of S29 ⟨by decide, by decide⟩
  obtain ⟨T30, h30, X30, e30, W30, st30⟩ := stR X28 hx hZ e28 Ar29 (j := (6 : Int32)) hin29 rfl (Sto.ofV Ar29 q29 Ov2 (Ins.self (OE_s_DOUBLE.ext O26.2))) (g := (mkF m 47 #[.val (.int px), .unset, .unset, .unset] [(.ref s_DOUBLE), (.int (6 : Int32)), (.ref b2), (.ref b2)])) rfl rfl (hb hby at_47)
  have r30 : own_R p e below _ _ T30 (mkF m 48 #[.val (.int px), .unset, .unset, .unset] [(.ref b2)]) := r28.trans fun z_ kt => st30 _ kt
  have N30 := Fr.snoc X30 N26 g_b2
  have O30 := O26.wr W30 g_b2
  have V30 : Arv Z h30 b2 k2 (.object "com/example/tenon/tenon/generator/JavaType") (7 : Int32) [(.ref s_BOOLEAN), (.ref s_BYTE), (.ref s_SHORT), (.ref s_INT), (.ref s_LONG), (.ref s_FLOAT), (.ref s_DOUBLE)] .null := Arv.set Ar29 q29 S29 M29 H29 G29 rfl W30 6 rfl (Nat.le_of_ble_eq_true rfl)
  have r31 : own_R p e below _ _ T30 (mkF m 51 #[.val (.int px), .val (.ref b2), .unset, .unset] [(.int (7 : Int32))]) := r30.trans fun z_ kt => by
    show own_S p e below T30 (mkF m 48 #[.val (.int px), .unset, .unset, .unset] [(.ref b2)]) _
    refine XS.astoreN X30.here hx rfl (hb hby at_48) rfl rfl (l' := #[.val (.int px), .val (.ref b2), .unset, .unset]) rfl ?_
    show own_S p e below T30 (mkF m 49 #[.val (.int px), .val (.ref b2), .unset, .unset] []) _
    refine XS.bipush X30.here hx rfl (hb hby at_49) ?_
    exact kt
  obtain ⟨T32, h32, k32, X32, e32, E32, A32, Ov32, st32⟩ := newR X30 hx hZ hown (hw _ (own_g (i := 0) rfl)) (hw _ (own_g (i := 1) rfl)) e30 (g := (mkF m 51 #[.val (.int px), .val (.ref b2), .unset, .unset] [(.int (7 : Int32))])) rfl (hb hby at_51) rfl (by decide) (cap := 7) (by decide) (by decide) (by decide) (by decide)
  obtain ⟨b32, g32⟩ : ∃ z, z = h30.size := ⟨_, rfl⟩
  rw [← g32] at A32 st32
  have r32 : own_R p e below _ _ T32 (mkF m 54 #[.val (.int px), .val (.ref b2), .unset, .unset] [(.ref b32)]) := r31.trans fun z_ kt => st32 _ kt
  have ne_b2_b32 : b2 ≠ b32 := Nat.ne_of_lt (Nat.lt_of_lt_of_le V30.lt (Nat.le_of_eq g32.symm))
  have g_b32 : n0 ≤ b32 := Nat.le_trans (own_old_size O30) (Nat.le_of_eq g32.symm)
  have O32 := O30.ext E32
  have V32 : Arv Z h32 b32 k32 (.object "com/example/tenon/tenon/generator/JavaType") (7 : Int32) [.null, .null, .null, .null, .null, .null, .null] .null := (Arv.new A32 (by decide)).pad (pad_rep [] .null 7)
  have r33 : own_R p e below _ _ T32 (mkF m 56 #[.val (.int px), .val (.ref b2), .unset, .unset] [(.int (0 : Int32)), (.ref b32), (.ref b32)]) := r32.trans fun z_ kt => by
    show own_S p e below T32 (mkF m 54 #[.val (.int px), .val (.ref b2), .unset, .unset] [(.ref b32)]) _
    refine XS.dup X32.here hx rfl (hb hby at_54) rfl rfl ?_
    show own_S p e below T32 (mkF m 55 #[.val (.int px), .val (.ref b2), .unset, .unset] [(.ref b32), (.ref b32)]) _
    refine XS.iconst X32.here hx rfl (hb hby at_55) ?_
    exact kt
  obtain ⟨T34, X34, e34, st34⟩ := getS2 X32 hx hZ hown (host := "") (Or.inl (hw _ (own_g (i := 18) rfl))) Via.refl e32 (S_JavaType_BOOLEAN_ARRAY.ext O32.2) (g := (mkF m 56 #[.val (.int px), .val (.ref b2), .unset, .unset] [(.int (0 : Int32)), (.ref b32), (.ref b32)])) rfl (hb hby at_56)
  have r34 : own_R p e below _ _ T34 (mkF m 59 #[.val (.int px), .val (.ref b2), .unset, .unset] [(.ref s_BOOLEAN_ARRAY), (.int (0 : Int32)), (.ref b32), (.ref b32)]) := r33.trans fun z_ kt => st34 _ kt
  obtain ⟨cl35, Ar35, q35, S35, M35, H35, G35⟩ := id V32
  have hin35 : ¬ ((0 : Int32) < 0 ∨ cl35.slots.size ≤ ((0 : Int32)).toNatClampNeg) := inb_of S35 ⟨by decide, by decide⟩
  obtain ⟨T36, h36, X36, e36, W36, st36⟩ := stR X34 hx hZ e34 Ar35 (j := (0 : Int32)) hin35 rfl (Sto.ofV Ar35 q35 Ov32 (Ins.self (OE_s_BOOLEAN_ARRAY.ext O32.2))) (g := (mkF m 59 #[.val (.int px), .val (.ref b2), .unset, .unset] [(.ref s_BOOLEAN_ARRAY), (.int (0 : Int32)), (.ref b32), (.ref b32)])) rfl rfl (hb hby at_59)
  have r36 : own_R p e below _ _ T36 (mkF m 60 #[.val (.int px), .val (.ref b2), .unset, .unset] [(.ref b32)]) := r34.trans fun z_ kt => st36 _ kt
  have N36 := Fr.snoc X36 N30 g_b32
  have O36 := O32.wr W36 g_b32
  have V36 : Arv Z h36 b32 k32 (.object "com/example/tenon/tenon/generator/JavaType") (7 : Int32) [(.ref s_BOOLEAN_ARRAY), .null, .null, .null, .null, .null, .null] .null := Arv.set Ar35 q35 S35 M35 H35 G35 rfl W36 0 rfl (Nat.le_of_ble_eq_true rfl)
  have r37 : own_R p e below _ _ T36 (mkF m 62 #[.val (.int px), .val (.ref b2), .unset, .unset] [(.int (1 : Int32)), (.ref b32), (.ref b32)]) := r36.trans fun z_ kt => by
    show own_S p e below T36 (mkF m 60 #[.val (.int px), .val (.ref b2), .unset, .unset] [(.ref b32)]) _
    refine XS.dup X36.here hx rfl (hb hby at_60) rfl rfl ?_
    show own_S p e below T36 (mkF m 61 #[.val (.int px), .val (.ref b2), .unset, .unset] [(.ref b32), (.ref b32)]) _
    refine XS.iconst X36.here hx rfl (hb hby at_61) ?_
    exact kt
  obtain ⟨T38, X38, e38, st38⟩ := getS2 X36 hx hZ hown (host := "") (Or.inl (hw _ (own_g (i := 20) rfl))) Via.refl e36 (S_JavaType_BYTE_ARRAY.ext O36.2) (g := (mkF m 62 #[.val (.int px), .val (.ref b2), .unset, .unset] [(.int (1 : Int32)), (.ref b32), (.ref b32)])) rfl (hb hby at_62)
  have r38 : own_R p e below _ _ T38 (mkF m 65 #[.val (.int px), .val (.ref b2), .unset, .unset] [(.ref s_BYTE_ARRAY), (.int (1 : Int32)), (.ref b32), (.ref b32)]) := r37.trans fun z_ kt => st38 _ kt
  obtain ⟨cl39, Ar39, q39, S39, M39, H39, G39⟩ := id V36
  have hin39 : ¬ ((1 : Int32) < 0 ∨ cl39.slots.size ≤ ((1 : Int32)).toNatClampNeg) := inb_of S39 ⟨by decide, by decide⟩
  obtain ⟨T40, h40, X40, e40, W40, st40⟩ := stR X38 hx hZ e38 Ar39 (j := (1 : Int32)) hin39 rfl (Sto.ofV Ar39 q39 Ov32 (Ins.self (OE_s_BYTE_ARRAY.ext O36.2))) (g := (mkF m 65 #[.val (.int px), .val (.ref b2), .unset, .unset] [(.ref s_BYTE_ARRAY), (.int (1 : Int32)), (.ref b32), (.ref b32)])) rfl rfl (hb hby at_65)
  have r40 : own_R p e below _ _ T40 (mkF m 66 #[.val (.int px), .val (.ref b2), .unset, .unset] [(.ref b32)]) := r38.trans fun z_ kt => st40 _ kt
  have N40 := Fr.snoc X40 N36 g_b32
  have O40 := O36.wr W40 g_b32
  have V40 : Arv Z h40 b32 k32 (.object "com/example/tenon/tenon/generator/JavaType") (7 : Int32) [(.ref s_BOOLEAN_ARRAY), (.ref s_BYTE_ARRAY), .null, .null, .null, .null, .null] .null := Arv.set Ar39 q39 S39 M39 H39 G39 rfl W40 1 rfl (Nat.le_of_ble_eq_true rfl)
  have r41 : own_R p e below _ _ T40 (mkF m 68 #[.val (.int px), .val (.ref b2), .unset, .unset] [(.int (2 : Int32)), (.ref b32), (.ref b32)]) := r40.trans fun z_ kt => by
    show own_S p e below T40 (mkF m 66 #[.val (.int px), .val (.ref b2), .unset, .unset] [(.ref b32)]) _
    refine XS.dup X40.here hx rfl (hb hby at_66) rfl rfl ?_
    show own_S p e below T40 (mkF m 67 #[.val (.int px), .val (.ref b2), .unset, .unset] [(.ref b32), (.ref b32)]) _
    refine XS.iconst X40.here hx rfl (hb hby at_67) ?_
    exact kt
  obtain ⟨T42, X42, e42, st42⟩ := getS2 X40 hx hZ hown (host := "") (Or.inl (hw _ (own_g (i := 22) rfl))) Via.refl e40 (S_JavaType_SHORT_ARRAY.ext O40.2) (g := (mkF m 68 #[.val (.int px), .val (.ref b2), .unset, .unset] [(.int (2 : Int32)), (.ref b32), (.ref b32)])) rfl (hb hby at_68)
  have r42 : own_R p e below _ _ T42 (mkF m 71 #[.val (.int px), .val (.ref b2), .unset, .unset] [(.ref s_SHORT_ARRAY), (.int (2 : Int32)), (.ref b32), (.ref b32)]) := r41.trans fun z_ kt => st42 _ kt
  obtain ⟨cl43, Ar43, q43, S43, M43, H43, G43⟩ := id V40
  have hin43 : ¬ ((2 : Int32) < 0 ∨ cl43.slots.size ≤ ((2 : Int32)).toNatClampNeg) := inb_of S43 ⟨by decide, by decide⟩
  obtain ⟨T44, h44, X44, e44, W44, st44⟩ := stR X42 hx hZ e42 Ar43 (j := (2 : Int32)) hin43 rfl (Sto.ofV Ar43 q43 Ov32 (Ins.self (OE_s_SHORT_ARRAY.ext O40.2))) (g := (mkF m 71 #[.val (.int px), .val (.ref b2), .unset, .unset] [(.ref s_SHORT_ARRAY), (.int (2 : Int32)), (.ref b32), (.ref b32)])) rfl rfl (hb hby at_71)
  have r44 : own_R p e below _ _ T44 (mkF m 72 #[.val (.int px), .val (.ref b2), .unset, .unset] [(.ref b32)]) := r42.trans fun z_ kt => st44 _ kt
  have N44 := Fr.snoc X44 N40 g_b32
  have O44 := O40.wr W44 g_b32
  have V44 : Arv Z h44 b32 k32 (.object "com/example/tenon/tenon/generator/JavaType") (7 : Int32) [(.ref s_BOOLEAN_ARRAY), (.ref s_BYTE_ARRAY), (.ref s_SHORT_ARRAY), .null, .null, .null, .null] .null := Arv.set Ar43 q43 S43 M43 H43 G43 rfl W44 2 rfl (Nat.le_of_ble_eq_true rfl)
  have r45 : own_R p e below _ _ T44 (mkF m 74 #[.val (.int px), .val (.ref b2), .unset, .unset] [(.int (3 : Int32)), (.ref b32), (.ref b32)]) := r44.trans fun z_ kt => by
    show own_S p e below T44 (mkF m 72 #[.val (.int px), .val (.ref b2), .unset, .unset] [(.ref b32)]) _
    refine XS.dup X44.here hx rfl (hb hby at_72) rfl rfl ?_
    show own_S p e below T44 (mkF m 73 #[.val (.int px), .val (.ref b2), .unset, .unset] [(.ref b32), (.ref b32)]) _
    refine XS.iconst X44.here hx rfl (hb hby at_73) ?_
    exact kt
  obtain ⟨T46, X46, e46, st46⟩ := getS2 X44 hx hZ hown (host := "") (Or.inl (hw _ (own_g (i := 24) rfl))) Via.refl e44 (S_JavaType_INT_ARRAY.ext O44.2) (g := (mkF m 74 #[.val (.int px), .val (.ref b2), .unset, .unset] [(.int (3 : Int32)), (.ref b32), (.ref b32)])) rfl (hb hby at_74)
  have r46 : own_R p e below _ _ T46 (mkF m 77 #[.val (.int px), .val (.ref b2), .unset, .unset] [(.ref s_INT_ARRAY), (.int (3 : Int32)), (.ref b32), (.ref b32)]) := r45.trans fun z_ kt => st46 _ kt
  obtain ⟨cl47, Ar47, q47, S47, M47, H47, G47⟩ := id V44
  have hin47 : ¬ ((3 : Int32) < 0 ∨ cl47.slots.size ≤ ((3 : Int32)).toNatClampNeg) := inb_of S47 ⟨by decide, by decide⟩
  obtain ⟨T48, h48, X48, e48, W48, st48⟩ := stR X46 hx hZ e46 Ar47 (j := (3 : Int32)) hin47 rfl (Sto.ofV Ar47 q47 Ov32 (Ins.self (OE_s_INT_ARRAY.ext O44.2))) (g := (mkF m 77 #[.val (.int px), .val (.ref b2), .unset, .unset] [(.ref s_INT_ARRAY), (.int (3 : Int32)), (.ref b32), (.ref b32)])) rfl rfl (hb hby at_77)
  have r48 : own_R p e below _ _ T48 (mkF m 78 #[.val (.int px), .val (.ref b2), .unset, .unset] [(.ref b32)]) := r46.trans fun z_ kt => st48 _ kt
  have N48 := Fr.snoc X48 N44 g_b32
  have O48 := O44.wr W48 g_b32
  have V48 : Arv Z h48 b32 k32 (.object "com/example/tenon/tenon/generator/JavaType") (7 : Int32) [(.ref s_BOOLEAN_ARRAY), (.ref s_BYTE_ARRAY), (.ref s_SHORT_ARRAY), (.ref s_INT_ARRAY), .null, .null, .null] .null := Arv.set Ar47 q47 S47 M47 H47 G47 rfl W48 3 rfl (Nat.le_of_ble_eq_true rfl)
  have r49 : own_R p e below _ _ T48 (mkF m 80 #[.val (.int px), .val (.ref b2), .unset, .unset] [(.int (4 : Int32)), (.ref b32), (.ref b32)]) := r48.trans fun z_ kt => by
    show own_S p e below T48 (mkF m 78 #[.val (.int px), .val (.ref b2), .unset, .unset] [(.ref b32)]) _
    refine XS.dup X48.here hx rfl (hb hby at_78) rfl rfl ?_
    show own_S p e below T48 (mkF m 79 #[.val (.int px), .val (.ref b2), .unset, .unset] [(.ref b32), (.ref b32)]) _
    refine XS.iconst X48.here hx rfl (hb hby at_79) ?_
    exact kt
  obtain ⟨T50, X50, e50, st50⟩ := getS2 X48 hx hZ hown (host := "") (Or.inl (hw _ (own_g (i := 26) rfl))) Via.refl e48 (S_JavaType_LONG_ARRAY.ext O48.2) (g := (mkF m 80 #[.val (.int px), .val (.ref b2), .unset, .unset] [(.int (4 : Int32)), (.ref b32), (.ref b32)])) rfl (hb hby at_80)
  have r50 : own_R p e below _ _ T50 (mkF m 83 #[.val (.int px), .val (.ref b2), .unset, .unset] [(.ref s_LONG_ARRAY), (.int (4 : Int32)), (.ref b32), (.ref b32)]) := r49.trans fun z_ kt => st50 _ kt
  obtain ⟨cl51, Ar51, q51, S51, M51, H51, G51⟩ := id V48
  have hin51 : ¬ ((4 : Int32) < 0 ∨ cl51.slots.size ≤ ((4 : Int32)).toNatClampNeg) := inb_of S51 ⟨by decide, by decide⟩
  obtain ⟨T52, h52, X52, e52, W52, st52⟩ := stR X50 hx hZ e50 Ar51 (j := (4 : Int32)) hin51 rfl (Sto.ofV Ar51 q51 Ov32 (Ins.self (OE_s_LONG_ARRAY.ext O48.2))) (g := (mkF m 83 #[.val (.int px), .val (.ref b2), .unset, .unset] [(.ref s_LONG_ARRAY), (.int (4 : Int32)), (.ref b32), (.ref b32)])) rfl rfl (hb hby at_83)
  have r52 : own_R p e below _ _ T52 (mkF m 84 #[.val (.int px), .val (.ref b2), .unset, .unset] [(.ref b32)]) := r50.trans fun z_ kt => st52 _ kt
  have N52 := Fr.snoc X52 N48 g_b32
  have O52 := O48.wr W52 g_b32
  have V52 : Arv Z h52 b32 k32 (.object "com/example/tenon/tenon/generator/JavaType") (7 : Int32) [(.ref s_BOOLEAN_ARRAY), (.ref s_BYTE_ARRAY), (.ref s_SHORT_ARRAY), (.ref s_INT_ARRAY), (.ref s_LONG_ARRAY), .null, .null] .null := Arv.set Ar51 q51 S51 M51 H51 G51 rfl W52 4 rfl (Nat.le_of_ble_eq_true rfl)
  have r53 : own_R p e below _ _ T52 (mkF m 86 #[.val (.int px), .val (.ref b2), .unset, .unset] [(.int (5 : Int32)), (.ref b32), (.ref b32)]) := r52.trans fun z_ kt => by
    show own_S p e below T52 (mkF m 84 #[.val (.int px), .val (.ref b2), .unset, .unset] [(.ref b32)]) _
    refine XS.dup X52.here hx rfl (hb hby at_84) rfl rfl ?_
    show own_S p e below T52 (mkF m 85 #[.val (.int px), .val (.ref b2), .unset, .unset] [(.ref b32), (.ref b32)]) _
    refine XS.iconst X52.here hx rfl (hb hby at_85) ?_
    exact kt
  obtain ⟨T54, X54, e54, st54⟩ := getS2 X52 hx hZ hown (host := "") (Or.inl (hw _ (own_g (i := 28) rfl))) Via.refl e52 (S_JavaType_FLOAT_ARRAY.ext O52.2) (g := (mkF m 86 #[.val (.int px), .val (.ref b2), .unset, .unset] [(.int (5 : Int32)), (.ref b32), (.ref b32)])) rfl (hb hby at_86)
  have r54 : own_R p e below _ _ T54 (mkF m 89 #[.val (.int px), .val (.ref b2), .unset, .unset] [(.ref s_FLOAT_ARRAY), (.int (5 : Int32)), (.ref b32), (.ref b32)]) := r53.trans fun z_ kt => st54 _ kt
  obtain ⟨cl55, Ar55, q55, S55, M55, H55, G55⟩ := id V52
  have hin55 : ¬ ((5 : Int32) < 0 ∨ cl55.slots.size ≤ ((5 : Int32)).toNatClampNeg) := inb_of S55 ⟨by decide, by decide⟩
  obtain ⟨T56, h56, X56, e56, W56, st56⟩ := stR X54 hx hZ e54 Ar55 (j := (5 : Int32)) hin55 rfl (Sto.ofV Ar55 q55 Ov32 (Ins.self (OE_s_FLOAT_ARRAY.ext O52.2))) (g := (mkF m 89 #[.val (.int px), .val (.ref b2), .unset, .unset] [(.ref s_FLOAT_ARRAY), (.int (5 : Int32)), (.ref b32), (.ref b32)])) rfl rfl (hb hby at_89)
  have r56 : own_R p e below _ _ T56 (mkF m 90 #[.val (.int px), .val (.ref b2), .unset, .unset] [(.ref b32)]) := r54.trans fun z_ kt => st56 _ kt
  have N56 := Fr.snoc X56 N52 g_b32
  have O56 := O52.wr W56 g_b32
  have V56 : Arv Z h56 b32 k32 (.object "com/example/tenon/tenon/generator/JavaType") (7 : Int32) [(.ref s_BOOLEAN_ARRAY), (.ref s_BYTE_ARRAY), (.ref s_SHORT_ARRAY), (.ref s_INT_ARRAY), (.ref s_LONG_ARRAY), (.ref s_FLOAT_ARRAY), .null] .null := Arv.set Ar55 q55 S55 M55 H55 G55 rfl W56 5 rfl (Nat.le_of_ble_eq_true rfl)
  have r57 : own_R p e below _ _ T56 (mkF m 93 #[.val (.int px), .val (.ref b2), .unset, .unset] [(.int (6 : Int32)), (.ref b32), (.ref b32)]) := r56.trans fun z_ kt => by
    show own_S p e below T56 (mkF m 90 #[.val (.int px), .val (.ref b2), .unset, .unset] [(.ref b32)]) _
    refine XS.dup X56.here hx rfl (hb hby at_90) rfl rfl ?_
    show own_S p e below T56 (mkF m 91 #[.val (.int px), .val (.ref b2), .unset, .unset] [(.ref b32), (.ref b32)]) _
    refine XS.bipush X56.here hx rfl (hb hby at_91) ?_
    exact kt
  obtain ⟨T58, X58, e58, st58⟩ := getS2 X56 hx hZ hown (host := "") (Or.inl (hw _ (own_g (i := 30) rfl))) Via.refl e56 (S_JavaType_DOUBLE_ARRAY.ext O56.2) (g := (mkF m 93 #[.val (.int px), .val (.ref b2), .unset, .unset] [(.int (6 : Int32)), (.ref b32), (.ref b32)])) rfl (hb hby at_93)
  have r58 : own_R p e below _ _ T58 (mkF m 96 #[.val (.int px), .val (.ref b2), .unset, .unset] [(.ref s_DOUBLE_ARRAY), (.int (6 : Int32)), (.ref b32), (.ref b32)]) := r57.trans fun z_ kt => st58 _ kt
  obtain ⟨cl59, Ar59, q59, S59, M59, H59, G59⟩ := id V56
  have hin59 : ¬ ((6 : Int32) < 0 ∨ cl59.slots.size ≤ ((6 : Int32)).toNatClampNeg) := inb_of S59 ⟨by decide, by decide⟩
  obtain ⟨T60, h60, X60, e60, W60, st60⟩ := stR X58 hx hZ e58 Ar59 (j := (6 : Int32)) hin59 rfl (Sto.ofV Ar59 q59 Ov32 (Ins.self (OE_s_DOUBLE_ARRAY.ext O56.2))) (g := (mkF m 96 #[.val (.int px), .val (.ref b2), .unset, .unset] [(.ref s_DOUBLE_ARRAY), (.int (6 : Int32)), (.ref b32), (.ref b32)])) rfl rfl (hb hby at_96)
  have r60 : own_R p e below _ _ T60 (mkF m 97 #[.val (.int px), .val (.ref b2), .unset, .unset] [(.ref b32)]) := r58.trans fun z_ kt => st60 _ kt
  have N60 := Fr.snoc X60 N56 g_b32
  have O60 := O56.wr W60 g_b32
  have V60 : Arv Z h60 b32 k32 (.object "com/example/tenon/tenon/generator/JavaType") (7 : Int32) [(.ref s_BOOLEAN_ARRAY), (.ref s_BYTE_ARRAY), (.ref s_SHORT_ARRAY), (.ref s_INT_ARRAY), (.ref s_LONG_ARRAY), (.ref s_FLOAT_ARRAY), (.ref s_DOUBLE_ARRAY)] .null := Arv.set Ar59 q59 S59 M59 H59 G59 rfl W60 6 rfl (Nat.le_of_ble_eq_true rfl)
  have r61 : own_R p e below _ _ T60 (mkF m 106 #[.val (.int px), .val (.ref b2), .val (.ref b32), .val (.int ((px &&& (2147483647 : Int32)) % (7 : Int32)))] []) := r60.trans fun z_ kt => by
    show own_S p e below T60 (mkF m 97 #[.val (.int px), .val (.ref b2), .unset, .unset] [(.ref b32)]) _
    refine XS.astoreN X60.here hx rfl (hb hby at_97) rfl rfl (l' := #[.val (.int px), .val (.ref b2), .val (.ref b32), .unset]) rfl ?_
    show own_S p e below T60 (mkF m 98 #[.val (.int px), .val (.ref b2), .val (.ref b32), .unset] []) _
    refine XS.iloadN X60.here hx rfl (hb hby at_98) rfl ?_
    show own_S p e below T60 (mkF m 99 #[.val (.int px), .val (.ref b2), .val (.ref b32), .unset] [(.int px)]) _
    refine X60.ldcInt hx hown (mvT hZ (hw _ (own_g (i := 32) rfl))) (g := (mkF m 99 #[.val (.int px), .val (.ref b2), .val (.ref b32), .unset] [(.int px)])) rfl (hb hby at_99) _ ?_
    show own_S p e below T60 (mkF m 101 #[.val (.int px), .val (.ref b2), .val (.ref b32), .unset] [(.int (2147483647 : Int32)), (.int px)]) _
    refine XS.iand X60.here hx rfl (hb hby at_101) rfl ?_
    show own_S p e below T60 (mkF m 102 #[.val (.int px), .val (.ref b2), .val (.ref b32), .unset] [(.int (px &&& (2147483647 : Int32)))]) _
    refine XS.bipush X60.here hx rfl (hb hby at_102) ?_
    show own_S p e below T60 (mkF m 104 #[.val (.int px), .val (.ref b2), .val (.ref b32), .unset] [(.int (7 : Int32)), (.int (px &&& (2147483647 : Int32)))]) _
    refine iremM X60 hx rfl (hb hby at_104) rfl (by decide) ?_
    show own_S p e below T60 (mkF m 105 #[.val (.int px), .val (.ref b2), .val (.ref b32), .unset] [(.int ((px &&& (2147483647 : Int32)) % (7 : Int32)))]) _
    refine XS.istoreN X60.here hx rfl (hb hby at_105) rfl (l' := #[.val (.int px), .val (.ref b2), .val (.ref b32), .val (.int ((px &&& (2147483647 : Int32)) % (7 : Int32)))]) rfl ?_
    exact kt
  obtain ⟨k, h_k⟩ : ∃ z, z = ((px &&& (2147483647 : Int32)) % (7 : Int32)) := ⟨_, rfl⟩
  rw [← h_k] at r61
  rcases own_split h_k with rfl | rfl | rfl | rfl | rfl | rfl | rfl
  · skip
    have f62 := ((((((((V30.ext E32).other W36 ne_b2_b32).other W40 ne_b2_b32).other W44 ne_b2_b32).other W48 ne_b2_b32).other W52 ne_b2_b32).other W56 ne_b2_b32).other W60 ne_b2_b32)
    have r64 : own_R p e below _ _ T60 (mkF m 108 #[.val (.int px), .val (.ref b2), .val (.ref b32), .val (.int (0 : Int32))] [(.int (0 : Int32)), (.ref b2)]) := r61.trans fun z_ kt => by
      show own_S p e below T60 (mkF m 106 #[.val (.int px), .val (.ref b2), .val (.ref b32), .val (.int (0 : Int32))] []) _
      refine XS.aloadN X60.here hx rfl (hb hby at_106) rfl rfl ?_
      show own_S p e below T60 (mkF m 107 #[.val (.int px), .val (.ref b2), .val (.ref b32), .val (.int (0 : Int32))] [(.ref b2)]) _
      refine XS.iloadN X60.here hx rfl (hb hby at_107) rfl ?_
      exact kt
    obtain ⟨cl63, Ar63, q63, S63, M63, H63, G63⟩ := id f62
    have hin63 : ¬ ((0 : Int32) < 0 ∨ cl63.slots.size ≤ ((0 : Int32)).toNatClampNeg) := inb_of S63 ⟨by decide, by decide⟩
    have hat63 : cl63.slots[((0 : Int32)).toNatClampNeg]? = some (.ref s_BOOLEAN) := Has.at H63 hin63 rfl
    have r65 : own_R p e below _ _ T60 (mkF m 109 #[.val (.int px), .val (.ref b2), .val (.ref b32), .val (.int (0 : Int32))] [(.ref s_BOOLEAN)]) := r64.trans fun z_ kt => by
      show own_S p e below T60 (mkF m 108 #[.val (.int px), .val (.ref b2), .val (.ref b32), .val (.int (0 : Int32))] [(.int (0 : Int32)), (.ref b2)]) _
      refine X60.aaload hx (j := (0 : Int32)) (v := (.ref s_BOOLEAN)) (by rw [e60]; exact Ar63.1) (State.isArrayOf_alike hZ.alike Ar63.2.1) rfl Ar63.2.2 hin63 hat63 (g := (mkF m 108 #[.val (.int px), .val (.ref b2), .val (.ref b32), .val (.int (0 : Int32))] [(.int (0 : Int32)), (.ref b2)])) rfl rfl (hb hby at_108) _ ?_
      exact kt
    obtain ⟨cq66, kq66, q66a, q66b, q66c⟩ := isOf hZ e60 (OE_s_BOOLEAN.ext O60.2)
    obtain ⟨_, _, ⟨T66, L66, cc66, n66⟩, -, X66, ⟨Lc66, hQ66, l66, y66, z66⟩, st66⟩ := X60.virtualBack hx (y := (⟨"com/example/tenon/tenon/generator/JavaType", "array", "()Lcom/example/tenon/tenon/generator/JavaType;"⟩ : MethodName)) (z := (⟨"com/example/tenon/tenon/generator/JavaType", "array", "()Lcom/example/tenon/tenon/generator/JavaType;"⟩ : MethodName)) hown (mvT hZ (hw _ (own_g (i := 33) rfl))) (mvT hZ (hw _ (own_g (i := 34) rfl))) (notFace_of_selects (args := #[]) (mvT hZ (hw _ (own_g (i := 36) rfl)))) (mvT hZ (hw _ (own_g (i := 36) rfl))) (mvT hZ (hw _ (own_g (i := 35) rfl))) (by decide) (backOf (W := 0) (rm_array l Z a0 hw [] (s_BOOLEAN) (s_BOOLEAN_ARRAY) (vv) (kk) (s_VOID) (s_BOOLEAN) (s_BYTE) (s_SHORT) (s_INT) (s_LONG) (s_FLOAT) (s_DOUBLE) (s_STRING) (s_BOOLEAN_ARRAY) (s_BYTE_ARRAY) (s_SHORT_ARRAY) (s_INT_ARRAY) (s_LONG_ARRAY) (s_FLOAT_ARRAY) (s_DOUBLE_ARRAY) h60 n0 O60 (S_JavaType__VALUES) (OE_vv) (OV_vv) (OF_s_VOID_element) (OF_s_BOOLEAN_element) (OF_s_BYTE_element) (OF_s_SHORT_element) (OF_s_INT_element) (OF_s_LONG_element) (OF_s_FLOAT_element) (OF_s_DOUBLE_element) (OF_s_STRING_element) (OF_s_BOOLEAN_ARRAY_element) (OF_s_BYTE_ARRAY_element) (OF_s_SHORT_ARRAY_element) (OF_s_INT_ARRAY_element) (OF_s_LONG_ARRAY_element) (OF_s_FLOAT_ARRAY_element) (OF_s_DOUBLE_ARRAY_element) (⟨fun _ => rfl, fun q => absurd q (Fld.ne OF_s_BYTE_ordinal OF_s_BOOLEAN_ordinal (by decide)), fun q => absurd q (Fld.ne OF_s_SHORT_ordinal OF_s_BOOLEAN_ordinal (by decide)), fun q => absurd q (Fld.ne OF_s_INT_ordinal OF_s_BOOLEAN_ordinal (by decide)), fun q => absurd q (Fld.ne OF_s_LONG_ordinal OF_s_BOOLEAN_ordinal (by decide)), fun q => absurd q (Fld.ne OF_s_FLOAT_ordinal OF_s_BOOLEAN_ordinal (by decide)), fun q => absurd q (Fld.ne OF_s_DOUBLE_ordinal OF_s_BOOLEAN_ordinal (by decide))⟩) (Or.inl rfl)) hZ (hw _ (own_g (i := 37) rfl)) (hw _ (own_g (i := 3) rfl)) (by decide) (by decide)) q66a q66c (g := (mkF m 109 #[.val (.int px), .val (.ref b2), .val (.ref b32), .val (.int (0 : Int32))] [(.ref s_BOOLEAN)])) rfl (by rw [hml]; rfl) (Steps.refl _) (argsL := []) (rest := []) (lenOf pd_1 rfl) rfl (by show 2 * 0 + _ ≤ _; exact Nat.le_of_eq rfl) (hb hby at_109) (fun _ _ => ⟨rfl, e60, (by decide : 2 + 1 ≤ _), (by decide : 14 + 16 ≤ _)⟩)
    dsimp only [Pt.U, Pt.locs, Pt.cells, Pt.slots] at X66 l66 y66 z66 st66 hQ66
    subst l66 y66 z66
    obtain ⟨h66, e66⟩ : ∃ z, T66.heap = z := ⟨_, rfl⟩
    rw [e66] at hQ66
    obtain ⟨rfl, Nq66, Kq66⟩ := hQ66
    have N66 := Fr.app N60 Nq66
    have r66 : own_R p e below _ _ T66 (mkF m 112 #[.val (.int px), .val (.ref b2), .val (.ref b32), .val (.int (0 : Int32))] [(.ref s_BOOLEAN_ARRAY)]) := r65.trans fun z_ kt => st66.trans kt
    have O66 := O60.keep Kq66 all0
    have f67 := (V60.keep Kq66 nin0)
    have r69 : own_R p e below _ _ T66 (mkF m 114 #[.val (.int px), .val (.ref b2), .val (.ref b32), .val (.int (0 : Int32))] [(.int (0 : Int32)), (.ref b32), (.ref s_BOOLEAN_ARRAY)]) := r66.trans fun z_ kt => by
      show own_S p e below T66 (mkF m 112 #[.val (.int px), .val (.ref b2), .val (.ref b32), .val (.int (0 : Int32))] [(.ref s_BOOLEAN_ARRAY)]) _
      refine XS.aloadN X66.here hx rfl (hb hby at_112) rfl rfl ?_
      show own_S p e below T66 (mkF m 113 #[.val (.int px), .val (.ref b2), .val (.ref b32), .val (.int (0 : Int32))] [(.ref b32), (.ref s_BOOLEAN_ARRAY)]) _
      refine XS.iloadN X66.here hx rfl (hb hby at_113) rfl ?_
      exact kt
    obtain ⟨cl68, Ar68, q68, S68, M68, H68, G68⟩ := id f67
    have hin68 : ¬ ((0 : Int32) < 0 ∨ cl68.slots.size ≤ ((0 : Int32)).toNatClampNeg) := inb_of S68 ⟨by decide, by decide⟩
    have hat68 : cl68.slots[((0 : Int32)).toNatClampNeg]? = some (.ref s_BOOLEAN_ARRAY) := Has.at H68 hin68 rfl
    have r70 : own_R p e below _ _ T66 (mkF m 123 #[.val (.int px), .val (.ref b2), .val (.ref b32), .val (.int (0 : Int32))] [(.int (1 : Int32))]) := r69.trans fun z_ kt => by
      show own_S p e below T66 (mkF m 114 #[.val (.int px), .val (.ref b2), .val (.ref b32), .val (.int (0 : Int32))] [(.int (0 : Int32)), (.ref b32), (.ref s_BOOLEAN_ARRAY)]) _
      refine X66.aaload hx (j := (0 : Int32)) (v := (.ref s_BOOLEAN_ARRAY)) (by rw [e66]; exact Ar68.1) (State.isArrayOf_alike hZ.alike Ar68.2.1) rfl Ar68.2.2 hin68 hat68 (g := (mkF m 114 #[.val (.int px), .val (.ref b2), .val (.ref b32), .val (.int (0 : Int32))] [(.int (0 : Int32)), (.ref b32), (.ref s_BOOLEAN_ARRAY)])) rfl rfl (hb hby at_114) _ ?_
      show own_S p e below T66 (mkF m 115 #[.val (.int px), .val (.ref b2), .val (.ref b32), .val (.int (0 : Int32))] [(.ref s_BOOLEAN_ARRAY), (.ref s_BOOLEAN_ARRAY)]) _
      refine Jvm.RoadKit.acmp (g := (mkF m 115 #[.val (.int px), .val (.ref b2), .val (.ref b32), .val (.int (0 : Int32))] [(.ref s_BOOLEAN_ARRAY), (.ref s_BOOLEAN_ARRAY)])) X66 hx rfl rfl rfl (pc0 := 115) (pc' := 118) (same := true) rfl (hb hby at_115) rfl (decide_eq_true rfl) (by decide) (by decide) ?_
      show own_S p e below T66 (mkF m 118 #[.val (.int px), .val (.ref b2), .val (.ref b32), .val (.int (0 : Int32))] []) _
      refine XS.iconst X66.here hx rfl (hb hby at_118) ?_
      show own_S p e below T66 (mkF m 119 #[.val (.int px), .val (.ref b2), .val (.ref b32), .val (.int (0 : Int32))] [(.int (1 : Int32))]) _
      refine XS.goto X66.here hx rfl (pc0 := 119) (pc' := 123) rfl (hb hby at_119) (by decide) (by decide) ?_
      exact kt
    obtain ⟨fs, hr, hrun, hended, hW, hsame⟩ := X66.leave (v := some (.int (1 : Int32))) (fun h => by rw [Bd.returns] at h; cases h)
    refine ⟨_, _, pre0 _ (r70 _ ?_), hrun, hended, _, _, rfl, ?_, ⟨_, rfl⟩, hW, hsame.mono (by decide) (by decide)⟩
    · exact retN X66 hx (t := .boolean) Bd.returns (by simp) (hb hby at_123) hr
    · show Q_law Z px vv kk s_VOID s_BOOLEAN s_BYTE s_SHORT s_INT s_LONG s_FLOAT s_DOUBLE s_STRING s_BOOLEAN_ARRAY s_BYTE_ARRAY s_SHORT_ARRAY s_INT_ARRAY s_LONG_ARRAY s_FLOAT_ARRAY s_DOUBLE_ARRAY h0 n0 _ T66.heap _
      rw [e66]
      exact ⟨rfl, N66⟩
  · skip
    have f71 := ((((((((V30.ext E32).other W36 ne_b2_b32).other W40 ne_b2_b32).other W44 ne_b2_b32).other W48 ne_b2_b32).other W52 ne_b2_b32).other W56 ne_b2_b32).other W60 ne_b2_b32)
    have r73 : own_R p e below _ _ T60 (mkF m 108 #[.val (.int px), .val (.ref b2), .val (.ref b32), .val (.int (1 : Int32))] [(.int (1 : Int32)), (.ref b2)]) := r61.trans fun z_ kt => by
      show own_S p e below T60 (mkF m 106 #[.val (.int px), .val (.ref b2), .val (.ref b32), .val (.int (1 : Int32))] []) _
      refine XS.aloadN X60.here hx rfl (hb hby at_106) rfl rfl ?_
      show own_S p e below T60 (mkF m 107 #[.val (.int px), .val (.ref b2), .val (.ref b32), .val (.int (1 : Int32))] [(.ref b2)]) _
      refine XS.iloadN X60.here hx rfl (hb hby at_107) rfl ?_
      exact kt
    obtain ⟨cl72, Ar72, q72, S72, M72, H72, G72⟩ := id f71
    have hin72 : ¬ ((1 : Int32) < 0 ∨ cl72.slots.size ≤ ((1 : Int32)).toNatClampNeg) := inb_of S72 ⟨by decide, by decide⟩
    have hat72 : cl72.slots[((1 : Int32)).toNatClampNeg]? = some (.ref s_BYTE) := Has.at H72 hin72 rfl
    have r74 : own_R p e below _ _ T60 (mkF m 109 #[.val (.int px), .val (.ref b2), .val (.ref b32), .val (.int (1 : Int32))] [(.ref s_BYTE)]) := r73.trans fun z_ kt => by
      show own_S p e below T60 (mkF m 108 #[.val (.int px), .val (.ref b2), .val (.ref b32), .val (.int (1 : Int32))] [(.int (1 : Int32)), (.ref b2)]) _
      refine X60.aaload hx (j := (1 : Int32)) (v := (.ref s_BYTE)) (by rw [e60]; exact Ar72.1) (State.isArrayOf_alike hZ.alike Ar72.2.1) rfl Ar72.2.2 hin72 hat72 (g := (mkF m 108 #[.val (.int px), .val (.ref b2), .val (.ref b32), .val (.int (1 : Int32))] [(.int (1 : Int32)), (.ref b2)])) rfl rfl (hb hby at_108) _ ?_
      exact kt
    obtain ⟨cq75, kq75, q75a, q75b, q75c⟩ := isOf hZ e60 (OE_s_BYTE.ext O60.2)
    obtain ⟨_, _, ⟨T75, L75, cc75, n75⟩, -, X75, ⟨Lc75, hQ75, l75, y75, z75⟩, st75⟩ := X60.virtualBack hx (y := (⟨"com/example/tenon/tenon/generator/JavaType", "array", "()Lcom/example/tenon/tenon/generator/JavaType;"⟩ : MethodName)) (z := (⟨"com/example/tenon/tenon/generator/JavaType", "array", "()Lcom/example/tenon/tenon/generator/JavaType;"⟩ : MethodName)) hown (mvT hZ (hw _ (own_g (i := 33) rfl))) (mvT hZ (hw _ (own_g (i := 34) rfl))) (notFace_of_selects (args := #[]) (mvT hZ (hw _ (own_g (i := 36) rfl)))) (mvT hZ (hw _ (own_g (i := 36) rfl))) (mvT hZ (hw _ (own_g (i := 35) rfl))) (by decide) (backOf (W := 0) (rm_array l Z a0 hw [] (s_BYTE) (s_BYTE_ARRAY) (vv) (kk) (s_VOID) (s_BOOLEAN) (s_BYTE) (s_SHORT) (s_INT) (s_LONG) (s_FLOAT) (s_DOUBLE) (s_STRING) (s_BOOLEAN_ARRAY) (s_BYTE_ARRAY) (s_SHORT_ARRAY) (s_INT_ARRAY) (s_LONG_ARRAY) (s_FLOAT_ARRAY) (s_DOUBLE_ARRAY) h60 n0 O60 (S_JavaType__VALUES) (OE_vv) (OV_vv) (OF_s_VOID_element) (OF_s_BOOLEAN_element) (OF_s_BYTE_element) (OF_s_SHORT_element) (OF_s_INT_element) (OF_s_LONG_element) (OF_s_FLOAT_element) (OF_s_DOUBLE_element) (OF_s_STRING_element) (OF_s_BOOLEAN_ARRAY_element) (OF_s_BYTE_ARRAY_element) (OF_s_SHORT_ARRAY_element) (OF_s_INT_ARRAY_element) (OF_s_LONG_ARRAY_element) (OF_s_FLOAT_ARRAY_element) (OF_s_DOUBLE_ARRAY_element) (⟨fun q => absurd q (Fld.ne OF_s_BOOLEAN_ordinal OF_s_BYTE_ordinal (by decide)), fun _ => rfl, fun q => absurd q (Fld.ne OF_s_SHORT_ordinal OF_s_BYTE_ordinal (by decide)), fun q => absurd q (Fld.ne OF_s_INT_ordinal OF_s_BYTE_ordinal (by decide)), fun q => absurd q (Fld.ne OF_s_LONG_ordinal OF_s_BYTE_ordinal (by decide)), fun q => absurd q (Fld.ne OF_s_FLOAT_ordinal OF_s_BYTE_ordinal (by decide)), fun q => absurd q (Fld.ne OF_s_DOUBLE_ordinal OF_s_BYTE_ordinal (by decide))⟩) (Or.inr (Or.inl rfl))) hZ (hw _ (own_g (i := 37) rfl)) (hw _ (own_g (i := 3) rfl)) (by decide) (by decide)) q75a q75c (g := (mkF m 109 #[.val (.int px), .val (.ref b2), .val (.ref b32), .val (.int (1 : Int32))] [(.ref s_BYTE)])) rfl (by rw [hml]; rfl) (Steps.refl _) (argsL := []) (rest := []) (lenOf pd_1 rfl) rfl (by show 2 * 0 + _ ≤ _; exact Nat.le_of_eq rfl) (hb hby at_109) (fun _ _ => ⟨rfl, e60, (by decide : 2 + 1 ≤ _), (by decide : 14 + 16 ≤ _)⟩)
    dsimp only [Pt.U, Pt.locs, Pt.cells, Pt.slots] at X75 l75 y75 z75 st75 hQ75
    subst l75 y75 z75
    obtain ⟨h75, e75⟩ : ∃ z, T75.heap = z := ⟨_, rfl⟩
    rw [e75] at hQ75
    obtain ⟨rfl, Nq75, Kq75⟩ := hQ75
    have N75 := Fr.app N60 Nq75
    have r75 : own_R p e below _ _ T75 (mkF m 112 #[.val (.int px), .val (.ref b2), .val (.ref b32), .val (.int (1 : Int32))] [(.ref s_BYTE_ARRAY)]) := r74.trans fun z_ kt => st75.trans kt
    have O75 := O60.keep Kq75 all0
    have f76 := (V60.keep Kq75 nin0)
    have r78 : own_R p e below _ _ T75 (mkF m 114 #[.val (.int px), .val (.ref b2), .val (.ref b32), .val (.int (1 : Int32))] [(.int (1 : Int32)), (.ref b32), (.ref s_BYTE_ARRAY)]) := r75.trans fun z_ kt => by
      show own_S p e below T75 (mkF m 112 #[.val (.int px), .val (.ref b2), .val (.ref b32), .val (.int (1 : Int32))] [(.ref s_BYTE_ARRAY)]) _
      refine XS.aloadN X75.here hx rfl (hb hby at_112) rfl rfl ?_
      show own_S p e below T75 (mkF m 113 #[.val (.int px), .val (.ref b2), .val (.ref b32), .val (.int (1 : Int32))] [(.ref b32), (.ref s_BYTE_ARRAY)]) _
      refine XS.iloadN X75.here hx rfl (hb hby at_113) rfl ?_
      exact kt
    obtain ⟨cl77, Ar77, q77, S77, M77, H77, G77⟩ := id f76
    have hin77 : ¬ ((1 : Int32) < 0 ∨ cl77.slots.size ≤ ((1 : Int32)).toNatClampNeg) := inb_of S77 ⟨by decide, by decide⟩
    have hat77 : cl77.slots[((1 : Int32)).toNatClampNeg]? = some (.ref s_BYTE_ARRAY) := Has.at H77 hin77 rfl
    have r79 : own_R p e below _ _ T75 (mkF m 123 #[.val (.int px), .val (.ref b2), .val (.ref b32), .val (.int (1 : Int32))] [(.int (1 : Int32))]) := r78.trans fun z_ kt => by
      show own_S p e below T75 (mkF m 114 #[.val (.int px), .val (.ref b2), .val (.ref b32), .val (.int (1 : Int32))] [(.int (1 : Int32)), (.ref b32), (.ref s_BYTE_ARRAY)]) _
      refine X75.aaload hx (j := (1 : Int32)) (v := (.ref s_BYTE_ARRAY)) (by rw [e75]; exact Ar77.1) (State.isArrayOf_alike hZ.alike Ar77.2.1) rfl Ar77.2.2 hin77 hat77 (g := (mkF m 114 #[.val (.int px), .val (.ref b2), .val (.ref b32), .val (.int (1 : Int32))] [(.int (1 : Int32)), (.ref b32), (.ref s_BYTE_ARRAY)])) rfl rfl (hb hby at_114) _ ?_
      show own_S p e below T75 (mkF m 115 #[.val (.int px), .val (.ref b2), .val (.ref b32), .val (.int (1 : Int32))] [(.ref s_BYTE_ARRAY), (.ref s_BYTE_ARRAY)]) _
      refine Jvm.RoadKit.acmp (g := (mkF m 115 #[.val (.int px), .val (.ref b2), .val (.ref b32), .val (.int (1 : Int32))] [(.ref s_BYTE_ARRAY), (.ref s_BYTE_ARRAY)])) X75 hx rfl rfl rfl (pc0 := 115) (pc' := 118) (same := true) rfl (hb hby at_115) rfl (decide_eq_true rfl) (by decide) (by decide) ?_
      show own_S p e below T75 (mkF m 118 #[.val (.int px), .val (.ref b2), .val (.ref b32), .val (.int (1 : Int32))] []) _
      refine XS.iconst X75.here hx rfl (hb hby at_118) ?_
      show own_S p e below T75 (mkF m 119 #[.val (.int px), .val (.ref b2), .val (.ref b32), .val (.int (1 : Int32))] [(.int (1 : Int32))]) _
      refine XS.goto X75.here hx rfl (pc0 := 119) (pc' := 123) rfl (hb hby at_119) (by decide) (by decide) ?_
      exact kt
    obtain ⟨fs, hr, hrun, hended, hW, hsame⟩ := X75.leave (v := some (.int (1 : Int32))) (fun h => by rw [Bd.returns] at h; cases h)
    refine ⟨_, _, pre0 _ (r79 _ ?_), hrun, hended, _, _, rfl, ?_, ⟨_, rfl⟩, hW, hsame.mono (by decide) (by decide)⟩
    · exact retN X75 hx (t := .boolean) Bd.returns (by simp) (hb hby at_123) hr
    · show Q_law Z px vv kk s_VOID s_BOOLEAN s_BYTE s_SHORT s_INT s_LONG s_FLOAT s_DOUBLE s_STRING s_BOOLEAN_ARRAY s_BYTE_ARRAY s_SHORT_ARRAY s_INT_ARRAY s_LONG_ARRAY s_FLOAT_ARRAY s_DOUBLE_ARRAY h0 n0 _ T75.heap _
      rw [e75]
      exact ⟨rfl, N75⟩
  · skip
    have f80 := ((((((((V30.ext E32).other W36 ne_b2_b32).other W40 ne_b2_b32).other W44 ne_b2_b32).other W48 ne_b2_b32).other W52 ne_b2_b32).other W56 ne_b2_b32).other W60 ne_b2_b32)
    have r82 : own_R p e below _ _ T60 (mkF m 108 #[.val (.int px), .val (.ref b2), .val (.ref b32), .val (.int (2 : Int32))] [(.int (2 : Int32)), (.ref b2)]) := r61.trans fun z_ kt => by
      show own_S p e below T60 (mkF m 106 #[.val (.int px), .val (.ref b2), .val (.ref b32), .val (.int (2 : Int32))] []) _
      refine XS.aloadN X60.here hx rfl (hb hby at_106) rfl rfl ?_
      show own_S p e below T60 (mkF m 107 #[.val (.int px), .val (.ref b2), .val (.ref b32), .val (.int (2 : Int32))] [(.ref b2)]) _
      refine XS.iloadN X60.here hx rfl (hb hby at_107) rfl ?_
      exact kt
    obtain ⟨cl81, Ar81, q81, S81, M81, H81, G81⟩ := id f80
    have hin81 : ¬ ((2 : Int32) < 0 ∨ cl81.slots.size ≤ ((2 : Int32)).toNatClampNeg) := inb_of S81 ⟨by decide, by decide⟩
    have hat81 : cl81.slots[((2 : Int32)).toNatClampNeg]? = some (.ref s_SHORT) := Has.at H81 hin81 rfl
    have r83 : own_R p e below _ _ T60 (mkF m 109 #[.val (.int px), .val (.ref b2), .val (.ref b32), .val (.int (2 : Int32))] [(.ref s_SHORT)]) := r82.trans fun z_ kt => by
      show own_S p e below T60 (mkF m 108 #[.val (.int px), .val (.ref b2), .val (.ref b32), .val (.int (2 : Int32))] [(.int (2 : Int32)), (.ref b2)]) _
      refine X60.aaload hx (j := (2 : Int32)) (v := (.ref s_SHORT)) (by rw [e60]; exact Ar81.1) (State.isArrayOf_alike hZ.alike Ar81.2.1) rfl Ar81.2.2 hin81 hat81 (g := (mkF m 108 #[.val (.int px), .val (.ref b2), .val (.ref b32), .val (.int (2 : Int32))] [(.int (2 : Int32)), (.ref b2)])) rfl rfl (hb hby at_108) _ ?_
      exact kt
    obtain ⟨cq84, kq84, q84a, q84b, q84c⟩ := isOf hZ e60 (OE_s_SHORT.ext O60.2)
    obtain ⟨_, _, ⟨T84, L84, cc84, n84⟩, -, X84, ⟨Lc84, hQ84, l84, y84, z84⟩, st84⟩ := X60.virtualBack hx (y := (⟨"com/example/tenon/tenon/generator/JavaType", "array", "()Lcom/example/tenon/tenon/generator/JavaType;"⟩ : MethodName)) (z := (⟨"com/example/tenon/tenon/generator/JavaType", "array", "()Lcom/example/tenon/tenon/generator/JavaType;"⟩ : MethodName)) hown (mvT hZ (hw _ (own_g (i := 33) rfl))) (mvT hZ (hw _ (own_g (i := 34) rfl))) (notFace_of_selects (args := #[]) (mvT hZ (hw _ (own_g (i := 36) rfl)))) (mvT hZ (hw _ (own_g (i := 36) rfl))) (mvT hZ (hw _ (own_g (i := 35) rfl))) (by decide) (backOf (W := 0) (rm_array l Z a0 hw [] (s_SHORT) (s_SHORT_ARRAY) (vv) (kk) (s_VOID) (s_BOOLEAN) (s_BYTE) (s_SHORT) (s_INT) (s_LONG) (s_FLOAT) (s_DOUBLE) (s_STRING) (s_BOOLEAN_ARRAY) (s_BYTE_ARRAY) (s_SHORT_ARRAY) (s_INT_ARRAY) (s_LONG_ARRAY) (s_FLOAT_ARRAY) (s_DOUBLE_ARRAY) h60 n0 O60 (S_JavaType__VALUES) (OE_vv) (OV_vv) (OF_s_VOID_element) (OF_s_BOOLEAN_element) (OF_s_BYTE_element) (OF_s_SHORT_element) (OF_s_INT_element) (OF_s_LONG_element) (OF_s_FLOAT_element) (OF_s_DOUBLE_element) (OF_s_STRING_element) (OF_s_BOOLEAN_ARRAY_element) (OF_s_BYTE_ARRAY_element) (OF_s_SHORT_ARRAY_element) (OF_s_INT_ARRAY_element) (OF_s_LONG_ARRAY_element) (OF_s_FLOAT_ARRAY_element) (OF_s_DOUBLE_ARRAY_element) (⟨fun q => absurd q (Fld.ne OF_s_BOOLEAN_ordinal OF_s_SHORT_ordinal (by decide)), fun q => absurd q (Fld.ne OF_s_BYTE_ordinal OF_s_SHORT_ordinal (by decide)), fun _ => rfl, fun q => absurd q (Fld.ne OF_s_INT_ordinal OF_s_SHORT_ordinal (by decide)), fun q => absurd q (Fld.ne OF_s_LONG_ordinal OF_s_SHORT_ordinal (by decide)), fun q => absurd q (Fld.ne OF_s_FLOAT_ordinal OF_s_SHORT_ordinal (by decide)), fun q => absurd q (Fld.ne OF_s_DOUBLE_ordinal OF_s_SHORT_ordinal (by decide))⟩) (Or.inr (Or.inr (Or.inl rfl)))) hZ (hw _ (own_g (i := 37) rfl)) (hw _ (own_g (i := 3) rfl)) (by decide) (by decide)) q84a q84c (g := (mkF m 109 #[.val (.int px), .val (.ref b2), .val (.ref b32), .val (.int (2 : Int32))] [(.ref s_SHORT)])) rfl (by rw [hml]; rfl) (Steps.refl _) (argsL := []) (rest := []) (lenOf pd_1 rfl) rfl (by show 2 * 0 + _ ≤ _; exact Nat.le_of_eq rfl) (hb hby at_109) (fun _ _ => ⟨rfl, e60, (by decide : 2 + 1 ≤ _), (by decide : 14 + 16 ≤ _)⟩)
    dsimp only [Pt.U, Pt.locs, Pt.cells, Pt.slots] at X84 l84 y84 z84 st84 hQ84
    subst l84 y84 z84
    obtain ⟨h84, e84⟩ : ∃ z, T84.heap = z := ⟨_, rfl⟩
    rw [e84] at hQ84
    obtain ⟨rfl, Nq84, Kq84⟩ := hQ84
    have N84 := Fr.app N60 Nq84
    have r84 : own_R p e below _ _ T84 (mkF m 112 #[.val (.int px), .val (.ref b2), .val (.ref b32), .val (.int (2 : Int32))] [(.ref s_SHORT_ARRAY)]) := r83.trans fun z_ kt => st84.trans kt
    have O84 := O60.keep Kq84 all0
    have f85 := (V60.keep Kq84 nin0)
    have r87 : own_R p e below _ _ T84 (mkF m 114 #[.val (.int px), .val (.ref b2), .val (.ref b32), .val (.int (2 : Int32))] [(.int (2 : Int32)), (.ref b32), (.ref s_SHORT_ARRAY)]) := r84.trans fun z_ kt => by
      show own_S p e below T84 (mkF m 112 #[.val (.int px), .val (.ref b2), .val (.ref b32), .val (.int (2 : Int32))] [(.ref s_SHORT_ARRAY)]) _
      refine XS.aloadN X84.here hx rfl (hb hby at_112) rfl rfl ?_
      show own_S p e below T84 (mkF m 113 #[.val (.int px), .val (.ref b2), .val (.ref b32), .val (.int (2 : Int32))] [(.ref b32), (.ref s_SHORT_ARRAY)]) _
      refine XS.iloadN X84.here hx rfl (hb hby at_113) rfl ?_
      exact kt
    obtain ⟨cl86, Ar86, q86, S86, M86, H86, G86⟩ := id f85
    have hin86 : ¬ ((2 : Int32) < 0 ∨ cl86.slots.size ≤ ((2 : Int32)).toNatClampNeg) := inb_of S86 ⟨by decide, by decide⟩
    have hat86 : cl86.slots[((2 : Int32)).toNatClampNeg]? = some (.ref s_SHORT_ARRAY) := Has.at H86 hin86 rfl
    have r88 : own_R p e below _ _ T84 (mkF m 123 #[.val (.int px), .val (.ref b2), .val (.ref b32), .val (.int (2 : Int32))] [(.int (1 : Int32))]) := r87.trans fun z_ kt => by
      show own_S p e below T84 (mkF m 114 #[.val (.int px), .val (.ref b2), .val (.ref b32), .val (.int (2 : Int32))] [(.int (2 : Int32)), (.ref b32), (.ref s_SHORT_ARRAY)]) _
      refine X84.aaload hx (j := (2 : Int32)) (v := (.ref s_SHORT_ARRAY)) (by rw [e84]; exact Ar86.1) (State.isArrayOf_alike hZ.alike Ar86.2.1) rfl Ar86.2.2 hin86 hat86 (g := (mkF m 114 #[.val (.int px), .val (.ref b2), .val (.ref b32), .val (.int (2 : Int32))] [(.int (2 : Int32)), (.ref b32), (.ref s_SHORT_ARRAY)])) rfl rfl (hb hby at_114) _ ?_
      show own_S p e below T84 (mkF m 115 #[.val (.int px), .val (.ref b2), .val (.ref b32), .val (.int (2 : Int32))] [(.ref s_SHORT_ARRAY), (.ref s_SHORT_ARRAY)]) _
      refine Jvm.RoadKit.acmp (g := (mkF m 115 #[.val (.int px), .val (.ref b2), .val (.ref b32), .val (.int (2 : Int32))] [(.ref s_SHORT_ARRAY), (.ref s_SHORT_ARRAY)])) X84 hx rfl rfl rfl (pc0 := 115) (pc' := 118) (same := true) rfl (hb hby at_115) rfl (decide_eq_true rfl) (by decide) (by decide) ?_
      show own_S p e below T84 (mkF m 118 #[.val (.int px), .val (.ref b2), .val (.ref b32), .val (.int (2 : Int32))] []) _
      refine XS.iconst X84.here hx rfl (hb hby at_118) ?_
      show own_S p e below T84 (mkF m 119 #[.val (.int px), .val (.ref b2), .val (.ref b32), .val (.int (2 : Int32))] [(.int (1 : Int32))]) _
      refine XS.goto X84.here hx rfl (pc0 := 119) (pc' := 123) rfl (hb hby at_119) (by decide) (by decide) ?_
      exact kt
    obtain ⟨fs, hr, hrun, hended, hW, hsame⟩ := X84.leave (v := some (.int (1 : Int32))) (fun h => by rw [Bd.returns] at h; cases h)
    refine ⟨_, _, pre0 _ (r88 _ ?_), hrun, hended, _, _, rfl, ?_, ⟨_, rfl⟩, hW, hsame.mono (by decide) (by decide)⟩
    · exact retN X84 hx (t := .boolean) Bd.returns (by simp) (hb hby at_123) hr
    · show Q_law Z px vv kk s_VOID s_BOOLEAN s_BYTE s_SHORT s_INT s_LONG s_FLOAT s_DOUBLE s_STRING s_BOOLEAN_ARRAY s_BYTE_ARRAY s_SHORT_ARRAY s_INT_ARRAY s_LONG_ARRAY s_FLOAT_ARRAY s_DOUBLE_ARRAY h0 n0 _ T84.heap _
      rw [e84]
      exact ⟨rfl, N84⟩
  · skip
    have f89 := ((((((((V30.ext E32).other W36 ne_b2_b32).other W40 ne_b2_b32).other W44 ne_b2_b32).other W48 ne_b2_b32).other W52 ne_b2_b32).other W56 ne_b2_b32).other W60 ne_b2_b32)
    have r91 : own_R p e below _ _ T60 (mkF m 108 #[.val (.int px), .val (.ref b2), .val (.ref b32), .val (.int (3 : Int32))] [(.int (3 : Int32)), (.ref b2)]) := r61.trans fun z_ kt => by
      show own_S p e below T60 (mkF m 106 #[.val (.int px), .val (.ref b2), .val (.ref b32), .val (.int (3 : Int32))] []) _
      refine XS.aloadN X60.here hx rfl (hb hby at_106) rfl rfl ?_
      show own_S p e below T60 (mkF m 107 #[.val (.int px), .val (.ref b2), .val (.ref b32), .val (.int (3 : Int32))] [(.ref b2)]) _
      refine XS.iloadN X60.here hx rfl (hb hby at_107) rfl ?_
      exact kt
    obtain ⟨cl90, Ar90, q90, S90, M90, H90, G90⟩ := id f89
    have hin90 : ¬ ((3 : Int32) < 0 ∨ cl90.slots.size ≤ ((3 : Int32)).toNatClampNeg) := inb_of S90 ⟨by decide, by decide⟩
    have hat90 : cl90.slots[((3 : Int32)).toNatClampNeg]? = some (.ref s_INT) := Has.at H90 hin90 rfl
    have r92 : own_R p e below _ _ T60 (mkF m 109 #[.val (.int px), .val (.ref b2), .val (.ref b32), .val (.int (3 : Int32))] [(.ref s_INT)]) := r91.trans fun z_ kt => by
      show own_S p e below T60 (mkF m 108 #[.val (.int px), .val (.ref b2), .val (.ref b32), .val (.int (3 : Int32))] [(.int (3 : Int32)), (.ref b2)]) _
      refine X60.aaload hx (j := (3 : Int32)) (v := (.ref s_INT)) (by rw [e60]; exact Ar90.1) (State.isArrayOf_alike hZ.alike Ar90.2.1) rfl Ar90.2.2 hin90 hat90 (g := (mkF m 108 #[.val (.int px), .val (.ref b2), .val (.ref b32), .val (.int (3 : Int32))] [(.int (3 : Int32)), (.ref b2)])) rfl rfl (hb hby at_108) _ ?_
      exact kt
    obtain ⟨cq93, kq93, q93a, q93b, q93c⟩ := isOf hZ e60 (OE_s_INT.ext O60.2)
    obtain ⟨_, _, ⟨T93, L93, cc93, n93⟩, -, X93, ⟨Lc93, hQ93, l93, y93, z93⟩, st93⟩ := X60.virtualBack hx (y := (⟨"com/example/tenon/tenon/generator/JavaType", "array", "()Lcom/example/tenon/tenon/generator/JavaType;"⟩ : MethodName)) (z := (⟨"com/example/tenon/tenon/generator/JavaType", "array", "()Lcom/example/tenon/tenon/generator/JavaType;"⟩ : MethodName)) hown (mvT hZ (hw _ (own_g (i := 33) rfl))) (mvT hZ (hw _ (own_g (i := 34) rfl))) (notFace_of_selects (args := #[]) (mvT hZ (hw _ (own_g (i := 36) rfl)))) (mvT hZ (hw _ (own_g (i := 36) rfl))) (mvT hZ (hw _ (own_g (i := 35) rfl))) (by decide) (backOf (W := 0) (rm_array l Z a0 hw [] (s_INT) (s_INT_ARRAY) (vv) (kk) (s_VOID) (s_BOOLEAN) (s_BYTE) (s_SHORT) (s_INT) (s_LONG) (s_FLOAT) (s_DOUBLE) (s_STRING) (s_BOOLEAN_ARRAY) (s_BYTE_ARRAY) (s_SHORT_ARRAY) (s_INT_ARRAY) (s_LONG_ARRAY) (s_FLOAT_ARRAY) (s_DOUBLE_ARRAY) h60 n0 O60 (S_JavaType__VALUES) (OE_vv) (OV_vv) (OF_s_VOID_element) (OF_s_BOOLEAN_element) (OF_s_BYTE_element) (OF_s_SHORT_element) (OF_s_INT_element) (OF_s_LONG_element) (OF_s_FLOAT_element) (OF_s_DOUBLE_element) (OF_s_STRING_element) (OF_s_BOOLEAN_ARRAY_element) (OF_s_BYTE_ARRAY_element) (OF_s_SHORT_ARRAY_element) (OF_s_INT_ARRAY_element) (OF_s_LONG_ARRAY_element) (OF_s_FLOAT_ARRAY_element) (OF_s_DOUBLE_ARRAY_element) (⟨fun q => absurd q (Fld.ne OF_s_BOOLEAN_ordinal OF_s_INT_ordinal (by decide)), fun q => absurd q (Fld.ne OF_s_BYTE_ordinal OF_s_INT_ordinal (by decide)), fun q => absurd q (Fld.ne OF_s_SHORT_ordinal OF_s_INT_ordinal (by decide)), fun _ => rfl, fun q => absurd q (Fld.ne OF_s_LONG_ordinal OF_s_INT_ordinal (by decide)), fun q => absurd q (Fld.ne OF_s_FLOAT_ordinal OF_s_INT_ordinal (by decide)), fun q => absurd q (Fld.ne OF_s_DOUBLE_ordinal OF_s_INT_ordinal (by decide))⟩) (Or.inr (Or.inr (Or.inr (Or.inl rfl))))) hZ (hw _ (own_g (i := 37) rfl)) (hw _ (own_g (i := 3) rfl)) (by decide) (by decide)) q93a q93c (g := (mkF m 109 #[.val (.int px), .val (.ref b2), .val (.ref b32), .val (.int (3 : Int32))] [(.ref s_INT)])) rfl (by rw [hml]; rfl) (Steps.refl _) (argsL := []) (rest := []) (lenOf pd_1 rfl) rfl (by show 2 * 0 + _ ≤ _; exact Nat.le_of_eq rfl) (hb hby at_109) (fun _ _ => ⟨rfl, e60, (by decide : 2 + 1 ≤ _), (by decide : 14 + 16 ≤ _)⟩)
    dsimp only [Pt.U, Pt.locs, Pt.cells, Pt.slots] at X93 l93 y93 z93 st93 hQ93
    subst l93 y93 z93
    obtain ⟨h93, e93⟩ : ∃ z, T93.heap = z := ⟨_, rfl⟩
    rw [e93] at hQ93
    obtain ⟨rfl, Nq93, Kq93⟩ := hQ93
    have N93 := Fr.app N60 Nq93
    have r93 : own_R p e below _ _ T93 (mkF m 112 #[.val (.int px), .val (.ref b2), .val (.ref b32), .val (.int (3 : Int32))] [(.ref s_INT_ARRAY)]) := r92.trans fun z_ kt => st93.trans kt
    have O93 := O60.keep Kq93 all0
    have f94 := (V60.keep Kq93 nin0)
    have r96 : own_R p e below _ _ T93 (mkF m 114 #[.val (.int px), .val (.ref b2), .val (.ref b32), .val (.int (3 : Int32))] [(.int (3 : Int32)), (.ref b32), (.ref s_INT_ARRAY)]) := r93.trans fun z_ kt => by
      show own_S p e below T93 (mkF m 112 #[.val (.int px), .val (.ref b2), .val (.ref b32), .val (.int (3 : Int32))] [(.ref s_INT_ARRAY)]) _
      refine XS.aloadN X93.here hx rfl (hb hby at_112) rfl rfl ?_
      show own_S p e below T93 (mkF m 113 #[.val (.int px), .val (.ref b2), .val (.ref b32), .val (.int (3 : Int32))] [(.ref b32), (.ref s_INT_ARRAY)]) _
      refine XS.iloadN X93.here hx rfl (hb hby at_113) rfl ?_
      exact kt
    obtain ⟨cl95, Ar95, q95, S95, M95, H95, G95⟩ := id f94
    have hin95 : ¬ ((3 : Int32) < 0 ∨ cl95.slots.size ≤ ((3 : Int32)).toNatClampNeg) := inb_of S95 ⟨by decide, by decide⟩
    have hat95 : cl95.slots[((3 : Int32)).toNatClampNeg]? = some (.ref s_INT_ARRAY) := Has.at H95 hin95 rfl
    have r97 : own_R p e below _ _ T93 (mkF m 123 #[.val (.int px), .val (.ref b2), .val (.ref b32), .val (.int (3 : Int32))] [(.int (1 : Int32))]) := r96.trans fun z_ kt => by
      show own_S p e below T93 (mkF m 114 #[.val (.int px), .val (.ref b2), .val (.ref b32), .val (.int (3 : Int32))] [(.int (3 : Int32)), (.ref b32), (.ref s_INT_ARRAY)]) _
      refine X93.aaload hx (j := (3 : Int32)) (v := (.ref s_INT_ARRAY)) (by rw [e93]; exact Ar95.1) (State.isArrayOf_alike hZ.alike Ar95.2.1) rfl Ar95.2.2 hin95 hat95 (g := (mkF m 114 #[.val (.int px), .val (.ref b2), .val (.ref b32), .val (.int (3 : Int32))] [(.int (3 : Int32)), (.ref b32), (.ref s_INT_ARRAY)])) rfl rfl (hb hby at_114) _ ?_
      show own_S p e below T93 (mkF m 115 #[.val (.int px), .val (.ref b2), .val (.ref b32), .val (.int (3 : Int32))] [(.ref s_INT_ARRAY), (.ref s_INT_ARRAY)]) _
      refine Jvm.RoadKit.acmp (g := (mkF m 115 #[.val (.int px), .val (.ref b2), .val (.ref b32), .val (.int (3 : Int32))] [(.ref s_INT_ARRAY), (.ref s_INT_ARRAY)])) X93 hx rfl rfl rfl (pc0 := 115) (pc' := 118) (same := true) rfl (hb hby at_115) rfl (decide_eq_true rfl) (by decide) (by decide) ?_
      show own_S p e below T93 (mkF m 118 #[.val (.int px), .val (.ref b2), .val (.ref b32), .val (.int (3 : Int32))] []) _
      refine XS.iconst X93.here hx rfl (hb hby at_118) ?_
      show own_S p e below T93 (mkF m 119 #[.val (.int px), .val (.ref b2), .val (.ref b32), .val (.int (3 : Int32))] [(.int (1 : Int32))]) _
      refine XS.goto X93.here hx rfl (pc0 := 119) (pc' := 123) rfl (hb hby at_119) (by decide) (by decide) ?_
      exact kt
    obtain ⟨fs, hr, hrun, hended, hW, hsame⟩ := X93.leave (v := some (.int (1 : Int32))) (fun h => by rw [Bd.returns] at h; cases h)
    refine ⟨_, _, pre0 _ (r97 _ ?_), hrun, hended, _, _, rfl, ?_, ⟨_, rfl⟩, hW, hsame.mono (by decide) (by decide)⟩
    · exact retN X93 hx (t := .boolean) Bd.returns (by simp) (hb hby at_123) hr
    · show Q_law Z px vv kk s_VOID s_BOOLEAN s_BYTE s_SHORT s_INT s_LONG s_FLOAT s_DOUBLE s_STRING s_BOOLEAN_ARRAY s_BYTE_ARRAY s_SHORT_ARRAY s_INT_ARRAY s_LONG_ARRAY s_FLOAT_ARRAY s_DOUBLE_ARRAY h0 n0 _ T93.heap _
      rw [e93]
      exact ⟨rfl, N93⟩
  · skip
    have f98 := ((((((((V30.ext E32).other W36 ne_b2_b32).other W40 ne_b2_b32).other W44 ne_b2_b32).other W48 ne_b2_b32).other W52 ne_b2_b32).other W56 ne_b2_b32).other W60 ne_b2_b32)
    have r100 : own_R p e below _ _ T60 (mkF m 108 #[.val (.int px), .val (.ref b2), .val (.ref b32), .val (.int (4 : Int32))] [(.int (4 : Int32)), (.ref b2)]) := r61.trans fun z_ kt => by
      show own_S p e below T60 (mkF m 106 #[.val (.int px), .val (.ref b2), .val (.ref b32), .val (.int (4 : Int32))] []) _
      refine XS.aloadN X60.here hx rfl (hb hby at_106) rfl rfl ?_
      show own_S p e below T60 (mkF m 107 #[.val (.int px), .val (.ref b2), .val (.ref b32), .val (.int (4 : Int32))] [(.ref b2)]) _
      refine XS.iloadN X60.here hx rfl (hb hby at_107) rfl ?_
      exact kt
    obtain ⟨cl99, Ar99, q99, S99, M99, H99, G99⟩ := id f98
    have hin99 : ¬ ((4 : Int32) < 0 ∨ cl99.slots.size ≤ ((4 : Int32)).toNatClampNeg) := inb_of S99 ⟨by decide, by decide⟩
    have hat99 : cl99.slots[((4 : Int32)).toNatClampNeg]? = some (.ref s_LONG) := Has.at H99 hin99 rfl
    have r101 : own_R p e below _ _ T60 (mkF m 109 #[.val (.int px), .val (.ref b2), .val (.ref b32), .val (.int (4 : Int32))] [(.ref s_LONG)]) := r100.trans fun z_ kt => by
      show own_S p e below T60 (mkF m 108 #[.val (.int px), .val (.ref b2), .val (.ref b32), .val (.int (4 : Int32))] [(.int (4 : Int32)), (.ref b2)]) _
      refine X60.aaload hx (j := (4 : Int32)) (v := (.ref s_LONG)) (by rw [e60]; exact Ar99.1) (State.isArrayOf_alike hZ.alike Ar99.2.1) rfl Ar99.2.2 hin99 hat99 (g := (mkF m 108 #[.val (.int px), .val (.ref b2), .val (.ref b32), .val (.int (4 : Int32))] [(.int (4 : Int32)), (.ref b2)])) rfl rfl (hb hby at_108) _ ?_
      exact kt
    obtain ⟨cq102, kq102, q102a, q102b, q102c⟩ := isOf hZ e60 (OE_s_LONG.ext O60.2)
    obtain ⟨_, _, ⟨T102, L102, cc102, n102⟩, -, X102, ⟨Lc102, hQ102, l102, y102, z102⟩, st102⟩ := X60.virtualBack hx (y := (⟨"com/example/tenon/tenon/generator/JavaType", "array", "()Lcom/example/tenon/tenon/generator/JavaType;"⟩ : MethodName)) (z := (⟨"com/example/tenon/tenon/generator/JavaType", "array", "()Lcom/example/tenon/tenon/generator/JavaType;"⟩ : MethodName)) hown (mvT hZ (hw _ (own_g (i := 33) rfl))) (mvT hZ (hw _ (own_g (i := 34) rfl))) (notFace_of_selects (args := #[]) (mvT hZ (hw _ (own_g (i := 36) rfl)))) (mvT hZ (hw _ (own_g (i := 36) rfl))) (mvT hZ (hw _ (own_g (i := 35) rfl))) (by decide) (backOf (W := 0) (rm_array l Z a0 hw [] (s_LONG) (s_LONG_ARRAY) (vv) (kk) (s_VOID) (s_BOOLEAN) (s_BYTE) (s_SHORT) (s_INT) (s_LONG) (s_FLOAT) (s_DOUBLE) (s_STRING) (s_BOOLEAN_ARRAY) (s_BYTE_ARRAY) (s_SHORT_ARRAY) (s_INT_ARRAY) (s_LONG_ARRAY) (s_FLOAT_ARRAY) (s_DOUBLE_ARRAY) h60 n0 O60 (S_JavaType__VALUES) (OE_vv) (OV_vv) (OF_s_VOID_element) (OF_s_BOOLEAN_element) (OF_s_BYTE_element) (OF_s_SHORT_element) (OF_s_INT_element) (OF_s_LONG_element) (OF_s_FLOAT_element) (OF_s_DOUBLE_element) (OF_s_STRING_element) (OF_s_BOOLEAN_ARRAY_element) (OF_s_BYTE_ARRAY_element) (OF_s_SHORT_ARRAY_element) (OF_s_INT_ARRAY_element) (OF_s_LONG_ARRAY_element) (OF_s_FLOAT_ARRAY_element) (OF_s_DOUBLE_ARRAY_element) (⟨fun q => absurd q (Fld.ne OF_s_BOOLEAN_ordinal OF_s_LONG_ordinal (by decide)), fun q => absurd q (Fld.ne OF_s_BYTE_ordinal OF_s_LONG_ordinal (by decide)), fun q => absurd q (Fld.ne OF_s_SHORT_ordinal OF_s_LONG_ordinal (by decide)), fun q => absurd q (Fld.ne OF_s_INT_ordinal OF_s_LONG_ordinal (by decide)), fun _ => rfl, fun q => absurd q (Fld.ne OF_s_FLOAT_ordinal OF_s_LONG_ordinal (by decide)), fun q => absurd q (Fld.ne OF_s_DOUBLE_ordinal OF_s_LONG_ordinal (by decide))⟩) (Or.inr (Or.inr (Or.inr (Or.inr (Or.inl rfl)))))) hZ (hw _ (own_g (i := 37) rfl)) (hw _ (own_g (i := 3) rfl)) (by decide) (by decide)) q102a q102c (g := (mkF m 109 #[.val (.int px), .val (.ref b2), .val (.ref b32), .val (.int (4 : Int32))] [(.ref s_LONG)])) rfl (by rw [hml]; rfl) (Steps.refl _) (argsL := []) (rest := []) (lenOf pd_1 rfl) rfl (by show 2 * 0 + _ ≤ _; exact Nat.le_of_eq rfl) (hb hby at_109) (fun _ _ => ⟨rfl, e60, (by decide : 2 + 1 ≤ _), (by decide : 14 + 16 ≤ _)⟩)
    dsimp only [Pt.U, Pt.locs, Pt.cells, Pt.slots] at X102 l102 y102 z102 st102 hQ102
    subst l102 y102 z102
    obtain ⟨h102, e102⟩ : ∃ z, T102.heap = z := ⟨_, rfl⟩
    rw [e102] at hQ102
    obtain ⟨rfl, Nq102, Kq102⟩ := hQ102
    have N102 := Fr.app N60 Nq102
    have r102 : own_R p e below _ _ T102 (mkF m 112 #[.val (.int px), .val (.ref b2), .val (.ref b32), .val (.int (4 : Int32))] [(.ref s_LONG_ARRAY)]) := r101.trans fun z_ kt => st102.trans kt
    have O102 := O60.keep Kq102 all0
    have f103 := (V60.keep Kq102 nin0)
    have r105 : own_R p e below _ _ T102 (mkF m 114 #[.val (.int px), .val (.ref b2), .val (.ref b32), .val (.int (4 : Int32))] [(.int (4 : Int32)), (.ref b32), (.ref s_LONG_ARRAY)]) := r102.trans fun z_ kt => by
      show own_S p e below T102 (mkF m 112 #[.val (.int px), .val (.ref b2), .val (.ref b32), .val (.int (4 : Int32))] [(.ref s_LONG_ARRAY)]) _
      refine XS.aloadN X102.here hx rfl (hb hby at_112) rfl rfl ?_
      show own_S p e below T102 (mkF m 113 #[.val (.int px), .val (.ref b2), .val (.ref b32), .val (.int (4 : Int32))] [(.ref b32), (.ref s_LONG_ARRAY)]) _
      refine XS.iloadN X102.here hx rfl (hb hby at_113) rfl ?_
      exact kt
    obtain ⟨cl104, Ar104, q104, S104, M104, H104, G104⟩ := id f103
    have hin104 : ¬ ((4 : Int32) < 0 ∨ cl104.slots.size ≤ ((4 : Int32)).toNatClampNeg) := inb_of S104 ⟨by decide, by decide⟩
    have hat104 : cl104.slots[((4 : Int32)).toNatClampNeg]? = some (.ref s_LONG_ARRAY) := Has.at H104 hin104 rfl
    have r106 : own_R p e below _ _ T102 (mkF m 123 #[.val (.int px), .val (.ref b2), .val (.ref b32), .val (.int (4 : Int32))] [(.int (1 : Int32))]) := r105.trans fun z_ kt => by
      show own_S p e below T102 (mkF m 114 #[.val (.int px), .val (.ref b2), .val (.ref b32), .val (.int (4 : Int32))] [(.int (4 : Int32)), (.ref b32), (.ref s_LONG_ARRAY)]) _
      refine X102.aaload hx (j := (4 : Int32)) (v := (.ref s_LONG_ARRAY)) (by rw [e102]; exact Ar104.1) (State.isArrayOf_alike hZ.alike Ar104.2.1) rfl Ar104.2.2 hin104 hat104 (g := (mkF m 114 #[.val (.int px), .val (.ref b2), .val (.ref b32), .val (.int (4 : Int32))] [(.int (4 : Int32)), (.ref b32), (.ref s_LONG_ARRAY)])) rfl rfl (hb hby at_114) _ ?_
      show own_S p e below T102 (mkF m 115 #[.val (.int px), .val (.ref b2), .val (.ref b32), .val (.int (4 : Int32))] [(.ref s_LONG_ARRAY), (.ref s_LONG_ARRAY)]) _
      refine Jvm.RoadKit.acmp (g := (mkF m 115 #[.val (.int px), .val (.ref b2), .val (.ref b32), .val (.int (4 : Int32))] [(.ref s_LONG_ARRAY), (.ref s_LONG_ARRAY)])) X102 hx rfl rfl rfl (pc0 := 115) (pc' := 118) (same := true) rfl (hb hby at_115) rfl (decide_eq_true rfl) (by decide) (by decide) ?_
      show own_S p e below T102 (mkF m 118 #[.val (.int px), .val (.ref b2), .val (.ref b32), .val (.int (4 : Int32))] []) _
      refine XS.iconst X102.here hx rfl (hb hby at_118) ?_
      show own_S p e below T102 (mkF m 119 #[.val (.int px), .val (.ref b2), .val (.ref b32), .val (.int (4 : Int32))] [(.int (1 : Int32))]) _
      refine XS.goto X102.here hx rfl (pc0 := 119) (pc' := 123) rfl (hb hby at_119) (by decide) (by decide) ?_
      exact kt
    obtain ⟨fs, hr, hrun, hended, hW, hsame⟩ := X102.leave (v := some (.int (1 : Int32))) (fun h => by rw [Bd.returns] at h; cases h)
    refine ⟨_, _, pre0 _ (r106 _ ?_), hrun, hended, _, _, rfl, ?_, ⟨_, rfl⟩, hW, hsame.mono (by decide) (by decide)⟩
    · exact retN X102 hx (t := .boolean) Bd.returns (by simp) (hb hby at_123) hr
    · show Q_law Z px vv kk s_VOID s_BOOLEAN s_BYTE s_SHORT s_INT s_LONG s_FLOAT s_DOUBLE s_STRING s_BOOLEAN_ARRAY s_BYTE_ARRAY s_SHORT_ARRAY s_INT_ARRAY s_LONG_ARRAY s_FLOAT_ARRAY s_DOUBLE_ARRAY h0 n0 _ T102.heap _
      rw [e102]
      exact ⟨rfl, N102⟩
  · skip
    have f107 := ((((((((V30.ext E32).other W36 ne_b2_b32).other W40 ne_b2_b32).other W44 ne_b2_b32).other W48 ne_b2_b32).other W52 ne_b2_b32).other W56 ne_b2_b32).other W60 ne_b2_b32)
    have r109 : own_R p e below _ _ T60 (mkF m 108 #[.val (.int px), .val (.ref b2), .val (.ref b32), .val (.int (5 : Int32))] [(.int (5 : Int32)), (.ref b2)]) := r61.trans fun z_ kt => by
      show own_S p e below T60 (mkF m 106 #[.val (.int px), .val (.ref b2), .val (.ref b32), .val (.int (5 : Int32))] []) _
      refine XS.aloadN X60.here hx rfl (hb hby at_106) rfl rfl ?_
      show own_S p e below T60 (mkF m 107 #[.val (.int px), .val (.ref b2), .val (.ref b32), .val (.int (5 : Int32))] [(.ref b2)]) _
      refine XS.iloadN X60.here hx rfl (hb hby at_107) rfl ?_
      exact kt
    obtain ⟨cl108, Ar108, q108, S108, M108, H108, G108⟩ := id f107
    have hin108 : ¬ ((5 : Int32) < 0 ∨ cl108.slots.size ≤ ((5 : Int32)).toNatClampNeg) := inb_of S108 ⟨by decide, by decide⟩
    have hat108 : cl108.slots[((5 : Int32)).toNatClampNeg]? = some (.ref s_FLOAT) := Has.at H108 hin108 rfl
    have r110 : own_R p e below _ _ T60 (mkF m 109 #[.val (.int px), .val (.ref b2), .val (.ref b32), .val (.int (5 : Int32))] [(.ref s_FLOAT)]) := r109.trans fun z_ kt => by
      show own_S p e below T60 (mkF m 108 #[.val (.int px), .val (.ref b2), .val (.ref b32), .val (.int (5 : Int32))] [(.int (5 : Int32)), (.ref b2)]) _
      refine X60.aaload hx (j := (5 : Int32)) (v := (.ref s_FLOAT)) (by rw [e60]; exact Ar108.1) (State.isArrayOf_alike hZ.alike Ar108.2.1) rfl Ar108.2.2 hin108 hat108 (g := (mkF m 108 #[.val (.int px), .val (.ref b2), .val (.ref b32), .val (.int (5 : Int32))] [(.int (5 : Int32)), (.ref b2)])) rfl rfl (hb hby at_108) _ ?_
      exact kt
    obtain ⟨cq111, kq111, q111a, q111b, q111c⟩ := isOf hZ e60 (OE_s_FLOAT.ext O60.2)
    obtain ⟨_, _, ⟨T111, L111, cc111, n111⟩, -, X111, ⟨Lc111, hQ111, l111, y111, z111⟩, st111⟩ := X60.virtualBack hx (y := (⟨"com/example/tenon/tenon/generator/JavaType", "array", "()Lcom/example/tenon/tenon/generator/JavaType;"⟩ : MethodName)) (z := (⟨"com/example/tenon/tenon/generator/JavaType", "array", "()Lcom/example/tenon/tenon/generator/JavaType;"⟩ : MethodName)) hown (mvT hZ (hw _ (own_g (i := 33) rfl))) (mvT hZ (hw _ (own_g (i := 34) rfl))) (notFace_of_selects (args := #[]) (mvT hZ (hw _ (own_g (i := 36) rfl)))) (mvT hZ (hw _ (own_g (i := 36) rfl))) (mvT hZ (hw _ (own_g (i := 35) rfl))) (by decide) (backOf (W := 0) (rm_array l Z a0 hw [] (s_FLOAT) (s_FLOAT_ARRAY) (vv) (kk) (s_VOID) (s_BOOLEAN) (s_BYTE) (s_SHORT) (s_INT) (s_LONG) (s_FLOAT) (s_DOUBLE) (s_STRING) (s_BOOLEAN_ARRAY) (s_BYTE_ARRAY) (s_SHORT_ARRAY) (s_INT_ARRAY) (s_LONG_ARRAY) (s_FLOAT_ARRAY) (s_DOUBLE_ARRAY) h60 n0 O60 (S_JavaType__VALUES) (OE_vv) (OV_vv) (OF_s_VOID_element) (OF_s_BOOLEAN_element) (OF_s_BYTE_element) (OF_s_SHORT_element) (OF_s_INT_element) (OF_s_LONG_element) (OF_s_FLOAT_element) (OF_s_DOUBLE_element) (OF_s_STRING_element) (OF_s_BOOLEAN_ARRAY_element) (OF_s_BYTE_ARRAY_element) (OF_s_SHORT_ARRAY_element) (OF_s_INT_ARRAY_element) (OF_s_LONG_ARRAY_element) (OF_s_FLOAT_ARRAY_element) (OF_s_DOUBLE_ARRAY_element) (⟨fun q => absurd q (Fld.ne OF_s_BOOLEAN_ordinal OF_s_FLOAT_ordinal (by decide)), fun q => absurd q (Fld.ne OF_s_BYTE_ordinal OF_s_FLOAT_ordinal (by decide)), fun q => absurd q (Fld.ne OF_s_SHORT_ordinal OF_s_FLOAT_ordinal (by decide)), fun q => absurd q (Fld.ne OF_s_INT_ordinal OF_s_FLOAT_ordinal (by decide)), fun q => absurd q (Fld.ne OF_s_LONG_ordinal OF_s_FLOAT_ordinal (by decide)), fun _ => rfl, fun q => absurd q (Fld.ne OF_s_DOUBLE_ordinal OF_s_FLOAT_ordinal (by decide))⟩) (Or.inr (Or.inr (Or.inr (Or.inr (Or.inr (Or.inl rfl))))))) hZ (hw _ (own_g (i := 37) rfl)) (hw _ (own_g (i := 3) rfl)) (by decide) (by decide)) q111a q111c (g := (mkF m 109 #[.val (.int px), .val (.ref b2), .val (.ref b32), .val (.int (5 : Int32))] [(.ref s_FLOAT)])) rfl (by rw [hml]; rfl) (Steps.refl _) (argsL := []) (rest := []) (lenOf pd_1 rfl) rfl (by show 2 * 0 + _ ≤ _; exact Nat.le_of_eq rfl) (hb hby at_109) (fun _ _ => ⟨rfl, e60, (by decide : 2 + 1 ≤ _), (by decide : 14 + 16 ≤ _)⟩)
    dsimp only [Pt.U, Pt.locs, Pt.cells, Pt.slots] at X111 l111 y111 z111 st111 hQ111
    subst l111 y111 z111
    obtain ⟨h111, e111⟩ : ∃ z, T111.heap = z := ⟨_, rfl⟩
    rw [e111] at hQ111
    obtain ⟨rfl, Nq111, Kq111⟩ := hQ111
    have N111 := Fr.app N60 Nq111
    have r111 : own_R p e below _ _ T111 (mkF m 112 #[.val (.int px), .val (.ref b2), .val (.ref b32), .val (.int (5 : Int32))] [(.ref s_FLOAT_ARRAY)]) := r110.trans fun z_ kt => st111.trans kt
    have O111 := O60.keep Kq111 all0
    have f112 := (V60.keep Kq111 nin0)
    have r114 : own_R p e below _ _ T111 (mkF m 114 #[.val (.int px), .val (.ref b2), .val (.ref b32), .val (.int (5 : Int32))] [(.int (5 : Int32)), (.ref b32), (.ref s_FLOAT_ARRAY)]) := r111.trans fun z_ kt => by
      show own_S p e below T111 (mkF m 112 #[.val (.int px), .val (.ref b2), .val (.ref b32), .val (.int (5 : Int32))] [(.ref s_FLOAT_ARRAY)]) _
      refine XS.aloadN X111.here hx rfl (hb hby at_112) rfl rfl ?_
      show own_S p e below T111 (mkF m 113 #[.val (.int px), .val (.ref b2), .val (.ref b32), .val (.int (5 : Int32))] [(.ref b32), (.ref s_FLOAT_ARRAY)]) _
      refine XS.iloadN X111.here hx rfl (hb hby at_113) rfl ?_
      exact kt
    obtain ⟨cl113, Ar113, q113, S113, M113, H113, G113⟩ := id f112
    have hin113 : ¬ ((5 : Int32) < 0 ∨ cl113.slots.size ≤ ((5 : Int32)).toNatClampNeg) := inb_of S113 ⟨by decide, by decide⟩
    have hat113 : cl113.slots[((5 : Int32)).toNatClampNeg]? = some (.ref s_FLOAT_ARRAY) := Has.at H113 hin113 rfl
    have r115 : own_R p e below _ _ T111 (mkF m 123 #[.val (.int px), .val (.ref b2), .val (.ref b32), .val (.int (5 : Int32))] [(.int (1 : Int32))]) := r114.trans fun z_ kt => by
      show own_S p e below T111 (mkF m 114 #[.val (.int px), .val (.ref b2), .val (.ref b32), .val (.int (5 : Int32))] [(.int (5 : Int32)), (.ref b32), (.ref s_FLOAT_ARRAY)]) _
      refine X111.aaload hx (j := (5 : Int32)) (v := (.ref s_FLOAT_ARRAY)) (by rw [e111]; exact Ar113.1) (State.isArrayOf_alike hZ.alike Ar113.2.1) rfl Ar113.2.2 hin113 hat113 (g := (mkF m 114 #[.val (.int px), .val (.ref b2), .val (.ref b32), .val (.int (5 : Int32))] [(.int (5 : Int32)), (.ref b32), (.ref s_FLOAT_ARRAY)])) rfl rfl (hb hby at_114) _ ?_
      show own_S p e below T111 (mkF m 115 #[.val (.int px), .val (.ref b2), .val (.ref b32), .val (.int (5 : Int32))] [(.ref s_FLOAT_ARRAY), (.ref s_FLOAT_ARRAY)]) _
      refine Jvm.RoadKit.acmp (g := (mkF m 115 #[.val (.int px), .val (.ref b2), .val (.ref b32), .val (.int (5 : Int32))] [(.ref s_FLOAT_ARRAY), (.ref s_FLOAT_ARRAY)])) X111 hx rfl rfl rfl (pc0 := 115) (pc' := 118) (same := true) rfl (hb hby at_115) rfl (decide_eq_true rfl) (by decide) (by decide) ?_
      show own_S p e below T111 (mkF m 118 #[.val (.int px), .val (.ref b2), .val (.ref b32), .val (.int (5 : Int32))] []) _
      refine XS.iconst X111.here hx rfl (hb hby at_118) ?_
      show own_S p e below T111 (mkF m 119 #[.val (.int px), .val (.ref b2), .val (.ref b32), .val (.int (5 : Int32))] [(.int (1 : Int32))]) _
      refine XS.goto X111.here hx rfl (pc0 := 119) (pc' := 123) rfl (hb hby at_119) (by decide) (by decide) ?_
      exact kt
    obtain ⟨fs, hr, hrun, hended, hW, hsame⟩ := X111.leave (v := some (.int (1 : Int32))) (fun h => by rw [Bd.returns] at h; cases h)
    refine ⟨_, _, pre0 _ (r115 _ ?_), hrun, hended, _, _, rfl, ?_, ⟨_, rfl⟩, hW, hsame.mono (by decide) (by decide)⟩
    · exact retN X111 hx (t := .boolean) Bd.returns (by simp) (hb hby at_123) hr
    · show Q_law Z px vv kk s_VOID s_BOOLEAN s_BYTE s_SHORT s_INT s_LONG s_FLOAT s_DOUBLE s_STRING s_BOOLEAN_ARRAY s_BYTE_ARRAY s_SHORT_ARRAY s_INT_ARRAY s_LONG_ARRAY s_FLOAT_ARRAY s_DOUBLE_ARRAY h0 n0 _ T111.heap _
      rw [e111]
      exact ⟨rfl, N111⟩
  · skip
    have f116 := ((((((((V30.ext E32).other W36 ne_b2_b32).other W40 ne_b2_b32).other W44 ne_b2_b32).other W48 ne_b2_b32).other W52 ne_b2_b32).other W56 ne_b2_b32).other W60 ne_b2_b32)
    have r118 : own_R p e below _ _ T60 (mkF m 108 #[.val (.int px), .val (.ref b2), .val (.ref b32), .val (.int (6 : Int32))] [(.int (6 : Int32)), (.ref b2)]) := r61.trans fun z_ kt => by
      show own_S p e below T60 (mkF m 106 #[.val (.int px), .val (.ref b2), .val (.ref b32), .val (.int (6 : Int32))] []) _
      refine XS.aloadN X60.here hx rfl (hb hby at_106) rfl rfl ?_
      show own_S p e below T60 (mkF m 107 #[.val (.int px), .val (.ref b2), .val (.ref b32), .val (.int (6 : Int32))] [(.ref b2)]) _
      refine XS.iloadN X60.here hx rfl (hb hby at_107) rfl ?_
      exact kt
    obtain ⟨cl117, Ar117, q117, S117, M117, H117, G117⟩ := id f116
    have hin117 : ¬ ((6 : Int32) < 0 ∨ cl117.slots.size ≤ ((6 : Int32)).toNatClampNeg) := inb_of S117 ⟨by decide, by decide⟩
    have hat117 : cl117.slots[((6 : Int32)).toNatClampNeg]? = some (.ref s_DOUBLE) := Has.at H117 hin117 rfl
    have r119 : own_R p e below _ _ T60 (mkF m 109 #[.val (.int px), .val (.ref b2), .val (.ref b32), .val (.int (6 : Int32))] [(.ref s_DOUBLE)]) := r118.trans fun z_ kt => by
      show own_S p e below T60 (mkF m 108 #[.val (.int px), .val (.ref b2), .val (.ref b32), .val (.int (6 : Int32))] [(.int (6 : Int32)), (.ref b2)]) _
      refine X60.aaload hx (j := (6 : Int32)) (v := (.ref s_DOUBLE)) (by rw [e60]; exact Ar117.1) (State.isArrayOf_alike hZ.alike Ar117.2.1) rfl Ar117.2.2 hin117 hat117 (g := (mkF m 108 #[.val (.int px), .val (.ref b2), .val (.ref b32), .val (.int (6 : Int32))] [(.int (6 : Int32)), (.ref b2)])) rfl rfl (hb hby at_108) _ ?_
      exact kt
    obtain ⟨cq120, kq120, q120a, q120b, q120c⟩ := isOf hZ e60 (OE_s_DOUBLE.ext O60.2)
    obtain ⟨_, _, ⟨T120, L120, cc120, n120⟩, -, X120, ⟨Lc120, hQ120, l120, y120, z120⟩, st120⟩ := X60.virtualBack hx (y := (⟨"com/example/tenon/tenon/generator/JavaType", "array", "()Lcom/example/tenon/tenon/generator/JavaType;"⟩ : MethodName)) (z := (⟨"com/example/tenon/tenon/generator/JavaType", "array", "()Lcom/example/tenon/tenon/generator/JavaType;"⟩ : MethodName)) hown (mvT hZ (hw _ (own_g (i := 33) rfl))) (mvT hZ (hw _ (own_g (i := 34) rfl))) (notFace_of_selects (args := #[]) (mvT hZ (hw _ (own_g (i := 36) rfl)))) (mvT hZ (hw _ (own_g (i := 36) rfl))) (mvT hZ (hw _ (own_g (i := 35) rfl))) (by decide) (backOf (W := 0) (rm_array l Z a0 hw [] (s_DOUBLE) (s_DOUBLE_ARRAY) (vv) (kk) (s_VOID) (s_BOOLEAN) (s_BYTE) (s_SHORT) (s_INT) (s_LONG) (s_FLOAT) (s_DOUBLE) (s_STRING) (s_BOOLEAN_ARRAY) (s_BYTE_ARRAY) (s_SHORT_ARRAY) (s_INT_ARRAY) (s_LONG_ARRAY) (s_FLOAT_ARRAY) (s_DOUBLE_ARRAY) h60 n0 O60 (S_JavaType__VALUES) (OE_vv) (OV_vv) (OF_s_VOID_element) (OF_s_BOOLEAN_element) (OF_s_BYTE_element) (OF_s_SHORT_element) (OF_s_INT_element) (OF_s_LONG_element) (OF_s_FLOAT_element) (OF_s_DOUBLE_element) (OF_s_STRING_element) (OF_s_BOOLEAN_ARRAY_element) (OF_s_BYTE_ARRAY_element) (OF_s_SHORT_ARRAY_element) (OF_s_INT_ARRAY_element) (OF_s_LONG_ARRAY_element) (OF_s_FLOAT_ARRAY_element) (OF_s_DOUBLE_ARRAY_element) (⟨fun q => absurd q (Fld.ne OF_s_BOOLEAN_ordinal OF_s_DOUBLE_ordinal (by decide)), fun q => absurd q (Fld.ne OF_s_BYTE_ordinal OF_s_DOUBLE_ordinal (by decide)), fun q => absurd q (Fld.ne OF_s_SHORT_ordinal OF_s_DOUBLE_ordinal (by decide)), fun q => absurd q (Fld.ne OF_s_INT_ordinal OF_s_DOUBLE_ordinal (by decide)), fun q => absurd q (Fld.ne OF_s_LONG_ordinal OF_s_DOUBLE_ordinal (by decide)), fun q => absurd q (Fld.ne OF_s_FLOAT_ordinal OF_s_DOUBLE_ordinal (by decide)), fun _ => rfl⟩) (Or.inr (Or.inr (Or.inr (Or.inr (Or.inr (Or.inr (rfl)))))))) hZ (hw _ (own_g (i := 37) rfl)) (hw _ (own_g (i := 3) rfl)) (by decide) (by decide)) q120a q120c (g := (mkF m 109 #[.val (.int px), .val (.ref b2), .val (.ref b32), .val (.int (6 : Int32))] [(.ref s_DOUBLE)])) rfl (by rw [hml]; rfl) (Steps.refl _) (argsL := []) (rest := []) (lenOf pd_1 rfl) rfl (by show 2 * 0 + _ ≤ _; exact Nat.le_of_eq rfl) (hb hby at_109) (fun _ _ => ⟨rfl, e60, (by decide : 2 + 1 ≤ _), (by decide : 14 + 16 ≤ _)⟩)
    dsimp only [Pt.U, Pt.locs, Pt.cells, Pt.slots] at X120 l120 y120 z120 st120 hQ120
    subst l120 y120 z120
    obtain ⟨h120, e120⟩ : ∃ z, T120.heap = z := ⟨_, rfl⟩
    rw [e120] at hQ120
    obtain ⟨rfl, Nq120, Kq120⟩ := hQ120
    have N120 := Fr.app N60 Nq120
    have r120 : own_R p e below _ _ T120 (mkF m 112 #[.val (.int px), .val (.ref b2), .val (.ref b32), .val (.int (6 : Int32))] [(.ref s_DOUBLE_ARRAY)]) := r119.trans fun z_ kt => st120.trans kt
    have O120 := O60.keep Kq120 all0
    have f121 := (V60.keep Kq120 nin0)
    have r123 : own_R p e below _ _ T120 (mkF m 114 #[.val (.int px), .val (.ref b2), .val (.ref b32), .val (.int (6 : Int32))] [(.int (6 : Int32)), (.ref b32), (.ref s_DOUBLE_ARRAY)]) := r120.trans fun z_ kt => by
      show own_S p e below T120 (mkF m 112 #[.val (.int px), .val (.ref b2), .val (.ref b32), .val (.int (6 : Int32))] [(.ref s_DOUBLE_ARRAY)]) _
      refine XS.aloadN X120.here hx rfl (hb hby at_112) rfl rfl ?_
      show own_S p e below T120 (mkF m 113 #[.val (.int px), .val (.ref b2), .val (.ref b32), .val (.int (6 : Int32))] [(.ref b32), (.ref s_DOUBLE_ARRAY)]) _
      refine XS.iloadN X120.here hx rfl (hb hby at_113) rfl ?_
      exact kt
    obtain ⟨cl122, Ar122, q122, S122, M122, H122, G122⟩ := id f121
    have hin122 : ¬ ((6 : Int32) < 0 ∨ cl122.slots.size ≤ ((6 : Int32)).toNatClampNeg) := inb_of S122 ⟨by decide, by decide⟩
    have hat122 : cl122.slots[((6 : Int32)).toNatClampNeg]? = some (.ref s_DOUBLE_ARRAY) := Has.at H122 hin122 rfl
    have r124 : own_R p e below _ _ T120 (mkF m 123 #[.val (.int px), .val (.ref b2), .val (.ref b32), .val (.int (6 : Int32))] [(.int (1 : Int32))]) := r123.trans fun z_ kt => by
      show own_S p e below T120 (mkF m 114 #[.val (.int px), .val (.ref b2), .val (.ref b32), .val (.int (6 : Int32))] [(.int (6 : Int32)), (.ref b32), (.ref s_DOUBLE_ARRAY)]) _
      refine X120.aaload hx (j := (6 : Int32)) (v := (.ref s_DOUBLE_ARRAY)) (by rw [e120]; exact Ar122.1) (State.isArrayOf_alike hZ.alike Ar122.2.1) rfl Ar122.2.2 hin122 hat122 (g := (mkF m 114 #[.val (.int px), .val (.ref b2), .val (.ref b32), .val (.int (6 : Int32))] [(.int (6 : Int32)), (.ref b32), (.ref s_DOUBLE_ARRAY)])) rfl rfl (hb hby at_114) _ ?_
      show own_S p e below T120 (mkF m 115 #[.val (.int px), .val (.ref b2), .val (.ref b32), .val (.int (6 : Int32))] [(.ref s_DOUBLE_ARRAY), (.ref s_DOUBLE_ARRAY)]) _
      refine Jvm.RoadKit.acmp (g := (mkF m 115 #[.val (.int px), .val (.ref b2), .val (.ref b32), .val (.int (6 : Int32))] [(.ref s_DOUBLE_ARRAY), (.ref s_DOUBLE_ARRAY)])) X120 hx rfl rfl rfl (pc0 := 115) (pc' := 118) (same := true) rfl (hb hby at_115) rfl (decide_eq_true rfl) (by decide) (by decide) ?_
      show own_S p e below T120 (mkF m 118 #[.val (.int px), .val (.ref b2), .val (.ref b32), .val (.int (6 : Int32))] []) _
      refine XS.iconst X120.here hx rfl (hb hby at_118) ?_
      show own_S p e below T120 (mkF m 119 #[.val (.int px), .val (.ref b2), .val (.ref b32), .val (.int (6 : Int32))] [(.int (1 : Int32))]) _
      refine XS.goto X120.here hx rfl (pc0 := 119) (pc' := 123) rfl (hb hby at_119) (by decide) (by decide) ?_
      exact kt
    obtain ⟨fs, hr, hrun, hended, hW, hsame⟩ := X120.leave (v := some (.int (1 : Int32))) (fun h => by rw [Bd.returns] at h; cases h)
    refine ⟨_, _, pre0 _ (r124 _ ?_), hrun, hended, _, _, rfl, ?_, ⟨_, rfl⟩, hW, hsame.mono (by decide) (by decide)⟩
    · exact retN X120 hx (t := .boolean) Bd.returns (by simp) (hb hby at_123) hr
    · show Q_law Z px vv kk s_VOID s_BOOLEAN s_BYTE s_SHORT s_INT s_LONG s_FLOAT s_DOUBLE s_STRING s_BOOLEAN_ARRAY s_BYTE_ARRAY s_SHORT_ARRAY s_INT_ARRAY s_LONG_ARRAY s_FLOAT_ARRAY s_DOUBLE_ARRAY h0 n0 _ T120.heap _
      rw [e120]
      exact ⟨rfl, N120⟩

set_option maxRecDepth 65536 in
set_option maxHeartbeats 40000000 in
theorem comes_1 {Post : Tables → Env → Array Value → State → Outcome → State → Prop} (hpost : ∀ tb e args s v u, (limb_1_1.after args s (.returned v) u = true ∧ limb_1_2.after args s (.returned v) u = true ∧ True) → FrameEnd s (.returned v) u (Jvm.fieldLocs frame_1_writes args s ++ Jvm.arrayLocs frame_1_arrays args s ++ Jvm.staticLocs frame_1_statics s) 16 128 → Post tb e args s (.returned v) u) :
    ArmFor flags0 classFile x code maxLocals ret World_1 tables_1 room_1 Calls_1 rest_1 Pre_1 Post := by
  intro l hfl _ _ p e ha hc hk s m args below hf hA hF happ hP
  obtain ⟨hcalls, hrest, hpre⟩ := hP
  obtain ⟨-, -, -, hnamed, -, -, -, hat⟩ := (Spec.applies_iff hf).mp happ
  obtain ⟨hg, hn⟩ := and_e (Cond.before_iff.mp (show (Jvm.Cond.and given_1 narrow_1).before args s = true from hpre))
  obtain ⟨u1a, u1b⟩ := and_e hg
  obtain ⟨w0, rfl⟩ : ∃ w0 : Value, args = #[w0] := by
    have hs : args.size = 1 := by simpa [Cond.value, given_1] using u1a
    obtain ⟨L⟩ := args
    match L, hs with
    | [w0], _ => exact ⟨w0, rfl⟩
  have hw := fun d (hd : d ∈ tables_1) => atoms_spec (ws := Jvm.Cond.code x code maxLocals ret :: tables_1) hat d (List.mem_cons_of_mem _ hd)
  have hfit : Fit s := fun {y c} hc i hi => by
    obtain ⟨ha, rfl⟩ := Array.getElem?_eq_some_iff.mp hc
    have q := List.all_eq_true.mp ((Array.all_eq_true_iff_forall_mem.mp hF) _ (Array.getElem_mem ha)) i (List.mem_range.mpr hi)
    simpa [Array.getElem?_eq_getElem hi] using q
  obtain ⟨i0, ei0⟩ := is_v u1b
  obtain rfl : w0 = (.int i0) := Option.some.inj ei0
  obtain ⟨u2a, u2b⟩ := and_e hn
  obtain ⟨u3a, u3b⟩ := and_e u2b
  obtain ⟨u4a, u4b⟩ := and_e u3b
  obtain ⟨u5a, u5b⟩ := and_e u4b
  obtain ⟨u6a, u6b⟩ := and_e u5b
  obtain ⟨u7a, u7b⟩ := and_e u6b
  obtain ⟨u8a, u8b⟩ := and_e u7b
  obtain ⟨u9a, u9b⟩ := and_e u8b
  obtain ⟨u10a, u10b⟩ := and_e u9b
  obtain ⟨u11a, u11b⟩ := and_e u10b
  obtain ⟨u12a, u12b⟩ := and_e u11b
  obtain ⟨u13a, u13b⟩ := and_e u12b
  obtain ⟨u14a, u14b⟩ := and_e u13b
  obtain ⟨u15a, u15b⟩ := and_e u14b
  obtain ⟨u16a, u16b⟩ := and_e u15b
  obtain ⟨u17a, u17b⟩ := and_e u16b
  obtain ⟨u18a, u18b⟩ := and_e u17b
  obtain ⟨u19a, u19b⟩ := and_e u18b
  obtain ⟨u20a, u20b⟩ := and_e u19b
  obtain ⟨u21a, u21b⟩ := and_e u20b
  obtain ⟨u22a, u22b⟩ := and_e u21b
  obtain ⟨u23a, u23b⟩ := and_e u22b
  obtain ⟨u24a, u24b⟩ := and_e u23b
  obtain ⟨u25a, u25b⟩ := and_e u24b
  obtain ⟨u26a, u26b⟩ := and_e u25b
  obtain ⟨u27a, u27b⟩ := and_e u26b
  obtain ⟨u28a, u28b⟩ := and_e u27b
  obtain ⟨u29a, u29b⟩ := and_e u28b
  obtain ⟨u30a, u30b⟩ := and_e u29b
  obtain ⟨u31a, u31b⟩ := and_e u30b
  obtain ⟨u32a, u32b⟩ := and_e u31b
  obtain ⟨u33a, u33b⟩ := and_e u32b
  obtain ⟨u34a, u34b⟩ := and_e u33b
  obtain ⟨u35a, u35b⟩ := and_e u34b
  obtain ⟨u36a, u36b⟩ := and_e u35b
  obtain ⟨u37a, u37b⟩ := and_e u36b
  obtain ⟨u38a, u38b⟩ := and_e u37b
  obtain ⟨u39a, u39b⟩ := and_e u38b
  obtain ⟨u40a, u40b⟩ := and_e u39b
  obtain ⟨u41a, u41b⟩ := and_e u40b
  obtain ⟨u42a, u42b⟩ := and_e u41b
  obtain ⟨u43a, u43b⟩ := and_e u42b
  obtain ⟨u44a, u44b⟩ := and_e u43b
  obtain ⟨u45a, u45b⟩ := and_e u44b
  obtain ⟨u46a, u46b⟩ := and_e u45b
  obtain ⟨u47a, u47b⟩ := and_e u46b
  obtain ⟨u48a, u48b⟩ := and_e u47b
  obtain ⟨u49a, u49b⟩ := and_e u48b
  obtain ⟨u50a, u50b⟩ := and_e u49b
  obtain ⟨u51a, u51b⟩ := and_e u50b
  obtain ⟨u52a, u52b⟩ := and_e u51b
  obtain ⟨u53a, u53b⟩ := and_e u52b
  obtain ⟨u54a, u54b⟩ := and_e u53b
  obtain ⟨u55a, u55b⟩ := and_e u54b
  obtain ⟨u56a, u56b⟩ := and_e u55b
  obtain ⟨u57a, u57b⟩ := and_e u56b
  obtain ⟨u58a, u58b⟩ := and_e u57b
  obtain ⟨s_BOOLEAN, ev_s_BOOLEAN⟩ := exa_v u2a
  have OE_s_BOOLEAN := Exa.start ev_s_BOOLEAN u2a
  have S_s_BOOLEAN := Sta.start ev_s_BOOLEAN (Or.inr ⟨(hw _ (own_g (i := 3) rfl)), (hw _ (own_g (i := 4) rfl))⟩)
  obtain ⟨s_BYTE, ev_s_BYTE⟩ := exa_v u3a
  have OE_s_BYTE := Exa.start ev_s_BYTE u3a
  have S_s_BYTE := Sta.start ev_s_BYTE (Or.inr ⟨(hw _ (own_g (i := 3) rfl)), (hw _ (own_g (i := 7) rfl))⟩)
  obtain ⟨s_SHORT, ev_s_SHORT⟩ := exa_v u4a
  have OE_s_SHORT := Exa.start ev_s_SHORT u4a
  have S_s_SHORT := Sta.start ev_s_SHORT (Or.inr ⟨(hw _ (own_g (i := 3) rfl)), (hw _ (own_g (i := 9) rfl))⟩)
  obtain ⟨s_INT, ev_s_INT⟩ := exa_v u5a
  have OE_s_INT := Exa.start ev_s_INT u5a
  have S_s_INT := Sta.start ev_s_INT (Or.inr ⟨(hw _ (own_g (i := 3) rfl)), (hw _ (own_g (i := 11) rfl))⟩)
  obtain ⟨s_LONG, ev_s_LONG⟩ := exa_v u6a
  have OE_s_LONG := Exa.start ev_s_LONG u6a
  have S_s_LONG := Sta.start ev_s_LONG (Or.inr ⟨(hw _ (own_g (i := 3) rfl)), (hw _ (own_g (i := 13) rfl))⟩)
  obtain ⟨s_FLOAT, ev_s_FLOAT⟩ := exa_v u7a
  have OE_s_FLOAT := Exa.start ev_s_FLOAT u7a
  have S_s_FLOAT := Sta.start ev_s_FLOAT (Or.inr ⟨(hw _ (own_g (i := 3) rfl)), (hw _ (own_g (i := 15) rfl))⟩)
  obtain ⟨s_DOUBLE, ev_s_DOUBLE⟩ := exa_v u8a
  have OE_s_DOUBLE := Exa.start ev_s_DOUBLE u8a
  have S_s_DOUBLE := Sta.start ev_s_DOUBLE (Or.inr ⟨(hw _ (own_g (i := 3) rfl)), (hw _ (own_g (i := 17) rfl))⟩)
  obtain ⟨s_BOOLEAN_ARRAY, ev_s_BOOLEAN_ARRAY⟩ := exa_v u9a
  have OE_s_BOOLEAN_ARRAY := Exa.start ev_s_BOOLEAN_ARRAY u9a
  have S_s_BOOLEAN_ARRAY := Sta.start ev_s_BOOLEAN_ARRAY (Or.inr ⟨(hw _ (own_g (i := 3) rfl)), (hw _ (own_g (i := 19) rfl))⟩)
  obtain ⟨s_BYTE_ARRAY, ev_s_BYTE_ARRAY⟩ := exa_v u10a
  have OE_s_BYTE_ARRAY := Exa.start ev_s_BYTE_ARRAY u10a
  have S_s_BYTE_ARRAY := Sta.start ev_s_BYTE_ARRAY (Or.inr ⟨(hw _ (own_g (i := 3) rfl)), (hw _ (own_g (i := 21) rfl))⟩)
  obtain ⟨s_SHORT_ARRAY, ev_s_SHORT_ARRAY⟩ := exa_v u11a
  have OE_s_SHORT_ARRAY := Exa.start ev_s_SHORT_ARRAY u11a
  have S_s_SHORT_ARRAY := Sta.start ev_s_SHORT_ARRAY (Or.inr ⟨(hw _ (own_g (i := 3) rfl)), (hw _ (own_g (i := 23) rfl))⟩)
  obtain ⟨s_INT_ARRAY, ev_s_INT_ARRAY⟩ := exa_v u12a
  have OE_s_INT_ARRAY := Exa.start ev_s_INT_ARRAY u12a
  have S_s_INT_ARRAY := Sta.start ev_s_INT_ARRAY (Or.inr ⟨(hw _ (own_g (i := 3) rfl)), (hw _ (own_g (i := 25) rfl))⟩)
  obtain ⟨s_LONG_ARRAY, ev_s_LONG_ARRAY⟩ := exa_v u13a
  have OE_s_LONG_ARRAY := Exa.start ev_s_LONG_ARRAY u13a
  have S_s_LONG_ARRAY := Sta.start ev_s_LONG_ARRAY (Or.inr ⟨(hw _ (own_g (i := 3) rfl)), (hw _ (own_g (i := 27) rfl))⟩)
  obtain ⟨s_FLOAT_ARRAY, ev_s_FLOAT_ARRAY⟩ := exa_v u14a
  have OE_s_FLOAT_ARRAY := Exa.start ev_s_FLOAT_ARRAY u14a
  have S_s_FLOAT_ARRAY := Sta.start ev_s_FLOAT_ARRAY (Or.inr ⟨(hw _ (own_g (i := 3) rfl)), (hw _ (own_g (i := 29) rfl))⟩)
  obtain ⟨s_DOUBLE_ARRAY, ev_s_DOUBLE_ARRAY⟩ := exa_v u15a
  have OE_s_DOUBLE_ARRAY := Exa.start ev_s_DOUBLE_ARRAY u15a
  have S_s_DOUBLE_ARRAY := Sta.start ev_s_DOUBLE_ARRAY (Or.inr ⟨(hw _ (own_g (i := 3) rfl)), (hw _ (own_g (i := 31) rfl))⟩)
  obtain ⟨s__VALUES, ev_s__VALUES⟩ := exa_v u17a
  have OE_s__VALUES := Exa.start ev_s__VALUES u17a
  have S_s__VALUES := Sta.start ev_s__VALUES (Or.inl (hw _ (own_g (i := 52) rfl)))
  obtain ⟨s_VOID, ev_s_VOID⟩ := exa_v u19a
  have OE_s_VOID := Exa.start ev_s_VOID u19a
  have S_s_VOID := Sta.start ev_s_VOID (Or.inr ⟨(hw _ (own_g (i := 3) rfl)), (hw _ (own_g (i := 50) rfl))⟩)
  obtain ⟨s_STRING, ev_s_STRING⟩ := exa_v u28a
  have OE_s_STRING := Exa.start ev_s_STRING u28a
  have S_s_STRING := Sta.start ev_s_STRING (Or.inr ⟨(hw _ (own_g (i := 3) rfl)), (hw _ (own_g (i := 51) rfl))⟩)
  have OF_s_BOOLEAN_ordinal : Fld s s.heap s_BOOLEAN "java/lang/Enum" "ordinal" "I" (.int (1 : Int32)) := own_eq_fld ev_s_BOOLEAN u47a
  have OF_s_INT_ordinal : Fld s s.heap s_INT "java/lang/Enum" "ordinal" "I" (.int (4 : Int32)) := own_eq_fld ev_s_INT u48a
  have OF_s_BYTE_ordinal : Fld s s.heap s_BYTE "java/lang/Enum" "ordinal" "I" (.int (2 : Int32)) := own_eq_fld ev_s_BYTE u50a
  have OF_s_SHORT_ordinal : Fld s s.heap s_SHORT "java/lang/Enum" "ordinal" "I" (.int (3 : Int32)) := own_eq_fld ev_s_SHORT u52a
  have OF_s_FLOAT_ordinal : Fld s s.heap s_FLOAT "java/lang/Enum" "ordinal" "I" (.int (6 : Int32)) := own_eq_fld ev_s_FLOAT u54a
  have OF_s_LONG_ordinal : Fld s s.heap s_LONG "java/lang/Enum" "ordinal" "I" (.int (5 : Int32)) := own_eq_fld ev_s_LONG u56a
  have OF_s_DOUBLE_ordinal : Fld s s.heap s_DOUBLE "java/lang/Enum" "ordinal" "I" (.int (7 : Int32)) := own_eq_fld ev_s_DOUBLE u58a
  obtain ⟨cl, A⟩ := Arr.start ev_s__VALUES u16a
  obtain ⟨L1, L2⟩ := own_len ev_s__VALUES A u18a
  have el0 : cl.slots[0]? = some (.ref s_VOID) := own_elem ev_s__VALUES ev_s_VOID A (by decide) u20a
  have el1 : cl.slots[1]? = some (.ref s_BOOLEAN) := own_elem ev_s__VALUES ev_s_BOOLEAN A (by decide) u21a
  have el2 : cl.slots[2]? = some (.ref s_BYTE) := own_elem ev_s__VALUES ev_s_BYTE A (by decide) u22a
  have el3 : cl.slots[3]? = some (.ref s_SHORT) := own_elem ev_s__VALUES ev_s_SHORT A (by decide) u23a
  have el4 : cl.slots[4]? = some (.ref s_INT) := own_elem ev_s__VALUES ev_s_INT A (by decide) u24a
  have el5 : cl.slots[5]? = some (.ref s_LONG) := own_elem ev_s__VALUES ev_s_LONG A (by decide) u25a
  have el6 : cl.slots[6]? = some (.ref s_FLOAT) := own_elem ev_s__VALUES ev_s_FLOAT A (by decide) u26a
  have el7 : cl.slots[7]? = some (.ref s_DOUBLE) := own_elem ev_s__VALUES ev_s_DOUBLE A (by decide) u27a
  have el8 : cl.slots[8]? = some (.ref s_STRING) := own_elem ev_s__VALUES ev_s_STRING A (by decide) u29a
  have el9 : cl.slots[9]? = some (.ref s_BOOLEAN_ARRAY) := own_elem ev_s__VALUES ev_s_BOOLEAN_ARRAY A (by decide) u30a
  have el10 : cl.slots[10]? = some (.ref s_BYTE_ARRAY) := own_elem ev_s__VALUES ev_s_BYTE_ARRAY A (by decide) u31a
  have el11 : cl.slots[11]? = some (.ref s_SHORT_ARRAY) := own_elem ev_s__VALUES ev_s_SHORT_ARRAY A (by decide) u32a
  have el12 : cl.slots[12]? = some (.ref s_INT_ARRAY) := own_elem ev_s__VALUES ev_s_INT_ARRAY A (by decide) u33a
  have el13 : cl.slots[13]? = some (.ref s_LONG_ARRAY) := own_elem ev_s__VALUES ev_s_LONG_ARRAY A (by decide) u34a
  have el14 : cl.slots[14]? = some (.ref s_FLOAT_ARRAY) := own_elem ev_s__VALUES ev_s_FLOAT_ARRAY A (by decide) u35a
  have el15 : cl.slots[15]? = some (.ref s_DOUBLE_ARRAY) := own_elem ev_s__VALUES ev_s_DOUBLE_ARRAY A (by decide) u36a
  have OV_vv : Arv s s.heap s__VALUES cl.cls (.object "com/example/tenon/tenon/generator/JavaType") (16 : Int32) [(.ref s_VOID), (.ref s_BOOLEAN), (.ref s_BYTE), (.ref s_SHORT), (.ref s_INT), (.ref s_LONG), (.ref s_FLOAT), (.ref s_DOUBLE), (.ref s_STRING), (.ref s_BOOLEAN_ARRAY), (.ref s_BYTE_ARRAY), (.ref s_SHORT_ARRAY), (.ref s_INT_ARRAY), (.ref s_LONG_ARRAY), (.ref s_FLOAT_ARRAY), (.ref s_DOUBLE_ARRAY)] .null := Arv.start hfit A L1 L2 (by decide) rfl ⟨el0, el1, el2, el3, el4, el5, el6, el7, el8, el9, el10, el11, el12, el13, el14, el15, trivial⟩
  have el_VOID : Fld s s.heap s_VOID "com/example/tenon/tenon/generator/JavaType" "element" "Lcom/example/tenon/tenon/generator/JavaType;" .null := own_eq_null ev_s_VOID u37a
  have el_BOOLEAN : Fld s s.heap s_BOOLEAN "com/example/tenon/tenon/generator/JavaType" "element" "Lcom/example/tenon/tenon/generator/JavaType;" .null := own_eq_null ev_s_BOOLEAN u38a
  have el_BYTE : Fld s s.heap s_BYTE "com/example/tenon/tenon/generator/JavaType" "element" "Lcom/example/tenon/tenon/generator/JavaType;" .null := own_eq_null ev_s_BYTE u39a
  have el_SHORT : Fld s s.heap s_SHORT "com/example/tenon/tenon/generator/JavaType" "element" "Lcom/example/tenon/tenon/generator/JavaType;" .null := own_eq_null ev_s_SHORT u40a
  have el_INT : Fld s s.heap s_INT "com/example/tenon/tenon/generator/JavaType" "element" "Lcom/example/tenon/tenon/generator/JavaType;" .null := own_eq_null ev_s_INT u41a
  have el_LONG : Fld s s.heap s_LONG "com/example/tenon/tenon/generator/JavaType" "element" "Lcom/example/tenon/tenon/generator/JavaType;" .null := own_eq_null ev_s_LONG u42a
  have el_FLOAT : Fld s s.heap s_FLOAT "com/example/tenon/tenon/generator/JavaType" "element" "Lcom/example/tenon/tenon/generator/JavaType;" .null := own_eq_null ev_s_FLOAT u43a
  have el_DOUBLE : Fld s s.heap s_DOUBLE "com/example/tenon/tenon/generator/JavaType" "element" "Lcom/example/tenon/tenon/generator/JavaType;" .null := own_eq_null ev_s_DOUBLE u44a
  have el_STRING : Fld s s.heap s_STRING "com/example/tenon/tenon/generator/JavaType" "element" "Lcom/example/tenon/tenon/generator/JavaType;" .null := own_eq_null ev_s_STRING u45a
  have el_BOOLEAN_ARRAY : Fld s s.heap s_BOOLEAN_ARRAY "com/example/tenon/tenon/generator/JavaType" "element" "Lcom/example/tenon/tenon/generator/JavaType;" (.ref s_BOOLEAN) := own_eq_ref ev_s_BOOLEAN_ARRAY ev_s_BOOLEAN u46a
  have el_BYTE_ARRAY : Fld s s.heap s_BYTE_ARRAY "com/example/tenon/tenon/generator/JavaType" "element" "Lcom/example/tenon/tenon/generator/JavaType;" (.ref s_BYTE) := own_eq_ref ev_s_BYTE_ARRAY ev_s_BYTE u49a
  have el_SHORT_ARRAY : Fld s s.heap s_SHORT_ARRAY "com/example/tenon/tenon/generator/JavaType" "element" "Lcom/example/tenon/tenon/generator/JavaType;" (.ref s_SHORT) := own_eq_ref ev_s_SHORT_ARRAY ev_s_SHORT u51a
  have el_INT_ARRAY : Fld s s.heap s_INT_ARRAY "com/example/tenon/tenon/generator/JavaType" "element" "Lcom/example/tenon/tenon/generator/JavaType;" (.ref s_INT) := own_eq_ref ev_s_INT_ARRAY ev_s_INT u53a
  have el_LONG_ARRAY : Fld s s.heap s_LONG_ARRAY "com/example/tenon/tenon/generator/JavaType" "element" "Lcom/example/tenon/tenon/generator/JavaType;" (.ref s_LONG) := own_eq_ref ev_s_LONG_ARRAY ev_s_LONG u55a
  have el_FLOAT_ARRAY : Fld s s.heap s_FLOAT_ARRAY "com/example/tenon/tenon/generator/JavaType" "element" "Lcom/example/tenon/tenon/generator/JavaType;" (.ref s_FLOAT) := own_eq_ref ev_s_FLOAT_ARRAY ev_s_FLOAT u57a
  have el_DOUBLE_ARRAY : Fld s s.heap s_DOUBLE_ARRAY "com/example/tenon/tenon/generator/JavaType" "element" "Lcom/example/tenon/tenon/generator/JavaType;" (.ref s_DOUBLE) := own_eq_ref ev_s_DOUBLE_ARRAY ev_s_DOUBLE u58b
  obtain ⟨n, o, h1, h2, h3, _, L, rfl, ⟨rfl, N⟩, hq⟩ := rm_law l s _ hw tables_1 i0 s__VALUES cl.cls s_VOID s_BOOLEAN s_BYTE s_SHORT s_INT s_LONG s_FLOAT s_DOUBLE s_STRING s_BOOLEAN_ARRAY s_BYTE_ARRAY s_SHORT_ARRAY s_INT_ARRAY s_LONG_ARRAY s_FLOAT_ARRAY s_DOUBLE_ARRAY s.heap s.heap.size (Old.start s) (S_s_BOOLEAN) (S_s_BYTE) (S_s_SHORT) (S_s_INT) (S_s_LONG) (S_s_FLOAT) (S_s_DOUBLE) (S_s_BOOLEAN_ARRAY) (S_s_BYTE_ARRAY) (S_s_SHORT_ARRAY) (S_s_INT_ARRAY) (S_s_LONG_ARRAY) (S_s_FLOAT_ARRAY) (S_s_DOUBLE_ARRAY) (OE_s_BOOLEAN) (OE_s_BYTE) (OE_s_SHORT) (OE_s_INT) (OE_s_LONG) (OE_s_FLOAT) (OE_s_DOUBLE) (OE_s_BOOLEAN_ARRAY) (OE_s_BYTE_ARRAY) (OE_s_SHORT_ARRAY) (OE_s_INT_ARRAY) (OE_s_LONG_ARRAY) (OE_s_FLOAT_ARRAY) (OE_s_DOUBLE_ARRAY) (S_s__VALUES) (OE_s__VALUES) (OV_vv) (el_VOID) (el_BOOLEAN) (el_BYTE) (el_SHORT) (el_INT) (el_LONG) (el_FLOAT) (el_DOUBLE) (el_STRING) (el_BOOLEAN_ARRAY) (el_BYTE_ARRAY) (el_SHORT_ARRAY) (el_INT_ARRAY) (el_LONG_ARRAY) (el_FLOAT_ARRAY) (el_DOUBLE_ARRAY) (OF_s_BOOLEAN_ordinal) (OF_s_BYTE_ordinal) (OF_s_SHORT_ordinal) (OF_s_INT_ordinal) (OF_s_LONG_ordinal) (OF_s_FLOAT_ordinal) (OF_s_DOUBLE_ordinal) p e ha hc hk s m _ below hf ((Spec.applies_iff_loose hf).mp happ).1 ⟨rfl, State.Warmed39.refl s, rfl⟩ trivial
  refine ⟨n, _, h1, h2, h3, hpost _ _ _ _ _ _ ⟨Cond.after_iff.mpr rfl, Cond.after_iff.mpr (eq_i res_at (Term.int_eval (1)) rfl), trivial⟩ ⟨hq.1, hq.2.1, (hq.2.2.sift fun y hy => Or.inr (N y hy)).mono (by decide) (by decide)⟩⟩
theorem main_1_1 : Claimed_1_1 := comes_1 fun _ _ _ _ _ _ h hF => ⟨h.1, hF⟩
theorem main_1_2 : Claimed_1_2 := comes_1 fun _ _ _ _ _ _ h hF => ⟨h.2.1, hF⟩

end Jvm.Pilot.@@N@@
namespace Jvm.Pilot.@@N@@
open Jvm Jvm.ClassFile Sem Op Lib Jvm.Free Jvm.Stand Jvm.Pilot.@@N@@.Jvm.D
/-! MADE BY PROGRAM (witnessworld.py) out of the Statement's table words and the real class files: 13 classes; the members and pool entries that the words name. The judged class is class 1, her method 1. -/
namespace start1
open Jvm.ClassFile
def u (s : String) : CpInfo := .utf8 (stringToUtf16 s)
/-- a pool by its gaps: so many unusable entries, then the entry; so many at the end -/
def gap : Nat → List CpInfo → List CpInfo
  | 0, r => r
  | n + 1, r => .unusable :: gap n r
def poolList (es : List (Nat × CpInfo)) (last : Nat) : List CpInfo := es.foldr (fun e r => gap e.1 (e.2 :: r)) (gap last [])
def pool (es : List (Nat × CpInfo)) (last : Nat) : Array CpInfo := ⟨poolList es last⟩
def fileOf (pool : Array CpInfo) (this : Nat) (attrs : Array Attribute := #[]) (ms : Array MethodInfo := #[]) (fl : Nat := 33) (sup : Nat := 0) (ifs : Array Nat := #[]) (fds : Array FieldInfo := #[]) : ClassFile where
  minorVersion := 0
  majorVersion := 65
  constantPool := pool
  accessFlags := fl
  thisClass := this
  superClass := sup
  interfaces := ifs
  fields := fds
  methods := ms
  attributes := attrs
def plain (name : String) (sup : Option ClassId) : Class where
  name := name
  kind := .ordinary
  loader := none
  accessFlags := 33
  super := sup
  interfaces := #[]
  cf := none
  fields := #[]
  methods := #[]
  instanceTypes := #[]
  staticTypes := #[]
  resolved := #[]
  callSites := []
  init := .initialized
  statics := none
  mirror := none

def pool0 : Array CpInfo := pool [(5, u "<init>"), (0, u "()V"), (1, .class_ 10), (1, u "java/lang/Object"), (85, u "clone"), (0, u "()Ljava/lang/Object;")] 26

def k0m0 : Method := { name := "<init>", desc := "()V", sig := { parameters := [], returnType := none }, accessFlags := 1, code := none }
def k0m1 : Method := { name := "clone", desc := "()Ljava/lang/Object;", sig := { parameters := [], returnType := some (.object "java/lang/Object") }, accessFlags := 260, code := none }
/-- java/lang/Object -/
def k0 : Class := { plain "java/lang/Object" none with
  accessFlags := 33
  interfaces := #[]
  cf := some (fileOf pool0 8 #[] #[{ accessFlags := 1, nameIndex := 5, descriptorIndex := 6, attributes := #[] }, { accessFlags := 260, nameIndex := 96, descriptorIndex := 97, attributes := #[] }] 33 0 #[] #[])
  fields := #[]
  methods := #[k0m0, k0m1]
  instanceTypes := #[]
  staticTypes := #[]
  resolved := Array.replicate 124 none
  statics := none }

def pool1 : Array CpInfo := pool [(2, .class_ 4), (1, u "java/lang/Object"), (0, u "<init>"), (0, u "()V"), (0, .class_ 8), (0, u "com/example/tenon/tenon/generator/JavaType"), (0, .fieldref 7 10), (0, .nameAndType 11 12), (0, u "BOOLEAN"), (0, u "Lcom/example/tenon/tenon/generator/JavaType;"), (0, .fieldref 7 14), (0, .nameAndType 15 12), (0, u "BYTE"), (0, .fieldref 7 17), (0, .nameAndType 18 12), (0, u "SHORT"), (0, .fieldref 7 20), (0, .nameAndType 21 12), (0, u "INT"), (0, .fieldref 7 23), (0, .nameAndType 24 12), (0, u "LONG"), (0, .fieldref 7 26), (0, .nameAndType 27 12), (0, u "FLOAT"), (0, .fieldref 7 29), (0, .nameAndType 30 12), (0, u "DOUBLE"), (0, .fieldref 7 32), (0, .nameAndType 33 12), (0, u "BOOLEAN_ARRAY"), (0, .fieldref 7 35), (0, .nameAndType 36 12), (0, u "BYTE_ARRAY"), (0, .fieldref 7 38), (0, .nameAndType 39 12), (0, u "SHORT_ARRAY"), (0, .fieldref 7 41), (0, .nameAndType 42 12), (0, u "INT_ARRAY"), (0, .fieldref 7 44), (0, .nameAndType 45 12), (0, u "LONG_ARRAY"), (0, .fieldref 7 47), (0, .nameAndType 48 12), (0, u "FLOAT_ARRAY"), (0, .fieldref 7 50), (0, .nameAndType 51 12), (0, u "DOUBLE_ARRAY"), (0, .integer 2147483647), (0, .methodref 7 54), (0, .nameAndType 55 56), (0, u "array"), (0, u "()Lcom/example/tenon/tenon/generator/JavaType;"), (0, .class_ 58), (0, u "com/example/tenon/tenon/generator/JavaTypeArrayPinLaw"), (2, u "law"), (0, u "(I)Z")] 5

def k1m0 : Method := { name := "<init>", desc := "()V", sig := { parameters := [], returnType := none }, accessFlags := 1, code := none }
def k1c1 : Code := { maxStack := 4, maxLocals := 4, code := code, exceptionTable := #[], attributes := #[] }
def k1m1 : Method := { name := "law", desc := "(I)Z", sig := { parameters := [.int], returnType := some .boolean }, accessFlags := 9, code := some k1c1 }
/-- com/example/tenon/tenon/generator/JavaTypeArrayPinLaw -/
def k1 : Class := { plain "com/example/tenon/tenon/generator/JavaTypeArrayPinLaw" (some 0) with
  accessFlags := 49
  interfaces := #[]
  cf := some (fileOf pool1 57 #[] #[{ accessFlags := 1, nameIndex := 5, descriptorIndex := 6, attributes := #[] }, { accessFlags := 9, nameIndex := 61, descriptorIndex := 62, attributes := #[] }] 49 2 #[] #[])
  fields := #[]
  methods := #[k1m0, k1m1]
  instanceTypes := #[]
  staticTypes := #[]
  resolved := Array.replicate 68 none
  statics := none }

def pool2 : Array CpInfo := pool [(1, .class_ 2), (0, u "java/lang/constant/Constable"), (0, .class_ 4), (0, u "java/lang/Object")] 6

/-- java/lang/constant/Constable -/
def k2 : Class := { plain "java/lang/constant/Constable" (some 0) with
  accessFlags := 1537
  interfaces := #[]
  cf := some (fileOf pool2 1 #[] #[] 1537 3 #[] #[])
  fields := #[]
  methods := #[]
  instanceTypes := #[]
  staticTypes := #[]
  resolved := Array.replicate 11 none
  statics := none }

def pool3 : Array CpInfo := pool [(1, .class_ 2), (0, u "java/lang/Comparable"), (0, .class_ 4), (0, u "java/lang/Object")] 7

/-- java/lang/Comparable -/
def k3 : Class := { plain "java/lang/Comparable" (some 0) with
  accessFlags := 1537
  interfaces := #[]
  cf := some (fileOf pool3 1 #[] #[] 1537 3 #[] #[])
  fields := #[]
  methods := #[]
  instanceTypes := #[]
  staticTypes := #[]
  resolved := Array.replicate 12 none
  statics := none }

def pool4 : Array CpInfo := pool [(1, .class_ 2), (0, u "java/io/Serializable"), (0, .class_ 4), (0, u "java/lang/Object")] 2

/-- java/io/Serializable -/
def k4 : Class := { plain "java/io/Serializable" (some 0) with
  accessFlags := 1537
  interfaces := #[]
  cf := some (fileOf pool4 1 #[] #[] 1537 3 #[] #[])
  fields := #[]
  methods := #[]
  instanceTypes := #[]
  staticTypes := #[]
  resolved := Array.replicate 7 none
  statics := none }

def pool5 : Array CpInfo := pool [(2, .class_ 4), (1, u "java/lang/Enum"), (0, u "name"), (0, u "Ljava/lang/String;"), (2, u "ordinal"), (0, u "I"), (1, .class_ 14), (1, u "java/lang/Object"), (4, u "hash"), (86, .class_ 108), (1, u "java/lang/Enum$EnumDesc"), (2, .class_ 112), (0, u "java/lang/constant/Constable"), (0, .class_ 114), (0, u "java/lang/Comparable"), (0, .class_ 116), (0, u "java/io/Serializable")] 87

/-- java/lang/Enum -/
def k5 : Class := { plain "java/lang/Enum" (some 0) with
  accessFlags := 1057
  interfaces := #[2, 3, 4]
  cf := some (fileOf pool5 2 #[.nestMembers #[106]] #[] 1057 12 #[111, 113, 115] #[{ accessFlags := 18, nameIndex := 5, descriptorIndex := 6, attributes := #[] }, { accessFlags := 18, nameIndex := 9, descriptorIndex := 10, attributes := #[] }, { accessFlags := 2, nameIndex := 19, descriptorIndex := 10, attributes := #[] }])
  fields := #[{ name := "name", type := (.object "java/lang/String"), accessFlags := 18, slot := 0, constantValue := 0 }, { name := "ordinal", type := .int, accessFlags := 18, slot := 1, constantValue := 0 }, { name := "hash", type := .int, accessFlags := 2, slot := 2, constantValue := 0 }]
  methods := #[]
  instanceTypes := #[(.object "java/lang/String"), .int, .int]
  staticTypes := #[]
  resolved := Array.replicate 204 none
  statics := none }

def pool6 : Array CpInfo := pool [(1, .class_ 2), (0, u "com/example/tenon/tenon/generator/JavaType"), (2, u "VOID"), (0, u "Lcom/example/tenon/tenon/generator/JavaType;"), (2, u "BOOLEAN"), (2, u "BYTE"), (2, u "SHORT"), (2, u "INT"), (2, u "LONG"), (2, u "FLOAT"), (2, u "DOUBLE"), (2, u "STRING"), (2, u "BOOLEAN_ARRAY"), (2, u "BYTE_ARRAY"), (2, u "SHORT_ARRAY"), (2, u "INT_ARRAY"), (2, u "LONG_ARRAY"), (2, u "FLOAT_ARRAY"), (2, u "DOUBLE_ARRAY"), (0, .fieldref 1 53), (0, .nameAndType 54 55), (0, u "$VALUES"), (0, u "[Lcom/example/tenon/tenon/generator/JavaType;"), (0, .methodref 57 58), (0, .class_ 55), (0, .nameAndType 59 60), (0, u "clone"), (0, u "()Ljava/lang/Object;"), (1, .class_ 64), (1, u "java/lang/Enum"), (8, u "javaName"), (0, u "Ljava/lang/String;"), (2, u "jniName"), (2, u "descriptor"), (2, u "callResult"), (0, .fieldref 1 85), (0, .nameAndType 86 6), (0, u "element"), (8, .methodref 1 96), (0, .nameAndType 97 98), (0, u "values"), (0, u "()[Lcom/example/tenon/tenon/generator/JavaType;"), (121, u "array"), (0, u "()Lcom/example/tenon/tenon/generator/JavaType;")] 39

def k6c0 : Code := { maxStack := 1, maxLocals := 0, code := prog_11_method_1_code, exceptionTable := #[], attributes := #[] }
def k6m0 : Method := { name := "values", desc := "()[Lcom/example/tenon/tenon/generator/JavaType;", sig := { parameters := [], returnType := some (.array (.object "com/example/tenon/tenon/generator/JavaType")) }, accessFlags := 9, code := some k6c0 }
def k6c1 : Code := { maxStack := 3, maxLocals := 5, code := prog_11_method_5_code, exceptionTable := #[], attributes := #[] }
def k6m1 : Method := { name := "array", desc := "()Lcom/example/tenon/tenon/generator/JavaType;", sig := { parameters := [], returnType := some (.object "com/example/tenon/tenon/generator/JavaType") }, accessFlags := 0, code := some k6c1 }
/-- com/example/tenon/tenon/generator/JavaType -/
def k6 : Class := { plain "com/example/tenon/tenon/generator/JavaType" (some 5) with
  accessFlags := 16432
  interfaces := #[]
  cf := some (fileOf pool6 1 #[] #[{ accessFlags := 9, nameIndex := 97, descriptorIndex := 98, attributes := #[] }, { accessFlags := 0, nameIndex := 220, descriptorIndex := 221, attributes := #[] }] 16432 62 #[] #[{ accessFlags := 16409, nameIndex := 5, descriptorIndex := 6, attributes := #[] }, { accessFlags := 16409, nameIndex := 9, descriptorIndex := 6, attributes := #[] }, { accessFlags := 16409, nameIndex := 12, descriptorIndex := 6, attributes := #[] }, { accessFlags := 16409, nameIndex := 15, descriptorIndex := 6, attributes := #[] }, { accessFlags := 16409, nameIndex := 18, descriptorIndex := 6, attributes := #[] }, { accessFlags := 16409, nameIndex := 21, descriptorIndex := 6, attributes := #[] }, { accessFlags := 16409, nameIndex := 24, descriptorIndex := 6, attributes := #[] }, { accessFlags := 16409, nameIndex := 27, descriptorIndex := 6, attributes := #[] }, { accessFlags := 16409, nameIndex := 30, descriptorIndex := 6, attributes := #[] }, { accessFlags := 16409, nameIndex := 33, descriptorIndex := 6, attributes := #[] }, { accessFlags := 16409, nameIndex := 36, descriptorIndex := 6, attributes := #[] }, { accessFlags := 16409, nameIndex := 39, descriptorIndex := 6, attributes := #[] }, { accessFlags := 16409, nameIndex := 42, descriptorIndex := 6, attributes := #[] }, { accessFlags := 16409, nameIndex := 45, descriptorIndex := 6, attributes := #[] }, { accessFlags := 16409, nameIndex := 48, descriptorIndex := 6, attributes := #[] }, { accessFlags := 16409, nameIndex := 51, descriptorIndex := 6, attributes := #[] }, { accessFlags := 18, nameIndex := 73, descriptorIndex := 74, attributes := #[] }, { accessFlags := 18, nameIndex := 77, descriptorIndex := 74, attributes := #[] }, { accessFlags := 18, nameIndex := 80, descriptorIndex := 74, attributes := #[] }, { accessFlags := 18, nameIndex := 83, descriptorIndex := 74, attributes := #[] }, { accessFlags := 18, nameIndex := 86, descriptorIndex := 6, attributes := #[] }, { accessFlags := 4122, nameIndex := 54, descriptorIndex := 55, attributes := #[] }])
  fields := #[{ name := "VOID", type := (.object "com/example/tenon/tenon/generator/JavaType"), accessFlags := 16409, slot := 0, constantValue := 0 }, { name := "BOOLEAN", type := (.object "com/example/tenon/tenon/generator/JavaType"), accessFlags := 16409, slot := 1, constantValue := 0 }, { name := "BYTE", type := (.object "com/example/tenon/tenon/generator/JavaType"), accessFlags := 16409, slot := 2, constantValue := 0 }, { name := "SHORT", type := (.object "com/example/tenon/tenon/generator/JavaType"), accessFlags := 16409, slot := 3, constantValue := 0 }, { name := "INT", type := (.object "com/example/tenon/tenon/generator/JavaType"), accessFlags := 16409, slot := 4, constantValue := 0 }, { name := "LONG", type := (.object "com/example/tenon/tenon/generator/JavaType"), accessFlags := 16409, slot := 5, constantValue := 0 }, { name := "FLOAT", type := (.object "com/example/tenon/tenon/generator/JavaType"), accessFlags := 16409, slot := 6, constantValue := 0 }, { name := "DOUBLE", type := (.object "com/example/tenon/tenon/generator/JavaType"), accessFlags := 16409, slot := 7, constantValue := 0 }, { name := "STRING", type := (.object "com/example/tenon/tenon/generator/JavaType"), accessFlags := 16409, slot := 8, constantValue := 0 }, { name := "BOOLEAN_ARRAY", type := (.object "com/example/tenon/tenon/generator/JavaType"), accessFlags := 16409, slot := 9, constantValue := 0 }, { name := "BYTE_ARRAY", type := (.object "com/example/tenon/tenon/generator/JavaType"), accessFlags := 16409, slot := 10, constantValue := 0 }, { name := "SHORT_ARRAY", type := (.object "com/example/tenon/tenon/generator/JavaType"), accessFlags := 16409, slot := 11, constantValue := 0 }, { name := "INT_ARRAY", type := (.object "com/example/tenon/tenon/generator/JavaType"), accessFlags := 16409, slot := 12, constantValue := 0 }, { name := "LONG_ARRAY", type := (.object "com/example/tenon/tenon/generator/JavaType"), accessFlags := 16409, slot := 13, constantValue := 0 }, { name := "FLOAT_ARRAY", type := (.object "com/example/tenon/tenon/generator/JavaType"), accessFlags := 16409, slot := 14, constantValue := 0 }, { name := "DOUBLE_ARRAY", type := (.object "com/example/tenon/tenon/generator/JavaType"), accessFlags := 16409, slot := 15, constantValue := 0 }, { name := "javaName", type := (.object "java/lang/String"), accessFlags := 18, slot := 3, constantValue := 0 }, { name := "jniName", type := (.object "java/lang/String"), accessFlags := 18, slot := 4, constantValue := 0 }, { name := "descriptor", type := (.object "java/lang/String"), accessFlags := 18, slot := 5, constantValue := 0 }, { name := "callResult", type := (.object "java/lang/String"), accessFlags := 18, slot := 6, constantValue := 0 }, { name := "element", type := (.object "com/example/tenon/tenon/generator/JavaType"), accessFlags := 18, slot := 7, constantValue := 0 }, { name := "$VALUES", type := (.array (.object "com/example/tenon/tenon/generator/JavaType")), accessFlags := 4122, slot := 16, constantValue := 0 }]
  methods := #[k6m0, k6m1]
  instanceTypes := #[(.object "java/lang/String"), .int, .int, (.object "java/lang/String"), (.object "java/lang/String"), (.object "java/lang/String"), (.object "java/lang/String"), (.object "com/example/tenon/tenon/generator/JavaType")]
  staticTypes := #[(.object "com/example/tenon/tenon/generator/JavaType"), (.object "com/example/tenon/tenon/generator/JavaType"), (.object "com/example/tenon/tenon/generator/JavaType"), (.object "com/example/tenon/tenon/generator/JavaType"), (.object "com/example/tenon/tenon/generator/JavaType"), (.object "com/example/tenon/tenon/generator/JavaType"), (.object "com/example/tenon/tenon/generator/JavaType"), (.object "com/example/tenon/tenon/generator/JavaType"), (.object "com/example/tenon/tenon/generator/JavaType"), (.object "com/example/tenon/tenon/generator/JavaType"), (.object "com/example/tenon/tenon/generator/JavaType"), (.object "com/example/tenon/tenon/generator/JavaType"), (.object "com/example/tenon/tenon/generator/JavaType"), (.object "com/example/tenon/tenon/generator/JavaType"), (.object "com/example/tenon/tenon/generator/JavaType"), (.object "com/example/tenon/tenon/generator/JavaType"), (.array (.object "com/example/tenon/tenon/generator/JavaType"))]
  resolved := Array.replicate 261 none
  statics := some 0 }

def pool7 : Array CpInfo := pool [(1, .class_ 2), (0, u "java/lang/Cloneable"), (0, .class_ 4), (0, u "java/lang/Object")] 2

/-- java/lang/Cloneable -/
def k7 : Class := { plain "java/lang/Cloneable" (some 0) with
  accessFlags := 1537
  interfaces := #[]
  cf := some (fileOf pool7 1 #[] #[] 1537 3 #[] #[])
  fields := #[]
  methods := #[]
  instanceTypes := #[]
  staticTypes := #[]
  resolved := Array.replicate 7 none
  statics := none }

/-- the primitive byte -/
def k8 : Class := { plain "byte" none with kind := .primitive 'B', accessFlags := 0x411 }
/-- [B -/
def k9 : Class := { plain "[B" (some 0) with kind := .array 8 .byte, interfaces := #[7, 4], accessFlags := 1041 }

/-- the primitive int -/
def k10 : Class := { plain "int" none with kind := .primitive 'I', accessFlags := 0x411 }
/-- [I -/
def k11 : Class := { plain "[I" (some 0) with kind := .array 10 .int, interfaces := #[7, 4], accessFlags := 1041 }

/-- [Lcom/example/tenon/tenon/generator/JavaType; -/
def k12 : Class := { plain "[Lcom/example/tenon/tenon/generator/JavaType;" (some 0) with kind := .array 6 (.object "com/example/tenon/tenon/generator/JavaType"), interfaces := #[7, 4], accessFlags := 1041 }

def heap : Heap := #[{ cls := 6, slots := #[.ref 2, .ref 3, .ref 4, .ref 5, .ref 6, .ref 7, .ref 8, .ref 9, .ref 10, .ref 11, .ref 12, .ref 13, .ref 14, .ref 15, .ref 16, .ref 17, .ref 1], vm := .statics 6 },
  { cls := 12, slots := #[.ref 2, .ref 3, .ref 4, .ref 5, .ref 6, .ref 7, .ref 8, .ref 9, .ref 10, .ref 11, .ref 12, .ref 13, .ref 14, .ref 15, .ref 16, .ref 17], vm := .none },
  { cls := 6, slots := #[.null, .int 0, .int 0, .null, .null, .null, .null, .null], vm := .none },
  { cls := 6, slots := #[.null, .int 1, .int 0, .null, .null, .null, .null, .null], vm := .none },
  { cls := 6, slots := #[.null, .int 2, .int 0, .null, .null, .null, .null, .null], vm := .none },
  { cls := 6, slots := #[.null, .int 3, .int 0, .null, .null, .null, .null, .null], vm := .none },
  { cls := 6, slots := #[.null, .int 4, .int 0, .null, .null, .null, .null, .null], vm := .none },
  { cls := 6, slots := #[.null, .int 5, .int 0, .null, .null, .null, .null, .null], vm := .none },
  { cls := 6, slots := #[.null, .int 6, .int 0, .null, .null, .null, .null, .null], vm := .none },
  { cls := 6, slots := #[.null, .int 7, .int 0, .null, .null, .null, .null, .null], vm := .none },
  { cls := 6, slots := #[.null, .int 8, .int 0, .null, .null, .null, .null, .null], vm := .none },
  { cls := 6, slots := #[.null, .int 9, .int 0, .null, .null, .null, .null, .ref 3], vm := .none },
  { cls := 6, slots := #[.null, .int 10, .int 0, .null, .null, .null, .null, .ref 4], vm := .none },
  { cls := 6, slots := #[.null, .int 11, .int 0, .null, .null, .null, .null, .ref 5], vm := .none },
  { cls := 6, slots := #[.null, .int 12, .int 0, .null, .null, .null, .null, .ref 6], vm := .none },
  { cls := 6, slots := #[.null, .int 13, .int 0, .null, .null, .null, .null, .ref 7], vm := .none },
  { cls := 6, slots := #[.null, .int 14, .int 0, .null, .null, .null, .null, .ref 8], vm := .none },
  { cls := 6, slots := #[.null, .int 15, .int 0, .null, .null, .null, .null, .ref 9], vm := .none }]
def classes : Array Class := #[k0, k1, k2, k3, k4, k5, k6, k7, k8, k9, k10, k11, k12]
def interned : List (Array UInt16 × Addr) := []
def slotsUsed : Nat := 161
def theMethod : MethodId := ⟨1, 1⟩
def args0 : Array Value := #[.int 5]
def aboutOver (below : List Frame) : State where
  vm := { classes := classes, interned := interned.toArray }
  heap := heap
  slotsUsed := slotsUsed
  threads := #[{ frames := .invoking theMethod args0 :: below }]
def below0 : List Frame := [.native { method := ⟨0, 0⟩, args := #[] }]
def about1 : State := aboutOver below0
def p0 : Program := .bare "" "" ""
def e0 : Env := launch0.env 0 0 0
theorem w_frames : about1.frames = Frame.invoking theMethod args0 :: below0 := rfl
set_option maxRecDepth 65536 in
theorem w_args : argsFit about1.vm theMethod args0 = true := by decide +kernel
set_option maxRecDepth 65536 in
theorem w_heap : heapFits about1 = true := by decide +kernel
set_option maxRecDepth 65536 in
theorem w_runnable : about1.curStatus? = some .runnable := by decide +kernel
set_option maxRecDepth 65536 in
theorem w_alone : about1.alone = true := by decide +kernel
set_option maxRecDepth 65536 in
theorem w_named : about1.methodNamed? x = some theMethod := by decide +kernel
set_option maxRecDepth 65536 in
theorem w_hears : about1.hears theMethod below0 = true := by decide +kernel
set_option maxRecDepth 65536 in
theorem w_ripe : about1.ripe theMethod args0 below0 = true := by decide +kernel
theorem w_running : about1.status = .running := rfl
set_option maxRecDepth 65536 in
theorem w_room : about1.hasRoom e0.platform room_1 = true :=
  launch0.hasRoom_least _ room_1 (by decide +kernel) (by decide +kernel) (by decide +kernel) (by decide +kernel) (by decide +kernel) (by decide +kernel)
theorem allAtoms_all (ts : List Jvm.Cond) (a : Array Jvm.Value) (st : Jvm.State) : (allAtoms ts).before a st = ts.all (fun c => c.before a st) := by
  induction ts with
  | nil => rfl
  | cons c t ih =>
    show (Jvm.Cond.and c (allAtoms t)).before a st = _
    rw [Jvm.Cond.before_and, ih, List.all_cons]
def words1 : List Jvm.Cond := Jvm.Cond.code x code maxLocals ret :: tables_1
/-- a 'code' word, met by the world's own term for the bytes: nothing is compared byte by byte -/
theorem code_word {y : MethodName} {bytes : ByteArray} {mx : Nat} {rt : Option FieldType} {a : Array Value} {s : State} {m : MethodId} {meth : Method} {c : Code} (h1 : s.methodNamed? y = some m) (h2 : s.vm.method? m = some meth) (h3 : meth.code = some c) (h4 : c.code = bytes)
    (h5 : (c.maxLocals == mx && c.exceptionTable.isEmpty && decide (c.maxStack ≤ mostOperands) && decide (meth.sig.returnType = rt) && !meth.locks && decide (parseMethodDescriptor y.desc = some meth.sig)) = true) : (Jvm.Cond.code y bytes mx rt).before a s = true := by
  simp only [Bool.and_eq_true, beq_iff_eq, Bool.not_eq_true', decide_eq_true_eq] at h5
  obtain ⟨⟨⟨⟨⟨g1, g2⟩, g3⟩, g4⟩, g5⟩, g6⟩ := h5
  simp [Cond.before, Cond.holds, Cond.value, h1, h2, h3, h4, g1, g2, g3, g4, g5, g6]
def isCode : Jvm.Cond → Bool
  | .code _ _ _ _ => true
  | _ => false
theorem all_split {L : List Jvm.Cond} {P : Jvm.Cond → Bool} (h1 : L.all (fun c => isCode c || P c) = true) (h2 : ∀ c ∈ L.filter isCode, P c = true) : L.all P = true := by
  refine List.all_eq_true.mpr fun c hc => ?_
  have h := List.all_eq_true.mp h1 c hc
  rcases Bool.eq_false_or_eq_true (isCode c) with hi | hi
  · exact h2 c (List.mem_filter.mpr ⟨hc, hi⟩)
  · simpa [hi] using h
set_option maxRecDepth 65536 in
theorem w_c0 : (Jvm.Cond.code x code maxLocals ret).before args0 about1 = true := code_word (m := ⟨1, 1⟩) (meth := k1m1) (c := k1c1) (by decide +kernel) rfl rfl rfl (by decide +kernel)
set_option maxRecDepth 65536 in
theorem w_c1 : (Jvm.Cond.code ({ cls := "com/example/tenon/tenon/generator/JavaType", name := "array", desc := "()Lcom/example/tenon/tenon/generator/JavaType;" } : Jvm.MethodName) prog_11_method_5_code (5 : Nat) (Option.some (Jvm.ClassFile.FieldType.object "com/example/tenon/tenon/generator/JavaType"))).before args0 about1 = true := code_word (m := ⟨6, 1⟩) (meth := k6m1) (c := k6c1) (by decide +kernel) rfl rfl rfl (by decide +kernel)
set_option maxRecDepth 65536 in
theorem w_c2 : (Jvm.Cond.code ({ cls := "com/example/tenon/tenon/generator/JavaType", name := "values", desc := "()[Lcom/example/tenon/tenon/generator/JavaType;" } : Jvm.MethodName) prog_11_method_1_code (0 : Nat) (Option.some (Jvm.ClassFile.FieldType.array (Jvm.ClassFile.FieldType.object "com/example/tenon/tenon/generator/JavaType")))).before args0 about1 = true := code_word (m := ⟨6, 0⟩) (meth := k6m0) (c := k6c0) (by decide +kernel) rfl rfl rfl (by decide +kernel)
def codes1 : List Jvm.Cond := [Jvm.Cond.code x code maxLocals ret, Jvm.Cond.code ({ cls := "com/example/tenon/tenon/generator/JavaType", name := "array", desc := "()Lcom/example/tenon/tenon/generator/JavaType;" } : Jvm.MethodName) prog_11_method_5_code (5 : Nat) (Option.some (Jvm.ClassFile.FieldType.object "com/example/tenon/tenon/generator/JavaType")), Jvm.Cond.code ({ cls := "com/example/tenon/tenon/generator/JavaType", name := "values", desc := "()[Lcom/example/tenon/tenon/generator/JavaType;" } : Jvm.MethodName) prog_11_method_1_code (0 : Nat) (Option.some (Jvm.ClassFile.FieldType.array (Jvm.ClassFile.FieldType.object "com/example/tenon/tenon/generator/JavaType")))]
set_option maxRecDepth 65536 in
theorem codes_eq : words1.filter isCode = codes1 := rfl
theorem w_codes : ∀ c ∈ words1.filter isCode, c.before args0 about1 = true := by
  rw [codes_eq]
  intro c hc
  simp only [codes1, List.mem_cons, List.not_mem_nil, or_false] at hc
  rcases hc with rfl | rfl | rfl
  · exact w_c0
  · exact w_c1
  · exact w_c2
set_option maxRecDepth 65536 in
theorem w_t1 : (words1.take 24).all (fun c => isCode c || c.before args0 about1) = true := by decide +kernel
set_option maxRecDepth 65536 in
theorem w_t2 : ((words1.drop 24).take 24).all (fun c => isCode c || c.before args0 about1) = true := by decide +kernel
set_option maxRecDepth 65536 in
theorem w_t3 : ((words1.drop 24).drop 24).all (fun c => isCode c || c.before args0 about1) = true := by decide +kernel
theorem w_tables : (allAtoms (Jvm.Cond.code x code maxLocals ret :: tables_1)).before args0 about1 = true := by
  rw [allAtoms_all]
  show words1.all (fun c => c.before args0 about1) = true
  refine all_split ?_ w_codes
  rw [← List.take_append_drop 24 words1, List.all_append, w_t1, ← List.take_append_drop 24 (words1.drop 24), List.all_append, w_t2, w_t3]
  rfl
set_option maxRecDepth 65536 in
theorem w_case : (Jvm.Cond.and given_1 narrow_1).before args0 about1 = true := by decide +kernel
theorem w_applies : (headSpec (Jvm.Cond.code x code maxLocals ret :: tables_1) room_1).applies x e0.platform about1 = true :=
  (Spec.applies_iff w_frames).mpr ⟨w_running, w_runnable, w_alone, w_named, w_hears, w_ripe, w_room, w_tables⟩
theorem atStart : AtStart classFile x code maxLocals ret World_1 tables_1 room_1 Calls_1 rest_1 Pre_1 launch0 p0 e0 about1 theMethod args0 below0 :=
  ⟨lists_1, trivial, launch0.admits_env _ _ _, launch0.least_env, fairChoices_fair.cas, fairChoices_fair.clock, w_frames, w_args, w_heap, w_applies, trivial, trivial, w_case⟩
end start1
theorem witness_1 : WitnessClaimed_1 := ⟨start1.p0, start1.e0, start1.about1, start1.theMethod, start1.args0, start1.below0, start1.atStart⟩
end Jvm.Pilot.@@N@@
