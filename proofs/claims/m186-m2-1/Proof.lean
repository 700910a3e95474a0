import JvmDerived
import JvmDerived.Pilot.@@N@@Statement
import JvmDerived.Pilot.@@N@@Code
set_option linter.unusedVariables false
set_option linter.unusedSimpArgs false
namespace Jvm.Pilot.@@N@@
open Jvm Jvm.ClassFile Sem Op Lib Jvm.Free Jvm.Stand Jvm.LawKit Jvm.RoadKit Bundle Jvm.Pilot.@@N@@.Jvm.D
/-- from the state T with the top frame g the run comes to T' with g' -/
def own_R (p : Program) (e : Env) (below : List Frame) (T : State) (g : JFrame) (T' : State) (g' : JFrame) : Prop := ∀ t, Steps p.tables e below (T'.setTop g') t → Steps p.tables e below (T.setTop g) t
abbrev own_S (p : Program) (e : Env) (below : List Frame) (T : State) (g : JFrame) (t : State) : Prop := Steps p.tables e below (T.setTop g) t
theorem own_R.refl {p : Program} {e : Env} {below : List Frame} {T : State} {g : JFrame} : own_R p e below T g T g := fun _ k => k
theorem own_R.trans {p : Program} {e : Env} {below : List Frame} {T T' T'' : State} {g g' g'' : JFrame} (h : own_R p e below T g T' g') (h' : own_R p e below T' g' T'' g'') : own_R p e below T g T'' g'' := fun t k => h t (h' t k)
theorem own_ne_arv {Z : State} {h : Heap} {a b : Addr} {C : String} {k : Nat} {kk : ClassId} {ty : FieldType} {z : Int32} {vs : List Value} {dv : Value} {a0 : Array Value} (E : Exa Z h a C) (wi : (Jvm.Cond.instantiable C k).before a0 Z = true) (V : Arv Z h b kk ty z vs dv) : a ≠ b := by
  obtain ⟨c, A, -⟩ := V
  exact ne_arr E wi A
theorem own_fe {a b x : Addr} {n : Nat} (h : b = a ∨ n ≤ b) (h1 : x ≠ a) (h2 : x < n) : x ≠ b := fun q => h.elim (fun e => h1 (q.trans e)) (fun e => Nat.not_lt.mpr e (q ▸ h2))
theorem own_feg {a b : Addr} {n k : Nat} (h : b = a ∨ n ≤ b) (h1 : k ≤ a) (h2 : k ≤ n) : k ≤ b := h.elim (fun e => e ▸ h1) (Nat.le_trans h2)
theorem own_g {α : Type} {L : List α} {i : Nat} {d : α} (h : L[i]? = some d) : d ∈ L := List.mem_of_getElem? h
theorem own_few {a b : Addr} {ws : List Addr} {n k : Nat} (h : b = a ∨ n ≤ b) (hm : a ∈ ws) (hk : k ≤ n) : b ∈ ws ∨ k ≤ b := h.elim (fun e => Or.inl (e ▸ hm)) (fun e => Or.inr (Nat.le_trans hk e))
theorem own_lt1 (vs : List Value) (d : Value) : vs.length < (vs ++ List.replicate 1 d).length := by simp
theorem own_app {Z : State} {h : Heap} {b : Addr} {k : ClassId} {ty : FieldType} {z : Int32} {vs : List Value} {v d : Value} (F : Arv Z h b k ty z ((vs ++ List.replicate 1 d).set vs.length v) d) : Arv Z h b k ty z (vs ++ [v]) d := by
  have e : (vs ++ List.replicate 1 d).set vs.length v = vs ++ [v] := by simp
  rw [e] at F
  exact F
theorem own_selp {Z s : State} {a0 args : Array Value} {y : MethodName} {n : Nat} (hZ : Z.Warmed39 s.vm) (wi : (Jvm.Cond.instantiable y.cls n).before a0 Z = true) (wp : (Jvm.Cond.privateMethod y).before a0 Z = true) (wm : (Jvm.Cond.instanceMethod y).before a0 Z = true) (hy : y.cls ≠ "java/lang/invoke/MethodHandle" ∧ y.cls ≠ "java/lang/invoke/VarHandle") : (Jvm.Cond.selects y.cls y y).before args s = true := by
  have wi' : (Jvm.Cond.instantiable y.cls n).before args s = true := mvT hZ wi
  obtain ⟨c, k, h1, h2, -, h4, -⟩ := Cond.instantiable_spec wi'
  have h5 : k.isInterface = false := by
    cases hi : k.isInterface with
    | false => rfl
    | true => simp [hi] at h4
  exact Jvm.Stand.selects_self_of_private h1 h2 h5 (Cond.privateMethod_at (mvP hZ wp (args := #[]))) (mvT hZ wm) hy
theorem own_old_size {Z : State} {n0 : Nat} {h : Heap} (O : Old Z n0 h) : n0 ≤ h.size := O.1 ▸ O.2.1

theorem own_eq_fld {s : State} {args : Array Value} {t : Jvm.Term} {a : Addr} {C n d : String} {k : Int32} (ev : t.eval args s none [] s = some (.ref a)) (h : (Jvm.Cond.eq (Jvm.Term.field t C n d) (Jvm.Term.int k)).value args s none s [] = some true) : Fld s s.heap a C n d (.int k) := by
  apply Fld.start
  have q := fld_at (C := C) (n := n) (dd := d) ev
  rw [← q]
  cases hv : (Jvm.Term.field t C n d).eval args s none [] s with
  | none => simp [Cond.value, hv] at h
  | some v => cases v <;> simp_all [Cond.value, Term.eval]

theorem own_split {k p : Int32} (h : k = (p &&& (2147483647 : Int32)) % (12 : Int32)) : k = (0 : Int32) ∨ k = (1 : Int32) ∨ k = (2 : Int32) ∨ k = (3 : Int32) ∨ k = (4 : Int32) ∨ k = (5 : Int32) ∨ k = (6 : Int32) ∨ k = (7 : Int32) ∨ k = (8 : Int32) ∨ k = (9 : Int32) ∨ k = (10 : Int32) ∨ k = (11 : Int32) := by
  have h1 := (c_and p (2147483647 : Int32) (by decide)).1
  have h2 := (c_iremV (p &&& (2147483647 : Int32)) (12 : Int32)).1 h1 (by decide)
  rw [← h] at h2
  have h3 : (12 : Int32).toInt = 12 := by decide
  have h4 : k.toInt = 0 ∨ k.toInt = 1 ∨ k.toInt = 2 ∨ k.toInt = 3 ∨ k.toInt = 4 ∨ k.toInt = 5 ∨ k.toInt = 6 ∨ k.toInt = 7 ∨ k.toInt = 8 ∨ k.toInt = 9 ∨ k.toInt = 10 ∨ k.toInt = 11 := by omega
  rcases h4 with q | q | q | q | q | q | q | q | q | q | q | q
  · have e : k = (0 : Int32) := Int32.toInt_inj.mp (by rw [q]; decide)
    exact Or.inl e
  · have e : k = (1 : Int32) := Int32.toInt_inj.mp (by rw [q]; decide)
    exact Or.inr (Or.inl e)
  · have e : k = (2 : Int32) := Int32.toInt_inj.mp (by rw [q]; decide)
    exact Or.inr (Or.inr (Or.inl e))
  · have e : k = (3 : Int32) := Int32.toInt_inj.mp (by rw [q]; decide)
    exact Or.inr (Or.inr (Or.inr (Or.inl e)))
  · have e : k = (4 : Int32) := Int32.toInt_inj.mp (by rw [q]; decide)
    exact Or.inr (Or.inr (Or.inr (Or.inr (Or.inl e))))
  · have e : k = (5 : Int32) := Int32.toInt_inj.mp (by rw [q]; decide)
    exact Or.inr (Or.inr (Or.inr (Or.inr (Or.inr (Or.inl e)))))
  · have e : k = (6 : Int32) := Int32.toInt_inj.mp (by rw [q]; decide)
    exact Or.inr (Or.inr (Or.inr (Or.inr (Or.inr (Or.inr (Or.inl e))))))
  · have e : k = (7 : Int32) := Int32.toInt_inj.mp (by rw [q]; decide)
    exact Or.inr (Or.inr (Or.inr (Or.inr (Or.inr (Or.inr (Or.inr (Or.inl e)))))))
  · have e : k = (8 : Int32) := Int32.toInt_inj.mp (by rw [q]; decide)
    exact Or.inr (Or.inr (Or.inr (Or.inr (Or.inr (Or.inr (Or.inr (Or.inr (Or.inl e))))))))
  · have e : k = (9 : Int32) := Int32.toInt_inj.mp (by rw [q]; decide)
    exact Or.inr (Or.inr (Or.inr (Or.inr (Or.inr (Or.inr (Or.inr (Or.inr (Or.inr (Or.inl e)))))))))
  · have e : k = (10 : Int32) := Int32.toInt_inj.mp (by rw [q]; decide)
    exact Or.inr (Or.inr (Or.inr (Or.inr (Or.inr (Or.inr (Or.inr (Or.inr (Or.inr (Or.inr (Or.inl e))))))))))
  · have e : k = (11 : Int32) := Int32.toInt_inj.mp (by rw [q]; decide)
    exact Or.inr (Or.inr (Or.inr (Or.inr (Or.inr (Or.inr (Or.inr (Or.inr (Or.inr (Or.inr (Or.inr (e)))))))))))

theorem d1_0 : decode prog_133_method_6_code 0 = .ok (.aload_n 0, 1) := by decide +kernel
theorem d1_1 : decode prog_133_method_6_code 1 = .ok (.getstatic 16, 3) := by decide +kernel
theorem d1_4 : decode prog_133_method_6_code 4 = .ok (.if_acmp .eq 10, 3) := by decide +kernel
theorem d1_14 : decode prog_133_method_6_code 14 = .ok (.iconst 1, 1) := by decide +kernel
theorem d1_15 : decode prog_133_method_6_code 15 = .ok (.goto 4, 3) := by decide +kernel
theorem d1_19 : decode prog_133_method_6_code 19 = .ok (.ireturn, 1) := by decide +kernel
theorem d1_7 : decode prog_133_method_6_code 7 = .ok (.aload_n 0, 1) := by decide +kernel
theorem d1_8 : decode prog_133_method_6_code 8 = .ok (.getstatic 19, 3) := by decide +kernel
theorem d1_11 : decode prog_133_method_6_code 11 = .ok (.if_acmp .ne 7, 3) := by decide +kernel
theorem d1_18 : decode prog_133_method_6_code 18 = .ok (.iconst 0, 1) := by decide +kernel
theorem pn_OperandKind : plainName "com/example/capsmith/capsmith/model/OperandKind" = true := by first | (simp [plainName, overriddenIn]; done) | decide +kernel
theorem ef_isB (m : MethodId) (a : Addr) : entryFrame m #[(.ref a)] 1 = mkF m 0 #[.val (.ref a)] [] := by first | (simp [entryFrame, mkF, argsToLocals, Value.category]; done) | rfl
def Q_isB (Z : State) (a : Addr) (wB : Addr) (wW : Addr) (r : Int32) (h0 : Heap) (n0 : Nat) (v : Option Value) (h : Heap) (L : List Loc) : Prop := v = some (.int r) ∧ Fr n0 L ∧ h = h0
set_option maxRecDepth 65536 in
set_option maxHeartbeats 40000000 in
theorem rm_isB (l : Launch) (Z : State) (a0 : Array Value) (hw : ∀ d ∈ tables_1, d.before a0 Z = true) (ws : List Jvm.Cond) (a : Addr) (wB : Addr) (wW : Addr) (r : Int32) (h0 : Heap) (n0 : Nat) (O0 : Old Z n0 h0) (S_OperandKind_BRANCH : Sta Z Z.heap "com/example/capsmith/capsmith/model/OperandKind" "BRANCH" "Lcom/example/capsmith/capsmith/model/OperandKind;" (.ref wB)) (S_OperandKind_WIDE_BRANCH : Sta Z Z.heap "com/example/capsmith/capsmith/model/OperandKind" "WIDE_BRANCH" "Lcom/example/capsmith/capsmith/model/OperandKind;" (.ref wW)) (hr0 : (a = wB ∧ r = (1 : Int32)) ∨ (a ≠ wB ∧ a = wW ∧ r = (1 : Int32)) ∨ (a ≠ wB ∧ a ≠ wW ∧ r = (0 : Int32))) :
    MetFree l (⟨"com/example/capsmith/capsmith/model/OperandKind", "isBranch", "()Z"⟩ : MethodName) (head1 (Jvm.Cond.code (⟨"com/example/capsmith/capsmith/model/OperandKind", "isBranch", "()Z"⟩ : MethodName) prog_133_method_6_code 1 (some .boolean) :: ws) ({ frames := 0, cells := 0, slots := 0, locals := 0 } : Room)) (fun aa_ U => aa_ = #[(.ref a)] ∧ Z.Warmed39 U.vm ∧ U.heap = h0) (fun _ _ _ _ _ => True) (fun _ U o U' => ∃ v L, o = .returned v ∧ Q_isB Z a wB wW r h0 n0 v U'.heap L ∧ FrameEnd U o U' L ({ frames := 0, cells := 0, slots := 0, locals := 0 } : Room).cells ({ frames := 0, cells := 0, slots := 0, locals := 0 } : Room).slots) := by
  refine MetFree.of_bodySF (plainFor_of_name pn_OperandKind) hisR ?_
  intro p e s m args below meth c s₁ Bd hml0 hP hK
  obtain ⟨rfl, hZ, hh⟩ := hP
  have hx := Bd.exec
  have hby := Bd.bytes
  have hml : c.maxLocals = 1 := hml0
  have hown : s.vm.findClass "com/example/capsmith/capsmith/model/OperandKind" = some m.cls := findClass_of_methodNamed Bd.named
  have hnm := (name_of_methodNamed Bd.named Bd.method).1
  have X0 : Stand p l e ({ frames := 0, cells := 0, slots := 0, locals := 0 } : Room) s m #[(.ref a)] below meth c s₁ [] 0 0 := Stand.of_body Bd
  have e0 : s₁.heap = h0 := by rw [← hh, Bd.state]; rfl
  have N0 := Fr.nil n0
  have pre0 : ∀ t, Steps p.tables e below (s₁.setTop (mkF m 0 #[.val (.ref a)] [])) t → Steps p.tables e below (s₁.setTop (entryFrame m #[(.ref a)] 1)) t := fun t k => castTop (ef_isB m a) k
  have r0 : own_R p e below s₁ (mkF m 0 #[.val (.ref a)] []) s₁ (mkF m 0 #[.val (.ref a)] []) := own_R.refl
  rcases hr0 with ⟨q1, qr⟩ | ⟨q1, q2, qr⟩ | ⟨q1, q2, qr⟩
  · skip
    have r1 : own_R p e below _ _ s₁ (mkF m 1 #[.val (.ref a)] [(.ref a)]) := r0.trans fun z_ kt => by
      show own_S p e below s₁ (mkF m 0 #[.val (.ref a)] []) _
      refine XS.aloadN X0.here hx rfl (hb hby d1_0) rfl rfl ?_
      exact kt
    obtain ⟨T2, X2, e2, st2⟩ := getS2 X0 hx hZ hown (host := "") (Or.inl (hw _ (own_g (i := 34) rfl))) Via.refl e0 (S_OperandKind_BRANCH.ext O0.2) (g := (mkF m 1 #[.val (.ref a)] [(.ref a)])) rfl (hb hby d1_1)
    have r2 : own_R p e below _ _ T2 (mkF m 4 #[.val (.ref a)] [(.ref wB), (.ref a)]) := r1.trans fun z_ kt => st2 _ kt
    have r3 : own_R p e below _ _ T2 (mkF m 19 #[.val (.ref a)] [(.int (1 : Int32))]) := r2.trans fun z_ kt => by
      show own_S p e below T2 (mkF m 4 #[.val (.ref a)] [(.ref wB), (.ref a)]) _
      refine Jvm.RoadKit.acmp (g := (mkF m 4 #[.val (.ref a)] [(.ref wB), (.ref a)])) X2 hx rfl rfl rfl (pc0 := 4) (pc' := 14) (same := true) rfl (hb hby d1_4) rfl (decide_eq_true (congrArg Value.ref q1)) (by decide) (by decide) ?_
      show own_S p e below T2 (mkF m 14 #[.val (.ref a)] []) _
      refine XS.iconst X2.here hx rfl (hb hby d1_14) ?_
      show own_S p e below T2 (mkF m 15 #[.val (.ref a)] [(.int (1 : Int32))]) _
      refine XS.goto X2.here hx rfl (pc0 := 15) (pc' := 19) rfl (hb hby d1_15) (by decide) (by decide) ?_
      exact kt
    obtain ⟨fs, hr, hrun, hended, hW, hsame⟩ := X2.leave (v := some (.int (1 : Int32))) (fun h => by rw [Bd.returns] at h; cases h)
    refine ⟨_, _, pre0 _ (r3 _ ?_), hrun, hended, _, _, rfl, ?_, ⟨_, rfl⟩, hW, hsame.mono (by decide) (by decide)⟩
    · exact retN X2 hx (t := .boolean) Bd.returns (by simp) (hb hby d1_19) hr
    · show Q_isB Z a wB wW r h0 n0 _ T2.heap _
      rw [e2]
      exact ⟨by rw [qr], N0, rfl⟩
  · skip
    have r4 : own_R p e below _ _ s₁ (mkF m 1 #[.val (.ref a)] [(.ref a)]) := r0.trans fun z_ kt => by
      show own_S p e below s₁ (mkF m 0 #[.val (.ref a)] []) _
      refine XS.aloadN X0.here hx rfl (hb hby d1_0) rfl rfl ?_
      exact kt
    obtain ⟨T5, X5, e5, st5⟩ := getS2 X0 hx hZ hown (host := "") (Or.inl (hw _ (own_g (i := 34) rfl))) Via.refl e0 (S_OperandKind_BRANCH.ext O0.2) (g := (mkF m 1 #[.val (.ref a)] [(.ref a)])) rfl (hb hby d1_1)
    have r5 : own_R p e below _ _ T5 (mkF m 4 #[.val (.ref a)] [(.ref wB), (.ref a)]) := r4.trans fun z_ kt => st5 _ kt
    have r6 : own_R p e below _ _ T5 (mkF m 8 #[.val (.ref a)] [(.ref a)]) := r5.trans fun z_ kt => by
      show own_S p e below T5 (mkF m 4 #[.val (.ref a)] [(.ref wB), (.ref a)]) _
      refine Jvm.RoadKit.acmp (g := (mkF m 4 #[.val (.ref a)] [(.ref wB), (.ref a)])) X5 hx rfl rfl rfl (pc0 := 4) (pc' := 7) (same := false) rfl (hb hby d1_4) rfl (decide_eq_false fun q => q1 (Value.ref.inj q)) (by decide) (by decide) ?_
      show own_S p e below T5 (mkF m 7 #[.val (.ref a)] []) _
      refine XS.aloadN X5.here hx rfl (hb hby d1_7) rfl rfl ?_
      exact kt
    obtain ⟨T7, X7, e7, st7⟩ := getS2 X5 hx hZ hown (host := "") (Or.inl (hw _ (own_g (i := 35) rfl))) Via.refl e5 (S_OperandKind_WIDE_BRANCH.ext O0.2) (g := (mkF m 8 #[.val (.ref a)] [(.ref a)])) rfl (hb hby d1_8)
    have r7 : own_R p e below _ _ T7 (mkF m 11 #[.val (.ref a)] [(.ref wW), (.ref a)]) := r6.trans fun z_ kt => st7 _ kt
    have r8 : own_R p e below _ _ T7 (mkF m 19 #[.val (.ref a)] [(.int (1 : Int32))]) := r7.trans fun z_ kt => by
      show own_S p e below T7 (mkF m 11 #[.val (.ref a)] [(.ref wW), (.ref a)]) _
      refine Jvm.RoadKit.acmp (g := (mkF m 11 #[.val (.ref a)] [(.ref wW), (.ref a)])) X7 hx rfl rfl rfl (pc0 := 11) (pc' := 14) (same := true) rfl (hb hby d1_11) rfl (decide_eq_true (congrArg Value.ref q2)) (by decide) (by decide) ?_
      show own_S p e below T7 (mkF m 14 #[.val (.ref a)] []) _
      refine XS.iconst X7.here hx rfl (hb hby d1_14) ?_
      show own_S p e below T7 (mkF m 15 #[.val (.ref a)] [(.int (1 : Int32))]) _
      refine XS.goto X7.here hx rfl (pc0 := 15) (pc' := 19) rfl (hb hby d1_15) (by decide) (by decide) ?_
      exact kt
    obtain ⟨fs, hr, hrun, hended, hW, hsame⟩ := X7.leave (v := some (.int (1 : Int32))) (fun h => by rw [Bd.returns] at h; cases h)
    refine ⟨_, _, pre0 _ (r8 _ ?_), hrun, hended, _, _, rfl, ?_, ⟨_, rfl⟩, hW, hsame.mono (by decide) (by decide)⟩
    · exact retN X7 hx (t := .boolean) Bd.returns (by simp) (hb hby d1_19) hr
    · show Q_isB Z a wB wW r h0 n0 _ T7.heap _
      rw [e7]
      exact ⟨by rw [qr], N0, rfl⟩
  · skip
    have r9 : own_R p e below _ _ s₁ (mkF m 1 #[.val (.ref a)] [(.ref a)]) := r0.trans fun z_ kt => by
      show own_S p e below s₁ (mkF m 0 #[.val (.ref a)] []) _
      refine XS.aloadN X0.here hx rfl (hb hby d1_0) rfl rfl ?_
      exact kt
    obtain ⟨T10, X10, e10, st10⟩ := getS2 X0 hx hZ hown (host := "") (Or.inl (hw _ (own_g (i := 34) rfl))) Via.refl e0 (S_OperandKind_BRANCH.ext O0.2) (g := (mkF m 1 #[.val (.ref a)] [(.ref a)])) rfl (hb hby d1_1)
    have r10 : own_R p e below _ _ T10 (mkF m 4 #[.val (.ref a)] [(.ref wB), (.ref a)]) := r9.trans fun z_ kt => st10 _ kt
    have r11 : own_R p e below _ _ T10 (mkF m 8 #[.val (.ref a)] [(.ref a)]) := r10.trans fun z_ kt => by
      show own_S p e below T10 (mkF m 4 #[.val (.ref a)] [(.ref wB), (.ref a)]) _
      refine Jvm.RoadKit.acmp (g := (mkF m 4 #[.val (.ref a)] [(.ref wB), (.ref a)])) X10 hx rfl rfl rfl (pc0 := 4) (pc' := 7) (same := false) rfl (hb hby d1_4) rfl (decide_eq_false fun q => q1 (Value.ref.inj q)) (by decide) (by decide) ?_
      show own_S p e below T10 (mkF m 7 #[.val (.ref a)] []) _
      refine XS.aloadN X10.here hx rfl (hb hby d1_7) rfl rfl ?_
      exact kt
    obtain ⟨T12, X12, e12, st12⟩ := getS2 X10 hx hZ hown (host := "") (Or.inl (hw _ (own_g (i := 35) rfl))) Via.refl e10 (S_OperandKind_WIDE_BRANCH.ext O0.2) (g := (mkF m 8 #[.val (.ref a)] [(.ref a)])) rfl (hb hby d1_8)
    have r12 : own_R p e below _ _ T12 (mkF m 11 #[.val (.ref a)] [(.ref wW), (.ref a)]) := r11.trans fun z_ kt => st12 _ kt
    have r13 : own_R p e below _ _ T12 (mkF m 19 #[.val (.ref a)] [(.int (0 : Int32))]) := r12.trans fun z_ kt => by
      show own_S p e below T12 (mkF m 11 #[.val (.ref a)] [(.ref wW), (.ref a)]) _
      refine Jvm.RoadKit.acmp (g := (mkF m 11 #[.val (.ref a)] [(.ref wW), (.ref a)])) X12 hx rfl rfl rfl (pc0 := 11) (pc' := 18) (same := false) rfl (hb hby d1_11) rfl (decide_eq_false fun q => q2 (Value.ref.inj q)) (by decide) (by decide) ?_
      show own_S p e below T12 (mkF m 18 #[.val (.ref a)] []) _
      refine XS.iconst X12.here hx rfl (hb hby d1_18) ?_
      exact kt
    obtain ⟨fs, hr, hrun, hended, hW, hsame⟩ := X12.leave (v := some (.int (0 : Int32))) (fun h => by rw [Bd.returns] at h; cases h)
    refine ⟨_, _, pre0 _ (r13 _ ?_), hrun, hended, _, _, rfl, ?_, ⟨_, rfl⟩, hW, hsame.mono (by decide) (by decide)⟩
    · exact retN X12 hx (t := .boolean) Bd.returns (by simp) (hb hby d1_19) hr
    · show Q_isB Z a wB wW r h0 n0 _ T12.heap _
      rw [e12]
      exact ⟨by rw [qr], N0, rfl⟩

theorem pd_0 : parseMethodDescriptor "()Z" = some ⟨[], some .boolean⟩ := by decide +kernel
theorem pn_OperandKindIsBranchPinLaw : plainName "com/example/capsmith/capsmith/model/OperandKindIsBranchPinLaw" = true := by first | (simp [plainName, overriddenIn]; done) | decide +kernel
theorem ef_law (m : MethodId) (px : Int32) : entryFrame m #[(.int px)] maxLocals = mkF m 0 #[.val (.int px), .unset, .unset, .unset] [] := by first | (simp [entryFrame, mkF, argsToLocals, Value.category, maxLocals]; done) | rfl
def Q_law (Z : State) (px : Int32) (s_LOCAL : Addr) (s_BYTE : Addr) (s_SHORT : Addr) (s_INT : Addr) (s_BRANCH : Addr) (s_WIDE_BRANCH : Addr) (s_CP_INDEX : Addr) (s_WIDE_CP_INDEX : Addr) (s_ARRAY_TYPE : Addr) (s_ARGUMENT_COUNT : Addr) (s_METHOD_TOKEN : Addr) (s_MN : Addr) (h0 : Heap) (n0 : Nat) (v : Option Value) (h : Heap) (L : List Loc) : Prop := v = some (.int (1 : Int32)) ∧ Fr n0 L
set_option maxRecDepth 65536 in
set_option maxHeartbeats 40000000 in
theorem rm_law (l : Launch) (Z : State) (a0 : Array Value) (hw : ∀ d ∈ tables_1, d.before a0 Z = true) (ws : List Jvm.Cond) (px : Int32) (s_LOCAL : Addr) (s_BYTE : Addr) (s_SHORT : Addr) (s_INT : Addr) (s_BRANCH : Addr) (s_WIDE_BRANCH : Addr) (s_CP_INDEX : Addr) (s_WIDE_CP_INDEX : Addr) (s_ARRAY_TYPE : Addr) (s_ARGUMENT_COUNT : Addr) (s_METHOD_TOKEN : Addr) (s_MN : Addr) (h0 : Heap) (n0 : Nat) (O0 : Old Z n0 h0) (S_OperandKind_LOCAL : Sta Z Z.heap "com/example/capsmith/capsmith/model/OperandKind" "LOCAL" "Lcom/example/capsmith/capsmith/model/OperandKind;" (.ref s_LOCAL)) (S_OperandKind_BYTE : Sta Z Z.heap "com/example/capsmith/capsmith/model/OperandKind" "BYTE" "Lcom/example/capsmith/capsmith/model/OperandKind;" (.ref s_BYTE)) (S_OperandKind_SHORT : Sta Z Z.heap "com/example/capsmith/capsmith/model/OperandKind" "SHORT" "Lcom/example/capsmith/capsmith/model/OperandKind;" (.ref s_SHORT)) (S_OperandKind_INT : Sta Z Z.heap "com/example/capsmith/capsmith/model/OperandKind" "INT" "Lcom/example/capsmith/capsmith/model/OperandKind;" (.ref s_INT)) (S_OperandKind_BRANCH : Sta Z Z.heap "com/example/capsmith/capsmith/model/OperandKind" "BRANCH" "Lcom/example/capsmith/capsmith/model/OperandKind;" (.ref s_BRANCH)) (S_OperandKind_WIDE_BRANCH : Sta Z Z.heap "com/example/capsmith/capsmith/model/OperandKind" "WIDE_BRANCH" "Lcom/example/capsmith/capsmith/model/OperandKind;" (.ref s_WIDE_BRANCH)) (S_OperandKind_CP_INDEX : Sta Z Z.heap "com/example/capsmith/capsmith/model/OperandKind" "CP_INDEX" "Lcom/example/capsmith/capsmith/model/OperandKind;" (.ref s_CP_INDEX)) (S_OperandKind_WIDE_CP_INDEX : Sta Z Z.heap "com/example/capsmith/capsmith/model/OperandKind" "WIDE_CP_INDEX" "Lcom/example/capsmith/capsmith/model/OperandKind;" (.ref s_WIDE_CP_INDEX)) (S_OperandKind_ARRAY_TYPE : Sta Z Z.heap "com/example/capsmith/capsmith/model/OperandKind" "ARRAY_TYPE" "Lcom/example/capsmith/capsmith/model/OperandKind;" (.ref s_ARRAY_TYPE)) (S_OperandKind_ARGUMENT_COUNT : Sta Z Z.heap "com/example/capsmith/capsmith/model/OperandKind" "ARGUMENT_COUNT" "Lcom/example/capsmith/capsmith/model/OperandKind;" (.ref s_ARGUMENT_COUNT)) (S_OperandKind_METHOD_TOKEN : Sta Z Z.heap "com/example/capsmith/capsmith/model/OperandKind" "METHOD_TOKEN" "Lcom/example/capsmith/capsmith/model/OperandKind;" (.ref s_METHOD_TOKEN)) (S_OperandKind_MN : Sta Z Z.heap "com/example/capsmith/capsmith/model/OperandKind" "MN" "Lcom/example/capsmith/capsmith/model/OperandKind;" (.ref s_MN)) (OE_s_LOCAL : Exa Z Z.heap s_LOCAL "com/example/capsmith/capsmith/model/OperandKind") (OE_s_BYTE : Exa Z Z.heap s_BYTE "com/example/capsmith/capsmith/model/OperandKind") (OE_s_SHORT : Exa Z Z.heap s_SHORT "com/example/capsmith/capsmith/model/OperandKind") (OE_s_INT : Exa Z Z.heap s_INT "com/example/capsmith/capsmith/model/OperandKind") (OE_s_BRANCH : Exa Z Z.heap s_BRANCH "com/example/capsmith/capsmith/model/OperandKind") (OE_s_WIDE_BRANCH : Exa Z Z.heap s_WIDE_BRANCH "com/example/capsmith/capsmith/model/OperandKind") (OE_s_CP_INDEX : Exa Z Z.heap s_CP_INDEX "com/example/capsmith/capsmith/model/OperandKind") (OE_s_WIDE_CP_INDEX : Exa Z Z.heap s_WIDE_CP_INDEX "com/example/capsmith/capsmith/model/OperandKind") (OE_s_ARRAY_TYPE : Exa Z Z.heap s_ARRAY_TYPE "com/example/capsmith/capsmith/model/OperandKind") (OE_s_ARGUMENT_COUNT : Exa Z Z.heap s_ARGUMENT_COUNT "com/example/capsmith/capsmith/model/OperandKind") (OE_s_METHOD_TOKEN : Exa Z Z.heap s_METHOD_TOKEN "com/example/capsmith/capsmith/model/OperandKind") (OE_s_MN : Exa Z Z.heap s_MN "com/example/capsmith/capsmith/model/OperandKind") (OF_s_LOCAL_ordinal : Fld Z Z.heap s_LOCAL "java/lang/Enum" "ordinal" "I" (.int (0 : Int32))) (OF_s_BYTE_ordinal : Fld Z Z.heap s_BYTE "java/lang/Enum" "ordinal" "I" (.int (1 : Int32))) (OF_s_SHORT_ordinal : Fld Z Z.heap s_SHORT "java/lang/Enum" "ordinal" "I" (.int (2 : Int32))) (OF_s_INT_ordinal : Fld Z Z.heap s_INT "java/lang/Enum" "ordinal" "I" (.int (3 : Int32))) (OF_s_BRANCH_ordinal : Fld Z Z.heap s_BRANCH "java/lang/Enum" "ordinal" "I" (.int (4 : Int32))) (OF_s_WIDE_BRANCH_ordinal : Fld Z Z.heap s_WIDE_BRANCH "java/lang/Enum" "ordinal" "I" (.int (5 : Int32))) (OF_s_CP_INDEX_ordinal : Fld Z Z.heap s_CP_INDEX "java/lang/Enum" "ordinal" "I" (.int (6 : Int32))) (OF_s_WIDE_CP_INDEX_ordinal : Fld Z Z.heap s_WIDE_CP_INDEX "java/lang/Enum" "ordinal" "I" (.int (7 : Int32))) (OF_s_ARRAY_TYPE_ordinal : Fld Z Z.heap s_ARRAY_TYPE "java/lang/Enum" "ordinal" "I" (.int (8 : Int32))) (OF_s_ARGUMENT_COUNT_ordinal : Fld Z Z.heap s_ARGUMENT_COUNT "java/lang/Enum" "ordinal" "I" (.int (9 : Int32))) (OF_s_METHOD_TOKEN_ordinal : Fld Z Z.heap s_METHOD_TOKEN "java/lang/Enum" "ordinal" "I" (.int (10 : Int32))) (OF_s_MN_ordinal : Fld Z Z.heap s_MN "java/lang/Enum" "ordinal" "I" (.int (11 : Int32))) :
    MetFree l x (head1 (Jvm.Cond.code x code maxLocals ret :: ws) room_1) (fun aa_ U => aa_ = #[(.int px)] ∧ Z.Warmed39 U.vm ∧ U.heap = h0) (fun _ _ _ _ _ => True) (fun _ U o U' => ∃ v L, o = .returned v ∧ Q_law Z px s_LOCAL s_BYTE s_SHORT s_INT s_BRANCH s_WIDE_BRANCH s_CP_INDEX s_WIDE_CP_INDEX s_ARRAY_TYPE s_ARGUMENT_COUNT s_METHOD_TOKEN s_MN h0 n0 v U'.heap L ∧ FrameEnd U o U' L room_1.cells room_1.slots) := by
  refine MetFree.of_bodySF (plainFor_of_name pn_OperandKindIsBranchPinLaw) hisR ?_
  intro p e s m args below meth c s₁ Bd hml0 hP hK
  obtain ⟨rfl, hZ, hh⟩ := hP
  have hx := Bd.exec
  have hby := Bd.bytes
  have hml : c.maxLocals = 4 := hml0
  have hown : s.vm.findClass "com/example/capsmith/capsmith/model/OperandKindIsBranchPinLaw" = some m.cls := findClass_of_methodNamed Bd.named
  have hnm := (name_of_methodNamed Bd.named Bd.method).1
  have X0 : Stand p l e room_1 s m #[(.int px)] below meth c s₁ [] 0 0 := Stand.of_body Bd
  have e0 : s₁.heap = h0 := by rw [← hh, Bd.state]; rfl
  have N0 := Fr.nil n0
  have pre0 : ∀ t, Steps p.tables e below (s₁.setTop (mkF m 0 #[.val (.int px), .unset, .unset, .unset] [])) t → Steps p.tables e below (s₁.setTop (entryFrame m #[(.int px)] maxLocals)) t := fun t k => castTop (ef_law m px) k
  have r0 : own_R p e below s₁ (mkF m 0 #[.val (.int px), .unset, .unset, .unset] []) s₁ (mkF m 0 #[.val (.int px), .unset, .unset, .unset] []) := own_R.refl
  have r1 : own_R p e below _ _ s₁ (mkF m 2 #[.val (.int px), .unset, .unset, .unset] [(.int (12 : Int32))]) := r0.trans fun z_ kt => by
    show own_S p e below s₁ (mkF m 0 #[.val (.int px), .unset, .unset, .unset] []) _
    refine XS.bipush X0.here hx rfl (hb hby at_0) ?_
    exact kt
  obtain ⟨T2, h2, k2, X2, e2, E2, A2, Ov2, st2⟩ := newR X0 hx hZ hown (hw _ (own_g (i := 0) rfl)) (hw _ (own_g (i := 1) rfl)) e0 (g := (mkF m 2 #[.val (.int px), .unset, .unset, .unset] [(.int (12 : Int32))])) rfl (hb hby at_2) rfl (by decide) (cap := 12) (by decide) (by decide) (by decide) (by decide)
  obtain ⟨b2, g2⟩ : ∃ z, z = h0.size := ⟨_, rfl⟩
  rw [← g2] at A2 st2
  have r2 : own_R p e below _ _ T2 (mkF m 5 #[.val (.int px), .unset, .unset, .unset] [(.ref b2)]) := r1.trans fun z_ kt => st2 _ kt
  have g_b2 : n0 ≤ b2 := Nat.le_trans (own_old_size O0) (Nat.le_of_eq g2.symm)
  have O2 := O0.ext E2
  have V2 : Arv Z h2 b2 k2 (.object "com/example/capsmith/capsmith/model/OperandKind") (12 : Int32) [.null, .null, .null, .null, .null, .null, .null, .null, .null, .null, .null, .null] .null := (Arv.new A2 (by decide)).pad (pad_rep [] .null 12)
  have r3 : own_R p e below _ _ T2 (mkF m 7 #[.val (.int px), .unset, .unset, .unset] [(.int (0 : Int32)), (.ref b2), (.ref b2)]) := r2.trans fun z_ kt => by
    show own_S p e below T2 (mkF m 5 #[.val (.int px), .unset, .unset, .unset] [(.ref b2)]) _
    refine XS.dup X2.here hx rfl (hb hby at_5) rfl rfl ?_
    show own_S p e below T2 (mkF m 6 #[.val (.int px), .unset, .unset, .unset] [(.ref b2), (.ref b2)]) _
    refine XS.iconst X2.here hx rfl (hb hby at_6) ?_
    exact kt
  obtain ⟨T4, X4, e4, st4⟩ := getS2 X2 hx hZ hown (host := "") (Or.inl (hw _ (own_g (i := 2) rfl))) Via.refl e2 (S_OperandKind_LOCAL.ext O2.2) (g := (mkF m 7 #[.val (.int px), .unset, .unset, .unset] [(.int (0 : Int32)), (.ref b2), (.ref b2)])) rfl (hb hby at_7)
  have r4 : own_R p e below _ _ T4 (mkF m 10 #[.val (.int px), .unset, .unset, .unset] [(.ref s_LOCAL), (.int (0 : Int32)), (.ref b2), (.ref b2)]) := r3.trans fun z_ kt => st4 _ kt
  obtain ⟨cl5, Ar5, q5, S5, M5, H5, G5⟩ := V2
  have hin5 : ¬ ((0 : Int32) < 0 ∨ cl5.slots.size ≤ ((0 : Int32)).toNatClampNeg) := inb_of S5 ⟨by decide, by decide⟩
  obtain ⟨T6, h6, X6, e6, W6, st6⟩ := stR X4 hx hZ e4 Ar5 (j := (0 : Int32)) hin5 rfl (Sto.ofV Ar5 q5 Ov2 (Ins.self (OE_s_LOCAL.ext O2.2))) (g := (mkF m 10 #[.val (.int px), .unset, .unset, .unset] [(.ref s_LOCAL), (.int (0 : Int32)), (.ref b2), (.ref b2)])) rfl rfl (hb hby at_10)
  have r6 : own_R p e below _ _ T6 (mkF m 11 #[.val (.int px), .unset, .unset, .unset] [(.ref b2)]) := r4.trans fun z_ kt => st6 _ kt
  have N6 := Fr.snoc X6 N0 g_b2
  have O6 := O2.wr W6 g_b2
  have V6 : Arv Z h6 b2 k2 (.object "com/example/capsmith/capsmith/model/OperandKind") (12 : Int32) [(.ref s_LOCAL), .null, .null, .null, .null, .null, .null, .null, .null, .null, .null, .null] .null := Arv.set Ar5 q5 S5 M5 H5 G5 rfl W6 0 rfl (Nat.le_of_ble_eq_true rfl)
  have r7 : own_R p e below _ _ T6 (mkF m 13 #[.val (.int px), .unset, .unset, .unset] [(.int (1 : Int32)), (.ref b2), (.ref b2)]) := r6.trans fun z_ kt => by
    show own_S p e below T6 (mkF m 11 #[.val (.int px), .unset, .unset, .unset] [(.ref b2)]) _
    refine XS.dup X6.here hx rfl (hb hby at_11) rfl rfl ?_
    show own_S p e below T6 (mkF m 12 #[.val (.int px), .unset, .unset, .unset] [(.ref b2), (.ref b2)]) _
    refine XS.iconst X6.here hx rfl (hb hby at_12) ?_
    exact kt
  obtain ⟨T8, X8, e8, st8⟩ := getS2 X6 hx hZ hown (host := "") (Or.inl (hw _ (own_g (i := 6) rfl))) Via.refl e6 (S_OperandKind_BYTE.ext O6.2) (g := (mkF m 13 #[.val (.int px), .unset, .unset, .unset] [(.int (1 : Int32)), (.ref b2), (.ref b2)])) rfl (hb hby at_13)
  have r8 : own_R p e below _ _ T8 (mkF m 16 #[.val (.int px), .unset, .unset, .unset] [(.ref s_BYTE), (.int (1 : Int32)), (.ref b2), (.ref b2)]) := r7.trans fun z_ kt => st8 _ kt
  obtain ⟨cl9, Ar9, q9, S9, M9, H9, G9⟩ := V6
  have hin9 : ¬ ((1 : Int32) < 0 ∨ cl9.slots.size ≤ ((1 : Int32)).toNatClampNeg) := inb_of S9 ⟨by decide, by decide⟩
  obtain ⟨T10, h10, X10, e10, W10, st10⟩ := stR X8 hx hZ e8 Ar9 (j := (1 : Int32)) hin9 rfl (Sto.ofV Ar9 q9 Ov2 (Ins.self (OE_s_BYTE.ext O6.2))) (g := (mkF m 16 #[.val (.int px), .unset, .unset, .unset] [(.ref s_BYTE), (.int (1 : Int32)), (.ref b2), (.ref b2)])) rfl rfl (hb hby at_16)
  have r10 : own_R p e below _ _ T10 (mkF m 17 #[.val (.int px), .unset, .unset, .unset] [(.ref b2)]) := r8.trans fun z_ kt => st10 _ kt
  have N10 := Fr.snoc X10 N6 g_b2
  have O10 := O6.wr W10 g_b2
  have V10 : Arv Z h10 b2 k2 (.object "com/example/capsmith/capsmith/model/OperandKind") (12 : Int32) [(.ref s_LOCAL), (.ref s_BYTE), .null, .null, .null, .null, .null, .null, .null, .null, .null, .null] .null := Arv.set Ar9 q9 S9 M9 H9 G9 rfl W10 1 rfl (Nat.le_of_ble_eq_true rfl)
  have r11 : own_R p e below _ _ T10 (mkF m 19 #[.val (.int px), .unset, .unset, .unset] [(.int (2 : Int32)), (.ref b2), (.ref b2)]) := r10.trans fun z_ kt => by
    show own_S p e below T10 (mkF m 17 #[.val (.int px), .unset, .unset, .unset] [(.ref b2)]) _
    refine XS.dup X10.here hx rfl (hb hby at_17) rfl rfl ?_
    show own_S p e below T10 (mkF m 18 #[.val (.int px), .unset, .unset, .unset] [(.ref b2), (.ref b2)]) _
    refine XS.iconst X10.here hx rfl (hb hby at_18) ?_
    exact kt
  obtain ⟨T12, X12, e12, st12⟩ := getS2 X10 hx hZ hown (host := "") (Or.inl (hw _ (own_g (i := 8) rfl))) Via.refl e10 (S_OperandKind_SHORT.ext O10.2) (g := (mkF m 19 #[.val (.int px), .unset, .unset, .unset] [(.int (2 : Int32)), (.ref b2), (.ref b2)])) rfl (hb hby at_19)
  have r12 : own_R p e below _ _ T12 (mkF m 22 #[.val (.int px), .unset, .unset, .unset] [(.ref s_SHORT), (.int (2 : Int32)), (.ref b2), (.ref b2)]) := r11.trans fun z_ kt => st12 _ kt
  obtain ⟨cl13, Ar13, q13, S13, M13, H13, G13⟩ := V10
  have hin13 : ¬ ((2 : Int32) < 0 ∨ cl13.slots.size ≤ ((2 : Int32)).toNatClampNeg) := inb_of S13 ⟨by decide, by decide⟩
  obtain ⟨T14, h14, X14, e14, W14, st14⟩ := stR X12 hx hZ e12 Ar13 (j := (2 : Int32)) hin13 rfl (Sto.ofV Ar13 q13 Ov2 (Ins.self (OE_s_SHORT.ext O10.2))) (g := (mkF m 22 #[.val (.int px), .unset, .unset, .unset] [(.ref s_SHORT), (.int (2 : Int32)), (.ref b2), (.ref b2)])) rfl rfl (hb hby at_22)
  have r14 : own_R p e below _ _ T14 (mkF m 23 #[.val (.int px), .unset, .unset, .unset] [(.ref b2)]) := r12.trans fun z_ kt => st14 _ kt
  have N14 := Fr.snoc X14 N10 g_b2
  have O14 := O10.wr W14 g_b2
  have V14 : Arv Z h14 b2 k2 (.object "com/example/capsmith/capsmith/model/OperandKind") (12 : Int32) [(.ref s_LOCAL), (.ref s_BYTE), (.ref s_SHORT), .null, .null, .null, .null, .null, .null, .null, .null, .null] .null := Arv.set Ar13 q13 S13 M13 H13 G13 rfl W14 2 rfl (Nat.le_of_ble_eq_true rfl)
  have r15 : own_R p e below _ _ T14 (mkF m 25 #[.val (.int px), .unset, .unset, .unset] [(.int (3 : Int32)), (.ref b2), (.ref b2)]) := r14.trans fun z_ kt => by
    show own_S p e below T14 (mkF m 23 #[.val (.int px), .unset, .unset, .unset] [(.ref b2)]) _
    refine XS.dup X14.here hx rfl (hb hby at_23) rfl rfl ?_
    show own_S p e below T14 (mkF m 24 #[.val (.int px), .unset, .unset, .unset] [(.ref b2), (.ref b2)]) _
    refine XS.iconst X14.here hx rfl (hb hby at_24) ?_
    exact kt
  obtain ⟨T16, X16, e16, st16⟩ := getS2 X14 hx hZ hown (host := "") (Or.inl (hw _ (own_g (i := 10) rfl))) Via.refl e14 (S_OperandKind_INT.ext O14.2) (g := (mkF m 25 #[.val (.int px), .unset, .unset, .unset] [(.int (3 : Int32)), (.ref b2), (.ref b2)])) rfl (hb hby at_25)
  have r16 : own_R p e below _ _ T16 (mkF m 28 #[.val (.int px), .unset, .unset, .unset] [(.ref s_INT), (.int (3 : Int32)), (.ref b2), (.ref b2)]) := r15.trans fun z_ kt => st16 _ kt
  obtain ⟨cl17, Ar17, q17, S17, M17, H17, G17⟩ := V14
  have hin17 : ¬ ((3 : Int32) < 0 ∨ cl17.slots.size ≤ ((3 : Int32)).toNatClampNeg) := inb_of S17 ⟨by decide, by decide⟩
  obtain ⟨T18, h18, X18, e18, W18, st18⟩ := stR X16 hx hZ e16 Ar17 (j := (3 : Int32)) hin17 rfl (Sto.ofV Ar17 q17 Ov2 (Ins.self (OE_s_INT.ext O14.2))) (g := (mkF m 28 #[.val (.int px), .unset, .unset, .unset] [(.ref s_INT), (.int (3 : Int32)), (.ref b2), (.ref b2)])) rfl rfl (hb hby at_28)
  have r18 : own_R p e below _ _ T18 (mkF m 29 #[.val (.int px), .unset, .unset, .unset] [(.ref b2)]) := r16.trans fun z_ kt => st18 _ kt
  have N18 := Fr.snoc X18 N14 g_b2
  have O18 := O14.wr W18 g_b2
  have V18 : Arv Z h18 b2 k2 (.object "com/example/capsmith/capsmith/model/OperandKind") (12 : Int32) [(.ref s_LOCAL), (.ref s_BYTE), (.ref s_SHORT), (.ref s_INT), .null, .null, .null, .null, .null, .null, .null, .null] .null := Arv.set Ar17 q17 S17 M17 H17 G17 rfl W18 3 rfl (Nat.le_of_ble_eq_true rfl)
  have r19 : own_R p e below _ _ T18 (mkF m 31 #[.val (.int px), .unset, .unset, .unset] [(.int (4 : Int32)), (.ref b2), (.ref b2)]) := r18.trans fun z_ kt => by
    show own_S p e below T18 (mkF m 29 #[.val (.int px), .unset, .unset, .unset] [(.ref b2)]) _
    refine XS.dup X18.here hx rfl (hb hby at_29) rfl rfl ?_
    show own_S p e below T18 (mkF m 30 #[.val (.int px), .unset, .unset, .unset] [(.ref b2), (.ref b2)]) _
    refine XS.iconst X18.here hx rfl (hb hby at_30) ?_
    exact kt
  obtain ⟨T20, X20, e20, st20⟩ := getS2 X18 hx hZ hown (host := "") (Or.inl (hw _ (own_g (i := 12) rfl))) Via.refl e18 (S_OperandKind_BRANCH.ext O18.2) (g := (mkF m 31 #[.val (.int px), .unset, .unset, .unset] [(.int (4 : Int32)), (.ref b2), (.ref b2)])) rfl (hb hby at_31)
  have r20 : own_R p e below _ _ T20 (mkF m 34 #[.val (.int px), .unset, .unset, .unset] [(.ref s_BRANCH), (.int (4 : Int32)), (.ref b2), (.ref b2)]) := r19.trans fun z_ kt => st20 _ kt
  obtain ⟨cl21, Ar21, q21, S21, M21, H21, G21⟩ := V18
  have hin21 : ¬ ((4 : Int32) < 0 ∨ cl21.slots.size ≤ ((4 : Int32)).toNatClampNeg) := inb_of S21 ⟨by decide, by decide⟩
  obtain ⟨T22, h22, X22, e22, W22, st22⟩ := stR X20 hx hZ e20 Ar21 (j := (4 : Int32)) hin21 rfl (Sto.ofV Ar21 q21 Ov2 (Ins.self (OE_s_BRANCH.ext O18.2))) (g := (mkF m 34 #[.val (.int px), .unset, .unset, .unset] [(.ref s_BRANCH), (.int (4 : Int32)), (.ref b2), (.ref b2)])) rfl rfl (hb hby at_34)
  have r22 : own_R p e below _ _ T22 (mkF m 35 #[.val (.int px), .unset, .unset, .unset] [(.ref b2)]) := r20.trans fun z_ kt => st22 _ kt
  have N22 := Fr.snoc X22 N18 g_b2
  have O22 := O18.wr W22 g_b2
  have V22 : Arv Z h22 b2 k2 (.object "com/example/capsmith/capsmith/model/OperandKind") (12 : Int32) [(.ref s_LOCAL), (.ref s_BYTE), (.ref s_SHORT), (.ref s_INT), (.ref s_BRANCH), .null, .null, .null, .null, .null, .null, .null] .null := Arv.set Ar21 q21 S21 M21 H21 G21 rfl W22 4 rfl (Nat.le_of_ble_eq_true rfl)
  have r23 : own_R p e below _ _ T22 (mkF m 37 #[.val (.int px), .unset, .unset, .unset] [(.int (5 : Int32)), (.ref b2), (.ref b2)]) := r22.trans fun z_ kt => by
    show own_S p e below T22 (mkF m 35 #[.val (.int px), .unset, .unset, .unset] [(.ref b2)]) _
    refine XS.dup X22.here hx rfl (hb hby at_35) rfl rfl ?_
    show own_S p e below T22 (mkF m 36 #[.val (.int px), .unset, .unset, .unset] [(.ref b2), (.ref b2)]) _
    refine XS.iconst X22.here hx rfl (hb hby at_36) ?_
    exact kt
  obtain ⟨T24, X24, e24, st24⟩ := getS2 X22 hx hZ hown (host := "") (Or.inl (hw _ (own_g (i := 14) rfl))) Via.refl e22 (S_OperandKind_WIDE_BRANCH.ext O22.2) (g := (mkF m 37 #[.val (.int px), .unset, .unset, .unset] [(.int (5 : Int32)), (.ref b2), (.ref b2)])) rfl (hb hby at_37)
  have r24 : own_R p e below _ _ T24 (mkF m 40 #[.val (.int px), .unset, .unset, .unset] [(.ref s_WIDE_BRANCH), (.int (5 : Int32)), (.ref b2), (.ref b2)]) := r23.trans fun z_ kt => st24 _ kt
  obtain ⟨cl25, Ar25, q25, S25, M25, H25, G25⟩ := V22
  have hin25 : ¬ ((5 : Int32) < 0 ∨ cl25.slots.size ≤ ((5 : Int32)).toNatClampNeg) := inb_of S25 ⟨by decide, by decide⟩
  obtain ⟨T26, h26, X26, e26, W26, st26⟩ := stR X24 hx hZ e24 Ar25 (j := (5 : Int32)) hin25 rfl (Sto.ofV Ar25 q25 Ov2 (Ins.self (OE_s_WIDE_BRANCH.ext O22.2))) (g := (mkF m 40 #[.val (.int px), .unset, .unset, .unset] [(.ref s_WIDE_BRANCH), (.int (5 : Int32)), (.ref b2), (.ref b2)])) rfl rfl (hb hby at_40)
  have r26 : own_R p e below _ _ T26 (mkF m 41 #[.val (.int px), .unset, .unset, .unset] [(.ref b2)]) := r24.trans fun z_ kt => st26 _ kt
  have N26 := Fr.snoc X26 N22 g_b2
  have O26 := O22.wr W26 g_b2
  have V26 : Arv Z h26 b2 k2 (.object "com/example/capsmith/capsmith/model/OperandKind") (12 : Int32) [(.ref s_LOCAL), (.ref s_BYTE), (.ref s_SHORT), (.ref s_INT), (.ref s_BRANCH), (.ref s_WIDE_BRANCH), .null, .null, .null, .null, .null, .null] .null := Arv.set Ar25 q25 S25 M25 H25 G25 rfl W26 5 rfl (Nat.le_of_ble_eq_true rfl)
  have r27 : own_R p e below _ _ T26 (mkF m 44 #[.val (.int px), .unset, .unset, .unset] [(.int (6 : Int32)), (.ref b2), (.ref b2)]) := r26.trans fun z_ kt => by
    show own_S p e below T26 (mkF m 41 #[.val (.int px), .unset, .unset, .unset] [(.ref b2)]) _
    refine XS.dup X26.here hx rfl (hb hby at_41) rfl rfl ?_
    show own_S p e below T26 (mkF m 42 #[.val (.int px), .unset, .unset, .unset] [(.ref b2), (.ref b2)]) _
    refine XS.bipush X26.here hx rfl (hb hby at_42) ?_
    exact kt
  obtain ⟨T28, X28, e28, st28⟩ := getS2 X26 hx hZ hown (host := "") (Or.inl (hw _ (own_g (i := 16) rfl))) Via.refl e26 (S_OperandKind_CP_INDEX.ext O26.2) (g := (mkF m 44 #[.val (.int px), .unset, .unset, .unset] [(.int (6 : Int32)), (.ref b2), (.ref b2)])) rfl (hb hby at_44)
  have r28 : own_R p e below _ _ T28 (mkF m 47 #[.val (.int px), .unset, .unset, .unset] [(.ref s_CP_INDEX), (.int (6 : Int32)), (.ref b2), (.ref b2)]) := r27.trans fun z_ kt => st28 _ kt
  obtain ⟨cl29, Ar29, q29, S29, M29, H29, G29⟩ := V26
  have hin29 : ¬ ((6 : Int32) < 0 ∨ cl29.slots.size ≤ ((6 : Int32)).toNatClampNeg) := inb_of S29 ⟨by decide, by decide⟩
  obtain ⟨T30, h30, X30, e30, W30, st30⟩ := stR X28 hx hZ e28 Ar29 (j := (6 : Int32)) hin29 rfl (Sto.ofV Ar29 q29 Ov2 (Ins.self (OE_s_CP_INDEX.ext O26.2))) (g := (mkF m 47 #[.val (.int px), .unset, .unset, .unset] [(.ref s_CP_INDEX), (.int (6 : Int32)), (.ref b2), (.ref b2)])) rfl rfl (hb hby at_47)
  have r30 : own_R p e below _ _ T30 (mkF m 48 #[.val (.int px), .unset, .unset, .unset] [(.ref b2)]) := r28.trans fun z_ kt => st30 _ kt
  have N30 := Fr.snoc X30 N26 g_b2
  have O30 := O26.wr W30 g_b2
  have V30 : Arv Z h30 b2 k2 (.object "com/example/capsmith/capsmith/model/OperandKind") (12 : Int32) [(.ref s_LOCAL), (.ref s_BYTE), (.ref s_SHORT), (.ref s_INT), (.ref s_BRANCH), (.ref s_WIDE_BRANCH), (.ref s_CP_INDEX), .null, .null, .null, .null, .null] .null := Arv.set Ar29 q29 S29 M29 H29 G29 rfl W30 6 rfl (Nat.le_of_ble_eq_true rfl)
  have r31 : own_R p e below _ _ T30 (mkF m 51 #[.val (.int px), .unset, .unset, .unset] [(.int (7 : Int32)), (.ref b2), (.ref b2)]) := r30.trans fun z_ kt => by
    show own_S p e below T30 (mkF m 48 #[.val (.int px), .unset, .unset, .unset] [(.ref b2)]) _
    refine XS.dup X30.here hx rfl (hb hby at_48) rfl rfl ?_
    show own_S p e below T30 (mkF m 49 #[.val (.int px), .unset, .unset, .unset] [(.ref b2), (.ref b2)]) _
    refine XS.bipush X30.here hx rfl (hb hby at_49) ?_
    exact kt
  obtain ⟨T32, X32, e32, st32⟩ := getS2 X30 hx hZ hown (host := "") (Or.inl (hw _ (own_g (i := 18) rfl))) Via.refl e30 (S_OperandKind_WIDE_CP_INDEX.ext O30.2) (g := (mkF m 51 #[.val (.int px), .unset, .unset, .unset] [(.int (7 : Int32)), (.ref b2), (.ref b2)])) rfl (hb hby at_51)
  have r32 : own_R p e below _ _ T32 (mkF m 54 #[.val (.int px), .unset, .unset, .unset] [(.ref s_WIDE_CP_INDEX), (.int (7 : Int32)), (.ref b2), (.ref b2)]) := r31.trans fun z_ kt => st32 _ kt
  obtain ⟨cl33, Ar33, q33, S33, M33, H33, G33⟩ := V30
  have hin33 : ¬ ((7 : Int32) < 0 ∨ cl33.slots.size ≤ ((7 : Int32)).toNatClampNeg) := inb_of S33 ⟨by decide, by decide⟩
  obtain ⟨T34, h34, X34, e34, W34, st34⟩ := stR X32 hx hZ e32 Ar33 (j := (7 : Int32)) hin33 rfl (Sto.ofV Ar33 q33 Ov2 (Ins.self (OE_s_WIDE_CP_INDEX.ext O30.2))) (g := (mkF m 54 #[.val (.int px), .unset, .unset, .unset] [(.ref s_WIDE_CP_INDEX), (.int (7 : Int32)), (.ref b2), (.ref b2)])) rfl rfl (hb hby at_54)
  have r34 : own_R p e below _ _ T34 (mkF m 55 #[.val (.int px), .unset, .unset, .unset] [(.ref b2)]) := r32.trans fun z_ kt => st34 _ kt
  have N34 := Fr.snoc X34 N30 g_b2
  have O34 := O30.wr W34 g_b2
  have V34 : Arv Z h34 b2 k2 (.object "com/example/capsmith/capsmith/model/OperandKind") (12 : Int32) [(.ref s_LOCAL), (.ref s_BYTE), (.ref s_SHORT), (.ref s_INT), (.ref s_BRANCH), (.ref s_WIDE_BRANCH), (.ref s_CP_INDEX), (.ref s_WIDE_CP_INDEX), .null, .null, .null, .null] .null := Arv.set Ar33 q33 S33 M33 H33 G33 rfl W34 7 rfl (Nat.le_of_ble_eq_true rfl)
  have r35 : own_R p e below _ _ T34 (mkF m 58 #[.val (.int px), .unset, .unset, .unset] [(.int (8 : Int32)), (.ref b2), (.ref b2)]) := r34.trans fun z_ kt => by
    show own_S p e below T34 (mkF m 55 #[.val (.int px), .unset, .unset, .unset] [(.ref b2)]) _
    refine XS.dup X34.here hx rfl (hb hby at_55) rfl rfl ?_
    show own_S p e below T34 (mkF m 56 #[.val (.int px), .unset, .unset, .unset] [(.ref b2), (.ref b2)]) _
    refine XS.bipush X34.here hx rfl (hb hby at_56) ?_
    exact kt
  obtain ⟨T36, X36, e36, st36⟩ := getS2 X34 hx hZ hown (host := "") (Or.inl (hw _ (own_g (i := 20) rfl))) Via.refl e34 (S_OperandKind_ARRAY_TYPE.ext O34.2) (g := (mkF m 58 #[.val (.int px), .unset, .unset, .unset] [(.int (8 : Int32)), (.ref b2), (.ref b2)])) rfl (hb hby at_58)
  have r36 : own_R p e below _ _ T36 (mkF m 61 #[.val (.int px), .unset, .unset, .unset] [(.ref s_ARRAY_TYPE), (.int (8 : Int32)), (.ref b2), (.ref b2)]) := r35.trans fun z_ kt => st36 _ kt
  obtain ⟨cl37, Ar37, q37, S37, M37, H37, G37⟩ := V34
  have hin37 : ¬ ((8 : Int32) < 0 ∨ cl37.slots.size ≤ ((8 : Int32)).toNatClampNeg) := inb_of S37 ⟨by decide, by decide⟩
  obtain ⟨T38, h38, X38, e38, W38, st38⟩ := stR X36 hx hZ e36 Ar37 (j := (8 : Int32)) hin37 rfl (Sto.ofV Ar37 q37 Ov2 (Ins.self (OE_s_ARRAY_TYPE.ext O34.2))) (g := (mkF m 61 #[.val (.int px), .unset, .unset, .unset] [(.ref s_ARRAY_TYPE), (.int (8 : Int32)), (.ref b2), (.ref b2)])) rfl rfl (hb hby at_61)
  have r38 : own_R p e below _ _ T38 (mkF m 62 #[.val (.int px), .unset, .unset, .unset] [(.ref b2)]) := r36.trans fun z_ kt => st38 _ kt
  have N38 := Fr.snoc X38 N34 g_b2
  have O38 := O34.wr W38 g_b2
  have V38 : Arv Z h38 b2 k2 (.object "com/example/capsmith/capsmith/model/OperandKind") (12 : Int32) [(.ref s_LOCAL), (.ref s_BYTE), (.ref s_SHORT), (.ref s_INT), (.ref s_BRANCH), (.ref s_WIDE_BRANCH), (.ref s_CP_INDEX), (.ref s_WIDE_CP_INDEX), (.ref s_ARRAY_TYPE), .null, .null, .null] .null := Arv.set Ar37 q37 S37 M37 H37 G37 rfl W38 8 rfl (Nat.le_of_ble_eq_true rfl)
  have r39 : own_R p e below _ _ T38 (mkF m 65 #[.val (.int px), .unset, .unset, .unset] [(.int (9 : Int32)), (.ref b2), (.ref b2)]) := r38.trans fun z_ kt => by
    show own_S p e below T38 (mkF m 62 #[.val (.int px), .unset, .unset, .unset] [(.ref b2)]) _
    refine XS.dup X38.here hx rfl (hb hby at_62) rfl rfl ?_
    show own_S p e below T38 (mkF m 63 #[.val (.int px), .unset, .unset, .unset] [(.ref b2), (.ref b2)]) _
    refine XS.bipush X38.here hx rfl (hb hby at_63) ?_
    exact kt
  obtain ⟨T40, X40, e40, st40⟩ := getS2 X38 hx hZ hown (host := "") (Or.inl (hw _ (own_g (i := 22) rfl))) Via.refl e38 (S_OperandKind_ARGUMENT_COUNT.ext O38.2) (g := (mkF m 65 #[.val (.int px), .unset, .unset, .unset] [(.int (9 : Int32)), (.ref b2), (.ref b2)])) rfl (hb hby at_65)
  have r40 : own_R p e below _ _ T40 (mkF m 68 #[.val (.int px), .unset, .unset, .unset] [(.ref s_ARGUMENT_COUNT), (.int (9 : Int32)), (.ref b2), (.ref b2)]) := r39.trans fun z_ kt => st40 _ kt
  obtain ⟨cl41, Ar41, q41, S41, M41, H41, G41⟩ := V38
  have hin41 : ¬ ((9 : Int32) < 0 ∨ cl41.slots.size ≤ ((9 : Int32)).toNatClampNeg) := inb_of S41 ⟨by decide, by decide⟩
  obtain ⟨T42, h42, X42, e42, W42, st42⟩ := stR X40 hx hZ e40 Ar41 (j := (9 : Int32)) hin41 rfl (Sto.ofV Ar41 q41 Ov2 (Ins.self (OE_s_ARGUMENT_COUNT.ext O38.2))) (g := (mkF m 68 #[.val (.int px), .unset, .unset, .unset] [(.ref s_ARGUMENT_COUNT), (.int (9 : Int32)), (.ref b2), (.ref b2)])) rfl rfl (hb hby at_68)
  have r42 : own_R p e below _ _ T42 (mkF m 69 #[.val (.int px), .unset, .unset, .unset] [(.ref b2)]) := r40.trans fun z_ kt => st42 _ kt
  have N42 := Fr.snoc X42 N38 g_b2
  have O42 := O38.wr W42 g_b2
  have V42 : Arv Z h42 b2 k2 (.object "com/example/capsmith/capsmith/model/OperandKind") (12 : Int32) [(.ref s_LOCAL), (.ref s_BYTE), (.ref s_SHORT), (.ref s_INT), (.ref s_BRANCH), (.ref s_WIDE_BRANCH), (.ref s_CP_INDEX), (.ref s_WIDE_CP_INDEX), (.ref s_ARRAY_TYPE), (.ref s_ARGUMENT_COUNT), .null, .null] .null := Arv.set Ar41 q41 S41 M41 H41 G41 rfl W42 9 rfl (Nat.le_of_ble_eq_true rfl)
  have r43 : own_R p e below _ _ T42 (mkF m 72 #[.val (.int px), .unset, .unset, .unset] [(.int (10 : Int32)), (.ref b2), (.ref b2)]) := r42.trans fun z_ kt => by
    show own_S p e below T42 (mkF m 69 #[.val (.int px), .unset, .unset, .unset] [(.ref b2)]) _
    refine XS.dup X42.here hx rfl (hb hby at_69) rfl rfl ?_
    show own_S p e below T42 (mkF m 70 #[.val (.int px), .unset, .unset, .unset] [(.ref b2), (.ref b2)]) _
    refine XS.bipush X42.here hx rfl (hb hby at_70) ?_
    exact kt
  obtain ⟨T44, X44, e44, st44⟩ := getS2 X42 hx hZ hown (host := "") (Or.inl (hw _ (own_g (i := 24) rfl))) Via.refl e42 (S_OperandKind_METHOD_TOKEN.ext O42.2) (g := (mkF m 72 #[.val (.int px), .unset, .unset, .unset] [(.int (10 : Int32)), (.ref b2), (.ref b2)])) rfl (hb hby at_72)
  have r44 : own_R p e below _ _ T44 (mkF m 75 #[.val (.int px), .unset, .unset, .unset] [(.ref s_METHOD_TOKEN), (.int (10 : Int32)), (.ref b2), (.ref b2)]) := r43.trans fun z_ kt => st44 _ kt
  obtain ⟨cl45, Ar45, q45, S45, M45, H45, G45⟩ := V42
  have hin45 : ¬ ((10 : Int32) < 0 ∨ cl45.slots.size ≤ ((10 : Int32)).toNatClampNeg) := inb_of S45 ⟨by decide, by decide⟩
  obtain ⟨T46, h46, X46, e46, W46, st46⟩ := stR X44 hx hZ e44 Ar45 (j := (10 : Int32)) hin45 rfl (Sto.ofV Ar45 q45 Ov2 (Ins.self (OE_s_METHOD_TOKEN.ext O42.2))) (g := (mkF m 75 #[.val (.int px), .unset, .unset, .unset] [(.ref s_METHOD_TOKEN), (.int (10 : Int32)), (.ref b2), (.ref b2)])) rfl rfl (hb hby at_75)
  have r46 : own_R p e below _ _ T46 (mkF m 76 #[.val (.int px), .unset, .unset, .unset] [(.ref b2)]) := r44.trans fun z_ kt => st46 _ kt
  have N46 := Fr.snoc X46 N42 g_b2
  have O46 := O42.wr W46 g_b2
  have V46 : Arv Z h46 b2 k2 (.object "com/example/capsmith/capsmith/model/OperandKind") (12 : Int32) [(.ref s_LOCAL), (.ref s_BYTE), (.ref s_SHORT), (.ref s_INT), (.ref s_BRANCH), (.ref s_WIDE_BRANCH), (.ref s_CP_INDEX), (.ref s_WIDE_CP_INDEX), (.ref s_ARRAY_TYPE), (.ref s_ARGUMENT_COUNT), (.ref s_METHOD_TOKEN), .null] .null := Arv.set Ar45 q45 S45 M45 H45 G45 rfl W46 10 rfl (Nat.le_of_ble_eq_true rfl)
  have r47 : own_R p e below _ _ T46 (mkF m 79 #[.val (.int px), .unset, .unset, .unset] [(.int (11 : Int32)), (.ref b2), (.ref b2)]) := r46.trans fun z_ kt => by
    show own_S p e below T46 (mkF m 76 #[.val (.int px), .unset, .unset, .unset] [(.ref b2)]) _
    refine XS.dup X46.here hx rfl (hb hby at_76) rfl rfl ?_
    show own_S p e below T46 (mkF m 77 #[.val (.int px), .unset, .unset, .unset] [(.ref b2), (.ref b2)]) _
    refine XS.bipush X46.here hx rfl (hb hby at_77) ?_
    exact kt
  obtain ⟨T48, X48, e48, st48⟩ := getS2 X46 hx hZ hown (host := "") (Or.inl (hw _ (own_g (i := 26) rfl))) Via.refl e46 (S_OperandKind_MN.ext O46.2) (g := (mkF m 79 #[.val (.int px), .unset, .unset, .unset] [(.int (11 : Int32)), (.ref b2), (.ref b2)])) rfl (hb hby at_79)
  have r48 : own_R p e below _ _ T48 (mkF m 82 #[.val (.int px), .unset, .unset, .unset] [(.ref s_MN), (.int (11 : Int32)), (.ref b2), (.ref b2)]) := r47.trans fun z_ kt => st48 _ kt
  obtain ⟨cl49, Ar49, q49, S49, M49, H49, G49⟩ := V46
  have hin49 : ¬ ((11 : Int32) < 0 ∨ cl49.slots.size ≤ ((11 : Int32)).toNatClampNeg) := inb_of S49 ⟨by decide, by decide⟩
  obtain ⟨T50, h50, X50, e50, W50, st50⟩ := stR X48 hx hZ e48 Ar49 (j := (11 : Int32)) hin49 rfl (Sto.ofV Ar49 q49 Ov2 (Ins.self (OE_s_MN.ext O46.2))) (g := (mkF m 82 #[.val (.int px), .unset, .unset, .unset] [(.ref s_MN), (.int (11 : Int32)), (.ref b2), (.ref b2)])) rfl rfl (hb hby at_82)
  have r50 : own_R p e below _ _ T50 (mkF m 83 #[.val (.int px), .unset, .unset, .unset] [(.ref b2)]) := r48.trans fun z_ kt => st50 _ kt
  have N50 := Fr.snoc X50 N46 g_b2
  have O50 := O46.wr W50 g_b2
  have V50 : Arv Z h50 b2 k2 (.object "com/example/capsmith/capsmith/model/OperandKind") (12 : Int32) [(.ref s_LOCAL), (.ref s_BYTE), (.ref s_SHORT), (.ref s_INT), (.ref s_BRANCH), (.ref s_WIDE_BRANCH), (.ref s_CP_INDEX), (.ref s_WIDE_CP_INDEX), (.ref s_ARRAY_TYPE), (.ref s_ARGUMENT_COUNT), (.ref s_METHOD_TOKEN), (.ref s_MN)] .null := Arv.set Ar49 q49 S49 M49 H49 G49 rfl W50 11 rfl (Nat.le_of_ble_eq_true rfl)
  have r51 : own_R p e below _ _ T50 (mkF m 92 #[.val (.int px), .val (.ref b2), .val (.int ((px &&& (2147483647 : Int32)) % (12 : Int32))), .unset] []) := r50.trans fun z_ kt => by
    show own_S p e below T50 (mkF m 83 #[.val (.int px), .unset, .unset, .unset] [(.ref b2)]) _
    refine XS.astoreN X50.here hx rfl (hb hby at_83) rfl rfl (l' := #[.val (.int px), .val (.ref b2), .unset, .unset]) rfl ?_
    show own_S p e below T50 (mkF m 84 #[.val (.int px), .val (.ref b2), .unset, .unset] []) _
    refine XS.iloadN X50.here hx rfl (hb hby at_84) rfl ?_
    show own_S p e below T50 (mkF m 85 #[.val (.int px), .val (.ref b2), .unset, .unset] [(.int px)]) _
    refine X50.ldcInt hx hown (mvT hZ (hw _ (own_g (i := 28) rfl))) (g := (mkF m 85 #[.val (.int px), .val (.ref b2), .unset, .unset] [(.int px)])) rfl (hb hby at_85) _ ?_
    show own_S p e below T50 (mkF m 87 #[.val (.int px), .val (.ref b2), .unset, .unset] [(.int (2147483647 : Int32)), (.int px)]) _
    refine XS.iand X50.here hx rfl (hb hby at_87) rfl ?_
    show own_S p e below T50 (mkF m 88 #[.val (.int px), .val (.ref b2), .unset, .unset] [(.int (px &&& (2147483647 : Int32)))]) _
    refine XS.bipush X50.here hx rfl (hb hby at_88) ?_
    show own_S p e below T50 (mkF m 90 #[.val (.int px), .val (.ref b2), .unset, .unset] [(.int (12 : Int32)), (.int (px &&& (2147483647 : Int32)))]) _
    refine iremM X50 hx rfl (hb hby at_90) rfl (by decide) ?_
    show own_S p e below T50 (mkF m 91 #[.val (.int px), .val (.ref b2), .unset, .unset] [(.int ((px &&& (2147483647 : Int32)) % (12 : Int32)))]) _
    refine XS.istoreN X50.here hx rfl (hb hby at_91) rfl (l' := #[.val (.int px), .val (.ref b2), .val (.int ((px &&& (2147483647 : Int32)) % (12 : Int32))), .unset]) rfl ?_
    exact kt
  obtain ⟨k, h_k⟩ : ∃ z, z = ((px &&& (2147483647 : Int32)) % (12 : Int32)) := ⟨_, rfl⟩
  rw [← h_k] at r51
  rcases own_split h_k with rfl | rfl | rfl | rfl | rfl | rfl | rfl | rfl | rfl | rfl | rfl | rfl
  · skip
    have r53 : own_R p e below _ _ T50 (mkF m 110 #[.val (.int px), .val (.ref b2), .val (.int (0 : Int32)), .val (.int (0 : Int32))] [(.int (0 : Int32)), (.ref b2)]) := r51.trans fun z_ kt => by
      show own_S p e below T50 (mkF m 92 #[.val (.int px), .val (.ref b2), .val (.int (0 : Int32)), .unset] []) _
      refine XS.iloadN X50.here hx rfl (hb hby at_92) rfl ?_
      show own_S p e below T50 (mkF m 93 #[.val (.int px), .val (.ref b2), .val (.int (0 : Int32)), .unset] [(.int (0 : Int32))]) _
      refine XS.iconst X50.here hx rfl (hb hby at_93) ?_
      show own_S p e below T50 (mkF m 94 #[.val (.int px), .val (.ref b2), .val (.int (0 : Int32)), .unset] [(.int (4 : Int32)), (.int (0 : Int32))]) _
      refine XS.icmpNo X50.here hx rfl (hb hby at_94) rfl (feq (by decide : ¬ ((0 : Int32) = (4 : Int32)))).1 ?_
      show own_S p e below T50 (mkF m 97 #[.val (.int px), .val (.ref b2), .val (.int (0 : Int32)), .unset] []) _
      refine XS.iloadN X50.here hx rfl (hb hby at_97) rfl ?_
      show own_S p e below T50 (mkF m 98 #[.val (.int px), .val (.ref b2), .val (.int (0 : Int32)), .unset] [(.int (0 : Int32))]) _
      refine XS.iconst X50.here hx rfl (hb hby at_98) ?_
      show own_S p e below T50 (mkF m 99 #[.val (.int px), .val (.ref b2), .val (.int (0 : Int32)), .unset] [(.int (5 : Int32)), (.int (0 : Int32))]) _
      refine XS.icmpYes X50.here hx rfl (pc0 := 99) (pc' := 106) rfl (hb hby at_99) rfl (feq (by decide : ¬ ((0 : Int32) = (5 : Int32)))).2 (by decide) (by decide) ?_
      show own_S p e below T50 (mkF m 106 #[.val (.int px), .val (.ref b2), .val (.int (0 : Int32)), .unset] []) _
      refine XS.iconst X50.here hx rfl (hb hby at_106) ?_
      show own_S p e below T50 (mkF m 107 #[.val (.int px), .val (.ref b2), .val (.int (0 : Int32)), .unset] [(.int (0 : Int32))]) _
      refine XS.istoreN X50.here hx rfl (hb hby at_107) rfl (l' := #[.val (.int px), .val (.ref b2), .val (.int (0 : Int32)), .val (.int (0 : Int32))]) rfl ?_
      show own_S p e below T50 (mkF m 108 #[.val (.int px), .val (.ref b2), .val (.int (0 : Int32)), .val (.int (0 : Int32))] []) _
      refine XS.aloadN X50.here hx rfl (hb hby at_108) rfl rfl ?_
      show own_S p e below T50 (mkF m 109 #[.val (.int px), .val (.ref b2), .val (.int (0 : Int32)), .val (.int (0 : Int32))] [(.ref b2)]) _
      refine XS.iloadN X50.here hx rfl (hb hby at_109) rfl ?_
      exact kt
    obtain ⟨cl52, Ar52, q52, S52, M52, H52, G52⟩ := V50
    have hin52 : ¬ ((0 : Int32) < 0 ∨ cl52.slots.size ≤ ((0 : Int32)).toNatClampNeg) := inb_of S52 ⟨by decide, by decide⟩
    have hat52 : cl52.slots[((0 : Int32)).toNatClampNeg]? = some (.ref s_LOCAL) := Has.at H52 hin52 rfl
    have r54 : own_R p e below _ _ T50 (mkF m 111 #[.val (.int px), .val (.ref b2), .val (.int (0 : Int32)), .val (.int (0 : Int32))] [(.ref s_LOCAL)]) := r53.trans fun z_ kt => by
      show own_S p e below T50 (mkF m 110 #[.val (.int px), .val (.ref b2), .val (.int (0 : Int32)), .val (.int (0 : Int32))] [(.int (0 : Int32)), (.ref b2)]) _
      refine X50.aaload hx (j := (0 : Int32)) (v := (.ref s_LOCAL)) (by rw [e50]; exact Ar52.1) (State.isArrayOf_alike hZ.alike Ar52.2.1) rfl Ar52.2.2 hin52 hat52 (g := (mkF m 110 #[.val (.int px), .val (.ref b2), .val (.int (0 : Int32)), .val (.int (0 : Int32))] [(.int (0 : Int32)), (.ref b2)])) rfl rfl (hb hby at_110) _ ?_
      exact kt
    obtain ⟨cq55, kq55, q55a, q55b, q55c⟩ := isOf hZ e50 (OE_s_LOCAL.ext O50.2)
    obtain ⟨_, _, ⟨T55, L55, cc55, n55⟩, -, X55, ⟨Lc55, hQ55, l55, y55, z55⟩, st55⟩ := X50.virtualBack hx (y := (⟨"com/example/capsmith/capsmith/model/OperandKind", "isBranch", "()Z"⟩ : MethodName)) (z := (⟨"com/example/capsmith/capsmith/model/OperandKind", "isBranch", "()Z"⟩ : MethodName)) hown (mvT hZ (hw _ (own_g (i := 29) rfl))) (mvT hZ (hw _ (own_g (i := 30) rfl))) (notFace_of_selects (args := #[]) (mvT hZ (hw _ (own_g (i := 32) rfl)))) (mvT hZ (hw _ (own_g (i := 32) rfl))) (mvT hZ (hw _ (own_g (i := 31) rfl))) (by decide) (backOf (W := 0) (rm_isB l Z a0 hw [] (s_LOCAL) (s_BRANCH) (s_WIDE_BRANCH) ((0 : Int32)) h50 n0 O50 (S_OperandKind_BRANCH) (S_OperandKind_WIDE_BRANCH) (Or.inr (Or.inr ⟨(Fld.ne OF_s_LOCAL_ordinal OF_s_BRANCH_ordinal (by decide)), (Fld.ne OF_s_LOCAL_ordinal OF_s_WIDE_BRANCH_ordinal (by decide)), rfl⟩))) hZ (hw _ (own_g (i := 33) rfl)) (hw _ (own_g (i := 3) rfl)) (by decide) (by decide)) q55a q55c (g := (mkF m 111 #[.val (.int px), .val (.ref b2), .val (.int (0 : Int32)), .val (.int (0 : Int32))] [(.ref s_LOCAL)])) rfl (by rw [hml]; rfl) (Steps.refl _) (argsL := []) (rest := []) (lenOf pd_0 rfl) rfl (by show 2 * 0 + _ ≤ _; exact Nat.le_of_eq rfl) (hb hby at_111) (fun _ _ => ⟨rfl, e50, (by decide : 1 + 0 ≤ _), (by decide : 12 + 0 ≤ _)⟩)
    dsimp only [Pt.U, Pt.locs, Pt.cells, Pt.slots] at X55 l55 y55 z55 st55 hQ55
    subst l55 y55 z55
    obtain ⟨rfl, Nq55, eq55⟩ := hQ55
    have N55 := Fr.app N50 Nq55
    have r55 : own_R p e below _ _ T55 (mkF m 114 #[.val (.int px), .val (.ref b2), .val (.int (0 : Int32)), .val (.int (0 : Int32))] [(.int (0 : Int32))]) := r54.trans fun z_ kt => st55.trans kt
    have e55 : T55.heap = h50 := eq55
    have r56 : own_R p e below _ _ T55 (mkF m 123 #[.val (.int px), .val (.ref b2), .val (.int (0 : Int32)), .val (.int (0 : Int32))] [(.int (1 : Int32))]) := r55.trans fun z_ kt => by
      show own_S p e below T55 (mkF m 114 #[.val (.int px), .val (.ref b2), .val (.int (0 : Int32)), .val (.int (0 : Int32))] [(.int (0 : Int32))]) _
      refine XS.iloadN X55.here hx rfl (hb hby at_114) rfl ?_
      show own_S p e below T55 (mkF m 115 #[.val (.int px), .val (.ref b2), .val (.int (0 : Int32)), .val (.int (0 : Int32))] [(.int (0 : Int32)), (.int (0 : Int32))]) _
      refine XS.icmpNo X55.here hx rfl (hb hby at_115) rfl (teq (by decide : (0 : Int32) = (0 : Int32))).2 ?_
      show own_S p e below T55 (mkF m 118 #[.val (.int px), .val (.ref b2), .val (.int (0 : Int32)), .val (.int (0 : Int32))] []) _
      refine XS.iconst X55.here hx rfl (hb hby at_118) ?_
      show own_S p e below T55 (mkF m 119 #[.val (.int px), .val (.ref b2), .val (.int (0 : Int32)), .val (.int (0 : Int32))] [(.int (1 : Int32))]) _
      refine XS.goto X55.here hx rfl (pc0 := 119) (pc' := 123) rfl (hb hby at_119) (by decide) (by decide) ?_
      exact kt
    obtain ⟨fs, hr, hrun, hended, hW, hsame⟩ := X55.leave (v := some (.int (1 : Int32))) (fun h => by rw [Bd.returns] at h; cases h)
    refine ⟨_, _, pre0 _ (r56 _ ?_), hrun, hended, _, _, rfl, ?_, ⟨_, rfl⟩, hW, hsame.mono (by decide) (by decide)⟩
    · exact retN X55 hx (t := .boolean) Bd.returns (by simp) (hb hby at_123) hr
    · show Q_law Z px s_LOCAL s_BYTE s_SHORT s_INT s_BRANCH s_WIDE_BRANCH s_CP_INDEX s_WIDE_CP_INDEX s_ARRAY_TYPE s_ARGUMENT_COUNT s_METHOD_TOKEN s_MN h0 n0 _ T55.heap _
      rw [e55]
      exact ⟨rfl, N55⟩
  · skip
    have r58 : own_R p e below _ _ T50 (mkF m 110 #[.val (.int px), .val (.ref b2), .val (.int (1 : Int32)), .val (.int (0 : Int32))] [(.int (1 : Int32)), (.ref b2)]) := r51.trans fun z_ kt => by
      show own_S p e below T50 (mkF m 92 #[.val (.int px), .val (.ref b2), .val (.int (1 : Int32)), .unset] []) _
      refine XS.iloadN X50.here hx rfl (hb hby at_92) rfl ?_
      show own_S p e below T50 (mkF m 93 #[.val (.int px), .val (.ref b2), .val (.int (1 : Int32)), .unset] [(.int (1 : Int32))]) _
      refine XS.iconst X50.here hx rfl (hb hby at_93) ?_
      show own_S p e below T50 (mkF m 94 #[.val (.int px), .val (.ref b2), .val (.int (1 : Int32)), .unset] [(.int (4 : Int32)), (.int (1 : Int32))]) _
      refine XS.icmpNo X50.here hx rfl (hb hby at_94) rfl (feq (by decide : ¬ ((1 : Int32) = (4 : Int32)))).1 ?_
      show own_S p e below T50 (mkF m 97 #[.val (.int px), .val (.ref b2), .val (.int (1 : Int32)), .unset] []) _
      refine XS.iloadN X50.here hx rfl (hb hby at_97) rfl ?_
      show own_S p e below T50 (mkF m 98 #[.val (.int px), .val (.ref b2), .val (.int (1 : Int32)), .unset] [(.int (1 : Int32))]) _
      refine XS.iconst X50.here hx rfl (hb hby at_98) ?_
      show own_S p e below T50 (mkF m 99 #[.val (.int px), .val (.ref b2), .val (.int (1 : Int32)), .unset] [(.int (5 : Int32)), (.int (1 : Int32))]) _
      refine XS.icmpYes X50.here hx rfl (pc0 := 99) (pc' := 106) rfl (hb hby at_99) rfl (feq (by decide : ¬ ((1 : Int32) = (5 : Int32)))).2 (by decide) (by decide) ?_
      show own_S p e below T50 (mkF m 106 #[.val (.int px), .val (.ref b2), .val (.int (1 : Int32)), .unset] []) _
      refine XS.iconst X50.here hx rfl (hb hby at_106) ?_
      show own_S p e below T50 (mkF m 107 #[.val (.int px), .val (.ref b2), .val (.int (1 : Int32)), .unset] [(.int (0 : Int32))]) _
      refine XS.istoreN X50.here hx rfl (hb hby at_107) rfl (l' := #[.val (.int px), .val (.ref b2), .val (.int (1 : Int32)), .val (.int (0 : Int32))]) rfl ?_
      show own_S p e below T50 (mkF m 108 #[.val (.int px), .val (.ref b2), .val (.int (1 : Int32)), .val (.int (0 : Int32))] []) _
      refine XS.aloadN X50.here hx rfl (hb hby at_108) rfl rfl ?_
      show own_S p e below T50 (mkF m 109 #[.val (.int px), .val (.ref b2), .val (.int (1 : Int32)), .val (.int (0 : Int32))] [(.ref b2)]) _
      refine XS.iloadN X50.here hx rfl (hb hby at_109) rfl ?_
      exact kt
    obtain ⟨cl57, Ar57, q57, S57, M57, H57, G57⟩ := V50
    have hin57 : ¬ ((1 : Int32) < 0 ∨ cl57.slots.size ≤ ((1 : Int32)).toNatClampNeg) := inb_of S57 ⟨by decide, by decide⟩
    have hat57 : cl57.slots[((1 : Int32)).toNatClampNeg]? = some (.ref s_BYTE) := Has.at H57 hin57 rfl
    have r59 : own_R p e below _ _ T50 (mkF m 111 #[.val (.int px), .val (.ref b2), .val (.int (1 : Int32)), .val (.int (0 : Int32))] [(.ref s_BYTE)]) := r58.trans fun z_ kt => by
      show own_S p e below T50 (mkF m 110 #[.val (.int px), .val (.ref b2), .val (.int (1 : Int32)), .val (.int (0 : Int32))] [(.int (1 : Int32)), (.ref b2)]) _
      refine X50.aaload hx (j := (1 : Int32)) (v := (.ref s_BYTE)) (by rw [e50]; exact Ar57.1) (State.isArrayOf_alike hZ.alike Ar57.2.1) rfl Ar57.2.2 hin57 hat57 (g := (mkF m 110 #[.val (.int px), .val (.ref b2), .val (.int (1 : Int32)), .val (.int (0 : Int32))] [(.int (1 : Int32)), (.ref b2)])) rfl rfl (hb hby at_110) _ ?_
      exact kt
    obtain ⟨cq60, kq60, q60a, q60b, q60c⟩ := isOf hZ e50 (OE_s_BYTE.ext O50.2)
    obtain ⟨_, _, ⟨T60, L60, cc60, n60⟩, -, X60, ⟨Lc60, hQ60, l60, y60, z60⟩, st60⟩ := X50.virtualBack hx (y := (⟨"com/example/capsmith/capsmith/model/OperandKind", "isBranch", "()Z"⟩ : MethodName)) (z := (⟨"com/example/capsmith/capsmith/model/OperandKind", "isBranch", "()Z"⟩ : MethodName)) hown (mvT hZ (hw _ (own_g (i := 29) rfl))) (mvT hZ (hw _ (own_g (i := 30) rfl))) (notFace_of_selects (args := #[]) (mvT hZ (hw _ (own_g (i := 32) rfl)))) (mvT hZ (hw _ (own_g (i := 32) rfl))) (mvT hZ (hw _ (own_g (i := 31) rfl))) (by decide) (backOf (W := 0) (rm_isB l Z a0 hw [] (s_BYTE) (s_BRANCH) (s_WIDE_BRANCH) ((0 : Int32)) h50 n0 O50 (S_OperandKind_BRANCH) (S_OperandKind_WIDE_BRANCH) (Or.inr (Or.inr ⟨(Fld.ne OF_s_BYTE_ordinal OF_s_BRANCH_ordinal (by decide)), (Fld.ne OF_s_BYTE_ordinal OF_s_WIDE_BRANCH_ordinal (by decide)), rfl⟩))) hZ (hw _ (own_g (i := 33) rfl)) (hw _ (own_g (i := 3) rfl)) (by decide) (by decide)) q60a q60c (g := (mkF m 111 #[.val (.int px), .val (.ref b2), .val (.int (1 : Int32)), .val (.int (0 : Int32))] [(.ref s_BYTE)])) rfl (by rw [hml]; rfl) (Steps.refl _) (argsL := []) (rest := []) (lenOf pd_0 rfl) rfl (by show 2 * 0 + _ ≤ _; exact Nat.le_of_eq rfl) (hb hby at_111) (fun _ _ => ⟨rfl, e50, (by decide : 1 + 0 ≤ _), (by decide : 12 + 0 ≤ _)⟩)
    dsimp only [Pt.U, Pt.locs, Pt.cells, Pt.slots] at X60 l60 y60 z60 st60 hQ60
    subst l60 y60 z60
    obtain ⟨rfl, Nq60, eq60⟩ := hQ60
    have N60 := Fr.app N50 Nq60
    have r60 : own_R p e below _ _ T60 (mkF m 114 #[.val (.int px), .val (.ref b2), .val (.int (1 : Int32)), .val (.int (0 : Int32))] [(.int (0 : Int32))]) := r59.trans fun z_ kt => st60.trans kt
    have e60 : T60.heap = h50 := eq60
    have r61 : own_R p e below _ _ T60 (mkF m 123 #[.val (.int px), .val (.ref b2), .val (.int (1 : Int32)), .val (.int (0 : Int32))] [(.int (1 : Int32))]) := r60.trans fun z_ kt => by
      show own_S p e below T60 (mkF m 114 #[.val (.int px), .val (.ref b2), .val (.int (1 : Int32)), .val (.int (0 : Int32))] [(.int (0 : Int32))]) _
      refine XS.iloadN X60.here hx rfl (hb hby at_114) rfl ?_
      show own_S p e below T60 (mkF m 115 #[.val (.int px), .val (.ref b2), .val (.int (1 : Int32)), .val (.int (0 : Int32))] [(.int (0 : Int32)), (.int (0 : Int32))]) _
      refine XS.icmpNo X60.here hx rfl (hb hby at_115) rfl (teq (by decide : (0 : Int32) = (0 : Int32))).2 ?_
      show own_S p e below T60 (mkF m 118 #[.val (.int px), .val (.ref b2), .val (.int (1 : Int32)), .val (.int (0 : Int32))] []) _
      refine XS.iconst X60.here hx rfl (hb hby at_118) ?_
      show own_S p e below T60 (mkF m 119 #[.val (.int px), .val (.ref b2), .val (.int (1 : Int32)), .val (.int (0 : Int32))] [(.int (1 : Int32))]) _
      refine XS.goto X60.here hx rfl (pc0 := 119) (pc' := 123) rfl (hb hby at_119) (by decide) (by decide) ?_
      exact kt
    obtain ⟨fs, hr, hrun, hended, hW, hsame⟩ := X60.leave (v := some (.int (1 : Int32))) (fun h => by rw [Bd.returns] at h; cases h)
    refine ⟨_, _, pre0 _ (r61 _ ?_), hrun, hended, _, _, rfl, ?_, ⟨_, rfl⟩, hW, hsame.mono (by decide) (by decide)⟩
    · exact retN X60 hx (t := .boolean) Bd.returns (by simp) (hb hby at_123) hr
    · show Q_law Z px s_LOCAL s_BYTE s_SHORT s_INT s_BRANCH s_WIDE_BRANCH s_CP_INDEX s_WIDE_CP_INDEX s_ARRAY_TYPE s_ARGUMENT_COUNT s_METHOD_TOKEN s_MN h0 n0 _ T60.heap _
      rw [e60]
      exact ⟨rfl, N60⟩
  · skip
    have r63 : own_R p e below _ _ T50 (mkF m 110 #[.val (.int px), .val (.ref b2), .val (.int (2 : Int32)), .val (.int (0 : Int32))] [(.int (2 : Int32)), (.ref b2)]) := r51.trans fun z_ kt => by
      show own_S p e below T50 (mkF m 92 #[.val (.int px), .val (.ref b2), .val (.int (2 : Int32)), .unset] []) _
      refine XS.iloadN X50.here hx rfl (hb hby at_92) rfl ?_
      show own_S p e below T50 (mkF m 93 #[.val (.int px), .val (.ref b2), .val (.int (2 : Int32)), .unset] [(.int (2 : Int32))]) _
      refine XS.iconst X50.here hx rfl (hb hby at_93) ?_
      show own_S p e below T50 (mkF m 94 #[.val (.int px), .val (.ref b2), .val (.int (2 : Int32)), .unset] [(.int (4 : Int32)), (.int (2 : Int32))]) _
      refine XS.icmpNo X50.here hx rfl (hb hby at_94) rfl (feq (by decide : ¬ ((2 : Int32) = (4 : Int32)))).1 ?_
      show own_S p e below T50 (mkF m 97 #[.val (.int px), .val (.ref b2), .val (.int (2 : Int32)), .unset] []) _
      refine XS.iloadN X50.here hx rfl (hb hby at_97) rfl ?_
      show own_S p e below T50 (mkF m 98 #[.val (.int px), .val (.ref b2), .val (.int (2 : Int32)), .unset] [(.int (2 : Int32))]) _
      refine XS.iconst X50.here hx rfl (hb hby at_98) ?_
      show own_S p e below T50 (mkF m 99 #[.val (.int px), .val (.ref b2), .val (.int (2 : Int32)), .unset] [(.int (5 : Int32)), (.int (2 : Int32))]) _
      refine XS.icmpYes X50.here hx rfl (pc0 := 99) (pc' := 106) rfl (hb hby at_99) rfl (feq (by decide : ¬ ((2 : Int32) = (5 : Int32)))).2 (by decide) (by decide) ?_
      show own_S p e below T50 (mkF m 106 #[.val (.int px), .val (.ref b2), .val (.int (2 : Int32)), .unset] []) _
      refine XS.iconst X50.here hx rfl (hb hby at_106) ?_
      show own_S p e below T50 (mkF m 107 #[.val (.int px), .val (.ref b2), .val (.int (2 : Int32)), .unset] [(.int (0 : Int32))]) _
      refine XS.istoreN X50.here hx rfl (hb hby at_107) rfl (l' := #[.val (.int px), .val (.ref b2), .val (.int (2 : Int32)), .val (.int (0 : Int32))]) rfl ?_
      show own_S p e below T50 (mkF m 108 #[.val (.int px), .val (.ref b2), .val (.int (2 : Int32)), .val (.int (0 : Int32))] []) _
      refine XS.aloadN X50.here hx rfl (hb hby at_108) rfl rfl ?_
      show own_S p e below T50 (mkF m 109 #[.val (.int px), .val (.ref b2), .val (.int (2 : Int32)), .val (.int (0 : Int32))] [(.ref b2)]) _
      refine XS.iloadN X50.here hx rfl (hb hby at_109) rfl ?_
      exact kt
    obtain ⟨cl62, Ar62, q62, S62, M62, H62, G62⟩ := V50
    have hin62 : ¬ ((2 : Int32) < 0 ∨ cl62.slots.size ≤ ((2 : Int32)).toNatClampNeg) := inb_of S62 ⟨by decide, by decide⟩
    have hat62 : cl62.slots[((2 : Int32)).toNatClampNeg]? = some (.ref s_SHORT) := Has.at H62 hin62 rfl
    have r64 : own_R p e below _ _ T50 (mkF m 111 #[.val (.int px), .val (.ref b2), .val (.int (2 : Int32)), .val (.int (0 : Int32))] [(.ref s_SHORT)]) := r63.trans fun z_ kt => by
      show own_S p e below T50 (mkF m 110 #[.val (.int px), .val (.ref b2), .val (.int (2 : Int32)), .val (.int (0 : Int32))] [(.int (2 : Int32)), (.ref b2)]) _
      refine X50.aaload hx (j := (2 : Int32)) (v := (.ref s_SHORT)) (by rw [e50]; exact Ar62.1) (State.isArrayOf_alike hZ.alike Ar62.2.1) rfl Ar62.2.2 hin62 hat62 (g := (mkF m 110 #[.val (.int px), .val (.ref b2), .val (.int (2 : Int32)), .val (.int (0 : Int32))] [(.int (2 : Int32)), (.ref b2)])) rfl rfl (hb hby at_110) _ ?_
      exact kt
    obtain ⟨cq65, kq65, q65a, q65b, q65c⟩ := isOf hZ e50 (OE_s_SHORT.ext O50.2)
    obtain ⟨_, _, ⟨T65, L65, cc65, n65⟩, -, X65, ⟨Lc65, hQ65, l65, y65, z65⟩, st65⟩ := X50.virtualBack hx (y := (⟨"com/example/capsmith/capsmith/model/OperandKind", "isBranch", "()Z"⟩ : MethodName)) (z := (⟨"com/example/capsmith/capsmith/model/OperandKind", "isBranch", "()Z"⟩ : MethodName)) hown (mvT hZ (hw _ (own_g (i := 29) rfl))) (mvT hZ (hw _ (own_g (i := 30) rfl))) (notFace_of_selects (args := #[]) (mvT hZ (hw _ (own_g (i := 32) rfl)))) (mvT hZ (hw _ (own_g (i := 32) rfl))) (mvT hZ (hw _ (own_g (i := 31) rfl))) (by decide) (backOf (W := 0) (rm_isB l Z a0 hw [] (s_SHORT) (s_BRANCH) (s_WIDE_BRANCH) ((0 : Int32)) h50 n0 O50 (S_OperandKind_BRANCH) (S_OperandKind_WIDE_BRANCH) (Or.inr (Or.inr ⟨(Fld.ne OF_s_SHORT_ordinal OF_s_BRANCH_ordinal (by decide)), (Fld.ne OF_s_SHORT_ordinal OF_s_WIDE_BRANCH_ordinal (by decide)), rfl⟩))) hZ (hw _ (own_g (i := 33) rfl)) (hw _ (own_g (i := 3) rfl)) (by decide) (by decide)) q65a q65c (g := (mkF m 111 #[.val (.int px), .val (.ref b2), .val (.int (2 : Int32)), .val (.int (0 : Int32))] [(.ref s_SHORT)])) rfl (by rw [hml]; rfl) (Steps.refl _) (argsL := []) (rest := []) (lenOf pd_0 rfl) rfl (by show 2 * 0 + _ ≤ _; exact Nat.le_of_eq rfl) (hb hby at_111) (fun _ _ => ⟨rfl, e50, (by decide : 1 + 0 ≤ _), (by decide : 12 + 0 ≤ _)⟩)
    dsimp only [Pt.U, Pt.locs, Pt.cells, Pt.slots] at X65 l65 y65 z65 st65 hQ65
    subst l65 y65 z65
    obtain ⟨rfl, Nq65, eq65⟩ := hQ65
    have N65 := Fr.app N50 Nq65
    have r65 : own_R p e below _ _ T65 (mkF m 114 #[.val (.int px), .val (.ref b2), .val (.int (2 : Int32)), .val (.int (0 : Int32))] [(.int (0 : Int32))]) := r64.trans fun z_ kt => st65.trans kt
    have e65 : T65.heap = h50 := eq65
    have r66 : own_R p e below _ _ T65 (mkF m 123 #[.val (.int px), .val (.ref b2), .val (.int (2 : Int32)), .val (.int (0 : Int32))] [(.int (1 : Int32))]) := r65.trans fun z_ kt => by
      show own_S p e below T65 (mkF m 114 #[.val (.int px), .val (.ref b2), .val (.int (2 : Int32)), .val (.int (0 : Int32))] [(.int (0 : Int32))]) _
      refine XS.iloadN X65.here hx rfl (hb hby at_114) rfl ?_
      show own_S p e below T65 (mkF m 115 #[.val (.int px), .val (.ref b2), .val (.int (2 : Int32)), .val (.int (0 : Int32))] [(.int (0 : Int32)), (.int (0 : Int32))]) _
      refine XS.icmpNo X65.here hx rfl (hb hby at_115) rfl (teq (by decide : (0 : Int32) = (0 : Int32))).2 ?_
      show own_S p e below T65 (mkF m 118 #[.val (.int px), .val (.ref b2), .val (.int (2 : Int32)), .val (.int (0 : Int32))] []) _
      refine XS.iconst X65.here hx rfl (hb hby at_118) ?_
      show own_S p e below T65 (mkF m 119 #[.val (.int px), .val (.ref b2), .val (.int (2 : Int32)), .val (.int (0 : Int32))] [(.int (1 : Int32))]) _
      refine XS.goto X65.here hx rfl (pc0 := 119) (pc' := 123) rfl (hb hby at_119) (by decide) (by decide) ?_
      exact kt
    obtain ⟨fs, hr, hrun, hended, hW, hsame⟩ := X65.leave (v := some (.int (1 : Int32))) (fun h => by rw [Bd.returns] at h; cases h)
    refine ⟨_, _, pre0 _ (r66 _ ?_), hrun, hended, _, _, rfl, ?_, ⟨_, rfl⟩, hW, hsame.mono (by decide) (by decide)⟩
    · exact retN X65 hx (t := .boolean) Bd.returns (by simp) (hb hby at_123) hr
    · show Q_law Z px s_LOCAL s_BYTE s_SHORT s_INT s_BRANCH s_WIDE_BRANCH s_CP_INDEX s_WIDE_CP_INDEX s_ARRAY_TYPE s_ARGUMENT_COUNT s_METHOD_TOKEN s_MN h0 n0 _ T65.heap _
      rw [e65]
      exact ⟨rfl, N65⟩
  · skip
    have r68 : own_R p e below _ _ T50 (mkF m 110 #[.val (.int px), .val (.ref b2), .val (.int (3 : Int32)), .val (.int (0 : Int32))] [(.int (3 : Int32)), (.ref b2)]) := r51.trans fun z_ kt => by
      show own_S p e below T50 (mkF m 92 #[.val (.int px), .val (.ref b2), .val (.int (3 : Int32)), .unset] []) _
      refine XS.iloadN X50.here hx rfl (hb hby at_92) rfl ?_
      show own_S p e below T50 (mkF m 93 #[.val (.int px), .val (.ref b2), .val (.int (3 : Int32)), .unset] [(.int (3 : Int32))]) _
      refine XS.iconst X50.here hx rfl (hb hby at_93) ?_
      show own_S p e below T50 (mkF m 94 #[.val (.int px), .val (.ref b2), .val (.int (3 : Int32)), .unset] [(.int (4 : Int32)), (.int (3 : Int32))]) _
      refine XS.icmpNo X50.here hx rfl (hb hby at_94) rfl (feq (by decide : ¬ ((3 : Int32) = (4 : Int32)))).1 ?_
      show own_S p e below T50 (mkF m 97 #[.val (.int px), .val (.ref b2), .val (.int (3 : Int32)), .unset] []) _
      refine XS.iloadN X50.here hx rfl (hb hby at_97) rfl ?_
      show own_S p e below T50 (mkF m 98 #[.val (.int px), .val (.ref b2), .val (.int (3 : Int32)), .unset] [(.int (3 : Int32))]) _
      refine XS.iconst X50.here hx rfl (hb hby at_98) ?_
      show own_S p e below T50 (mkF m 99 #[.val (.int px), .val (.ref b2), .val (.int (3 : Int32)), .unset] [(.int (5 : Int32)), (.int (3 : Int32))]) _
      refine XS.icmpYes X50.here hx rfl (pc0 := 99) (pc' := 106) rfl (hb hby at_99) rfl (feq (by decide : ¬ ((3 : Int32) = (5 : Int32)))).2 (by decide) (by decide) ?_
      show own_S p e below T50 (mkF m 106 #[.val (.int px), .val (.ref b2), .val (.int (3 : Int32)), .unset] []) _
      refine XS.iconst X50.here hx rfl (hb hby at_106) ?_
      show own_S p e below T50 (mkF m 107 #[.val (.int px), .val (.ref b2), .val (.int (3 : Int32)), .unset] [(.int (0 : Int32))]) _
      refine XS.istoreN X50.here hx rfl (hb hby at_107) rfl (l' := #[.val (.int px), .val (.ref b2), .val (.int (3 : Int32)), .val (.int (0 : Int32))]) rfl ?_
      show own_S p e below T50 (mkF m 108 #[.val (.int px), .val (.ref b2), .val (.int (3 : Int32)), .val (.int (0 : Int32))] []) _
      refine XS.aloadN X50.here hx rfl (hb hby at_108) rfl rfl ?_
      show own_S p e below T50 (mkF m 109 #[.val (.int px), .val (.ref b2), .val (.int (3 : Int32)), .val (.int (0 : Int32))] [(.ref b2)]) _
      refine XS.iloadN X50.here hx rfl (hb hby at_109) rfl ?_
      exact kt
    obtain ⟨cl67, Ar67, q67, S67, M67, H67, G67⟩ := V50
    have hin67 : ¬ ((3 : Int32) < 0 ∨ cl67.slots.size ≤ ((3 : Int32)).toNatClampNeg) := inb_of S67 ⟨by decide, by decide⟩
    have hat67 : cl67.slots[((3 : Int32)).toNatClampNeg]? = some (.ref s_INT) := Has.at H67 hin67 rfl
    have r69 : own_R p e below _ _ T50 (mkF m 111 #[.val (.int px), .val (.ref b2), .val (.int (3 : Int32)), .val (.int (0 : Int32))] [(.ref s_INT)]) := r68.trans fun z_ kt => by
      show own_S p e below T50 (mkF m 110 #[.val (.int px), .val (.ref b2), .val (.int (3 : Int32)), .val (.int (0 : Int32))] [(.int (3 : Int32)), (.ref b2)]) _
      refine X50.aaload hx (j := (3 : Int32)) (v := (.ref s_INT)) (by rw [e50]; exact Ar67.1) (State.isArrayOf_alike hZ.alike Ar67.2.1) rfl Ar67.2.2 hin67 hat67 (g := (mkF m 110 #[.val (.int px), .val (.ref b2), .val (.int (3 : Int32)), .val (.int (0 : Int32))] [(.int (3 : Int32)), (.ref b2)])) rfl rfl (hb hby at_110) _ ?_
      exact kt
    obtain ⟨cq70, kq70, q70a, q70b, q70c⟩ := isOf hZ e50 (OE_s_INT.ext O50.2)
    obtain ⟨_, _, ⟨T70, L70, cc70, n70⟩, -, X70, ⟨Lc70, hQ70, l70, y70, z70⟩, st70⟩ := X50.virtualBack hx (y := (⟨"com/example/capsmith/capsmith/model/OperandKind", "isBranch", "()Z"⟩ : MethodName)) (z := (⟨"com/example/capsmith/capsmith/model/OperandKind", "isBranch", "()Z"⟩ : MethodName)) hown (mvT hZ (hw _ (own_g (i := 29) rfl))) (mvT hZ (hw _ (own_g (i := 30) rfl))) (notFace_of_selects (args := #[]) (mvT hZ (hw _ (own_g (i := 32) rfl)))) (mvT hZ (hw _ (own_g (i := 32) rfl))) (mvT hZ (hw _ (own_g (i := 31) rfl))) (by decide) (backOf (W := 0) (rm_isB l Z a0 hw [] (s_INT) (s_BRANCH) (s_WIDE_BRANCH) ((0 : Int32)) h50 n0 O50 (S_OperandKind_BRANCH) (S_OperandKind_WIDE_BRANCH) (Or.inr (Or.inr ⟨(Fld.ne OF_s_INT_ordinal OF_s_BRANCH_ordinal (by decide)), (Fld.ne OF_s_INT_ordinal OF_s_WIDE_BRANCH_ordinal (by decide)), rfl⟩))) hZ (hw _ (own_g (i := 33) rfl)) (hw _ (own_g (i := 3) rfl)) (by decide) (by decide)) q70a q70c (g := (mkF m 111 #[.val (.int px), .val (.ref b2), .val (.int (3 : Int32)), .val (.int (0 : Int32))] [(.ref s_INT)])) rfl (by rw [hml]; rfl) (Steps.refl _) (argsL := []) (rest := []) (lenOf pd_0 rfl) rfl (by show 2 * 0 + _ ≤ _; exact Nat.le_of_eq rfl) (hb hby at_111) (fun _ _ => ⟨rfl, e50, (by decide : 1 + 0 ≤ _), (by decide : 12 + 0 ≤ _)⟩)
    dsimp only [Pt.U, Pt.locs, Pt.cells, Pt.slots] at X70 l70 y70 z70 st70 hQ70
    subst l70 y70 z70
    obtain ⟨rfl, Nq70, eq70⟩ := hQ70
    have N70 := Fr.app N50 Nq70
    have r70 : own_R p e below _ _ T70 (mkF m 114 #[.val (.int px), .val (.ref b2), .val (.int (3 : Int32)), .val (.int (0 : Int32))] [(.int (0 : Int32))]) := r69.trans fun z_ kt => st70.trans kt
    have e70 : T70.heap = h50 := eq70
    have r71 : own_R p e below _ _ T70 (mkF m 123 #[.val (.int px), .val (.ref b2), .val (.int (3 : Int32)), .val (.int (0 : Int32))] [(.int (1 : Int32))]) := r70.trans fun z_ kt => by
      show own_S p e below T70 (mkF m 114 #[.val (.int px), .val (.ref b2), .val (.int (3 : Int32)), .val (.int (0 : Int32))] [(.int (0 : Int32))]) _
      refine XS.iloadN X70.here hx rfl (hb hby at_114) rfl ?_
      show own_S p e below T70 (mkF m 115 #[.val (.int px), .val (.ref b2), .val (.int (3 : Int32)), .val (.int (0 : Int32))] [(.int (0 : Int32)), (.int (0 : Int32))]) _
      refine XS.icmpNo X70.here hx rfl (hb hby at_115) rfl (teq (by decide : (0 : Int32) = (0 : Int32))).2 ?_
      show own_S p e below T70 (mkF m 118 #[.val (.int px), .val (.ref b2), .val (.int (3 : Int32)), .val (.int (0 : Int32))] []) _
      refine XS.iconst X70.here hx rfl (hb hby at_118) ?_
      show own_S p e below T70 (mkF m 119 #[.val (.int px), .val (.ref b2), .val (.int (3 : Int32)), .val (.int (0 : Int32))] [(.int (1 : Int32))]) _
      refine XS.goto X70.here hx rfl (pc0 := 119) (pc' := 123) rfl (hb hby at_119) (by decide) (by decide) ?_
      exact kt
    obtain ⟨fs, hr, hrun, hended, hW, hsame⟩ := X70.leave (v := some (.int (1 : Int32))) (fun h => by rw [Bd.returns] at h; cases h)
    refine ⟨_, _, pre0 _ (r71 _ ?_), hrun, hended, _, _, rfl, ?_, ⟨_, rfl⟩, hW, hsame.mono (by decide) (by decide)⟩
    · exact retN X70 hx (t := .boolean) Bd.returns (by simp) (hb hby at_123) hr
    · show Q_law Z px s_LOCAL s_BYTE s_SHORT s_INT s_BRANCH s_WIDE_BRANCH s_CP_INDEX s_WIDE_CP_INDEX s_ARRAY_TYPE s_ARGUMENT_COUNT s_METHOD_TOKEN s_MN h0 n0 _ T70.heap _
      rw [e70]
      exact ⟨rfl, N70⟩
  · skip
    have r73 : own_R p e below _ _ T50 (mkF m 110 #[.val (.int px), .val (.ref b2), .val (.int (4 : Int32)), .val (.int (1 : Int32))] [(.int (4 : Int32)), (.ref b2)]) := r51.trans fun z_ kt => by
      show own_S p e below T50 (mkF m 92 #[.val (.int px), .val (.ref b2), .val (.int (4 : Int32)), .unset] []) _
      refine XS.iloadN X50.here hx rfl (hb hby at_92) rfl ?_
      show own_S p e below T50 (mkF m 93 #[.val (.int px), .val (.ref b2), .val (.int (4 : Int32)), .unset] [(.int (4 : Int32))]) _
      refine XS.iconst X50.here hx rfl (hb hby at_93) ?_
      show own_S p e below T50 (mkF m 94 #[.val (.int px), .val (.ref b2), .val (.int (4 : Int32)), .unset] [(.int (4 : Int32)), (.int (4 : Int32))]) _
      refine XS.icmpYes X50.here hx rfl (pc0 := 94) (pc' := 102) rfl (hb hby at_94) rfl (teq (by decide : (4 : Int32) = (4 : Int32))).1 (by decide) (by decide) ?_
      show own_S p e below T50 (mkF m 102 #[.val (.int px), .val (.ref b2), .val (.int (4 : Int32)), .unset] []) _
      refine XS.iconst X50.here hx rfl (hb hby at_102) ?_
      show own_S p e below T50 (mkF m 103 #[.val (.int px), .val (.ref b2), .val (.int (4 : Int32)), .unset] [(.int (1 : Int32))]) _
      refine XS.goto X50.here hx rfl (pc0 := 103) (pc' := 107) rfl (hb hby at_103) (by decide) (by decide) ?_
      show own_S p e below T50 (mkF m 107 #[.val (.int px), .val (.ref b2), .val (.int (4 : Int32)), .unset] [(.int (1 : Int32))]) _
      refine XS.istoreN X50.here hx rfl (hb hby at_107) rfl (l' := #[.val (.int px), .val (.ref b2), .val (.int (4 : Int32)), .val (.int (1 : Int32))]) rfl ?_
      show own_S p e below T50 (mkF m 108 #[.val (.int px), .val (.ref b2), .val (.int (4 : Int32)), .val (.int (1 : Int32))] []) _
      refine XS.aloadN X50.here hx rfl (hb hby at_108) rfl rfl ?_
      show own_S p e below T50 (mkF m 109 #[.val (.int px), .val (.ref b2), .val (.int (4 : Int32)), .val (.int (1 : Int32))] [(.ref b2)]) _
      refine XS.iloadN X50.here hx rfl (hb hby at_109) rfl ?_
      exact kt
    obtain ⟨cl72, Ar72, q72, S72, M72, H72, G72⟩ := V50
    have hin72 : ¬ ((4 : Int32) < 0 ∨ cl72.slots.size ≤ ((4 : Int32)).toNatClampNeg) := inb_of S72 ⟨by decide, by decide⟩
    have hat72 : cl72.slots[((4 : Int32)).toNatClampNeg]? = some (.ref s_BRANCH) := Has.at H72 hin72 rfl
    have r74 : own_R p e below _ _ T50 (mkF m 111 #[.val (.int px), .val (.ref b2), .val (.int (4 : Int32)), .val (.int (1 : Int32))] [(.ref s_BRANCH)]) := r73.trans fun z_ kt => by
      show own_S p e below T50 (mkF m 110 #[.val (.int px), .val (.ref b2), .val (.int (4 : Int32)), .val (.int (1 : Int32))] [(.int (4 : Int32)), (.ref b2)]) _
      refine X50.aaload hx (j := (4 : Int32)) (v := (.ref s_BRANCH)) (by rw [e50]; exact Ar72.1) (State.isArrayOf_alike hZ.alike Ar72.2.1) rfl Ar72.2.2 hin72 hat72 (g := (mkF m 110 #[.val (.int px), .val (.ref b2), .val (.int (4 : Int32)), .val (.int (1 : Int32))] [(.int (4 : Int32)), (.ref b2)])) rfl rfl (hb hby at_110) _ ?_
      exact kt
    obtain ⟨cq75, kq75, q75a, q75b, q75c⟩ := isOf hZ e50 (OE_s_BRANCH.ext O50.2)
    obtain ⟨_, _, ⟨T75, L75, cc75, n75⟩, -, X75, ⟨Lc75, hQ75, l75, y75, z75⟩, st75⟩ := X50.virtualBack hx (y := (⟨"com/example/capsmith/capsmith/model/OperandKind", "isBranch", "()Z"⟩ : MethodName)) (z := (⟨"com/example/capsmith/capsmith/model/OperandKind", "isBranch", "()Z"⟩ : MethodName)) hown (mvT hZ (hw _ (own_g (i := 29) rfl))) (mvT hZ (hw _ (own_g (i := 30) rfl))) (notFace_of_selects (args := #[]) (mvT hZ (hw _ (own_g (i := 32) rfl)))) (mvT hZ (hw _ (own_g (i := 32) rfl))) (mvT hZ (hw _ (own_g (i := 31) rfl))) (by decide) (backOf (W := 0) (rm_isB l Z a0 hw [] (s_BRANCH) (s_BRANCH) (s_WIDE_BRANCH) ((1 : Int32)) h50 n0 O50 (S_OperandKind_BRANCH) (S_OperandKind_WIDE_BRANCH) (Or.inl ⟨rfl, rfl⟩)) hZ (hw _ (own_g (i := 33) rfl)) (hw _ (own_g (i := 3) rfl)) (by decide) (by decide)) q75a q75c (g := (mkF m 111 #[.val (.int px), .val (.ref b2), .val (.int (4 : Int32)), .val (.int (1 : Int32))] [(.ref s_BRANCH)])) rfl (by rw [hml]; rfl) (Steps.refl _) (argsL := []) (rest := []) (lenOf pd_0 rfl) rfl (by show 2 * 0 + _ ≤ _; exact Nat.le_of_eq rfl) (hb hby at_111) (fun _ _ => ⟨rfl, e50, (by decide : 1 + 0 ≤ _), (by decide : 12 + 0 ≤ _)⟩)
    dsimp only [Pt.U, Pt.locs, Pt.cells, Pt.slots] at X75 l75 y75 z75 st75 hQ75
    subst l75 y75 z75
    obtain ⟨rfl, Nq75, eq75⟩ := hQ75
    have N75 := Fr.app N50 Nq75
    have r75 : own_R p e below _ _ T75 (mkF m 114 #[.val (.int px), .val (.ref b2), .val (.int (4 : Int32)), .val (.int (1 : Int32))] [(.int (1 : Int32))]) := r74.trans fun z_ kt => st75.trans kt
    have e75 : T75.heap = h50 := eq75
    have r76 : own_R p e below _ _ T75 (mkF m 123 #[.val (.int px), .val (.ref b2), .val (.int (4 : Int32)), .val (.int (1 : Int32))] [(.int (1 : Int32))]) := r75.trans fun z_ kt => by
      show own_S p e below T75 (mkF m 114 #[.val (.int px), .val (.ref b2), .val (.int (4 : Int32)), .val (.int (1 : Int32))] [(.int (1 : Int32))]) _
      refine XS.iloadN X75.here hx rfl (hb hby at_114) rfl ?_
      show own_S p e below T75 (mkF m 115 #[.val (.int px), .val (.ref b2), .val (.int (4 : Int32)), .val (.int (1 : Int32))] [(.int (1 : Int32)), (.int (1 : Int32))]) _
      refine XS.icmpNo X75.here hx rfl (hb hby at_115) rfl (teq (by decide : (1 : Int32) = (1 : Int32))).2 ?_
      show own_S p e below T75 (mkF m 118 #[.val (.int px), .val (.ref b2), .val (.int (4 : Int32)), .val (.int (1 : Int32))] []) _
      refine XS.iconst X75.here hx rfl (hb hby at_118) ?_
      show own_S p e below T75 (mkF m 119 #[.val (.int px), .val (.ref b2), .val (.int (4 : Int32)), .val (.int (1 : Int32))] [(.int (1 : Int32))]) _
      refine XS.goto X75.here hx rfl (pc0 := 119) (pc' := 123) rfl (hb hby at_119) (by decide) (by decide) ?_
      exact kt
    obtain ⟨fs, hr, hrun, hended, hW, hsame⟩ := X75.leave (v := some (.int (1 : Int32))) (fun h => by rw [Bd.returns] at h; cases h)
    refine ⟨_, _, pre0 _ (r76 _ ?_), hrun, hended, _, _, rfl, ?_, ⟨_, rfl⟩, hW, hsame.mono (by decide) (by decide)⟩
    · exact retN X75 hx (t := .boolean) Bd.returns (by simp) (hb hby at_123) hr
    · show Q_law Z px s_LOCAL s_BYTE s_SHORT s_INT s_BRANCH s_WIDE_BRANCH s_CP_INDEX s_WIDE_CP_INDEX s_ARRAY_TYPE s_ARGUMENT_COUNT s_METHOD_TOKEN s_MN h0 n0 _ T75.heap _
      rw [e75]
      exact ⟨rfl, N75⟩
  · skip
    have r78 : own_R p e below _ _ T50 (mkF m 110 #[.val (.int px), .val (.ref b2), .val (.int (5 : Int32)), .val (.int (1 : Int32))] [(.int (5 : Int32)), (.ref b2)]) := r51.trans fun z_ kt => by
      show own_S p e below T50 (mkF m 92 #[.val (.int px), .val (.ref b2), .val (.int (5 : Int32)), .unset] []) _
      refine XS.iloadN X50.here hx rfl (hb hby at_92) rfl ?_
      show own_S p e below T50 (mkF m 93 #[.val (.int px), .val (.ref b2), .val (.int (5 : Int32)), .unset] [(.int (5 : Int32))]) _
      refine XS.iconst X50.here hx rfl (hb hby at_93) ?_
      show own_S p e below T50 (mkF m 94 #[.val (.int px), .val (.ref b2), .val (.int (5 : Int32)), .unset] [(.int (4 : Int32)), (.int (5 : Int32))]) _
      refine XS.icmpNo X50.here hx rfl (hb hby at_94) rfl (feq (by decide : ¬ ((5 : Int32) = (4 : Int32)))).1 ?_
      show own_S p e below T50 (mkF m 97 #[.val (.int px), .val (.ref b2), .val (.int (5 : Int32)), .unset] []) _
      refine XS.iloadN X50.here hx rfl (hb hby at_97) rfl ?_
      show own_S p e below T50 (mkF m 98 #[.val (.int px), .val (.ref b2), .val (.int (5 : Int32)), .unset] [(.int (5 : Int32))]) _
      refine XS.iconst X50.here hx rfl (hb hby at_98) ?_
      show own_S p e below T50 (mkF m 99 #[.val (.int px), .val (.ref b2), .val (.int (5 : Int32)), .unset] [(.int (5 : Int32)), (.int (5 : Int32))]) _
      refine XS.icmpNo X50.here hx rfl (hb hby at_99) rfl (teq (by decide : (5 : Int32) = (5 : Int32))).2 ?_
      show own_S p e below T50 (mkF m 102 #[.val (.int px), .val (.ref b2), .val (.int (5 : Int32)), .unset] []) _
      refine XS.iconst X50.here hx rfl (hb hby at_102) ?_
      show own_S p e below T50 (mkF m 103 #[.val (.int px), .val (.ref b2), .val (.int (5 : Int32)), .unset] [(.int (1 : Int32))]) _
      refine XS.goto X50.here hx rfl (pc0 := 103) (pc' := 107) rfl (hb hby at_103) (by decide) (by decide) ?_
      show own_S p e below T50 (mkF m 107 #[.val (.int px), .val (.ref b2), .val (.int (5 : Int32)), .unset] [(.int (1 : Int32))]) _
      refine XS.istoreN X50.here hx rfl (hb hby at_107) rfl (l' := #[.val (.int px), .val (.ref b2), .val (.int (5 : Int32)), .val (.int (1 : Int32))]) rfl ?_
      show own_S p e below T50 (mkF m 108 #[.val (.int px), .val (.ref b2), .val (.int (5 : Int32)), .val (.int (1 : Int32))] []) _
      refine XS.aloadN X50.here hx rfl (hb hby at_108) rfl rfl ?_
      show own_S p e below T50 (mkF m 109 #[.val (.int px), .val (.ref b2), .val (.int (5 : Int32)), .val (.int (1 : Int32))] [(.ref b2)]) _
      refine XS.iloadN X50.here hx rfl (hb hby at_109) rfl ?_
      exact kt
    obtain ⟨cl77, Ar77, q77, S77, M77, H77, G77⟩ := V50
    have hin77 : ¬ ((5 : Int32) < 0 ∨ cl77.slots.size ≤ ((5 : Int32)).toNatClampNeg) := inb_of S77 ⟨by decide, by decide⟩
    have hat77 : cl77.slots[((5 : Int32)).toNatClampNeg]? = some (.ref s_WIDE_BRANCH) := Has.at H77 hin77 rfl
    have r79 : own_R p e below _ _ T50 (mkF m 111 #[.val (.int px), .val (.ref b2), .val (.int (5 : Int32)), .val (.int (1 : Int32))] [(.ref s_WIDE_BRANCH)]) := r78.trans fun z_ kt => by
      show own_S p e below T50 (mkF m 110 #[.val (.int px), .val (.ref b2), .val (.int (5 : Int32)), .val (.int (1 : Int32))] [(.int (5 : Int32)), (.ref b2)]) _
      refine X50.aaload hx (j := (5 : Int32)) (v := (.ref s_WIDE_BRANCH)) (by rw [e50]; exact Ar77.1) (State.isArrayOf_alike hZ.alike Ar77.2.1) rfl Ar77.2.2 hin77 hat77 (g := (mkF m 110 #[.val (.int px), .val (.ref b2), .val (.int (5 : Int32)), .val (.int (1 : Int32))] [(.int (5 : Int32)), (.ref b2)])) rfl rfl (hb hby at_110) _ ?_
      exact kt
    obtain ⟨cq80, kq80, q80a, q80b, q80c⟩ := isOf hZ e50 (OE_s_WIDE_BRANCH.ext O50.2)
    obtain ⟨_, _, ⟨T80, L80, cc80, n80⟩, -, X80, ⟨Lc80, hQ80, l80, y80, z80⟩, st80⟩ := X50.virtualBack hx (y := (⟨"com/example/capsmith/capsmith/model/OperandKind", "isBranch", "()Z"⟩ : MethodName)) (z := (⟨"com/example/capsmith/capsmith/model/OperandKind", "isBranch", "()Z"⟩ : MethodName)) hown (mvT hZ (hw _ (own_g (i := 29) rfl))) (mvT hZ (hw _ (own_g (i := 30) rfl))) (notFace_of_selects (args := #[]) (mvT hZ (hw _ (own_g (i := 32) rfl)))) (mvT hZ (hw _ (own_g (i := 32) rfl))) (mvT hZ (hw _ (own_g (i := 31) rfl))) (by decide) (backOf (W := 0) (rm_isB l Z a0 hw [] (s_WIDE_BRANCH) (s_BRANCH) (s_WIDE_BRANCH) ((1 : Int32)) h50 n0 O50 (S_OperandKind_BRANCH) (S_OperandKind_WIDE_BRANCH) (Or.inr (Or.inl ⟨(Fld.ne OF_s_WIDE_BRANCH_ordinal OF_s_BRANCH_ordinal (by decide)), rfl, rfl⟩))) hZ (hw _ (own_g (i := 33) rfl)) (hw _ (own_g (i := 3) rfl)) (by decide) (by decide)) q80a q80c (g := (mkF m 111 #[.val (.int px), .val (.ref b2), .val (.int (5 : Int32)), .val (.int (1 : Int32))] [(.ref s_WIDE_BRANCH)])) rfl (by rw [hml]; rfl) (Steps.refl _) (argsL := []) (rest := []) (lenOf pd_0 rfl) rfl (by show 2 * 0 + _ ≤ _; exact Nat.le_of_eq rfl) (hb hby at_111) (fun _ _ => ⟨rfl, e50, (by decide : 1 + 0 ≤ _), (by decide : 12 + 0 ≤ _)⟩)
    dsimp only [Pt.U, Pt.locs, Pt.cells, Pt.slots] at X80 l80 y80 z80 st80 hQ80
    subst l80 y80 z80
    obtain ⟨rfl, Nq80, eq80⟩ := hQ80
    have N80 := Fr.app N50 Nq80
    have r80 : own_R p e below _ _ T80 (mkF m 114 #[.val (.int px), .val (.ref b2), .val (.int (5 : Int32)), .val (.int (1 : Int32))] [(.int (1 : Int32))]) := r79.trans fun z_ kt => st80.trans kt
    have e80 : T80.heap = h50 := eq80
    have r81 : own_R p e below _ _ T80 (mkF m 123 #[.val (.int px), .val (.ref b2), .val (.int (5 : Int32)), .val (.int (1 : Int32))] [(.int (1 : Int32))]) := r80.trans fun z_ kt => by
      show own_S p e below T80 (mkF m 114 #[.val (.int px), .val (.ref b2), .val (.int (5 : Int32)), .val (.int (1 : Int32))] [(.int (1 : Int32))]) _
      refine XS.iloadN X80.here hx rfl (hb hby at_114) rfl ?_
      show own_S p e below T80 (mkF m 115 #[.val (.int px), .val (.ref b2), .val (.int (5 : Int32)), .val (.int (1 : Int32))] [(.int (1 : Int32)), (.int (1 : Int32))]) _
      refine XS.icmpNo X80.here hx rfl (hb hby at_115) rfl (teq (by decide : (1 : Int32) = (1 : Int32))).2 ?_
      show own_S p e below T80 (mkF m 118 #[.val (.int px), .val (.ref b2), .val (.int (5 : Int32)), .val (.int (1 : Int32))] []) _
      refine XS.iconst X80.here hx rfl (hb hby at_118) ?_
      show own_S p e below T80 (mkF m 119 #[.val (.int px), .val (.ref b2), .val (.int (5 : Int32)), .val (.int (1 : Int32))] [(.int (1 : Int32))]) _
      refine XS.goto X80.here hx rfl (pc0 := 119) (pc' := 123) rfl (hb hby at_119) (by decide) (by decide) ?_
      exact kt
    obtain ⟨fs, hr, hrun, hended, hW, hsame⟩ := X80.leave (v := some (.int (1 : Int32))) (fun h => by rw [Bd.returns] at h; cases h)
    refine ⟨_, _, pre0 _ (r81 _ ?_), hrun, hended, _, _, rfl, ?_, ⟨_, rfl⟩, hW, hsame.mono (by decide) (by decide)⟩
    · exact retN X80 hx (t := .boolean) Bd.returns (by simp) (hb hby at_123) hr
    · show Q_law Z px s_LOCAL s_BYTE s_SHORT s_INT s_BRANCH s_WIDE_BRANCH s_CP_INDEX s_WIDE_CP_INDEX s_ARRAY_TYPE s_ARGUMENT_COUNT s_METHOD_TOKEN s_MN h0 n0 _ T80.heap _
      rw [e80]
      exact ⟨rfl, N80⟩
  · skip
    have r83 : own_R p e below _ _ T50 (mkF m 110 #[.val (.int px), .val (.ref b2), .val (.int (6 : Int32)), .val (.int (0 : Int32))] [(.int (6 : Int32)), (.ref b2)]) := r51.trans fun z_ kt => by
      show own_S p e below T50 (mkF m 92 #[.val (.int px), .val (.ref b2), .val (.int (6 : Int32)), .unset] []) _
      refine XS.iloadN X50.here hx rfl (hb hby at_92) rfl ?_
      show own_S p e below T50 (mkF m 93 #[.val (.int px), .val (.ref b2), .val (.int (6 : Int32)), .unset] [(.int (6 : Int32))]) _
      refine XS.iconst X50.here hx rfl (hb hby at_93) ?_
      show own_S p e below T50 (mkF m 94 #[.val (.int px), .val (.ref b2), .val (.int (6 : Int32)), .unset] [(.int (4 : Int32)), (.int (6 : Int32))]) _
      refine XS.icmpNo X50.here hx rfl (hb hby at_94) rfl (feq (by decide : ¬ ((6 : Int32) = (4 : Int32)))).1 ?_
      show own_S p e below T50 (mkF m 97 #[.val (.int px), .val (.ref b2), .val (.int (6 : Int32)), .unset] []) _
      refine XS.iloadN X50.here hx rfl (hb hby at_97) rfl ?_
      show own_S p e below T50 (mkF m 98 #[.val (.int px), .val (.ref b2), .val (.int (6 : Int32)), .unset] [(.int (6 : Int32))]) _
      refine XS.iconst X50.here hx rfl (hb hby at_98) ?_
      show own_S p e below T50 (mkF m 99 #[.val (.int px), .val (.ref b2), .val (.int (6 : Int32)), .unset] [(.int (5 : Int32)), (.int (6 : Int32))]) _
      refine XS.icmpYes X50.here hx rfl (pc0 := 99) (pc' := 106) rfl (hb hby at_99) rfl (feq (by decide : ¬ ((6 : Int32) = (5 : Int32)))).2 (by decide) (by decide) ?_
      show own_S p e below T50 (mkF m 106 #[.val (.int px), .val (.ref b2), .val (.int (6 : Int32)), .unset] []) _
      refine XS.iconst X50.here hx rfl (hb hby at_106) ?_
      show own_S p e below T50 (mkF m 107 #[.val (.int px), .val (.ref b2), .val (.int (6 : Int32)), .unset] [(.int (0 : Int32))]) _
      refine XS.istoreN X50.here hx rfl (hb hby at_107) rfl (l' := #[.val (.int px), .val (.ref b2), .val (.int (6 : Int32)), .val (.int (0 : Int32))]) rfl ?_
      show own_S p e below T50 (mkF m 108 #[.val (.int px), .val (.ref b2), .val (.int (6 : Int32)), .val (.int (0 : Int32))] []) _
      refine XS.aloadN X50.here hx rfl (hb hby at_108) rfl rfl ?_
      show own_S p e below T50 (mkF m 109 #[.val (.int px), .val (.ref b2), .val (.int (6 : Int32)), .val (.int (0 : Int32))] [(.ref b2)]) _
      refine XS.iloadN X50.here hx rfl (hb hby at_109) rfl ?_
      exact kt
    obtain ⟨cl82, Ar82, q82, S82, M82, H82, G82⟩ := V50
    have hin82 : ¬ ((6 : Int32) < 0 ∨ cl82.slots.size ≤ ((6 : Int32)).toNatClampNeg) := inb_of S82 ⟨by decide, by decide⟩
    have hat82 : cl82.slots[((6 : Int32)).toNatClampNeg]? = some (.ref s_CP_INDEX) := Has.at H82 hin82 rfl
    have r84 : own_R p e below _ _ T50 (mkF m 111 #[.val (.int px), .val (.ref b2), .val (.int (6 : Int32)), .val (.int (0 : Int32))] [(.ref s_CP_INDEX)]) := r83.trans fun z_ kt => by
      show own_S p e below T50 (mkF m 110 #[.val (.int px), .val (.ref b2), .val (.int (6 : Int32)), .val (.int (0 : Int32))] [(.int (6 : Int32)), (.ref b2)]) _
      refine X50.aaload hx (j := (6 : Int32)) (v := (.ref s_CP_INDEX)) (by rw [e50]; exact Ar82.1) (State.isArrayOf_alike hZ.alike Ar82.2.1) rfl Ar82.2.2 hin82 hat82 (g := (mkF m 110 #[.val (.int px), .val (.ref b2), .val (.int (6 : Int32)), .val (.int (0 : Int32))] [(.int (6 : Int32)), (.ref b2)])) rfl rfl (hb hby at_110) _ ?_
      exact kt
    obtain ⟨cq85, kq85, q85a, q85b, q85c⟩ := isOf hZ e50 (OE_s_CP_INDEX.ext O50.2)
    obtain ⟨_, _, ⟨T85, L85, cc85, n85⟩, -, X85, ⟨Lc85, hQ85, l85, y85, z85⟩, st85⟩ := X50.virtualBack hx (y := (⟨"com/example/capsmith/capsmith/model/OperandKind", "isBranch", "()Z"⟩ : MethodName)) (z := (⟨"com/example/capsmith/capsmith/model/OperandKind", "isBranch", "()Z"⟩ : MethodName)) hown (mvT hZ (hw _ (own_g (i := 29) rfl))) (mvT hZ (hw _ (own_g (i := 30) rfl))) (notFace_of_selects (args := #[]) (mvT hZ (hw _ (own_g (i := 32) rfl)))) (mvT hZ (hw _ (own_g (i := 32) rfl))) (mvT hZ (hw _ (own_g (i := 31) rfl))) (by decide) (backOf (W := 0) (rm_isB l Z a0 hw [] (s_CP_INDEX) (s_BRANCH) (s_WIDE_BRANCH) ((0 : Int32)) h50 n0 O50 (S_OperandKind_BRANCH) (S_OperandKind_WIDE_BRANCH) (Or.inr (Or.inr ⟨(Fld.ne OF_s_CP_INDEX_ordinal OF_s_BRANCH_ordinal (by decide)), (Fld.ne OF_s_CP_INDEX_ordinal OF_s_WIDE_BRANCH_ordinal (by decide)), rfl⟩))) hZ (hw _ (own_g (i := 33) rfl)) (hw _ (own_g (i := 3) rfl)) (by decide) (by decide)) q85a q85c (g := (mkF m 111 #[.val (.int px), .val (.ref b2), .val (.int (6 : Int32)), .val (.int (0 : Int32))] [(.ref s_CP_INDEX)])) rfl (by rw [hml]; rfl) (Steps.refl _) (argsL := []) (rest := []) (lenOf pd_0 rfl) rfl (by show 2 * 0 + _ ≤ _; exact Nat.le_of_eq rfl) (hb hby at_111) (fun _ _ => ⟨rfl, e50, (by decide : 1 + 0 ≤ _), (by decide : 12 + 0 ≤ _)⟩)
    dsimp only [Pt.U, Pt.locs, Pt.cells, Pt.slots] at X85 l85 y85 z85 st85 hQ85
    subst l85 y85 z85
    obtain ⟨rfl, Nq85, eq85⟩ := hQ85
    have N85 := Fr.app N50 Nq85
    have r85 : own_R p e below _ _ T85 (mkF m 114 #[.val (.int px), .val (.ref b2), .val (.int (6 : Int32)), .val (.int (0 : Int32))] [(.int (0 : Int32))]) := r84.trans fun z_ kt => st85.trans kt
    have e85 : T85.heap = h50 := eq85
    have r86 : own_R p e below _ _ T85 (mkF m 123 #[.val (.int px), .val (.ref b2), .val (.int (6 : Int32)), .val (.int (0 : Int32))] [(.int (1 : Int32))]) := r85.trans fun z_ kt => by
      show own_S p e below T85 (mkF m 114 #[.val (.int px), .val (.ref b2), .val (.int (6 : Int32)), .val (.int (0 : Int32))] [(.int (0 : Int32))]) _
      refine XS.iloadN X85.here hx rfl (hb hby at_114) rfl ?_
      show own_S p e below T85 (mkF m 115 #[.val (.int px), .val (.ref b2), .val (.int (6 : Int32)), .val (.int (0 : Int32))] [(.int (0 : Int32)), (.int (0 : Int32))]) _
      refine XS.icmpNo X85.here hx rfl (hb hby at_115) rfl (teq (by decide : (0 : Int32) = (0 : Int32))).2 ?_
      show own_S p e below T85 (mkF m 118 #[.val (.int px), .val (.ref b2), .val (.int (6 : Int32)), .val (.int (0 : Int32))] []) _
      refine XS.iconst X85.here hx rfl (hb hby at_118) ?_
      show own_S p e below T85 (mkF m 119 #[.val (.int px), .val (.ref b2), .val (.int (6 : Int32)), .val (.int (0 : Int32))] [(.int (1 : Int32))]) _
      refine XS.goto X85.here hx rfl (pc0 := 119) (pc' := 123) rfl (hb hby at_119) (by decide) (by decide) ?_
      exact kt
    obtain ⟨fs, hr, hrun, hended, hW, hsame⟩ := X85.leave (v := some (.int (1 : Int32))) (fun h => by rw [Bd.returns] at h; cases h)
    refine ⟨_, _, pre0 _ (r86 _ ?_), hrun, hended, _, _, rfl, ?_, ⟨_, rfl⟩, hW, hsame.mono (by decide) (by decide)⟩
    · exact retN X85 hx (t := .boolean) Bd.returns (by simp) (hb hby at_123) hr
    · show Q_law Z px s_LOCAL s_BYTE s_SHORT s_INT s_BRANCH s_WIDE_BRANCH s_CP_INDEX s_WIDE_CP_INDEX s_ARRAY_TYPE s_ARGUMENT_COUNT s_METHOD_TOKEN s_MN h0 n0 _ T85.heap _
      rw [e85]
      exact ⟨rfl, N85⟩
  · skip
    have r88 : own_R p e below _ _ T50 (mkF m 110 #[.val (.int px), .val (.ref b2), .val (.int (7 : Int32)), .val (.int (0 : Int32))] [(.int (7 : Int32)), (.ref b2)]) := r51.trans fun z_ kt => by
      show own_S p e below T50 (mkF m 92 #[.val (.int px), .val (.ref b2), .val (.int (7 : Int32)), .unset] []) _
      refine XS.iloadN X50.here hx rfl (hb hby at_92) rfl ?_
      show own_S p e below T50 (mkF m 93 #[.val (.int px), .val (.ref b2), .val (.int (7 : Int32)), .unset] [(.int (7 : Int32))]) _
      refine XS.iconst X50.here hx rfl (hb hby at_93) ?_
      show own_S p e below T50 (mkF m 94 #[.val (.int px), .val (.ref b2), .val (.int (7 : Int32)), .unset] [(.int (4 : Int32)), (.int (7 : Int32))]) _
      refine XS.icmpNo X50.here hx rfl (hb hby at_94) rfl (feq (by decide : ¬ ((7 : Int32) = (4 : Int32)))).1 ?_
      show own_S p e below T50 (mkF m 97 #[.val (.int px), .val (.ref b2), .val (.int (7 : Int32)), .unset] []) _
      refine XS.iloadN X50.here hx rfl (hb hby at_97) rfl ?_
      show own_S p e below T50 (mkF m 98 #[.val (.int px), .val (.ref b2), .val (.int (7 : Int32)), .unset] [(.int (7 : Int32))]) _
      refine XS.iconst X50.here hx rfl (hb hby at_98) ?_
      show own_S p e below T50 (mkF m 99 #[.val (.int px), .val (.ref b2), .val (.int (7 : Int32)), .unset] [(.int (5 : Int32)), (.int (7 : Int32))]) _
      refine XS.icmpYes X50.here hx rfl (pc0 := 99) (pc' := 106) rfl (hb hby at_99) rfl (feq (by decide : ¬ ((7 : Int32) = (5 : Int32)))).2 (by decide) (by decide) ?_
      show own_S p e below T50 (mkF m 106 #[.val (.int px), .val (.ref b2), .val (.int (7 : Int32)), .unset] []) _
      refine XS.iconst X50.here hx rfl (hb hby at_106) ?_
      show own_S p e below T50 (mkF m 107 #[.val (.int px), .val (.ref b2), .val (.int (7 : Int32)), .unset] [(.int (0 : Int32))]) _
      refine XS.istoreN X50.here hx rfl (hb hby at_107) rfl (l' := #[.val (.int px), .val (.ref b2), .val (.int (7 : Int32)), .val (.int (0 : Int32))]) rfl ?_
      show own_S p e below T50 (mkF m 108 #[.val (.int px), .val (.ref b2), .val (.int (7 : Int32)), .val (.int (0 : Int32))] []) _
      refine XS.aloadN X50.here hx rfl (hb hby at_108) rfl rfl ?_
      show own_S p e below T50 (mkF m 109 #[.val (.int px), .val (.ref b2), .val (.int (7 : Int32)), .val (.int (0 : Int32))] [(.ref b2)]) _
      refine XS.iloadN X50.here hx rfl (hb hby at_109) rfl ?_
      exact kt
    obtain ⟨cl87, Ar87, q87, S87, M87, H87, G87⟩ := V50
    have hin87 : ¬ ((7 : Int32) < 0 ∨ cl87.slots.size ≤ ((7 : Int32)).toNatClampNeg) := inb_of S87 ⟨by decide, by decide⟩
    have hat87 : cl87.slots[((7 : Int32)).toNatClampNeg]? = some (.ref s_WIDE_CP_INDEX) := Has.at H87 hin87 rfl
    have r89 : own_R p e below _ _ T50 (mkF m 111 #[.val (.int px), .val (.ref b2), .val (.int (7 : Int32)), .val (.int (0 : Int32))] [(.ref s_WIDE_CP_INDEX)]) := r88.trans fun z_ kt => by
      show own_S p e below T50 (mkF m 110 #[.val (.int px), .val (.ref b2), .val (.int (7 : Int32)), .val (.int (0 : Int32))] [(.int (7 : Int32)), (.ref b2)]) _
      refine X50.aaload hx (j := (7 : Int32)) (v := (.ref s_WIDE_CP_INDEX)) (by rw [e50]; exact Ar87.1) (State.isArrayOf_alike hZ.alike Ar87.2.1) rfl Ar87.2.2 hin87 hat87 (g := (mkF m 110 #[.val (.int px), .val (.ref b2), .val (.int (7 : Int32)), .val (.int (0 : Int32))] [(.int (7 : Int32)), (.ref b2)])) rfl rfl (hb hby at_110) _ ?_
      exact kt
    obtain ⟨cq90, kq90, q90a, q90b, q90c⟩ := isOf hZ e50 (OE_s_WIDE_CP_INDEX.ext O50.2)
    obtain ⟨_, _, ⟨T90, L90, cc90, n90⟩, -, X90, ⟨Lc90, hQ90, l90, y90, z90⟩, st90⟩ := X50.virtualBack hx (y := (⟨"com/example/capsmith/capsmith/model/OperandKind", "isBranch", "()Z"⟩ : MethodName)) (z := (⟨"com/example/capsmith/capsmith/model/OperandKind", "isBranch", "()Z"⟩ : MethodName)) hown (mvT hZ (hw _ (own_g (i := 29) rfl))) (mvT hZ (hw _ (own_g (i := 30) rfl))) (notFace_of_selects (args := #[]) (mvT hZ (hw _ (own_g (i := 32) rfl)))) (mvT hZ (hw _ (own_g (i := 32) rfl))) (mvT hZ (hw _ (own_g (i := 31) rfl))) (by decide) (backOf (W := 0) (rm_isB l Z a0 hw [] (s_WIDE_CP_INDEX) (s_BRANCH) (s_WIDE_BRANCH) ((0 : Int32)) h50 n0 O50 (S_OperandKind_BRANCH) (S_OperandKind_WIDE_BRANCH) (Or.inr (Or.inr ⟨(Fld.ne OF_s_WIDE_CP_INDEX_ordinal OF_s_BRANCH_ordinal (by decide)), (Fld.ne OF_s_WIDE_CP_INDEX_ordinal OF_s_WIDE_BRANCH_ordinal (by decide)), rfl⟩))) hZ (hw _ (own_g (i := 33) rfl)) (hw _ (own_g (i := 3) rfl)) (by decide) (by decide)) q90a q90c (g := (mkF m 111 #[.val (.int px), .val (.ref b2), .val (.int (7 : Int32)), .val (.int (0 : Int32))] [(.ref s_WIDE_CP_INDEX)])) rfl (by rw [hml]; rfl) (Steps.refl _) (argsL := []) (rest := []) (lenOf pd_0 rfl) rfl (by show 2 * 0 + _ ≤ _; exact Nat.le_of_eq rfl) (hb hby at_111) (fun _ _ => ⟨rfl, e50, (by decide : 1 + 0 ≤ _), (by decide : 12 + 0 ≤ _)⟩)
    dsimp only [Pt.U, Pt.locs, Pt.cells, Pt.slots] at X90 l90 y90 z90 st90 hQ90
    subst l90 y90 z90
    obtain ⟨rfl, Nq90, eq90⟩ := hQ90
    have N90 := Fr.app N50 Nq90
    have r90 : own_R p e below _ _ T90 (mkF m 114 #[.val (.int px), .val (.ref b2), .val (.int (7 : Int32)), .val (.int (0 : Int32))] [(.int (0 : Int32))]) := r89.trans fun z_ kt => st90.trans kt
    have e90 : T90.heap = h50 := eq90
    have r91 : own_R p e below _ _ T90 (mkF m 123 #[.val (.int px), .val (.ref b2), .val (.int (7 : Int32)), .val (.int (0 : Int32))] [(.int (1 : Int32))]) := r90.trans fun z_ kt => by
      show own_S p e below T90 (mkF m 114 #[.val (.int px), .val (.ref b2), .val (.int (7 : Int32)), .val (.int (0 : Int32))] [(.int (0 : Int32))]) _
      refine XS.iloadN X90.here hx rfl (hb hby at_114) rfl ?_
      show own_S p e below T90 (mkF m 115 #[.val (.int px), .val (.ref b2), .val (.int (7 : Int32)), .val (.int (0 : Int32))] [(.int (0 : Int32)), (.int (0 : Int32))]) _
      refine XS.icmpNo X90.here hx rfl (hb hby at_115) rfl (teq (by decide : (0 : Int32) = (0 : Int32))).2 ?_
      show own_S p e below T90 (mkF m 118 #[.val (.int px), .val (.ref b2), .val (.int (7 : Int32)), .val (.int (0 : Int32))] []) _
      refine XS.iconst X90.here hx rfl (hb hby at_118) ?_
      show own_S p e below T90 (mkF m 119 #[.val (.int px), .val (.ref b2), .val (.int (7 : Int32)), .val (.int (0 : Int32))] [(.int (1 : Int32))]) _
      refine XS.goto X90.here hx rfl (pc0 := 119) (pc' := 123) rfl (hb hby at_119) (by decide) (by decide) ?_
      exact kt
    obtain ⟨fs, hr, hrun, hended, hW, hsame⟩ := X90.leave (v := some (.int (1 : Int32))) (fun h => by rw [Bd.returns] at h; cases h)
    refine ⟨_, _, pre0 _ (r91 _ ?_), hrun, hended, _, _, rfl, ?_, ⟨_, rfl⟩, hW, hsame.mono (by decide) (by decide)⟩
    · exact retN X90 hx (t := .boolean) Bd.returns (by simp) (hb hby at_123) hr
    · show Q_law Z px s_LOCAL s_BYTE s_SHORT s_INT s_BRANCH s_WIDE_BRANCH s_CP_INDEX s_WIDE_CP_INDEX s_ARRAY_TYPE s_ARGUMENT_COUNT s_METHOD_TOKEN s_MN h0 n0 _ T90.heap _
      rw [e90]
      exact ⟨rfl, N90⟩
  · skip
    have r93 : own_R p e below _ _ T50 (mkF m 110 #[.val (.int px), .val (.ref b2), .val (.int (8 : Int32)), .val (.int (0 : Int32))] [(.int (8 : Int32)), (.ref b2)]) := r51.trans fun z_ kt => by
      show own_S p e below T50 (mkF m 92 #[.val (.int px), .val (.ref b2), .val (.int (8 : Int32)), .unset] []) _
      refine XS.iloadN X50.here hx rfl (hb hby at_92) rfl ?_
      show own_S p e below T50 (mkF m 93 #[.val (.int px), .val (.ref b2), .val (.int (8 : Int32)), .unset] [(.int (8 : Int32))]) _
      refine XS.iconst X50.here hx rfl (hb hby at_93) ?_
      show own_S p e below T50 (mkF m 94 #[.val (.int px), .val (.ref b2), .val (.int (8 : Int32)), .unset] [(.int (4 : Int32)), (.int (8 : Int32))]) _
      refine XS.icmpNo X50.here hx rfl (hb hby at_94) rfl (feq (by decide : ¬ ((8 : Int32) = (4 : Int32)))).1 ?_
      show own_S p e below T50 (mkF m 97 #[.val (.int px), .val (.ref b2), .val (.int (8 : Int32)), .unset] []) _
      refine XS.iloadN X50.here hx rfl (hb hby at_97) rfl ?_
      show own_S p e below T50 (mkF m 98 #[.val (.int px), .val (.ref b2), .val (.int (8 : Int32)), .unset] [(.int (8 : Int32))]) _
      refine XS.iconst X50.here hx rfl (hb hby at_98) ?_
      show own_S p e below T50 (mkF m 99 #[.val (.int px), .val (.ref b2), .val (.int (8 : Int32)), .unset] [(.int (5 : Int32)), (.int (8 : Int32))]) _
      refine XS.icmpYes X50.here hx rfl (pc0 := 99) (pc' := 106) rfl (hb hby at_99) rfl (feq (by decide : ¬ ((8 : Int32) = (5 : Int32)))).2 (by decide) (by decide) ?_
      show own_S p e below T50 (mkF m 106 #[.val (.int px), .val (.ref b2), .val (.int (8 : Int32)), .unset] []) _
      refine XS.iconst X50.here hx rfl (hb hby at_106) ?_
      show own_S p e below T50 (mkF m 107 #[.val (.int px), .val (.ref b2), .val (.int (8 : Int32)), .unset] [(.int (0 : Int32))]) _
      refine XS.istoreN X50.here hx rfl (hb hby at_107) rfl (l' := #[.val (.int px), .val (.ref b2), .val (.int (8 : Int32)), .val (.int (0 : Int32))]) rfl ?_
      show own_S p e below T50 (mkF m 108 #[.val (.int px), .val (.ref b2), .val (.int (8 : Int32)), .val (.int (0 : Int32))] []) _
      refine XS.aloadN X50.here hx rfl (hb hby at_108) rfl rfl ?_
      show own_S p e below T50 (mkF m 109 #[.val (.int px), .val (.ref b2), .val (.int (8 : Int32)), .val (.int (0 : Int32))] [(.ref b2)]) _
      refine XS.iloadN X50.here hx rfl (hb hby at_109) rfl ?_
      exact kt
    obtain ⟨cl92, Ar92, q92, S92, M92, H92, G92⟩ := V50
    have hin92 : ¬ ((8 : Int32) < 0 ∨ cl92.slots.size ≤ ((8 : Int32)).toNatClampNeg) := inb_of S92 ⟨by decide, by decide⟩
    have hat92 : cl92.slots[((8 : Int32)).toNatClampNeg]? = some (.ref s_ARRAY_TYPE) := Has.at H92 hin92 rfl
    have r94 : own_R p e below _ _ T50 (mkF m 111 #[.val (.int px), .val (.ref b2), .val (.int (8 : Int32)), .val (.int (0 : Int32))] [(.ref s_ARRAY_TYPE)]) := r93.trans fun z_ kt => by
      show own_S p e below T50 (mkF m 110 #[.val (.int px), .val (.ref b2), .val (.int (8 : Int32)), .val (.int (0 : Int32))] [(.int (8 : Int32)), (.ref b2)]) _
      refine X50.aaload hx (j := (8 : Int32)) (v := (.ref s_ARRAY_TYPE)) (by rw [e50]; exact Ar92.1) (State.isArrayOf_alike hZ.alike Ar92.2.1) rfl Ar92.2.2 hin92 hat92 (g := (mkF m 110 #[.val (.int px), .val (.ref b2), .val (.int (8 : Int32)), .val (.int (0 : Int32))] [(.int (8 : Int32)), (.ref b2)])) rfl rfl (hb hby at_110) _ ?_
      exact kt
    obtain ⟨cq95, kq95, q95a, q95b, q95c⟩ := isOf hZ e50 (OE_s_ARRAY_TYPE.ext O50.2)
    obtain ⟨_, _, ⟨T95, L95, cc95, n95⟩, -, X95, ⟨Lc95, hQ95, l95, y95, z95⟩, st95⟩ := X50.virtualBack hx (y := (⟨"com/example/capsmith/capsmith/model/OperandKind", "isBranch", "()Z"⟩ : MethodName)) (z := (⟨"com/example/capsmith/capsmith/model/OperandKind", "isBranch", "()Z"⟩ : MethodName)) hown (mvT hZ (hw _ (own_g (i := 29) rfl))) (mvT hZ (hw _ (own_g (i := 30) rfl))) (notFace_of_selects (args := #[]) (mvT hZ (hw _ (own_g (i := 32) rfl)))) (mvT hZ (hw _ (own_g (i := 32) rfl))) (mvT hZ (hw _ (own_g (i := 31) rfl))) (by decide) (backOf (W := 0) (rm_isB l Z a0 hw [] (s_ARRAY_TYPE) (s_BRANCH) (s_WIDE_BRANCH) ((0 : Int32)) h50 n0 O50 (S_OperandKind_BRANCH) (S_OperandKind_WIDE_BRANCH) (Or.inr (Or.inr ⟨(Fld.ne OF_s_ARRAY_TYPE_ordinal OF_s_BRANCH_ordinal (by decide)), (Fld.ne OF_s_ARRAY_TYPE_ordinal OF_s_WIDE_BRANCH_ordinal (by decide)), rfl⟩))) hZ (hw _ (own_g (i := 33) rfl)) (hw _ (own_g (i := 3) rfl)) (by decide) (by decide)) q95a q95c (g := (mkF m 111 #[.val (.int px), .val (.ref b2), .val (.int (8 : Int32)), .val (.int (0 : Int32))] [(.ref s_ARRAY_TYPE)])) rfl (by rw [hml]; rfl) (Steps.refl _) (argsL := []) (rest := []) (lenOf pd_0 rfl) rfl (by show 2 * 0 + _ ≤ _; exact Nat.le_of_eq rfl) (hb hby at_111) (fun _ _ => ⟨rfl, e50, (by decide : 1 + 0 ≤ _), (by decide : 12 + 0 ≤ _)⟩)
    dsimp only [Pt.U, Pt.locs, Pt.cells, Pt.slots] at X95 l95 y95 z95 st95 hQ95
    subst l95 y95 z95
    obtain ⟨rfl, Nq95, eq95⟩ := hQ95
    have N95 := Fr.app N50 Nq95
    have r95 : own_R p e below _ _ T95 (mkF m 114 #[.val (.int px), .val (.ref b2), .val (.int (8 : Int32)), .val (.int (0 : Int32))] [(.int (0 : Int32))]) := r94.trans fun z_ kt => st95.trans kt
    have e95 : T95.heap = h50 := eq95
    have r96 : own_R p e below _ _ T95 (mkF m 123 #[.val (.int px), .val (.ref b2), .val (.int (8 : Int32)), .val (.int (0 : Int32))] [(.int (1 : Int32))]) := r95.trans fun z_ kt => by
      show own_S p e below T95 (mkF m 114 #[.val (.int px), .val (.ref b2), .val (.int (8 : Int32)), .val (.int (0 : Int32))] [(.int (0 : Int32))]) _
      refine XS.iloadN X95.here hx rfl (hb hby at_114) rfl ?_
      show own_S p e below T95 (mkF m 115 #[.val (.int px), .val (.ref b2), .val (.int (8 : Int32)), .val (.int (0 : Int32))] [(.int (0 : Int32)), (.int (0 : Int32))]) _
      refine XS.icmpNo X95.here hx rfl (hb hby at_115) rfl (teq (by decide : (0 : Int32) = (0 : Int32))).2 ?_
      show own_S p e below T95 (mkF m 118 #[.val (.int px), .val (.ref b2), .val (.int (8 : Int32)), .val (.int (0 : Int32))] []) _
      refine XS.iconst X95.here hx rfl (hb hby at_118) ?_
      show own_S p e below T95 (mkF m 119 #[.val (.int px), .val (.ref b2), .val (.int (8 : Int32)), .val (.int (0 : Int32))] [(.int (1 : Int32))]) _
      refine XS.goto X95.here hx rfl (pc0 := 119) (pc' := 123) rfl (hb hby at_119) (by decide) (by decide) ?_
      exact kt
    obtain ⟨fs, hr, hrun, hended, hW, hsame⟩ := X95.leave (v := some (.int (1 : Int32))) (fun h => by rw [Bd.returns] at h; cases h)
    refine ⟨_, _, pre0 _ (r96 _ ?_), hrun, hended, _, _, rfl, ?_, ⟨_, rfl⟩, hW, hsame.mono (by decide) (by decide)⟩
    · exact retN X95 hx (t := .boolean) Bd.returns (by simp) (hb hby at_123) hr
    · show Q_law Z px s_LOCAL s_BYTE s_SHORT s_INT s_BRANCH s_WIDE_BRANCH s_CP_INDEX s_WIDE_CP_INDEX s_ARRAY_TYPE s_ARGUMENT_COUNT s_METHOD_TOKEN s_MN h0 n0 _ T95.heap _
      rw [e95]
      exact ⟨rfl, N95⟩
  · skip
    have r98 : own_R p e below _ _ T50 (mkF m 110 #[.val (.int px), .val (.ref b2), .val (.int (9 : Int32)), .val (.int (0 : Int32))] [(.int (9 : Int32)), (.ref b2)]) := r51.trans fun z_ kt => by
      show own_S p e below T50 (mkF m 92 #[.val (.int px), .val (.ref b2), .val (.int (9 : Int32)), .unset] []) _
      refine XS.iloadN X50.here hx rfl (hb hby at_92) rfl ?_
      show own_S p e below T50 (mkF m 93 #[.val (.int px), .val (.ref b2), .val (.int (9 : Int32)), .unset] [(.int (9 : Int32))]) _
      refine XS.iconst X50.here hx rfl (hb hby at_93) ?_
      show own_S p e below T50 (mkF m 94 #[.val (.int px), .val (.ref b2), .val (.int (9 : Int32)), .unset] [(.int (4 : Int32)), (.int (9 : Int32))]) _
      refine XS.icmpNo X50.here hx rfl (hb hby at_94) rfl (feq (by decide : ¬ ((9 : Int32) = (4 : Int32)))).1 ?_
      show own_S p e below T50 (mkF m 97 #[.val (.int px), .val (.ref b2), .val (.int (9 : Int32)), .unset] []) _
      refine XS.iloadN X50.here hx rfl (hb hby at_97) rfl ?_
      show own_S p e below T50 (mkF m 98 #[.val (.int px), .val (.ref b2), .val (.int (9 : Int32)), .unset] [(.int (9 : Int32))]) _
      refine XS.iconst X50.here hx rfl (hb hby at_98) ?_
      show own_S p e below T50 (mkF m 99 #[.val (.int px), .val (.ref b2), .val (.int (9 : Int32)), .unset] [(.int (5 : Int32)), (.int (9 : Int32))]) _
      refine XS.icmpYes X50.here hx rfl (pc0 := 99) (pc' := 106) rfl (hb hby at_99) rfl (feq (by decide : ¬ ((9 : Int32) = (5 : Int32)))).2 (by decide) (by decide) ?_
      show own_S p e below T50 (mkF m 106 #[.val (.int px), .val (.ref b2), .val (.int (9 : Int32)), .unset] []) _
      refine XS.iconst X50.here hx rfl (hb hby at_106) ?_
      show own_S p e below T50 (mkF m 107 #[.val (.int px), .val (.ref b2), .val (.int (9 : Int32)), .unset] [(.int (0 : Int32))]) _
      refine XS.istoreN X50.here hx rfl (hb hby at_107) rfl (l' := #[.val (.int px), .val (.ref b2), .val (.int (9 : Int32)), .val (.int (0 : Int32))]) rfl ?_
      show own_S p e below T50 (mkF m 108 #[.val (.int px), .val (.ref b2), .val (.int (9 : Int32)), .val (.int (0 : Int32))] []) _
      refine XS.aloadN X50.here hx rfl (hb hby at_108) rfl rfl ?_
      show own_S p e below T50 (mkF m 109 #[.val (.int px), .val (.ref b2), .val (.int (9 : Int32)), .val (.int (0 : Int32))] [(.ref b2)]) _
      refine XS.iloadN X50.here hx rfl (hb hby at_109) rfl ?_
      exact kt
    obtain ⟨cl97, Ar97, q97, S97, M97, H97, G97⟩ := V50
    have hin97 : ¬ ((9 : Int32) < 0 ∨ cl97.slots.size ≤ ((9 : Int32)).toNatClampNeg) := inb_of S97 ⟨by decide, by decide⟩
    have hat97 : cl97.slots[((9 : Int32)).toNatClampNeg]? = some (.ref s_ARGUMENT_COUNT) := Has.at H97 hin97 rfl
    have r99 : own_R p e below _ _ T50 (mkF m 111 #[.val (.int px), .val (.ref b2), .val (.int (9 : Int32)), .val (.int (0 : Int32))] [(.ref s_ARGUMENT_COUNT)]) := r98.trans fun z_ kt => by
      show own_S p e below T50 (mkF m 110 #[.val (.int px), .val (.ref b2), .val (.int (9 : Int32)), .val (.int (0 : Int32))] [(.int (9 : Int32)), (.ref b2)]) _
      refine X50.aaload hx (j := (9 : Int32)) (v := (.ref s_ARGUMENT_COUNT)) (by rw [e50]; exact Ar97.1) (State.isArrayOf_alike hZ.alike Ar97.2.1) rfl Ar97.2.2 hin97 hat97 (g := (mkF m 110 #[.val (.int px), .val (.ref b2), .val (.int (9 : Int32)), .val (.int (0 : Int32))] [(.int (9 : Int32)), (.ref b2)])) rfl rfl (hb hby at_110) _ ?_
      exact kt
    obtain ⟨cq100, kq100, q100a, q100b, q100c⟩ := isOf hZ e50 (OE_s_ARGUMENT_COUNT.ext O50.2)
    obtain ⟨_, _, ⟨T100, L100, cc100, n100⟩, -, X100, ⟨Lc100, hQ100, l100, y100, z100⟩, st100⟩ := X50.virtualBack hx (y := (⟨"com/example/capsmith/capsmith/model/OperandKind", "isBranch", "()Z"⟩ : MethodName)) (z := (⟨"com/example/capsmith/capsmith/model/OperandKind", "isBranch", "()Z"⟩ : MethodName)) hown (mvT hZ (hw _ (own_g (i := 29) rfl))) (mvT hZ (hw _ (own_g (i := 30) rfl))) (notFace_of_selects (args := #[]) (mvT hZ (hw _ (own_g (i := 32) rfl)))) (mvT hZ (hw _ (own_g (i := 32) rfl))) (mvT hZ (hw _ (own_g (i := 31) rfl))) (by decide) (backOf (W := 0) (rm_isB l Z a0 hw [] (s_ARGUMENT_COUNT) (s_BRANCH) (s_WIDE_BRANCH) ((0 : Int32)) h50 n0 O50 (S_OperandKind_BRANCH) (S_OperandKind_WIDE_BRANCH) (Or.inr (Or.inr ⟨(Fld.ne OF_s_ARGUMENT_COUNT_ordinal OF_s_BRANCH_ordinal (by decide)), (Fld.ne OF_s_ARGUMENT_COUNT_ordinal OF_s_WIDE_BRANCH_ordinal (by decide)), rfl⟩))) hZ (hw _ (own_g (i := 33) rfl)) (hw _ (own_g (i := 3) rfl)) (by decide) (by decide)) q100a q100c (g := (mkF m 111 #[.val (.int px), .val (.ref b2), .val (.int (9 : Int32)), .val (.int (0 : Int32))] [(.ref s_ARGUMENT_COUNT)])) rfl (by rw [hml]; rfl) (Steps.refl _) (argsL := []) (rest := []) (lenOf pd_0 rfl) rfl (by show 2 * 0 + _ ≤ _; exact Nat.le_of_eq rfl) (hb hby at_111) (fun _ _ => ⟨rfl, e50, (by decide : 1 + 0 ≤ _), (by decide : 12 + 0 ≤ _)⟩)
    dsimp only [Pt.U, Pt.locs, Pt.cells, Pt.slots] at X100 l100 y100 z100 st100 hQ100
    subst l100 y100 z100
    obtain ⟨rfl, Nq100, eq100⟩ := hQ100
    have N100 := Fr.app N50 Nq100
    have r100 : own_R p e below _ _ T100 (mkF m 114 #[.val (.int px), .val (.ref b2), .val (.int (9 : Int32)), .val (.int (0 : Int32))] [(.int (0 : Int32))]) := r99.trans fun z_ kt => st100.trans kt
    have e100 : T100.heap = h50 := eq100
    have r101 : own_R p e below _ _ T100 (mkF m 123 #[.val (.int px), .val (.ref b2), .val (.int (9 : Int32)), .val (.int (0 : Int32))] [(.int (1 : Int32))]) := r100.trans fun z_ kt => by
      show own_S p e below T100 (mkF m 114 #[.val (.int px), .val (.ref b2), .val (.int (9 : Int32)), .val (.int (0 : Int32))] [(.int (0 : Int32))]) _
      refine XS.iloadN X100.here hx rfl (hb hby at_114) rfl ?_
      show own_S p e below T100 (mkF m 115 #[.val (.int px), .val (.ref b2), .val (.int (9 : Int32)), .val (.int (0 : Int32))] [(.int (0 : Int32)), (.int (0 : Int32))]) _
      refine XS.icmpNo X100.here hx rfl (hb hby at_115) rfl (teq (by decide : (0 : Int32) = (0 : Int32))).2 ?_
      show own_S p e below T100 (mkF m 118 #[.val (.int px), .val (.ref b2), .val (.int (9 : Int32)), .val (.int (0 : Int32))] []) _
      refine XS.iconst X100.here hx rfl (hb hby at_118) ?_
      show own_S p e below T100 (mkF m 119 #[.val (.int px), .val (.ref b2), .val (.int (9 : Int32)), .val (.int (0 : Int32))] [(.int (1 : Int32))]) _
      refine XS.goto X100.here hx rfl (pc0 := 119) (pc' := 123) rfl (hb hby at_119) (by decide) (by decide) ?_
      exact kt
    obtain ⟨fs, hr, hrun, hended, hW, hsame⟩ := X100.leave (v := some (.int (1 : Int32))) (fun h => by rw [Bd.returns] at h; cases h)
    refine ⟨_, _, pre0 _ (r101 _ ?_), hrun, hended, _, _, rfl, ?_, ⟨_, rfl⟩, hW, hsame.mono (by decide) (by decide)⟩
    · exact retN X100 hx (t := .boolean) Bd.returns (by simp) (hb hby at_123) hr
    · show Q_law Z px s_LOCAL s_BYTE s_SHORT s_INT s_BRANCH s_WIDE_BRANCH s_CP_INDEX s_WIDE_CP_INDEX s_ARRAY_TYPE s_ARGUMENT_COUNT s_METHOD_TOKEN s_MN h0 n0 _ T100.heap _
      rw [e100]
      exact ⟨rfl, N100⟩
  · skip
    have r103 : own_R p e below _ _ T50 (mkF m 110 #[.val (.int px), .val (.ref b2), .val (.int (10 : Int32)), .val (.int (0 : Int32))] [(.int (10 : Int32)), (.ref b2)]) := r51.trans fun z_ kt => by
      show own_S p e below T50 (mkF m 92 #[.val (.int px), .val (.ref b2), .val (.int (10 : Int32)), .unset] []) _
      refine XS.iloadN X50.here hx rfl (hb hby at_92) rfl ?_
      show own_S p e below T50 (mkF m 93 #[.val (.int px), .val (.ref b2), .val (.int (10 : Int32)), .unset] [(.int (10 : Int32))]) _
      refine XS.iconst X50.here hx rfl (hb hby at_93) ?_
      show own_S p e below T50 (mkF m 94 #[.val (.int px), .val (.ref b2), .val (.int (10 : Int32)), .unset] [(.int (4 : Int32)), (.int (10 : Int32))]) _
      refine XS.icmpNo X50.here hx rfl (hb hby at_94) rfl (feq (by decide : ¬ ((10 : Int32) = (4 : Int32)))).1 ?_
      show own_S p e below T50 (mkF m 97 #[.val (.int px), .val (.ref b2), .val (.int (10 : Int32)), .unset] []) _
      refine XS.iloadN X50.here hx rfl (hb hby at_97) rfl ?_
      show own_S p e below T50 (mkF m 98 #[.val (.int px), .val (.ref b2), .val (.int (10 : Int32)), .unset] [(.int (10 : Int32))]) _
      refine XS.iconst X50.here hx rfl (hb hby at_98) ?_
      show own_S p e below T50 (mkF m 99 #[.val (.int px), .val (.ref b2), .val (.int (10 : Int32)), .unset] [(.int (5 : Int32)), (.int (10 : Int32))]) _
      refine XS.icmpYes X50.here hx rfl (pc0 := 99) (pc' := 106) rfl (hb hby at_99) rfl (feq (by decide : ¬ ((10 : Int32) = (5 : Int32)))).2 (by decide) (by decide) ?_
      show own_S p e below T50 (mkF m 106 #[.val (.int px), .val (.ref b2), .val (.int (10 : Int32)), .unset] []) _
      refine XS.iconst X50.here hx rfl (hb hby at_106) ?_
      show own_S p e below T50 (mkF m 107 #[.val (.int px), .val (.ref b2), .val (.int (10 : Int32)), .unset] [(.int (0 : Int32))]) _
      refine XS.istoreN X50.here hx rfl (hb hby at_107) rfl (l' := #[.val (.int px), .val (.ref b2), .val (.int (10 : Int32)), .val (.int (0 : Int32))]) rfl ?_
      show own_S p e below T50 (mkF m 108 #[.val (.int px), .val (.ref b2), .val (.int (10 : Int32)), .val (.int (0 : Int32))] []) _
      refine XS.aloadN X50.here hx rfl (hb hby at_108) rfl rfl ?_
      show own_S p e below T50 (mkF m 109 #[.val (.int px), .val (.ref b2), .val (.int (10 : Int32)), .val (.int (0 : Int32))] [(.ref b2)]) _
      refine XS.iloadN X50.here hx rfl (hb hby at_109) rfl ?_
      exact kt
    obtain ⟨cl102, Ar102, q102, S102, M102, H102, G102⟩ := V50
    have hin102 : ¬ ((10 : Int32) < 0 ∨ cl102.slots.size ≤ ((10 : Int32)).toNatClampNeg) := inb_of S102 ⟨by decide, by decide⟩
    have hat102 : cl102.slots[((10 : Int32)).toNatClampNeg]? = some (.ref s_METHOD_TOKEN) := Has.at H102 hin102 rfl
    have r104 : own_R p e below _ _ T50 (mkF m 111 #[.val (.int px), .val (.ref b2), .val (.int (10 : Int32)), .val (.int (0 : Int32))] [(.ref s_METHOD_TOKEN)]) := r103.trans fun z_ kt => by
      show own_S p e below T50 (mkF m 110 #[.val (.int px), .val (.ref b2), .val (.int (10 : Int32)), .val (.int (0 : Int32))] [(.int (10 : Int32)), (.ref b2)]) _
      refine X50.aaload hx (j := (10 : Int32)) (v := (.ref s_METHOD_TOKEN)) (by rw [e50]; exact Ar102.1) (State.isArrayOf_alike hZ.alike Ar102.2.1) rfl Ar102.2.2 hin102 hat102 (g := (mkF m 110 #[.val (.int px), .val (.ref b2), .val (.int (10 : Int32)), .val (.int (0 : Int32))] [(.int (10 : Int32)), (.ref b2)])) rfl rfl (hb hby at_110) _ ?_
      exact kt
    obtain ⟨cq105, kq105, q105a, q105b, q105c⟩ := isOf hZ e50 (OE_s_METHOD_TOKEN.ext O50.2)
    obtain ⟨_, _, ⟨T105, L105, cc105, n105⟩, -, X105, ⟨Lc105, hQ105, l105, y105, z105⟩, st105⟩ := X50.virtualBack hx (y := (⟨"com/example/capsmith/capsmith/model/OperandKind", "isBranch", "()Z"⟩ : MethodName)) (z := (⟨"com/example/capsmith/capsmith/model/OperandKind", "isBranch", "()Z"⟩ : MethodName)) hown (mvT hZ (hw _ (own_g (i := 29) rfl))) (mvT hZ (hw _ (own_g (i := 30) rfl))) (notFace_of_selects (args := #[]) (mvT hZ (hw _ (own_g (i := 32) rfl)))) (mvT hZ (hw _ (own_g (i := 32) rfl))) (mvT hZ (hw _ (own_g (i := 31) rfl))) (by decide) (backOf (W := 0) (rm_isB l Z a0 hw [] (s_METHOD_TOKEN) (s_BRANCH) (s_WIDE_BRANCH) ((0 : Int32)) h50 n0 O50 (S_OperandKind_BRANCH) (S_OperandKind_WIDE_BRANCH) (Or.inr (Or.inr ⟨(Fld.ne OF_s_METHOD_TOKEN_ordinal OF_s_BRANCH_ordinal (by decide)), (Fld.ne OF_s_METHOD_TOKEN_ordinal OF_s_WIDE_BRANCH_ordinal (by decide)), rfl⟩))) hZ (hw _ (own_g (i := 33) rfl)) (hw _ (own_g (i := 3) rfl)) (by decide) (by decide)) q105a q105c (g := (mkF m 111 #[.val (.int px), .val (.ref b2), .val (.int (10 : Int32)), .val (.int (0 : Int32))] [(.ref s_METHOD_TOKEN)])) rfl (by rw [hml]; rfl) (Steps.refl _) (argsL := []) (rest := []) (lenOf pd_0 rfl) rfl (by show 2 * 0 + _ ≤ _; exact Nat.le_of_eq rfl) (hb hby at_111) (fun _ _ => ⟨rfl, e50, (by decide : 1 + 0 ≤ _), (by decide : 12 + 0 ≤ _)⟩)
    dsimp only [Pt.U, Pt.locs, Pt.cells, Pt.slots] at X105 l105 y105 z105 st105 hQ105
    subst l105 y105 z105
    obtain ⟨rfl, Nq105, eq105⟩ := hQ105
    have N105 := Fr.app N50 Nq105
    have r105 : own_R p e below _ _ T105 (mkF m 114 #[.val (.int px), .val (.ref b2), .val (.int (10 : Int32)), .val (.int (0 : Int32))] [(.int (0 : Int32))]) := r104.trans fun z_ kt => st105.trans kt
    have e105 : T105.heap = h50 := eq105
    have r106 : own_R p e below _ _ T105 (mkF m 123 #[.val (.int px), .val (.ref b2), .val (.int (10 : Int32)), .val (.int (0 : Int32))] [(.int (1 : Int32))]) := r105.trans fun z_ kt => by
      show own_S p e below T105 (mkF m 114 #[.val (.int px), .val (.ref b2), .val (.int (10 : Int32)), .val (.int (0 : Int32))] [(.int (0 : Int32))]) _
      refine XS.iloadN X105.here hx rfl (hb hby at_114) rfl ?_
      show own_S p e below T105 (mkF m 115 #[.val (.int px), .val (.ref b2), .val (.int (10 : Int32)), .val (.int (0 : Int32))] [(.int (0 : Int32)), (.int (0 : Int32))]) _
      refine XS.icmpNo X105.here hx rfl (hb hby at_115) rfl (teq (by decide : (0 : Int32) = (0 : Int32))).2 ?_
      show own_S p e below T105 (mkF m 118 #[.val (.int px), .val (.ref b2), .val (.int (10 : Int32)), .val (.int (0 : Int32))] []) _
      refine XS.iconst X105.here hx rfl (hb hby at_118) ?_
      show own_S p e below T105 (mkF m 119 #[.val (.int px), .val (.ref b2), .val (.int (10 : Int32)), .val (.int (0 : Int32))] [(.int (1 : Int32))]) _
      refine XS.goto X105.here hx rfl (pc0 := 119) (pc' := 123) rfl (hb hby at_119) (by decide) (by decide) ?_
      exact kt
    obtain ⟨fs, hr, hrun, hended, hW, hsame⟩ := X105.leave (v := some (.int (1 : Int32))) (fun h => by rw [Bd.returns] at h; cases h)
    refine ⟨_, _, pre0 _ (r106 _ ?_), hrun, hended, _, _, rfl, ?_, ⟨_, rfl⟩, hW, hsame.mono (by decide) (by decide)⟩
    · exact retN X105 hx (t := .boolean) Bd.returns (by simp) (hb hby at_123) hr
    · show Q_law Z px s_LOCAL s_BYTE s_SHORT s_INT s_BRANCH s_WIDE_BRANCH s_CP_INDEX s_WIDE_CP_INDEX s_ARRAY_TYPE s_ARGUMENT_COUNT s_METHOD_TOKEN s_MN h0 n0 _ T105.heap _
      rw [e105]
      exact ⟨rfl, N105⟩
  · skip
    have r108 : own_R p e below _ _ T50 (mkF m 110 #[.val (.int px), .val (.ref b2), .val (.int (11 : Int32)), .val (.int (0 : Int32))] [(.int (11 : Int32)), (.ref b2)]) := r51.trans fun z_ kt => by
      show own_S p e below T50 (mkF m 92 #[.val (.int px), .val (.ref b2), .val (.int (11 : Int32)), .unset] []) _
      refine XS.iloadN X50.here hx rfl (hb hby at_92) rfl ?_
      show own_S p e below T50 (mkF m 93 #[.val (.int px), .val (.ref b2), .val (.int (11 : Int32)), .unset] [(.int (11 : Int32))]) _
      refine XS.iconst X50.here hx rfl (hb hby at_93) ?_
      show own_S p e below T50 (mkF m 94 #[.val (.int px), .val (.ref b2), .val (.int (11 : Int32)), .unset] [(.int (4 : Int32)), (.int (11 : Int32))]) _
      refine XS.icmpNo X50.here hx rfl (hb hby at_94) rfl (feq (by decide : ¬ ((11 : Int32) = (4 : Int32)))).1 ?_
      show own_S p e below T50 (mkF m 97 #[.val (.int px), .val (.ref b2), .val (.int (11 : Int32)), .unset] []) _
      refine XS.iloadN X50.here hx rfl (hb hby at_97) rfl ?_
      show own_S p e below T50 (mkF m 98 #[.val (.int px), .val (.ref b2), .val (.int (11 : Int32)), .unset] [(.int (11 : Int32))]) _
      refine XS.iconst X50.here hx rfl (hb hby at_98) ?_
      show own_S p e below T50 (mkF m 99 #[.val (.int px), .val (.ref b2), .val (.int (11 : Int32)), .unset] [(.int (5 : Int32)), (.int (11 : Int32))]) _
      refine XS.icmpYes X50.here hx rfl (pc0 := 99) (pc' := 106) rfl (hb hby at_99) rfl (feq (by decide : ¬ ((11 : Int32) = (5 : Int32)))).2 (by decide) (by decide) ?_
      show own_S p e below T50 (mkF m 106 #[.val (.int px), .val (.ref b2), .val (.int (11 : Int32)), .unset] []) _
      refine XS.iconst X50.here hx rfl (hb hby at_106) ?_
      show own_S p e below T50 (mkF m 107 #[.val (.int px), .val (.ref b2), .val (.int (11 : Int32)), .unset] [(.int (0 : Int32))]) _
      refine XS.istoreN X50.here hx rfl (hb hby at_107) rfl (l' := #[.val (.int px), .val (.ref b2), .val (.int (11 : Int32)), .val (.int (0 : Int32))]) rfl ?_
      show own_S p e below T50 (mkF m 108 #[.val (.int px), .val (.ref b2), .val (.int (11 : Int32)), .val (.int (0 : Int32))] []) _
      refine XS.aloadN X50.here hx rfl (hb hby at_108) rfl rfl ?_
      show own_S p e below T50 (mkF m 109 #[.val (.int px), .val (.ref b2), .val (.int (11 : Int32)), .val (.int (0 : Int32))] [(.ref b2)]) _
      refine XS.iloadN X50.here hx rfl (hb hby at_109) rfl ?_
      exact kt
    obtain ⟨cl107, Ar107, q107, S107, M107, H107, G107⟩ := V50
    have hin107 : ¬ ((11 : Int32) < 0 ∨ cl107.slots.size ≤ ((11 : Int32)).toNatClampNeg) := inb_of S107 ⟨by decide, by decide⟩
    have hat107 : cl107.slots[((11 : Int32)).toNatClampNeg]? = some (.ref s_MN) := Has.at H107 hin107 rfl
    have r109 : own_R p e below _ _ T50 (mkF m 111 #[.val (.int px), .val (.ref b2), .val (.int (11 : Int32)), .val (.int (0 : Int32))] [(.ref s_MN)]) := r108.trans fun z_ kt => by
      show own_S p e below T50 (mkF m 110 #[.val (.int px), .val (.ref b2), .val (.int (11 : Int32)), .val (.int (0 : Int32))] [(.int (11 : Int32)), (.ref b2)]) _
      refine X50.aaload hx (j := (11 : Int32)) (v := (.ref s_MN)) (by rw [e50]; exact Ar107.1) (State.isArrayOf_alike hZ.alike Ar107.2.1) rfl Ar107.2.2 hin107 hat107 (g := (mkF m 110 #[.val (.int px), .val (.ref b2), .val (.int (11 : Int32)), .val (.int (0 : Int32))] [(.int (11 : Int32)), (.ref b2)])) rfl rfl (hb hby at_110) _ ?_
      exact kt
    obtain ⟨cq110, kq110, q110a, q110b, q110c⟩ := isOf hZ e50 (OE_s_MN.ext O50.2)
    obtain ⟨_, _, ⟨T110, L110, cc110, n110⟩, -, X110, ⟨Lc110, hQ110, l110, y110, z110⟩, st110⟩ := X50.virtualBack hx (y := (⟨"com/example/capsmith/capsmith/model/OperandKind", "isBranch", "()Z"⟩ : MethodName)) (z := (⟨"com/example/capsmith/capsmith/model/OperandKind", "isBranch", "()Z"⟩ : MethodName)) hown (mvT hZ (hw _ (own_g (i := 29) rfl))) (mvT hZ (hw _ (own_g (i := 30) rfl))) (notFace_of_selects (args := #[]) (mvT hZ (hw _ (own_g (i := 32) rfl)))) (mvT hZ (hw _ (own_g (i := 32) rfl))) (mvT hZ (hw _ (own_g (i := 31) rfl))) (by decide) (backOf (W := 0) (rm_isB l Z a0 hw [] (s_MN) (s_BRANCH) (s_WIDE_BRANCH) ((0 : Int32)) h50 n0 O50 (S_OperandKind_BRANCH) (S_OperandKind_WIDE_BRANCH) (Or.inr (Or.inr ⟨(Fld.ne OF_s_MN_ordinal OF_s_BRANCH_ordinal (by decide)), (Fld.ne OF_s_MN_ordinal OF_s_WIDE_BRANCH_ordinal (by decide)), rfl⟩))) hZ (hw _ (own_g (i := 33) rfl)) (hw _ (own_g (i := 3) rfl)) (by decide) (by decide)) q110a q110c (g := (mkF m 111 #[.val (.int px), .val (.ref b2), .val (.int (11 : Int32)), .val (.int (0 : Int32))] [(.ref s_MN)])) rfl (by rw [hml]; rfl) (Steps.refl _) (argsL := []) (rest := []) (lenOf pd_0 rfl) rfl (by show 2 * 0 + _ ≤ _; exact Nat.le_of_eq rfl) (hb hby at_111) (fun _ _ => ⟨rfl, e50, (by decide : 1 + 0 ≤ _), (by decide : 12 + 0 ≤ _)⟩)
    dsimp only [Pt.U, Pt.locs, Pt.cells, Pt.slots] at X110 l110 y110 z110 st110 hQ110
    subst l110 y110 z110
    obtain ⟨rfl, Nq110, eq110⟩ := hQ110
    have N110 := Fr.app N50 Nq110
    have r110 : own_R p e below _ _ T110 (mkF m 114 #[.val (.int px), .val (.ref b2), .val (.int (11 : Int32)), .val (.int (0 : Int32))] [(.int (0 : Int32))]) := r109.trans fun z_ kt => st110.trans kt
    have e110 : T110.heap = h50 := eq110
    have r111 : own_R p e below _ _ T110 (mkF m 123 #[.val (.int px), .val (.ref b2), .val (.int (11 : Int32)), .val (.int (0 : Int32))] [(.int (1 : Int32))]) := r110.trans fun z_ kt => by
      show own_S p e below T110 (mkF m 114 #[.val (.int px), .val (.ref b2), .val (.int (11 : Int32)), .val (.int (0 : Int32))] [(.int (0 : Int32))]) _
      refine XS.iloadN X110.here hx rfl (hb hby at_114) rfl ?_
      show own_S p e below T110 (mkF m 115 #[.val (.int px), .val (.ref b2), .val (.int (11 : Int32)), .val (.int (0 : Int32))] [(.int (0 : Int32)), (.int (0 : Int32))]) _
      refine XS.icmpNo X110.here hx rfl (hb hby at_115) rfl (teq (by decide : (0 : Int32) = (0 : Int32))).2 ?_
      show own_S p e below T110 (mkF m 118 #[.val (.int px), .val (.ref b2), .val (.int (11 : Int32)), .val (.int (0 : Int32))] []) _
      refine XS.iconst X110.here hx rfl (hb hby at_118) ?_
      show own_S p e below T110 (mkF m 119 #[.val (.int px), .val (.ref b2), .val (.int (11 : Int32)), .val (.int (0 : Int32))] [(.int (1 : Int32))]) _
      refine XS.goto X110.here hx rfl (pc0 := 119) (pc' := 123) rfl (hb hby at_119) (by decide) (by decide) ?_
      exact kt
    obtain ⟨fs, hr, hrun, hended, hW, hsame⟩ := X110.leave (v := some (.int (1 : Int32))) (fun h => by rw [Bd.returns] at h; cases h)
    refine ⟨_, _, pre0 _ (r111 _ ?_), hrun, hended, _, _, rfl, ?_, ⟨_, rfl⟩, hW, hsame.mono (by decide) (by decide)⟩
    · exact retN X110 hx (t := .boolean) Bd.returns (by simp) (hb hby at_123) hr
    · show Q_law Z px s_LOCAL s_BYTE s_SHORT s_INT s_BRANCH s_WIDE_BRANCH s_CP_INDEX s_WIDE_CP_INDEX s_ARRAY_TYPE s_ARGUMENT_COUNT s_METHOD_TOKEN s_MN h0 n0 _ T110.heap _
      rw [e110]
      exact ⟨rfl, N110⟩

set_option maxRecDepth 65536 in
set_option maxHeartbeats 40000000 in
theorem comes_1 {Post : Tables → Env → Array Value → State → Outcome → State → Prop} (hpost : ∀ tb e args s v u, (limb_1_1.after args s (.returned v) u = true ∧ limb_1_2.after args s (.returned v) u = true ∧ True) → FrameEnd s (.returned v) u (Jvm.fieldLocs frame_1_writes args s ++ Jvm.arrayLocs frame_1_arrays args s ++ Jvm.staticLocs frame_1_statics s) 16 128 → Post tb e args s (.returned v) u) :
    ArmFor flags0 classFile x code maxLocals ret World_1 tables_1 room_1 Calls_1 rest_1 Pre_1 Post := by
  intro l hfl _ _ p e ha hc hk s m args below hf hA hF happ hP
  obtain ⟨hcalls, hrest, hpre⟩ := hP
  obtain ⟨-, -, -, hnamed, -, -, -, hat⟩ := (Spec.applies_iff hf).mp happ
  obtain ⟨hg, hn⟩ := and_e (Cond.before_iff.mp (show (Jvm.Cond.and given_1 narrow_1).before args s = true from hpre))
  obtain ⟨u1a, u1b⟩ := and_e hg
  obtain ⟨w0, rfl⟩ : ∃ w0 : Value, args = #[w0] := by
    have hs : args.size = 1 := by simpa [Cond.value, given_1] using u1a
    obtain ⟨L⟩ := args
    match L, hs with
    | [w0], _ => exact ⟨w0, rfl⟩
  have hw := fun d (hd : d ∈ tables_1) => atoms_spec (ws := Jvm.Cond.code x code maxLocals ret :: tables_1) hat d (List.mem_cons_of_mem _ hd)
  have hfit : Fit s := fun {y c} hc i hi => by
    obtain ⟨ha, rfl⟩ := Array.getElem?_eq_some_iff.mp hc
    have q := List.all_eq_true.mp ((Array.all_eq_true_iff_forall_mem.mp hF) _ (Array.getElem_mem ha)) i (List.mem_range.mpr hi)
    simpa [Array.getElem?_eq_getElem hi] using q
  obtain ⟨i0, ei0⟩ := is_v u1b
  obtain rfl : w0 = (.int i0) := Option.some.inj ei0
  obtain ⟨u2a, u2b⟩ := and_e hn
  obtain ⟨u3a, u3b⟩ := and_e u2b
  obtain ⟨u4a, u4b⟩ := and_e u3b
  obtain ⟨u5a, u5b⟩ := and_e u4b
  obtain ⟨u6a, u6b⟩ := and_e u5b
  obtain ⟨u7a, u7b⟩ := and_e u6b
  obtain ⟨u8a, u8b⟩ := and_e u7b
  obtain ⟨u9a, u9b⟩ := and_e u8b
  obtain ⟨u10a, u10b⟩ := and_e u9b
  obtain ⟨u11a, u11b⟩ := and_e u10b
  obtain ⟨u12a, u12b⟩ := and_e u11b
  obtain ⟨u13a, u13b⟩ := and_e u12b
  obtain ⟨u14a, u14b⟩ := and_e u13b
  obtain ⟨u15a, u15b⟩ := and_e u14b
  obtain ⟨u16a, u16b⟩ := and_e u15b
  obtain ⟨u17a, u17b⟩ := and_e u16b
  obtain ⟨u18a, u18b⟩ := and_e u17b
  obtain ⟨u19a, u19b⟩ := and_e u18b
  obtain ⟨u20a, u20b⟩ := and_e u19b
  obtain ⟨u21a, u21b⟩ := and_e u20b
  obtain ⟨u22a, u22b⟩ := and_e u21b
  obtain ⟨u23a, u23b⟩ := and_e u22b
  obtain ⟨u24a, u24b⟩ := and_e u23b
  obtain ⟨s_LOCAL, ev_s_LOCAL⟩ := exa_v u2a
  have OE_s_LOCAL := Exa.start ev_s_LOCAL u2a
  have S_s_LOCAL := Sta.start ev_s_LOCAL (Or.inr ⟨(hw _ (own_g (i := 3) rfl)), (hw _ (own_g (i := 4) rfl))⟩)
  obtain ⟨s_BYTE, ev_s_BYTE⟩ := exa_v u3a
  have OE_s_BYTE := Exa.start ev_s_BYTE u3a
  have S_s_BYTE := Sta.start ev_s_BYTE (Or.inr ⟨(hw _ (own_g (i := 3) rfl)), (hw _ (own_g (i := 7) rfl))⟩)
  obtain ⟨s_SHORT, ev_s_SHORT⟩ := exa_v u4a
  have OE_s_SHORT := Exa.start ev_s_SHORT u4a
  have S_s_SHORT := Sta.start ev_s_SHORT (Or.inr ⟨(hw _ (own_g (i := 3) rfl)), (hw _ (own_g (i := 9) rfl))⟩)
  obtain ⟨s_INT, ev_s_INT⟩ := exa_v u5a
  have OE_s_INT := Exa.start ev_s_INT u5a
  have S_s_INT := Sta.start ev_s_INT (Or.inr ⟨(hw _ (own_g (i := 3) rfl)), (hw _ (own_g (i := 11) rfl))⟩)
  obtain ⟨s_BRANCH, ev_s_BRANCH⟩ := exa_v u6a
  have OE_s_BRANCH := Exa.start ev_s_BRANCH u6a
  have S_s_BRANCH := Sta.start ev_s_BRANCH (Or.inr ⟨(hw _ (own_g (i := 3) rfl)), (hw _ (own_g (i := 13) rfl))⟩)
  obtain ⟨s_WIDE_BRANCH, ev_s_WIDE_BRANCH⟩ := exa_v u7a
  have OE_s_WIDE_BRANCH := Exa.start ev_s_WIDE_BRANCH u7a
  have S_s_WIDE_BRANCH := Sta.start ev_s_WIDE_BRANCH (Or.inr ⟨(hw _ (own_g (i := 3) rfl)), (hw _ (own_g (i := 15) rfl))⟩)
  obtain ⟨s_CP_INDEX, ev_s_CP_INDEX⟩ := exa_v u8a
  have OE_s_CP_INDEX := Exa.start ev_s_CP_INDEX u8a
  have S_s_CP_INDEX := Sta.start ev_s_CP_INDEX (Or.inr ⟨(hw _ (own_g (i := 3) rfl)), (hw _ (own_g (i := 17) rfl))⟩)
  obtain ⟨s_WIDE_CP_INDEX, ev_s_WIDE_CP_INDEX⟩ := exa_v u9a
  have OE_s_WIDE_CP_INDEX := Exa.start ev_s_WIDE_CP_INDEX u9a
  have S_s_WIDE_CP_INDEX := Sta.start ev_s_WIDE_CP_INDEX (Or.inr ⟨(hw _ (own_g (i := 3) rfl)), (hw _ (own_g (i := 19) rfl))⟩)
  obtain ⟨s_ARRAY_TYPE, ev_s_ARRAY_TYPE⟩ := exa_v u10a
  have OE_s_ARRAY_TYPE := Exa.start ev_s_ARRAY_TYPE u10a
  have S_s_ARRAY_TYPE := Sta.start ev_s_ARRAY_TYPE (Or.inr ⟨(hw _ (own_g (i := 3) rfl)), (hw _ (own_g (i := 21) rfl))⟩)
  obtain ⟨s_ARGUMENT_COUNT, ev_s_ARGUMENT_COUNT⟩ := exa_v u11a
  have OE_s_ARGUMENT_COUNT := Exa.start ev_s_ARGUMENT_COUNT u11a
  have S_s_ARGUMENT_COUNT := Sta.start ev_s_ARGUMENT_COUNT (Or.inr ⟨(hw _ (own_g (i := 3) rfl)), (hw _ (own_g (i := 23) rfl))⟩)
  obtain ⟨s_METHOD_TOKEN, ev_s_METHOD_TOKEN⟩ := exa_v u12a
  have OE_s_METHOD_TOKEN := Exa.start ev_s_METHOD_TOKEN u12a
  have S_s_METHOD_TOKEN := Sta.start ev_s_METHOD_TOKEN (Or.inr ⟨(hw _ (own_g (i := 3) rfl)), (hw _ (own_g (i := 25) rfl))⟩)
  obtain ⟨s_MN, ev_s_MN⟩ := exa_v u13a
  have OE_s_MN := Exa.start ev_s_MN u13a
  have S_s_MN := Sta.start ev_s_MN (Or.inr ⟨(hw _ (own_g (i := 3) rfl)), (hw _ (own_g (i := 27) rfl))⟩)
  have OF_s_LOCAL_ordinal : Fld s s.heap s_LOCAL "java/lang/Enum" "ordinal" "I" (.int (0 : Int32)) := own_eq_fld ev_s_LOCAL u14a
  have OF_s_BRANCH_ordinal : Fld s s.heap s_BRANCH "java/lang/Enum" "ordinal" "I" (.int (4 : Int32)) := own_eq_fld ev_s_BRANCH u15a
  have OF_s_WIDE_BRANCH_ordinal : Fld s s.heap s_WIDE_BRANCH "java/lang/Enum" "ordinal" "I" (.int (5 : Int32)) := own_eq_fld ev_s_WIDE_BRANCH u16a
  have OF_s_INT_ordinal : Fld s s.heap s_INT "java/lang/Enum" "ordinal" "I" (.int (3 : Int32)) := own_eq_fld ev_s_INT u17a
  have OF_s_SHORT_ordinal : Fld s s.heap s_SHORT "java/lang/Enum" "ordinal" "I" (.int (2 : Int32)) := own_eq_fld ev_s_SHORT u18a
  have OF_s_WIDE_CP_INDEX_ordinal : Fld s s.heap s_WIDE_CP_INDEX "java/lang/Enum" "ordinal" "I" (.int (7 : Int32)) := own_eq_fld ev_s_WIDE_CP_INDEX u19a
  have OF_s_MN_ordinal : Fld s s.heap s_MN "java/lang/Enum" "ordinal" "I" (.int (11 : Int32)) := own_eq_fld ev_s_MN u20a
  have OF_s_ARRAY_TYPE_ordinal : Fld s s.heap s_ARRAY_TYPE "java/lang/Enum" "ordinal" "I" (.int (8 : Int32)) := own_eq_fld ev_s_ARRAY_TYPE u21a
  have OF_s_BYTE_ordinal : Fld s s.heap s_BYTE "java/lang/Enum" "ordinal" "I" (.int (1 : Int32)) := own_eq_fld ev_s_BYTE u22a
  have OF_s_METHOD_TOKEN_ordinal : Fld s s.heap s_METHOD_TOKEN "java/lang/Enum" "ordinal" "I" (.int (10 : Int32)) := own_eq_fld ev_s_METHOD_TOKEN u23a
  have OF_s_ARGUMENT_COUNT_ordinal : Fld s s.heap s_ARGUMENT_COUNT "java/lang/Enum" "ordinal" "I" (.int (9 : Int32)) := own_eq_fld ev_s_ARGUMENT_COUNT u24a
  have OF_s_CP_INDEX_ordinal : Fld s s.heap s_CP_INDEX "java/lang/Enum" "ordinal" "I" (.int (6 : Int32)) := own_eq_fld ev_s_CP_INDEX u24b
  obtain ⟨n, o, h1, h2, h3, _, L, rfl, ⟨rfl, N⟩, hq⟩ := rm_law l s _ hw tables_1 i0 s_LOCAL s_BYTE s_SHORT s_INT s_BRANCH s_WIDE_BRANCH s_CP_INDEX s_WIDE_CP_INDEX s_ARRAY_TYPE s_ARGUMENT_COUNT s_METHOD_TOKEN s_MN s.heap s.heap.size (Old.start s) (S_s_LOCAL) (S_s_BYTE) (S_s_SHORT) (S_s_INT) (S_s_BRANCH) (S_s_WIDE_BRANCH) (S_s_CP_INDEX) (S_s_WIDE_CP_INDEX) (S_s_ARRAY_TYPE) (S_s_ARGUMENT_COUNT) (S_s_METHOD_TOKEN) (S_s_MN) (OE_s_LOCAL) (OE_s_BYTE) (OE_s_SHORT) (OE_s_INT) (OE_s_BRANCH) (OE_s_WIDE_BRANCH) (OE_s_CP_INDEX) (OE_s_WIDE_CP_INDEX) (OE_s_ARRAY_TYPE) (OE_s_ARGUMENT_COUNT) (OE_s_METHOD_TOKEN) (OE_s_MN) (OF_s_LOCAL_ordinal) (OF_s_BYTE_ordinal) (OF_s_SHORT_ordinal) (OF_s_INT_ordinal) (OF_s_BRANCH_ordinal) (OF_s_WIDE_BRANCH_ordinal) (OF_s_CP_INDEX_ordinal) (OF_s_WIDE_CP_INDEX_ordinal) (OF_s_ARRAY_TYPE_ordinal) (OF_s_ARGUMENT_COUNT_ordinal) (OF_s_METHOD_TOKEN_ordinal) (OF_s_MN_ordinal) p e ha hc hk s m _ below hf ((Spec.applies_iff_loose hf).mp happ).1 ⟨rfl, State.Warmed39.refl s, rfl⟩ trivial
  refine ⟨n, _, h1, h2, h3, hpost _ _ _ _ _ _ ⟨Cond.after_iff.mpr rfl, Cond.after_iff.mpr (eq_i res_at (Term.int_eval (1)) rfl), trivial⟩ ⟨hq.1, hq.2.1, (hq.2.2.sift fun y hy => Or.inr (N y hy)).mono (by decide) (by decide)⟩⟩
theorem main_1_1 : Claimed_1_1 := comes_1 fun _ _ _ _ _ _ h hF => ⟨h.1, hF⟩
theorem main_1_2 : Claimed_1_2 := comes_1 fun _ _ _ _ _ _ h hF => ⟨h.2.1, hF⟩

end Jvm.Pilot.@@N@@
namespace Jvm.Pilot.@@N@@
open Jvm Jvm.ClassFile Sem Op Lib Jvm.Free Jvm.Stand Jvm.Pilot.@@N@@.Jvm.D
/-! MADE BY PROGRAM (witnessworld.py) out of the Statement's table words and the real class files: 13 classes; the members and pool entries that the words name. The judged class is class 1, her method 1. -/
namespace start1
open Jvm.ClassFile
def u (s : String) : CpInfo := .utf8 (stringToUtf16 s)
/-- a pool by its gaps: so many unusable entries, then the entry; so many at the end -/
def gap : Nat → List CpInfo → List CpInfo
  | 0, r => r
  | n + 1, r => .unusable :: gap n r
def poolList (es : List (Nat × CpInfo)) (last : Nat) : List CpInfo := es.foldr (fun e r => gap e.1 (e.2 :: r)) (gap last [])
def pool (es : List (Nat × CpInfo)) (last : Nat) : Array CpInfo := ⟨poolList es last⟩
def fileOf (pool : Array CpInfo) (this : Nat) (attrs : Array Attribute := #[]) (ms : Array MethodInfo := #[]) (fl : Nat := 33) (sup : Nat := 0) (ifs : Array Nat := #[]) (fds : Array FieldInfo := #[]) : ClassFile where
  minorVersion := 0
  majorVersion := 65
  constantPool := pool
  accessFlags := fl
  thisClass := this
  superClass := sup
  interfaces := ifs
  fields := fds
  methods := ms
  attributes := attrs
def plain (name : String) (sup : Option ClassId) : Class where
  name := name
  kind := .ordinary
  loader := none
  accessFlags := 33
  super := sup
  interfaces := #[]
  cf := none
  fields := #[]
  methods := #[]
  instanceTypes := #[]
  staticTypes := #[]
  resolved := #[]
  callSites := []
  init := .initialized
  statics := none
  mirror := none

def pool0 : Array CpInfo := pool [(5, u "<init>"), (0, u "()V"), (1, .class_ 10), (1, u "java/lang/Object")] 113

def k0m0 : Method := { name := "<init>", desc := "()V", sig := { parameters := [], returnType := none }, accessFlags := 1, code := none }
/-- java/lang/Object -/
def k0 : Class := { plain "java/lang/Object" none with
  accessFlags := 33
  interfaces := #[]
  cf := some (fileOf pool0 8 #[] #[{ accessFlags := 1, nameIndex := 5, descriptorIndex := 6, attributes := #[] }] 33 0 #[] #[])
  fields := #[]
  methods := #[k0m0]
  instanceTypes := #[]
  staticTypes := #[]
  resolved := Array.replicate 124 none
  statics := none }

def pool1 : Array CpInfo := pool [(2, .class_ 4), (1, u "java/lang/Object"), (0, u "<init>"), (0, u "()V"), (0, .class_ 8), (0, u "com/example/capsmith/capsmith/model/OperandKind"), (0, .fieldref 7 10), (0, .nameAndType 11 12), (0, u "LOCAL"), (0, u "Lcom/example/capsmith/capsmith/model/OperandKind;"), (0, .fieldref 7 14), (0, .nameAndType 15 12), (0, u "BYTE"), (0, .fieldref 7 17), (0, .nameAndType 18 12), (0, u "SHORT"), (0, .fieldref 7 20), (0, .nameAndType 21 12), (0, u "INT"), (0, .fieldref 7 23), (0, .nameAndType 24 12), (0, u "BRANCH"), (0, .fieldref 7 26), (0, .nameAndType 27 12), (0, u "WIDE_BRANCH"), (0, .fieldref 7 29), (0, .nameAndType 30 12), (0, u "CP_INDEX"), (0, .fieldref 7 32), (0, .nameAndType 33 12), (0, u "WIDE_CP_INDEX"), (0, .fieldref 7 35), (0, .nameAndType 36 12), (0, u "ARRAY_TYPE"), (0, .fieldref 7 38), (0, .nameAndType 39 12), (0, u "ARGUMENT_COUNT"), (0, .fieldref 7 41), (0, .nameAndType 42 12), (0, u "METHOD_TOKEN"), (0, .fieldref 7 44), (0, .nameAndType 45 12), (0, u "MN"), (0, .integer 2147483647), (0, .methodref 7 48), (0, .nameAndType 49 50), (0, u "isBranch"), (0, u "()Z"), (0, .class_ 52), (0, u "com/example/capsmith/capsmith/model/OperandKindIsBranchPinLaw"), (2, u "law"), (0, u "(I)Z")] 5

def k1m0 : Method := { name := "<init>", desc := "()V", sig := { parameters := [], returnType := none }, accessFlags := 1, code := none }
def k1c1 : Code := { maxStack := 4, maxLocals := 4, code := code, exceptionTable := #[], attributes := #[] }
def k1m1 : Method := { name := "law", desc := "(I)Z", sig := { parameters := [.int], returnType := some .boolean }, accessFlags := 9, code := some k1c1 }
/-- com/example/capsmith/capsmith/model/OperandKindIsBranchPinLaw -/
def k1 : Class := { plain "com/example/capsmith/capsmith/model/OperandKindIsBranchPinLaw" (some 0) with
  accessFlags := 49
  interfaces := #[]
  cf := some (fileOf pool1 51 #[] #[{ accessFlags := 1, nameIndex := 5, descriptorIndex := 6, attributes := #[] }, { accessFlags := 9, nameIndex := 55, descriptorIndex := 56, attributes := #[] }] 49 2 #[] #[])
  fields := #[]
  methods := #[k1m0, k1m1]
  instanceTypes := #[]
  staticTypes := #[]
  resolved := Array.replicate 62 none
  statics := none }

def pool2 : Array CpInfo := pool [(1, .class_ 2), (0, u "java/lang/constant/Constable"), (0, .class_ 4), (0, u "java/lang/Object")] 6

/-- java/lang/constant/Constable -/
def k2 : Class := { plain "java/lang/constant/Constable" (some 0) with
  accessFlags := 1537
  interfaces := #[]
  cf := some (fileOf pool2 1 #[] #[] 1537 3 #[] #[])
  fields := #[]
  methods := #[]
  instanceTypes := #[]
  staticTypes := #[]
  resolved := Array.replicate 11 none
  statics := none }

def pool3 : Array CpInfo := pool [(1, .class_ 2), (0, u "java/lang/Comparable"), (0, .class_ 4), (0, u "java/lang/Object")] 7

/-- java/lang/Comparable -/
def k3 : Class := { plain "java/lang/Comparable" (some 0) with
  accessFlags := 1537
  interfaces := #[]
  cf := some (fileOf pool3 1 #[] #[] 1537 3 #[] #[])
  fields := #[]
  methods := #[]
  instanceTypes := #[]
  staticTypes := #[]
  resolved := Array.replicate 12 none
  statics := none }

def pool4 : Array CpInfo := pool [(1, .class_ 2), (0, u "java/io/Serializable"), (0, .class_ 4), (0, u "java/lang/Object")] 2

/-- java/io/Serializable -/
def k4 : Class := { plain "java/io/Serializable" (some 0) with
  accessFlags := 1537
  interfaces := #[]
  cf := some (fileOf pool4 1 #[] #[] 1537 3 #[] #[])
  fields := #[]
  methods := #[]
  instanceTypes := #[]
  staticTypes := #[]
  resolved := Array.replicate 7 none
  statics := none }

def pool5 : Array CpInfo := pool [(2, .class_ 4), (1, u "java/lang/Enum"), (0, u "name"), (0, u "Ljava/lang/String;"), (2, u "ordinal"), (0, u "I"), (1, .class_ 14), (1, u "java/lang/Object"), (4, u "hash"), (86, .class_ 108), (1, u "java/lang/Enum$EnumDesc"), (2, .class_ 112), (0, u "java/lang/constant/Constable"), (0, .class_ 114), (0, u "java/lang/Comparable"), (0, .class_ 116), (0, u "java/io/Serializable")] 87

/-- java/lang/Enum -/
def k5 : Class := { plain "java/lang/Enum" (some 0) with
  accessFlags := 1057
  interfaces := #[2, 3, 4]
  cf := some (fileOf pool5 2 #[.nestMembers #[106]] #[] 1057 12 #[111, 113, 115] #[{ accessFlags := 18, nameIndex := 5, descriptorIndex := 6, attributes := #[] }, { accessFlags := 18, nameIndex := 9, descriptorIndex := 10, attributes := #[] }, { accessFlags := 2, nameIndex := 19, descriptorIndex := 10, attributes := #[] }])
  fields := #[{ name := "name", type := (.object "java/lang/String"), accessFlags := 18, slot := 0, constantValue := 0 }, { name := "ordinal", type := .int, accessFlags := 18, slot := 1, constantValue := 0 }, { name := "hash", type := .int, accessFlags := 2, slot := 2, constantValue := 0 }]
  methods := #[]
  instanceTypes := #[(.object "java/lang/String"), .int, .int]
  staticTypes := #[]
  resolved := Array.replicate 204 none
  statics := none }

def pool6 : Array CpInfo := pool [(1, .class_ 2), (0, u "com/example/capsmith/capsmith/model/OperandKind"), (2, u "LOCAL"), (0, u "Lcom/example/capsmith/capsmith/model/OperandKind;"), (2, u "BYTE"), (2, u "SHORT"), (2, u "INT"), (0, .fieldref 1 17), (0, .nameAndType 18 6), (0, u "BRANCH"), (0, .fieldref 1 20), (0, .nameAndType 21 6), (0, u "WIDE_BRANCH"), (2, u "CP_INDEX"), (2, u "WIDE_CP_INDEX"), (2, u "ARRAY_TYPE"), (2, u "ARGUMENT_COUNT"), (2, u "METHOD_TOKEN"), (2, u "MN"), (2, u "$VALUES"), (0, u "[Lcom/example/capsmith/capsmith/model/OperandKind;"), (6, .class_ 52), (1, u "java/lang/Enum"), (8, u "size"), (0, u "I"), (2, u "signed"), (0, u "Z"), (27, u "()Z"), (0, u "isBranch")] 6

def k6c0 : Code := { maxStack := 2, maxLocals := 1, code := prog_133_method_6_code, exceptionTable := #[], attributes := #[] }
def k6m0 : Method := { name := "isBranch", desc := "()Z", sig := { parameters := [], returnType := some .boolean }, accessFlags := 1, code := some k6c0 }
/-- com/example/capsmith/capsmith/model/OperandKind -/
def k6 : Class := { plain "com/example/capsmith/capsmith/model/OperandKind" (some 5) with
  accessFlags := 16433
  interfaces := #[]
  cf := some (fileOf pool6 1 #[] #[{ accessFlags := 1, nameIndex := 95, descriptorIndex := 94, attributes := #[] }] 16433 50 #[] #[{ accessFlags := 16409, nameIndex := 5, descriptorIndex := 6, attributes := #[] }, { accessFlags := 16409, nameIndex := 9, descriptorIndex := 6, attributes := #[] }, { accessFlags := 16409, nameIndex := 12, descriptorIndex := 6, attributes := #[] }, { accessFlags := 16409, nameIndex := 15, descriptorIndex := 6, attributes := #[] }, { accessFlags := 16409, nameIndex := 18, descriptorIndex := 6, attributes := #[] }, { accessFlags := 16409, nameIndex := 21, descriptorIndex := 6, attributes := #[] }, { accessFlags := 16409, nameIndex := 24, descriptorIndex := 6, attributes := #[] }, { accessFlags := 16409, nameIndex := 27, descriptorIndex := 6, attributes := #[] }, { accessFlags := 16409, nameIndex := 30, descriptorIndex := 6, attributes := #[] }, { accessFlags := 16409, nameIndex := 33, descriptorIndex := 6, attributes := #[] }, { accessFlags := 16409, nameIndex := 36, descriptorIndex := 6, attributes := #[] }, { accessFlags := 16409, nameIndex := 39, descriptorIndex := 6, attributes := #[] }, { accessFlags := 18, nameIndex := 61, descriptorIndex := 62, attributes := #[] }, { accessFlags := 18, nameIndex := 65, descriptorIndex := 66, attributes := #[] }, { accessFlags := 4122, nameIndex := 42, descriptorIndex := 43, attributes := #[] }])
  fields := #[{ name := "LOCAL", type := (.object "com/example/capsmith/capsmith/model/OperandKind"), accessFlags := 16409, slot := 0, constantValue := 0 }, { name := "BYTE", type := (.object "com/example/capsmith/capsmith/model/OperandKind"), accessFlags := 16409, slot := 1, constantValue := 0 }, { name := "SHORT", type := (.object "com/example/capsmith/capsmith/model/OperandKind"), accessFlags := 16409, slot := 2, constantValue := 0 }, { name := "INT", type := (.object "com/example/capsmith/capsmith/model/OperandKind"), accessFlags := 16409, slot := 3, constantValue := 0 }, { name := "BRANCH", type := (.object "com/example/capsmith/capsmith/model/OperandKind"), accessFlags := 16409, slot := 4, constantValue := 0 }, { name := "WIDE_BRANCH", type := (.object "com/example/capsmith/capsmith/model/OperandKind"), accessFlags := 16409, slot := 5, constantValue := 0 }, { name := "CP_INDEX", type := (.object "com/example/capsmith/capsmith/model/OperandKind"), accessFlags := 16409, slot := 6, constantValue := 0 }, { name := "WIDE_CP_INDEX", type := (.object "com/example/capsmith/capsmith/model/OperandKind"), accessFlags := 16409, slot := 7, constantValue := 0 }, { name := "ARRAY_TYPE", type := (.object "com/example/capsmith/capsmith/model/OperandKind"), accessFlags := 16409, slot := 8, constantValue := 0 }, { name := "ARGUMENT_COUNT", type := (.object "com/example/capsmith/capsmith/model/OperandKind"), accessFlags := 16409, slot := 9, constantValue := 0 }, { name := "METHOD_TOKEN", type := (.object "com/example/capsmith/capsmith/model/OperandKind"), accessFlags := 16409, slot := 10, constantValue := 0 }, { name := "MN", type := (.object "com/example/capsmith/capsmith/model/OperandKind"), accessFlags := 16409, slot := 11, constantValue := 0 }, { name := "size", type := .int, accessFlags := 18, slot := 3, constantValue := 0 }, { name := "signed", type := .boolean, accessFlags := 18, slot := 4, constantValue := 0 }, { name := "$VALUES", type := (.array (.object "com/example/capsmith/capsmith/model/OperandKind")), accessFlags := 4122, slot := 12, constantValue := 0 }]
  methods := #[k6m0]
  instanceTypes := #[(.object "java/lang/String"), .int, .int, .int, .boolean]
  staticTypes := #[(.object "com/example/capsmith/capsmith/model/OperandKind"), (.object "com/example/capsmith/capsmith/model/OperandKind"), (.object "com/example/capsmith/capsmith/model/OperandKind"), (.object "com/example/capsmith/capsmith/model/OperandKind"), (.object "com/example/capsmith/capsmith/model/OperandKind"), (.object "com/example/capsmith/capsmith/model/OperandKind"), (.object "com/example/capsmith/capsmith/model/OperandKind"), (.object "com/example/capsmith/capsmith/model/OperandKind"), (.object "com/example/capsmith/capsmith/model/OperandKind"), (.object "com/example/capsmith/capsmith/model/OperandKind"), (.object "com/example/capsmith/capsmith/model/OperandKind"), (.object "com/example/capsmith/capsmith/model/OperandKind"), (.array (.object "com/example/capsmith/capsmith/model/OperandKind"))]
  resolved := Array.replicate 102 none
  statics := some 0 }

def pool7 : Array CpInfo := pool [(1, u "java/lang/Cloneable"), (0, .class_ 1), (0, u "java/lang/Object"), (0, .class_ 3)] 3

/-- java/lang/Cloneable -/
def k7 : Class := { plain "java/lang/Cloneable" (some 0) with
  accessFlags := 1537
  interfaces := #[]
  cf := some (fileOf pool7 2 #[] #[] 1537 4 #[] #[])
  fields := #[]
  methods := #[]
  instanceTypes := #[]
  staticTypes := #[]
  resolved := Array.replicate 8 none
  statics := none }

/-- the primitive byte -/
def k8 : Class := { plain "byte" none with kind := .primitive 'B', accessFlags := 0x411 }
/-- [B -/
def k9 : Class := { plain "[B" (some 0) with kind := .array 8 .byte, interfaces := #[7, 4], accessFlags := 1041 }

/-- the primitive int -/
def k10 : Class := { plain "int" none with kind := .primitive 'I', accessFlags := 0x411 }
/-- [I -/
def k11 : Class := { plain "[I" (some 0) with kind := .array 10 .int, interfaces := #[7, 4], accessFlags := 1041 }

/-- [Lcom/example/capsmith/capsmith/model/OperandKind; -/
def k12 : Class := { plain "[Lcom/example/capsmith/capsmith/model/OperandKind;" (some 0) with kind := .array 6 (.object "com/example/capsmith/capsmith/model/OperandKind"), interfaces := #[7, 4], accessFlags := 1041 }

def heap : Heap := #[{ cls := 6, slots := #[.ref 1, .ref 2, .ref 3, .ref 4, .ref 5, .ref 6, .ref 7, .ref 8, .ref 9, .ref 10, .ref 11, .ref 12, .null], vm := .statics 6 },
  { cls := 6, slots := #[.null, .int 0, .int 0, .int 0, .int 0], vm := .none },
  { cls := 6, slots := #[.null, .int 1, .int 0, .int 0, .int 0], vm := .none },
  { cls := 6, slots := #[.null, .int 2, .int 0, .int 0, .int 0], vm := .none },
  { cls := 6, slots := #[.null, .int 3, .int 0, .int 0, .int 0], vm := .none },
  { cls := 6, slots := #[.null, .int 4, .int 0, .int 0, .int 0], vm := .none },
  { cls := 6, slots := #[.null, .int 5, .int 0, .int 0, .int 0], vm := .none },
  { cls := 6, slots := #[.null, .int 6, .int 0, .int 0, .int 0], vm := .none },
  { cls := 6, slots := #[.null, .int 7, .int 0, .int 0, .int 0], vm := .none },
  { cls := 6, slots := #[.null, .int 8, .int 0, .int 0, .int 0], vm := .none },
  { cls := 6, slots := #[.null, .int 9, .int 0, .int 0, .int 0], vm := .none },
  { cls := 6, slots := #[.null, .int 10, .int 0, .int 0, .int 0], vm := .none },
  { cls := 6, slots := #[.null, .int 11, .int 0, .int 0, .int 0], vm := .none }]
def classes : Array Class := #[k0, k1, k2, k3, k4, k5, k6, k7, k8, k9, k10, k11, k12]
def interned : List (Array UInt16 × Addr) := []
def slotsUsed : Nat := 73
def theMethod : MethodId := ⟨1, 1⟩
def args0 : Array Value := #[.int 5]
def aboutOver (below : List Frame) : State where
  vm := { classes := classes, interned := interned.toArray }
  heap := heap
  slotsUsed := slotsUsed
  threads := #[{ frames := .invoking theMethod args0 :: below }]
def below0 : List Frame := [.native { method := ⟨0, 0⟩, args := #[] }]
def about1 : State := aboutOver below0
def p0 : Program := .bare "" "" ""
def e0 : Env := launch0.env 0 0 0
theorem w_frames : about1.frames = Frame.invoking theMethod args0 :: below0 := rfl
set_option maxRecDepth 65536 in
theorem w_args : argsFit about1.vm theMethod args0 = true := by decide +kernel
set_option maxRecDepth 65536 in
theorem w_heap : heapFits about1 = true := by decide +kernel
set_option maxRecDepth 65536 in
theorem w_runnable : about1.curStatus? = some .runnable := by decide +kernel
set_option maxRecDepth 65536 in
theorem w_alone : about1.alone = true := by decide +kernel
set_option maxRecDepth 65536 in
theorem w_named : about1.methodNamed? x = some theMethod := by decide +kernel
set_option maxRecDepth 65536 in
theorem w_hears : about1.hears theMethod below0 = true := by decide +kernel
set_option maxRecDepth 65536 in
theorem w_ripe : about1.ripe theMethod args0 below0 = true := by decide +kernel
theorem w_running : about1.status = .running := rfl
set_option maxRecDepth 65536 in
theorem w_room : about1.hasRoom e0.platform room_1 = true :=
  launch0.hasRoom_least _ room_1 (by decide +kernel) (by decide +kernel) (by decide +kernel) (by decide +kernel) (by decide +kernel) (by decide +kernel)
theorem allAtoms_all (ts : List Jvm.Cond) (a : Array Jvm.Value) (st : Jvm.State) : (allAtoms ts).before a st = ts.all (fun c => c.before a st) := by
  induction ts with
  | nil => rfl
  | cons c t ih =>
    show (Jvm.Cond.and c (allAtoms t)).before a st = _
    rw [Jvm.Cond.before_and, ih, List.all_cons]
def words1 : List Jvm.Cond := Jvm.Cond.code x code maxLocals ret :: tables_1
/-- a 'code' word, met by the world's own term for the bytes: nothing is compared byte by byte -/
theorem code_word {y : MethodName} {bytes : ByteArray} {mx : Nat} {rt : Option FieldType} {a : Array Value} {s : State} {m : MethodId} {meth : Method} {c : Code} (h1 : s.methodNamed? y = some m) (h2 : s.vm.method? m = some meth) (h3 : meth.code = some c) (h4 : c.code = bytes)
    (h5 : (c.maxLocals == mx && c.exceptionTable.isEmpty && decide (c.maxStack ≤ mostOperands) && decide (meth.sig.returnType = rt) && !meth.locks && decide (parseMethodDescriptor y.desc = some meth.sig)) = true) : (Jvm.Cond.code y bytes mx rt).before a s = true := by
  simp only [Bool.and_eq_true, beq_iff_eq, Bool.not_eq_true', decide_eq_true_eq] at h5
  obtain ⟨⟨⟨⟨⟨g1, g2⟩, g3⟩, g4⟩, g5⟩, g6⟩ := h5
  simp [Cond.before, Cond.holds, Cond.value, h1, h2, h3, h4, g1, g2, g3, g4, g5, g6]
def isCode : Jvm.Cond → Bool
  | .code _ _ _ _ => true
  | _ => false
theorem all_split {L : List Jvm.Cond} {P : Jvm.Cond → Bool} (h1 : L.all (fun c => isCode c || P c) = true) (h2 : ∀ c ∈ L.filter isCode, P c = true) : L.all P = true := by
  refine List.all_eq_true.mpr fun c hc => ?_
  have h := List.all_eq_true.mp h1 c hc
  rcases Bool.eq_false_or_eq_true (isCode c) with hi | hi
  · exact h2 c (List.mem_filter.mpr ⟨hc, hi⟩)
  · simpa [hi] using h
set_option maxRecDepth 65536 in
theorem w_c0 : (Jvm.Cond.code x code maxLocals ret).before args0 about1 = true := code_word (m := ⟨1, 1⟩) (meth := k1m1) (c := k1c1) (by decide +kernel) rfl rfl rfl (by decide +kernel)
set_option maxRecDepth 65536 in
theorem w_c1 : (Jvm.Cond.code ({ cls := "com/example/capsmith/capsmith/model/OperandKind", name := "isBranch", desc := "()Z" } : Jvm.MethodName) prog_133_method_6_code (1 : Nat) (Option.some Jvm.ClassFile.FieldType.boolean)).before args0 about1 = true := code_word (m := ⟨6, 0⟩) (meth := k6m0) (c := k6c0) (by decide +kernel) rfl rfl rfl (by decide +kernel)
def codes1 : List Jvm.Cond := [Jvm.Cond.code x code maxLocals ret, Jvm.Cond.code ({ cls := "com/example/capsmith/capsmith/model/OperandKind", name := "isBranch", desc := "()Z" } : Jvm.MethodName) prog_133_method_6_code (1 : Nat) (Option.some Jvm.ClassFile.FieldType.boolean)]
set_option maxRecDepth 65536 in
theorem codes_eq : words1.filter isCode = codes1 := rfl
theorem w_codes : ∀ c ∈ words1.filter isCode, c.before args0 about1 = true := by
  rw [codes_eq]
  intro c hc
  simp only [codes1, List.mem_cons, List.not_mem_nil, or_false] at hc
  rcases hc with rfl | rfl
  · exact w_c0
  · exact w_c1
set_option maxRecDepth 65536 in
theorem w_t1 : (words1.take 24).all (fun c => isCode c || c.before args0 about1) = true := by decide +kernel
set_option maxRecDepth 65536 in
theorem w_t2 : (words1.drop 24).all (fun c => isCode c || c.before args0 about1) = true := by decide +kernel
theorem w_tables : (allAtoms (Jvm.Cond.code x code maxLocals ret :: tables_1)).before args0 about1 = true := by
  rw [allAtoms_all]
  show words1.all (fun c => c.before args0 about1) = true
  refine all_split ?_ w_codes
  rw [← List.take_append_drop 24 words1, List.all_append, w_t1, w_t2]
  rfl
set_option maxRecDepth 65536 in
theorem w_case : (Jvm.Cond.and given_1 narrow_1).before args0 about1 = true := by decide +kernel
theorem w_applies : (headSpec (Jvm.Cond.code x code maxLocals ret :: tables_1) room_1).applies x e0.platform about1 = true :=
  (Spec.applies_iff w_frames).mpr ⟨w_running, w_runnable, w_alone, w_named, w_hears, w_ripe, w_room, w_tables⟩
theorem atStart : AtStart classFile x code maxLocals ret World_1 tables_1 room_1 Calls_1 rest_1 Pre_1 launch0 p0 e0 about1 theMethod args0 below0 :=
  ⟨lists_1, trivial, launch0.admits_env _ _ _, launch0.least_env, fairChoices_fair.cas, fairChoices_fair.clock, w_frames, w_args, w_heap, w_applies, trivial, trivial, w_case⟩
end start1
theorem witness_1 : WitnessClaimed_1 := ⟨start1.p0, start1.e0, start1.about1, start1.theMethod, start1.args0, start1.below0, start1.atStart⟩
end Jvm.Pilot.@@N@@
