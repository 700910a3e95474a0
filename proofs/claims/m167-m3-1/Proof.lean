import JvmDerived
import JvmDerived.Pilot.@@N@@Statement
import JvmDerived.Pilot.@@N@@Code
set_option linter.unusedVariables false
set_option linter.unusedSimpArgs false
namespace Jvm.Pilot.@@N@@
open Jvm Jvm.ClassFile Sem Op Lib Jvm.Free Jvm.Stand Jvm.LawKit Jvm.RoadKit Bundle Jvm.Pilot.@@N@@.Jvm.D
/-- from the state T with the top frame g the run comes to T' with g' -/
def own_R (p : Program) (e : Env) (below : List Frame) (T : State) (g : JFrame) (T' : State) (g' : JFrame) : Prop := ∀ t, Steps p.tables e below (T'.setTop g') t → Steps p.tables e below (T.setTop g) t
abbrev own_S (p : Program) (e : Env) (below : List Frame) (T : State) (g : JFrame) (t : State) : Prop := Steps p.tables e below (T.setTop g) t
theorem own_R.refl {p : Program} {e : Env} {below : List Frame} {T : State} {g : JFrame} : own_R p e below T g T g := fun _ k => k
theorem own_R.trans {p : Program} {e : Env} {below : List Frame} {T T' T'' : State} {g g' g'' : JFrame} (h : own_R p e below T g T' g') (h' : own_R p e below T' g' T'' g'') : own_R p e below T g T'' g'' := fun t k => h t (h' t k)
theorem own_ne_arv {Z : State} {h : Heap} {a b : Addr} {C : String} {k : Nat} {kk : ClassId} {ty : FieldType} {z : Int32} {vs : List Value} {dv : Value} {a0 : Array Value} (E : Exa Z h a C) (wi : (Jvm.Cond.instantiable C k).before a0 Z = true) (V : Arv Z h b kk ty z vs dv) : a ≠ b := by
  obtain ⟨c, A, -⟩ := V
  exact ne_arr E wi A
theorem own_fe {a b x : Addr} {n : Nat} (h : b = a ∨ n ≤ b) (h1 : x ≠ a) (h2 : x < n) : x ≠ b := fun q => h.elim (fun e => h1 (q.trans e)) (fun e => Nat.not_lt.mpr e (q ▸ h2))
theorem own_feg {a b : Addr} {n k : Nat} (h : b = a ∨ n ≤ b) (h1 : k ≤ a) (h2 : k ≤ n) : k ≤ b := h.elim (fun e => e ▸ h1) (Nat.le_trans h2)
theorem own_g {α : Type} {L : List α} {i : Nat} {d : α} (h : L[i]? = some d) : d ∈ L := List.mem_of_getElem? h
theorem own_few {a b : Addr} {ws : List Addr} {n k : Nat} (h : b = a ∨ n ≤ b) (hm : a ∈ ws) (hk : k ≤ n) : b ∈ ws ∨ k ≤ b := h.elim (fun e => Or.inl (e ▸ hm)) (fun e => Or.inr (Nat.le_trans hk e))
theorem own_lt1 (vs : List Value) (d : Value) : vs.length < (vs ++ List.replicate 1 d).length := by simp
theorem own_app {Z : State} {h : Heap} {b : Addr} {k : ClassId} {ty : FieldType} {z : Int32} {vs : List Value} {v d : Value} (F : Arv Z h b k ty z ((vs ++ List.replicate 1 d).set vs.length v) d) : Arv Z h b k ty z (vs ++ [v]) d := by
  have e : (vs ++ List.replicate 1 d).set vs.length v = vs ++ [v] := by simp
  rw [e] at F
  exact F
theorem own_selp {Z s : State} {a0 args : Array Value} {y : MethodName} {n : Nat} (hZ : Z.Warmed39 s.vm) (wi : (Jvm.Cond.instantiable y.cls n).before a0 Z = true) (wp : (Jvm.Cond.privateMethod y).before a0 Z = true) (wm : (Jvm.Cond.instanceMethod y).before a0 Z = true) (hy : y.cls ≠ "java/lang/invoke/MethodHandle" ∧ y.cls ≠ "java/lang/invoke/VarHandle") : (Jvm.Cond.selects y.cls y y).before args s = true := by
  have wi' : (Jvm.Cond.instantiable y.cls n).before args s = true := mvT hZ wi
  obtain ⟨c, k, h1, h2, -, h4, -⟩ := Cond.instantiable_spec wi'
  have h5 : k.isInterface = false := by
    cases hi : k.isInterface with
    | false => rfl
    | true => simp [hi] at h4
  exact Jvm.Stand.selects_self_of_private h1 h2 h5 (Cond.privateMethod_at (mvP hZ wp (args := #[]))) (mvT hZ wm) hy
theorem own_old_size {Z : State} {n0 : Nat} {h : Heap} (O : Old Z n0 h) : n0 ≤ h.size := O.1 ▸ O.2.1

theorem own_eq_fld {s : State} {args : Array Value} {t : Jvm.Term} {a : Addr} {C n d : String} {k : Int32} (ev : t.eval args s none [] s = some (.ref a)) (h : (Jvm.Cond.eq (Jvm.Term.field t C n d) (Jvm.Term.int k)).value args s none s [] = some true) : Fld s s.heap a C n d (.int k) := by
  apply Fld.start
  have q := fld_at (C := C) (n := n) (dd := d) ev
  rw [← q]
  cases hv : (Jvm.Term.field t C n d).eval args s none [] s with
  | none => simp [Cond.value, hv] at h
  | some v => cases v <;> simp_all [Cond.value, Term.eval]

theorem own_eq_val {s : State} {args : Array Value} {t u : Jvm.Term} {y : Addr} (ev : u.eval args s none [] s = some (.ref y)) (h : (Jvm.Cond.eq t u).value args s none s [] = some true) : t.eval args s none [] s = some (.ref y) := by
  cases hv : t.eval args s none [] s with
  | none => simp [Cond.value, hv] at h
  | some v => cases v <;> simp_all [Cond.value]
theorem own_eq_ref {s : State} {args : Array Value} {t u : Jvm.Term} {a y : Addr} {C n d : String} (ev : t.eval args s none [] s = some (.ref a)) (eu : u.eval args s none [] s = some (.ref y)) (h : (Jvm.Cond.eq (Jvm.Term.field t C n d) u).value args s none s [] = some true) : Fld s s.heap a C n d (.ref y) := by
  apply Fld.start
  rw [← fld_at (C := C) (n := n) (dd := d) ev]
  exact own_eq_val eu h
theorem own_eq_null {s : State} {args : Array Value} {t : Jvm.Term} {a : Addr} {C n d : String} (ev : t.eval args s none [] s = some (.ref a)) (h : (Jvm.Cond.eq (Jvm.Term.field t C n d) Jvm.Term.null).value args s none s [] = some true) : Fld s s.heap a C n d .null := by
  apply Fld.start
  rw [← fld_at (C := C) (n := n) (dd := d) ev]
  exact null_v h
theorem own_len {s : State} {args : Array Value} {t : Jvm.Term} {a : Addr} {cl : Cell} {ty : FieldType} {n : Int32} (ev : t.eval args s none [] s = some (.ref a)) (A : Arr s s.heap a cl ty) (h : (Jvm.Cond.eq (Jvm.Term.length t) (Jvm.Term.int n)).value args s none s [] = some true) : cl.slots.size < 2 ^ 31 ∧ cl.slots.size.toInt32 = n := by
  have ha : s.arrayAt? a = some cl := A.fin (Vm.Alike.refl _)
  by_cases hl : cl.slots.size < 2 ^ 31
  · have e := len_f (args := args) (first := s) (o := none) (idx := []) ev ha hl
    refine ⟨hl, ?_⟩
    simp only [Cond.value, e, Term.int_eval] at h
    simpa using h
  · exfalso
    have e : (Jvm.Term.length t).eval args s none [] s = none := by simp [Term.eval, ev, ha]; omega
    simp only [Cond.value, e] at h
    cases h
theorem own_elem {s : State} {args : Array Value} {t u : Jvm.Term} {a y : Addr} {cl : Cell} {ty : FieldType} {j : Int32} (ev : t.eval args s none [] s = some (.ref a)) (eu : u.eval args s none [] s = some (.ref y)) (A : Arr s s.heap a cl ty) (hj : ¬ j < 0) (h : (Jvm.Cond.eq (Jvm.Term.elem t (Jvm.Term.int j)) u).value args s none s [] = some true) : cl.slots[j.toNatClampNeg]? = some (.ref y) := by
  have ha : s.arrayAt? a = some cl := A.fin (Vm.Alike.refl _)
  have e := elem_f (args := args) (first := s) (o := none) (idx := []) (a := Jvm.Term.int j) ev rfl ha hj
  rw [← e]
  exact own_eq_val eu h

theorem own_lc_ge {x : Int64} (h : 0 ≤ x.toInt) : ¬ (lcmpW x (0 : Int64) < (0 : Int32)) := by
  rw [lw_lt, Int64.lt_iff_toInt_lt]
  have e : (0 : Int64).toInt = 0 := by decide
  omega
theorem own_lc_gt {x : Int64} (h : 0 < x.toInt) : (0 : Int32) < lcmpW x (0 : Int64) := by
  rw [lw_gt, Int64.lt_iff_toInt_lt]
  have e : (0 : Int64).toInt = 0 := by decide
  omega
theorem own_lc_ngt {x : Int64} (h : ¬ (0 < x.toInt)) : ¬ ((0 : Int32) < lcmpW x (0 : Int64)) := by
  rw [lw_gt, Int64.lt_iff_toInt_lt]
  have e : (0 : Int64).toInt = 0 := by decide
  omega
theorem own_mask_nn (x : Int64) : 0 ≤ (x &&& (9223372036854775807 : Int64)).toInt := (c_andSL x _).2.2 (by decide)
theorem own_node {pn pb : Int32} (h : pn = ((1 : Int32) + (pb &&& (1 : Int32)))) : pn = (1 : Int32) ∨ pn = (2 : Int32) := by
  rcases and_one pb with q | q <;> rw [q] at h <;> simp [h]
theorem own_node_ge {pn : Int32} (h : pn = (1 : Int32) ∨ pn = (2 : Int32)) : ¬ (pn < (1 : Int32)) := by
  rcases h with rfl | rfl <;> decide
theorem own_split3 {k p : Int32} (h : k = (p &&& (3 : Int32))) : k = (0 : Int32) ∨ k = (1 : Int32) ∨ k = (2 : Int32) ∨ k = (3 : Int32) := by
  have h1 := c_mask p (3 : Int32) 2 (by decide) (by decide)
  rw [← h] at h1
  have h4 : k.toInt = 0 ∨ k.toInt = 1 ∨ k.toInt = 2 ∨ k.toInt = 3 := by
    have e : ((2 ^ 2 : Nat) : Int) = 4 := by decide
    rw [e] at h1
    omega
  rcases h4 with q | q | q | q
  · exact Or.inl (Int32.toInt_inj.mp (by rw [q]; decide))
  · exact Or.inr (Or.inl (Int32.toInt_inj.mp (by rw [q]; decide)))
  · exact Or.inr (Or.inr (Or.inl (Int32.toInt_inj.mp (by rw [q]; decide))))
  · exact Or.inr (Or.inr (Or.inr (Int32.toInt_inj.mp (by rw [q]; decide))))
def own_Inv (y : Int32) (js : Int64) (n : Int) : Prop := (y = (1 : Int32) ∧ 0 < js.toInt ∧ js.toInt ≤ n) ∨ (y = (0 : Int32) ∧ js.toInt = 0)
theorem own_any1 {s : Int32} {js2 : Int64} (h : (s = (0 : Int32) ∧ js2 = (0 : Int64)) ∨ (s = (1 : Int32) ∧ js2 = ((0 : Int64) + (1 : Int64)))) : own_Inv s js2 1 := by
  rcases h with ⟨rfl, rfl⟩ | ⟨rfl, rfl⟩
  · exact Or.inr ⟨rfl, by decide⟩
  · exact Or.inl ⟨rfl, by decide, by decide⟩
theorem own_any {y pv s : Int32} {js js2 : Int64} {n : Int} (hn : 0 ≤ n ∧ n ≤ 100) (hy : (y = (1 : Int32) ∧ ¬ (pv = (0 : Int32) ∧ s = (0 : Int32))) ∨ (y = (0 : Int32) ∧ pv = (0 : Int32) ∧ s = (0 : Int32))) (hj : (s = (0 : Int32) ∧ js2 = js) ∨ (s = (1 : Int32) ∧ js2 = (js + (1 : Int64)))) (hi : own_Inv pv js n) : own_Inv y js2 (n + 1) := by
  have e1 : (1 : Int64).toInt = 1 := by decide
  have c1 := c_ladd js (1 : Int64)
  have c2 := rng64 (js + (1 : Int64))
  rw [e1] at c1
  rcases hj with ⟨hs, hj⟩ | ⟨hs, hj⟩ <;> rcases hi with ⟨i1, i2, i3⟩ | ⟨i1, i2⟩
  · rcases hy with ⟨y1, -⟩ | ⟨-, y2, -⟩
    · exact Or.inl ⟨y1, by rw [hj]; exact i2, by rw [hj]; omega⟩
    · rw [i1] at y2; exact absurd y2 (by decide)
  · rcases hy with ⟨-, y2⟩ | ⟨y1, -, -⟩
    · exact absurd ⟨i1, hs⟩ y2
    · exact Or.inr ⟨y1, by rw [hj]; exact i2⟩
  · rcases hy with ⟨y1, -⟩ | ⟨-, y2, -⟩
    · exact Or.inl ⟨y1, by rw [hj]; omega, by rw [hj]; omega⟩
    · rw [i1] at y2; exact absurd y2 (by decide)
  · rcases hy with ⟨y1, -⟩ | ⟨-, -, y3⟩
    · exact Or.inl ⟨y1, by rw [hj]; omega, by rw [hj]; omega⟩
    · rw [hs] at y3; exact absurd y3 (by decide)
theorem own_chk {y : Int32} {js : Int64} {n : Int} (h : own_Inv y js n) : (y = (1 : Int32) ∧ 0 < js.toInt) ∨ (y = (0 : Int32) ∧ ¬ (0 < js.toInt)) := by
  rcases h with ⟨a, b, -⟩ | ⟨a, b⟩
  · exact Or.inl ⟨a, b⟩
  · exact Or.inr ⟨a, by omega⟩
theorem own_not1 {x y : Int32} (h : ¬ (x = (0 : Int32))) : ¬ (x = (0 : Int32) ∧ y = (0 : Int32)) := fun q => h q.1
theorem own_not2 {x y : Int32} (h : ¬ (y = (0 : Int32))) : ¬ (x = (0 : Int32) ∧ y = (0 : Int32)) := fun q => h q.2
theorem own_fld_of {s : State} {args : Array Value} {t : Jvm.Term} {a : Addr} {v : Value} {C n d : String} (ev : t.eval args s none [] s = some (.ref a)) (h : (Jvm.Term.field t C n d).eval args s none [] s = some v) : Fld s s.heap a C n d v := by
  apply Fld.start
  rw [← fld_at (C := C) (n := n) (dd := d) ev]
  exact h
theorem own_arr {s : State} {args : Array Value} {t : Jvm.Term} {a : Addr} {ty : FieldType} {n : Int32} {dv : Value} (hf : Fit s) (ev : t.eval args s none [] s = some (.ref a)) (hA : (Jvm.Cond.arrayOf t ty).value args s none s [] = some true) (hL : (Jvm.Cond.eq (Jvm.Term.length t) (Jvm.Term.int n)).value args s none s [] = some true) (hn : ¬ n < 0 := by decide) : ∃ k vs, Arv s s.heap a k ty n vs dv := by
  obtain ⟨cl, A⟩ := Arr.start ev hA
  obtain ⟨L1, L2⟩ := own_len ev A hL
  have hs : cl.slots.size = n.toNatClampNeg := by
    rw [← L2, Int32.toNatClampNeg, len_toInt L1]
    rfl
  have key : ∀ i, i < cl.slots.size → ∃ v, cl.slots[i]? = some v ∧ fits ty v = true := fun i hi => by
    obtain ⟨v, v1, v2⟩ := elem_fit (j := i.toInt32) hf A (idx_in hi L1)
    have e : i.toInt32.toNatClampNeg = i := by rw [Int32.toNatClampNeg, len_toInt (by omega)]; rfl
    rw [e] at v1
    exact ⟨v, v1, v2⟩
  have gd : ∀ i, i < cl.slots.size → cl.slots[i]? = some (cl.slots.toList.getD i dv) := fun i hi => by
    obtain ⟨v, v1, -⟩ := key i hi
    rw [List.getD_eq_getElem?_getD, Array.getElem?_toList, v1]
    rfl
  refine ⟨cl.cls, cl.slots.toList, cl, A, rfl, hs, hn, gd, fun i hi => ?_⟩
  obtain ⟨v, v1, v2⟩ := key i hi
  have q := gd i hi
  rw [v1] at q
  rw [← Option.some.inj q]
  exact v2
theorem own_arr0 {s : State} {args : Array Value} {t : Jvm.Term} {a : Addr} {ty : FieldType} (hf : Fit s) (ev : t.eval args s none [] s = some (.ref a)) (hA : (Jvm.Cond.arrayOf t ty).value args s none s [] = some true) (hL : (Jvm.Cond.eq (Jvm.Term.length t) (Jvm.Term.int (0 : Int32))).value args s none s [] = some true) {dv : Value} : ∃ k, Arv s s.heap a k ty (0 : Int32) [] dv := by
  obtain ⟨k, vs, cl, A, q1, S, M, H, G⟩ := own_arr (dv := dv) hf ev hA hL
  have z : ∀ i, ¬ i < cl.slots.size := fun i hi => by rw [S] at hi; exact absurd hi (Nat.not_lt_zero _)
  exact ⟨k, cl, A, q1, S, M, fun i hi => absurd hi (z i), fun i hi => absurd hi (z i)⟩
theorem own_ix {j z : Int32} (h : j < z) (h0 : 0 ≤ j.toInt := by decide) : j.toNatClampNeg < z.toNatClampNeg := by
  rw [Int32.lt_iff_toInt_lt] at h
  simp only [Int32.toNatClampNeg]
  omega

theorem d3_0 : decode prog_53_method_1_code 0 = .ok (.aload_n 0, 1) := by decide +kernel
theorem d3_1 : decode prog_53_method_1_code 1 = .ok (.invokespecial 1, 3) := by decide +kernel
theorem d3_4 : decode prog_53_method_1_code 4 = .ok (.aload_n 0, 1) := by decide +kernel
theorem d3_5 : decode prog_53_method_1_code 5 = .ok (.iload_n 1, 1) := by decide +kernel
theorem d3_6 : decode prog_53_method_1_code 6 = .ok (.putfield 7, 3) := by decide +kernel
theorem d3_9 : decode prog_53_method_1_code 9 = .ok (.aload_n 0, 1) := by decide +kernel
theorem d3_10 : decode prog_53_method_1_code 10 = .ok (.aload_n 2, 1) := by decide +kernel
theorem d3_11 : decode prog_53_method_1_code 11 = .ok (.putfield 13, 3) := by decide +kernel
theorem d3_14 : decode prog_53_method_1_code 14 = .ok (.aload_n 0, 1) := by decide +kernel
theorem d3_15 : decode prog_53_method_1_code 15 = .ok (.iload_n 3, 1) := by decide +kernel
theorem d3_16 : decode prog_53_method_1_code 16 = .ok (.putfield 17, 3) := by decide +kernel
theorem d3_19 : decode prog_53_method_1_code 19 = .ok (.aload_n 0, 1) := by decide +kernel
theorem d3_20 : decode prog_53_method_1_code 20 = .ok (.lload 4, 2) := by decide +kernel
theorem d3_22 : decode prog_53_method_1_code 22 = .ok (.putfield 20, 3) := by decide +kernel
theorem d3_25 : decode prog_53_method_1_code 25 = .ok (.return_, 1) := by decide +kernel
theorem pn_VectorTime : plainName "com/example/wildebeest/wildebeest/core/VectorTime" = true := by first | (simp [plainName, overriddenIn]; done) | decide +kernel
theorem ef_vtInit (m : MethodId) (a : Addr) (pn : Int32) (bl : Addr) (ph : Int32) (jh : Int64) : entryFrame m #[(.ref a), (.int pn), (.ref bl), (.int ph), (.long jh)] 6 = mkF m 0 #[.val (.ref a), .val (.int pn), .val (.ref bl), .val (.int ph), .val (.long jh), .second] [] := by first | (simp [entryFrame, mkF, argsToLocals, Value.category]; done) | rfl
def Q_vtInit (Z : State) (a : Addr) (pn : Int32) (bl : Addr) (ph : Int32) (jh : Int64) (u0 : Value) (u1 : Value) (u2 : Value) (u3 : Value) (h0 : Heap) (n0 : Nat) (v_ : Option Value) (h_ : Heap) (L_ : List Loc) : Prop := v_ = none ∧ Fr n0 L_ ∧ Keep h0 h_ [a] ∧ (Fld Z h_ a "com/example/wildebeest/wildebeest/core/VectorTime" "nodes" "I" (.int pn)) ∧ (Fld Z h_ a "com/example/wildebeest/wildebeest/core/VectorTime" "blocks" "[[J" (.ref bl)) ∧ (Fld Z h_ a "com/example/wildebeest/wildebeest/core/VectorTime" "held" "I" (.int ph)) ∧ (Fld Z h_ a "com/example/wildebeest/wildebeest/core/VectorTime" "heldValue" "J" (.long jh))
set_option maxRecDepth 65536 in
set_option maxHeartbeats 40000000 in
theorem rm_vtInit (l : Launch) (Z : State) (a0 : Array Value) (hw : ∀ d ∈ tables_1, d.before a0 Z = true) (ws : List Jvm.Cond) (a : Addr) (pn : Int32) (bl : Addr) (ph : Int32) (jh : Int64) (u0 : Value) (u1 : Value) (u2 : Value) (u3 : Value) (h0 : Heap) (n0 : Nat) (O0 : Old Z n0 h0) (E_a : Exa Z h0 a "com/example/wildebeest/wildebeest/core/VectorTime") (g_a : n0 ≤ a) (F_a_nodes : Fld Z h0 a "com/example/wildebeest/wildebeest/core/VectorTime" "nodes" "I" u0) (F_a_blocks : Fld Z h0 a "com/example/wildebeest/wildebeest/core/VectorTime" "blocks" "[[J" u1) (F_a_held : Fld Z h0 a "com/example/wildebeest/wildebeest/core/VectorTime" "held" "I" u2) (F_a_heldValue : Fld Z h0 a "com/example/wildebeest/wildebeest/core/VectorTime" "heldValue" "J" u3) :
    MetFree l (⟨"com/example/wildebeest/wildebeest/core/VectorTime", "<init>", "(I[[JIJ)V"⟩ : MethodName) (head1 (Jvm.Cond.code (⟨"com/example/wildebeest/wildebeest/core/VectorTime", "<init>", "(I[[JIJ)V"⟩ : MethodName) prog_53_method_1_code 6 none :: ws) ({ frames := 1, cells := 0, slots := 0, locals := 12 } : Room)) (fun aa_ U_ => aa_ = #[(.ref a), (.int pn), (.ref bl), (.int ph), (.long jh)] ∧ Z.Warmed39 U_.vm ∧ U_.heap = h0) (fun _ _ _ _ _ => True) (fun _ U_ o_ U_' => ∃ v_ L_, o_ = .returned v_ ∧ Q_vtInit Z a pn bl ph jh u0 u1 u2 u3 h0 n0 v_ U_'.heap L_ ∧ FrameEnd U_ o_ U_' L_ ({ frames := 1, cells := 0, slots := 0, locals := 12 } : Room).cells ({ frames := 1, cells := 0, slots := 0, locals := 12 } : Room).slots) := by
  refine MetFree.of_bodySF (plainFor_of_name pn_VectorTime) hisR ?_
  intro p e s m args below meth c s₁ Bd hml0 hP hK
  obtain ⟨rfl, hZ, hh⟩ := hP
  have hx := Bd.exec
  have hby := Bd.bytes
  have hml : c.maxLocals = 6 := hml0
  have hown : s.vm.findClass "com/example/wildebeest/wildebeest/core/VectorTime" = some m.cls := findClass_of_methodNamed Bd.named
  have hnm := (name_of_methodNamed Bd.named Bd.method).1
  have X0 : Stand p l e ({ frames := 1, cells := 0, slots := 0, locals := 12 } : Room) s m #[(.ref a), (.int pn), (.ref bl), (.int ph), (.long jh)] below meth c s₁ [] 0 0 := Stand.of_body Bd
  have e0 : s₁.heap = h0 := by rw [← hh, Bd.state]; rfl
  have N0 := Fr.nil n0
  have K0 : Keep h0 h0 [a] := Keep.refl h0 _
  have pre0 : ∀ z_, Steps p.tables e below (s₁.setTop (mkF m 0 #[.val (.ref a), .val (.int pn), .val (.ref bl), .val (.int ph), .val (.long jh), .second] [])) z_ → Steps p.tables e below (s₁.setTop (entryFrame m #[(.ref a), (.int pn), (.ref bl), (.int ph), (.long jh)] 6)) z_ := fun z_ k_ => castTop (ef_vtInit m a pn bl ph jh) k_
  have r0 : own_R p e below s₁ (mkF m 0 #[.val (.ref a), .val (.int pn), .val (.ref bl), .val (.int ph), .val (.long jh), .second] []) s₁ (mkF m 0 #[.val (.ref a), .val (.int pn), .val (.ref bl), .val (.int ph), .val (.long jh), .second] []) := own_R.refl
  have r1 : own_R p e below _ _ s₁ (mkF m 1 #[.val (.ref a), .val (.int pn), .val (.ref bl), .val (.int ph), .val (.long jh), .second] [(.ref a)]) := r0.trans fun z_ kt => by
    refine XS.aloadN X0.here hx rfl (hb hby d3_0) rfl rfl ?_
    exact kt
  obtain ⟨T2, X2, e2, st2⟩ := initO X0 hx hZ hown (hw _ (own_g (i := 19) rfl)) (hw _ (own_g (i := 20) rfl)) (hw _ (own_g (i := 21) rfl)) e0 (g := (mkF m 1 #[.val (.ref a), .val (.int pn), .val (.ref bl), .val (.int ph), .val (.long jh), .second] [(.ref a)])) rfl (by rw [hml]; rfl) rfl (hb hby d3_1) (by decide) (W := 0) (by show 2 * 0 + _ ≤ _; exact Nat.le_of_eq rfl) (by decide)
  have r2 : own_R p e below _ _ T2 (mkF m 4 #[.val (.ref a), .val (.int pn), .val (.ref bl), .val (.int ph), .val (.long jh), .second] []) := r1.trans fun z_ kt => st2 _ kt
  have r3 : own_R p e below _ _ T2 (mkF m 6 #[.val (.ref a), .val (.int pn), .val (.ref bl), .val (.int ph), .val (.long jh), .second] [(.int pn), (.ref a)]) := r2.trans fun z_ kt => by
    refine XS.aloadN X2.here hx rfl (hb hby d3_4) rfl rfl ?_
    refine XS.iloadN X2.here hx rfl (hb hby d3_5) rfl ?_
    exact kt
  obtain ⟨T4, h4, X4, e4, W4, st4⟩ := putF X2 hx hZ hown (host := "") (Or.inl (hw _ (own_g (i := 22) rfl))) Via.refl e2 F_a_nodes E_a (Or.inr ⟨(hw _ (own_g (i := 23) rfl)), rfl, hnm⟩) (hw _ (own_g (i := 15) rfl)) (ty := .int) (v := (.int pn)) (by decide) rfl rfl (g := (mkF m 6 #[.val (.ref a), .val (.int pn), .val (.ref bl), .val (.int ph), .val (.long jh), .second] [(.int pn), (.ref a)])) rfl rfl (hb hby d3_6)
  have r4 : own_R p e below _ _ T4 (mkF m 9 #[.val (.ref a), .val (.int pn), .val (.ref bl), .val (.int ph), .val (.long jh), .second] []) := r3.trans fun z_ kt => st4 _ kt
  have N4 := Fr.snoc X4 N0 g_a
  have O4 := O0.wr W4 g_a
  have K4 := K0.wr W4 (Or.inl (List.mem_of_getElem? (i := 0) rfl))
  have F4 := F_a_nodes.same W4
  have f5 := (F_a_blocks.other W4 (Or.inr (slot_ne (Or.inr (hw _ (own_g (i := 25) rfl))) (Or.inr (hw _ (own_g (i := 23) rfl))) (by decide) (t := (.array (.array .long))) (t' := .int) (by decide) (by decide))))
  have f6 := (E_a.wr W4)
  have r7 : own_R p e below _ _ T4 (mkF m 11 #[.val (.ref a), .val (.int pn), .val (.ref bl), .val (.int ph), .val (.long jh), .second] [(.ref bl), (.ref a)]) := r4.trans fun z_ kt => by
    refine XS.aloadN X4.here hx rfl (hb hby d3_9) rfl rfl ?_
    refine XS.aloadN X4.here hx rfl (hb hby d3_10) rfl rfl ?_
    exact kt
  obtain ⟨T8, h8, X8, e8, W8, st8⟩ := putF X4 hx hZ hown (host := "") (Or.inl (hw _ (own_g (i := 24) rfl))) Via.refl e4 f5 f6 (Or.inr ⟨(hw _ (own_g (i := 25) rfl)), rfl, hnm⟩) (hw _ (own_g (i := 15) rfl)) (ty := (.array (.array .long))) (v := (.ref bl)) (by decide) rfl rfl (g := (mkF m 11 #[.val (.ref a), .val (.int pn), .val (.ref bl), .val (.int ph), .val (.long jh), .second] [(.ref bl), (.ref a)])) rfl rfl (hb hby d3_11)
  have r8 : own_R p e below _ _ T8 (mkF m 14 #[.val (.ref a), .val (.int pn), .val (.ref bl), .val (.int ph), .val (.long jh), .second] []) := r7.trans fun z_ kt => st8 _ kt
  have N8 := Fr.snoc X8 N4 g_a
  have O8 := O4.wr W8 g_a
  have K8 := K4.wr W8 (Or.inl (List.mem_of_getElem? (i := 0) rfl))
  have F8 := f5.same W8
  have f9 := ((F_a_held.other W4 (Or.inr (slot_ne (Or.inr (hw _ (own_g (i := 27) rfl))) (Or.inr (hw _ (own_g (i := 23) rfl))) (by decide) (t := .int) (t' := .int) (by decide) (by decide)))).other W8 (Or.inr (slot_ne (Or.inr (hw _ (own_g (i := 27) rfl))) (Or.inr (hw _ (own_g (i := 25) rfl))) (by decide) (t := .int) (t' := (.array (.array .long))) (by decide) (by decide))))
  have f10 := (f6.wr W8)
  have r11 : own_R p e below _ _ T8 (mkF m 16 #[.val (.ref a), .val (.int pn), .val (.ref bl), .val (.int ph), .val (.long jh), .second] [(.int ph), (.ref a)]) := r8.trans fun z_ kt => by
    refine XS.aloadN X8.here hx rfl (hb hby d3_14) rfl rfl ?_
    refine XS.iloadN X8.here hx rfl (hb hby d3_15) rfl ?_
    exact kt
  obtain ⟨T12, h12, X12, e12, W12, st12⟩ := putF X8 hx hZ hown (host := "") (Or.inl (hw _ (own_g (i := 26) rfl))) Via.refl e8 f9 f10 (Or.inr ⟨(hw _ (own_g (i := 27) rfl)), rfl, hnm⟩) (hw _ (own_g (i := 15) rfl)) (ty := .int) (v := (.int ph)) (by decide) rfl rfl (g := (mkF m 16 #[.val (.ref a), .val (.int pn), .val (.ref bl), .val (.int ph), .val (.long jh), .second] [(.int ph), (.ref a)])) rfl rfl (hb hby d3_16)
  have r12 : own_R p e below _ _ T12 (mkF m 19 #[.val (.ref a), .val (.int pn), .val (.ref bl), .val (.int ph), .val (.long jh), .second] []) := r11.trans fun z_ kt => st12 _ kt
  have N12 := Fr.snoc X12 N8 g_a
  have O12 := O8.wr W12 g_a
  have K12 := K8.wr W12 (Or.inl (List.mem_of_getElem? (i := 0) rfl))
  have F12 := f9.same W12
  have f13 := (((F_a_heldValue.other W4 (Or.inr (slot_ne (Or.inr (hw _ (own_g (i := 29) rfl))) (Or.inr (hw _ (own_g (i := 23) rfl))) (by decide) (t := .long) (t' := .int) (by decide) (by decide)))).other W8 (Or.inr (slot_ne (Or.inr (hw _ (own_g (i := 29) rfl))) (Or.inr (hw _ (own_g (i := 25) rfl))) (by decide) (t := .long) (t' := (.array (.array .long))) (by decide) (by decide)))).other W12 (Or.inr (slot_ne (Or.inr (hw _ (own_g (i := 29) rfl))) (Or.inr (hw _ (own_g (i := 27) rfl))) (by decide) (t := .long) (t' := .int) (by decide) (by decide))))
  have f14 := (f10.wr W12)
  have r15 : own_R p e below _ _ T12 (mkF m 22 #[.val (.ref a), .val (.int pn), .val (.ref bl), .val (.int ph), .val (.long jh), .second] [(.long jh), (.ref a)]) := r12.trans fun z_ kt => by
    refine XS.aloadN X12.here hx rfl (hb hby d3_19) rfl rfl ?_
    refine XS.lload X12.here hx rfl (hb hby d3_20) rfl ?_
    exact kt
  obtain ⟨T16, h16, X16, e16, W16, st16⟩ := putF X12 hx hZ hown (host := "") (Or.inl (hw _ (own_g (i := 28) rfl))) Via.refl e12 f13 f14 (Or.inr ⟨(hw _ (own_g (i := 29) rfl)), rfl, hnm⟩) (hw _ (own_g (i := 15) rfl)) (ty := .long) (v := (.long jh)) (by decide) rfl rfl (g := (mkF m 22 #[.val (.ref a), .val (.int pn), .val (.ref bl), .val (.int ph), .val (.long jh), .second] [(.long jh), (.ref a)])) rfl rfl (hb hby d3_22)
  have r16 : own_R p e below _ _ T16 (mkF m 25 #[.val (.ref a), .val (.int pn), .val (.ref bl), .val (.int ph), .val (.long jh), .second] []) := r15.trans fun z_ kt => st16 _ kt
  have N16 := Fr.snoc X16 N12 g_a
  have O16 := O12.wr W16 g_a
  have K16 := K12.wr W16 (Or.inl (List.mem_of_getElem? (i := 0) rfl))
  have F16 := f13.same W16
  have f17 := (((F4.other W8 (Or.inr (slot_ne (Or.inr (hw _ (own_g (i := 23) rfl))) (Or.inr (hw _ (own_g (i := 25) rfl))) (by decide) (t := .int) (t' := (.array (.array .long))) (by decide) (by decide)))).other W12 (Or.inr (slot_ne (Or.inr (hw _ (own_g (i := 23) rfl))) (Or.inr (hw _ (own_g (i := 27) rfl))) (by decide) (t := .int) (t' := .int) (by decide) (by decide)))).other W16 (Or.inr (slot_ne (Or.inr (hw _ (own_g (i := 23) rfl))) (Or.inr (hw _ (own_g (i := 29) rfl))) (by decide) (t := .int) (t' := .long) (by decide) (by decide))))
  have f18 := ((F8.other W12 (Or.inr (slot_ne (Or.inr (hw _ (own_g (i := 25) rfl))) (Or.inr (hw _ (own_g (i := 27) rfl))) (by decide) (t := (.array (.array .long))) (t' := .int) (by decide) (by decide)))).other W16 (Or.inr (slot_ne (Or.inr (hw _ (own_g (i := 25) rfl))) (Or.inr (hw _ (own_g (i := 29) rfl))) (by decide) (t := (.array (.array .long))) (t' := .long) (by decide) (by decide))))
  have f19 := (F12.other W16 (Or.inr (slot_ne (Or.inr (hw _ (own_g (i := 27) rfl))) (Or.inr (hw _ (own_g (i := 29) rfl))) (by decide) (t := .int) (t' := .long) (by decide) (by decide))))
  obtain ⟨fs_, hr_, hrun_, hended_, hW_, hsame_⟩ := X16.leave (v := none) (fun _ => rfl)
  refine ⟨_, _, pre0 _ (r16 _ ?_), hrun_, hended_, _, _, rfl, ?_, ⟨_, rfl⟩, hW_, hsame_.mono (by decide) (by decide)⟩
  · exact X16.returnOut hx Bd.returns (hb hby d3_25) hr_
  · show Q_vtInit Z a pn bl ph jh u0 u1 u2 u3 h0 n0 _ T16.heap _
    rw [e16]
    exact ⟨rfl, N16, K16, f17, f18, f19, F16⟩

theorem d2_0 : decode prog_53_method_3_code 0 = .ok (.iload_n 0, 1) := by decide +kernel
theorem d2_1 : decode prog_53_method_3_code 1 = .ok (.bipush 32, 2) := by decide +kernel
theorem d2_3 : decode prog_53_method_3_code 3 = .ok (.iadd, 1) := by decide +kernel
theorem d2_4 : decode prog_53_method_3_code 4 = .ok (.iconst 1, 1) := by decide +kernel
theorem d2_5 : decode prog_53_method_3_code 5 = .ok (.isub, 1) := by decide +kernel
theorem d2_6 : decode prog_53_method_3_code 6 = .ok (.bipush 32, 2) := by decide +kernel
theorem d2_8 : decode prog_53_method_3_code 8 = .ok (.idiv, 1) := by decide +kernel
theorem d2_9 : decode prog_53_method_3_code 9 = .ok (.anewarray 46, 3) := by decide +kernel
theorem d2_12 : decode prog_53_method_3_code 12 = .ok (.astore_n 1, 1) := by decide +kernel
theorem d2_13 : decode prog_53_method_3_code 13 = .ok (.iconst 0, 1) := by decide +kernel
theorem d2_14 : decode prog_53_method_3_code 14 = .ok (.istore_n 2, 1) := by decide +kernel
theorem d2_15 : decode prog_53_method_3_code 15 = .ok (.iload_n 2, 1) := by decide +kernel
theorem d2_16 : decode prog_53_method_3_code 16 = .ok (.aload_n 1, 1) := by decide +kernel
theorem d2_17 : decode prog_53_method_3_code 17 = .ok (.arraylength, 1) := by decide +kernel
theorem d2_18 : decode prog_53_method_3_code 18 = .ok (.if_icmp .ge 15, 3) := by decide +kernel
theorem d2_21 : decode prog_53_method_3_code 21 = .ok (.aload_n 1, 1) := by decide +kernel
theorem d2_22 : decode prog_53_method_3_code 22 = .ok (.iload_n 2, 1) := by decide +kernel
theorem d2_23 : decode prog_53_method_3_code 23 = .ok (.getstatic 39, 3) := by decide +kernel
theorem d2_26 : decode prog_53_method_3_code 26 = .ok (.aastore, 1) := by decide +kernel
theorem d2_27 : decode prog_53_method_3_code 27 = .ok (.iinc 2 1, 3) := by decide +kernel
theorem d2_30 : decode prog_53_method_3_code 30 = .ok (.goto (-15), 3) := by decide +kernel
theorem d2_33 : decode prog_53_method_3_code 33 = .ok (.aload_n 1, 1) := by decide +kernel
theorem d2_34 : decode prog_53_method_3_code 34 = .ok (.areturn, 1) := by decide +kernel
theorem ef_blocks (m : MethodId)  : entryFrame m #[(.int (2 : Int32))] 3 = mkF m 0 #[.val (.int (2 : Int32)), .unset, .unset] [] := by first | (simp [entryFrame, mkF, argsToLocals, Value.category]; done) | rfl
def Q_blocks (Z : State) (s_ZV : Addr) (h0 : Heap) (n0 : Nat) (v_ : Option Value) (h_ : Heap) (L_ : List Loc) : Prop := ∃ (bl : Addr) (kb : ClassId), v_ = some (.ref bl) ∧ Fr n0 L_ ∧ Keep h0 h_ [] ∧ (h0.size ≤ bl) ∧ (Arv Z h_ bl kb (.array .long) (1 : Int32) [(.ref s_ZV)] .null) ∧ (OvrA Z kb .long "[J")
set_option maxRecDepth 65536 in
set_option maxHeartbeats 40000000 in
theorem rm_blocks (l : Launch) (Z : State) (a0 : Array Value) (hw : ∀ d ∈ tables_1, d.before a0 Z = true) (ws : List Jvm.Cond) (s_ZV : Addr) (h0 : Heap) (n0 : Nat) (O0 : Old Z n0 h0) (S_VectorTime_ZERO : Sta Z Z.heap "com/example/wildebeest/wildebeest/core/VectorTime" "ZERO" "[J" (.ref s_ZV)) (OE_s_ZV : Exa Z Z.heap s_ZV "[J") :
    MetFree l (⟨"com/example/wildebeest/wildebeest/core/VectorTime", "blocksFor", "(I)[[J"⟩ : MethodName) (head1 (Jvm.Cond.code (⟨"com/example/wildebeest/wildebeest/core/VectorTime", "blocksFor", "(I)[[J"⟩ : MethodName) prog_53_method_3_code 3 (some (.array (.array .long))) :: ws) ({ frames := 0, cells := 1, slots := 1, locals := 0 } : Room)) (fun aa_ U_ => aa_ = #[(.int (2 : Int32))] ∧ Z.Warmed39 U_.vm ∧ U_.heap = h0) (fun _ _ _ _ _ => True) (fun _ U_ o_ U_' => ∃ v_ L_, o_ = .returned v_ ∧ Q_blocks Z s_ZV h0 n0 v_ U_'.heap L_ ∧ FrameEnd U_ o_ U_' L_ ({ frames := 0, cells := 1, slots := 1, locals := 0 } : Room).cells ({ frames := 0, cells := 1, slots := 1, locals := 0 } : Room).slots) := by
  refine MetFree.of_bodySF (plainFor_of_name pn_VectorTime) hisR ?_
  intro p e s m args below meth c s₁ Bd hml0 hP hK
  obtain ⟨rfl, hZ, hh⟩ := hP
  have hx := Bd.exec
  have hby := Bd.bytes
  have hml : c.maxLocals = 3 := hml0
  have hown : s.vm.findClass "com/example/wildebeest/wildebeest/core/VectorTime" = some m.cls := findClass_of_methodNamed Bd.named
  have hnm := (name_of_methodNamed Bd.named Bd.method).1
  have X0 : Stand p l e ({ frames := 0, cells := 1, slots := 1, locals := 0 } : Room) s m #[(.int (2 : Int32))] below meth c s₁ [] 0 0 := Stand.of_body Bd
  have e0 : s₁.heap = h0 := by rw [← hh, Bd.state]; rfl
  have N0 := Fr.nil n0
  have K0 : Keep h0 h0 [] := Keep.refl h0 _
  have pre0 : ∀ z_, Steps p.tables e below (s₁.setTop (mkF m 0 #[.val (.int (2 : Int32)), .unset, .unset] [])) z_ → Steps p.tables e below (s₁.setTop (entryFrame m #[(.int (2 : Int32))] 3)) z_ := fun z_ k_ => castTop (ef_blocks m ) k_
  have r0 : own_R p e below s₁ (mkF m 0 #[.val (.int (2 : Int32)), .unset, .unset] []) s₁ (mkF m 0 #[.val (.int (2 : Int32)), .unset, .unset] []) := own_R.refl
  have r1 : own_R p e below _ _ s₁ (mkF m 9 #[.val (.int (2 : Int32)), .unset, .unset] [(.int (1 : Int32))]) := r0.trans fun z_ kt => by
    refine XS.iloadN X0.here hx rfl (hb hby d2_0) rfl ?_
    refine XS.bipush X0.here hx rfl (hb hby d2_1) ?_
    refine XS.iadd X0.here hx rfl (hb hby d2_3) rfl ?_
    refine XS.iconst X0.here hx rfl (hb hby d2_4) ?_
    refine XS.isub X0.here hx rfl (hb hby d2_5) rfl ?_
    refine XS.bipush X0.here hx rfl (hb hby d2_6) ?_
    refine XS.idiv X0.here hx rfl (hb hby d2_8) rfl (by decide) ?_
    exact kt
  obtain ⟨T2, h2, k2, X2, e2, E2, A2, -, Ov2, st2⟩ := newRA X0 hx hZ hown (ty := .long) rfl (hw _ (own_g (i := 9) rfl)) (hw _ (own_g (i := 10) rfl)) e0 (g := (mkF m 9 #[.val (.int (2 : Int32)), .unset, .unset] [(.int (1 : Int32))])) rfl (hb hby d2_9) rfl (by decide) (cap := 1) (by decide) (by decide) (by decide) (by decide) (ad := "[[J") rfl
  obtain ⟨b2, g2⟩ : ∃ z, z = h0.size := ⟨_, rfl⟩
  rw [← g2] at A2 st2
  have r2 : own_R p e below _ _ T2 (mkF m 12 #[.val (.int (2 : Int32)), .unset, .unset] [(.ref b2)]) := r1.trans fun z_ kt => st2 _ kt
  have g_b2 : n0 ≤ b2 := Nat.le_trans (own_old_size O0) (Nat.le_of_eq g2.symm)
  have sz_b2 : h0.size ≤ b2 := Nat.le_trans K0.1 (Nat.le_of_eq g2.symm)
  have O2 := O0.ext E2
  have K2 := K0.ext E2
  have V2 : Arv Z h2 b2 k2 (.array .long) (1 : Int32) [.null] .null := (Arv.new A2 (by decide)).pad (pad_rep [] .null 1)
  have r4 : own_R p e below _ _ T2 (mkF m 17 #[.val (.int (2 : Int32)), .val (.ref b2), .val (.int (0 : Int32))] [(.ref b2), (.int (0 : Int32))]) := r2.trans fun z_ kt => by
    refine XS.astoreN X2.here hx rfl (hb hby d2_12) rfl rfl (l' := #[.val (.int (2 : Int32)), .val (.ref b2), .unset]) rfl ?_
    refine XS.iconst X2.here hx rfl (hb hby d2_13) ?_
    refine XS.istoreN X2.here hx rfl (hb hby d2_14) rfl (l' := #[.val (.int (2 : Int32)), .val (.ref b2), .val (.int (0 : Int32))]) rfl ?_
    refine XS.iloadN X2.here hx rfl (hb hby d2_15) rfl ?_
    refine XS.aloadN X2.here hx rfl (hb hby d2_16) rfl rfl ?_
    exact kt
  obtain ⟨cl3, Ar3, q3, S3, M3, H3, G3⟩ := id V2
  have r5 : own_R p e below _ _ T2 (mkF m 23 #[.val (.int (2 : Int32)), .val (.ref b2), .val (.int (0 : Int32))] [(.int (0 : Int32)), (.ref b2)]) := r4.trans fun z_ kt => by
    refine X2.arraylength hx (by rw [e2]; exact Ar3.1) (State.isArrayOf_alike hZ.alike Ar3.2.1) (g := (mkF m 17 #[.val (.int (2 : Int32)), .val (.ref b2), .val (.int (0 : Int32))] [(.ref b2), (.int (0 : Int32))])) rfl rfl (hb hby d2_17) _ ?_
    rw [len_of S3 M3]
    refine XS.icmpNo X2.here hx rfl (hb hby d2_18) rfl (tlt (by decide : (0 : Int32) < (1 : Int32))).2.1 ?_
    refine XS.aloadN X2.here hx rfl (hb hby d2_21) rfl rfl ?_
    refine XS.iloadN X2.here hx rfl (hb hby d2_22) rfl ?_
    exact kt
  obtain ⟨T6, X6, e6, st6⟩ := getS2 X2 hx hZ hown (host := "") (Or.inl (hw _ (own_g (i := 11) rfl))) Via.refl e2 (S_VectorTime_ZERO.ext O2.2) (g := (mkF m 23 #[.val (.int (2 : Int32)), .val (.ref b2), .val (.int (0 : Int32))] [(.int (0 : Int32)), (.ref b2)])) rfl (hb hby d2_23)
  have r6 : own_R p e below _ _ T6 (mkF m 26 #[.val (.int (2 : Int32)), .val (.ref b2), .val (.int (0 : Int32))] [(.ref s_ZV), (.int (0 : Int32)), (.ref b2)]) := r5.trans fun z_ kt => st6 _ kt
  obtain ⟨cl7, Ar7, q7, S7, M7, H7, G7⟩ := id V2
  have hin7 : ¬ ((0 : Int32) < 0 ∨ cl7.slots.size ≤ ((0 : Int32)).toNatClampNeg) := inb_of S7 ⟨by decide, by decide⟩
  obtain ⟨T8, h8, X8, e8, W8, st8⟩ := stR X6 hx hZ e6 Ar7 (j := (0 : Int32)) hin7 rfl (Sto.ofVA Ar7 q7 Ov2 (Ins.self (OE_s_ZV.ext O2.2))) (g := (mkF m 26 #[.val (.int (2 : Int32)), .val (.ref b2), .val (.int (0 : Int32))] [(.ref s_ZV), (.int (0 : Int32)), (.ref b2)])) rfl rfl (hb hby d2_26)
  have r8 : own_R p e below _ _ T8 (mkF m 27 #[.val (.int (2 : Int32)), .val (.ref b2), .val (.int (0 : Int32))] []) := r6.trans fun z_ kt => st8 _ kt
  have N8 := Fr.snoc X8 N0 g_b2
  have O8 := O2.wr W8 g_b2
  have K8 := K2.wr W8 (Or.inr sz_b2)
  have V8 : Arv Z h8 b2 k2 (.array .long) (1 : Int32) [(.ref s_ZV)] .null := Arv.set Ar7 q7 S7 M7 H7 G7 rfl W8 0 rfl (Nat.le_of_ble_eq_true rfl)
  have r10 : own_R p e below _ _ T8 (mkF m 17 #[.val (.int (2 : Int32)), .val (.ref b2), .val (.int (1 : Int32))] [(.ref b2), (.int (1 : Int32))]) := r8.trans fun z_ kt => by
    refine XS.iinc X8.here hx rfl (hb hby d2_27) rfl (l' := #[.val (.int (2 : Int32)), .val (.ref b2), .val (.int (1 : Int32))]) rfl ?_
    refine XS.goto X8.here hx rfl (pc0 := 30) (pc' := 15) rfl (hb hby d2_30) (by decide) (by decide) ?_
    refine XS.iloadN X8.here hx rfl (hb hby d2_15) rfl ?_
    refine XS.aloadN X8.here hx rfl (hb hby d2_16) rfl rfl ?_
    exact kt
  obtain ⟨cl9, Ar9, q9, S9, M9, H9, G9⟩ := id V8
  have r11 : own_R p e below _ _ T8 (mkF m 34 #[.val (.int (2 : Int32)), .val (.ref b2), .val (.int (1 : Int32))] [(.ref b2)]) := r10.trans fun z_ kt => by
    refine X8.arraylength hx (by rw [e8]; exact Ar9.1) (State.isArrayOf_alike hZ.alike Ar9.2.1) (g := (mkF m 17 #[.val (.int (2 : Int32)), .val (.ref b2), .val (.int (1 : Int32))] [(.ref b2), (.int (1 : Int32))])) rfl rfl (hb hby d2_17) _ ?_
    rw [len_of S9 M9]
    refine XS.icmpYes X8.here hx rfl (pc0 := 18) (pc' := 33) rfl (hb hby d2_18) rfl (flt (by decide : ¬ ((1 : Int32) < (1 : Int32)))).2.1 (by decide) (by decide) ?_
    refine XS.aloadN X8.here hx rfl (hb hby d2_33) rfl rfl ?_
    exact kt
  obtain ⟨fs_, hr_, hrun_, hended_, hW_, hsame_⟩ := X8.leave (v := some (.ref b2)) (fun h => by rw [Bd.returns] at h; cases h)
  refine ⟨_, _, pre0 _ (r11 _ ?_), hrun_, hended_, _, _, rfl, ?_, ⟨_, rfl⟩, hW_, hsame_.mono (by decide) (by decide)⟩
  · exact retOut X8 hx Bd.returns rfl (Or.inr (Or.inr (Or.inr (Or.inr ⟨rfl, rfl, rfl⟩)))) (hb hby d2_34) hr_
  · show Q_blocks Z s_ZV h0 n0 _ T8.heap _
    rw [e8]
    exact ⟨b2, k2, rfl, N8, K8, sz_b2, V8, Ov2⟩

theorem d1_0 : decode prog_53_method_2_code 0 = .ok (.aload_n 0, 1) := by decide +kernel
theorem d1_1 : decode prog_53_method_2_code 1 = .ok (.arraylength, 1) := by decide +kernel
theorem d1_2 : decode prog_53_method_2_code 2 = .ok (.ifCond .ne 13, 3) := by decide +kernel
theorem d1_15 : decode prog_53_method_2_code 15 = .ok (.aload_n 0, 1) := by decide +kernel
theorem d1_16 : decode prog_53_method_2_code 16 = .ok (.arraylength, 1) := by decide +kernel
theorem d1_17 : decode prog_53_method_2_code 17 = .ok (.invokestatic 31, 3) := by decide +kernel
theorem pd_0 : parseMethodDescriptor "(I)[[J" = some ⟨[.int], some (.array (.array .long))⟩ := by decide +kernel
theorem d1_20 : decode prog_53_method_2_code 20 = .ok (.astore_n 1, 1) := by decide +kernel
theorem d1_21 : decode prog_53_method_2_code 21 = .ok (.iconst 0, 1) := by decide +kernel
theorem d1_22 : decode prog_53_method_2_code 22 = .ok (.istore_n 2, 1) := by decide +kernel
theorem d1_23 : decode prog_53_method_2_code 23 = .ok (.iload_n 2, 1) := by decide +kernel
theorem d1_24 : decode prog_53_method_2_code 24 = .ok (.aload_n 1, 1) := by decide +kernel
theorem d1_25 : decode prog_53_method_2_code 25 = .ok (.arraylength, 1) := by decide +kernel
theorem d1_26 : decode prog_53_method_2_code 26 = .ok (.if_icmp .ge 116, 3) := by decide +kernel
theorem d1_29 : decode prog_53_method_2_code 29 = .ok (.bipush 32, 2) := by decide +kernel
theorem d1_31 : decode prog_53_method_2_code 31 = .ok (.newarray .long, 2) := by decide +kernel
theorem d1_33 : decode prog_53_method_2_code 33 = .ok (.astore_n 3, 1) := by decide +kernel
theorem d1_34 : decode prog_53_method_2_code 34 = .ok (.iconst 1, 1) := by decide +kernel
theorem d1_35 : decode prog_53_method_2_code 35 = .ok (.istore 4, 2) := by decide +kernel
theorem d1_37 : decode prog_53_method_2_code 37 = .ok (.iconst 0, 1) := by decide +kernel
theorem d1_38 : decode prog_53_method_2_code 38 = .ok (.istore 5, 2) := by decide +kernel
theorem d1_40 : decode prog_53_method_2_code 40 = .ok (.iload 5, 2) := by decide +kernel
theorem d1_42 : decode prog_53_method_2_code 42 = .ok (.bipush 32, 2) := by decide +kernel
theorem d1_44 : decode prog_53_method_2_code 44 = .ok (.if_icmp .ge 77, 3) := by decide +kernel
theorem d1_47 : decode prog_53_method_2_code 47 = .ok (.iload_n 2, 1) := by decide +kernel
theorem d1_48 : decode prog_53_method_2_code 48 = .ok (.bipush 32, 2) := by decide +kernel
theorem d1_50 : decode prog_53_method_2_code 50 = .ok (.imul, 1) := by decide +kernel
theorem d1_51 : decode prog_53_method_2_code 51 = .ok (.iload 5, 2) := by decide +kernel
theorem d1_53 : decode prog_53_method_2_code 53 = .ok (.iadd, 1) := by decide +kernel
theorem d1_54 : decode prog_53_method_2_code 54 = .ok (.aload_n 0, 1) := by decide +kernel
theorem d1_55 : decode prog_53_method_2_code 55 = .ok (.arraylength, 1) := by decide +kernel
theorem d1_56 : decode prog_53_method_2_code 56 = .ok (.if_icmp .ge 65, 3) := by decide +kernel
theorem d1_59 : decode prog_53_method_2_code 59 = .ok (.aload_n 0, 1) := by decide +kernel
theorem d1_60 : decode prog_53_method_2_code 60 = .ok (.iload_n 2, 1) := by decide +kernel
theorem d1_61 : decode prog_53_method_2_code 61 = .ok (.bipush 32, 2) := by decide +kernel
theorem d1_63 : decode prog_53_method_2_code 63 = .ok (.imul, 1) := by decide +kernel
theorem d1_64 : decode prog_53_method_2_code 64 = .ok (.iload 5, 2) := by decide +kernel
theorem d1_66 : decode prog_53_method_2_code 66 = .ok (.iadd, 1) := by decide +kernel
theorem d1_67 : decode prog_53_method_2_code 67 = .ok (.laload, 1) := by decide +kernel
theorem d1_68 : decode prog_53_method_2_code 68 = .ok (.lstore 6, 2) := by decide +kernel
theorem d1_70 : decode prog_53_method_2_code 70 = .ok (.lload 6, 2) := by decide +kernel
theorem d1_72 : decode prog_53_method_2_code 72 = .ok (.lconst 0, 1) := by decide +kernel
theorem d1_73 : decode prog_53_method_2_code 73 = .ok (.lcmp, 1) := by decide +kernel
theorem d1_74 : decode prog_53_method_2_code 74 = .ok (.ifCond .ge 18, 3) := by decide +kernel
theorem d1_92 : decode prog_53_method_2_code 92 = .ok (.aload_n 3, 1) := by decide +kernel
theorem d1_93 : decode prog_53_method_2_code 93 = .ok (.iload 5, 2) := by decide +kernel
theorem d1_95 : decode prog_53_method_2_code 95 = .ok (.lload 6, 2) := by decide +kernel
theorem d1_97 : decode prog_53_method_2_code 97 = .ok (.lastore, 1) := by decide +kernel
theorem d1_98 : decode prog_53_method_2_code 98 = .ok (.iload 4, 2) := by decide +kernel
theorem d1_100 : decode prog_53_method_2_code 100 = .ok (.lload 6, 2) := by decide +kernel
theorem d1_102 : decode prog_53_method_2_code 102 = .ok (.lconst 0, 1) := by decide +kernel
theorem d1_103 : decode prog_53_method_2_code 103 = .ok (.lcmp, 1) := by decide +kernel
theorem d1_104 : decode prog_53_method_2_code 104 = .ok (.ifCond .ne 7, 3) := by decide +kernel
theorem d1_107 : decode prog_53_method_2_code 107 = .ok (.iconst 1, 1) := by decide +kernel
theorem d1_108 : decode prog_53_method_2_code 108 = .ok (.goto 4, 3) := by decide +kernel
theorem d1_111 : decode prog_53_method_2_code 111 = .ok (.iconst 0, 1) := by decide +kernel
theorem d1_112 : decode prog_53_method_2_code 112 = .ok (.iand, 1) := by decide +kernel
theorem d1_113 : decode prog_53_method_2_code 113 = .ok (.istore 4, 2) := by decide +kernel
theorem d1_115 : decode prog_53_method_2_code 115 = .ok (.iinc 5 1, 3) := by decide +kernel
theorem d1_118 : decode prog_53_method_2_code 118 = .ok (.goto (-78), 3) := by decide +kernel
theorem d1_121 : decode prog_53_method_2_code 121 = .ok (.aload_n 1, 1) := by decide +kernel
theorem d1_122 : decode prog_53_method_2_code 122 = .ok (.iload_n 2, 1) := by decide +kernel
theorem d1_123 : decode prog_53_method_2_code 123 = .ok (.iload 4, 2) := by decide +kernel
theorem d1_125 : decode prog_53_method_2_code 125 = .ok (.ifCond .eq 9, 3) := by decide +kernel
theorem d1_134 : decode prog_53_method_2_code 134 = .ok (.aload_n 3, 1) := by decide +kernel
theorem d1_135 : decode prog_53_method_2_code 135 = .ok (.aastore, 1) := by decide +kernel
theorem d1_136 : decode prog_53_method_2_code 136 = .ok (.iinc 2 1, 3) := by decide +kernel
theorem d1_139 : decode prog_53_method_2_code 139 = .ok (.goto (-116), 3) := by decide +kernel
theorem d1_142 : decode prog_53_method_2_code 142 = .ok (.new 8, 3) := by decide +kernel
theorem d1_145 : decode prog_53_method_2_code 145 = .ok (.dup, 1) := by decide +kernel
theorem d1_146 : decode prog_53_method_2_code 146 = .ok (.aload_n 0, 1) := by decide +kernel
theorem d1_147 : decode prog_53_method_2_code 147 = .ok (.arraylength, 1) := by decide +kernel
theorem d1_148 : decode prog_53_method_2_code 148 = .ok (.aload_n 1, 1) := by decide +kernel
theorem d1_149 : decode prog_53_method_2_code 149 = .ok (.iconst (-1), 1) := by decide +kernel
theorem d1_150 : decode prog_53_method_2_code 150 = .ok (.lconst 0, 1) := by decide +kernel
theorem d1_151 : decode prog_53_method_2_code 151 = .ok (.invokespecial 43, 3) := by decide +kernel
theorem pd_1 : parseMethodDescriptor "(I[[JIJ)V" = some ⟨[.int, (.array (.array .long)), .int, .long], none⟩ := by decide +kernel
theorem d1_154 : decode prog_53_method_2_code 154 = .ok (.areturn, 1) := by decide +kernel
theorem d1_128 : decode prog_53_method_2_code 128 = .ok (.getstatic 39, 3) := by decide +kernel
theorem d1_131 : decode prog_53_method_2_code 131 = .ok (.goto 4, 3) := by decide +kernel
theorem ef_of (m : MethodId) (aa : Addr) : entryFrame m #[(.ref aa)] 8 = mkF m 0 #[.val (.ref aa), .unset, .unset, .unset, .unset, .unset, .unset, .unset] [] := by first | (simp [entryFrame, mkF, argsToLocals, Value.category]; done) | rfl
def Q_of (Z : State) (aa : Addr) (ka : ClassId) (j1 : Int64) (j2 : Int64) (s_ZV : Addr) (kz : ClassId) (vz : List Value) (h0 : Heap) (n0 : Nat) (v_ : Option Value) (h_ : Heap) (L_ : List Loc) : Prop := ∃ (v : Addr) (bl : Addr) (kb : ClassId) (en : Addr) (ke : ClassId) (vse : List Value), v_ = some (.ref v) ∧ Fr n0 L_ ∧ Keep h0 h_ [] ∧ (h0.size ≤ v) ∧ (h0.size ≤ bl) ∧ (Exa Z h_ v "com/example/wildebeest/wildebeest/core/VectorTime") ∧ (Fld Z h_ v "com/example/wildebeest/wildebeest/core/VectorTime" "nodes" "I" (.int (2 : Int32))) ∧ (Fld Z h_ v "com/example/wildebeest/wildebeest/core/VectorTime" "blocks" "[[J" (.ref bl)) ∧ (Fld Z h_ v "com/example/wildebeest/wildebeest/core/VectorTime" "held" "I" (.int (-1 : Int32))) ∧ (Fld Z h_ v "com/example/wildebeest/wildebeest/core/VectorTime" "heldValue" "J" (.long (0 : Int64))) ∧ (Arv Z h_ bl kb (.array .long) (1 : Int32) [(.ref en)] .null) ∧ (Arv Z h_ en ke .long (32 : Int32) vse (.long (0 : Int64)))
set_option maxRecDepth 65536 in
set_option maxHeartbeats 40000000 in
theorem rm_of (l : Launch) (Z : State) (a0 : Array Value) (hw : ∀ d ∈ tables_1, d.before a0 Z = true) (ws : List Jvm.Cond) (aa : Addr) (ka : ClassId) (j1 : Int64) (j2 : Int64) (s_ZV : Addr) (kz : ClassId) (vz : List Value) (h0 : Heap) (n0 : Nat) (O0 : Old Z n0 h0) (S_VectorTime_ZERO : Sta Z Z.heap "com/example/wildebeest/wildebeest/core/VectorTime" "ZERO" "[J" (.ref s_ZV)) (OE_s_ZV : Exa Z Z.heap s_ZV "[J") (OV_s_ZV : Arv Z Z.heap s_ZV kz .long (32 : Int32) vz (.long (0 : Int64))) (V_aa : Arv Z h0 aa ka .long (2 : Int32) [(.long j1), (.long j2)] (.long (0 : Int64))) (hj1 : 0 ≤ j1.toInt) (hj2 : 0 ≤ j2.toInt) :
    MetFree l (⟨"com/example/wildebeest/wildebeest/core/VectorTime", "of", "([J)Lcom/example/wildebeest/wildebeest/core/VectorTime;"⟩ : MethodName) (head1 (Jvm.Cond.code (⟨"com/example/wildebeest/wildebeest/core/VectorTime", "of", "([J)Lcom/example/wildebeest/wildebeest/core/VectorTime;"⟩ : MethodName) prog_53_method_2_code 8 (some (.object "com/example/wildebeest/wildebeest/core/VectorTime")) :: ws) ({ frames := 2, cells := 3, slots := 37, locals := 30 } : Room)) (fun aa_ U_ => aa_ = #[(.ref aa)] ∧ Z.Warmed39 U_.vm ∧ U_.heap = h0) (fun _ _ _ _ _ => True) (fun _ U_ o_ U_' => ∃ v_ L_, o_ = .returned v_ ∧ Q_of Z aa ka j1 j2 s_ZV kz vz h0 n0 v_ U_'.heap L_ ∧ FrameEnd U_ o_ U_' L_ ({ frames := 2, cells := 3, slots := 37, locals := 30 } : Room).cells ({ frames := 2, cells := 3, slots := 37, locals := 30 } : Room).slots) := by
  refine MetFree.of_bodySF (plainFor_of_name pn_VectorTime) hisR ?_
  intro p e s m args below meth c s₁ Bd hml0 hP hK
  obtain ⟨rfl, hZ, hh⟩ := hP
  have hx := Bd.exec
  have hby := Bd.bytes
  have hml : c.maxLocals = 8 := hml0
  have hown : s.vm.findClass "com/example/wildebeest/wildebeest/core/VectorTime" = some m.cls := findClass_of_methodNamed Bd.named
  have hnm := (name_of_methodNamed Bd.named Bd.method).1
  have X0 : Stand p l e ({ frames := 2, cells := 3, slots := 37, locals := 30 } : Room) s m #[(.ref aa)] below meth c s₁ [] 0 0 := Stand.of_body Bd
  have e0 : s₁.heap = h0 := by rw [← hh, Bd.state]; rfl
  have N0 := Fr.nil n0
  have K0 : Keep h0 h0 [] := Keep.refl h0 _
  have pre0 : ∀ z_, Steps p.tables e below (s₁.setTop (mkF m 0 #[.val (.ref aa), .unset, .unset, .unset, .unset, .unset, .unset, .unset] [])) z_ → Steps p.tables e below (s₁.setTop (entryFrame m #[(.ref aa)] 8)) z_ := fun z_ k_ => castTop (ef_of m aa) k_
  have r0 : own_R p e below s₁ (mkF m 0 #[.val (.ref aa), .unset, .unset, .unset, .unset, .unset, .unset, .unset] []) s₁ (mkF m 0 #[.val (.ref aa), .unset, .unset, .unset, .unset, .unset, .unset, .unset] []) := own_R.refl
  have r2 : own_R p e below _ _ s₁ (mkF m 1 #[.val (.ref aa), .unset, .unset, .unset, .unset, .unset, .unset, .unset] [(.ref aa)]) := r0.trans fun z_ kt => by
    refine XS.aloadN X0.here hx rfl (hb hby d1_0) rfl rfl ?_
    exact kt
  obtain ⟨cl1, Ar1, q1, S1, M1, H1, G1⟩ := id V_aa
  have r4 : own_R p e below _ _ s₁ (mkF m 16 #[.val (.ref aa), .unset, .unset, .unset, .unset, .unset, .unset, .unset] [(.ref aa)]) := r2.trans fun z_ kt => by
    refine X0.arraylength hx (by rw [e0]; exact Ar1.1) (State.isArrayOf_alike hZ.alike Ar1.2.1) (g := (mkF m 1 #[.val (.ref aa), .unset, .unset, .unset, .unset, .unset, .unset, .unset] [(.ref aa)])) rfl rfl (hb hby d1_1) _ ?_
    rw [len_of S1 M1]
    refine XS.ifYes X0.here hx rfl (pc0 := 2) (pc' := 15) rfl (hb hby d1_2) rfl ((if0 _ _).trans (feq (by decide : ¬ ((2 : Int32) = (0 : Int32)))).2) (by decide) (by decide) ?_
    refine XS.aloadN X0.here hx rfl (hb hby d1_15) rfl rfl ?_
    exact kt
  obtain ⟨cl3, Ar3, q3, S3, M3, H3, G3⟩ := id V_aa
  have r5 : own_R p e below _ _ s₁ (mkF m 17 #[.val (.ref aa), .unset, .unset, .unset, .unset, .unset, .unset, .unset] [(.int (2 : Int32))]) := r4.trans fun z_ kt => by
    refine X0.arraylength hx (by rw [e0]; exact Ar3.1) (State.isArrayOf_alike hZ.alike Ar3.2.1) (g := (mkF m 16 #[.val (.ref aa), .unset, .unset, .unset, .unset, .unset, .unset, .unset] [(.ref aa)])) rfl rfl (hb hby d1_16) _ ?_
    rw [len_of S3 M3]
    exact kt
  obtain ⟨_, _, ⟨T6, L6, cc6, n6⟩, -, X6, ⟨Lc6, hQ6, l6, y6, z6⟩, st6⟩ := Jvm.LawKit.callS X0 hx (y := (⟨"com/example/wildebeest/wildebeest/core/VectorTime", "blocksFor", "(I)[[J"⟩ : MethodName)) hown (mvT hZ (hw _ (own_g (i := 6) rfl))) (mvT hZ (hw _ (own_g (i := 7) rfl))) (mvT hZ (hw _ (own_g (i := 4) rfl))) (mvT hZ (hw _ (own_g (i := 8) rfl))) (by decide) (backOf (W := 0) (rm_blocks l Z a0 hw [] (s_ZV) h0 n0 O0 (S_VectorTime_ZERO) (OE_s_ZV)) hZ (hw _ (own_g (i := 8) rfl)) (hw _ (own_g (i := 4) rfl)) (by decide) (by decide)) (g := (mkF m 17 #[.val (.ref aa), .unset, .unset, .unset, .unset, .unset, .unset, .unset] [(.int (2 : Int32))])) rfl (by rw [hml]; rfl) (argsL := [(.int (2 : Int32))]) (rest := []) (lenOf pd_0 rfl) rfl (by show 2 * 0 + _ ≤ _; exact Nat.le_of_eq rfl) (hb hby d1_17) (fun _ _ => ⟨rfl, e0, (by decide : 0 + 1 ≤ _), (by decide : 0 + 1 ≤ _)⟩)
  dsimp only [Pt.U, Pt.locs, Pt.cells, Pt.slots] at X6 l6 y6 z6 st6 hQ6
  subst l6 y6 z6
  obtain ⟨h6, e6⟩ : ∃ z, T6.heap = z := ⟨_, rfl⟩
  rw [e6] at hQ6
  obtain ⟨bl_6, kb_6, rfl, Nq6, Kq6, p6_0, p6_1, p6_2⟩ := hQ6
  have N6 := Fr.app N0 Nq6
  have r6 : own_R p e below _ _ T6 (mkF m 20 #[.val (.ref aa), .unset, .unset, .unset, .unset, .unset, .unset, .unset] [(.ref bl_6)]) := r5.trans fun z_ kt => st6 _ kt
  have ne_aa_bl_6 : aa ≠ bl_6 := Nat.ne_of_lt (Nat.lt_of_lt_of_le V_aa.lt p6_0)
  have g_bl_6 : n0 ≤ bl_6 := Nat.le_trans (own_old_size O0) p6_0
  have sz_bl_6 : h0.size ≤ bl_6 := Nat.le_trans K0.1 p6_0
  have O6 := O0.keep Kq6 all0
  have K6 := K0.trans Kq6 all0
  have r8 : own_R p e below _ _ T6 (mkF m 25 #[.val (.ref aa), .val (.ref bl_6), .val (.int (0 : Int32)), .unset, .unset, .unset, .unset, .unset] [(.ref bl_6), (.int (0 : Int32))]) := r6.trans fun z_ kt => by
    refine XS.astoreN X6.here hx rfl (hb hby d1_20) rfl rfl (l' := #[.val (.ref aa), .val (.ref bl_6), .unset, .unset, .unset, .unset, .unset, .unset]) rfl ?_
    refine XS.iconst X6.here hx rfl (hb hby d1_21) ?_
    refine XS.istoreN X6.here hx rfl (hb hby d1_22) rfl (l' := #[.val (.ref aa), .val (.ref bl_6), .val (.int (0 : Int32)), .unset, .unset, .unset, .unset, .unset]) rfl ?_
    refine XS.iloadN X6.here hx rfl (hb hby d1_23) rfl ?_
    refine XS.aloadN X6.here hx rfl (hb hby d1_24) rfl rfl ?_
    exact kt
  obtain ⟨cl7, Ar7, q7, S7, M7, H7, G7⟩ := id p6_1
  have r9 : own_R p e below _ _ T6 (mkF m 31 #[.val (.ref aa), .val (.ref bl_6), .val (.int (0 : Int32)), .unset, .unset, .unset, .unset, .unset] [(.int (32 : Int32))]) := r8.trans fun z_ kt => by
    refine X6.arraylength hx (by rw [e6]; exact Ar7.1) (State.isArrayOf_alike hZ.alike Ar7.2.1) (g := (mkF m 25 #[.val (.ref aa), .val (.ref bl_6), .val (.int (0 : Int32)), .unset, .unset, .unset, .unset, .unset] [(.ref bl_6), (.int (0 : Int32))])) rfl rfl (hb hby d1_25) _ ?_
    rw [len_of S7 M7]
    refine XS.icmpNo X6.here hx rfl (hb hby d1_26) rfl (tlt (by decide : (0 : Int32) < (1 : Int32))).2.1 ?_
    refine XS.bipush X6.here hx rfl (hb hby d1_29) ?_
    exact kt
  obtain ⟨T10, h10, k10, X10, e10, E10, A10, B10, st10⟩ := newPE X6 hx hZ (hw _ (own_g (i := 0) rfl)) e6 (g := (mkF m 31 #[.val (.ref aa), .val (.ref bl_6), .val (.int (0 : Int32)), .unset, .unset, .unset, .unset, .unset] [(.int (32 : Int32))])) rfl (hb hby d1_31) rfl (by decide) (cap := 32) (by decide) (by decide) (by decide) (by decide) (ad := "[J") rfl
  obtain ⟨b10, g10⟩ : ∃ z, z = h6.size := ⟨_, rfl⟩
  rw [← g10] at A10 B10 st10
  have r10 : own_R p e below _ _ T10 (mkF m 33 #[.val (.ref aa), .val (.ref bl_6), .val (.int (0 : Int32)), .unset, .unset, .unset, .unset, .unset] [(.ref b10)]) := r9.trans fun z_ kt => st10 _ kt
  have f11 := (V_aa.keep Kq6 nin0)
  have ne_aa_b10 : aa ≠ b10 := Nat.ne_of_lt (Nat.lt_of_lt_of_le f11.lt (Nat.le_of_eq g10.symm))
  have ne_bl_6_b10 : bl_6 ≠ b10 := Nat.ne_of_lt (Nat.lt_of_lt_of_le p6_1.lt (Nat.le_of_eq g10.symm))
  have g_b10 : n0 ≤ b10 := Nat.le_trans (own_old_size O6) (Nat.le_of_eq g10.symm)
  have sz_b10 : h0.size ≤ b10 := Nat.le_trans K6.1 (Nat.le_of_eq g10.symm)
  have O10 := O6.ext E10
  have K10 := K6.ext E10
  have V10 : Arv Z h10 b10 k10 .long (32 : Int32) [(.long (0 : Int64)), (.long (0 : Int64)), (.long (0 : Int64)), (.long (0 : Int64)), (.long (0 : Int64)), (.long (0 : Int64)), (.long (0 : Int64)), (.long (0 : Int64)), (.long (0 : Int64)), (.long (0 : Int64)), (.long (0 : Int64)), (.long (0 : Int64)), (.long (0 : Int64)), (.long (0 : Int64)), (.long (0 : Int64)), (.long (0 : Int64)), (.long (0 : Int64)), (.long (0 : Int64)), (.long (0 : Int64)), (.long (0 : Int64)), (.long (0 : Int64)), (.long (0 : Int64)), (.long (0 : Int64)), (.long (0 : Int64)), (.long (0 : Int64)), (.long (0 : Int64)), (.long (0 : Int64)), (.long (0 : Int64)), (.long (0 : Int64)), (.long (0 : Int64)), (.long (0 : Int64)), (.long (0 : Int64))] (.long (0 : Int64)) := (Arv.new A10 (by decide)).pad (pad_rep [] (.long (0 : Int64)) 32)
  have f12 := (f11.ext E10)
  have r14 : own_R p e below _ _ T10 (mkF m 55 #[.val (.ref aa), .val (.ref bl_6), .val (.int (0 : Int32)), .val (.ref b10), .val (.int (1 : Int32)), .val (.int (0 : Int32)), .unset, .unset] [(.ref aa), (.int (0 : Int32))]) := r10.trans fun z_ kt => by
    refine XS.astoreN X10.here hx rfl (hb hby d1_33) rfl rfl (l' := #[.val (.ref aa), .val (.ref bl_6), .val (.int (0 : Int32)), .val (.ref b10), .unset, .unset, .unset, .unset]) rfl ?_
    refine XS.iconst X10.here hx rfl (hb hby d1_34) ?_
    refine XS.istore X10.here hx rfl (hb hby d1_35) rfl (l' := #[.val (.ref aa), .val (.ref bl_6), .val (.int (0 : Int32)), .val (.ref b10), .val (.int (1 : Int32)), .unset, .unset, .unset]) rfl ?_
    refine XS.iconst X10.here hx rfl (hb hby d1_37) ?_
    refine XS.istore X10.here hx rfl (hb hby d1_38) rfl (l' := #[.val (.ref aa), .val (.ref bl_6), .val (.int (0 : Int32)), .val (.ref b10), .val (.int (1 : Int32)), .val (.int (0 : Int32)), .unset, .unset]) rfl ?_
    refine XS.iload X10.here hx rfl (hb hby d1_40) rfl ?_
    refine XS.bipush X10.here hx rfl (hb hby d1_42) ?_
    refine XS.icmpNo X10.here hx rfl (hb hby d1_44) rfl (tlt (by decide : (0 : Int32) < (32 : Int32))).2.1 ?_
    refine XS.iloadN X10.here hx rfl (hb hby d1_47) rfl ?_
    refine XS.bipush X10.here hx rfl (hb hby d1_48) ?_
    refine XS.imul X10.here hx rfl (hb hby d1_50) rfl ?_
    refine XS.iload X10.here hx rfl (hb hby d1_51) rfl ?_
    refine XS.iadd X10.here hx rfl (hb hby d1_53) rfl ?_
    refine XS.aloadN X10.here hx rfl (hb hby d1_54) rfl rfl ?_
    exact kt
  obtain ⟨cl13, Ar13, q13, S13, M13, H13, G13⟩ := id f12
  have r16 : own_R p e below _ _ T10 (mkF m 67 #[.val (.ref aa), .val (.ref bl_6), .val (.int (0 : Int32)), .val (.ref b10), .val (.int (1 : Int32)), .val (.int (0 : Int32)), .unset, .unset] [(.int (0 : Int32)), (.ref aa)]) := r14.trans fun z_ kt => by
    refine X10.arraylength hx (by rw [e10]; exact Ar13.1) (State.isArrayOf_alike hZ.alike Ar13.2.1) (g := (mkF m 55 #[.val (.ref aa), .val (.ref bl_6), .val (.int (0 : Int32)), .val (.ref b10), .val (.int (1 : Int32)), .val (.int (0 : Int32)), .unset, .unset] [(.ref aa), (.int (0 : Int32))])) rfl rfl (hb hby d1_55) _ ?_
    rw [len_of S13 M13]
    refine XS.icmpNo X10.here hx rfl (hb hby d1_56) rfl (tlt (by decide : (0 : Int32) < (2 : Int32))).2.1 ?_
    refine XS.aloadN X10.here hx rfl (hb hby d1_59) rfl rfl ?_
    refine XS.iloadN X10.here hx rfl (hb hby d1_60) rfl ?_
    refine XS.bipush X10.here hx rfl (hb hby d1_61) ?_
    refine XS.imul X10.here hx rfl (hb hby d1_63) rfl ?_
    refine XS.iload X10.here hx rfl (hb hby d1_64) rfl ?_
    refine XS.iadd X10.here hx rfl (hb hby d1_66) rfl ?_
    exact kt
  obtain ⟨cl15, Ar15, q15, S15, M15, H15, G15⟩ := id f12
  have hin15 : ¬ ((0 : Int32) < 0 ∨ cl15.slots.size ≤ ((0 : Int32)).toNatClampNeg) := inb_of S15 ⟨by decide, by decide⟩
  have hat15 : cl15.slots[((0 : Int32)).toNatClampNeg]? = some (.long j1) := Has.at H15 hin15 rfl
  obtain ⟨cl17, Ar17, q17, S17, M17, H17, G17⟩ := id V10
  have hin17 : ¬ ((0 : Int32) < 0 ∨ cl17.slots.size ≤ ((0 : Int32)).toNatClampNeg) := inb_of S17 ⟨by decide, by decide⟩
  have r18 : own_R p e below _ _ T10 (mkF m 97 #[.val (.ref aa), .val (.ref bl_6), .val (.int (0 : Int32)), .val (.ref b10), .val (.int (1 : Int32)), .val (.int (0 : Int32)), .val (.long j1), .second] [(.long j1), (.int (0 : Int32)), (.ref b10)]) := r16.trans fun z_ kt => by
    refine X10.laload hx (j := (0 : Int32)) (v := (.long j1)) (by rw [e10]; exact Ar15.1) (State.isArrayOf_alike hZ.alike Ar15.2.1) Ar15.2.2 hin15 hat15 (g := (mkF m 67 #[.val (.ref aa), .val (.ref bl_6), .val (.int (0 : Int32)), .val (.ref b10), .val (.int (1 : Int32)), .val (.int (0 : Int32)), .unset, .unset] [(.int (0 : Int32)), (.ref aa)])) rfl rfl (hb hby d1_67) _ ?_
    refine XS.lstore X10.here hx rfl (hb hby d1_68) rfl (l' := #[.val (.ref aa), .val (.ref bl_6), .val (.int (0 : Int32)), .val (.ref b10), .val (.int (1 : Int32)), .val (.int (0 : Int32)), .val (.long j1), .second]) rfl ?_
    refine XS.lload X10.here hx rfl (hb hby d1_70) rfl ?_
    refine XS.lconst X10.here hx rfl (hb hby d1_72) ?_
    refine XS.lcmp X10.here hx rfl (hb hby d1_73) rfl ?_
    refine XS.ifYes X10.here hx rfl (pc0 := 74) (pc' := 92) rfl (hb hby d1_74) rfl ((if0 _ _).trans (flt (own_lc_ge hj1 : ¬ ((lcmpW j1 (0 : Int64)) < (0 : Int32)))).2.1) (by decide) (by decide) ?_
    refine XS.aloadN X10.here hx rfl (hb hby d1_92) rfl rfl ?_
    refine XS.iload X10.here hx rfl (hb hby d1_93) rfl ?_
    refine XS.lload X10.here hx rfl (hb hby d1_95) rfl ?_
    exact kt
  obtain ⟨T19, h19, X19, e19, W19, st19⟩ := stJ X10 hx hZ e10 Ar17 (j := (0 : Int32)) hin17 (g := (mkF m 97 #[.val (.ref aa), .val (.ref bl_6), .val (.int (0 : Int32)), .val (.ref b10), .val (.int (1 : Int32)), .val (.int (0 : Int32)), .val (.long j1), .second] [(.long j1), (.int (0 : Int32)), (.ref b10)])) rfl rfl (hb hby d1_97)
  have r19 : own_R p e below _ _ T19 (mkF m 98 #[.val (.ref aa), .val (.ref bl_6), .val (.int (0 : Int32)), .val (.ref b10), .val (.int (1 : Int32)), .val (.int (0 : Int32)), .val (.long j1), .second] []) := r18.trans fun z_ kt => st19 _ kt
  have N19 := Fr.snoc X19 N6 g_b10
  have O19 := O10.wr W19 g_b10
  have K19 := K10.wr W19 (Or.inr sz_b10)
  have V19 : Arv Z h19 b10 k10 .long (32 : Int32) [(.long j1), (.long (0 : Int64)), (.long (0 : Int64)), (.long (0 : Int64)), (.long (0 : Int64)), (.long (0 : Int64)), (.long (0 : Int64)), (.long (0 : Int64)), (.long (0 : Int64)), (.long (0 : Int64)), (.long (0 : Int64)), (.long (0 : Int64)), (.long (0 : Int64)), (.long (0 : Int64)), (.long (0 : Int64)), (.long (0 : Int64)), (.long (0 : Int64)), (.long (0 : Int64)), (.long (0 : Int64)), (.long (0 : Int64)), (.long (0 : Int64)), (.long (0 : Int64)), (.long (0 : Int64)), (.long (0 : Int64)), (.long (0 : Int64)), (.long (0 : Int64)), (.long (0 : Int64)), (.long (0 : Int64)), (.long (0 : Int64)), (.long (0 : Int64)), (.long (0 : Int64)), (.long (0 : Int64))] (.long (0 : Int64)) := Arv.set Ar17 q17 S17 M17 H17 G17 rfl W19 0 rfl (Nat.le_of_ble_eq_true rfl)
  have r21 : own_R p e below _ _ T19 (mkF m 104 #[.val (.ref aa), .val (.ref bl_6), .val (.int (0 : Int32)), .val (.ref b10), .val (.int (1 : Int32)), .val (.int (0 : Int32)), .val (.long j1), .second] [(.int (lcmpW j1 (0 : Int64))), (.int (1 : Int32))]) := r19.trans fun z_ kt => by
    refine XS.iload X19.here hx rfl (hb hby d1_98) rfl ?_
    refine XS.lload X19.here hx rfl (hb hby d1_100) rfl ?_
    refine XS.lconst X19.here hx rfl (hb hby d1_102) ?_
    refine XS.lcmp X19.here hx rfl (hb hby d1_103) rfl ?_
    exact kt
  obtain ⟨fz20, h_fz20, r22⟩ : ∃ fz20 : Int32, (True) ∧ own_R p e below s₁ (mkF m 0 #[.val (.ref aa), .unset, .unset, .unset, .unset, .unset, .unset, .unset] []) T19 (mkF m 112 #[.val (.ref aa), .val (.ref bl_6), .val (.int (0 : Int32)), .val (.ref b10), .val (.int (1 : Int32)), .val (.int (0 : Int32)), .val (.long j1), .second] [(.int fz20), (.int (1 : Int32))]) := by
    by_cases hc104_23 : (lcmpW j1 (0 : Int64)) = (0 : Int32)
    · skip
      have r24 : own_R p e below _ _ T19 (mkF m 112 #[.val (.ref aa), .val (.ref bl_6), .val (.int (0 : Int32)), .val (.ref b10), .val (.int (1 : Int32)), .val (.int (0 : Int32)), .val (.long j1), .second] [(.int (1 : Int32)), (.int (1 : Int32))]) := r21.trans fun z_ kt => by
        refine XS.ifNo X19.here hx rfl (hb hby d1_104) rfl ((if0 _ _).trans (teq (hc104_23 : (lcmpW j1 (0 : Int64)) = (0 : Int32))).2) ?_
        refine XS.iconst X19.here hx rfl (hb hby d1_107) ?_
        refine XS.goto X19.here hx rfl (pc0 := 108) (pc' := 112) rfl (hb hby d1_108) (by decide) (by decide) ?_
        exact kt
      exact ⟨(1 : Int32), trivial, r24⟩
    · skip
      have r25 : own_R p e below _ _ T19 (mkF m 112 #[.val (.ref aa), .val (.ref bl_6), .val (.int (0 : Int32)), .val (.ref b10), .val (.int (1 : Int32)), .val (.int (0 : Int32)), .val (.long j1), .second] [(.int (0 : Int32)), (.int (1 : Int32))]) := r21.trans fun z_ kt => by
        refine XS.ifYes X19.here hx rfl (pc0 := 104) (pc' := 111) rfl (hb hby d1_104) rfl ((if0 _ _).trans (feq (hc104_23 : ¬ ((lcmpW j1 (0 : Int64)) = (0 : Int32)))).2) (by decide) (by decide) ?_
        refine XS.iconst X19.here hx rfl (hb hby d1_111) ?_
        exact kt
      exact ⟨(0 : Int32), trivial, r25⟩
  have f26 := (f12.other W19 ne_aa_b10)
  have r28 : own_R p e below _ _ T19 (mkF m 55 #[.val (.ref aa), .val (.ref bl_6), .val (.int (0 : Int32)), .val (.ref b10), .val (.int ((1 : Int32) &&& fz20)), .val (.int (1 : Int32)), .val (.long j1), .second] [(.ref aa), (.int (1 : Int32))]) := r22.trans fun z_ kt => by
    refine XS.iand X19.here hx rfl (hb hby d1_112) rfl ?_
    refine XS.istore X19.here hx rfl (hb hby d1_113) rfl (l' := #[.val (.ref aa), .val (.ref bl_6), .val (.int (0 : Int32)), .val (.ref b10), .val (.int ((1 : Int32) &&& fz20)), .val (.int (0 : Int32)), .val (.long j1), .second]) rfl ?_
    refine XS.iinc X19.here hx rfl (hb hby d1_115) rfl (l' := #[.val (.ref aa), .val (.ref bl_6), .val (.int (0 : Int32)), .val (.ref b10), .val (.int ((1 : Int32) &&& fz20)), .val (.int (1 : Int32)), .val (.long j1), .second]) rfl ?_
    refine XS.goto X19.here hx rfl (pc0 := 118) (pc' := 40) rfl (hb hby d1_118) (by decide) (by decide) ?_
    refine XS.iload X19.here hx rfl (hb hby d1_40) rfl ?_
    refine XS.bipush X19.here hx rfl (hb hby d1_42) ?_
    refine XS.icmpNo X19.here hx rfl (hb hby d1_44) rfl (tlt (by decide : (1 : Int32) < (32 : Int32))).2.1 ?_
    refine XS.iloadN X19.here hx rfl (hb hby d1_47) rfl ?_
    refine XS.bipush X19.here hx rfl (hb hby d1_48) ?_
    refine XS.imul X19.here hx rfl (hb hby d1_50) rfl ?_
    refine XS.iload X19.here hx rfl (hb hby d1_51) rfl ?_
    refine XS.iadd X19.here hx rfl (hb hby d1_53) rfl ?_
    refine XS.aloadN X19.here hx rfl (hb hby d1_54) rfl rfl ?_
    exact kt
  obtain ⟨cl27, Ar27, q27, S27, M27, H27, G27⟩ := id f26
  have r30 : own_R p e below _ _ T19 (mkF m 67 #[.val (.ref aa), .val (.ref bl_6), .val (.int (0 : Int32)), .val (.ref b10), .val (.int ((1 : Int32) &&& fz20)), .val (.int (1 : Int32)), .val (.long j1), .second] [(.int (1 : Int32)), (.ref aa)]) := r28.trans fun z_ kt => by
    refine X19.arraylength hx (by rw [e19]; exact Ar27.1) (State.isArrayOf_alike hZ.alike Ar27.2.1) (g := (mkF m 55 #[.val (.ref aa), .val (.ref bl_6), .val (.int (0 : Int32)), .val (.ref b10), .val (.int ((1 : Int32) &&& fz20)), .val (.int (1 : Int32)), .val (.long j1), .second] [(.ref aa), (.int (1 : Int32))])) rfl rfl (hb hby d1_55) _ ?_
    rw [len_of S27 M27]
    refine XS.icmpNo X19.here hx rfl (hb hby d1_56) rfl (tlt (by decide : (1 : Int32) < (2 : Int32))).2.1 ?_
    refine XS.aloadN X19.here hx rfl (hb hby d1_59) rfl rfl ?_
    refine XS.iloadN X19.here hx rfl (hb hby d1_60) rfl ?_
    refine XS.bipush X19.here hx rfl (hb hby d1_61) ?_
    refine XS.imul X19.here hx rfl (hb hby d1_63) rfl ?_
    refine XS.iload X19.here hx rfl (hb hby d1_64) rfl ?_
    refine XS.iadd X19.here hx rfl (hb hby d1_66) rfl ?_
    exact kt
  obtain ⟨cl29, Ar29, q29, S29, M29, H29, G29⟩ := id f26
  have hin29 : ¬ ((1 : Int32) < 0 ∨ cl29.slots.size ≤ ((1 : Int32)).toNatClampNeg) := inb_of S29 ⟨by decide, by decide⟩
  have hat29 : cl29.slots[((1 : Int32)).toNatClampNeg]? = some (.long j2) := Has.at H29 hin29 rfl
  obtain ⟨cl31, Ar31, q31, S31, M31, H31, G31⟩ := id V19
  have hin31 : ¬ ((1 : Int32) < 0 ∨ cl31.slots.size ≤ ((1 : Int32)).toNatClampNeg) := inb_of S31 ⟨by decide, by decide⟩
  have r32 : own_R p e below _ _ T19 (mkF m 97 #[.val (.ref aa), .val (.ref bl_6), .val (.int (0 : Int32)), .val (.ref b10), .val (.int ((1 : Int32) &&& fz20)), .val (.int (1 : Int32)), .val (.long j2), .second] [(.long j2), (.int (1 : Int32)), (.ref b10)]) := r30.trans fun z_ kt => by
    refine X19.laload hx (j := (1 : Int32)) (v := (.long j2)) (by rw [e19]; exact Ar29.1) (State.isArrayOf_alike hZ.alike Ar29.2.1) Ar29.2.2 hin29 hat29 (g := (mkF m 67 #[.val (.ref aa), .val (.ref bl_6), .val (.int (0 : Int32)), .val (.ref b10), .val (.int ((1 : Int32) &&& fz20)), .val (.int (1 : Int32)), .val (.long j1), .second] [(.int (1 : Int32)), (.ref aa)])) rfl rfl (hb hby d1_67) _ ?_
    refine XS.lstore X19.here hx rfl (hb hby d1_68) rfl (l' := #[.val (.ref aa), .val (.ref bl_6), .val (.int (0 : Int32)), .val (.ref b10), .val (.int ((1 : Int32) &&& fz20)), .val (.int (1 : Int32)), .val (.long j2), .second]) rfl ?_
    refine XS.lload X19.here hx rfl (hb hby d1_70) rfl ?_
    refine XS.lconst X19.here hx rfl (hb hby d1_72) ?_
    refine XS.lcmp X19.here hx rfl (hb hby d1_73) rfl ?_
    refine XS.ifYes X19.here hx rfl (pc0 := 74) (pc' := 92) rfl (hb hby d1_74) rfl ((if0 _ _).trans (flt (own_lc_ge hj2 : ¬ ((lcmpW j2 (0 : Int64)) < (0 : Int32)))).2.1) (by decide) (by decide) ?_
    refine XS.aloadN X19.here hx rfl (hb hby d1_92) rfl rfl ?_
    refine XS.iload X19.here hx rfl (hb hby d1_93) rfl ?_
    refine XS.lload X19.here hx rfl (hb hby d1_95) rfl ?_
    exact kt
  obtain ⟨T33, h33, X33, e33, W33, st33⟩ := stJ X19 hx hZ e19 Ar31 (j := (1 : Int32)) hin31 (g := (mkF m 97 #[.val (.ref aa), .val (.ref bl_6), .val (.int (0 : Int32)), .val (.ref b10), .val (.int ((1 : Int32) &&& fz20)), .val (.int (1 : Int32)), .val (.long j2), .second] [(.long j2), (.int (1 : Int32)), (.ref b10)])) rfl rfl (hb hby d1_97)
  have r33 : own_R p e below _ _ T33 (mkF m 98 #[.val (.ref aa), .val (.ref bl_6), .val (.int (0 : Int32)), .val (.ref b10), .val (.int ((1 : Int32) &&& fz20)), .val (.int (1 : Int32)), .val (.long j2), .second] []) := r32.trans fun z_ kt => st33 _ kt
  have N33 := Fr.snoc X33 N19 g_b10
  have O33 := O19.wr W33 g_b10
  have K33 := K19.wr W33 (Or.inr sz_b10)
  have V33 : Arv Z h33 b10 k10 .long (32 : Int32) [(.long j1), (.long j2), (.long (0 : Int64)), (.long (0 : Int64)), (.long (0 : Int64)), (.long (0 : Int64)), (.long (0 : Int64)), (.long (0 : Int64)), (.long (0 : Int64)), (.long (0 : Int64)), (.long (0 : Int64)), (.long (0 : Int64)), (.long (0 : Int64)), (.long (0 : Int64)), (.long (0 : Int64)), (.long (0 : Int64)), (.long (0 : Int64)), (.long (0 : Int64)), (.long (0 : Int64)), (.long (0 : Int64)), (.long (0 : Int64)), (.long (0 : Int64)), (.long (0 : Int64)), (.long (0 : Int64)), (.long (0 : Int64)), (.long (0 : Int64)), (.long (0 : Int64)), (.long (0 : Int64)), (.long (0 : Int64)), (.long (0 : Int64)), (.long (0 : Int64)), (.long (0 : Int64))] (.long (0 : Int64)) := Arv.set Ar31 q31 S31 M31 H31 G31 rfl W33 1 rfl (Nat.le_of_ble_eq_true rfl)
  have r35 : own_R p e below _ _ T33 (mkF m 104 #[.val (.ref aa), .val (.ref bl_6), .val (.int (0 : Int32)), .val (.ref b10), .val (.int ((1 : Int32) &&& fz20)), .val (.int (1 : Int32)), .val (.long j2), .second] [(.int (lcmpW j2 (0 : Int64))), (.int ((1 : Int32) &&& fz20))]) := r33.trans fun z_ kt => by
    refine XS.iload X33.here hx rfl (hb hby d1_98) rfl ?_
    refine XS.lload X33.here hx rfl (hb hby d1_100) rfl ?_
    refine XS.lconst X33.here hx rfl (hb hby d1_102) ?_
    refine XS.lcmp X33.here hx rfl (hb hby d1_103) rfl ?_
    exact kt
  obtain ⟨fz34, h_fz34, r36⟩ : ∃ fz34 : Int32, (True) ∧ own_R p e below s₁ (mkF m 0 #[.val (.ref aa), .unset, .unset, .unset, .unset, .unset, .unset, .unset] []) T33 (mkF m 112 #[.val (.ref aa), .val (.ref bl_6), .val (.int (0 : Int32)), .val (.ref b10), .val (.int ((1 : Int32) &&& fz20)), .val (.int (1 : Int32)), .val (.long j2), .second] [(.int fz34), (.int ((1 : Int32) &&& fz20))]) := by
    by_cases hc104_37 : (lcmpW j2 (0 : Int64)) = (0 : Int32)
    · skip
      have r38 : own_R p e below _ _ T33 (mkF m 112 #[.val (.ref aa), .val (.ref bl_6), .val (.int (0 : Int32)), .val (.ref b10), .val (.int ((1 : Int32) &&& fz20)), .val (.int (1 : Int32)), .val (.long j2), .second] [(.int (1 : Int32)), (.int ((1 : Int32) &&& fz20))]) := r35.trans fun z_ kt => by
        refine XS.ifNo X33.here hx rfl (hb hby d1_104) rfl ((if0 _ _).trans (teq (hc104_37 : (lcmpW j2 (0 : Int64)) = (0 : Int32))).2) ?_
        refine XS.iconst X33.here hx rfl (hb hby d1_107) ?_
        refine XS.goto X33.here hx rfl (pc0 := 108) (pc' := 112) rfl (hb hby d1_108) (by decide) (by decide) ?_
        exact kt
      exact ⟨(1 : Int32), trivial, r38⟩
    · skip
      have r39 : own_R p e below _ _ T33 (mkF m 112 #[.val (.ref aa), .val (.ref bl_6), .val (.int (0 : Int32)), .val (.ref b10), .val (.int ((1 : Int32) &&& fz20)), .val (.int (1 : Int32)), .val (.long j2), .second] [(.int (0 : Int32)), (.int ((1 : Int32) &&& fz20))]) := r35.trans fun z_ kt => by
        refine XS.ifYes X33.here hx rfl (pc0 := 104) (pc' := 111) rfl (hb hby d1_104) rfl ((if0 _ _).trans (feq (hc104_37 : ¬ ((lcmpW j2 (0 : Int64)) = (0 : Int32)))).2) (by decide) (by decide) ?_
        refine XS.iconst X33.here hx rfl (hb hby d1_111) ?_
        exact kt
      exact ⟨(0 : Int32), trivial, r39⟩
  have f40 := (f26.other W33 ne_aa_b10)
  have r42 : own_R p e below _ _ T33 (mkF m 55 #[.val (.ref aa), .val (.ref bl_6), .val (.int (0 : Int32)), .val (.ref b10), .val (.int (((1 : Int32) &&& fz20) &&& fz34)), .val (.int (2 : Int32)), .val (.long j2), .second] [(.ref aa), (.int (2 : Int32))]) := r36.trans fun z_ kt => by
    refine XS.iand X33.here hx rfl (hb hby d1_112) rfl ?_
    refine XS.istore X33.here hx rfl (hb hby d1_113) rfl (l' := #[.val (.ref aa), .val (.ref bl_6), .val (.int (0 : Int32)), .val (.ref b10), .val (.int (((1 : Int32) &&& fz20) &&& fz34)), .val (.int (1 : Int32)), .val (.long j2), .second]) rfl ?_
    refine XS.iinc X33.here hx rfl (hb hby d1_115) rfl (l' := #[.val (.ref aa), .val (.ref bl_6), .val (.int (0 : Int32)), .val (.ref b10), .val (.int (((1 : Int32) &&& fz20) &&& fz34)), .val (.int (2 : Int32)), .val (.long j2), .second]) rfl ?_
    refine XS.goto X33.here hx rfl (pc0 := 118) (pc' := 40) rfl (hb hby d1_118) (by decide) (by decide) ?_
    refine XS.iload X33.here hx rfl (hb hby d1_40) rfl ?_
    refine XS.bipush X33.here hx rfl (hb hby d1_42) ?_
    refine XS.icmpNo X33.here hx rfl (hb hby d1_44) rfl (tlt (by decide : (2 : Int32) < (32 : Int32))).2.1 ?_
    refine XS.iloadN X33.here hx rfl (hb hby d1_47) rfl ?_
    refine XS.bipush X33.here hx rfl (hb hby d1_48) ?_
    refine XS.imul X33.here hx rfl (hb hby d1_50) rfl ?_
    refine XS.iload X33.here hx rfl (hb hby d1_51) rfl ?_
    refine XS.iadd X33.here hx rfl (hb hby d1_53) rfl ?_
    refine XS.aloadN X33.here hx rfl (hb hby d1_54) rfl rfl ?_
    exact kt
  obtain ⟨cl41, Ar41, q41, S41, M41, H41, G41⟩ := id f40
  have r43 : own_R p e below _ _ T33 (mkF m 125 #[.val (.ref aa), .val (.ref bl_6), .val (.int (0 : Int32)), .val (.ref b10), .val (.int (((1 : Int32) &&& fz20) &&& fz34)), .val (.int (2 : Int32)), .val (.long j2), .second] [(.int (((1 : Int32) &&& fz20) &&& fz34)), (.int (0 : Int32)), (.ref bl_6)]) := r42.trans fun z_ kt => by
    refine X33.arraylength hx (by rw [e33]; exact Ar41.1) (State.isArrayOf_alike hZ.alike Ar41.2.1) (g := (mkF m 55 #[.val (.ref aa), .val (.ref bl_6), .val (.int (0 : Int32)), .val (.ref b10), .val (.int (((1 : Int32) &&& fz20) &&& fz34)), .val (.int (2 : Int32)), .val (.long j2), .second] [(.ref aa), (.int (2 : Int32))])) rfl rfl (hb hby d1_55) _ ?_
    rw [len_of S41 M41]
    refine XS.icmpYes X33.here hx rfl (pc0 := 56) (pc' := 121) rfl (hb hby d1_56) rfl (flt (by decide : ¬ ((2 : Int32) < (2 : Int32)))).2.1 (by decide) (by decide) ?_
    refine XS.aloadN X33.here hx rfl (hb hby d1_121) rfl rfl ?_
    refine XS.iloadN X33.here hx rfl (hb hby d1_122) rfl ?_
    refine XS.iload X33.here hx rfl (hb hby d1_123) rfl ?_
    exact kt
  by_cases hc125_44 : (((1 : Int32) &&& fz20) &&& fz34) = (0 : Int32)
  · skip
    have f45 := (((p6_1.ext E10).other W19 ne_bl_6_b10).other W33 ne_bl_6_b10)
    obtain ⟨cl46, Ar46, q46, S46, M46, H46, G46⟩ := id f45
    have hin46 : ¬ ((0 : Int32) < 0 ∨ cl46.slots.size ≤ ((0 : Int32)).toNatClampNeg) := inb_of S46 ⟨by decide, by decide⟩
    have f47 := ((B10.wr W19).wr W33)
    have r48 : own_R p e below _ _ T33 (mkF m 135 #[.val (.ref aa), .val (.ref bl_6), .val (.int (0 : Int32)), .val (.ref b10), .val (.int (((1 : Int32) &&& fz20) &&& fz34)), .val (.int (2 : Int32)), .val (.long j2), .second] [(.ref b10), (.int (0 : Int32)), (.ref bl_6)]) := r43.trans fun z_ kt => by
      refine XS.ifYes X33.here hx rfl (pc0 := 125) (pc' := 134) rfl (hb hby d1_125) rfl ((if0 _ _).trans (teq (hc125_44 : (((1 : Int32) &&& fz20) &&& fz34) = (0 : Int32))).1) (by decide) (by decide) ?_
      refine XS.aloadN X33.here hx rfl (hb hby d1_134) rfl rfl ?_
      exact kt
    obtain ⟨T49, h49, X49, e49, W49, st49⟩ := stR X33 hx hZ e33 Ar46 (j := (0 : Int32)) hin46 rfl (Sto.ofVA Ar46 q46 p6_2 (Ins.self f47)) (g := (mkF m 135 #[.val (.ref aa), .val (.ref bl_6), .val (.int (0 : Int32)), .val (.ref b10), .val (.int (((1 : Int32) &&& fz20) &&& fz34)), .val (.int (2 : Int32)), .val (.long j2), .second] [(.ref b10), (.int (0 : Int32)), (.ref bl_6)])) rfl rfl (hb hby d1_135)
    have r49 : own_R p e below _ _ T49 (mkF m 136 #[.val (.ref aa), .val (.ref bl_6), .val (.int (0 : Int32)), .val (.ref b10), .val (.int (((1 : Int32) &&& fz20) &&& fz34)), .val (.int (2 : Int32)), .val (.long j2), .second] []) := r48.trans fun z_ kt => st49 _ kt
    have N49 := Fr.snoc X49 N33 g_bl_6
    have O49 := O33.wr W49 g_bl_6
    have K49 := K33.wr W49 (Or.inr sz_bl_6)
    have V49 : Arv Z h49 bl_6 kb_6 (.array .long) (1 : Int32) [(.ref b10)] .null := Arv.set Ar46 q46 S46 M46 H46 G46 rfl W49 0 rfl (Nat.le_of_ble_eq_true rfl)
    have r51 : own_R p e below _ _ T49 (mkF m 25 #[.val (.ref aa), .val (.ref bl_6), .val (.int (1 : Int32)), .val (.ref b10), .val (.int (((1 : Int32) &&& fz20) &&& fz34)), .val (.int (2 : Int32)), .val (.long j2), .second] [(.ref bl_6), (.int (1 : Int32))]) := r49.trans fun z_ kt => by
      refine XS.iinc X49.here hx rfl (hb hby d1_136) rfl (l' := #[.val (.ref aa), .val (.ref bl_6), .val (.int (1 : Int32)), .val (.ref b10), .val (.int (((1 : Int32) &&& fz20) &&& fz34)), .val (.int (2 : Int32)), .val (.long j2), .second]) rfl ?_
      refine XS.goto X49.here hx rfl (pc0 := 139) (pc' := 23) rfl (hb hby d1_139) (by decide) (by decide) ?_
      refine XS.iloadN X49.here hx rfl (hb hby d1_23) rfl ?_
      refine XS.aloadN X49.here hx rfl (hb hby d1_24) rfl rfl ?_
      exact kt
    obtain ⟨cl50, Ar50, q50, S50, M50, H50, G50⟩ := id V49
    have r52 : own_R p e below _ _ T49 (mkF m 142 #[.val (.ref aa), .val (.ref bl_6), .val (.int (1 : Int32)), .val (.ref b10), .val (.int (((1 : Int32) &&& fz20) &&& fz34)), .val (.int (2 : Int32)), .val (.long j2), .second] []) := r51.trans fun z_ kt => by
      refine X49.arraylength hx (by rw [e49]; exact Ar50.1) (State.isArrayOf_alike hZ.alike Ar50.2.1) (g := (mkF m 25 #[.val (.ref aa), .val (.ref bl_6), .val (.int (1 : Int32)), .val (.ref b10), .val (.int (((1 : Int32) &&& fz20) &&& fz34)), .val (.int (2 : Int32)), .val (.long j2), .second] [(.ref bl_6), (.int (1 : Int32))])) rfl rfl (hb hby d1_25) _ ?_
      rw [len_of S50 M50]
      refine XS.icmpYes X49.here hx rfl (pc0 := 26) (pc' := 142) rfl (hb hby d1_26) rfl (flt (by decide : ¬ ((1 : Int32) < (1 : Int32)))).2.1 (by decide) (by decide) ?_
      exact kt
    obtain ⟨T53, h53, X53, e53, E53, A53, D53, -, st53⟩ := newO X49 hx hZ hown (hw _ (own_g (i := 14) rfl)) (hw _ (own_g (i := 15) rfl)) (hw _ (own_g (i := 4) rfl)) e49 (g := (mkF m 142 #[.val (.ref aa), .val (.ref bl_6), .val (.int (1 : Int32)), .val (.ref b10), .val (.int (((1 : Int32) &&& fz20) &&& fz34)), .val (.int (2 : Int32)), .val (.long j2), .second] [])) rfl (hb hby d1_142) (by decide) (by decide)
    obtain ⟨b53, g53⟩ : ∃ z, z = h49.size := ⟨_, rfl⟩
    rw [← g53] at A53 D53 st53
    have r53 : own_R p e below _ _ T53 (mkF m 145 #[.val (.ref aa), .val (.ref bl_6), .val (.int (1 : Int32)), .val (.ref b10), .val (.int (((1 : Int32) &&& fz20) &&& fz34)), .val (.int (2 : Int32)), .val (.long j2), .second] [(.ref b53)]) := r52.trans fun z_ kt => st53 _ kt
    have f54 := (f40.other W49 ne_aa_bl_6)
    have ne_aa_b53 : aa ≠ b53 := Nat.ne_of_lt (Nat.lt_of_lt_of_le f54.lt (Nat.le_of_eq g53.symm))
    have ne_bl_6_b53 : bl_6 ≠ b53 := Nat.ne_of_lt (Nat.lt_of_lt_of_le V49.lt (Nat.le_of_eq g53.symm))
    have f55 := (f47.wr W49)
    have ne_b10_b53 : b10 ≠ b53 := Nat.ne_of_lt (Nat.lt_of_lt_of_le f55.lt (Nat.le_of_eq g53.symm))
    have g_b53 : n0 ≤ b53 := Nat.le_trans (own_old_size O49) (Nat.le_of_eq g53.symm)
    have sz_b53 : h0.size ≤ b53 := Nat.le_trans K49.1 (Nat.le_of_eq g53.symm)
    have O53 := O49.ext E53
    have K53 := K49.ext E53
    have F53_23 := D53 (Or.inr (hw _ (own_g (i := 23) rfl))) (ty := .int) (by decide)
    have F53_25 := D53 (Or.inr (hw _ (own_g (i := 25) rfl))) (ty := (.array (.array .long))) (by decide)
    have F53_27 := D53 (Or.inr (hw _ (own_g (i := 27) rfl))) (ty := .int) (by decide)
    have F53_29 := D53 (Or.inr (hw _ (own_g (i := 29) rfl))) (ty := .long) (by decide)
    have f56 := (f54.ext E53)
    have r58 : own_R p e below _ _ T53 (mkF m 147 #[.val (.ref aa), .val (.ref bl_6), .val (.int (1 : Int32)), .val (.ref b10), .val (.int (((1 : Int32) &&& fz20) &&& fz34)), .val (.int (2 : Int32)), .val (.long j2), .second] [(.ref aa), (.ref b53), (.ref b53)]) := r53.trans fun z_ kt => by
      refine XS.dup X53.here hx rfl (hb hby d1_145) rfl rfl ?_
      refine XS.aloadN X53.here hx rfl (hb hby d1_146) rfl rfl ?_
      exact kt
    obtain ⟨cl57, Ar57, q57, S57, M57, H57, G57⟩ := id f56
    have r59 : own_R p e below _ _ T53 (mkF m 151 #[.val (.ref aa), .val (.ref bl_6), .val (.int (1 : Int32)), .val (.ref b10), .val (.int (((1 : Int32) &&& fz20) &&& fz34)), .val (.int (2 : Int32)), .val (.long j2), .second] [(.long (0 : Int64)), (.int (-1 : Int32)), (.ref bl_6), (.int (2 : Int32)), (.ref b53), (.ref b53)]) := r58.trans fun z_ kt => by
      refine X53.arraylength hx (by rw [e53]; exact Ar57.1) (State.isArrayOf_alike hZ.alike Ar57.2.1) (g := (mkF m 147 #[.val (.ref aa), .val (.ref bl_6), .val (.int (1 : Int32)), .val (.ref b10), .val (.int (((1 : Int32) &&& fz20) &&& fz34)), .val (.int (2 : Int32)), .val (.long j2), .second] [(.ref aa), (.ref b53), (.ref b53)])) rfl rfl (hb hby d1_147) _ ?_
      rw [len_of S57 M57]
      refine XS.aloadN X53.here hx rfl (hb hby d1_148) rfl rfl ?_
      refine XS.iconst X53.here hx rfl (hb hby d1_149) ?_
      refine XS.lconst X53.here hx rfl (hb hby d1_150) ?_
      exact kt
    obtain ⟨_, _, ⟨T60, L60, cc60, n60⟩, -, X60, ⟨Lc60, hQ60, l60, y60, z60⟩, st60⟩ := X53.specialBack hx (y := (⟨"com/example/wildebeest/wildebeest/core/VectorTime", "<init>", "(I[[JIJ)V"⟩ : MethodName)) rfl hown (mvT hZ (hw _ (own_g (i := 16) rfl))) (mvT hZ (hw _ (own_g (i := 17) rfl))) (mvT hZ (hw _ (own_g (i := 18) rfl))) (by decide) (backOf (W := 1) (rm_vtInit l Z a0 hw [] (b53) ((2 : Int32)) (bl_6) ((-1 : Int32)) ((0 : Int64)) ((.int (0 : Int32))) (.null) ((.int (0 : Int32))) ((.long (0 : Int64))) h53 n0 O53 (A53) (g_b53) (F53_23) (F53_25) (F53_27) (F53_29)) hZ (hw _ (own_g (i := 18) rfl)) (hw _ (own_g (i := 4) rfl)) (by decide) (by decide)) (g := (mkF m 151 #[.val (.ref aa), .val (.ref bl_6), .val (.int (1 : Int32)), .val (.ref b10), .val (.int (((1 : Int32) &&& fz20) &&& fz34)), .val (.int (2 : Int32)), .val (.long j2), .second] [(.long (0 : Int64)), (.int (-1 : Int32)), (.ref bl_6), (.int (2 : Int32)), (.ref b53), (.ref b53)])) rfl (by rw [hml]; rfl) (Steps.refl _) (a := b53) (argsL := [(.int (2 : Int32)), (.ref bl_6), (.int (-1 : Int32)), (.long (0 : Int64))]) (rest := [(.ref b53)]) (lenOf pd_1 rfl) rfl (by show 2 * 0 + _ ≤ _; exact Nat.le_of_eq rfl) (hb hby d1_151) (fun _ _ => ⟨rfl, e53, (by decide : 3 + 0 ≤ _), (by decide : 37 + 0 ≤ _)⟩)
    dsimp only [Pt.U, Pt.locs, Pt.cells, Pt.slots] at X60 l60 y60 z60 st60 hQ60
    subst l60 y60 z60
    obtain ⟨h60, e60⟩ : ∃ z, T60.heap = z := ⟨_, rfl⟩
    rw [e60] at hQ60
    obtain ⟨rfl, Nq60, Kq60, p60_0, p60_1, p60_2, p60_3⟩ := hQ60
    have N60 := Fr.app N49 Nq60
    have r60 : own_R p e below _ _ T60 (mkF m 154 #[.val (.ref aa), .val (.ref bl_6), .val (.int (1 : Int32)), .val (.ref b10), .val (.int (((1 : Int32) &&& fz20) &&& fz34)), .val (.int (2 : Int32)), .val (.long j2), .second] [(.ref b53)]) := r59.trans fun z_ kt => st60.trans kt
    have O60 := O53.keep Kq60 (allS g_b53 all0)
    have K60 := K53.trans Kq60 (allS (Or.inr sz_b53) all0)
    have f61 := (((V33.other W49 (Ne.symm ne_bl_6_b10)).ext E53).keep Kq60 (ninS ne_b10_b53 nin0))
    have f62 := (A53.keep Kq60)
    have f63 := ((V49.ext E53).keep Kq60 (ninS ne_bl_6_b53 nin0))
    obtain ⟨fs_, hr_, hrun_, hended_, hW_, hsame_⟩ := X60.leave (v := some (.ref b53)) (fun h => by rw [Bd.returns] at h; cases h)
    refine ⟨_, _, pre0 _ (r60 _ ?_), hrun_, hended_, _, _, rfl, ?_, ⟨_, rfl⟩, hW_, hsame_.mono (by decide) (by decide)⟩
    · exact retOut X60 hx Bd.returns rfl (Or.inr (Or.inr (Or.inr (Or.inr ⟨rfl, rfl, rfl⟩)))) (hb hby d1_154) hr_
    · show Q_of Z aa ka j1 j2 s_ZV kz vz h0 n0 _ T60.heap _
      rw [e60]
      exact ⟨b53, bl_6, kb_6, b10, k10, [(.long j1), (.long j2), (.long (0 : Int64)), (.long (0 : Int64)), (.long (0 : Int64)), (.long (0 : Int64)), (.long (0 : Int64)), (.long (0 : Int64)), (.long (0 : Int64)), (.long (0 : Int64)), (.long (0 : Int64)), (.long (0 : Int64)), (.long (0 : Int64)), (.long (0 : Int64)), (.long (0 : Int64)), (.long (0 : Int64)), (.long (0 : Int64)), (.long (0 : Int64)), (.long (0 : Int64)), (.long (0 : Int64)), (.long (0 : Int64)), (.long (0 : Int64)), (.long (0 : Int64)), (.long (0 : Int64)), (.long (0 : Int64)), (.long (0 : Int64)), (.long (0 : Int64)), (.long (0 : Int64)), (.long (0 : Int64)), (.long (0 : Int64)), (.long (0 : Int64)), (.long (0 : Int64))], rfl, N60, K60, sz_b53, sz_bl_6, f62, p60_0, p60_1, p60_2, p60_3, f63, f61⟩
  · skip
    have r64 : own_R p e below _ _ T33 (mkF m 128 #[.val (.ref aa), .val (.ref bl_6), .val (.int (0 : Int32)), .val (.ref b10), .val (.int (((1 : Int32) &&& fz20) &&& fz34)), .val (.int (2 : Int32)), .val (.long j2), .second] [(.int (0 : Int32)), (.ref bl_6)]) := r43.trans fun z_ kt => by
      refine XS.ifNo X33.here hx rfl (hb hby d1_125) rfl ((if0 _ _).trans (feq (hc125_44 : ¬ ((((1 : Int32) &&& fz20) &&& fz34) = (0 : Int32)))).1) ?_
      exact kt
    obtain ⟨T65, X65, e65, st65⟩ := getS2 X33 hx hZ hown (host := "") (Or.inl (hw _ (own_g (i := 11) rfl))) Via.refl e33 (S_VectorTime_ZERO.ext O33.2) (g := (mkF m 128 #[.val (.ref aa), .val (.ref bl_6), .val (.int (0 : Int32)), .val (.ref b10), .val (.int (((1 : Int32) &&& fz20) &&& fz34)), .val (.int (2 : Int32)), .val (.long j2), .second] [(.int (0 : Int32)), (.ref bl_6)])) rfl (hb hby d1_128)
    have r65 : own_R p e below _ _ T65 (mkF m 131 #[.val (.ref aa), .val (.ref bl_6), .val (.int (0 : Int32)), .val (.ref b10), .val (.int (((1 : Int32) &&& fz20) &&& fz34)), .val (.int (2 : Int32)), .val (.long j2), .second] [(.ref s_ZV), (.int (0 : Int32)), (.ref bl_6)]) := r64.trans fun z_ kt => st65 _ kt
    have f66 := (((p6_1.ext E10).other W19 ne_bl_6_b10).other W33 ne_bl_6_b10)
    obtain ⟨cl67, Ar67, q67, S67, M67, H67, G67⟩ := id f66
    have hin67 : ¬ ((0 : Int32) < 0 ∨ cl67.slots.size ≤ ((0 : Int32)).toNatClampNeg) := inb_of S67 ⟨by decide, by decide⟩
    have r68 : own_R p e below _ _ T65 (mkF m 135 #[.val (.ref aa), .val (.ref bl_6), .val (.int (0 : Int32)), .val (.ref b10), .val (.int (((1 : Int32) &&& fz20) &&& fz34)), .val (.int (2 : Int32)), .val (.long j2), .second] [(.ref s_ZV), (.int (0 : Int32)), (.ref bl_6)]) := r65.trans fun z_ kt => by
      refine XS.goto X65.here hx rfl (pc0 := 131) (pc' := 135) rfl (hb hby d1_131) (by decide) (by decide) ?_
      exact kt
    obtain ⟨T69, h69, X69, e69, W69, st69⟩ := stR X65 hx hZ e65 Ar67 (j := (0 : Int32)) hin67 rfl (Sto.ofVA Ar67 q67 p6_2 (Ins.self (OE_s_ZV.ext O33.2))) (g := (mkF m 135 #[.val (.ref aa), .val (.ref bl_6), .val (.int (0 : Int32)), .val (.ref b10), .val (.int (((1 : Int32) &&& fz20) &&& fz34)), .val (.int (2 : Int32)), .val (.long j2), .second] [(.ref s_ZV), (.int (0 : Int32)), (.ref bl_6)])) rfl rfl (hb hby d1_135)
    have r69 : own_R p e below _ _ T69 (mkF m 136 #[.val (.ref aa), .val (.ref bl_6), .val (.int (0 : Int32)), .val (.ref b10), .val (.int (((1 : Int32) &&& fz20) &&& fz34)), .val (.int (2 : Int32)), .val (.long j2), .second] []) := r68.trans fun z_ kt => st69 _ kt
    have N69 := Fr.snoc X69 N33 g_bl_6
    have O69 := O33.wr W69 g_bl_6
    have K69 := K33.wr W69 (Or.inr sz_bl_6)
    have V69 : Arv Z h69 bl_6 kb_6 (.array .long) (1 : Int32) [(.ref s_ZV)] .null := Arv.set Ar67 q67 S67 M67 H67 G67 rfl W69 0 rfl (Nat.le_of_ble_eq_true rfl)
    have r71 : own_R p e below _ _ T69 (mkF m 25 #[.val (.ref aa), .val (.ref bl_6), .val (.int (1 : Int32)), .val (.ref b10), .val (.int (((1 : Int32) &&& fz20) &&& fz34)), .val (.int (2 : Int32)), .val (.long j2), .second] [(.ref bl_6), (.int (1 : Int32))]) := r69.trans fun z_ kt => by
      refine XS.iinc X69.here hx rfl (hb hby d1_136) rfl (l' := #[.val (.ref aa), .val (.ref bl_6), .val (.int (1 : Int32)), .val (.ref b10), .val (.int (((1 : Int32) &&& fz20) &&& fz34)), .val (.int (2 : Int32)), .val (.long j2), .second]) rfl ?_
      refine XS.goto X69.here hx rfl (pc0 := 139) (pc' := 23) rfl (hb hby d1_139) (by decide) (by decide) ?_
      refine XS.iloadN X69.here hx rfl (hb hby d1_23) rfl ?_
      refine XS.aloadN X69.here hx rfl (hb hby d1_24) rfl rfl ?_
      exact kt
    obtain ⟨cl70, Ar70, q70, S70, M70, H70, G70⟩ := id V69
    have r72 : own_R p e below _ _ T69 (mkF m 142 #[.val (.ref aa), .val (.ref bl_6), .val (.int (1 : Int32)), .val (.ref b10), .val (.int (((1 : Int32) &&& fz20) &&& fz34)), .val (.int (2 : Int32)), .val (.long j2), .second] []) := r71.trans fun z_ kt => by
      refine X69.arraylength hx (by rw [e69]; exact Ar70.1) (State.isArrayOf_alike hZ.alike Ar70.2.1) (g := (mkF m 25 #[.val (.ref aa), .val (.ref bl_6), .val (.int (1 : Int32)), .val (.ref b10), .val (.int (((1 : Int32) &&& fz20) &&& fz34)), .val (.int (2 : Int32)), .val (.long j2), .second] [(.ref bl_6), (.int (1 : Int32))])) rfl rfl (hb hby d1_25) _ ?_
      rw [len_of S70 M70]
      refine XS.icmpYes X69.here hx rfl (pc0 := 26) (pc' := 142) rfl (hb hby d1_26) rfl (flt (by decide : ¬ ((1 : Int32) < (1 : Int32)))).2.1 (by decide) (by decide) ?_
      exact kt
    obtain ⟨T73, h73, X73, e73, E73, A73, D73, -, st73⟩ := newO X69 hx hZ hown (hw _ (own_g (i := 14) rfl)) (hw _ (own_g (i := 15) rfl)) (hw _ (own_g (i := 4) rfl)) e69 (g := (mkF m 142 #[.val (.ref aa), .val (.ref bl_6), .val (.int (1 : Int32)), .val (.ref b10), .val (.int (((1 : Int32) &&& fz20) &&& fz34)), .val (.int (2 : Int32)), .val (.long j2), .second] [])) rfl (hb hby d1_142) (by decide) (by decide)
    obtain ⟨b73, g73⟩ : ∃ z, z = h69.size := ⟨_, rfl⟩
    rw [← g73] at A73 D73 st73
    have r73 : own_R p e below _ _ T73 (mkF m 145 #[.val (.ref aa), .val (.ref bl_6), .val (.int (1 : Int32)), .val (.ref b10), .val (.int (((1 : Int32) &&& fz20) &&& fz34)), .val (.int (2 : Int32)), .val (.long j2), .second] [(.ref b73)]) := r72.trans fun z_ kt => st73 _ kt
    have f74 := (f40.other W69 ne_aa_bl_6)
    have ne_aa_b73 : aa ≠ b73 := Nat.ne_of_lt (Nat.lt_of_lt_of_le f74.lt (Nat.le_of_eq g73.symm))
    have ne_bl_6_b73 : bl_6 ≠ b73 := Nat.ne_of_lt (Nat.lt_of_lt_of_le V69.lt (Nat.le_of_eq g73.symm))
    have f75 := (((B10.wr W19).wr W33).wr W69)
    have ne_b10_b73 : b10 ≠ b73 := Nat.ne_of_lt (Nat.lt_of_lt_of_le f75.lt (Nat.le_of_eq g73.symm))
    have g_b73 : n0 ≤ b73 := Nat.le_trans (own_old_size O69) (Nat.le_of_eq g73.symm)
    have sz_b73 : h0.size ≤ b73 := Nat.le_trans K69.1 (Nat.le_of_eq g73.symm)
    have O73 := O69.ext E73
    have K73 := K69.ext E73
    have F73_23 := D73 (Or.inr (hw _ (own_g (i := 23) rfl))) (ty := .int) (by decide)
    have F73_25 := D73 (Or.inr (hw _ (own_g (i := 25) rfl))) (ty := (.array (.array .long))) (by decide)
    have F73_27 := D73 (Or.inr (hw _ (own_g (i := 27) rfl))) (ty := .int) (by decide)
    have F73_29 := D73 (Or.inr (hw _ (own_g (i := 29) rfl))) (ty := .long) (by decide)
    have f76 := (f74.ext E73)
    have r78 : own_R p e below _ _ T73 (mkF m 147 #[.val (.ref aa), .val (.ref bl_6), .val (.int (1 : Int32)), .val (.ref b10), .val (.int (((1 : Int32) &&& fz20) &&& fz34)), .val (.int (2 : Int32)), .val (.long j2), .second] [(.ref aa), (.ref b73), (.ref b73)]) := r73.trans fun z_ kt => by
      refine XS.dup X73.here hx rfl (hb hby d1_145) rfl rfl ?_
      refine XS.aloadN X73.here hx rfl (hb hby d1_146) rfl rfl ?_
      exact kt
    obtain ⟨cl77, Ar77, q77, S77, M77, H77, G77⟩ := id f76
    have r79 : own_R p e below _ _ T73 (mkF m 151 #[.val (.ref aa), .val (.ref bl_6), .val (.int (1 : Int32)), .val (.ref b10), .val (.int (((1 : Int32) &&& fz20) &&& fz34)), .val (.int (2 : Int32)), .val (.long j2), .second] [(.long (0 : Int64)), (.int (-1 : Int32)), (.ref bl_6), (.int (2 : Int32)), (.ref b73), (.ref b73)]) := r78.trans fun z_ kt => by
      refine X73.arraylength hx (by rw [e73]; exact Ar77.1) (State.isArrayOf_alike hZ.alike Ar77.2.1) (g := (mkF m 147 #[.val (.ref aa), .val (.ref bl_6), .val (.int (1 : Int32)), .val (.ref b10), .val (.int (((1 : Int32) &&& fz20) &&& fz34)), .val (.int (2 : Int32)), .val (.long j2), .second] [(.ref aa), (.ref b73), (.ref b73)])) rfl rfl (hb hby d1_147) _ ?_
      rw [len_of S77 M77]
      refine XS.aloadN X73.here hx rfl (hb hby d1_148) rfl rfl ?_
      refine XS.iconst X73.here hx rfl (hb hby d1_149) ?_
      refine XS.lconst X73.here hx rfl (hb hby d1_150) ?_
      exact kt
    obtain ⟨_, _, ⟨T80, L80, cc80, n80⟩, -, X80, ⟨Lc80, hQ80, l80, y80, z80⟩, st80⟩ := X73.specialBack hx (y := (⟨"com/example/wildebeest/wildebeest/core/VectorTime", "<init>", "(I[[JIJ)V"⟩ : MethodName)) rfl hown (mvT hZ (hw _ (own_g (i := 16) rfl))) (mvT hZ (hw _ (own_g (i := 17) rfl))) (mvT hZ (hw _ (own_g (i := 18) rfl))) (by decide) (backOf (W := 1) (rm_vtInit l Z a0 hw [] (b73) ((2 : Int32)) (bl_6) ((-1 : Int32)) ((0 : Int64)) ((.int (0 : Int32))) (.null) ((.int (0 : Int32))) ((.long (0 : Int64))) h73 n0 O73 (A73) (g_b73) (F73_23) (F73_25) (F73_27) (F73_29)) hZ (hw _ (own_g (i := 18) rfl)) (hw _ (own_g (i := 4) rfl)) (by decide) (by decide)) (g := (mkF m 151 #[.val (.ref aa), .val (.ref bl_6), .val (.int (1 : Int32)), .val (.ref b10), .val (.int (((1 : Int32) &&& fz20) &&& fz34)), .val (.int (2 : Int32)), .val (.long j2), .second] [(.long (0 : Int64)), (.int (-1 : Int32)), (.ref bl_6), (.int (2 : Int32)), (.ref b73), (.ref b73)])) rfl (by rw [hml]; rfl) (Steps.refl _) (a := b73) (argsL := [(.int (2 : Int32)), (.ref bl_6), (.int (-1 : Int32)), (.long (0 : Int64))]) (rest := [(.ref b73)]) (lenOf pd_1 rfl) rfl (by show 2 * 0 + _ ≤ _; exact Nat.le_of_eq rfl) (hb hby d1_151) (fun _ _ => ⟨rfl, e73, (by decide : 3 + 0 ≤ _), (by decide : 37 + 0 ≤ _)⟩)
    dsimp only [Pt.U, Pt.locs, Pt.cells, Pt.slots] at X80 l80 y80 z80 st80 hQ80
    subst l80 y80 z80
    obtain ⟨h80, e80⟩ : ∃ z, T80.heap = z := ⟨_, rfl⟩
    rw [e80] at hQ80
    obtain ⟨rfl, Nq80, Kq80, p80_0, p80_1, p80_2, p80_3⟩ := hQ80
    have N80 := Fr.app N69 Nq80
    have r80 : own_R p e below _ _ T80 (mkF m 154 #[.val (.ref aa), .val (.ref bl_6), .val (.int (1 : Int32)), .val (.ref b10), .val (.int (((1 : Int32) &&& fz20) &&& fz34)), .val (.int (2 : Int32)), .val (.long j2), .second] [(.ref b73)]) := r79.trans fun z_ kt => st80.trans kt
    have O80 := O73.keep Kq80 (allS g_b73 all0)
    have K80 := K73.trans Kq80 (allS (Or.inr sz_b73) all0)
    have f81 := (A73.keep Kq80)
    have f82 := ((V69.ext E73).keep Kq80 (ninS ne_bl_6_b73 nin0))
    obtain ⟨fs_, hr_, hrun_, hended_, hW_, hsame_⟩ := X80.leave (v := some (.ref b73)) (fun h => by rw [Bd.returns] at h; cases h)
    refine ⟨_, _, pre0 _ (r80 _ ?_), hrun_, hended_, _, _, rfl, ?_, ⟨_, rfl⟩, hW_, hsame_.mono (by decide) (by decide)⟩
    · exact retOut X80 hx Bd.returns rfl (Or.inr (Or.inr (Or.inr (Or.inr ⟨rfl, rfl, rfl⟩)))) (hb hby d1_154) hr_
    · show Q_of Z aa ka j1 j2 s_ZV kz vz h0 n0 _ T80.heap _
      rw [e80]
      exact ⟨b73, bl_6, kb_6, s_ZV, kz, vz, rfl, N80, K80, sz_b73, sz_bl_6, f81, p80_0, p80_1, p80_2, p80_3, f82, (OV_s_ZV.ext O80.2)⟩

theorem d7_0 : decode jdk_71_method_1_code 0 = .ok (.aload_n 0, 1) := by decide +kernel
theorem d7_1 : decode jdk_71_method_1_code 1 = .ok (.invokespecial 1, 3) := by decide +kernel
theorem d7_4 : decode jdk_71_method_1_code 4 = .ok (.return_, 1) := by decide +kernel
theorem pn_AbstractMap : plainName "java/util/AbstractMap" = true := by first | (simp [plainName, overriddenIn]; done) | decide +kernel
theorem ef_amInit (m : MethodId) (a : Addr) : entryFrame m #[(.ref a)] 1 = mkF m 0 #[.val (.ref a)] [] := by first | (simp [entryFrame, mkF, argsToLocals, Value.category]; done) | rfl
def Q_amInit (Z : State) (a : Addr) (h0 : Heap) (n0 : Nat) (v_ : Option Value) (h_ : Heap) (L_ : List Loc) : Prop := v_ = none ∧ Fr n0 L_ ∧ h_ = h0
set_option maxRecDepth 65536 in
set_option maxHeartbeats 40000000 in
theorem rm_amInit (l : Launch) (Z : State) (a0 : Array Value) (hw : ∀ d ∈ tables_1, d.before a0 Z = true) (ws : List Jvm.Cond) (a : Addr) (h0 : Heap) (n0 : Nat) (O0 : Old Z n0 h0) :
    MetFree l (⟨"java/util/AbstractMap", "<init>", "()V"⟩ : MethodName) (head1 (Jvm.Cond.code (⟨"java/util/AbstractMap", "<init>", "()V"⟩ : MethodName) jdk_71_method_1_code 1 none :: ws) ({ frames := 1, cells := 0, slots := 0, locals := 12 } : Room)) (fun aa_ U_ => aa_ = #[(.ref a)] ∧ Z.Warmed39 U_.vm ∧ U_.heap = h0) (fun _ _ _ _ _ => True) (fun _ U_ o_ U_' => ∃ v_ L_, o_ = .returned v_ ∧ Q_amInit Z a h0 n0 v_ U_'.heap L_ ∧ FrameEnd U_ o_ U_' L_ ({ frames := 1, cells := 0, slots := 0, locals := 12 } : Room).cells ({ frames := 1, cells := 0, slots := 0, locals := 12 } : Room).slots) := by
  refine MetFree.of_bodySF (plainFor_of_name pn_AbstractMap) hisR ?_
  intro p e s m args below meth c s₁ Bd hml0 hP hK
  obtain ⟨rfl, hZ, hh⟩ := hP
  have hx := Bd.exec
  have hby := Bd.bytes
  have hml : c.maxLocals = 1 := hml0
  have hown : s.vm.findClass "java/util/AbstractMap" = some m.cls := findClass_of_methodNamed Bd.named
  have hnm := (name_of_methodNamed Bd.named Bd.method).1
  have X0 : Stand p l e ({ frames := 1, cells := 0, slots := 0, locals := 12 } : Room) s m #[(.ref a)] below meth c s₁ [] 0 0 := Stand.of_body Bd
  have e0 : s₁.heap = h0 := by rw [← hh, Bd.state]; rfl
  have N0 := Fr.nil n0
  have pre0 : ∀ z_, Steps p.tables e below (s₁.setTop (mkF m 0 #[.val (.ref a)] [])) z_ → Steps p.tables e below (s₁.setTop (entryFrame m #[(.ref a)] 1)) z_ := fun z_ k_ => castTop (ef_amInit m a) k_
  have r0 : own_R p e below s₁ (mkF m 0 #[.val (.ref a)] []) s₁ (mkF m 0 #[.val (.ref a)] []) := own_R.refl
  have r1 : own_R p e below _ _ s₁ (mkF m 1 #[.val (.ref a)] [(.ref a)]) := r0.trans fun z_ kt => by
    refine XS.aloadN X0.here hx rfl (hb hby d7_0) rfl rfl ?_
    exact kt
  obtain ⟨T2, X2, e2, st2⟩ := initO X0 hx hZ hown (hw _ (own_g (i := 49) rfl)) (hw _ (own_g (i := 20) rfl)) (hw _ (own_g (i := 21) rfl)) e0 (g := (mkF m 1 #[.val (.ref a)] [(.ref a)])) rfl (by rw [hml]; rfl) rfl (hb hby d7_1) (by decide) (W := 0) (by show 2 * 0 + _ ≤ _; exact Nat.le_of_eq rfl) (by decide)
  have r2 : own_R p e below _ _ T2 (mkF m 4 #[.val (.ref a)] []) := r1.trans fun z_ kt => st2 _ kt
  obtain ⟨fs_, hr_, hrun_, hended_, hW_, hsame_⟩ := X2.leave (v := none) (fun _ => rfl)
  refine ⟨_, _, pre0 _ (r2 _ ?_), hrun_, hended_, _, _, rfl, ?_, ⟨_, rfl⟩, hW_, hsame_.mono (by decide) (by decide)⟩
  · exact X2.returnOut hx Bd.returns (hb hby d7_4) hr_
  · show Q_amInit Z a h0 n0 _ T2.heap _
    rw [e2]
    exact ⟨rfl, N0, rfl⟩

theorem d6_0 : decode jdk_69_method_7_code 0 = .ok (.aload_n 0, 1) := by decide +kernel
theorem d6_1 : decode jdk_69_method_7_code 1 = .ok (.invokespecial 43, 3) := by decide +kernel
theorem pd_2 : parseMethodDescriptor "()V" = some ⟨[], none⟩ := by decide +kernel
theorem d6_4 : decode jdk_69_method_7_code 4 = .ok (.aload_n 0, 1) := by decide +kernel
theorem d6_5 : decode jdk_69_method_7_code 5 = .ok (.ldc 92, 2) := by decide +kernel
theorem d6_7 : decode jdk_69_method_7_code 7 = .ok (.putfield 81, 3) := by decide +kernel
theorem d6_10 : decode jdk_69_method_7_code 10 = .ok (.return_, 1) := by decide +kernel
theorem pn_HashMap : plainName "java/util/HashMap" = true := by first | (simp [plainName, overriddenIn]; done) | decide +kernel
theorem ef_hmInit (m : MethodId) (a : Addr) : entryFrame m #[(.ref a)] 1 = mkF m 0 #[.val (.ref a)] [] := by first | (simp [entryFrame, mkF, argsToLocals, Value.category]; done) | rfl
def Q_hmInit (Z : State) (a : Addr) (u1 : Value) (h0 : Heap) (n0 : Nat) (v_ : Option Value) (h_ : Heap) (L_ : List Loc) : Prop := v_ = none ∧ Fr n0 L_ ∧ Keep h0 h_ [a]
set_option maxRecDepth 65536 in
set_option maxHeartbeats 40000000 in
theorem rm_hmInit (l : Launch) (Z : State) (a0 : Array Value) (hw : ∀ d ∈ tables_1, d.before a0 Z = true) (ws : List Jvm.Cond) (a : Addr) (u1 : Value) (h0 : Heap) (n0 : Nat) (O0 : Old Z n0 h0) (E_a : Exa Z h0 a "java/util/HashMap") (g_a : n0 ≤ a) (F_a_loadFactor : Fld Z h0 a "java/util/HashMap" "loadFactor" "F" u1) :
    MetFree l (⟨"java/util/HashMap", "<init>", "()V"⟩ : MethodName) (head1 (Jvm.Cond.code (⟨"java/util/HashMap", "<init>", "()V"⟩ : MethodName) jdk_69_method_7_code 1 none :: ws) ({ frames := 2, cells := 0, slots := 0, locals := 24 } : Room)) (fun aa_ U_ => aa_ = #[(.ref a)] ∧ Z.Warmed39 U_.vm ∧ U_.heap = h0) (fun _ _ _ _ _ => True) (fun _ U_ o_ U_' => ∃ v_ L_, o_ = .returned v_ ∧ Q_hmInit Z a u1 h0 n0 v_ U_'.heap L_ ∧ FrameEnd U_ o_ U_' L_ ({ frames := 2, cells := 0, slots := 0, locals := 24 } : Room).cells ({ frames := 2, cells := 0, slots := 0, locals := 24 } : Room).slots) := by
  refine MetFree.of_bodySF (plainFor_of_name pn_HashMap) hisR ?_
  intro p e s m args below meth c s₁ Bd hml0 hP hK
  obtain ⟨rfl, hZ, hh⟩ := hP
  have hx := Bd.exec
  have hby := Bd.bytes
  have hml : c.maxLocals = 1 := hml0
  have hown : s.vm.findClass "java/util/HashMap" = some m.cls := findClass_of_methodNamed Bd.named
  have hnm := (name_of_methodNamed Bd.named Bd.method).1
  have X0 : Stand p l e ({ frames := 2, cells := 0, slots := 0, locals := 24 } : Room) s m #[(.ref a)] below meth c s₁ [] 0 0 := Stand.of_body Bd
  have e0 : s₁.heap = h0 := by rw [← hh, Bd.state]; rfl
  have N0 := Fr.nil n0
  have K0 : Keep h0 h0 [a] := Keep.refl h0 _
  have pre0 : ∀ z_, Steps p.tables e below (s₁.setTop (mkF m 0 #[.val (.ref a)] [])) z_ → Steps p.tables e below (s₁.setTop (entryFrame m #[(.ref a)] 1)) z_ := fun z_ k_ => castTop (ef_hmInit m a) k_
  have r0 : own_R p e below s₁ (mkF m 0 #[.val (.ref a)] []) s₁ (mkF m 0 #[.val (.ref a)] []) := own_R.refl
  have r1 : own_R p e below _ _ s₁ (mkF m 1 #[.val (.ref a)] [(.ref a)]) := r0.trans fun z_ kt => by
    refine XS.aloadN X0.here hx rfl (hb hby d6_0) rfl rfl ?_
    exact kt
  obtain ⟨_, _, ⟨T2, L2, cc2, n2⟩, -, X2, ⟨Lc2, hQ2, l2, y2, z2⟩, st2⟩ := X0.specialBack hx (y := (⟨"java/util/AbstractMap", "<init>", "()V"⟩ : MethodName)) rfl hown (mvT hZ (hw _ (own_g (i := 43) rfl))) (mvT hZ (hw _ (own_g (i := 44) rfl))) (mvT hZ (hw _ (own_g (i := 48) rfl))) (by decide) (backOf (W := 0) (rm_amInit l Z a0 hw [] (a) h0 n0 O0 ) hZ (hw _ (own_g (i := 48) rfl)) (hw _ (own_g (i := 47) rfl)) (by decide) (by decide)) (g := (mkF m 1 #[.val (.ref a)] [(.ref a)])) rfl (by rw [hml]; rfl) (Steps.refl _) (a := a) (argsL := []) (rest := []) (lenOf pd_2 rfl) rfl (by show 2 * 0 + _ ≤ _; exact Nat.le_of_eq rfl) (hb hby d6_1) (fun _ _ => ⟨rfl, e0, (by decide : 0 + 0 ≤ _), (by decide : 0 + 0 ≤ _)⟩)
  dsimp only [Pt.U, Pt.locs, Pt.cells, Pt.slots] at X2 l2 y2 z2 st2 hQ2
  subst l2 y2 z2
  obtain ⟨rfl, Nq2, eq2⟩ := hQ2
  have N2 := Fr.app N0 Nq2
  have r2 : own_R p e below _ _ T2 (mkF m 4 #[.val (.ref a)] []) := r1.trans fun z_ kt => st2.trans kt
  have e2 : T2.heap = h0 := eq2
  have r3 : own_R p e below _ _ T2 (mkF m 7 #[.val (.ref a)] [(.float (1061158912 : UInt32)), (.ref a)]) := r2.trans fun z_ kt => by
    refine XS.aloadN X2.here hx rfl (hb hby d6_4) rfl rfl ?_
    refine X2.ldcFloatC hx hown (mvT hZ (hw _ (own_g (i := 50) rfl))) (g := (mkF m 5 #[.val (.ref a)] [(.ref a)])) rfl (hb hby d6_5) _ ?_
    exact kt
  obtain ⟨T4, h4, X4, e4, W4, st4⟩ := putF X2 hx hZ hown (host := "") (Or.inl (hw _ (own_g (i := 51) rfl))) Via.refl e2 F_a_loadFactor E_a (Or.inr ⟨(hw _ (own_g (i := 52) rfl)), rfl, hnm⟩) (hw _ (own_g (i := 38) rfl)) (ty := .float) (v := (.float (1061158912 : UInt32))) (by decide) rfl rfl (g := (mkF m 7 #[.val (.ref a)] [(.float (1061158912 : UInt32)), (.ref a)])) rfl rfl (hb hby d6_7)
  have r4 : own_R p e below _ _ T4 (mkF m 10 #[.val (.ref a)] []) := r3.trans fun z_ kt => st4 _ kt
  have N4 := Fr.snoc X4 N2 g_a
  have O4 := O0.wr W4 g_a
  have K4 := K0.wr W4 (Or.inl (List.mem_of_getElem? (i := 0) rfl))
  have F4 := F_a_loadFactor.same W4
  obtain ⟨fs_, hr_, hrun_, hended_, hW_, hsame_⟩ := X4.leave (v := none) (fun _ => rfl)
  refine ⟨_, _, pre0 _ (r4 _ ?_), hrun_, hended_, _, _, rfl, ?_, ⟨_, rfl⟩, hW_, hsame_.mono (by decide) (by decide)⟩
  · exact X4.returnOut hx Bd.returns (hb hby d6_10) hr_
  · show Q_hmInit Z a u1 h0 n0 _ T4.heap _
    rw [e4]
    exact ⟨rfl, N4, K4⟩

theorem d5_0 : decode prog_32_method_1_code 0 = .ok (.aload_n 0, 1) := by decide +kernel
theorem d5_1 : decode prog_32_method_1_code 1 = .ok (.invokespecial 1, 3) := by decide +kernel
theorem d5_4 : decode prog_32_method_1_code 4 = .ok (.aload_n 0, 1) := by decide +kernel
theorem d5_5 : decode prog_32_method_1_code 5 = .ok (.new 7, 3) := by decide +kernel
theorem d5_8 : decode prog_32_method_1_code 8 = .ok (.dup, 1) := by decide +kernel
theorem d5_9 : decode prog_32_method_1_code 9 = .ok (.invokespecial 9, 3) := by decide +kernel
theorem d5_12 : decode prog_32_method_1_code 12 = .ok (.putfield 10, 3) := by decide +kernel
theorem d5_15 : decode prog_32_method_1_code 15 = .ok (.aload_n 0, 1) := by decide +kernel
theorem d5_16 : decode prog_32_method_1_code 16 = .ok (.new 7, 3) := by decide +kernel
theorem d5_19 : decode prog_32_method_1_code 19 = .ok (.dup, 1) := by decide +kernel
theorem d5_20 : decode prog_32_method_1_code 20 = .ok (.invokespecial 9, 3) := by decide +kernel
theorem d5_23 : decode prog_32_method_1_code 23 = .ok (.putfield 16, 3) := by decide +kernel
theorem d5_26 : decode prog_32_method_1_code 26 = .ok (.aload_n 0, 1) := by decide +kernel
theorem d5_27 : decode prog_32_method_1_code 27 = .ok (.iconst 0, 1) := by decide +kernel
theorem d5_28 : decode prog_32_method_1_code 28 = .ok (.newarray .long, 2) := by decide +kernel
theorem d5_30 : decode prog_32_method_1_code 30 = .ok (.putfield 19, 3) := by decide +kernel
theorem d5_33 : decode prog_32_method_1_code 33 = .ok (.return_, 1) := by decide +kernel
theorem pn_CausalityCheck : plainName "com/example/wildebeest/wildebeest/core/CausalityCheck" = true := by first | (simp [plainName, overriddenIn]; done) | decide +kernel
theorem ef_ccInit (m : MethodId) (a : Addr) : entryFrame m #[(.ref a)] 1 = mkF m 0 #[.val (.ref a)] [] := by first | (simp [entryFrame, mkF, argsToLocals, Value.category]; done) | rfl
def Q_ccInit (Z : State) (a : Addr) (js : Int64) (ju : Int64) (jv : Int64) (u1 : Value) (u2 : Value) (u3 : Value) (h0 : Heap) (n0 : Nat) (v_ : Option Value) (h_ : Heap) (L_ : List Loc) : Prop := ∃ (ev : Addr) (ke : ClassId), v_ = none ∧ Fr n0 L_ ∧ Keep h0 h_ [a] ∧ (h0.size ≤ ev) ∧ (Fld Z h_ a "com/example/wildebeest/wildebeest/core/CausalityCheck" "events" "[J" (.ref ev)) ∧ (Arv Z h_ ev ke .long (0 : Int32) [] (.long (0 : Int64))) ∧ (Fld Z h_ a "com/example/wildebeest/wildebeest/core/CausalityCheck" "stamped" "J" (.long js)) ∧ (Fld Z h_ a "com/example/wildebeest/wildebeest/core/CausalityCheck" "unstamped" "J" (.long ju)) ∧ (Fld Z h_ a "com/example/wildebeest/wildebeest/core/CausalityCheck" "violations" "J" (.long jv))
set_option maxRecDepth 65536 in
set_option maxHeartbeats 40000000 in
theorem rm_ccInit (l : Launch) (Z : State) (a0 : Array Value) (hw : ∀ d ∈ tables_1, d.before a0 Z = true) (ws : List Jvm.Cond) (a : Addr) (js : Int64) (ju : Int64) (jv : Int64) (u1 : Value) (u2 : Value) (u3 : Value) (h0 : Heap) (n0 : Nat) (O0 : Old Z n0 h0) (E_a : Exa Z h0 a "com/example/wildebeest/wildebeest/core/CausalityCheck") (g_a : n0 ≤ a) (F_a_stamped : Fld Z h0 a "com/example/wildebeest/wildebeest/core/CausalityCheck" "stamped" "J" (.long js)) (F_a_unstamped : Fld Z h0 a "com/example/wildebeest/wildebeest/core/CausalityCheck" "unstamped" "J" (.long ju)) (F_a_violations : Fld Z h0 a "com/example/wildebeest/wildebeest/core/CausalityCheck" "violations" "J" (.long jv)) (F_a_sends : Fld Z h0 a "com/example/wildebeest/wildebeest/core/CausalityCheck" "sends" "Ljava/util/Map;" u1) (F_a_receives : Fld Z h0 a "com/example/wildebeest/wildebeest/core/CausalityCheck" "receives" "Ljava/util/Map;" u2) (F_a_events : Fld Z h0 a "com/example/wildebeest/wildebeest/core/CausalityCheck" "events" "[J" u3) :
    MetFree l (⟨"com/example/wildebeest/wildebeest/core/CausalityCheck", "<init>", "()V"⟩ : MethodName) (head1 (Jvm.Cond.code (⟨"com/example/wildebeest/wildebeest/core/CausalityCheck", "<init>", "()V"⟩ : MethodName) prog_32_method_1_code 1 none :: ws) ({ frames := 3, cells := 3, slots := 16, locals := 38 } : Room)) (fun aa_ U_ => aa_ = #[(.ref a)] ∧ Z.Warmed39 U_.vm ∧ U_.heap = h0) (fun _ _ _ _ _ => True) (fun _ U_ o_ U_' => ∃ v_ L_, o_ = .returned v_ ∧ Q_ccInit Z a js ju jv u1 u2 u3 h0 n0 v_ U_'.heap L_ ∧ FrameEnd U_ o_ U_' L_ ({ frames := 3, cells := 3, slots := 16, locals := 38 } : Room).cells ({ frames := 3, cells := 3, slots := 16, locals := 38 } : Room).slots) := by
  refine MetFree.of_bodySF (plainFor_of_name pn_CausalityCheck) hisR ?_
  intro p e s m args below meth c s₁ Bd hml0 hP hK
  obtain ⟨rfl, hZ, hh⟩ := hP
  have hx := Bd.exec
  have hby := Bd.bytes
  have hml : c.maxLocals = 1 := hml0
  have hown : s.vm.findClass "com/example/wildebeest/wildebeest/core/CausalityCheck" = some m.cls := findClass_of_methodNamed Bd.named
  have hnm := (name_of_methodNamed Bd.named Bd.method).1
  have X0 : Stand p l e ({ frames := 3, cells := 3, slots := 16, locals := 38 } : Room) s m #[(.ref a)] below meth c s₁ [] 0 0 := Stand.of_body Bd
  have e0 : s₁.heap = h0 := by rw [← hh, Bd.state]; rfl
  have N0 := Fr.nil n0
  have K0 : Keep h0 h0 [a] := Keep.refl h0 _
  have pre0 : ∀ z_, Steps p.tables e below (s₁.setTop (mkF m 0 #[.val (.ref a)] [])) z_ → Steps p.tables e below (s₁.setTop (entryFrame m #[(.ref a)] 1)) z_ := fun z_ k_ => castTop (ef_ccInit m a) k_
  have r0 : own_R p e below s₁ (mkF m 0 #[.val (.ref a)] []) s₁ (mkF m 0 #[.val (.ref a)] []) := own_R.refl
  have r1 : own_R p e below _ _ s₁ (mkF m 1 #[.val (.ref a)] [(.ref a)]) := r0.trans fun z_ kt => by
    refine XS.aloadN X0.here hx rfl (hb hby d5_0) rfl rfl ?_
    exact kt
  obtain ⟨T2, X2, e2, st2⟩ := initO X0 hx hZ hown (hw _ (own_g (i := 36) rfl)) (hw _ (own_g (i := 20) rfl)) (hw _ (own_g (i := 21) rfl)) e0 (g := (mkF m 1 #[.val (.ref a)] [(.ref a)])) rfl (by rw [hml]; rfl) rfl (hb hby d5_1) (by decide) (W := 0) (by show 2 * 0 + _ ≤ _; exact Nat.le_of_eq rfl) (by decide)
  have r2 : own_R p e below _ _ T2 (mkF m 4 #[.val (.ref a)] []) := r1.trans fun z_ kt => st2 _ kt
  have r3 : own_R p e below _ _ T2 (mkF m 5 #[.val (.ref a)] [(.ref a)]) := r2.trans fun z_ kt => by
    refine XS.aloadN X2.here hx rfl (hb hby d5_4) rfl rfl ?_
    exact kt
  obtain ⟨T4, h4, X4, e4, E4, A4, D4, -, st4⟩ := newO X2 hx hZ hown (hw _ (own_g (i := 37) rfl)) (hw _ (own_g (i := 38) rfl)) (hw _ (own_g (i := 39) rfl)) e2 (g := (mkF m 5 #[.val (.ref a)] [(.ref a)])) rfl (hb hby d5_5) (by decide) (by decide)
  obtain ⟨b4, g4⟩ : ∃ z, z = h0.size := ⟨_, rfl⟩
  rw [← g4] at A4 D4 st4
  have r4 : own_R p e below _ _ T4 (mkF m 8 #[.val (.ref a)] [(.ref b4), (.ref a)]) := r3.trans fun z_ kt => st4 _ kt
  have ne_a_b4 : a ≠ b4 := Nat.ne_of_lt (Nat.lt_of_lt_of_le E_a.lt (Nat.le_of_eq g4.symm))
  have g_b4 : n0 ≤ b4 := Nat.le_trans (own_old_size O0) (Nat.le_of_eq g4.symm)
  have sz_b4 : h0.size ≤ b4 := Nat.le_trans K0.1 (Nat.le_of_eq g4.symm)
  have O4 := O0.ext E4
  have K4 := K0.ext E4
  have F4_52 := D4 (Or.inr (hw _ (own_g (i := 52) rfl))) (ty := .float) (by decide)
  have r5 : own_R p e below _ _ T4 (mkF m 9 #[.val (.ref a)] [(.ref b4), (.ref b4), (.ref a)]) := r4.trans fun z_ kt => by
    refine XS.dup X4.here hx rfl (hb hby d5_8) rfl rfl ?_
    exact kt
  obtain ⟨_, _, ⟨T6, L6, cc6, n6⟩, -, X6, ⟨Lc6, hQ6, l6, y6, z6⟩, st6⟩ := X4.specialBack hx (y := (⟨"java/util/HashMap", "<init>", "()V"⟩ : MethodName)) rfl hown (mvT hZ (hw _ (own_g (i := 40) rfl))) (mvT hZ (hw _ (own_g (i := 41) rfl))) (mvT hZ (hw _ (own_g (i := 42) rfl))) (by decide) (backOf (W := 2) (rm_hmInit l Z a0 hw [] (b4) ((.float (0 : UInt32))) h4 n0 O4 (A4) (g_b4) (F4_52)) hZ (hw _ (own_g (i := 42) rfl)) (hw _ (own_g (i := 39) rfl)) (by decide) (by decide)) (g := (mkF m 9 #[.val (.ref a)] [(.ref b4), (.ref b4), (.ref a)])) rfl (by rw [hml]; rfl) (Steps.refl _) (a := b4) (argsL := []) (rest := [(.ref b4), (.ref a)]) (lenOf pd_2 rfl) rfl (by show 2 * 0 + _ ≤ _; exact Nat.le_of_eq rfl) (hb hby d5_9) (fun _ _ => ⟨rfl, e4, (by decide : 1 + 0 ≤ _), (by decide : 8 + 0 ≤ _)⟩)
  dsimp only [Pt.U, Pt.locs, Pt.cells, Pt.slots] at X6 l6 y6 z6 st6 hQ6
  subst l6 y6 z6
  obtain ⟨h6, e6⟩ : ∃ z, T6.heap = z := ⟨_, rfl⟩
  rw [e6] at hQ6
  obtain ⟨rfl, Nq6, Kq6⟩ := hQ6
  have N6 := Fr.app N0 Nq6
  have r6 : own_R p e below _ _ T6 (mkF m 12 #[.val (.ref a)] [(.ref b4), (.ref a)]) := r5.trans fun z_ kt => st6.trans kt
  have O6 := O4.keep Kq6 (allS g_b4 all0)
  have K6 := K4.trans Kq6 (allS (Or.inr sz_b4) all0)
  have f7 := ((F_a_sends.ext E4).keep Kq6 (ninS ne_a_b4 nin0))
  have f8 := ((E_a.ext E4).keep Kq6)
  obtain ⟨T9, h9, X9, e9, W9, st9⟩ := putF X6 hx hZ hown (host := "") (Or.inl (hw _ (own_g (i := 53) rfl))) Via.refl e6 f7 f8 (Or.inr ⟨(hw _ (own_g (i := 54) rfl)), rfl, hnm⟩) (hw _ (own_g (i := 31) rfl)) (ty := (.object "java/util/Map")) (v := (.ref b4)) (by decide) rfl rfl (g := (mkF m 12 #[.val (.ref a)] [(.ref b4), (.ref a)])) rfl rfl (hb hby d5_12)
  have r9 : own_R p e below _ _ T9 (mkF m 15 #[.val (.ref a)] []) := r6.trans fun z_ kt => st9 _ kt
  have N9 := Fr.snoc X9 N6 g_a
  have O9 := O6.wr W9 g_a
  have K9 := K6.wr W9 (Or.inl (List.mem_of_getElem? (i := 0) rfl))
  have F9 := f7.same W9
  have r10 : own_R p e below _ _ T9 (mkF m 16 #[.val (.ref a)] [(.ref a)]) := r9.trans fun z_ kt => by
    refine XS.aloadN X9.here hx rfl (hb hby d5_15) rfl rfl ?_
    exact kt
  obtain ⟨T11, h11, X11, e11, E11, A11, D11, -, st11⟩ := newO X9 hx hZ hown (hw _ (own_g (i := 37) rfl)) (hw _ (own_g (i := 38) rfl)) (hw _ (own_g (i := 39) rfl)) e9 (g := (mkF m 16 #[.val (.ref a)] [(.ref a)])) rfl (hb hby d5_16) (by decide) (by decide)
  obtain ⟨b11, g11⟩ : ∃ z, z = h9.size := ⟨_, rfl⟩
  rw [← g11] at A11 D11 st11
  have r11 : own_R p e below _ _ T11 (mkF m 19 #[.val (.ref a)] [(.ref b11), (.ref a)]) := r10.trans fun z_ kt => st11 _ kt
  have f12 := (f8.wr W9)
  have ne_a_b11 : a ≠ b11 := Nat.ne_of_lt (Nat.lt_of_lt_of_le f12.lt (Nat.le_of_eq g11.symm))
  have f13 := ((A4.keep Kq6).wr W9)
  have ne_b4_b11 : b4 ≠ b11 := Nat.ne_of_lt (Nat.lt_of_lt_of_le f13.lt (Nat.le_of_eq g11.symm))
  have g_b11 : n0 ≤ b11 := Nat.le_trans (own_old_size O9) (Nat.le_of_eq g11.symm)
  have sz_b11 : h0.size ≤ b11 := Nat.le_trans K9.1 (Nat.le_of_eq g11.symm)
  have O11 := O9.ext E11
  have K11 := K9.ext E11
  have F11_52 := D11 (Or.inr (hw _ (own_g (i := 52) rfl))) (ty := .float) (by decide)
  have r14 : own_R p e below _ _ T11 (mkF m 20 #[.val (.ref a)] [(.ref b11), (.ref b11), (.ref a)]) := r11.trans fun z_ kt => by
    refine XS.dup X11.here hx rfl (hb hby d5_19) rfl rfl ?_
    exact kt
  obtain ⟨_, _, ⟨T15, L15, cc15, n15⟩, -, X15, ⟨Lc15, hQ15, l15, y15, z15⟩, st15⟩ := X11.specialBack hx (y := (⟨"java/util/HashMap", "<init>", "()V"⟩ : MethodName)) rfl hown (mvT hZ (hw _ (own_g (i := 40) rfl))) (mvT hZ (hw _ (own_g (i := 41) rfl))) (mvT hZ (hw _ (own_g (i := 42) rfl))) (by decide) (backOf (W := 2) (rm_hmInit l Z a0 hw [] (b11) ((.float (0 : UInt32))) h11 n0 O11 (A11) (g_b11) (F11_52)) hZ (hw _ (own_g (i := 42) rfl)) (hw _ (own_g (i := 39) rfl)) (by decide) (by decide)) (g := (mkF m 20 #[.val (.ref a)] [(.ref b11), (.ref b11), (.ref a)])) rfl (by rw [hml]; rfl) (Steps.refl _) (a := b11) (argsL := []) (rest := [(.ref b11), (.ref a)]) (lenOf pd_2 rfl) rfl (by show 2 * 0 + _ ≤ _; exact Nat.le_of_eq rfl) (hb hby d5_20) (fun _ _ => ⟨rfl, e11, (by decide : 2 + 0 ≤ _), (by decide : 16 + 0 ≤ _)⟩)
  dsimp only [Pt.U, Pt.locs, Pt.cells, Pt.slots] at X15 l15 y15 z15 st15 hQ15
  subst l15 y15 z15
  obtain ⟨h15, e15⟩ : ∃ z, T15.heap = z := ⟨_, rfl⟩
  rw [e15] at hQ15
  obtain ⟨rfl, Nq15, Kq15⟩ := hQ15
  have N15 := Fr.app N9 Nq15
  have r15 : own_R p e below _ _ T15 (mkF m 23 #[.val (.ref a)] [(.ref b11), (.ref a)]) := r14.trans fun z_ kt => st15.trans kt
  have O15 := O11.keep Kq15 (allS g_b11 all0)
  have K15 := K11.trans Kq15 (allS (Or.inr sz_b11) all0)
  have f16 := (((((F_a_receives.ext E4).keep Kq6 (ninS ne_a_b4 nin0)).other W9 (Or.inr (slot_ne (Or.inr (hw _ (own_g (i := 56) rfl))) (Or.inr (hw _ (own_g (i := 54) rfl))) (by decide) (t := (.object "java/util/Map")) (t' := (.object "java/util/Map")) (by decide) (by decide)))).ext E11).keep Kq15 (ninS ne_a_b11 nin0))
  have f17 := ((f12.ext E11).keep Kq15)
  obtain ⟨T18, h18, X18, e18, W18, st18⟩ := putF X15 hx hZ hown (host := "") (Or.inl (hw _ (own_g (i := 55) rfl))) Via.refl e15 f16 f17 (Or.inr ⟨(hw _ (own_g (i := 56) rfl)), rfl, hnm⟩) (hw _ (own_g (i := 31) rfl)) (ty := (.object "java/util/Map")) (v := (.ref b11)) (by decide) rfl rfl (g := (mkF m 23 #[.val (.ref a)] [(.ref b11), (.ref a)])) rfl rfl (hb hby d5_23)
  have r18 : own_R p e below _ _ T18 (mkF m 26 #[.val (.ref a)] []) := r15.trans fun z_ kt => st18 _ kt
  have N18 := Fr.snoc X18 N15 g_a
  have O18 := O15.wr W18 g_a
  have K18 := K15.wr W18 (Or.inl (List.mem_of_getElem? (i := 0) rfl))
  have F18 := f16.same W18
  have r19 : own_R p e below _ _ T18 (mkF m 28 #[.val (.ref a)] [(.int (0 : Int32)), (.ref a)]) := r18.trans fun z_ kt => by
    refine XS.aloadN X18.here hx rfl (hb hby d5_26) rfl rfl ?_
    refine XS.iconst X18.here hx rfl (hb hby d5_27) ?_
    exact kt
  obtain ⟨T20, h20, k20, X20, e20, E20, A20, st20⟩ := newP X18 hx hZ (hw _ (own_g (i := 0) rfl)) e18 (g := (mkF m 28 #[.val (.ref a)] [(.int (0 : Int32)), (.ref a)])) rfl (hb hby d5_28) rfl (by decide) (cap := 0) (by decide) (by decide) (by decide) (by decide)
  obtain ⟨b20, g20⟩ : ∃ z, z = h18.size := ⟨_, rfl⟩
  rw [← g20] at A20 st20
  have r20 : own_R p e below _ _ T20 (mkF m 30 #[.val (.ref a)] [(.ref b20), (.ref a)]) := r19.trans fun z_ kt => st20 _ kt
  have f21 := (f17.wr W18)
  have ne_a_b20 : a ≠ b20 := Nat.ne_of_lt (Nat.lt_of_lt_of_le f21.lt (Nat.le_of_eq g20.symm))
  have f22 := (((f13.ext E11).keep Kq15).wr W18)
  have ne_b4_b20 : b4 ≠ b20 := Nat.ne_of_lt (Nat.lt_of_lt_of_le f22.lt (Nat.le_of_eq g20.symm))
  have f23 := ((A11.keep Kq15).wr W18)
  have ne_b11_b20 : b11 ≠ b20 := Nat.ne_of_lt (Nat.lt_of_lt_of_le f23.lt (Nat.le_of_eq g20.symm))
  have g_b20 : n0 ≤ b20 := Nat.le_trans (own_old_size O18) (Nat.le_of_eq g20.symm)
  have sz_b20 : h0.size ≤ b20 := Nat.le_trans K18.1 (Nat.le_of_eq g20.symm)
  have O20 := O18.ext E20
  have K20 := K18.ext E20
  have V20 : Arv Z h20 b20 k20 .long (0 : Int32) [] (.long (0 : Int64)) := (Arv.new A20 (by decide)).pad (pad_rep [] (.long (0 : Int64)) 0)
  have f24 := (((((((F_a_events.ext E4).keep Kq6 (ninS ne_a_b4 nin0)).other W9 (Or.inr (slot_ne (Or.inl (hw _ (own_g (i := 58) rfl))) (Or.inr (hw _ (own_g (i := 54) rfl))) (by decide) (t := (.array .long)) (t' := (.object "java/util/Map")) (by decide) (by decide)))).ext E11).keep Kq15 (ninS ne_a_b11 nin0)).other W18 (Or.inr (slot_ne (Or.inl (hw _ (own_g (i := 58) rfl))) (Or.inr (hw _ (own_g (i := 56) rfl))) (by decide) (t := (.array .long)) (t' := (.object "java/util/Map")) (by decide) (by decide)))).ext E20)
  have f25 := (f21.ext E20)
  obtain ⟨T26, h26, X26, e26, W26, st26⟩ := putF X20 hx hZ hown (host := "") (Or.inl (hw _ (own_g (i := 57) rfl))) Via.refl e20 f24 f25 (Or.inl (hw _ (own_g (i := 58) rfl))) (hw _ (own_g (i := 31) rfl)) (ty := (.array .long)) (v := (.ref b20)) (by decide) rfl rfl (g := (mkF m 30 #[.val (.ref a)] [(.ref b20), (.ref a)])) rfl rfl (hb hby d5_30)
  have r26 : own_R p e below _ _ T26 (mkF m 33 #[.val (.ref a)] []) := r20.trans fun z_ kt => st26 _ kt
  have N26 := Fr.snoc X26 N18 g_a
  have O26 := O20.wr W26 g_a
  have K26 := K20.wr W26 (Or.inl (List.mem_of_getElem? (i := 0) rfl))
  have F26 := f24.same W26
  have f27 := (V20.other W26 (Ne.symm ne_a_b20))
  have f28 := ((((((((F_a_stamped.ext E4).keep Kq6 (ninS ne_a_b4 nin0)).other W9 (Or.inr (slot_ne (Or.inl (hw _ (own_g (i := 65) rfl))) (Or.inr (hw _ (own_g (i := 54) rfl))) (by decide) (t := .long) (t' := (.object "java/util/Map")) (by decide) (by decide)))).ext E11).keep Kq15 (ninS ne_a_b11 nin0)).other W18 (Or.inr (slot_ne (Or.inl (hw _ (own_g (i := 65) rfl))) (Or.inr (hw _ (own_g (i := 56) rfl))) (by decide) (t := .long) (t' := (.object "java/util/Map")) (by decide) (by decide)))).ext E20).other W26 (Or.inr (slot_ne (Or.inl (hw _ (own_g (i := 65) rfl))) (Or.inl (hw _ (own_g (i := 58) rfl))) (by decide) (t := .long) (t' := (.array .long)) (by decide) (by decide))))
  have f29 := ((((((((F_a_unstamped.ext E4).keep Kq6 (ninS ne_a_b4 nin0)).other W9 (Or.inr (slot_ne (Or.inl (hw _ (own_g (i := 194) rfl))) (Or.inr (hw _ (own_g (i := 54) rfl))) (by decide) (t := .long) (t' := (.object "java/util/Map")) (by decide) (by decide)))).ext E11).keep Kq15 (ninS ne_a_b11 nin0)).other W18 (Or.inr (slot_ne (Or.inl (hw _ (own_g (i := 194) rfl))) (Or.inr (hw _ (own_g (i := 56) rfl))) (by decide) (t := .long) (t' := (.object "java/util/Map")) (by decide) (by decide)))).ext E20).other W26 (Or.inr (slot_ne (Or.inl (hw _ (own_g (i := 194) rfl))) (Or.inl (hw _ (own_g (i := 58) rfl))) (by decide) (t := .long) (t' := (.array .long)) (by decide) (by decide))))
  have f30 := ((((((((F_a_violations.ext E4).keep Kq6 (ninS ne_a_b4 nin0)).other W9 (Or.inr (slot_ne (Or.inl (hw _ (own_g (i := 228) rfl))) (Or.inr (hw _ (own_g (i := 54) rfl))) (by decide) (t := .long) (t' := (.object "java/util/Map")) (by decide) (by decide)))).ext E11).keep Kq15 (ninS ne_a_b11 nin0)).other W18 (Or.inr (slot_ne (Or.inl (hw _ (own_g (i := 228) rfl))) (Or.inr (hw _ (own_g (i := 56) rfl))) (by decide) (t := .long) (t' := (.object "java/util/Map")) (by decide) (by decide)))).ext E20).other W26 (Or.inr (slot_ne (Or.inl (hw _ (own_g (i := 228) rfl))) (Or.inl (hw _ (own_g (i := 58) rfl))) (by decide) (t := .long) (t' := (.array .long)) (by decide) (by decide))))
  obtain ⟨fs_, hr_, hrun_, hended_, hW_, hsame_⟩ := X26.leave (v := none) (fun _ => rfl)
  refine ⟨_, _, pre0 _ (r26 _ ?_), hrun_, hended_, _, _, rfl, ?_, ⟨_, rfl⟩, hW_, hsame_.mono (by decide) (by decide)⟩
  · exact X26.returnOut hx Bd.returns (hb hby d5_33) hr_
  · show Q_ccInit Z a js ju jv u1 u2 u3 h0 n0 _ T26.heap _
    rw [e26]
    exact ⟨b20, k20, rfl, N26, K26, sz_b20, F26, f27, f28, f29, f30⟩

theorem d8_0 : decode prog_32_method_4_code 0 = .ok (.aload_n 0, 1) := by decide +kernel
theorem d8_1 : decode prog_32_method_4_code 1 = .ok (.getfield 55, 3) := by decide +kernel
theorem d8_4 : decode prog_32_method_4_code 4 = .ok (.lconst 0, 1) := by decide +kernel
theorem d8_5 : decode prog_32_method_4_code 5 = .ok (.lcmp, 1) := by decide +kernel
theorem d8_6 : decode prog_32_method_4_code 6 = .ok (.ifCond .le 7, 3) := by decide +kernel
theorem d8_9 : decode prog_32_method_4_code 9 = .ok (.iconst 1, 1) := by decide +kernel
theorem d8_10 : decode prog_32_method_4_code 10 = .ok (.goto 4, 3) := by decide +kernel
theorem d8_14 : decode prog_32_method_4_code 14 = .ok (.ireturn, 1) := by decide +kernel
theorem d8_13 : decode prog_32_method_4_code 13 = .ok (.iconst 0, 1) := by decide +kernel
theorem ef_checked (m : MethodId) (a : Addr) : entryFrame m #[(.ref a)] 1 = mkF m 0 #[.val (.ref a)] [] := by first | (simp [entryFrame, mkF, argsToLocals, Value.category]; done) | rfl
def Q_checked (Z : State) (a : Addr) (js : Int64) (r : Int32) (h0 : Heap) (n0 : Nat) (v_ : Option Value) (h_ : Heap) (L_ : List Loc) : Prop := v_ = some (.int r) ∧ Fr n0 L_ ∧ h_ = h0
set_option maxRecDepth 65536 in
set_option maxHeartbeats 40000000 in
theorem rm_checked (l : Launch) (Z : State) (a0 : Array Value) (hw : ∀ d ∈ tables_1, d.before a0 Z = true) (ws : List Jvm.Cond) (a : Addr) (js : Int64) (r : Int32) (h0 : Heap) (n0 : Nat) (O0 : Old Z n0 h0) (F_a_stamped : Fld Z h0 a "com/example/wildebeest/wildebeest/core/CausalityCheck" "stamped" "J" (.long js)) (hr0 : (r = (1 : Int32) ∧ 0 < js.toInt) ∨ (r = (0 : Int32) ∧ ¬ (0 < js.toInt))) :
    MetFree l (⟨"com/example/wildebeest/wildebeest/core/CausalityCheck", "checked", "()Z"⟩ : MethodName) (head1 (Jvm.Cond.code (⟨"com/example/wildebeest/wildebeest/core/CausalityCheck", "checked", "()Z"⟩ : MethodName) prog_32_method_4_code 1 (some .boolean) :: ws) ({ frames := 0, cells := 0, slots := 0, locals := 0 } : Room)) (fun aa_ U_ => aa_ = #[(.ref a)] ∧ Z.Warmed39 U_.vm ∧ U_.heap = h0) (fun _ _ _ _ _ => True) (fun _ U_ o_ U_' => ∃ v_ L_, o_ = .returned v_ ∧ Q_checked Z a js r h0 n0 v_ U_'.heap L_ ∧ FrameEnd U_ o_ U_' L_ ({ frames := 0, cells := 0, slots := 0, locals := 0 } : Room).cells ({ frames := 0, cells := 0, slots := 0, locals := 0 } : Room).slots) := by
  refine MetFree.of_bodySF (plainFor_of_name pn_CausalityCheck) hisR ?_
  intro p e s m args below meth c s₁ Bd hml0 hP hK
  obtain ⟨rfl, hZ, hh⟩ := hP
  have hx := Bd.exec
  have hby := Bd.bytes
  have hml : c.maxLocals = 1 := hml0
  have hown : s.vm.findClass "com/example/wildebeest/wildebeest/core/CausalityCheck" = some m.cls := findClass_of_methodNamed Bd.named
  have hnm := (name_of_methodNamed Bd.named Bd.method).1
  have X0 : Stand p l e ({ frames := 0, cells := 0, slots := 0, locals := 0 } : Room) s m #[(.ref a)] below meth c s₁ [] 0 0 := Stand.of_body Bd
  have e0 : s₁.heap = h0 := by rw [← hh, Bd.state]; rfl
  have N0 := Fr.nil n0
  have pre0 : ∀ z_, Steps p.tables e below (s₁.setTop (mkF m 0 #[.val (.ref a)] [])) z_ → Steps p.tables e below (s₁.setTop (entryFrame m #[(.ref a)] 1)) z_ := fun z_ k_ => castTop (ef_checked m a) k_
  have r0 : own_R p e below s₁ (mkF m 0 #[.val (.ref a)] []) s₁ (mkF m 0 #[.val (.ref a)] []) := own_R.refl
  rcases hr0 with ⟨qr, q1⟩ | ⟨qr, q1⟩
  · skip
    have r1 : own_R p e below _ _ s₁ (mkF m 1 #[.val (.ref a)] [(.ref a)]) := r0.trans fun z_ kt => by
      refine XS.aloadN X0.here hx rfl (hb hby d8_0) rfl rfl ?_
      exact kt
    obtain ⟨T2, X2, e2, st2⟩ := getF X0 hx hZ hown (host := "") (Or.inl (hw _ (own_g (i := 64) rfl))) Via.refl e0 F_a_stamped (g := (mkF m 1 #[.val (.ref a)] [(.ref a)])) rfl rfl (hb hby d8_1)
    have r2 : own_R p e below _ _ T2 (mkF m 4 #[.val (.ref a)] [(.long js)]) := r1.trans fun z_ kt => st2 _ kt
    have r3 : own_R p e below _ _ T2 (mkF m 14 #[.val (.ref a)] [(.int (1 : Int32))]) := r2.trans fun z_ kt => by
      refine XS.lconst X2.here hx rfl (hb hby d8_4) ?_
      refine XS.lcmp X2.here hx rfl (hb hby d8_5) rfl ?_
      refine XS.ifNo X2.here hx rfl (hb hby d8_6) rfl ((if0 _ _).trans (tlt (own_lc_gt q1 : (0 : Int32) < (lcmpW js (0 : Int64)))).2.2.2) ?_
      refine XS.iconst X2.here hx rfl (hb hby d8_9) ?_
      refine XS.goto X2.here hx rfl (pc0 := 10) (pc' := 14) rfl (hb hby d8_10) (by decide) (by decide) ?_
      exact kt
    obtain ⟨fs_, hr_, hrun_, hended_, hW_, hsame_⟩ := X2.leave (v := some (.int (1 : Int32))) (fun h => by rw [Bd.returns] at h; cases h)
    refine ⟨_, _, pre0 _ (r3 _ ?_), hrun_, hended_, _, _, rfl, ?_, ⟨_, rfl⟩, hW_, hsame_.mono (by decide) (by decide)⟩
    · exact retN X2 hx (t := .boolean) Bd.returns (by simp) (hb hby d8_14) hr_
    · show Q_checked Z a js r h0 n0 _ T2.heap _
      rw [e2]
      exact ⟨by rw [qr], N0, rfl⟩
  · skip
    have r4 : own_R p e below _ _ s₁ (mkF m 1 #[.val (.ref a)] [(.ref a)]) := r0.trans fun z_ kt => by
      refine XS.aloadN X0.here hx rfl (hb hby d8_0) rfl rfl ?_
      exact kt
    obtain ⟨T5, X5, e5, st5⟩ := getF X0 hx hZ hown (host := "") (Or.inl (hw _ (own_g (i := 64) rfl))) Via.refl e0 F_a_stamped (g := (mkF m 1 #[.val (.ref a)] [(.ref a)])) rfl rfl (hb hby d8_1)
    have r5 : own_R p e below _ _ T5 (mkF m 4 #[.val (.ref a)] [(.long js)]) := r4.trans fun z_ kt => st5 _ kt
    have r6 : own_R p e below _ _ T5 (mkF m 14 #[.val (.ref a)] [(.int (0 : Int32))]) := r5.trans fun z_ kt => by
      refine XS.lconst X5.here hx rfl (hb hby d8_4) ?_
      refine XS.lcmp X5.here hx rfl (hb hby d8_5) rfl ?_
      refine XS.ifYes X5.here hx rfl (pc0 := 6) (pc' := 13) rfl (hb hby d8_6) rfl ((if0 _ _).trans (flt (own_lc_ngt q1 : ¬ ((0 : Int32) < (lcmpW js (0 : Int64))))).2.2.2) (by decide) (by decide) ?_
      refine XS.iconst X5.here hx rfl (hb hby d8_13) ?_
      exact kt
    obtain ⟨fs_, hr_, hrun_, hended_, hW_, hsame_⟩ := X5.leave (v := some (.int (0 : Int32))) (fun h => by rw [Bd.returns] at h; cases h)
    refine ⟨_, _, pre0 _ (r6 _ ?_), hrun_, hended_, _, _, rfl, ?_, ⟨_, rfl⟩, hW_, hsame_.mono (by decide) (by decide)⟩
    · exact retN X5 hx (t := .boolean) Bd.returns (by simp) (hb hby d8_14) hr_
    · show Q_checked Z a js r h0 n0 _ T5.heap _
      rw [e5]
      exact ⟨by rw [qr], N0, rfl⟩

theorem d10_0 : decode jdk_32_method_1_code 0 = .ok (.getstatic 1, 3) := by decide +kernel
theorem d10_3 : decode jdk_32_method_1_code 3 = .ok (.astore_n 0, 1) := by decide +kernel
theorem d10_4 : decode jdk_32_method_1_code 4 = .ok (.aload_n 0, 1) := by decide +kernel
theorem d10_5 : decode jdk_32_method_1_code 5 = .ok (.areturn, 1) := by decide +kernel
theorem pn_Optional : plainName "java/util/Optional" = true := by first | (simp [plainName, overriddenIn]; done) | decide +kernel
theorem ef_opEmpty (m : MethodId)  : entryFrame m #[] 1 = mkF m 0 #[.unset] [] := by first | (simp [entryFrame, mkF, argsToLocals, Value.category]; done) | rfl
def Q_opEmpty (Z : State) (s_OE : Addr) (h0 : Heap) (n0 : Nat) (v_ : Option Value) (h_ : Heap) (L_ : List Loc) : Prop := v_ = some (.ref s_OE) ∧ Fr n0 L_ ∧ h_ = h0
set_option maxRecDepth 65536 in
set_option maxHeartbeats 40000000 in
theorem rm_opEmpty (l : Launch) (Z : State) (a0 : Array Value) (hw : ∀ d ∈ tables_1, d.before a0 Z = true) (ws : List Jvm.Cond) (s_OE : Addr) (h0 : Heap) (n0 : Nat) (O0 : Old Z n0 h0) (S_Optional_EMPTY : Sta Z Z.heap "java/util/Optional" "EMPTY" "Ljava/util/Optional;" (.ref s_OE)) :
    MetFree l (⟨"java/util/Optional", "empty", "()Ljava/util/Optional;"⟩ : MethodName) (head1 (Jvm.Cond.code (⟨"java/util/Optional", "empty", "()Ljava/util/Optional;"⟩ : MethodName) jdk_32_method_1_code 1 (some (.object "java/util/Optional")) :: ws) ({ frames := 0, cells := 0, slots := 0, locals := 0 } : Room)) (fun aa_ U_ => aa_ = #[] ∧ Z.Warmed39 U_.vm ∧ U_.heap = h0) (fun _ _ _ _ _ => True) (fun _ U_ o_ U_' => ∃ v_ L_, o_ = .returned v_ ∧ Q_opEmpty Z s_OE h0 n0 v_ U_'.heap L_ ∧ FrameEnd U_ o_ U_' L_ ({ frames := 0, cells := 0, slots := 0, locals := 0 } : Room).cells ({ frames := 0, cells := 0, slots := 0, locals := 0 } : Room).slots) := by
  refine MetFree.of_bodySF (plainFor_of_name pn_Optional) hisR ?_
  intro p e s m args below meth c s₁ Bd hml0 hP hK
  obtain ⟨rfl, hZ, hh⟩ := hP
  have hx := Bd.exec
  have hby := Bd.bytes
  have hml : c.maxLocals = 1 := hml0
  have hown : s.vm.findClass "java/util/Optional" = some m.cls := findClass_of_methodNamed Bd.named
  have hnm := (name_of_methodNamed Bd.named Bd.method).1
  have X0 : Stand p l e ({ frames := 0, cells := 0, slots := 0, locals := 0 } : Room) s m #[] below meth c s₁ [] 0 0 := Stand.of_body Bd
  have e0 : s₁.heap = h0 := by rw [← hh, Bd.state]; rfl
  have N0 := Fr.nil n0
  have pre0 : ∀ z_, Steps p.tables e below (s₁.setTop (mkF m 0 #[.unset] [])) z_ → Steps p.tables e below (s₁.setTop (entryFrame m #[] 1)) z_ := fun z_ k_ => castTop (ef_opEmpty m ) k_
  have r0 : own_R p e below s₁ (mkF m 0 #[.unset] []) s₁ (mkF m 0 #[.unset] []) := own_R.refl
  obtain ⟨T1, X1, e1, st1⟩ := getS2 X0 hx hZ hown (host := "") (Or.inl (hw _ (own_g (i := 77) rfl))) Via.refl e0 (S_Optional_EMPTY.ext O0.2) (g := (mkF m 0 #[.unset] [])) rfl (hb hby d10_0)
  have r1 : own_R p e below _ _ T1 (mkF m 3 #[.unset] [(.ref s_OE)]) := r0.trans fun z_ kt => st1 _ kt
  have r2 : own_R p e below _ _ T1 (mkF m 5 #[.val (.ref s_OE)] [(.ref s_OE)]) := r1.trans fun z_ kt => by
    refine XS.astoreN X1.here hx rfl (hb hby d10_3) rfl rfl (l' := #[.val (.ref s_OE)]) rfl ?_
    refine XS.aloadN X1.here hx rfl (hb hby d10_4) rfl rfl ?_
    exact kt
  obtain ⟨fs_, hr_, hrun_, hended_, hW_, hsame_⟩ := X1.leave (v := some (.ref s_OE)) (fun h => by rw [Bd.returns] at h; cases h)
  refine ⟨_, _, pre0 _ (r2 _ ?_), hrun_, hended_, _, _, rfl, ?_, ⟨_, rfl⟩, hW_, hsame_.mono (by decide) (by decide)⟩
  · exact retOut X1 hx Bd.returns rfl (Or.inr (Or.inr (Or.inr (Or.inr ⟨rfl, rfl, rfl⟩)))) (hb hby d10_5) hr_
  · show Q_opEmpty Z s_OE h0 n0 _ T1.heap _
    rw [e1]
    exact ⟨rfl, N0, rfl⟩

theorem d11_0 : decode jdk_2650_method_2_code 0 = .ok (.getstatic 17, 3) := by decide +kernel
theorem d11_3 : decode jdk_2650_method_2_code 3 = .ok (.areturn, 1) := by decide +kernel
theorem pn_OptionalLong : plainName "java/util/OptionalLong" = true := by first | (simp [plainName, overriddenIn]; done) | decide +kernel
theorem ef_olEmpty (m : MethodId)  : entryFrame m #[] 0 = mkF m 0 #[] [] := by first | (simp [entryFrame, mkF, argsToLocals, Value.category]; done) | rfl
def Q_olEmpty (Z : State) (s_OL : Addr) (h0 : Heap) (n0 : Nat) (v_ : Option Value) (h_ : Heap) (L_ : List Loc) : Prop := v_ = some (.ref s_OL) ∧ Fr n0 L_ ∧ h_ = h0
set_option maxRecDepth 65536 in
set_option maxHeartbeats 40000000 in
theorem rm_olEmpty (l : Launch) (Z : State) (a0 : Array Value) (hw : ∀ d ∈ tables_1, d.before a0 Z = true) (ws : List Jvm.Cond) (s_OL : Addr) (h0 : Heap) (n0 : Nat) (O0 : Old Z n0 h0) (S_OptionalLong_EMPTY : Sta Z Z.heap "java/util/OptionalLong" "EMPTY" "Ljava/util/OptionalLong;" (.ref s_OL)) :
    MetFree l (⟨"java/util/OptionalLong", "empty", "()Ljava/util/OptionalLong;"⟩ : MethodName) (head1 (Jvm.Cond.code (⟨"java/util/OptionalLong", "empty", "()Ljava/util/OptionalLong;"⟩ : MethodName) jdk_2650_method_2_code 0 (some (.object "java/util/OptionalLong")) :: ws) ({ frames := 0, cells := 0, slots := 0, locals := 0 } : Room)) (fun aa_ U_ => aa_ = #[] ∧ Z.Warmed39 U_.vm ∧ U_.heap = h0) (fun _ _ _ _ _ => True) (fun _ U_ o_ U_' => ∃ v_ L_, o_ = .returned v_ ∧ Q_olEmpty Z s_OL h0 n0 v_ U_'.heap L_ ∧ FrameEnd U_ o_ U_' L_ ({ frames := 0, cells := 0, slots := 0, locals := 0 } : Room).cells ({ frames := 0, cells := 0, slots := 0, locals := 0 } : Room).slots) := by
  refine MetFree.of_bodySF (plainFor_of_name pn_OptionalLong) hisR ?_
  intro p e s m args below meth c s₁ Bd hml0 hP hK
  obtain ⟨rfl, hZ, hh⟩ := hP
  have hx := Bd.exec
  have hby := Bd.bytes
  have hml : c.maxLocals = 0 := hml0
  have hown : s.vm.findClass "java/util/OptionalLong" = some m.cls := findClass_of_methodNamed Bd.named
  have hnm := (name_of_methodNamed Bd.named Bd.method).1
  have X0 : Stand p l e ({ frames := 0, cells := 0, slots := 0, locals := 0 } : Room) s m #[] below meth c s₁ [] 0 0 := Stand.of_body Bd
  have e0 : s₁.heap = h0 := by rw [← hh, Bd.state]; rfl
  have N0 := Fr.nil n0
  have pre0 : ∀ z_, Steps p.tables e below (s₁.setTop (mkF m 0 #[] [])) z_ → Steps p.tables e below (s₁.setTop (entryFrame m #[] 0)) z_ := fun z_ k_ => castTop (ef_olEmpty m ) k_
  have r0 : own_R p e below s₁ (mkF m 0 #[] []) s₁ (mkF m 0 #[] []) := own_R.refl
  obtain ⟨T1, X1, e1, st1⟩ := getS2 X0 hx hZ hown (host := "") (Or.inl (hw _ (own_g (i := 82) rfl))) Via.refl e0 (S_OptionalLong_EMPTY.ext O0.2) (g := (mkF m 0 #[] [])) rfl (hb hby d11_0)
  have r1 : own_R p e below _ _ T1 (mkF m 3 #[] [(.ref s_OL)]) := r0.trans fun z_ kt => st1 _ kt
  obtain ⟨fs_, hr_, hrun_, hended_, hW_, hsame_⟩ := X1.leave (v := some (.ref s_OL)) (fun h => by rw [Bd.returns] at h; cases h)
  refine ⟨_, _, pre0 _ (r1 _ ?_), hrun_, hended_, _, _, rfl, ?_, ⟨_, rfl⟩, hW_, hsame_.mono (by decide) (by decide)⟩
  · exact retOut X1 hx Bd.returns rfl (Or.inr (Or.inr (Or.inr (Or.inr ⟨rfl, rfl, rfl⟩)))) (hb hby d11_3) hr_
  · show Q_olEmpty Z s_OL h0 n0 _ T1.heap _
    rw [e1]
    exact ⟨rfl, N0, rfl⟩

theorem d17_0 : decode jdk_2650_method_6_code 0 = .ok (.aload_n 0, 1) := by decide +kernel
theorem d17_1 : decode jdk_2650_method_6_code 1 = .ok (.getfield 7, 3) := by decide +kernel
theorem d17_4 : decode jdk_2650_method_6_code 4 = .ok (.ireturn, 1) := by decide +kernel
theorem ef_olPresent (m : MethodId) (a : Addr) : entryFrame m #[(.ref a)] 1 = mkF m 0 #[.val (.ref a)] [] := by first | (simp [entryFrame, mkF, argsToLocals, Value.category]; done) | rfl
def Q_olPresent (Z : State) (a : Addr) (h0 : Heap) (n0 : Nat) (v_ : Option Value) (h_ : Heap) (L_ : List Loc) : Prop := v_ = some (.int (0 : Int32)) ∧ Fr n0 L_ ∧ h_ = h0
set_option maxRecDepth 65536 in
set_option maxHeartbeats 40000000 in
theorem rm_olPresent (l : Launch) (Z : State) (a0 : Array Value) (hw : ∀ d ∈ tables_1, d.before a0 Z = true) (ws : List Jvm.Cond) (a : Addr) (h0 : Heap) (n0 : Nat) (O0 : Old Z n0 h0) (F_a_isPresent : Fld Z h0 a "java/util/OptionalLong" "isPresent" "Z" (.int (0 : Int32))) :
    MetFree l (⟨"java/util/OptionalLong", "isPresent", "()Z"⟩ : MethodName) (head1 (Jvm.Cond.code (⟨"java/util/OptionalLong", "isPresent", "()Z"⟩ : MethodName) jdk_2650_method_6_code 1 (some .boolean) :: ws) ({ frames := 0, cells := 0, slots := 0, locals := 0 } : Room)) (fun aa_ U_ => aa_ = #[(.ref a)] ∧ Z.Warmed39 U_.vm ∧ U_.heap = h0) (fun _ _ _ _ _ => True) (fun _ U_ o_ U_' => ∃ v_ L_, o_ = .returned v_ ∧ Q_olPresent Z a h0 n0 v_ U_'.heap L_ ∧ FrameEnd U_ o_ U_' L_ ({ frames := 0, cells := 0, slots := 0, locals := 0 } : Room).cells ({ frames := 0, cells := 0, slots := 0, locals := 0 } : Room).slots) := by
  refine MetFree.of_bodySF (plainFor_of_name pn_OptionalLong) hisR ?_
  intro p e s m args below meth c s₁ Bd hml0 hP hK
  obtain ⟨rfl, hZ, hh⟩ := hP
  have hx := Bd.exec
  have hby := Bd.bytes
  have hml : c.maxLocals = 1 := hml0
  have hown : s.vm.findClass "java/util/OptionalLong" = some m.cls := findClass_of_methodNamed Bd.named
  have hnm := (name_of_methodNamed Bd.named Bd.method).1
  have X0 : Stand p l e ({ frames := 0, cells := 0, slots := 0, locals := 0 } : Room) s m #[(.ref a)] below meth c s₁ [] 0 0 := Stand.of_body Bd
  have e0 : s₁.heap = h0 := by rw [← hh, Bd.state]; rfl
  have N0 := Fr.nil n0
  have pre0 : ∀ z_, Steps p.tables e below (s₁.setTop (mkF m 0 #[.val (.ref a)] [])) z_ → Steps p.tables e below (s₁.setTop (entryFrame m #[(.ref a)] 1)) z_ := fun z_ k_ => castTop (ef_olPresent m a) k_
  have r0 : own_R p e below s₁ (mkF m 0 #[.val (.ref a)] []) s₁ (mkF m 0 #[.val (.ref a)] []) := own_R.refl
  have r1 : own_R p e below _ _ s₁ (mkF m 1 #[.val (.ref a)] [(.ref a)]) := r0.trans fun z_ kt => by
    refine XS.aloadN X0.here hx rfl (hb hby d17_0) rfl rfl ?_
    exact kt
  obtain ⟨T2, X2, e2, st2⟩ := getF X0 hx hZ hown (host := "") (Or.inl (hw _ (own_g (i := 126) rfl))) Via.refl e0 F_a_isPresent (g := (mkF m 1 #[.val (.ref a)] [(.ref a)])) rfl rfl (hb hby d17_1)
  have r2 : own_R p e below _ _ T2 (mkF m 4 #[.val (.ref a)] [(.int (0 : Int32))]) := r1.trans fun z_ kt => st2 _ kt
  obtain ⟨fs_, hr_, hrun_, hended_, hW_, hsame_⟩ := X2.leave (v := some (.int (0 : Int32))) (fun h => by rw [Bd.returns] at h; cases h)
  refine ⟨_, _, pre0 _ (r2 _ ?_), hrun_, hended_, _, _, rfl, ?_, ⟨_, rfl⟩, hW_, hsame_.mono (by decide) (by decide)⟩
  · exact retN X2 hx (t := .boolean) Bd.returns (by simp) (hb hby d17_4) hr_
  · show Q_olPresent Z a h0 n0 _ T2.heap _
    rw [e2]
    exact ⟨rfl, N0, rfl⟩

theorem d18_0 : decode jdk_2650_method_11_code 0 = .ok (.aload_n 0, 1) := by decide +kernel
theorem d18_1 : decode jdk_2650_method_11_code 1 = .ok (.getfield 7, 3) := by decide +kernel
theorem d18_4 : decode jdk_2650_method_11_code 4 = .ok (.ifCond .eq 10, 3) := by decide +kernel
theorem d18_14 : decode jdk_2650_method_11_code 14 = .ok (.lload_n 1, 1) := by decide +kernel
theorem d18_15 : decode jdk_2650_method_11_code 15 = .ok (.lreturn, 1) := by decide +kernel
theorem ef_olOrElse (m : MethodId) (a : Addr) (jd : Int64) : entryFrame m #[(.ref a), (.long jd)] 3 = mkF m 0 #[.val (.ref a), .val (.long jd), .second] [] := by first | (simp [entryFrame, mkF, argsToLocals, Value.category]; done) | rfl
def Q_olOrElse (Z : State) (a : Addr) (jd : Int64) (h0 : Heap) (n0 : Nat) (v_ : Option Value) (h_ : Heap) (L_ : List Loc) : Prop := v_ = some (.long jd) ∧ Fr n0 L_ ∧ h_ = h0
set_option maxRecDepth 65536 in
set_option maxHeartbeats 40000000 in
theorem rm_olOrElse (l : Launch) (Z : State) (a0 : Array Value) (hw : ∀ d ∈ tables_1, d.before a0 Z = true) (ws : List Jvm.Cond) (a : Addr) (jd : Int64) (h0 : Heap) (n0 : Nat) (O0 : Old Z n0 h0) (F_a_isPresent : Fld Z h0 a "java/util/OptionalLong" "isPresent" "Z" (.int (0 : Int32))) :
    MetFree l (⟨"java/util/OptionalLong", "orElse", "(J)J"⟩ : MethodName) (head1 (Jvm.Cond.code (⟨"java/util/OptionalLong", "orElse", "(J)J"⟩ : MethodName) jdk_2650_method_11_code 3 (some .long) :: ws) ({ frames := 0, cells := 0, slots := 0, locals := 0 } : Room)) (fun aa_ U_ => aa_ = #[(.ref a), (.long jd)] ∧ Z.Warmed39 U_.vm ∧ U_.heap = h0) (fun _ _ _ _ _ => True) (fun _ U_ o_ U_' => ∃ v_ L_, o_ = .returned v_ ∧ Q_olOrElse Z a jd h0 n0 v_ U_'.heap L_ ∧ FrameEnd U_ o_ U_' L_ ({ frames := 0, cells := 0, slots := 0, locals := 0 } : Room).cells ({ frames := 0, cells := 0, slots := 0, locals := 0 } : Room).slots) := by
  refine MetFree.of_bodySF (plainFor_of_name pn_OptionalLong) hisR ?_
  intro p e s m args below meth c s₁ Bd hml0 hP hK
  obtain ⟨rfl, hZ, hh⟩ := hP
  have hx := Bd.exec
  have hby := Bd.bytes
  have hml : c.maxLocals = 3 := hml0
  have hown : s.vm.findClass "java/util/OptionalLong" = some m.cls := findClass_of_methodNamed Bd.named
  have hnm := (name_of_methodNamed Bd.named Bd.method).1
  have X0 : Stand p l e ({ frames := 0, cells := 0, slots := 0, locals := 0 } : Room) s m #[(.ref a), (.long jd)] below meth c s₁ [] 0 0 := Stand.of_body Bd
  have e0 : s₁.heap = h0 := by rw [← hh, Bd.state]; rfl
  have N0 := Fr.nil n0
  have pre0 : ∀ z_, Steps p.tables e below (s₁.setTop (mkF m 0 #[.val (.ref a), .val (.long jd), .second] [])) z_ → Steps p.tables e below (s₁.setTop (entryFrame m #[(.ref a), (.long jd)] 3)) z_ := fun z_ k_ => castTop (ef_olOrElse m a jd) k_
  have r0 : own_R p e below s₁ (mkF m 0 #[.val (.ref a), .val (.long jd), .second] []) s₁ (mkF m 0 #[.val (.ref a), .val (.long jd), .second] []) := own_R.refl
  have r1 : own_R p e below _ _ s₁ (mkF m 1 #[.val (.ref a), .val (.long jd), .second] [(.ref a)]) := r0.trans fun z_ kt => by
    refine XS.aloadN X0.here hx rfl (hb hby d18_0) rfl rfl ?_
    exact kt
  obtain ⟨T2, X2, e2, st2⟩ := getF X0 hx hZ hown (host := "") (Or.inl (hw _ (own_g (i := 126) rfl))) Via.refl e0 F_a_isPresent (g := (mkF m 1 #[.val (.ref a), .val (.long jd), .second] [(.ref a)])) rfl rfl (hb hby d18_1)
  have r2 : own_R p e below _ _ T2 (mkF m 4 #[.val (.ref a), .val (.long jd), .second] [(.int (0 : Int32))]) := r1.trans fun z_ kt => st2 _ kt
  have r3 : own_R p e below _ _ T2 (mkF m 15 #[.val (.ref a), .val (.long jd), .second] [(.long jd)]) := r2.trans fun z_ kt => by
    refine XS.ifYes X2.here hx rfl (pc0 := 4) (pc' := 14) rfl (hb hby d18_4) rfl ((if0 _ _).trans (teq (by decide : (0 : Int32) = (0 : Int32))).1) (by decide) (by decide) ?_
    refine XS.lloadN X2.here hx rfl (hb hby d18_14) rfl ?_
    exact kt
  obtain ⟨fs_, hr_, hrun_, hended_, hW_, hsame_⟩ := X2.leave (v := some (.long jd)) (fun h => by rw [Bd.returns] at h; cases h)
  refine ⟨_, _, pre0 _ (r3 _ ?_), hrun_, hended_, _, _, rfl, ?_, ⟨_, rfl⟩, hW_, hsame_.mono (by decide) (by decide)⟩
  · exact retOut X2 hx Bd.returns rfl (Or.inr (Or.inl ⟨rfl, rfl, _, rfl⟩)) (hb hby d18_15) hr_
  · show Q_olOrElse Z a jd h0 n0 _ T2.heap _
    rw [e2]
    exact ⟨rfl, N0, rfl⟩

theorem d19_0 : decode jdk_32_method_15_code 0 = .ok (.aload_n 0, 1) := by decide +kernel
theorem d19_1 : decode jdk_32_method_15_code 1 = .ok (.getfield 13, 3) := by decide +kernel
theorem d19_4 : decode jdk_32_method_15_code 4 = .ok (.ifnull 10, 3) := by decide +kernel
theorem d19_14 : decode jdk_32_method_15_code 14 = .ok (.aload_n 1, 1) := by decide +kernel
theorem d19_15 : decode jdk_32_method_15_code 15 = .ok (.areturn, 1) := by decide +kernel
theorem ef_opOrElseN (m : MethodId) (a : Addr) : entryFrame m #[(.ref a), .null] 2 = mkF m 0 #[.val (.ref a), .val .null] [] := by first | (simp [entryFrame, mkF, argsToLocals, Value.category]; done) | rfl
def Q_opOrElseN (Z : State) (a : Addr) (h0 : Heap) (n0 : Nat) (v_ : Option Value) (h_ : Heap) (L_ : List Loc) : Prop := v_ = some .null ∧ Fr n0 L_ ∧ h_ = h0
set_option maxRecDepth 65536 in
set_option maxHeartbeats 40000000 in
theorem rm_opOrElseN (l : Launch) (Z : State) (a0 : Array Value) (hw : ∀ d ∈ tables_1, d.before a0 Z = true) (ws : List Jvm.Cond) (a : Addr) (h0 : Heap) (n0 : Nat) (O0 : Old Z n0 h0) (F_a_value : Fld Z h0 a "java/util/Optional" "value" "Ljava/lang/Object;" .null) :
    MetFree l (⟨"java/util/Optional", "orElse", "(Ljava/lang/Object;)Ljava/lang/Object;"⟩ : MethodName) (head1 (Jvm.Cond.code (⟨"java/util/Optional", "orElse", "(Ljava/lang/Object;)Ljava/lang/Object;"⟩ : MethodName) jdk_32_method_15_code 2 (some (.object "java/lang/Object")) :: ws) ({ frames := 0, cells := 0, slots := 0, locals := 0 } : Room)) (fun aa_ U_ => aa_ = #[(.ref a), .null] ∧ Z.Warmed39 U_.vm ∧ U_.heap = h0) (fun _ _ _ _ _ => True) (fun _ U_ o_ U_' => ∃ v_ L_, o_ = .returned v_ ∧ Q_opOrElseN Z a h0 n0 v_ U_'.heap L_ ∧ FrameEnd U_ o_ U_' L_ ({ frames := 0, cells := 0, slots := 0, locals := 0 } : Room).cells ({ frames := 0, cells := 0, slots := 0, locals := 0 } : Room).slots) := by
  refine MetFree.of_bodySF (plainFor_of_name pn_Optional) hisR ?_
  intro p e s m args below meth c s₁ Bd hml0 hP hK
  obtain ⟨rfl, hZ, hh⟩ := hP
  have hx := Bd.exec
  have hby := Bd.bytes
  have hml : c.maxLocals = 2 := hml0
  have hown : s.vm.findClass "java/util/Optional" = some m.cls := findClass_of_methodNamed Bd.named
  have hnm := (name_of_methodNamed Bd.named Bd.method).1
  have X0 : Stand p l e ({ frames := 0, cells := 0, slots := 0, locals := 0 } : Room) s m #[(.ref a), .null] below meth c s₁ [] 0 0 := Stand.of_body Bd
  have e0 : s₁.heap = h0 := by rw [← hh, Bd.state]; rfl
  have N0 := Fr.nil n0
  have pre0 : ∀ z_, Steps p.tables e below (s₁.setTop (mkF m 0 #[.val (.ref a), .val .null] [])) z_ → Steps p.tables e below (s₁.setTop (entryFrame m #[(.ref a), .null] 2)) z_ := fun z_ k_ => castTop (ef_opOrElseN m a) k_
  have r0 : own_R p e below s₁ (mkF m 0 #[.val (.ref a), .val .null] []) s₁ (mkF m 0 #[.val (.ref a), .val .null] []) := own_R.refl
  have r1 : own_R p e below _ _ s₁ (mkF m 1 #[.val (.ref a), .val .null] [(.ref a)]) := r0.trans fun z_ kt => by
    refine XS.aloadN X0.here hx rfl (hb hby d19_0) rfl rfl ?_
    exact kt
  obtain ⟨T2, X2, e2, st2⟩ := getF X0 hx hZ hown (host := "") (Or.inl (hw _ (own_g (i := 147) rfl))) Via.refl e0 F_a_value (g := (mkF m 1 #[.val (.ref a), .val .null] [(.ref a)])) rfl rfl (hb hby d19_1)
  have r2 : own_R p e below _ _ T2 (mkF m 4 #[.val (.ref a), .val .null] [.null]) := r1.trans fun z_ kt => st2 _ kt
  have r3 : own_R p e below _ _ T2 (mkF m 15 #[.val (.ref a), .val .null] [.null]) := r2.trans fun z_ kt => by
    refine XS.ifnullYes X2.here hx rfl (pc0 := 4) (pc' := 14) rfl (hb hby d19_4) rfl (by decide) (by decide) ?_
    refine XS.aloadN X2.here hx rfl (hb hby d19_14) rfl rfl ?_
    exact kt
  obtain ⟨fs_, hr_, hrun_, hended_, hW_, hsame_⟩ := X2.leave (v := some .null) (fun h => by rw [Bd.returns] at h; cases h)
  refine ⟨_, _, pre0 _ (r3 _ ?_), hrun_, hended_, _, _, rfl, ?_, ⟨_, rfl⟩, hW_, hsame_.mono (by decide) (by decide)⟩
  · exact retOut X2 hx Bd.returns rfl (Or.inr (Or.inr (Or.inr (Or.inr ⟨rfl, rfl, rfl⟩)))) (hb hby d19_15) hr_
  · show Q_opOrElseN Z a h0 n0 _ T2.heap _
    rw [e2]
    exact ⟨rfl, N0, rfl⟩

theorem d19_7 : decode jdk_32_method_15_code 7 = .ok (.aload_n 0, 1) := by decide +kernel
theorem d19_8 : decode jdk_32_method_15_code 8 = .ok (.getfield 13, 3) := by decide +kernel
theorem d19_11 : decode jdk_32_method_15_code 11 = .ok (.goto 4, 3) := by decide +kernel
theorem ef_opOrElseR (m : MethodId) (a : Addr) : entryFrame m #[(.ref a), .null] 2 = mkF m 0 #[.val (.ref a), .val .null] [] := by first | (simp [entryFrame, mkF, argsToLocals, Value.category]; done) | rfl
def Q_opOrElseR (Z : State) (a : Addr) (v : Addr) (h0 : Heap) (n0 : Nat) (v_ : Option Value) (h_ : Heap) (L_ : List Loc) : Prop := v_ = some (.ref v) ∧ Fr n0 L_ ∧ h_ = h0
set_option maxRecDepth 65536 in
set_option maxHeartbeats 40000000 in
theorem rm_opOrElseR (l : Launch) (Z : State) (a0 : Array Value) (hw : ∀ d ∈ tables_1, d.before a0 Z = true) (ws : List Jvm.Cond) (a : Addr) (v : Addr) (h0 : Heap) (n0 : Nat) (O0 : Old Z n0 h0) (F_a_value : Fld Z h0 a "java/util/Optional" "value" "Ljava/lang/Object;" (.ref v)) :
    MetFree l (⟨"java/util/Optional", "orElse", "(Ljava/lang/Object;)Ljava/lang/Object;"⟩ : MethodName) (head1 (Jvm.Cond.code (⟨"java/util/Optional", "orElse", "(Ljava/lang/Object;)Ljava/lang/Object;"⟩ : MethodName) jdk_32_method_15_code 2 (some (.object "java/lang/Object")) :: ws) ({ frames := 0, cells := 0, slots := 0, locals := 0 } : Room)) (fun aa_ U_ => aa_ = #[(.ref a), .null] ∧ Z.Warmed39 U_.vm ∧ U_.heap = h0) (fun _ _ _ _ _ => True) (fun _ U_ o_ U_' => ∃ v_ L_, o_ = .returned v_ ∧ Q_opOrElseR Z a v h0 n0 v_ U_'.heap L_ ∧ FrameEnd U_ o_ U_' L_ ({ frames := 0, cells := 0, slots := 0, locals := 0 } : Room).cells ({ frames := 0, cells := 0, slots := 0, locals := 0 } : Room).slots) := by
  refine MetFree.of_bodySF (plainFor_of_name pn_Optional) hisR ?_
  intro p e s m args below meth c s₁ Bd hml0 hP hK
  obtain ⟨rfl, hZ, hh⟩ := hP
  have hx := Bd.exec
  have hby := Bd.bytes
  have hml : c.maxLocals = 2 := hml0
  have hown : s.vm.findClass "java/util/Optional" = some m.cls := findClass_of_methodNamed Bd.named
  have hnm := (name_of_methodNamed Bd.named Bd.method).1
  have X0 : Stand p l e ({ frames := 0, cells := 0, slots := 0, locals := 0 } : Room) s m #[(.ref a), .null] below meth c s₁ [] 0 0 := Stand.of_body Bd
  have e0 : s₁.heap = h0 := by rw [← hh, Bd.state]; rfl
  have N0 := Fr.nil n0
  have pre0 : ∀ z_, Steps p.tables e below (s₁.setTop (mkF m 0 #[.val (.ref a), .val .null] [])) z_ → Steps p.tables e below (s₁.setTop (entryFrame m #[(.ref a), .null] 2)) z_ := fun z_ k_ => castTop (ef_opOrElseR m a) k_
  have r0 : own_R p e below s₁ (mkF m 0 #[.val (.ref a), .val .null] []) s₁ (mkF m 0 #[.val (.ref a), .val .null] []) := own_R.refl
  have r1 : own_R p e below _ _ s₁ (mkF m 1 #[.val (.ref a), .val .null] [(.ref a)]) := r0.trans fun z_ kt => by
    refine XS.aloadN X0.here hx rfl (hb hby d19_0) rfl rfl ?_
    exact kt
  obtain ⟨T2, X2, e2, st2⟩ := getF X0 hx hZ hown (host := "") (Or.inl (hw _ (own_g (i := 147) rfl))) Via.refl e0 F_a_value (g := (mkF m 1 #[.val (.ref a), .val .null] [(.ref a)])) rfl rfl (hb hby d19_1)
  have r2 : own_R p e below _ _ T2 (mkF m 4 #[.val (.ref a), .val .null] [(.ref v)]) := r1.trans fun z_ kt => st2 _ kt
  have r3 : own_R p e below _ _ T2 (mkF m 8 #[.val (.ref a), .val .null] [(.ref a)]) := r2.trans fun z_ kt => by
    refine XS.ifnullNo X2.here hx rfl (hb hby d19_4) rfl ?_
    refine XS.aloadN X2.here hx rfl (hb hby d19_7) rfl rfl ?_
    exact kt
  obtain ⟨T4, X4, e4, st4⟩ := getF X2 hx hZ hown (host := "") (Or.inl (hw _ (own_g (i := 147) rfl))) Via.refl e2 F_a_value (g := (mkF m 8 #[.val (.ref a), .val .null] [(.ref a)])) rfl rfl (hb hby d19_8)
  have r4 : own_R p e below _ _ T4 (mkF m 11 #[.val (.ref a), .val .null] [(.ref v)]) := r3.trans fun z_ kt => st4 _ kt
  have r5 : own_R p e below _ _ T4 (mkF m 15 #[.val (.ref a), .val .null] [(.ref v)]) := r4.trans fun z_ kt => by
    refine XS.goto X4.here hx rfl (pc0 := 11) (pc' := 15) rfl (hb hby d19_11) (by decide) (by decide) ?_
    exact kt
  obtain ⟨fs_, hr_, hrun_, hended_, hW_, hsame_⟩ := X4.leave (v := some (.ref v)) (fun h => by rw [Bd.returns] at h; cases h)
  refine ⟨_, _, pre0 _ (r5 _ ?_), hrun_, hended_, _, _, rfl, ?_, ⟨_, rfl⟩, hW_, hsame_.mono (by decide) (by decide)⟩
  · exact retOut X4 hx Bd.returns rfl (Or.inr (Or.inr (Or.inr (Or.inr ⟨rfl, rfl, rfl⟩)))) (hb hby d19_15) hr_
  · show Q_opOrElseR Z a v h0 n0 _ T4.heap _
    rw [e4]
    exact ⟨rfl, N0, rfl⟩

theorem d27_0 : decode jdk_32_method_7_code 0 = .ok (.aload_n 0, 1) := by decide +kernel
theorem d27_1 : decode jdk_32_method_7_code 1 = .ok (.getfield 13, 3) := by decide +kernel
theorem d27_4 : decode jdk_32_method_7_code 4 = .ok (.ifnonnull 7, 3) := by decide +kernel
theorem d27_7 : decode jdk_32_method_7_code 7 = .ok (.iconst 1, 1) := by decide +kernel
theorem d27_8 : decode jdk_32_method_7_code 8 = .ok (.goto 4, 3) := by decide +kernel
theorem d27_12 : decode jdk_32_method_7_code 12 = .ok (.ireturn, 1) := by decide +kernel
theorem ef_opIsEmptyN (m : MethodId) (a : Addr) : entryFrame m #[(.ref a)] 1 = mkF m 0 #[.val (.ref a)] [] := by first | (simp [entryFrame, mkF, argsToLocals, Value.category]; done) | rfl
def Q_opIsEmptyN (Z : State) (a : Addr) (h0 : Heap) (n0 : Nat) (v_ : Option Value) (h_ : Heap) (L_ : List Loc) : Prop := v_ = some (.int (1 : Int32)) ∧ Fr n0 L_ ∧ h_ = h0
set_option maxRecDepth 65536 in
set_option maxHeartbeats 40000000 in
theorem rm_opIsEmptyN (l : Launch) (Z : State) (a0 : Array Value) (hw : ∀ d ∈ tables_1, d.before a0 Z = true) (ws : List Jvm.Cond) (a : Addr) (h0 : Heap) (n0 : Nat) (O0 : Old Z n0 h0) (F_a_value : Fld Z h0 a "java/util/Optional" "value" "Ljava/lang/Object;" .null) :
    MetFree l (⟨"java/util/Optional", "isEmpty", "()Z"⟩ : MethodName) (head1 (Jvm.Cond.code (⟨"java/util/Optional", "isEmpty", "()Z"⟩ : MethodName) jdk_32_method_7_code 1 (some .boolean) :: ws) ({ frames := 0, cells := 0, slots := 0, locals := 0 } : Room)) (fun aa_ U_ => aa_ = #[(.ref a)] ∧ Z.Warmed39 U_.vm ∧ U_.heap = h0) (fun _ _ _ _ _ => True) (fun _ U_ o_ U_' => ∃ v_ L_, o_ = .returned v_ ∧ Q_opIsEmptyN Z a h0 n0 v_ U_'.heap L_ ∧ FrameEnd U_ o_ U_' L_ ({ frames := 0, cells := 0, slots := 0, locals := 0 } : Room).cells ({ frames := 0, cells := 0, slots := 0, locals := 0 } : Room).slots) := by
  refine MetFree.of_bodySF (plainFor_of_name pn_Optional) hisR ?_
  intro p e s m args below meth c s₁ Bd hml0 hP hK
  obtain ⟨rfl, hZ, hh⟩ := hP
  have hx := Bd.exec
  have hby := Bd.bytes
  have hml : c.maxLocals = 1 := hml0
  have hown : s.vm.findClass "java/util/Optional" = some m.cls := findClass_of_methodNamed Bd.named
  have hnm := (name_of_methodNamed Bd.named Bd.method).1
  have X0 : Stand p l e ({ frames := 0, cells := 0, slots := 0, locals := 0 } : Room) s m #[(.ref a)] below meth c s₁ [] 0 0 := Stand.of_body Bd
  have e0 : s₁.heap = h0 := by rw [← hh, Bd.state]; rfl
  have N0 := Fr.nil n0
  have pre0 : ∀ z_, Steps p.tables e below (s₁.setTop (mkF m 0 #[.val (.ref a)] [])) z_ → Steps p.tables e below (s₁.setTop (entryFrame m #[(.ref a)] 1)) z_ := fun z_ k_ => castTop (ef_opIsEmptyN m a) k_
  have r0 : own_R p e below s₁ (mkF m 0 #[.val (.ref a)] []) s₁ (mkF m 0 #[.val (.ref a)] []) := own_R.refl
  have r1 : own_R p e below _ _ s₁ (mkF m 1 #[.val (.ref a)] [(.ref a)]) := r0.trans fun z_ kt => by
    refine XS.aloadN X0.here hx rfl (hb hby d27_0) rfl rfl ?_
    exact kt
  obtain ⟨T2, X2, e2, st2⟩ := getF X0 hx hZ hown (host := "") (Or.inl (hw _ (own_g (i := 147) rfl))) Via.refl e0 F_a_value (g := (mkF m 1 #[.val (.ref a)] [(.ref a)])) rfl rfl (hb hby d27_1)
  have r2 : own_R p e below _ _ T2 (mkF m 4 #[.val (.ref a)] [.null]) := r1.trans fun z_ kt => st2 _ kt
  have r3 : own_R p e below _ _ T2 (mkF m 12 #[.val (.ref a)] [(.int (1 : Int32))]) := r2.trans fun z_ kt => by
    refine XS.ifnonnullNo X2.here hx rfl (hb hby d27_4) rfl ?_
    refine XS.iconst X2.here hx rfl (hb hby d27_7) ?_
    refine XS.goto X2.here hx rfl (pc0 := 8) (pc' := 12) rfl (hb hby d27_8) (by decide) (by decide) ?_
    exact kt
  obtain ⟨fs_, hr_, hrun_, hended_, hW_, hsame_⟩ := X2.leave (v := some (.int (1 : Int32))) (fun h => by rw [Bd.returns] at h; cases h)
  refine ⟨_, _, pre0 _ (r3 _ ?_), hrun_, hended_, _, _, rfl, ?_, ⟨_, rfl⟩, hW_, hsame_.mono (by decide) (by decide)⟩
  · exact retN X2 hx (t := .boolean) Bd.returns (by simp) (hb hby d27_12) hr_
  · show Q_opIsEmptyN Z a h0 n0 _ T2.heap _
    rw [e2]
    exact ⟨rfl, N0, rfl⟩

theorem d27_11 : decode jdk_32_method_7_code 11 = .ok (.iconst 0, 1) := by decide +kernel
theorem ef_opIsEmptyR (m : MethodId) (a : Addr) : entryFrame m #[(.ref a)] 1 = mkF m 0 #[.val (.ref a)] [] := by first | (simp [entryFrame, mkF, argsToLocals, Value.category]; done) | rfl
def Q_opIsEmptyR (Z : State) (a : Addr) (v : Addr) (h0 : Heap) (n0 : Nat) (v_ : Option Value) (h_ : Heap) (L_ : List Loc) : Prop := v_ = some (.int (0 : Int32)) ∧ Fr n0 L_ ∧ h_ = h0
set_option maxRecDepth 65536 in
set_option maxHeartbeats 40000000 in
theorem rm_opIsEmptyR (l : Launch) (Z : State) (a0 : Array Value) (hw : ∀ d ∈ tables_1, d.before a0 Z = true) (ws : List Jvm.Cond) (a : Addr) (v : Addr) (h0 : Heap) (n0 : Nat) (O0 : Old Z n0 h0) (F_a_value : Fld Z h0 a "java/util/Optional" "value" "Ljava/lang/Object;" (.ref v)) :
    MetFree l (⟨"java/util/Optional", "isEmpty", "()Z"⟩ : MethodName) (head1 (Jvm.Cond.code (⟨"java/util/Optional", "isEmpty", "()Z"⟩ : MethodName) jdk_32_method_7_code 1 (some .boolean) :: ws) ({ frames := 0, cells := 0, slots := 0, locals := 0 } : Room)) (fun aa_ U_ => aa_ = #[(.ref a)] ∧ Z.Warmed39 U_.vm ∧ U_.heap = h0) (fun _ _ _ _ _ => True) (fun _ U_ o_ U_' => ∃ v_ L_, o_ = .returned v_ ∧ Q_opIsEmptyR Z a v h0 n0 v_ U_'.heap L_ ∧ FrameEnd U_ o_ U_' L_ ({ frames := 0, cells := 0, slots := 0, locals := 0 } : Room).cells ({ frames := 0, cells := 0, slots := 0, locals := 0 } : Room).slots) := by
  refine MetFree.of_bodySF (plainFor_of_name pn_Optional) hisR ?_
  intro p e s m args below meth c s₁ Bd hml0 hP hK
  obtain ⟨rfl, hZ, hh⟩ := hP
  have hx := Bd.exec
  have hby := Bd.bytes
  have hml : c.maxLocals = 1 := hml0
  have hown : s.vm.findClass "java/util/Optional" = some m.cls := findClass_of_methodNamed Bd.named
  have hnm := (name_of_methodNamed Bd.named Bd.method).1
  have X0 : Stand p l e ({ frames := 0, cells := 0, slots := 0, locals := 0 } : Room) s m #[(.ref a)] below meth c s₁ [] 0 0 := Stand.of_body Bd
  have e0 : s₁.heap = h0 := by rw [← hh, Bd.state]; rfl
  have N0 := Fr.nil n0
  have pre0 : ∀ z_, Steps p.tables e below (s₁.setTop (mkF m 0 #[.val (.ref a)] [])) z_ → Steps p.tables e below (s₁.setTop (entryFrame m #[(.ref a)] 1)) z_ := fun z_ k_ => castTop (ef_opIsEmptyR m a) k_
  have r0 : own_R p e below s₁ (mkF m 0 #[.val (.ref a)] []) s₁ (mkF m 0 #[.val (.ref a)] []) := own_R.refl
  have r1 : own_R p e below _ _ s₁ (mkF m 1 #[.val (.ref a)] [(.ref a)]) := r0.trans fun z_ kt => by
    refine XS.aloadN X0.here hx rfl (hb hby d27_0) rfl rfl ?_
    exact kt
  obtain ⟨T2, X2, e2, st2⟩ := getF X0 hx hZ hown (host := "") (Or.inl (hw _ (own_g (i := 147) rfl))) Via.refl e0 F_a_value (g := (mkF m 1 #[.val (.ref a)] [(.ref a)])) rfl rfl (hb hby d27_1)
  have r2 : own_R p e below _ _ T2 (mkF m 4 #[.val (.ref a)] [(.ref v)]) := r1.trans fun z_ kt => st2 _ kt
  have r3 : own_R p e below _ _ T2 (mkF m 12 #[.val (.ref a)] [(.int (0 : Int32))]) := r2.trans fun z_ kt => by
    refine XS.ifnonnullYes X2.here hx rfl (pc0 := 4) (pc' := 11) rfl (hb hby d27_4) rfl (by decide) (by decide) ?_
    refine XS.iconst X2.here hx rfl (hb hby d27_11) ?_
    exact kt
  obtain ⟨fs_, hr_, hrun_, hended_, hW_, hsame_⟩ := X2.leave (v := some (.int (0 : Int32))) (fun h => by rw [Bd.returns] at h; cases h)
  refine ⟨_, _, pre0 _ (r3 _ ?_), hrun_, hended_, _, _, rfl, ?_, ⟨_, rfl⟩, hW_, hsame_.mono (by decide) (by decide)⟩
  · exact retN X2 hx (t := .boolean) Bd.returns (by simp) (hb hby d27_12) hr_
  · show Q_opIsEmptyR Z a v h0 n0 _ T2.heap _
    rw [e2]
    exact ⟨rfl, N0, rfl⟩

theorem d31_0 : decode jdk_32_method_5_code 0 = .ok (.aload_n 0, 1) := by decide +kernel
theorem d31_1 : decode jdk_32_method_5_code 1 = .ok (.getfield 13, 3) := by decide +kernel
theorem d31_4 : decode jdk_32_method_5_code 4 = .ok (.ifnonnull 13, 3) := by decide +kernel
theorem d31_17 : decode jdk_32_method_5_code 17 = .ok (.aload_n 0, 1) := by decide +kernel
theorem d31_18 : decode jdk_32_method_5_code 18 = .ok (.getfield 13, 3) := by decide +kernel
theorem d31_21 : decode jdk_32_method_5_code 21 = .ok (.areturn, 1) := by decide +kernel
theorem ef_opGet (m : MethodId) (a : Addr) : entryFrame m #[(.ref a)] 1 = mkF m 0 #[.val (.ref a)] [] := by first | (simp [entryFrame, mkF, argsToLocals, Value.category]; done) | rfl
def Q_opGet (Z : State) (a : Addr) (v : Addr) (h0 : Heap) (n0 : Nat) (v_ : Option Value) (h_ : Heap) (L_ : List Loc) : Prop := v_ = some (.ref v) ∧ Fr n0 L_ ∧ h_ = h0
set_option maxRecDepth 65536 in
set_option maxHeartbeats 40000000 in
theorem rm_opGet (l : Launch) (Z : State) (a0 : Array Value) (hw : ∀ d ∈ tables_1, d.before a0 Z = true) (ws : List Jvm.Cond) (a : Addr) (v : Addr) (h0 : Heap) (n0 : Nat) (O0 : Old Z n0 h0) (F_a_value : Fld Z h0 a "java/util/Optional" "value" "Ljava/lang/Object;" (.ref v)) :
    MetFree l (⟨"java/util/Optional", "get", "()Ljava/lang/Object;"⟩ : MethodName) (head1 (Jvm.Cond.code (⟨"java/util/Optional", "get", "()Ljava/lang/Object;"⟩ : MethodName) jdk_32_method_5_code 1 (some (.object "java/lang/Object")) :: ws) ({ frames := 0, cells := 0, slots := 0, locals := 0 } : Room)) (fun aa_ U_ => aa_ = #[(.ref a)] ∧ Z.Warmed39 U_.vm ∧ U_.heap = h0) (fun _ _ _ _ _ => True) (fun _ U_ o_ U_' => ∃ v_ L_, o_ = .returned v_ ∧ Q_opGet Z a v h0 n0 v_ U_'.heap L_ ∧ FrameEnd U_ o_ U_' L_ ({ frames := 0, cells := 0, slots := 0, locals := 0 } : Room).cells ({ frames := 0, cells := 0, slots := 0, locals := 0 } : Room).slots) := by
  refine MetFree.of_bodySF (plainFor_of_name pn_Optional) hisR ?_
  intro p e s m args below meth c s₁ Bd hml0 hP hK
  obtain ⟨rfl, hZ, hh⟩ := hP
  have hx := Bd.exec
  have hby := Bd.bytes
  have hml : c.maxLocals = 1 := hml0
  have hown : s.vm.findClass "java/util/Optional" = some m.cls := findClass_of_methodNamed Bd.named
  have hnm := (name_of_methodNamed Bd.named Bd.method).1
  have X0 : Stand p l e ({ frames := 0, cells := 0, slots := 0, locals := 0 } : Room) s m #[(.ref a)] below meth c s₁ [] 0 0 := Stand.of_body Bd
  have e0 : s₁.heap = h0 := by rw [← hh, Bd.state]; rfl
  have N0 := Fr.nil n0
  have pre0 : ∀ z_, Steps p.tables e below (s₁.setTop (mkF m 0 #[.val (.ref a)] [])) z_ → Steps p.tables e below (s₁.setTop (entryFrame m #[(.ref a)] 1)) z_ := fun z_ k_ => castTop (ef_opGet m a) k_
  have r0 : own_R p e below s₁ (mkF m 0 #[.val (.ref a)] []) s₁ (mkF m 0 #[.val (.ref a)] []) := own_R.refl
  have r1 : own_R p e below _ _ s₁ (mkF m 1 #[.val (.ref a)] [(.ref a)]) := r0.trans fun z_ kt => by
    refine XS.aloadN X0.here hx rfl (hb hby d31_0) rfl rfl ?_
    exact kt
  obtain ⟨T2, X2, e2, st2⟩ := getF X0 hx hZ hown (host := "") (Or.inl (hw _ (own_g (i := 147) rfl))) Via.refl e0 F_a_value (g := (mkF m 1 #[.val (.ref a)] [(.ref a)])) rfl rfl (hb hby d31_1)
  have r2 : own_R p e below _ _ T2 (mkF m 4 #[.val (.ref a)] [(.ref v)]) := r1.trans fun z_ kt => st2 _ kt
  have r3 : own_R p e below _ _ T2 (mkF m 18 #[.val (.ref a)] [(.ref a)]) := r2.trans fun z_ kt => by
    refine XS.ifnonnullYes X2.here hx rfl (pc0 := 4) (pc' := 17) rfl (hb hby d31_4) rfl (by decide) (by decide) ?_
    refine XS.aloadN X2.here hx rfl (hb hby d31_17) rfl rfl ?_
    exact kt
  obtain ⟨T4, X4, e4, st4⟩ := getF X2 hx hZ hown (host := "") (Or.inl (hw _ (own_g (i := 147) rfl))) Via.refl e2 F_a_value (g := (mkF m 18 #[.val (.ref a)] [(.ref a)])) rfl rfl (hb hby d31_18)
  have r4 : own_R p e below _ _ T4 (mkF m 21 #[.val (.ref a)] [(.ref v)]) := r3.trans fun z_ kt => st4 _ kt
  obtain ⟨fs_, hr_, hrun_, hended_, hW_, hsame_⟩ := X4.leave (v := some (.ref v)) (fun h => by rw [Bd.returns] at h; cases h)
  refine ⟨_, _, pre0 _ (r4 _ ?_), hrun_, hended_, _, _, rfl, ?_, ⟨_, rfl⟩, hW_, hsame_.mono (by decide) (by decide)⟩
  · exact retOut X4 hx Bd.returns rfl (Or.inr (Or.inr (Or.inr (Or.inr ⟨rfl, rfl, rfl⟩)))) (hb hby d31_21) hr_
  · show Q_opGet Z a v h0 n0 _ T4.heap _
    rw [e4]
    exact ⟨rfl, N0, rfl⟩

theorem d29_0 : decode jdk_31_method_10_code 0 = .ok (.aload_n 0, 1) := by decide +kernel
theorem d29_1 : decode jdk_31_method_10_code 1 = .ok (.ifnonnull 11, 3) := by decide +kernel
theorem d29_12 : decode jdk_31_method_10_code 12 = .ok (.aload_n 0, 1) := by decide +kernel
theorem d29_13 : decode jdk_31_method_10_code 13 = .ok (.areturn, 1) := by decide +kernel
theorem pn_Objects : plainName "java/util/Objects" = true := by first | (simp [plainName, overriddenIn]; done) | decide +kernel
theorem ef_reqNN (m : MethodId) (v : Addr) : entryFrame m #[(.ref v)] 1 = mkF m 0 #[.val (.ref v)] [] := by first | (simp [entryFrame, mkF, argsToLocals, Value.category]; done) | rfl
def Q_reqNN (Z : State) (v : Addr) (h0 : Heap) (n0 : Nat) (v_ : Option Value) (h_ : Heap) (L_ : List Loc) : Prop := v_ = some (.ref v) ∧ Fr n0 L_ ∧ h_ = h0
set_option maxRecDepth 65536 in
set_option maxHeartbeats 40000000 in
theorem rm_reqNN (l : Launch) (Z : State) (a0 : Array Value) (hw : ∀ d ∈ tables_1, d.before a0 Z = true) (ws : List Jvm.Cond) (v : Addr) (h0 : Heap) (n0 : Nat) (O0 : Old Z n0 h0) :
    MetFree l (⟨"java/util/Objects", "requireNonNull", "(Ljava/lang/Object;)Ljava/lang/Object;"⟩ : MethodName) (head1 (Jvm.Cond.code (⟨"java/util/Objects", "requireNonNull", "(Ljava/lang/Object;)Ljava/lang/Object;"⟩ : MethodName) jdk_31_method_10_code 1 (some (.object "java/lang/Object")) :: ws) ({ frames := 0, cells := 0, slots := 0, locals := 0 } : Room)) (fun aa_ U_ => aa_ = #[(.ref v)] ∧ Z.Warmed39 U_.vm ∧ U_.heap = h0) (fun _ _ _ _ _ => True) (fun _ U_ o_ U_' => ∃ v_ L_, o_ = .returned v_ ∧ Q_reqNN Z v h0 n0 v_ U_'.heap L_ ∧ FrameEnd U_ o_ U_' L_ ({ frames := 0, cells := 0, slots := 0, locals := 0 } : Room).cells ({ frames := 0, cells := 0, slots := 0, locals := 0 } : Room).slots) := by
  refine MetFree.of_bodySF (plainFor_of_name pn_Objects) hisR ?_
  intro p e s m args below meth c s₁ Bd hml0 hP hK
  obtain ⟨rfl, hZ, hh⟩ := hP
  have hx := Bd.exec
  have hby := Bd.bytes
  have hml : c.maxLocals = 1 := hml0
  have hown : s.vm.findClass "java/util/Objects" = some m.cls := findClass_of_methodNamed Bd.named
  have hnm := (name_of_methodNamed Bd.named Bd.method).1
  have X0 : Stand p l e ({ frames := 0, cells := 0, slots := 0, locals := 0 } : Room) s m #[(.ref v)] below meth c s₁ [] 0 0 := Stand.of_body Bd
  have e0 : s₁.heap = h0 := by rw [← hh, Bd.state]; rfl
  have N0 := Fr.nil n0
  have pre0 : ∀ z_, Steps p.tables e below (s₁.setTop (mkF m 0 #[.val (.ref v)] [])) z_ → Steps p.tables e below (s₁.setTop (entryFrame m #[(.ref v)] 1)) z_ := fun z_ k_ => castTop (ef_reqNN m v) k_
  have r0 : own_R p e below s₁ (mkF m 0 #[.val (.ref v)] []) s₁ (mkF m 0 #[.val (.ref v)] []) := own_R.refl
  have r1 : own_R p e below _ _ s₁ (mkF m 13 #[.val (.ref v)] [(.ref v)]) := r0.trans fun z_ kt => by
    refine XS.aloadN X0.here hx rfl (hb hby d29_0) rfl rfl ?_
    refine XS.ifnonnullYes X0.here hx rfl (pc0 := 1) (pc' := 12) rfl (hb hby d29_1) rfl (by decide) (by decide) ?_
    refine XS.aloadN X0.here hx rfl (hb hby d29_12) rfl rfl ?_
    exact kt
  obtain ⟨fs_, hr_, hrun_, hended_, hW_, hsame_⟩ := X0.leave (v := some (.ref v)) (fun h => by rw [Bd.returns] at h; cases h)
  refine ⟨_, _, pre0 _ (r1 _ ?_), hrun_, hended_, _, _, rfl, ?_, ⟨_, rfl⟩, hW_, hsame_.mono (by decide) (by decide)⟩
  · exact retOut X0 hx Bd.returns rfl (Or.inr (Or.inr (Or.inr (Or.inr ⟨rfl, rfl, rfl⟩)))) (hb hby d29_13) hr_
  · show Q_reqNN Z v h0 n0 _ s₁.heap _
    rw [e0]
    exact ⟨rfl, N0, rfl⟩

theorem d30_0 : decode jdk_32_method_2_code 0 = .ok (.aload_n 0, 1) := by decide +kernel
theorem d30_1 : decode jdk_32_method_2_code 1 = .ok (.invokespecial 7, 3) := by decide +kernel
theorem d30_4 : decode jdk_32_method_2_code 4 = .ok (.aload_n 0, 1) := by decide +kernel
theorem d30_5 : decode jdk_32_method_2_code 5 = .ok (.aload_n 1, 1) := by decide +kernel
theorem d30_6 : decode jdk_32_method_2_code 6 = .ok (.putfield 13, 3) := by decide +kernel
theorem d30_9 : decode jdk_32_method_2_code 9 = .ok (.return_, 1) := by decide +kernel
theorem ef_opInit (m : MethodId) (a : Addr) (v : Addr) : entryFrame m #[(.ref a), (.ref v)] 2 = mkF m 0 #[.val (.ref a), .val (.ref v)] [] := by first | (simp [entryFrame, mkF, argsToLocals, Value.category]; done) | rfl
def Q_opInit (Z : State) (a : Addr) (v : Addr) (u1 : Value) (h0 : Heap) (n0 : Nat) (v_ : Option Value) (h_ : Heap) (L_ : List Loc) : Prop := v_ = none ∧ Fr n0 L_ ∧ Keep h0 h_ [a] ∧ (Fld Z h_ a "java/util/Optional" "value" "Ljava/lang/Object;" (.ref v))
set_option maxRecDepth 65536 in
set_option maxHeartbeats 40000000 in
theorem rm_opInit (l : Launch) (Z : State) (a0 : Array Value) (hw : ∀ d ∈ tables_1, d.before a0 Z = true) (ws : List Jvm.Cond) (a : Addr) (v : Addr) (u1 : Value) (h0 : Heap) (n0 : Nat) (O0 : Old Z n0 h0) (E_a : Exa Z h0 a "java/util/Optional") (g_a : n0 ≤ a) (F_a_value : Fld Z h0 a "java/util/Optional" "value" "Ljava/lang/Object;" u1) :
    MetFree l (⟨"java/util/Optional", "<init>", "(Ljava/lang/Object;)V"⟩ : MethodName) (head1 (Jvm.Cond.code (⟨"java/util/Optional", "<init>", "(Ljava/lang/Object;)V"⟩ : MethodName) jdk_32_method_2_code 2 none :: ws) ({ frames := 1, cells := 0, slots := 0, locals := 12 } : Room)) (fun aa_ U_ => aa_ = #[(.ref a), (.ref v)] ∧ Z.Warmed39 U_.vm ∧ U_.heap = h0) (fun _ _ _ _ _ => True) (fun _ U_ o_ U_' => ∃ v_ L_, o_ = .returned v_ ∧ Q_opInit Z a v u1 h0 n0 v_ U_'.heap L_ ∧ FrameEnd U_ o_ U_' L_ ({ frames := 1, cells := 0, slots := 0, locals := 12 } : Room).cells ({ frames := 1, cells := 0, slots := 0, locals := 12 } : Room).slots) := by
  refine MetFree.of_bodySF (plainFor_of_name pn_Optional) hisR ?_
  intro p e s m args below meth c s₁ Bd hml0 hP hK
  obtain ⟨rfl, hZ, hh⟩ := hP
  have hx := Bd.exec
  have hby := Bd.bytes
  have hml : c.maxLocals = 2 := hml0
  have hown : s.vm.findClass "java/util/Optional" = some m.cls := findClass_of_methodNamed Bd.named
  have hnm := (name_of_methodNamed Bd.named Bd.method).1
  have X0 : Stand p l e ({ frames := 1, cells := 0, slots := 0, locals := 12 } : Room) s m #[(.ref a), (.ref v)] below meth c s₁ [] 0 0 := Stand.of_body Bd
  have e0 : s₁.heap = h0 := by rw [← hh, Bd.state]; rfl
  have N0 := Fr.nil n0
  have K0 : Keep h0 h0 [a] := Keep.refl h0 _
  have pre0 : ∀ z_, Steps p.tables e below (s₁.setTop (mkF m 0 #[.val (.ref a), .val (.ref v)] [])) z_ → Steps p.tables e below (s₁.setTop (entryFrame m #[(.ref a), (.ref v)] 2)) z_ := fun z_ k_ => castTop (ef_opInit m a v) k_
  have r0 : own_R p e below s₁ (mkF m 0 #[.val (.ref a), .val (.ref v)] []) s₁ (mkF m 0 #[.val (.ref a), .val (.ref v)] []) := own_R.refl
  have r1 : own_R p e below _ _ s₁ (mkF m 1 #[.val (.ref a), .val (.ref v)] [(.ref a)]) := r0.trans fun z_ kt => by
    refine XS.aloadN X0.here hx rfl (hb hby d30_0) rfl rfl ?_
    exact kt
  obtain ⟨T2, X2, e2, st2⟩ := initO X0 hx hZ hown (hw _ (own_g (i := 208) rfl)) (hw _ (own_g (i := 20) rfl)) (hw _ (own_g (i := 21) rfl)) e0 (g := (mkF m 1 #[.val (.ref a), .val (.ref v)] [(.ref a)])) rfl (by rw [hml]; rfl) rfl (hb hby d30_1) (by decide) (W := 0) (by show 2 * 0 + _ ≤ _; exact Nat.le_of_eq rfl) (by decide)
  have r2 : own_R p e below _ _ T2 (mkF m 4 #[.val (.ref a), .val (.ref v)] []) := r1.trans fun z_ kt => st2 _ kt
  have r3 : own_R p e below _ _ T2 (mkF m 6 #[.val (.ref a), .val (.ref v)] [(.ref v), (.ref a)]) := r2.trans fun z_ kt => by
    refine XS.aloadN X2.here hx rfl (hb hby d30_4) rfl rfl ?_
    refine XS.aloadN X2.here hx rfl (hb hby d30_5) rfl rfl ?_
    exact kt
  obtain ⟨T4, h4, X4, e4, W4, st4⟩ := putF X2 hx hZ hown (host := "") (Or.inl (hw _ (own_g (i := 147) rfl))) Via.refl e2 F_a_value E_a (Or.inr ⟨(hw _ (own_g (i := 148) rfl)), rfl, hnm⟩) (hw _ (own_g (i := 199) rfl)) (ty := (.object "java/lang/Object")) (v := (.ref v)) (by decide) rfl rfl (g := (mkF m 6 #[.val (.ref a), .val (.ref v)] [(.ref v), (.ref a)])) rfl rfl (hb hby d30_6)
  have r4 : own_R p e below _ _ T4 (mkF m 9 #[.val (.ref a), .val (.ref v)] []) := r3.trans fun z_ kt => st4 _ kt
  have N4 := Fr.snoc X4 N0 g_a
  have O4 := O0.wr W4 g_a
  have K4 := K0.wr W4 (Or.inl (List.mem_of_getElem? (i := 0) rfl))
  have F4 := F_a_value.same W4
  obtain ⟨fs_, hr_, hrun_, hended_, hW_, hsame_⟩ := X4.leave (v := none) (fun _ => rfl)
  refine ⟨_, _, pre0 _ (r4 _ ?_), hrun_, hended_, _, _, rfl, ?_, ⟨_, rfl⟩, hW_, hsame_.mono (by decide) (by decide)⟩
  · exact X4.returnOut hx Bd.returns (hb hby d30_9) hr_
  · show Q_opInit Z a v u1 h0 n0 _ T4.heap _
    rw [e4]
    exact ⟨rfl, N4, K4, F4⟩

theorem d28_0 : decode jdk_32_method_3_code 0 = .ok (.new 2, 3) := by decide +kernel
theorem d28_3 : decode jdk_32_method_3_code 3 = .ok (.dup, 1) := by decide +kernel
theorem d28_4 : decode jdk_32_method_3_code 4 = .ok (.aload_n 0, 1) := by decide +kernel
theorem d28_5 : decode jdk_32_method_3_code 5 = .ok (.invokestatic 17, 3) := by decide +kernel
theorem pd_3 : parseMethodDescriptor "(Ljava/lang/Object;)Ljava/lang/Object;" = some ⟨[(.object "java/lang/Object")], some (.object "java/lang/Object")⟩ := by decide +kernel
theorem d28_8 : decode jdk_32_method_3_code 8 = .ok (.invokespecial 23, 3) := by decide +kernel
theorem pd_4 : parseMethodDescriptor "(Ljava/lang/Object;)V" = some ⟨[(.object "java/lang/Object")], none⟩ := by decide +kernel
theorem d28_11 : decode jdk_32_method_3_code 11 = .ok (.areturn, 1) := by decide +kernel
theorem ef_opOf (m : MethodId) (v : Addr) : entryFrame m #[(.ref v)] 1 = mkF m 0 #[.val (.ref v)] [] := by first | (simp [entryFrame, mkF, argsToLocals, Value.category]; done) | rfl
def Q_opOf (Z : State) (v : Addr) (h0 : Heap) (n0 : Nat) (v_ : Option Value) (h_ : Heap) (L_ : List Loc) : Prop := ∃ (b : Addr), v_ = some (.ref b) ∧ Fr n0 L_ ∧ Keep h0 h_ [] ∧ (h0.size ≤ b) ∧ (Exa Z h_ b "java/util/Optional") ∧ (Fld Z h_ b "java/util/Optional" "value" "Ljava/lang/Object;" (.ref v))
set_option maxRecDepth 65536 in
set_option maxHeartbeats 40000000 in
theorem rm_opOf (l : Launch) (Z : State) (a0 : Array Value) (hw : ∀ d ∈ tables_1, d.before a0 Z = true) (ws : List Jvm.Cond) (v : Addr) (h0 : Heap) (n0 : Nat) (O0 : Old Z n0 h0) :
    MetFree l (⟨"java/util/Optional", "of", "(Ljava/lang/Object;)Ljava/util/Optional;"⟩ : MethodName) (head1 (Jvm.Cond.code (⟨"java/util/Optional", "of", "(Ljava/lang/Object;)Ljava/util/Optional;"⟩ : MethodName) jdk_32_method_3_code 1 (some (.object "java/util/Optional")) :: ws) ({ frames := 2, cells := 1, slots := 1, locals := 26 } : Room)) (fun aa_ U_ => aa_ = #[(.ref v)] ∧ Z.Warmed39 U_.vm ∧ U_.heap = h0) (fun _ _ _ _ _ => True) (fun _ U_ o_ U_' => ∃ v_ L_, o_ = .returned v_ ∧ Q_opOf Z v h0 n0 v_ U_'.heap L_ ∧ FrameEnd U_ o_ U_' L_ ({ frames := 2, cells := 1, slots := 1, locals := 26 } : Room).cells ({ frames := 2, cells := 1, slots := 1, locals := 26 } : Room).slots) := by
  refine MetFree.of_bodySF (plainFor_of_name pn_Optional) hisR ?_
  intro p e s m args below meth c s₁ Bd hml0 hP hK
  obtain ⟨rfl, hZ, hh⟩ := hP
  have hx := Bd.exec
  have hby := Bd.bytes
  have hml : c.maxLocals = 1 := hml0
  have hown : s.vm.findClass "java/util/Optional" = some m.cls := findClass_of_methodNamed Bd.named
  have hnm := (name_of_methodNamed Bd.named Bd.method).1
  have X0 : Stand p l e ({ frames := 2, cells := 1, slots := 1, locals := 26 } : Room) s m #[(.ref v)] below meth c s₁ [] 0 0 := Stand.of_body Bd
  have e0 : s₁.heap = h0 := by rw [← hh, Bd.state]; rfl
  have N0 := Fr.nil n0
  have K0 : Keep h0 h0 [] := Keep.refl h0 _
  have pre0 : ∀ z_, Steps p.tables e below (s₁.setTop (mkF m 0 #[.val (.ref v)] [])) z_ → Steps p.tables e below (s₁.setTop (entryFrame m #[(.ref v)] 1)) z_ := fun z_ k_ => castTop (ef_opOf m v) k_
  have r0 : own_R p e below s₁ (mkF m 0 #[.val (.ref v)] []) s₁ (mkF m 0 #[.val (.ref v)] []) := own_R.refl
  obtain ⟨T1, h1, X1, e1, E1, A1, D1, -, st1⟩ := newO X0 hx hZ hown (hw _ (own_g (i := 198) rfl)) (hw _ (own_g (i := 199) rfl)) (hw _ (own_g (i := 75) rfl)) e0 (g := (mkF m 0 #[.val (.ref v)] [])) rfl (hb hby d28_0) (by decide) (by decide)
  obtain ⟨b1, g1⟩ : ∃ z, z = h0.size := ⟨_, rfl⟩
  rw [← g1] at A1 D1 st1
  have r1 : own_R p e below _ _ T1 (mkF m 3 #[.val (.ref v)] [(.ref b1)]) := r0.trans fun z_ kt => st1 _ kt
  have g_b1 : n0 ≤ b1 := Nat.le_trans (own_old_size O0) (Nat.le_of_eq g1.symm)
  have sz_b1 : h0.size ≤ b1 := Nat.le_trans K0.1 (Nat.le_of_eq g1.symm)
  have O1 := O0.ext E1
  have K1 := K0.ext E1
  have F1_148 := D1 (Or.inr (hw _ (own_g (i := 148) rfl))) (ty := (.object "java/lang/Object")) (by decide)
  have r2 : own_R p e below _ _ T1 (mkF m 5 #[.val (.ref v)] [(.ref v), (.ref b1), (.ref b1)]) := r1.trans fun z_ kt => by
    refine XS.dup X1.here hx rfl (hb hby d28_3) rfl rfl ?_
    refine XS.aloadN X1.here hx rfl (hb hby d28_4) rfl rfl ?_
    exact kt
  obtain ⟨_, _, ⟨T3, L3, cc3, n3⟩, -, X3, ⟨Lc3, hQ3, l3, y3, z3⟩, st3⟩ := Jvm.LawKit.callS X1 hx (y := (⟨"java/util/Objects", "requireNonNull", "(Ljava/lang/Object;)Ljava/lang/Object;"⟩ : MethodName)) hown (mvT hZ (hw _ (own_g (i := 200) rfl))) (mvT hZ (hw _ (own_g (i := 201) rfl))) (mvT hZ (hw _ (own_g (i := 202) rfl))) (mvT hZ (hw _ (own_g (i := 203) rfl))) (by decide) (backOf (W := 2) (rm_reqNN l Z a0 hw [] (v) h1 n0 O1 ) hZ (hw _ (own_g (i := 203) rfl)) (hw _ (own_g (i := 202) rfl)) (by decide) (by decide)) (g := (mkF m 5 #[.val (.ref v)] [(.ref v), (.ref b1), (.ref b1)])) rfl (by rw [hml]; rfl) (argsL := [(.ref v)]) (rest := [(.ref b1), (.ref b1)]) (lenOf pd_3 rfl) rfl (by show 2 * 0 + _ ≤ _; exact Nat.le_of_eq rfl) (hb hby d28_5) (fun _ _ => ⟨rfl, e1, (by decide : 1 + 0 ≤ _), (by decide : 1 + 0 ≤ _)⟩)
  dsimp only [Pt.U, Pt.locs, Pt.cells, Pt.slots] at X3 l3 y3 z3 st3 hQ3
  subst l3 y3 z3
  obtain ⟨rfl, Nq3, eq3⟩ := hQ3
  have N3 := Fr.app N0 Nq3
  have r3 : own_R p e below _ _ T3 (mkF m 8 #[.val (.ref v)] [(.ref v), (.ref b1), (.ref b1)]) := r2.trans fun z_ kt => st3 _ kt
  have e3 : T3.heap = h1 := eq3
  obtain ⟨_, _, ⟨T4, L4, cc4, n4⟩, -, X4, ⟨Lc4, hQ4, l4, y4, z4⟩, st4⟩ := X3.specialBack hx (y := (⟨"java/util/Optional", "<init>", "(Ljava/lang/Object;)V"⟩ : MethodName)) rfl hown (mvT hZ (hw _ (own_g (i := 204) rfl))) (mvT hZ (hw _ (own_g (i := 205) rfl))) (mvT hZ (hw _ (own_g (i := 207) rfl))) (by decide) (backOf (W := 1) (rm_opInit l Z a0 hw [] (b1) (v) (.null) h1 n0 O1 (A1) (g_b1) (F1_148)) hZ (hw _ (own_g (i := 207) rfl)) (hw _ (own_g (i := 75) rfl)) (by decide) (by decide)) (g := (mkF m 8 #[.val (.ref v)] [(.ref v), (.ref b1), (.ref b1)])) rfl (by rw [hml]; rfl) (Steps.refl _) (a := b1) (argsL := [(.ref v)]) (rest := [(.ref b1)]) (lenOf pd_4 rfl) rfl (by show 2 * 0 + _ ≤ _; exact Nat.le_of_eq rfl) (hb hby d28_8) (fun _ _ => ⟨rfl, e3, (by decide : 1 + 0 ≤ _), (by decide : 1 + 0 ≤ _)⟩)
  dsimp only [Pt.U, Pt.locs, Pt.cells, Pt.slots] at X4 l4 y4 z4 st4 hQ4
  subst l4 y4 z4
  obtain ⟨h4, e4⟩ : ∃ z, T4.heap = z := ⟨_, rfl⟩
  rw [e4] at hQ4
  obtain ⟨rfl, Nq4, Kq4, p4_0⟩ := hQ4
  have N4 := Fr.app N3 Nq4
  have r4 : own_R p e below _ _ T4 (mkF m 11 #[.val (.ref v)] [(.ref b1)]) := r3.trans fun z_ kt => st4.trans kt
  have O4 := O1.keep Kq4 (allS g_b1 all0)
  have K4 := K1.trans Kq4 (allS (Or.inr sz_b1) all0)
  have f5 := (A1.keep Kq4)
  obtain ⟨fs_, hr_, hrun_, hended_, hW_, hsame_⟩ := X4.leave (v := some (.ref b1)) (fun h => by rw [Bd.returns] at h; cases h)
  refine ⟨_, _, pre0 _ (r4 _ ?_), hrun_, hended_, _, _, rfl, ?_, ⟨_, rfl⟩, hW_, hsame_.mono (by decide) (by decide)⟩
  · exact retOut X4 hx Bd.returns rfl (Or.inr (Or.inr (Or.inr (Or.inr ⟨rfl, rfl, rfl⟩)))) (hb hby d28_11) hr_
  · show Q_opOf Z v h0 n0 _ T4.heap _
    rw [e4]
    exact ⟨b1, rfl, N4, K4, sz_b1, f5, p4_0⟩

theorem d26_0 : decode jdk_32_method_4_code 0 = .ok (.aload_n 0, 1) := by decide +kernel
theorem d26_1 : decode jdk_32_method_4_code 1 = .ok (.ifnonnull 9, 3) := by decide +kernel
theorem d26_4 : decode jdk_32_method_4_code 4 = .ok (.getstatic 1, 3) := by decide +kernel
theorem d26_7 : decode jdk_32_method_4_code 7 = .ok (.goto 11, 3) := by decide +kernel
theorem d26_18 : decode jdk_32_method_4_code 18 = .ok (.areturn, 1) := by decide +kernel
theorem ef_opNulN (m : MethodId)  : entryFrame m #[.null] 1 = mkF m 0 #[.val .null] [] := by first | (simp [entryFrame, mkF, argsToLocals, Value.category]; done) | rfl
def Q_opNulN (Z : State) (s_OE : Addr) (h0 : Heap) (n0 : Nat) (v_ : Option Value) (h_ : Heap) (L_ : List Loc) : Prop := v_ = some (.ref s_OE) ∧ Fr n0 L_ ∧ h_ = h0
set_option maxRecDepth 65536 in
set_option maxHeartbeats 40000000 in
theorem rm_opNulN (l : Launch) (Z : State) (a0 : Array Value) (hw : ∀ d ∈ tables_1, d.before a0 Z = true) (ws : List Jvm.Cond) (s_OE : Addr) (h0 : Heap) (n0 : Nat) (O0 : Old Z n0 h0) (S_Optional_EMPTY : Sta Z Z.heap "java/util/Optional" "EMPTY" "Ljava/util/Optional;" (.ref s_OE)) :
    MetFree l (⟨"java/util/Optional", "ofNullable", "(Ljava/lang/Object;)Ljava/util/Optional;"⟩ : MethodName) (head1 (Jvm.Cond.code (⟨"java/util/Optional", "ofNullable", "(Ljava/lang/Object;)Ljava/util/Optional;"⟩ : MethodName) jdk_32_method_4_code 1 (some (.object "java/util/Optional")) :: ws) ({ frames := 0, cells := 0, slots := 0, locals := 0 } : Room)) (fun aa_ U_ => aa_ = #[.null] ∧ Z.Warmed39 U_.vm ∧ U_.heap = h0) (fun _ _ _ _ _ => True) (fun _ U_ o_ U_' => ∃ v_ L_, o_ = .returned v_ ∧ Q_opNulN Z s_OE h0 n0 v_ U_'.heap L_ ∧ FrameEnd U_ o_ U_' L_ ({ frames := 0, cells := 0, slots := 0, locals := 0 } : Room).cells ({ frames := 0, cells := 0, slots := 0, locals := 0 } : Room).slots) := by
  refine MetFree.of_bodySF (plainFor_of_name pn_Optional) hisR ?_
  intro p e s m args below meth c s₁ Bd hml0 hP hK
  obtain ⟨rfl, hZ, hh⟩ := hP
  have hx := Bd.exec
  have hby := Bd.bytes
  have hml : c.maxLocals = 1 := hml0
  have hown : s.vm.findClass "java/util/Optional" = some m.cls := findClass_of_methodNamed Bd.named
  have hnm := (name_of_methodNamed Bd.named Bd.method).1
  have X0 : Stand p l e ({ frames := 0, cells := 0, slots := 0, locals := 0 } : Room) s m #[.null] below meth c s₁ [] 0 0 := Stand.of_body Bd
  have e0 : s₁.heap = h0 := by rw [← hh, Bd.state]; rfl
  have N0 := Fr.nil n0
  have pre0 : ∀ z_, Steps p.tables e below (s₁.setTop (mkF m 0 #[.val .null] [])) z_ → Steps p.tables e below (s₁.setTop (entryFrame m #[.null] 1)) z_ := fun z_ k_ => castTop (ef_opNulN m ) k_
  have r0 : own_R p e below s₁ (mkF m 0 #[.val .null] []) s₁ (mkF m 0 #[.val .null] []) := own_R.refl
  have r1 : own_R p e below _ _ s₁ (mkF m 4 #[.val .null] []) := r0.trans fun z_ kt => by
    refine XS.aloadN X0.here hx rfl (hb hby d26_0) rfl rfl ?_
    refine XS.ifnonnullNo X0.here hx rfl (hb hby d26_1) rfl ?_
    exact kt
  obtain ⟨T2, X2, e2, st2⟩ := getS2 X0 hx hZ hown (host := "") (Or.inl (hw _ (own_g (i := 77) rfl))) Via.refl e0 (S_Optional_EMPTY.ext O0.2) (g := (mkF m 4 #[.val .null] [])) rfl (hb hby d26_4)
  have r2 : own_R p e below _ _ T2 (mkF m 7 #[.val .null] [(.ref s_OE)]) := r1.trans fun z_ kt => st2 _ kt
  have r3 : own_R p e below _ _ T2 (mkF m 18 #[.val .null] [(.ref s_OE)]) := r2.trans fun z_ kt => by
    refine XS.goto X2.here hx rfl (pc0 := 7) (pc' := 18) rfl (hb hby d26_7) (by decide) (by decide) ?_
    exact kt
  obtain ⟨fs_, hr_, hrun_, hended_, hW_, hsame_⟩ := X2.leave (v := some (.ref s_OE)) (fun h => by rw [Bd.returns] at h; cases h)
  refine ⟨_, _, pre0 _ (r3 _ ?_), hrun_, hended_, _, _, rfl, ?_, ⟨_, rfl⟩, hW_, hsame_.mono (by decide) (by decide)⟩
  · exact retOut X2 hx Bd.returns rfl (Or.inr (Or.inr (Or.inr (Or.inr ⟨rfl, rfl, rfl⟩)))) (hb hby d26_18) hr_
  · show Q_opNulN Z s_OE h0 n0 _ T2.heap _
    rw [e2]
    exact ⟨rfl, N0, rfl⟩

theorem d26_10 : decode jdk_32_method_4_code 10 = .ok (.new 2, 3) := by decide +kernel
theorem d26_13 : decode jdk_32_method_4_code 13 = .ok (.dup, 1) := by decide +kernel
theorem d26_14 : decode jdk_32_method_4_code 14 = .ok (.aload_n 0, 1) := by decide +kernel
theorem d26_15 : decode jdk_32_method_4_code 15 = .ok (.invokespecial 23, 3) := by decide +kernel
theorem ef_opNulR (m : MethodId) (v : Addr) : entryFrame m #[(.ref v)] 1 = mkF m 0 #[.val (.ref v)] [] := by first | (simp [entryFrame, mkF, argsToLocals, Value.category]; done) | rfl
def Q_opNulR (Z : State) (v : Addr) (h0 : Heap) (n0 : Nat) (v_ : Option Value) (h_ : Heap) (L_ : List Loc) : Prop := ∃ (b : Addr), v_ = some (.ref b) ∧ Fr n0 L_ ∧ Keep h0 h_ [] ∧ (h0.size ≤ b) ∧ (Exa Z h_ b "java/util/Optional") ∧ (Fld Z h_ b "java/util/Optional" "value" "Ljava/lang/Object;" (.ref v))
set_option maxRecDepth 65536 in
set_option maxHeartbeats 40000000 in
theorem rm_opNulR (l : Launch) (Z : State) (a0 : Array Value) (hw : ∀ d ∈ tables_1, d.before a0 Z = true) (ws : List Jvm.Cond) (v : Addr) (h0 : Heap) (n0 : Nat) (O0 : Old Z n0 h0) :
    MetFree l (⟨"java/util/Optional", "ofNullable", "(Ljava/lang/Object;)Ljava/util/Optional;"⟩ : MethodName) (head1 (Jvm.Cond.code (⟨"java/util/Optional", "ofNullable", "(Ljava/lang/Object;)Ljava/util/Optional;"⟩ : MethodName) jdk_32_method_4_code 1 (some (.object "java/util/Optional")) :: ws) ({ frames := 2, cells := 1, slots := 1, locals := 26 } : Room)) (fun aa_ U_ => aa_ = #[(.ref v)] ∧ Z.Warmed39 U_.vm ∧ U_.heap = h0) (fun _ _ _ _ _ => True) (fun _ U_ o_ U_' => ∃ v_ L_, o_ = .returned v_ ∧ Q_opNulR Z v h0 n0 v_ U_'.heap L_ ∧ FrameEnd U_ o_ U_' L_ ({ frames := 2, cells := 1, slots := 1, locals := 26 } : Room).cells ({ frames := 2, cells := 1, slots := 1, locals := 26 } : Room).slots) := by
  refine MetFree.of_bodySF (plainFor_of_name pn_Optional) hisR ?_
  intro p e s m args below meth c s₁ Bd hml0 hP hK
  obtain ⟨rfl, hZ, hh⟩ := hP
  have hx := Bd.exec
  have hby := Bd.bytes
  have hml : c.maxLocals = 1 := hml0
  have hown : s.vm.findClass "java/util/Optional" = some m.cls := findClass_of_methodNamed Bd.named
  have hnm := (name_of_methodNamed Bd.named Bd.method).1
  have X0 : Stand p l e ({ frames := 2, cells := 1, slots := 1, locals := 26 } : Room) s m #[(.ref v)] below meth c s₁ [] 0 0 := Stand.of_body Bd
  have e0 : s₁.heap = h0 := by rw [← hh, Bd.state]; rfl
  have N0 := Fr.nil n0
  have K0 : Keep h0 h0 [] := Keep.refl h0 _
  have pre0 : ∀ z_, Steps p.tables e below (s₁.setTop (mkF m 0 #[.val (.ref v)] [])) z_ → Steps p.tables e below (s₁.setTop (entryFrame m #[(.ref v)] 1)) z_ := fun z_ k_ => castTop (ef_opNulR m v) k_
  have r0 : own_R p e below s₁ (mkF m 0 #[.val (.ref v)] []) s₁ (mkF m 0 #[.val (.ref v)] []) := own_R.refl
  have r1 : own_R p e below _ _ s₁ (mkF m 10 #[.val (.ref v)] []) := r0.trans fun z_ kt => by
    refine XS.aloadN X0.here hx rfl (hb hby d26_0) rfl rfl ?_
    refine XS.ifnonnullYes X0.here hx rfl (pc0 := 1) (pc' := 10) rfl (hb hby d26_1) rfl (by decide) (by decide) ?_
    exact kt
  obtain ⟨T2, h2, X2, e2, E2, A2, D2, -, st2⟩ := newO X0 hx hZ hown (hw _ (own_g (i := 198) rfl)) (hw _ (own_g (i := 199) rfl)) (hw _ (own_g (i := 75) rfl)) e0 (g := (mkF m 10 #[.val (.ref v)] [])) rfl (hb hby d26_10) (by decide) (by decide)
  obtain ⟨b2, g2⟩ : ∃ z, z = h0.size := ⟨_, rfl⟩
  rw [← g2] at A2 D2 st2
  have r2 : own_R p e below _ _ T2 (mkF m 13 #[.val (.ref v)] [(.ref b2)]) := r1.trans fun z_ kt => st2 _ kt
  have g_b2 : n0 ≤ b2 := Nat.le_trans (own_old_size O0) (Nat.le_of_eq g2.symm)
  have sz_b2 : h0.size ≤ b2 := Nat.le_trans K0.1 (Nat.le_of_eq g2.symm)
  have O2 := O0.ext E2
  have K2 := K0.ext E2
  have F2_148 := D2 (Or.inr (hw _ (own_g (i := 148) rfl))) (ty := (.object "java/lang/Object")) (by decide)
  have r3 : own_R p e below _ _ T2 (mkF m 15 #[.val (.ref v)] [(.ref v), (.ref b2), (.ref b2)]) := r2.trans fun z_ kt => by
    refine XS.dup X2.here hx rfl (hb hby d26_13) rfl rfl ?_
    refine XS.aloadN X2.here hx rfl (hb hby d26_14) rfl rfl ?_
    exact kt
  obtain ⟨_, _, ⟨T4, L4, cc4, n4⟩, -, X4, ⟨Lc4, hQ4, l4, y4, z4⟩, st4⟩ := X2.specialBack hx (y := (⟨"java/util/Optional", "<init>", "(Ljava/lang/Object;)V"⟩ : MethodName)) rfl hown (mvT hZ (hw _ (own_g (i := 204) rfl))) (mvT hZ (hw _ (own_g (i := 205) rfl))) (mvT hZ (hw _ (own_g (i := 207) rfl))) (by decide) (backOf (W := 1) (rm_opInit l Z a0 hw [] (b2) (v) (.null) h2 n0 O2 (A2) (g_b2) (F2_148)) hZ (hw _ (own_g (i := 207) rfl)) (hw _ (own_g (i := 75) rfl)) (by decide) (by decide)) (g := (mkF m 15 #[.val (.ref v)] [(.ref v), (.ref b2), (.ref b2)])) rfl (by rw [hml]; rfl) (Steps.refl _) (a := b2) (argsL := [(.ref v)]) (rest := [(.ref b2)]) (lenOf pd_4 rfl) rfl (by show 2 * 0 + _ ≤ _; exact Nat.le_of_eq rfl) (hb hby d26_15) (fun _ _ => ⟨rfl, e2, (by decide : 1 + 0 ≤ _), (by decide : 1 + 0 ≤ _)⟩)
  dsimp only [Pt.U, Pt.locs, Pt.cells, Pt.slots] at X4 l4 y4 z4 st4 hQ4
  subst l4 y4 z4
  obtain ⟨h4, e4⟩ : ∃ z, T4.heap = z := ⟨_, rfl⟩
  rw [e4] at hQ4
  obtain ⟨rfl, Nq4, Kq4, p4_0⟩ := hQ4
  have N4 := Fr.app N0 Nq4
  have r4 : own_R p e below _ _ T4 (mkF m 18 #[.val (.ref v)] [(.ref b2)]) := r3.trans fun z_ kt => st4.trans kt
  have O4 := O2.keep Kq4 (allS g_b2 all0)
  have K4 := K2.trans Kq4 (allS (Or.inr sz_b2) all0)
  have f5 := (A2.keep Kq4)
  obtain ⟨fs_, hr_, hrun_, hended_, hW_, hsame_⟩ := X4.leave (v := some (.ref b2)) (fun h => by rw [Bd.returns] at h; cases h)
  refine ⟨_, _, pre0 _ (r4 _ ?_), hrun_, hended_, _, _, rfl, ?_, ⟨_, rfl⟩, hW_, hsame_.mono (by decide) (by decide)⟩
  · exact retOut X4 hx Bd.returns rfl (Or.inr (Or.inr (Or.inr (Or.inr ⟨rfl, rfl, rfl⟩)))) (hb hby d26_18) hr_
  · show Q_opNulR Z v h0 n0 _ T4.heap _
    rw [e4]
    exact ⟨b2, rfl, N4, K4, sz_b2, f5, p4_0⟩

theorem d13_0 : decode prog_36_method_6_code 0 = .ok (.aload_n 0, 1) := by decide +kernel
theorem d13_1 : decode prog_36_method_6_code 1 = .ok (.getfield 57, 3) := by decide +kernel
theorem d13_4 : decode prog_36_method_6_code 4 = .ok (.ireturn, 1) := by decide +kernel
theorem pn_EventKind : plainName "com/example/wildebeest/wildebeest/core/EventKind" = true := by first | (simp [plainName, overriddenIn]; done) | decide +kernel
theorem ef_isMsg (m : MethodId) (a : Addr) : entryFrame m #[(.ref a)] 1 = mkF m 0 #[.val (.ref a)] [] := by first | (simp [entryFrame, mkF, argsToLocals, Value.category]; done) | rfl
def Q_isMsg (Z : State) (a : Addr) (h0 : Heap) (n0 : Nat) (v_ : Option Value) (h_ : Heap) (L_ : List Loc) : Prop := v_ = some (.int (0 : Int32)) ∧ Fr n0 L_ ∧ h_ = h0
set_option maxRecDepth 65536 in
set_option maxHeartbeats 40000000 in
theorem rm_isMsg (l : Launch) (Z : State) (a0 : Array Value) (hw : ∀ d ∈ tables_1, d.before a0 Z = true) (ws : List Jvm.Cond) (a : Addr) (h0 : Heap) (n0 : Nat) (O0 : Old Z n0 h0) (F_a_message : Fld Z h0 a "com/example/wildebeest/wildebeest/core/EventKind" "message" "Z" (.int (0 : Int32))) :
    MetFree l (⟨"com/example/wildebeest/wildebeest/core/EventKind", "isMessage", "()Z"⟩ : MethodName) (head1 (Jvm.Cond.code (⟨"com/example/wildebeest/wildebeest/core/EventKind", "isMessage", "()Z"⟩ : MethodName) prog_36_method_6_code 1 (some .boolean) :: ws) ({ frames := 0, cells := 0, slots := 0, locals := 0 } : Room)) (fun aa_ U_ => aa_ = #[(.ref a)] ∧ Z.Warmed39 U_.vm ∧ U_.heap = h0) (fun _ _ _ _ _ => True) (fun _ U_ o_ U_' => ∃ v_ L_, o_ = .returned v_ ∧ Q_isMsg Z a h0 n0 v_ U_'.heap L_ ∧ FrameEnd U_ o_ U_' L_ ({ frames := 0, cells := 0, slots := 0, locals := 0 } : Room).cells ({ frames := 0, cells := 0, slots := 0, locals := 0 } : Room).slots) := by
  refine MetFree.of_bodySF (plainFor_of_name pn_EventKind) hisR ?_
  intro p e s m args below meth c s₁ Bd hml0 hP hK
  obtain ⟨rfl, hZ, hh⟩ := hP
  have hx := Bd.exec
  have hby := Bd.bytes
  have hml : c.maxLocals = 1 := hml0
  have hown : s.vm.findClass "com/example/wildebeest/wildebeest/core/EventKind" = some m.cls := findClass_of_methodNamed Bd.named
  have hnm := (name_of_methodNamed Bd.named Bd.method).1
  have X0 : Stand p l e ({ frames := 0, cells := 0, slots := 0, locals := 0 } : Room) s m #[(.ref a)] below meth c s₁ [] 0 0 := Stand.of_body Bd
  have e0 : s₁.heap = h0 := by rw [← hh, Bd.state]; rfl
  have N0 := Fr.nil n0
  have pre0 : ∀ z_, Steps p.tables e below (s₁.setTop (mkF m 0 #[.val (.ref a)] [])) z_ → Steps p.tables e below (s₁.setTop (entryFrame m #[(.ref a)] 1)) z_ := fun z_ k_ => castTop (ef_isMsg m a) k_
  have r0 : own_R p e below s₁ (mkF m 0 #[.val (.ref a)] []) s₁ (mkF m 0 #[.val (.ref a)] []) := own_R.refl
  have r1 : own_R p e below _ _ s₁ (mkF m 1 #[.val (.ref a)] [(.ref a)]) := r0.trans fun z_ kt => by
    refine XS.aloadN X0.here hx rfl (hb hby d13_0) rfl rfl ?_
    exact kt
  obtain ⟨T2, X2, e2, st2⟩ := getF X0 hx hZ hown (host := "") (Or.inl (hw _ (own_g (i := 92) rfl))) Via.refl e0 F_a_message (g := (mkF m 1 #[.val (.ref a)] [(.ref a)])) rfl rfl (hb hby d13_1)
  have r2 : own_R p e below _ _ T2 (mkF m 4 #[.val (.ref a)] [(.int (0 : Int32))]) := r1.trans fun z_ kt => st2 _ kt
  obtain ⟨fs_, hr_, hrun_, hended_, hW_, hsame_⟩ := X2.leave (v := some (.int (0 : Int32))) (fun h => by rw [Bd.returns] at h; cases h)
  refine ⟨_, _, pre0 _ (r2 _ ?_), hrun_, hended_, _, _, rfl, ?_, ⟨_, rfl⟩, hW_, hsame_.mono (by decide) (by decide)⟩
  · exact retN X2 hx (t := .boolean) Bd.returns (by simp) (hb hby d13_4) hr_
  · show Q_isMsg Z a h0 n0 _ T2.heap _
    rw [e2]
    exact ⟨rfl, N0, rfl⟩

theorem d14_0 : decode prog_36_method_7_code 0 = .ok (.aload_n 0, 1) := by decide +kernel
theorem d14_1 : decode prog_36_method_7_code 1 = .ok (.getfield 67, 3) := by decide +kernel
theorem d14_4 : decode prog_36_method_7_code 4 = .ok (.areturn, 1) := by decide +kernel
theorem ef_ekFields (m : MethodId) (a : Addr) : entryFrame m #[(.ref a)] 1 = mkF m 0 #[.val (.ref a)] [] := by first | (simp [entryFrame, mkF, argsToLocals, Value.category]; done) | rfl
def Q_ekFields (Z : State) (a : Addr) (fl : Addr) (h0 : Heap) (n0 : Nat) (v_ : Option Value) (h_ : Heap) (L_ : List Loc) : Prop := v_ = some (.ref fl) ∧ Fr n0 L_ ∧ h_ = h0
set_option maxRecDepth 65536 in
set_option maxHeartbeats 40000000 in
theorem rm_ekFields (l : Launch) (Z : State) (a0 : Array Value) (hw : ∀ d ∈ tables_1, d.before a0 Z = true) (ws : List Jvm.Cond) (a : Addr) (fl : Addr) (h0 : Heap) (n0 : Nat) (O0 : Old Z n0 h0) (F_a_fields : Fld Z h0 a "com/example/wildebeest/wildebeest/core/EventKind" "fields" "Ljava/util/List;" (.ref fl)) :
    MetFree l (⟨"com/example/wildebeest/wildebeest/core/EventKind", "fields", "()Ljava/util/List;"⟩ : MethodName) (head1 (Jvm.Cond.code (⟨"com/example/wildebeest/wildebeest/core/EventKind", "fields", "()Ljava/util/List;"⟩ : MethodName) prog_36_method_7_code 1 (some (.object "java/util/List")) :: ws) ({ frames := 0, cells := 0, slots := 0, locals := 0 } : Room)) (fun aa_ U_ => aa_ = #[(.ref a)] ∧ Z.Warmed39 U_.vm ∧ U_.heap = h0) (fun _ _ _ _ _ => True) (fun _ U_ o_ U_' => ∃ v_ L_, o_ = .returned v_ ∧ Q_ekFields Z a fl h0 n0 v_ U_'.heap L_ ∧ FrameEnd U_ o_ U_' L_ ({ frames := 0, cells := 0, slots := 0, locals := 0 } : Room).cells ({ frames := 0, cells := 0, slots := 0, locals := 0 } : Room).slots) := by
  refine MetFree.of_bodySF (plainFor_of_name pn_EventKind) hisR ?_
  intro p e s m args below meth c s₁ Bd hml0 hP hK
  obtain ⟨rfl, hZ, hh⟩ := hP
  have hx := Bd.exec
  have hby := Bd.bytes
  have hml : c.maxLocals = 1 := hml0
  have hown : s.vm.findClass "com/example/wildebeest/wildebeest/core/EventKind" = some m.cls := findClass_of_methodNamed Bd.named
  have hnm := (name_of_methodNamed Bd.named Bd.method).1
  have X0 : Stand p l e ({ frames := 0, cells := 0, slots := 0, locals := 0 } : Room) s m #[(.ref a)] below meth c s₁ [] 0 0 := Stand.of_body Bd
  have e0 : s₁.heap = h0 := by rw [← hh, Bd.state]; rfl
  have N0 := Fr.nil n0
  have pre0 : ∀ z_, Steps p.tables e below (s₁.setTop (mkF m 0 #[.val (.ref a)] [])) z_ → Steps p.tables e below (s₁.setTop (entryFrame m #[(.ref a)] 1)) z_ := fun z_ k_ => castTop (ef_ekFields m a) k_
  have r0 : own_R p e below s₁ (mkF m 0 #[.val (.ref a)] []) s₁ (mkF m 0 #[.val (.ref a)] []) := own_R.refl
  have r1 : own_R p e below _ _ s₁ (mkF m 1 #[.val (.ref a)] [(.ref a)]) := r0.trans fun z_ kt => by
    refine XS.aloadN X0.here hx rfl (hb hby d14_0) rfl rfl ?_
    exact kt
  obtain ⟨T2, X2, e2, st2⟩ := getF X0 hx hZ hown (host := "") (Or.inl (hw _ (own_g (i := 99) rfl))) Via.refl e0 F_a_fields (g := (mkF m 1 #[.val (.ref a)] [(.ref a)])) rfl rfl (hb hby d14_1)
  have r2 : own_R p e below _ _ T2 (mkF m 4 #[.val (.ref a)] [(.ref fl)]) := r1.trans fun z_ kt => st2 _ kt
  obtain ⟨fs_, hr_, hrun_, hended_, hW_, hsame_⟩ := X2.leave (v := some (.ref fl)) (fun h => by rw [Bd.returns] at h; cases h)
  refine ⟨_, _, pre0 _ (r2 _ ?_), hrun_, hended_, _, _, rfl, ?_, ⟨_, rfl⟩, hW_, hsame_.mono (by decide) (by decide)⟩
  · exact retOut X2 hx Bd.returns rfl (Or.inr (Or.inr (Or.inr (Or.inr ⟨rfl, rfl, rfl⟩)))) (hb hby d14_4) hr_
  · show Q_ekFields Z a fl h0 n0 _ T2.heap _
    rw [e2]
    exact ⟨rfl, N0, rfl⟩

theorem d15_0 : decode jdk_45_method_3_code 0 = .ok (.aload_n 0, 1) := by decide +kernel
theorem d15_1 : decode jdk_45_method_3_code 1 = .ok (.getfield 7, 3) := by decide +kernel
theorem d15_4 : decode jdk_45_method_3_code 4 = .ok (.arraylength, 1) := by decide +kernel
theorem d15_5 : decode jdk_45_method_3_code 5 = .ok (.ireturn, 1) := by decide +kernel
theorem pn_ImmutableCollections_ListN : plainName "java/util/ImmutableCollections$ListN" = true := by first | (simp [plainName, overriddenIn]; done) | decide +kernel
theorem ef_lnSize (m : MethodId) (a : Addr) : entryFrame m #[(.ref a)] 1 = mkF m 0 #[.val (.ref a)] [] := by first | (simp [entryFrame, mkF, argsToLocals, Value.category]; done) | rfl
def Q_lnSize (Z : State) (a : Addr) (el : Addr) (kl : ClassId) (vl : List Value) (h0 : Heap) (n0 : Nat) (v_ : Option Value) (h_ : Heap) (L_ : List Loc) : Prop := v_ = some (.int (0 : Int32)) ∧ Fr n0 L_ ∧ h_ = h0
set_option maxRecDepth 65536 in
set_option maxHeartbeats 40000000 in
theorem rm_lnSize (l : Launch) (Z : State) (a0 : Array Value) (hw : ∀ d ∈ tables_1, d.before a0 Z = true) (ws : List Jvm.Cond) (a : Addr) (el : Addr) (kl : ClassId) (vl : List Value) (h0 : Heap) (n0 : Nat) (O0 : Old Z n0 h0) (F_a_elements : Fld Z h0 a "java/util/ImmutableCollections$ListN" "elements" "[Ljava/lang/Object;" (.ref el)) (V_el : Arv Z h0 el kl (.object "java/lang/Object") (0 : Int32) vl .null) :
    MetFree l (⟨"java/util/ImmutableCollections$ListN", "size", "()I"⟩ : MethodName) (head1 (Jvm.Cond.code (⟨"java/util/ImmutableCollections$ListN", "size", "()I"⟩ : MethodName) jdk_45_method_3_code 1 (some .int) :: ws) ({ frames := 0, cells := 0, slots := 0, locals := 0 } : Room)) (fun aa_ U_ => aa_ = #[(.ref a)] ∧ Z.Warmed39 U_.vm ∧ U_.heap = h0) (fun _ _ _ _ _ => True) (fun _ U_ o_ U_' => ∃ v_ L_, o_ = .returned v_ ∧ Q_lnSize Z a el kl vl h0 n0 v_ U_'.heap L_ ∧ FrameEnd U_ o_ U_' L_ ({ frames := 0, cells := 0, slots := 0, locals := 0 } : Room).cells ({ frames := 0, cells := 0, slots := 0, locals := 0 } : Room).slots) := by
  refine MetFree.of_bodySF (plainFor_of_name pn_ImmutableCollections_ListN) hisR ?_
  intro p e s m args below meth c s₁ Bd hml0 hP hK
  obtain ⟨rfl, hZ, hh⟩ := hP
  have hx := Bd.exec
  have hby := Bd.bytes
  have hml : c.maxLocals = 1 := hml0
  have hown : s.vm.findClass "java/util/ImmutableCollections$ListN" = some m.cls := findClass_of_methodNamed Bd.named
  have hnm := (name_of_methodNamed Bd.named Bd.method).1
  have X0 : Stand p l e ({ frames := 0, cells := 0, slots := 0, locals := 0 } : Room) s m #[(.ref a)] below meth c s₁ [] 0 0 := Stand.of_body Bd
  have e0 : s₁.heap = h0 := by rw [← hh, Bd.state]; rfl
  have N0 := Fr.nil n0
  have pre0 : ∀ z_, Steps p.tables e below (s₁.setTop (mkF m 0 #[.val (.ref a)] [])) z_ → Steps p.tables e below (s₁.setTop (entryFrame m #[(.ref a)] 1)) z_ := fun z_ k_ => castTop (ef_lnSize m a) k_
  have r0 : own_R p e below s₁ (mkF m 0 #[.val (.ref a)] []) s₁ (mkF m 0 #[.val (.ref a)] []) := own_R.refl
  have r1 : own_R p e below _ _ s₁ (mkF m 1 #[.val (.ref a)] [(.ref a)]) := r0.trans fun z_ kt => by
    refine XS.aloadN X0.here hx rfl (hb hby d15_0) rfl rfl ?_
    exact kt
  obtain ⟨T2, X2, e2, st2⟩ := getF X0 hx hZ hown (host := "") (Or.inl (hw _ (own_g (i := 111) rfl))) Via.refl e0 F_a_elements (g := (mkF m 1 #[.val (.ref a)] [(.ref a)])) rfl rfl (hb hby d15_1)
  have r2 : own_R p e below _ _ T2 (mkF m 4 #[.val (.ref a)] [(.ref el)]) := r1.trans fun z_ kt => st2 _ kt
  obtain ⟨cl3, Ar3, q3, S3, M3, H3, G3⟩ := id V_el
  have r4 : own_R p e below _ _ T2 (mkF m 5 #[.val (.ref a)] [(.int (0 : Int32))]) := r2.trans fun z_ kt => by
    refine X2.arraylength hx (by rw [e2]; exact Ar3.1) (State.isArrayOf_alike hZ.alike Ar3.2.1) (g := (mkF m 4 #[.val (.ref a)] [(.ref el)])) rfl rfl (hb hby d15_4) _ ?_
    rw [len_of S3 M3]
    exact kt
  obtain ⟨fs_, hr_, hrun_, hended_, hW_, hsame_⟩ := X2.leave (v := some (.int (0 : Int32))) (fun h => by rw [Bd.returns] at h; cases h)
  refine ⟨_, _, pre0 _ (r4 _ ?_), hrun_, hended_, _, _, rfl, ?_, ⟨_, rfl⟩, hW_, hsame_.mono (by decide) (by decide)⟩
  · exact retOut X2 hx Bd.returns rfl (Or.inl ⟨rfl, Or.inl rfl, _, rfl⟩) (hb hby d15_5) hr_
  · show Q_lnSize Z a el kl vl h0 n0 _ T2.heap _
    rw [e2]
    exact ⟨rfl, N0, rfl⟩

theorem d16_0 : decode prog_48_method_1_code 0 = .ok (.aload_n 0, 1) := by decide +kernel
theorem d16_1 : decode prog_48_method_1_code 1 = .ok (.invokespecial 1, 3) := by decide +kernel
theorem d16_4 : decode prog_48_method_1_code 4 = .ok (.lload_n 3, 1) := by decide +kernel
theorem d16_5 : decode prog_48_method_1_code 5 = .ok (.lconst 0, 1) := by decide +kernel
theorem d16_6 : decode prog_48_method_1_code 6 = .ok (.lcmp, 1) := by decide +kernel
theorem d16_7 : decode prog_48_method_1_code 7 = .ok (.ifCond .ge 17, 3) := by decide +kernel
theorem d16_24 : decode prog_48_method_1_code 24 = .ok (.aload 5, 2) := by decide +kernel
theorem d16_26 : decode prog_48_method_1_code 26 = .ok (.invokevirtual 16, 3) := by decide +kernel
theorem pd_5 : parseMethodDescriptor "()Z" = some ⟨[], some .boolean⟩ := by decide +kernel
theorem d16_29 : decode prog_48_method_1_code 29 = .ok (.ifCond .eq 31, 3) := by decide +kernel
theorem d16_60 : decode prog_48_method_1_code 60 = .ok (.aload_n 0, 1) := by decide +kernel
theorem d16_61 : decode prog_48_method_1_code 61 = .ok (.aload_n 1, 1) := by decide +kernel
theorem d16_62 : decode prog_48_method_1_code 62 = .ok (.putfield 27, 3) := by decide +kernel
theorem d16_65 : decode prog_48_method_1_code 65 = .ok (.aload_n 0, 1) := by decide +kernel
theorem d16_66 : decode prog_48_method_1_code 66 = .ok (.iload_n 2, 1) := by decide +kernel
theorem d16_67 : decode prog_48_method_1_code 67 = .ok (.putfield 33, 3) := by decide +kernel
theorem d16_70 : decode prog_48_method_1_code 70 = .ok (.aload_n 0, 1) := by decide +kernel
theorem d16_71 : decode prog_48_method_1_code 71 = .ok (.lload_n 3, 1) := by decide +kernel
theorem d16_72 : decode prog_48_method_1_code 72 = .ok (.putfield 37, 3) := by decide +kernel
theorem d16_75 : decode prog_48_method_1_code 75 = .ok (.aload_n 0, 1) := by decide +kernel
theorem d16_76 : decode prog_48_method_1_code 76 = .ok (.aload 5, 2) := by decide +kernel
theorem d16_78 : decode prog_48_method_1_code 78 = .ok (.ldc2_w 41, 3) := by decide +kernel
theorem d16_81 : decode prog_48_method_1_code 81 = .ok (.invokevirtual 43, 3) := by decide +kernel
theorem pd_6 : parseMethodDescriptor "(J)J" = some ⟨[.long], some .long⟩ := by decide +kernel
theorem d16_84 : decode prog_48_method_1_code 84 = .ok (.putfield 47, 3) := by decide +kernel
theorem d16_87 : decode prog_48_method_1_code 87 = .ok (.aload_n 0, 1) := by decide +kernel
theorem d16_88 : decode prog_48_method_1_code 88 = .ok (.aload 6, 2) := by decide +kernel
theorem d16_90 : decode prog_48_method_1_code 90 = .ok (.aconst_null, 1) := by decide +kernel
theorem d16_91 : decode prog_48_method_1_code 91 = .ok (.invokevirtual 50, 3) := by decide +kernel
theorem d16_94 : decode prog_48_method_1_code 94 = .ok (.checkcast 55, 3) := by decide +kernel
theorem d16_97 : decode prog_48_method_1_code 97 = .ok (.putfield 57, 3) := by decide +kernel
theorem d16_100 : decode prog_48_method_1_code 100 = .ok (.aload_n 0, 1) := by decide +kernel
theorem d16_101 : decode prog_48_method_1_code 101 = .ok (.aload 7, 2) := by decide +kernel
theorem d16_103 : decode prog_48_method_1_code 103 = .ok (.putfield 61, 3) := by decide +kernel
theorem d16_106 : decode prog_48_method_1_code 106 = .ok (.aload_n 0, 1) := by decide +kernel
theorem d16_107 : decode prog_48_method_1_code 107 = .ok (.aload 8, 2) := by decide +kernel
theorem d16_109 : decode prog_48_method_1_code 109 = .ok (.putfield 65, 3) := by decide +kernel
theorem d16_112 : decode prog_48_method_1_code 112 = .ok (.return_, 1) := by decide +kernel
theorem pn_TraceEvent : plainName "com/example/wildebeest/wildebeest/core/TraceEvent" = true := by first | (simp [plainName, overriddenIn]; done) | decide +kernel
theorem ef_teInit (m : MethodId) (a : Addr) (kd : Addr) (pn : Int32) (ol : Addr) (op : Addr) (fs : Addr) : entryFrame m #[(.ref a), (.ref kd), (.int pn), (.long (0 : Int64)), (.ref ol), (.ref op), .null, (.ref fs)] 9 = mkF m 0 #[.val (.ref a), .val (.ref kd), .val (.int pn), .val (.long (0 : Int64)), .second, .val (.ref ol), .val (.ref op), .val .null, .val (.ref fs)] [] := by first | (simp [entryFrame, mkF, argsToLocals, Value.category]; done) | rfl
def Q_teInit (Z : State) (a : Addr) (kd : Addr) (pn : Int32) (ol : Addr) (op : Addr) (fs : Addr) (vv : Value) (v : Addr) (u0 : Value) (u1 : Value) (u2 : Value) (u3 : Value) (u4 : Value) (u5 : Value) (u6 : Value) (h0 : Heap) (n0 : Nat) (v_ : Option Value) (h_ : Heap) (L_ : List Loc) : Prop := v_ = none ∧ Fr n0 L_ ∧ Keep h0 h_ [a] ∧ (Fld Z h_ a "com/example/wildebeest/wildebeest/core/TraceEvent" "kind" "Lcom/example/wildebeest/wildebeest/core/EventKind;" (.ref kd)) ∧ (Fld Z h_ a "com/example/wildebeest/wildebeest/core/TraceEvent" "node" "I" (.int pn)) ∧ (Fld Z h_ a "com/example/wildebeest/wildebeest/core/TraceEvent" "vector" "Lcom/example/wildebeest/wildebeest/core/VectorTime;" vv)
set_option maxRecDepth 65536 in
set_option maxHeartbeats 40000000 in
theorem rm_teInit (l : Launch) (Z : State) (a0 : Array Value) (hw : ∀ d ∈ tables_1, d.before a0 Z = true) (ws : List Jvm.Cond) (a : Addr) (kd : Addr) (pn : Int32) (ol : Addr) (op : Addr) (fs : Addr) (vv : Value) (v : Addr) (u0 : Value) (u1 : Value) (u2 : Value) (u3 : Value) (u4 : Value) (u5 : Value) (u6 : Value) (h0 : Heap) (n0 : Nat) (O0 : Old Z n0 h0) (E_a : Exa Z h0 a "com/example/wildebeest/wildebeest/core/TraceEvent") (g_a : n0 ≤ a) (OE_ol : Exa Z Z.heap ol "java/util/OptionalLong") (OF_ol_isPresent : Fld Z Z.heap ol "java/util/OptionalLong" "isPresent" "Z" (.int (0 : Int32))) (E_op : Exa Z h0 op "java/util/Optional") (F_op_value : Fld Z h0 op "java/util/Optional" "value" "Ljava/lang/Object;" vv) (hvv : vv = .null ∨ (vv = .ref v ∧ Exa Z h0 v "com/example/wildebeest/wildebeest/core/VectorTime")) (F_a_kind : Fld Z h0 a "com/example/wildebeest/wildebeest/core/TraceEvent" "kind" "Lcom/example/wildebeest/wildebeest/core/EventKind;" u0) (F_a_node : Fld Z h0 a "com/example/wildebeest/wildebeest/core/TraceEvent" "node" "I" u1) (F_a_time : Fld Z h0 a "com/example/wildebeest/wildebeest/core/TraceEvent" "time" "J" u2) (F_a_lamport : Fld Z h0 a "com/example/wildebeest/wildebeest/core/TraceEvent" "lamport" "J" u3) (F_a_vector : Fld Z h0 a "com/example/wildebeest/wildebeest/core/TraceEvent" "vector" "Lcom/example/wildebeest/wildebeest/core/VectorTime;" u4) (F_a_message : Fld Z h0 a "com/example/wildebeest/wildebeest/core/TraceEvent" "message" "Lcom/example/wildebeest/wildebeest/core/Message;" u5) (F_a_fields : Fld Z h0 a "com/example/wildebeest/wildebeest/core/TraceEvent" "fields" "[J" u6) :
    MetFree l (⟨"com/example/wildebeest/wildebeest/core/TraceEvent", "<init>", "(Lcom/example/wildebeest/wildebeest/core/EventKind;IJLjava/util/OptionalLong;Ljava/util/Optional;Lcom/example/wildebeest/wildebeest/core/Message;[J)V"⟩ : MethodName) (head1 (Jvm.Cond.code (⟨"com/example/wildebeest/wildebeest/core/TraceEvent", "<init>", "(Lcom/example/wildebeest/wildebeest/core/EventKind;IJLjava/util/OptionalLong;Ljava/util/Optional;Lcom/example/wildebeest/wildebeest/core/Message;[J)V"⟩ : MethodName) prog_48_method_1_code 9 none :: ws) ({ frames := 1, cells := 0, slots := 0, locals := 15 } : Room)) (fun aa_ U_ => aa_ = #[(.ref a), (.ref kd), (.int pn), (.long (0 : Int64)), (.ref ol), (.ref op), .null, (.ref fs)] ∧ Z.Warmed39 U_.vm ∧ U_.heap = h0) (fun _ _ _ _ _ => True) (fun _ U_ o_ U_' => ∃ v_ L_, o_ = .returned v_ ∧ Q_teInit Z a kd pn ol op fs vv v u0 u1 u2 u3 u4 u5 u6 h0 n0 v_ U_'.heap L_ ∧ FrameEnd U_ o_ U_' L_ ({ frames := 1, cells := 0, slots := 0, locals := 15 } : Room).cells ({ frames := 1, cells := 0, slots := 0, locals := 15 } : Room).slots) := by
  refine MetFree.of_bodySF (plainFor_of_name pn_TraceEvent) hisR ?_
  intro p e s m args below meth c s₁ Bd hml0 hP hK
  obtain ⟨rfl, hZ, hh⟩ := hP
  have hx := Bd.exec
  have hby := Bd.bytes
  have hml : c.maxLocals = 9 := hml0
  have hown : s.vm.findClass "com/example/wildebeest/wildebeest/core/TraceEvent" = some m.cls := findClass_of_methodNamed Bd.named
  have hnm := (name_of_methodNamed Bd.named Bd.method).1
  have X0 : Stand p l e ({ frames := 1, cells := 0, slots := 0, locals := 15 } : Room) s m #[(.ref a), (.ref kd), (.int pn), (.long (0 : Int64)), (.ref ol), (.ref op), .null, (.ref fs)] below meth c s₁ [] 0 0 := Stand.of_body Bd
  have e0 : s₁.heap = h0 := by rw [← hh, Bd.state]; rfl
  have N0 := Fr.nil n0
  have K0 : Keep h0 h0 [a] := Keep.refl h0 _
  have pre0 : ∀ z_, Steps p.tables e below (s₁.setTop (mkF m 0 #[.val (.ref a), .val (.ref kd), .val (.int pn), .val (.long (0 : Int64)), .second, .val (.ref ol), .val (.ref op), .val .null, .val (.ref fs)] [])) z_ → Steps p.tables e below (s₁.setTop (entryFrame m #[(.ref a), (.ref kd), (.int pn), (.long (0 : Int64)), (.ref ol), (.ref op), .null, (.ref fs)] 9)) z_ := fun z_ k_ => castTop (ef_teInit m a kd pn ol op fs) k_
  have r0 : own_R p e below s₁ (mkF m 0 #[.val (.ref a), .val (.ref kd), .val (.int pn), .val (.long (0 : Int64)), .second, .val (.ref ol), .val (.ref op), .val .null, .val (.ref fs)] []) s₁ (mkF m 0 #[.val (.ref a), .val (.ref kd), .val (.int pn), .val (.long (0 : Int64)), .second, .val (.ref ol), .val (.ref op), .val .null, .val (.ref fs)] []) := own_R.refl
  have ne_a_op : a ≠ op := (ne_exa E_a E_op (by decide))
  rcases hvv with hv | ⟨hv, Ev⟩
  · skip
    rw [hv] at F_op_value
    have r1 : own_R p e below _ _ s₁ (mkF m 1 #[.val (.ref a), .val (.ref kd), .val (.int pn), .val (.long (0 : Int64)), .second, .val (.ref ol), .val (.ref op), .val .null, .val (.ref fs)] [(.ref a)]) := r0.trans fun z_ kt => by
      refine XS.aloadN X0.here hx rfl (hb hby d16_0) rfl rfl ?_
      exact kt
    obtain ⟨T2, X2, e2, st2⟩ := initO X0 hx hZ hown (hw _ (own_g (i := 120) rfl)) (hw _ (own_g (i := 20) rfl)) (hw _ (own_g (i := 21) rfl)) e0 (g := (mkF m 1 #[.val (.ref a), .val (.ref kd), .val (.int pn), .val (.long (0 : Int64)), .second, .val (.ref ol), .val (.ref op), .val .null, .val (.ref fs)] [(.ref a)])) rfl (by rw [hml]; rfl) rfl (hb hby d16_1) (by decide) (W := 0) (by show 2 * 0 + _ ≤ _; exact Nat.le_of_eq rfl) (by decide)
    have r2 : own_R p e below _ _ T2 (mkF m 4 #[.val (.ref a), .val (.ref kd), .val (.int pn), .val (.long (0 : Int64)), .second, .val (.ref ol), .val (.ref op), .val .null, .val (.ref fs)] []) := r1.trans fun z_ kt => st2 _ kt
    have r3 : own_R p e below _ _ T2 (mkF m 26 #[.val (.ref a), .val (.ref kd), .val (.int pn), .val (.long (0 : Int64)), .second, .val (.ref ol), .val (.ref op), .val .null, .val (.ref fs)] [(.ref ol)]) := r2.trans fun z_ kt => by
      refine XS.lloadN X2.here hx rfl (hb hby d16_4) rfl ?_
      refine XS.lconst X2.here hx rfl (hb hby d16_5) ?_
      refine XS.lcmp X2.here hx rfl (hb hby d16_6) rfl ?_
      refine XS.ifYes X2.here hx rfl (pc0 := 7) (pc' := 24) rfl (hb hby d16_7) rfl ((if0 _ _).trans (flt (by decide : ¬ ((0 : Int32) < (0 : Int32)))).2.1) (by decide) (by decide) ?_
      refine XS.aload X2.here hx rfl (hb hby d16_24) rfl rfl ?_
      exact kt
    obtain ⟨cq4, kq4, q4a, q4b, q4c⟩ := isOf hZ e2 (OE_ol.ext O0.2)
    obtain ⟨_, _, ⟨T4, L4, cc4, n4⟩, -, X4, ⟨Lc4, hQ4, l4, y4, z4⟩, st4⟩ := X2.virtualBack hx (y := (⟨"java/util/OptionalLong", "isPresent", "()Z"⟩ : MethodName)) (z := (⟨"java/util/OptionalLong", "isPresent", "()Z"⟩ : MethodName)) hown (mvT hZ (hw _ (own_g (i := 121) rfl))) (mvT hZ (hw _ (own_g (i := 122) rfl))) (notFace_of_selects (args := #[]) (mvT hZ (hw _ (own_g (i := 124) rfl)))) (mvT hZ (hw _ (own_g (i := 124) rfl))) (mvT hZ (hw _ (own_g (i := 123) rfl))) (by decide) (backOf (W := 0) (rm_olPresent l Z a0 hw [] (ol) h0 n0 O0 ((OF_ol_isPresent.ext O0.2))) hZ (hw _ (own_g (i := 125) rfl)) (hw _ (own_g (i := 80) rfl)) (by decide) (by decide)) q4a q4c (g := (mkF m 26 #[.val (.ref a), .val (.ref kd), .val (.int pn), .val (.long (0 : Int64)), .second, .val (.ref ol), .val (.ref op), .val .null, .val (.ref fs)] [(.ref ol)])) rfl (by rw [hml]; rfl) (Steps.refl _) (argsL := []) (rest := []) (lenOf pd_5 rfl) rfl (by show 2 * 0 + _ ≤ _; exact Nat.le_of_eq rfl) (hb hby d16_26) (fun _ _ => ⟨rfl, e2, (by decide : 0 + 0 ≤ _), (by decide : 0 + 0 ≤ _)⟩)
    dsimp only [Pt.U, Pt.locs, Pt.cells, Pt.slots] at X4 l4 y4 z4 st4 hQ4
    subst l4 y4 z4
    obtain ⟨rfl, Nq4, eq4⟩ := hQ4
    have N4 := Fr.app N0 Nq4
    have r4 : own_R p e below _ _ T4 (mkF m 29 #[.val (.ref a), .val (.ref kd), .val (.int pn), .val (.long (0 : Int64)), .second, .val (.ref ol), .val (.ref op), .val .null, .val (.ref fs)] [(.int (0 : Int32))]) := r3.trans fun z_ kt => st4.trans kt
    have e4 : T4.heap = h0 := eq4
    have r5 : own_R p e below _ _ T4 (mkF m 62 #[.val (.ref a), .val (.ref kd), .val (.int pn), .val (.long (0 : Int64)), .second, .val (.ref ol), .val (.ref op), .val .null, .val (.ref fs)] [(.ref kd), (.ref a)]) := r4.trans fun z_ kt => by
      refine XS.ifYes X4.here hx rfl (pc0 := 29) (pc' := 60) rfl (hb hby d16_29) rfl ((if0 _ _).trans (teq (by decide : (0 : Int32) = (0 : Int32))).1) (by decide) (by decide) ?_
      refine XS.aloadN X4.here hx rfl (hb hby d16_60) rfl rfl ?_
      refine XS.aloadN X4.here hx rfl (hb hby d16_61) rfl rfl ?_
      exact kt
    obtain ⟨T6, h6, X6, e6, W6, st6⟩ := putF X4 hx hZ hown (host := "") (Or.inl (hw _ (own_g (i := 128) rfl))) Via.refl e4 F_a_kind E_a (Or.inr ⟨(hw _ (own_g (i := 129) rfl)), rfl, hnm⟩) (hw _ (own_g (i := 114) rfl)) (ty := (.object "com/example/wildebeest/wildebeest/core/EventKind")) (v := (.ref kd)) (by decide) rfl rfl (g := (mkF m 62 #[.val (.ref a), .val (.ref kd), .val (.int pn), .val (.long (0 : Int64)), .second, .val (.ref ol), .val (.ref op), .val .null, .val (.ref fs)] [(.ref kd), (.ref a)])) rfl rfl (hb hby d16_62)
    have r6 : own_R p e below _ _ T6 (mkF m 65 #[.val (.ref a), .val (.ref kd), .val (.int pn), .val (.long (0 : Int64)), .second, .val (.ref ol), .val (.ref op), .val .null, .val (.ref fs)] []) := r5.trans fun z_ kt => st6 _ kt
    have N6 := Fr.snoc X6 N4 g_a
    have O6 := O0.wr W6 g_a
    have K6 := K0.wr W6 (Or.inl (List.mem_of_getElem? (i := 0) rfl))
    have F6 := F_a_kind.same W6
    have f7 := (F_a_node.other W6 (Or.inr (slot_ne (Or.inr (hw _ (own_g (i := 131) rfl))) (Or.inr (hw _ (own_g (i := 129) rfl))) (by decide) (t := .int) (t' := (.object "com/example/wildebeest/wildebeest/core/EventKind")) (by decide) (by decide))))
    have f8 := (E_a.wr W6)
    have r9 : own_R p e below _ _ T6 (mkF m 67 #[.val (.ref a), .val (.ref kd), .val (.int pn), .val (.long (0 : Int64)), .second, .val (.ref ol), .val (.ref op), .val .null, .val (.ref fs)] [(.int pn), (.ref a)]) := r6.trans fun z_ kt => by
      refine XS.aloadN X6.here hx rfl (hb hby d16_65) rfl rfl ?_
      refine XS.iloadN X6.here hx rfl (hb hby d16_66) rfl ?_
      exact kt
    obtain ⟨T10, h10, X10, e10, W10, st10⟩ := putF X6 hx hZ hown (host := "") (Or.inl (hw _ (own_g (i := 130) rfl))) Via.refl e6 f7 f8 (Or.inr ⟨(hw _ (own_g (i := 131) rfl)), rfl, hnm⟩) (hw _ (own_g (i := 114) rfl)) (ty := .int) (v := (.int pn)) (by decide) rfl rfl (g := (mkF m 67 #[.val (.ref a), .val (.ref kd), .val (.int pn), .val (.long (0 : Int64)), .second, .val (.ref ol), .val (.ref op), .val .null, .val (.ref fs)] [(.int pn), (.ref a)])) rfl rfl (hb hby d16_67)
    have r10 : own_R p e below _ _ T10 (mkF m 70 #[.val (.ref a), .val (.ref kd), .val (.int pn), .val (.long (0 : Int64)), .second, .val (.ref ol), .val (.ref op), .val .null, .val (.ref fs)] []) := r9.trans fun z_ kt => st10 _ kt
    have N10 := Fr.snoc X10 N6 g_a
    have O10 := O6.wr W10 g_a
    have K10 := K6.wr W10 (Or.inl (List.mem_of_getElem? (i := 0) rfl))
    have F10 := f7.same W10
    have f11 := ((F_a_time.other W6 (Or.inr (slot_ne (Or.inr (hw _ (own_g (i := 133) rfl))) (Or.inr (hw _ (own_g (i := 129) rfl))) (by decide) (t := .long) (t' := (.object "com/example/wildebeest/wildebeest/core/EventKind")) (by decide) (by decide)))).other W10 (Or.inr (slot_ne (Or.inr (hw _ (own_g (i := 133) rfl))) (Or.inr (hw _ (own_g (i := 131) rfl))) (by decide) (t := .long) (t' := .int) (by decide) (by decide))))
    have f12 := (f8.wr W10)
    have r13 : own_R p e below _ _ T10 (mkF m 72 #[.val (.ref a), .val (.ref kd), .val (.int pn), .val (.long (0 : Int64)), .second, .val (.ref ol), .val (.ref op), .val .null, .val (.ref fs)] [(.long (0 : Int64)), (.ref a)]) := r10.trans fun z_ kt => by
      refine XS.aloadN X10.here hx rfl (hb hby d16_70) rfl rfl ?_
      refine XS.lloadN X10.here hx rfl (hb hby d16_71) rfl ?_
      exact kt
    obtain ⟨T14, h14, X14, e14, W14, st14⟩ := putF X10 hx hZ hown (host := "") (Or.inl (hw _ (own_g (i := 132) rfl))) Via.refl e10 f11 f12 (Or.inr ⟨(hw _ (own_g (i := 133) rfl)), rfl, hnm⟩) (hw _ (own_g (i := 114) rfl)) (ty := .long) (v := (.long (0 : Int64))) (by decide) rfl rfl (g := (mkF m 72 #[.val (.ref a), .val (.ref kd), .val (.int pn), .val (.long (0 : Int64)), .second, .val (.ref ol), .val (.ref op), .val .null, .val (.ref fs)] [(.long (0 : Int64)), (.ref a)])) rfl rfl (hb hby d16_72)
    have r14 : own_R p e below _ _ T14 (mkF m 75 #[.val (.ref a), .val (.ref kd), .val (.int pn), .val (.long (0 : Int64)), .second, .val (.ref ol), .val (.ref op), .val .null, .val (.ref fs)] []) := r13.trans fun z_ kt => st14 _ kt
    have N14 := Fr.snoc X14 N10 g_a
    have O14 := O10.wr W14 g_a
    have K14 := K10.wr W14 (Or.inl (List.mem_of_getElem? (i := 0) rfl))
    have F14 := f11.same W14
    have r15 : own_R p e below _ _ T14 (mkF m 81 #[.val (.ref a), .val (.ref kd), .val (.int pn), .val (.long (0 : Int64)), .second, .val (.ref ol), .val (.ref op), .val .null, .val (.ref fs)] [(.long (-1 : Int64)), (.ref ol), (.ref a)]) := r14.trans fun z_ kt => by
      refine XS.aloadN X14.here hx rfl (hb hby d16_75) rfl rfl ?_
      refine XS.aload X14.here hx rfl (hb hby d16_76) rfl rfl ?_
      refine X14.ldc2Long hx hown (mvT hZ (hw _ (own_g (i := 134) rfl))) (g := (mkF m 78 #[.val (.ref a), .val (.ref kd), .val (.int pn), .val (.long (0 : Int64)), .second, .val (.ref ol), .val (.ref op), .val .null, .val (.ref fs)] [(.ref ol), (.ref a)])) rfl (hb hby d16_78) _ ?_
      exact kt
    obtain ⟨cq16, kq16, q16a, q16b, q16c⟩ := isOf hZ e14 (OE_ol.ext O14.2)
    obtain ⟨_, _, ⟨T16, L16, cc16, n16⟩, -, X16, ⟨Lc16, hQ16, l16, y16, z16⟩, st16⟩ := X14.virtualBack hx (y := (⟨"java/util/OptionalLong", "orElse", "(J)J"⟩ : MethodName)) (z := (⟨"java/util/OptionalLong", "orElse", "(J)J"⟩ : MethodName)) hown (mvT hZ (hw _ (own_g (i := 135) rfl))) (mvT hZ (hw _ (own_g (i := 136) rfl))) (notFace_of_selects (args := #[]) (mvT hZ (hw _ (own_g (i := 138) rfl)))) (mvT hZ (hw _ (own_g (i := 138) rfl))) (mvT hZ (hw _ (own_g (i := 137) rfl))) (by decide) (backOf (W := 1) (rm_olOrElse l Z a0 hw [] (ol) ((-1 : Int64)) h14 n0 O14 ((OF_ol_isPresent.ext O14.2))) hZ (hw _ (own_g (i := 139) rfl)) (hw _ (own_g (i := 80) rfl)) (by decide) (by decide)) q16a q16c (g := (mkF m 81 #[.val (.ref a), .val (.ref kd), .val (.int pn), .val (.long (0 : Int64)), .second, .val (.ref ol), .val (.ref op), .val .null, .val (.ref fs)] [(.long (-1 : Int64)), (.ref ol), (.ref a)])) rfl (by rw [hml]; rfl) (Steps.refl _) (argsL := [(.long (-1 : Int64))]) (rest := [(.ref a)]) (lenOf pd_6 rfl) rfl (by show 2 * 0 + _ ≤ _; exact Nat.le_of_eq rfl) (hb hby d16_81) (fun _ _ => ⟨rfl, e14, (by decide : 0 + 0 ≤ _), (by decide : 0 + 0 ≤ _)⟩)
    dsimp only [Pt.U, Pt.locs, Pt.cells, Pt.slots] at X16 l16 y16 z16 st16 hQ16
    subst l16 y16 z16
    obtain ⟨rfl, Nq16, eq16⟩ := hQ16
    have N16 := Fr.app N14 Nq16
    have r16 : own_R p e below _ _ T16 (mkF m 84 #[.val (.ref a), .val (.ref kd), .val (.int pn), .val (.long (0 : Int64)), .second, .val (.ref ol), .val (.ref op), .val .null, .val (.ref fs)] [(.long (-1 : Int64)), (.ref a)]) := r15.trans fun z_ kt => st16.trans kt
    have e16 : T16.heap = h14 := eq16
    have f17 := (((F_a_lamport.other W6 (Or.inr (slot_ne (Or.inr (hw _ (own_g (i := 141) rfl))) (Or.inr (hw _ (own_g (i := 129) rfl))) (by decide) (t := .long) (t' := (.object "com/example/wildebeest/wildebeest/core/EventKind")) (by decide) (by decide)))).other W10 (Or.inr (slot_ne (Or.inr (hw _ (own_g (i := 141) rfl))) (Or.inr (hw _ (own_g (i := 131) rfl))) (by decide) (t := .long) (t' := .int) (by decide) (by decide)))).other W14 (Or.inr (slot_ne (Or.inr (hw _ (own_g (i := 141) rfl))) (Or.inr (hw _ (own_g (i := 133) rfl))) (by decide) (t := .long) (t' := .long) (by decide) (by decide))))
    have f18 := (f12.wr W14)
    obtain ⟨T19, h19, X19, e19, W19, st19⟩ := putF X16 hx hZ hown (host := "") (Or.inl (hw _ (own_g (i := 140) rfl))) Via.refl e16 f17 f18 (Or.inr ⟨(hw _ (own_g (i := 141) rfl)), rfl, hnm⟩) (hw _ (own_g (i := 114) rfl)) (ty := .long) (v := (.long (-1 : Int64))) (by decide) rfl rfl (g := (mkF m 84 #[.val (.ref a), .val (.ref kd), .val (.int pn), .val (.long (0 : Int64)), .second, .val (.ref ol), .val (.ref op), .val .null, .val (.ref fs)] [(.long (-1 : Int64)), (.ref a)])) rfl rfl (hb hby d16_84)
    have r19 : own_R p e below _ _ T19 (mkF m 87 #[.val (.ref a), .val (.ref kd), .val (.int pn), .val (.long (0 : Int64)), .second, .val (.ref ol), .val (.ref op), .val .null, .val (.ref fs)] []) := r16.trans fun z_ kt => st19 _ kt
    have N19 := Fr.snoc X19 N16 g_a
    have O19 := O14.wr W19 g_a
    have K19 := K14.wr W19 (Or.inl (List.mem_of_getElem? (i := 0) rfl))
    have F19 := f17.same W19
    have f20 := ((((E_op.wr W6).wr W10).wr W14).wr W19)
    have r21 : own_R p e below _ _ T19 (mkF m 91 #[.val (.ref a), .val (.ref kd), .val (.int pn), .val (.long (0 : Int64)), .second, .val (.ref ol), .val (.ref op), .val .null, .val (.ref fs)] [.null, (.ref op), (.ref a)]) := r19.trans fun z_ kt => by
      refine XS.aloadN X19.here hx rfl (hb hby d16_87) rfl rfl ?_
      refine XS.aload X19.here hx rfl (hb hby d16_88) rfl rfl ?_
      refine XS.aconstNull X19.here hx rfl (hb hby d16_90) ?_
      exact kt
    have f22 := ((((F_op_value.other W6 (Or.inl (Ne.symm ne_a_op))).other W10 (Or.inl (Ne.symm ne_a_op))).other W14 (Or.inl (Ne.symm ne_a_op))).other W19 (Or.inl (Ne.symm ne_a_op)))
    obtain ⟨cq23, kq23, q23a, q23b, q23c⟩ := isOf hZ e19 f20
    obtain ⟨_, _, ⟨T23, L23, cc23, n23⟩, -, X23, ⟨Lc23, hQ23, l23, y23, z23⟩, st23⟩ := X19.virtualBack hx (y := (⟨"java/util/Optional", "orElse", "(Ljava/lang/Object;)Ljava/lang/Object;"⟩ : MethodName)) (z := (⟨"java/util/Optional", "orElse", "(Ljava/lang/Object;)Ljava/lang/Object;"⟩ : MethodName)) hown (mvT hZ (hw _ (own_g (i := 142) rfl))) (mvT hZ (hw _ (own_g (i := 143) rfl))) (notFace_of_selects (args := #[]) (mvT hZ (hw _ (own_g (i := 145) rfl)))) (mvT hZ (hw _ (own_g (i := 145) rfl))) (mvT hZ (hw _ (own_g (i := 144) rfl))) (by decide) (backOf (W := 1) (rm_opOrElseN l Z a0 hw [] (op) h19 n0 O19 (f22)) hZ (hw _ (own_g (i := 146) rfl)) (hw _ (own_g (i := 75) rfl)) (by decide) (by decide)) q23a q23c (g := (mkF m 91 #[.val (.ref a), .val (.ref kd), .val (.int pn), .val (.long (0 : Int64)), .second, .val (.ref ol), .val (.ref op), .val .null, .val (.ref fs)] [.null, (.ref op), (.ref a)])) rfl (by rw [hml]; rfl) (Steps.refl _) (argsL := [.null]) (rest := [(.ref a)]) (lenOf pd_3 rfl) rfl (by show 2 * 0 + _ ≤ _; exact Nat.le_of_eq rfl) (hb hby d16_91) (fun _ _ => ⟨rfl, e19, (by decide : 0 + 0 ≤ _), (by decide : 0 + 0 ≤ _)⟩)
    dsimp only [Pt.U, Pt.locs, Pt.cells, Pt.slots] at X23 l23 y23 z23 st23 hQ23
    subst l23 y23 z23
    obtain ⟨rfl, Nq23, eq23⟩ := hQ23
    have N23 := Fr.app N19 Nq23
    have r23 : own_R p e below _ _ T23 (mkF m 94 #[.val (.ref a), .val (.ref kd), .val (.int pn), .val (.long (0 : Int64)), .second, .val (.ref ol), .val (.ref op), .val .null, .val (.ref fs)] [.null, (.ref a)]) := r21.trans fun z_ kt => st23.trans kt
    have e23 : T23.heap = h19 := eq23
    have f24 := ((((F_a_vector.other W6 (Or.inr (slot_ne (Or.inr (hw _ (own_g (i := 150) rfl))) (Or.inr (hw _ (own_g (i := 129) rfl))) (by decide) (t := (.object "com/example/wildebeest/wildebeest/core/VectorTime")) (t' := (.object "com/example/wildebeest/wildebeest/core/EventKind")) (by decide) (by decide)))).other W10 (Or.inr (slot_ne (Or.inr (hw _ (own_g (i := 150) rfl))) (Or.inr (hw _ (own_g (i := 131) rfl))) (by decide) (t := (.object "com/example/wildebeest/wildebeest/core/VectorTime")) (t' := .int) (by decide) (by decide)))).other W14 (Or.inr (slot_ne (Or.inr (hw _ (own_g (i := 150) rfl))) (Or.inr (hw _ (own_g (i := 133) rfl))) (by decide) (t := (.object "com/example/wildebeest/wildebeest/core/VectorTime")) (t' := .long) (by decide) (by decide)))).other W19 (Or.inr (slot_ne (Or.inr (hw _ (own_g (i := 150) rfl))) (Or.inr (hw _ (own_g (i := 141) rfl))) (by decide) (t := (.object "com/example/wildebeest/wildebeest/core/VectorTime")) (t' := .long) (by decide) (by decide))))
    have f25 := (f18.wr W19)
    have r26 : own_R p e below _ _ T23 (mkF m 97 #[.val (.ref a), .val (.ref kd), .val (.int pn), .val (.long (0 : Int64)), .second, .val (.ref ol), .val (.ref op), .val .null, .val (.ref fs)] [.null, (.ref a)]) := r23.trans fun z_ kt => by
      refine X23.checkcastNull hx (g := (mkF m 94 #[.val (.ref a), .val (.ref kd), .val (.int pn), .val (.long (0 : Int64)), .second, .val (.ref ol), .val (.ref op), .val .null, .val (.ref fs)] [.null, (.ref a)])) rfl rfl (hb hby d16_94) _ ?_
      exact kt
    obtain ⟨T27, h27, X27, e27, W27, st27⟩ := putF X23 hx hZ hown (host := "") (Or.inl (hw _ (own_g (i := 149) rfl))) Via.refl e23 f24 f25 (Or.inr ⟨(hw _ (own_g (i := 150) rfl)), rfl, hnm⟩) (hw _ (own_g (i := 114) rfl)) (ty := (.object "com/example/wildebeest/wildebeest/core/VectorTime")) (v := .null) (by decide) rfl rfl (g := (mkF m 97 #[.val (.ref a), .val (.ref kd), .val (.int pn), .val (.long (0 : Int64)), .second, .val (.ref ol), .val (.ref op), .val .null, .val (.ref fs)] [.null, (.ref a)])) rfl rfl (hb hby d16_97)
    have r27 : own_R p e below _ _ T27 (mkF m 100 #[.val (.ref a), .val (.ref kd), .val (.int pn), .val (.long (0 : Int64)), .second, .val (.ref ol), .val (.ref op), .val .null, .val (.ref fs)] []) := r26.trans fun z_ kt => st27 _ kt
    have N27 := Fr.snoc X27 N23 g_a
    have O27 := O19.wr W27 g_a
    have K27 := K19.wr W27 (Or.inl (List.mem_of_getElem? (i := 0) rfl))
    have F27 := f24.same W27
    have f28 := (((((F_a_message.other W6 (Or.inr (slot_ne (Or.inr (hw _ (own_g (i := 152) rfl))) (Or.inr (hw _ (own_g (i := 129) rfl))) (by decide) (t := (.object "com/example/wildebeest/wildebeest/core/Message")) (t' := (.object "com/example/wildebeest/wildebeest/core/EventKind")) (by decide) (by decide)))).other W10 (Or.inr (slot_ne (Or.inr (hw _ (own_g (i := 152) rfl))) (Or.inr (hw _ (own_g (i := 131) rfl))) (by decide) (t := (.object "com/example/wildebeest/wildebeest/core/Message")) (t' := .int) (by decide) (by decide)))).other W14 (Or.inr (slot_ne (Or.inr (hw _ (own_g (i := 152) rfl))) (Or.inr (hw _ (own_g (i := 133) rfl))) (by decide) (t := (.object "com/example/wildebeest/wildebeest/core/Message")) (t' := .long) (by decide) (by decide)))).other W19 (Or.inr (slot_ne (Or.inr (hw _ (own_g (i := 152) rfl))) (Or.inr (hw _ (own_g (i := 141) rfl))) (by decide) (t := (.object "com/example/wildebeest/wildebeest/core/Message")) (t' := .long) (by decide) (by decide)))).other W27 (Or.inr (slot_ne (Or.inr (hw _ (own_g (i := 152) rfl))) (Or.inr (hw _ (own_g (i := 150) rfl))) (by decide) (t := (.object "com/example/wildebeest/wildebeest/core/Message")) (t' := (.object "com/example/wildebeest/wildebeest/core/VectorTime")) (by decide) (by decide))))
    have f29 := (f25.wr W27)
    have r30 : own_R p e below _ _ T27 (mkF m 103 #[.val (.ref a), .val (.ref kd), .val (.int pn), .val (.long (0 : Int64)), .second, .val (.ref ol), .val (.ref op), .val .null, .val (.ref fs)] [.null, (.ref a)]) := r27.trans fun z_ kt => by
      refine XS.aloadN X27.here hx rfl (hb hby d16_100) rfl rfl ?_
      refine XS.aload X27.here hx rfl (hb hby d16_101) rfl rfl ?_
      exact kt
    obtain ⟨T31, h31, X31, e31, W31, st31⟩ := putF X27 hx hZ hown (host := "") (Or.inl (hw _ (own_g (i := 151) rfl))) Via.refl e27 f28 f29 (Or.inr ⟨(hw _ (own_g (i := 152) rfl)), rfl, hnm⟩) (hw _ (own_g (i := 114) rfl)) (ty := (.object "com/example/wildebeest/wildebeest/core/Message")) (v := .null) (by decide) rfl rfl (g := (mkF m 103 #[.val (.ref a), .val (.ref kd), .val (.int pn), .val (.long (0 : Int64)), .second, .val (.ref ol), .val (.ref op), .val .null, .val (.ref fs)] [.null, (.ref a)])) rfl rfl (hb hby d16_103)
    have r31 : own_R p e below _ _ T31 (mkF m 106 #[.val (.ref a), .val (.ref kd), .val (.int pn), .val (.long (0 : Int64)), .second, .val (.ref ol), .val (.ref op), .val .null, .val (.ref fs)] []) := r30.trans fun z_ kt => st31 _ kt
    have N31 := Fr.snoc X31 N27 g_a
    have O31 := O27.wr W31 g_a
    have K31 := K27.wr W31 (Or.inl (List.mem_of_getElem? (i := 0) rfl))
    have F31 := f28.same W31
    have f32 := ((((((F_a_fields.other W6 (Or.inr (slot_ne (Or.inr (hw _ (own_g (i := 154) rfl))) (Or.inr (hw _ (own_g (i := 129) rfl))) (by decide) (t := (.array .long)) (t' := (.object "com/example/wildebeest/wildebeest/core/EventKind")) (by decide) (by decide)))).other W10 (Or.inr (slot_ne (Or.inr (hw _ (own_g (i := 154) rfl))) (Or.inr (hw _ (own_g (i := 131) rfl))) (by decide) (t := (.array .long)) (t' := .int) (by decide) (by decide)))).other W14 (Or.inr (slot_ne (Or.inr (hw _ (own_g (i := 154) rfl))) (Or.inr (hw _ (own_g (i := 133) rfl))) (by decide) (t := (.array .long)) (t' := .long) (by decide) (by decide)))).other W19 (Or.inr (slot_ne (Or.inr (hw _ (own_g (i := 154) rfl))) (Or.inr (hw _ (own_g (i := 141) rfl))) (by decide) (t := (.array .long)) (t' := .long) (by decide) (by decide)))).other W27 (Or.inr (slot_ne (Or.inr (hw _ (own_g (i := 154) rfl))) (Or.inr (hw _ (own_g (i := 150) rfl))) (by decide) (t := (.array .long)) (t' := (.object "com/example/wildebeest/wildebeest/core/VectorTime")) (by decide) (by decide)))).other W31 (Or.inr (slot_ne (Or.inr (hw _ (own_g (i := 154) rfl))) (Or.inr (hw _ (own_g (i := 152) rfl))) (by decide) (t := (.array .long)) (t' := (.object "com/example/wildebeest/wildebeest/core/Message")) (by decide) (by decide))))
    have f33 := (f29.wr W31)
    have r34 : own_R p e below _ _ T31 (mkF m 109 #[.val (.ref a), .val (.ref kd), .val (.int pn), .val (.long (0 : Int64)), .second, .val (.ref ol), .val (.ref op), .val .null, .val (.ref fs)] [(.ref fs), (.ref a)]) := r31.trans fun z_ kt => by
      refine XS.aloadN X31.here hx rfl (hb hby d16_106) rfl rfl ?_
      refine XS.aload X31.here hx rfl (hb hby d16_107) rfl rfl ?_
      exact kt
    obtain ⟨T35, h35, X35, e35, W35, st35⟩ := putF X31 hx hZ hown (host := "") (Or.inl (hw _ (own_g (i := 153) rfl))) Via.refl e31 f32 f33 (Or.inr ⟨(hw _ (own_g (i := 154) rfl)), rfl, hnm⟩) (hw _ (own_g (i := 114) rfl)) (ty := (.array .long)) (v := (.ref fs)) (by decide) rfl rfl (g := (mkF m 109 #[.val (.ref a), .val (.ref kd), .val (.int pn), .val (.long (0 : Int64)), .second, .val (.ref ol), .val (.ref op), .val .null, .val (.ref fs)] [(.ref fs), (.ref a)])) rfl rfl (hb hby d16_109)
    have r35 : own_R p e below _ _ T35 (mkF m 112 #[.val (.ref a), .val (.ref kd), .val (.int pn), .val (.long (0 : Int64)), .second, .val (.ref ol), .val (.ref op), .val .null, .val (.ref fs)] []) := r34.trans fun z_ kt => st35 _ kt
    have N35 := Fr.snoc X35 N31 g_a
    have O35 := O31.wr W35 g_a
    have K35 := K31.wr W35 (Or.inl (List.mem_of_getElem? (i := 0) rfl))
    have F35 := f32.same W35
    have f36 := ((F27.other W31 (Or.inr (slot_ne (Or.inr (hw _ (own_g (i := 150) rfl))) (Or.inr (hw _ (own_g (i := 152) rfl))) (by decide) (t := (.object "com/example/wildebeest/wildebeest/core/VectorTime")) (t' := (.object "com/example/wildebeest/wildebeest/core/Message")) (by decide) (by decide)))).other W35 (Or.inr (slot_ne (Or.inr (hw _ (own_g (i := 150) rfl))) (Or.inr (hw _ (own_g (i := 154) rfl))) (by decide) (t := (.object "com/example/wildebeest/wildebeest/core/VectorTime")) (t' := (.array .long)) (by decide) (by decide))))
    have f37 := ((((((F6.other W10 (Or.inr (slot_ne (Or.inr (hw _ (own_g (i := 129) rfl))) (Or.inr (hw _ (own_g (i := 131) rfl))) (by decide) (t := (.object "com/example/wildebeest/wildebeest/core/EventKind")) (t' := .int) (by decide) (by decide)))).other W14 (Or.inr (slot_ne (Or.inr (hw _ (own_g (i := 129) rfl))) (Or.inr (hw _ (own_g (i := 133) rfl))) (by decide) (t := (.object "com/example/wildebeest/wildebeest/core/EventKind")) (t' := .long) (by decide) (by decide)))).other W19 (Or.inr (slot_ne (Or.inr (hw _ (own_g (i := 129) rfl))) (Or.inr (hw _ (own_g (i := 141) rfl))) (by decide) (t := (.object "com/example/wildebeest/wildebeest/core/EventKind")) (t' := .long) (by decide) (by decide)))).other W27 (Or.inr (slot_ne (Or.inr (hw _ (own_g (i := 129) rfl))) (Or.inr (hw _ (own_g (i := 150) rfl))) (by decide) (t := (.object "com/example/wildebeest/wildebeest/core/EventKind")) (t' := (.object "com/example/wildebeest/wildebeest/core/VectorTime")) (by decide) (by decide)))).other W31 (Or.inr (slot_ne (Or.inr (hw _ (own_g (i := 129) rfl))) (Or.inr (hw _ (own_g (i := 152) rfl))) (by decide) (t := (.object "com/example/wildebeest/wildebeest/core/EventKind")) (t' := (.object "com/example/wildebeest/wildebeest/core/Message")) (by decide) (by decide)))).other W35 (Or.inr (slot_ne (Or.inr (hw _ (own_g (i := 129) rfl))) (Or.inr (hw _ (own_g (i := 154) rfl))) (by decide) (t := (.object "com/example/wildebeest/wildebeest/core/EventKind")) (t' := (.array .long)) (by decide) (by decide))))
    have f38 := (((((F10.other W14 (Or.inr (slot_ne (Or.inr (hw _ (own_g (i := 131) rfl))) (Or.inr (hw _ (own_g (i := 133) rfl))) (by decide) (t := .int) (t' := .long) (by decide) (by decide)))).other W19 (Or.inr (slot_ne (Or.inr (hw _ (own_g (i := 131) rfl))) (Or.inr (hw _ (own_g (i := 141) rfl))) (by decide) (t := .int) (t' := .long) (by decide) (by decide)))).other W27 (Or.inr (slot_ne (Or.inr (hw _ (own_g (i := 131) rfl))) (Or.inr (hw _ (own_g (i := 150) rfl))) (by decide) (t := .int) (t' := (.object "com/example/wildebeest/wildebeest/core/VectorTime")) (by decide) (by decide)))).other W31 (Or.inr (slot_ne (Or.inr (hw _ (own_g (i := 131) rfl))) (Or.inr (hw _ (own_g (i := 152) rfl))) (by decide) (t := .int) (t' := (.object "com/example/wildebeest/wildebeest/core/Message")) (by decide) (by decide)))).other W35 (Or.inr (slot_ne (Or.inr (hw _ (own_g (i := 131) rfl))) (Or.inr (hw _ (own_g (i := 154) rfl))) (by decide) (t := .int) (t' := (.array .long)) (by decide) (by decide))))
    obtain ⟨fs_, hr_, hrun_, hended_, hW_, hsame_⟩ := X35.leave (v := none) (fun _ => rfl)
    refine ⟨_, _, pre0 _ (r35 _ ?_), hrun_, hended_, _, _, rfl, ?_, ⟨_, rfl⟩, hW_, hsame_.mono (by decide) (by decide)⟩
    · exact X35.returnOut hx Bd.returns (hb hby d16_112) hr_
    · show Q_teInit Z a kd pn ol op fs vv v u0 u1 u2 u3 u4 u5 u6 h0 n0 _ T35.heap _
      rw [e35]
      exact ⟨rfl, N35, K35, f37, f38, (by rw [hv]; exact f36)⟩
  · skip
    rw [hv] at F_op_value
    have r39 : own_R p e below _ _ s₁ (mkF m 1 #[.val (.ref a), .val (.ref kd), .val (.int pn), .val (.long (0 : Int64)), .second, .val (.ref ol), .val (.ref op), .val .null, .val (.ref fs)] [(.ref a)]) := r0.trans fun z_ kt => by
      refine XS.aloadN X0.here hx rfl (hb hby d16_0) rfl rfl ?_
      exact kt
    obtain ⟨T40, X40, e40, st40⟩ := initO X0 hx hZ hown (hw _ (own_g (i := 120) rfl)) (hw _ (own_g (i := 20) rfl)) (hw _ (own_g (i := 21) rfl)) e0 (g := (mkF m 1 #[.val (.ref a), .val (.ref kd), .val (.int pn), .val (.long (0 : Int64)), .second, .val (.ref ol), .val (.ref op), .val .null, .val (.ref fs)] [(.ref a)])) rfl (by rw [hml]; rfl) rfl (hb hby d16_1) (by decide) (W := 0) (by show 2 * 0 + _ ≤ _; exact Nat.le_of_eq rfl) (by decide)
    have r40 : own_R p e below _ _ T40 (mkF m 4 #[.val (.ref a), .val (.ref kd), .val (.int pn), .val (.long (0 : Int64)), .second, .val (.ref ol), .val (.ref op), .val .null, .val (.ref fs)] []) := r39.trans fun z_ kt => st40 _ kt
    have r41 : own_R p e below _ _ T40 (mkF m 26 #[.val (.ref a), .val (.ref kd), .val (.int pn), .val (.long (0 : Int64)), .second, .val (.ref ol), .val (.ref op), .val .null, .val (.ref fs)] [(.ref ol)]) := r40.trans fun z_ kt => by
      refine XS.lloadN X40.here hx rfl (hb hby d16_4) rfl ?_
      refine XS.lconst X40.here hx rfl (hb hby d16_5) ?_
      refine XS.lcmp X40.here hx rfl (hb hby d16_6) rfl ?_
      refine XS.ifYes X40.here hx rfl (pc0 := 7) (pc' := 24) rfl (hb hby d16_7) rfl ((if0 _ _).trans (flt (by decide : ¬ ((0 : Int32) < (0 : Int32)))).2.1) (by decide) (by decide) ?_
      refine XS.aload X40.here hx rfl (hb hby d16_24) rfl rfl ?_
      exact kt
    obtain ⟨cq42, kq42, q42a, q42b, q42c⟩ := isOf hZ e40 (OE_ol.ext O0.2)
    obtain ⟨_, _, ⟨T42, L42, cc42, n42⟩, -, X42, ⟨Lc42, hQ42, l42, y42, z42⟩, st42⟩ := X40.virtualBack hx (y := (⟨"java/util/OptionalLong", "isPresent", "()Z"⟩ : MethodName)) (z := (⟨"java/util/OptionalLong", "isPresent", "()Z"⟩ : MethodName)) hown (mvT hZ (hw _ (own_g (i := 121) rfl))) (mvT hZ (hw _ (own_g (i := 122) rfl))) (notFace_of_selects (args := #[]) (mvT hZ (hw _ (own_g (i := 124) rfl)))) (mvT hZ (hw _ (own_g (i := 124) rfl))) (mvT hZ (hw _ (own_g (i := 123) rfl))) (by decide) (backOf (W := 0) (rm_olPresent l Z a0 hw [] (ol) h0 n0 O0 ((OF_ol_isPresent.ext O0.2))) hZ (hw _ (own_g (i := 125) rfl)) (hw _ (own_g (i := 80) rfl)) (by decide) (by decide)) q42a q42c (g := (mkF m 26 #[.val (.ref a), .val (.ref kd), .val (.int pn), .val (.long (0 : Int64)), .second, .val (.ref ol), .val (.ref op), .val .null, .val (.ref fs)] [(.ref ol)])) rfl (by rw [hml]; rfl) (Steps.refl _) (argsL := []) (rest := []) (lenOf pd_5 rfl) rfl (by show 2 * 0 + _ ≤ _; exact Nat.le_of_eq rfl) (hb hby d16_26) (fun _ _ => ⟨rfl, e40, (by decide : 0 + 0 ≤ _), (by decide : 0 + 0 ≤ _)⟩)
    dsimp only [Pt.U, Pt.locs, Pt.cells, Pt.slots] at X42 l42 y42 z42 st42 hQ42
    subst l42 y42 z42
    obtain ⟨rfl, Nq42, eq42⟩ := hQ42
    have N42 := Fr.app N0 Nq42
    have r42 : own_R p e below _ _ T42 (mkF m 29 #[.val (.ref a), .val (.ref kd), .val (.int pn), .val (.long (0 : Int64)), .second, .val (.ref ol), .val (.ref op), .val .null, .val (.ref fs)] [(.int (0 : Int32))]) := r41.trans fun z_ kt => st42.trans kt
    have e42 : T42.heap = h0 := eq42
    have r43 : own_R p e below _ _ T42 (mkF m 62 #[.val (.ref a), .val (.ref kd), .val (.int pn), .val (.long (0 : Int64)), .second, .val (.ref ol), .val (.ref op), .val .null, .val (.ref fs)] [(.ref kd), (.ref a)]) := r42.trans fun z_ kt => by
      refine XS.ifYes X42.here hx rfl (pc0 := 29) (pc' := 60) rfl (hb hby d16_29) rfl ((if0 _ _).trans (teq (by decide : (0 : Int32) = (0 : Int32))).1) (by decide) (by decide) ?_
      refine XS.aloadN X42.here hx rfl (hb hby d16_60) rfl rfl ?_
      refine XS.aloadN X42.here hx rfl (hb hby d16_61) rfl rfl ?_
      exact kt
    obtain ⟨T44, h44, X44, e44, W44, st44⟩ := putF X42 hx hZ hown (host := "") (Or.inl (hw _ (own_g (i := 128) rfl))) Via.refl e42 F_a_kind E_a (Or.inr ⟨(hw _ (own_g (i := 129) rfl)), rfl, hnm⟩) (hw _ (own_g (i := 114) rfl)) (ty := (.object "com/example/wildebeest/wildebeest/core/EventKind")) (v := (.ref kd)) (by decide) rfl rfl (g := (mkF m 62 #[.val (.ref a), .val (.ref kd), .val (.int pn), .val (.long (0 : Int64)), .second, .val (.ref ol), .val (.ref op), .val .null, .val (.ref fs)] [(.ref kd), (.ref a)])) rfl rfl (hb hby d16_62)
    have r44 : own_R p e below _ _ T44 (mkF m 65 #[.val (.ref a), .val (.ref kd), .val (.int pn), .val (.long (0 : Int64)), .second, .val (.ref ol), .val (.ref op), .val .null, .val (.ref fs)] []) := r43.trans fun z_ kt => st44 _ kt
    have N44 := Fr.snoc X44 N42 g_a
    have O44 := O0.wr W44 g_a
    have K44 := K0.wr W44 (Or.inl (List.mem_of_getElem? (i := 0) rfl))
    have F44 := F_a_kind.same W44
    have f45 := (F_a_node.other W44 (Or.inr (slot_ne (Or.inr (hw _ (own_g (i := 131) rfl))) (Or.inr (hw _ (own_g (i := 129) rfl))) (by decide) (t := .int) (t' := (.object "com/example/wildebeest/wildebeest/core/EventKind")) (by decide) (by decide))))
    have f46 := (E_a.wr W44)
    have r47 : own_R p e below _ _ T44 (mkF m 67 #[.val (.ref a), .val (.ref kd), .val (.int pn), .val (.long (0 : Int64)), .second, .val (.ref ol), .val (.ref op), .val .null, .val (.ref fs)] [(.int pn), (.ref a)]) := r44.trans fun z_ kt => by
      refine XS.aloadN X44.here hx rfl (hb hby d16_65) rfl rfl ?_
      refine XS.iloadN X44.here hx rfl (hb hby d16_66) rfl ?_
      exact kt
    obtain ⟨T48, h48, X48, e48, W48, st48⟩ := putF X44 hx hZ hown (host := "") (Or.inl (hw _ (own_g (i := 130) rfl))) Via.refl e44 f45 f46 (Or.inr ⟨(hw _ (own_g (i := 131) rfl)), rfl, hnm⟩) (hw _ (own_g (i := 114) rfl)) (ty := .int) (v := (.int pn)) (by decide) rfl rfl (g := (mkF m 67 #[.val (.ref a), .val (.ref kd), .val (.int pn), .val (.long (0 : Int64)), .second, .val (.ref ol), .val (.ref op), .val .null, .val (.ref fs)] [(.int pn), (.ref a)])) rfl rfl (hb hby d16_67)
    have r48 : own_R p e below _ _ T48 (mkF m 70 #[.val (.ref a), .val (.ref kd), .val (.int pn), .val (.long (0 : Int64)), .second, .val (.ref ol), .val (.ref op), .val .null, .val (.ref fs)] []) := r47.trans fun z_ kt => st48 _ kt
    have N48 := Fr.snoc X48 N44 g_a
    have O48 := O44.wr W48 g_a
    have K48 := K44.wr W48 (Or.inl (List.mem_of_getElem? (i := 0) rfl))
    have F48 := f45.same W48
    have f49 := ((F_a_time.other W44 (Or.inr (slot_ne (Or.inr (hw _ (own_g (i := 133) rfl))) (Or.inr (hw _ (own_g (i := 129) rfl))) (by decide) (t := .long) (t' := (.object "com/example/wildebeest/wildebeest/core/EventKind")) (by decide) (by decide)))).other W48 (Or.inr (slot_ne (Or.inr (hw _ (own_g (i := 133) rfl))) (Or.inr (hw _ (own_g (i := 131) rfl))) (by decide) (t := .long) (t' := .int) (by decide) (by decide))))
    have f50 := (f46.wr W48)
    have r51 : own_R p e below _ _ T48 (mkF m 72 #[.val (.ref a), .val (.ref kd), .val (.int pn), .val (.long (0 : Int64)), .second, .val (.ref ol), .val (.ref op), .val .null, .val (.ref fs)] [(.long (0 : Int64)), (.ref a)]) := r48.trans fun z_ kt => by
      refine XS.aloadN X48.here hx rfl (hb hby d16_70) rfl rfl ?_
      refine XS.lloadN X48.here hx rfl (hb hby d16_71) rfl ?_
      exact kt
    obtain ⟨T52, h52, X52, e52, W52, st52⟩ := putF X48 hx hZ hown (host := "") (Or.inl (hw _ (own_g (i := 132) rfl))) Via.refl e48 f49 f50 (Or.inr ⟨(hw _ (own_g (i := 133) rfl)), rfl, hnm⟩) (hw _ (own_g (i := 114) rfl)) (ty := .long) (v := (.long (0 : Int64))) (by decide) rfl rfl (g := (mkF m 72 #[.val (.ref a), .val (.ref kd), .val (.int pn), .val (.long (0 : Int64)), .second, .val (.ref ol), .val (.ref op), .val .null, .val (.ref fs)] [(.long (0 : Int64)), (.ref a)])) rfl rfl (hb hby d16_72)
    have r52 : own_R p e below _ _ T52 (mkF m 75 #[.val (.ref a), .val (.ref kd), .val (.int pn), .val (.long (0 : Int64)), .second, .val (.ref ol), .val (.ref op), .val .null, .val (.ref fs)] []) := r51.trans fun z_ kt => st52 _ kt
    have N52 := Fr.snoc X52 N48 g_a
    have O52 := O48.wr W52 g_a
    have K52 := K48.wr W52 (Or.inl (List.mem_of_getElem? (i := 0) rfl))
    have F52 := f49.same W52
    have r53 : own_R p e below _ _ T52 (mkF m 81 #[.val (.ref a), .val (.ref kd), .val (.int pn), .val (.long (0 : Int64)), .second, .val (.ref ol), .val (.ref op), .val .null, .val (.ref fs)] [(.long (-1 : Int64)), (.ref ol), (.ref a)]) := r52.trans fun z_ kt => by
      refine XS.aloadN X52.here hx rfl (hb hby d16_75) rfl rfl ?_
      refine XS.aload X52.here hx rfl (hb hby d16_76) rfl rfl ?_
      refine X52.ldc2Long hx hown (mvT hZ (hw _ (own_g (i := 134) rfl))) (g := (mkF m 78 #[.val (.ref a), .val (.ref kd), .val (.int pn), .val (.long (0 : Int64)), .second, .val (.ref ol), .val (.ref op), .val .null, .val (.ref fs)] [(.ref ol), (.ref a)])) rfl (hb hby d16_78) _ ?_
      exact kt
    obtain ⟨cq54, kq54, q54a, q54b, q54c⟩ := isOf hZ e52 (OE_ol.ext O52.2)
    obtain ⟨_, _, ⟨T54, L54, cc54, n54⟩, -, X54, ⟨Lc54, hQ54, l54, y54, z54⟩, st54⟩ := X52.virtualBack hx (y := (⟨"java/util/OptionalLong", "orElse", "(J)J"⟩ : MethodName)) (z := (⟨"java/util/OptionalLong", "orElse", "(J)J"⟩ : MethodName)) hown (mvT hZ (hw _ (own_g (i := 135) rfl))) (mvT hZ (hw _ (own_g (i := 136) rfl))) (notFace_of_selects (args := #[]) (mvT hZ (hw _ (own_g (i := 138) rfl)))) (mvT hZ (hw _ (own_g (i := 138) rfl))) (mvT hZ (hw _ (own_g (i := 137) rfl))) (by decide) (backOf (W := 1) (rm_olOrElse l Z a0 hw [] (ol) ((-1 : Int64)) h52 n0 O52 ((OF_ol_isPresent.ext O52.2))) hZ (hw _ (own_g (i := 139) rfl)) (hw _ (own_g (i := 80) rfl)) (by decide) (by decide)) q54a q54c (g := (mkF m 81 #[.val (.ref a), .val (.ref kd), .val (.int pn), .val (.long (0 : Int64)), .second, .val (.ref ol), .val (.ref op), .val .null, .val (.ref fs)] [(.long (-1 : Int64)), (.ref ol), (.ref a)])) rfl (by rw [hml]; rfl) (Steps.refl _) (argsL := [(.long (-1 : Int64))]) (rest := [(.ref a)]) (lenOf pd_6 rfl) rfl (by show 2 * 0 + _ ≤ _; exact Nat.le_of_eq rfl) (hb hby d16_81) (fun _ _ => ⟨rfl, e52, (by decide : 0 + 0 ≤ _), (by decide : 0 + 0 ≤ _)⟩)
    dsimp only [Pt.U, Pt.locs, Pt.cells, Pt.slots] at X54 l54 y54 z54 st54 hQ54
    subst l54 y54 z54
    obtain ⟨rfl, Nq54, eq54⟩ := hQ54
    have N54 := Fr.app N52 Nq54
    have r54 : own_R p e below _ _ T54 (mkF m 84 #[.val (.ref a), .val (.ref kd), .val (.int pn), .val (.long (0 : Int64)), .second, .val (.ref ol), .val (.ref op), .val .null, .val (.ref fs)] [(.long (-1 : Int64)), (.ref a)]) := r53.trans fun z_ kt => st54.trans kt
    have e54 : T54.heap = h52 := eq54
    have f55 := (((F_a_lamport.other W44 (Or.inr (slot_ne (Or.inr (hw _ (own_g (i := 141) rfl))) (Or.inr (hw _ (own_g (i := 129) rfl))) (by decide) (t := .long) (t' := (.object "com/example/wildebeest/wildebeest/core/EventKind")) (by decide) (by decide)))).other W48 (Or.inr (slot_ne (Or.inr (hw _ (own_g (i := 141) rfl))) (Or.inr (hw _ (own_g (i := 131) rfl))) (by decide) (t := .long) (t' := .int) (by decide) (by decide)))).other W52 (Or.inr (slot_ne (Or.inr (hw _ (own_g (i := 141) rfl))) (Or.inr (hw _ (own_g (i := 133) rfl))) (by decide) (t := .long) (t' := .long) (by decide) (by decide))))
    have f56 := (f50.wr W52)
    obtain ⟨T57, h57, X57, e57, W57, st57⟩ := putF X54 hx hZ hown (host := "") (Or.inl (hw _ (own_g (i := 140) rfl))) Via.refl e54 f55 f56 (Or.inr ⟨(hw _ (own_g (i := 141) rfl)), rfl, hnm⟩) (hw _ (own_g (i := 114) rfl)) (ty := .long) (v := (.long (-1 : Int64))) (by decide) rfl rfl (g := (mkF m 84 #[.val (.ref a), .val (.ref kd), .val (.int pn), .val (.long (0 : Int64)), .second, .val (.ref ol), .val (.ref op), .val .null, .val (.ref fs)] [(.long (-1 : Int64)), (.ref a)])) rfl rfl (hb hby d16_84)
    have r57 : own_R p e below _ _ T57 (mkF m 87 #[.val (.ref a), .val (.ref kd), .val (.int pn), .val (.long (0 : Int64)), .second, .val (.ref ol), .val (.ref op), .val .null, .val (.ref fs)] []) := r54.trans fun z_ kt => st57 _ kt
    have N57 := Fr.snoc X57 N54 g_a
    have O57 := O52.wr W57 g_a
    have K57 := K52.wr W57 (Or.inl (List.mem_of_getElem? (i := 0) rfl))
    have F57 := f55.same W57
    have f58 := ((((E_op.wr W44).wr W48).wr W52).wr W57)
    have r59 : own_R p e below _ _ T57 (mkF m 91 #[.val (.ref a), .val (.ref kd), .val (.int pn), .val (.long (0 : Int64)), .second, .val (.ref ol), .val (.ref op), .val .null, .val (.ref fs)] [.null, (.ref op), (.ref a)]) := r57.trans fun z_ kt => by
      refine XS.aloadN X57.here hx rfl (hb hby d16_87) rfl rfl ?_
      refine XS.aload X57.here hx rfl (hb hby d16_88) rfl rfl ?_
      refine XS.aconstNull X57.here hx rfl (hb hby d16_90) ?_
      exact kt
    have f60 := ((((F_op_value.other W44 (Or.inl (Ne.symm ne_a_op))).other W48 (Or.inl (Ne.symm ne_a_op))).other W52 (Or.inl (Ne.symm ne_a_op))).other W57 (Or.inl (Ne.symm ne_a_op)))
    obtain ⟨cq61, kq61, q61a, q61b, q61c⟩ := isOf hZ e57 f58
    obtain ⟨_, _, ⟨T61, L61, cc61, n61⟩, -, X61, ⟨Lc61, hQ61, l61, y61, z61⟩, st61⟩ := X57.virtualBack hx (y := (⟨"java/util/Optional", "orElse", "(Ljava/lang/Object;)Ljava/lang/Object;"⟩ : MethodName)) (z := (⟨"java/util/Optional", "orElse", "(Ljava/lang/Object;)Ljava/lang/Object;"⟩ : MethodName)) hown (mvT hZ (hw _ (own_g (i := 142) rfl))) (mvT hZ (hw _ (own_g (i := 143) rfl))) (notFace_of_selects (args := #[]) (mvT hZ (hw _ (own_g (i := 145) rfl)))) (mvT hZ (hw _ (own_g (i := 145) rfl))) (mvT hZ (hw _ (own_g (i := 144) rfl))) (by decide) (backOf (W := 1) (rm_opOrElseR l Z a0 hw [] (op) (v) h57 n0 O57 (f60)) hZ (hw _ (own_g (i := 146) rfl)) (hw _ (own_g (i := 75) rfl)) (by decide) (by decide)) q61a q61c (g := (mkF m 91 #[.val (.ref a), .val (.ref kd), .val (.int pn), .val (.long (0 : Int64)), .second, .val (.ref ol), .val (.ref op), .val .null, .val (.ref fs)] [.null, (.ref op), (.ref a)])) rfl (by rw [hml]; rfl) (Steps.refl _) (argsL := [.null]) (rest := [(.ref a)]) (lenOf pd_3 rfl) rfl (by show 2 * 0 + _ ≤ _; exact Nat.le_of_eq rfl) (hb hby d16_91) (fun _ _ => ⟨rfl, e57, (by decide : 0 + 0 ≤ _), (by decide : 0 + 0 ≤ _)⟩)
    dsimp only [Pt.U, Pt.locs, Pt.cells, Pt.slots] at X61 l61 y61 z61 st61 hQ61
    subst l61 y61 z61
    obtain ⟨rfl, Nq61, eq61⟩ := hQ61
    have N61 := Fr.app N57 Nq61
    have r61 : own_R p e below _ _ T61 (mkF m 94 #[.val (.ref a), .val (.ref kd), .val (.int pn), .val (.long (0 : Int64)), .second, .val (.ref ol), .val (.ref op), .val .null, .val (.ref fs)] [(.ref v), (.ref a)]) := r59.trans fun z_ kt => st61.trans kt
    have e61 : T61.heap = h57 := eq61
    have f62 := ((((Ev.wr W44).wr W48).wr W52).wr W57)
    obtain ⟨T63, X63, e63, st63⟩ := castY X61 hx hZ hown (hw _ (own_g (i := 209) rfl)) e61 (Ins.self f62) (g := (mkF m 94 #[.val (.ref a), .val (.ref kd), .val (.int pn), .val (.long (0 : Int64)), .second, .val (.ref ol), .val (.ref op), .val .null, .val (.ref fs)] [(.ref v), (.ref a)])) rfl rfl (hb hby d16_94)
    have r63 : own_R p e below _ _ T63 (mkF m 97 #[.val (.ref a), .val (.ref kd), .val (.int pn), .val (.long (0 : Int64)), .second, .val (.ref ol), .val (.ref op), .val .null, .val (.ref fs)] [(.ref v), (.ref a)]) := r61.trans fun z_ kt => st63 _ kt
    have f64 := ((((F_a_vector.other W44 (Or.inr (slot_ne (Or.inr (hw _ (own_g (i := 150) rfl))) (Or.inr (hw _ (own_g (i := 129) rfl))) (by decide) (t := (.object "com/example/wildebeest/wildebeest/core/VectorTime")) (t' := (.object "com/example/wildebeest/wildebeest/core/EventKind")) (by decide) (by decide)))).other W48 (Or.inr (slot_ne (Or.inr (hw _ (own_g (i := 150) rfl))) (Or.inr (hw _ (own_g (i := 131) rfl))) (by decide) (t := (.object "com/example/wildebeest/wildebeest/core/VectorTime")) (t' := .int) (by decide) (by decide)))).other W52 (Or.inr (slot_ne (Or.inr (hw _ (own_g (i := 150) rfl))) (Or.inr (hw _ (own_g (i := 133) rfl))) (by decide) (t := (.object "com/example/wildebeest/wildebeest/core/VectorTime")) (t' := .long) (by decide) (by decide)))).other W57 (Or.inr (slot_ne (Or.inr (hw _ (own_g (i := 150) rfl))) (Or.inr (hw _ (own_g (i := 141) rfl))) (by decide) (t := (.object "com/example/wildebeest/wildebeest/core/VectorTime")) (t' := .long) (by decide) (by decide))))
    have f65 := (f56.wr W57)
    obtain ⟨T66, h66, X66, e66, W66, st66⟩ := putF X63 hx hZ hown (host := "") (Or.inl (hw _ (own_g (i := 149) rfl))) Via.refl e63 f64 f65 (Or.inr ⟨(hw _ (own_g (i := 150) rfl)), rfl, hnm⟩) (hw _ (own_g (i := 114) rfl)) (ty := (.object "com/example/wildebeest/wildebeest/core/VectorTime")) (v := (.ref v)) (by decide) rfl rfl (g := (mkF m 97 #[.val (.ref a), .val (.ref kd), .val (.int pn), .val (.long (0 : Int64)), .second, .val (.ref ol), .val (.ref op), .val .null, .val (.ref fs)] [(.ref v), (.ref a)])) rfl rfl (hb hby d16_97)
    have r66 : own_R p e below _ _ T66 (mkF m 100 #[.val (.ref a), .val (.ref kd), .val (.int pn), .val (.long (0 : Int64)), .second, .val (.ref ol), .val (.ref op), .val .null, .val (.ref fs)] []) := r63.trans fun z_ kt => st66 _ kt
    have N66 := Fr.snoc X66 N61 g_a
    have O66 := O57.wr W66 g_a
    have K66 := K57.wr W66 (Or.inl (List.mem_of_getElem? (i := 0) rfl))
    have F66 := f64.same W66
    have f67 := (((((F_a_message.other W44 (Or.inr (slot_ne (Or.inr (hw _ (own_g (i := 152) rfl))) (Or.inr (hw _ (own_g (i := 129) rfl))) (by decide) (t := (.object "com/example/wildebeest/wildebeest/core/Message")) (t' := (.object "com/example/wildebeest/wildebeest/core/EventKind")) (by decide) (by decide)))).other W48 (Or.inr (slot_ne (Or.inr (hw _ (own_g (i := 152) rfl))) (Or.inr (hw _ (own_g (i := 131) rfl))) (by decide) (t := (.object "com/example/wildebeest/wildebeest/core/Message")) (t' := .int) (by decide) (by decide)))).other W52 (Or.inr (slot_ne (Or.inr (hw _ (own_g (i := 152) rfl))) (Or.inr (hw _ (own_g (i := 133) rfl))) (by decide) (t := (.object "com/example/wildebeest/wildebeest/core/Message")) (t' := .long) (by decide) (by decide)))).other W57 (Or.inr (slot_ne (Or.inr (hw _ (own_g (i := 152) rfl))) (Or.inr (hw _ (own_g (i := 141) rfl))) (by decide) (t := (.object "com/example/wildebeest/wildebeest/core/Message")) (t' := .long) (by decide) (by decide)))).other W66 (Or.inr (slot_ne (Or.inr (hw _ (own_g (i := 152) rfl))) (Or.inr (hw _ (own_g (i := 150) rfl))) (by decide) (t := (.object "com/example/wildebeest/wildebeest/core/Message")) (t' := (.object "com/example/wildebeest/wildebeest/core/VectorTime")) (by decide) (by decide))))
    have f68 := (f65.wr W66)
    have r69 : own_R p e below _ _ T66 (mkF m 103 #[.val (.ref a), .val (.ref kd), .val (.int pn), .val (.long (0 : Int64)), .second, .val (.ref ol), .val (.ref op), .val .null, .val (.ref fs)] [.null, (.ref a)]) := r66.trans fun z_ kt => by
      refine XS.aloadN X66.here hx rfl (hb hby d16_100) rfl rfl ?_
      refine XS.aload X66.here hx rfl (hb hby d16_101) rfl rfl ?_
      exact kt
    obtain ⟨T70, h70, X70, e70, W70, st70⟩ := putF X66 hx hZ hown (host := "") (Or.inl (hw _ (own_g (i := 151) rfl))) Via.refl e66 f67 f68 (Or.inr ⟨(hw _ (own_g (i := 152) rfl)), rfl, hnm⟩) (hw _ (own_g (i := 114) rfl)) (ty := (.object "com/example/wildebeest/wildebeest/core/Message")) (v := .null) (by decide) rfl rfl (g := (mkF m 103 #[.val (.ref a), .val (.ref kd), .val (.int pn), .val (.long (0 : Int64)), .second, .val (.ref ol), .val (.ref op), .val .null, .val (.ref fs)] [.null, (.ref a)])) rfl rfl (hb hby d16_103)
    have r70 : own_R p e below _ _ T70 (mkF m 106 #[.val (.ref a), .val (.ref kd), .val (.int pn), .val (.long (0 : Int64)), .second, .val (.ref ol), .val (.ref op), .val .null, .val (.ref fs)] []) := r69.trans fun z_ kt => st70 _ kt
    have N70 := Fr.snoc X70 N66 g_a
    have O70 := O66.wr W70 g_a
    have K70 := K66.wr W70 (Or.inl (List.mem_of_getElem? (i := 0) rfl))
    have F70 := f67.same W70
    have f71 := ((((((F_a_fields.other W44 (Or.inr (slot_ne (Or.inr (hw _ (own_g (i := 154) rfl))) (Or.inr (hw _ (own_g (i := 129) rfl))) (by decide) (t := (.array .long)) (t' := (.object "com/example/wildebeest/wildebeest/core/EventKind")) (by decide) (by decide)))).other W48 (Or.inr (slot_ne (Or.inr (hw _ (own_g (i := 154) rfl))) (Or.inr (hw _ (own_g (i := 131) rfl))) (by decide) (t := (.array .long)) (t' := .int) (by decide) (by decide)))).other W52 (Or.inr (slot_ne (Or.inr (hw _ (own_g (i := 154) rfl))) (Or.inr (hw _ (own_g (i := 133) rfl))) (by decide) (t := (.array .long)) (t' := .long) (by decide) (by decide)))).other W57 (Or.inr (slot_ne (Or.inr (hw _ (own_g (i := 154) rfl))) (Or.inr (hw _ (own_g (i := 141) rfl))) (by decide) (t := (.array .long)) (t' := .long) (by decide) (by decide)))).other W66 (Or.inr (slot_ne (Or.inr (hw _ (own_g (i := 154) rfl))) (Or.inr (hw _ (own_g (i := 150) rfl))) (by decide) (t := (.array .long)) (t' := (.object "com/example/wildebeest/wildebeest/core/VectorTime")) (by decide) (by decide)))).other W70 (Or.inr (slot_ne (Or.inr (hw _ (own_g (i := 154) rfl))) (Or.inr (hw _ (own_g (i := 152) rfl))) (by decide) (t := (.array .long)) (t' := (.object "com/example/wildebeest/wildebeest/core/Message")) (by decide) (by decide))))
    have f72 := (f68.wr W70)
    have r73 : own_R p e below _ _ T70 (mkF m 109 #[.val (.ref a), .val (.ref kd), .val (.int pn), .val (.long (0 : Int64)), .second, .val (.ref ol), .val (.ref op), .val .null, .val (.ref fs)] [(.ref fs), (.ref a)]) := r70.trans fun z_ kt => by
      refine XS.aloadN X70.here hx rfl (hb hby d16_106) rfl rfl ?_
      refine XS.aload X70.here hx rfl (hb hby d16_107) rfl rfl ?_
      exact kt
    obtain ⟨T74, h74, X74, e74, W74, st74⟩ := putF X70 hx hZ hown (host := "") (Or.inl (hw _ (own_g (i := 153) rfl))) Via.refl e70 f71 f72 (Or.inr ⟨(hw _ (own_g (i := 154) rfl)), rfl, hnm⟩) (hw _ (own_g (i := 114) rfl)) (ty := (.array .long)) (v := (.ref fs)) (by decide) rfl rfl (g := (mkF m 109 #[.val (.ref a), .val (.ref kd), .val (.int pn), .val (.long (0 : Int64)), .second, .val (.ref ol), .val (.ref op), .val .null, .val (.ref fs)] [(.ref fs), (.ref a)])) rfl rfl (hb hby d16_109)
    have r74 : own_R p e below _ _ T74 (mkF m 112 #[.val (.ref a), .val (.ref kd), .val (.int pn), .val (.long (0 : Int64)), .second, .val (.ref ol), .val (.ref op), .val .null, .val (.ref fs)] []) := r73.trans fun z_ kt => st74 _ kt
    have N74 := Fr.snoc X74 N70 g_a
    have O74 := O70.wr W74 g_a
    have K74 := K70.wr W74 (Or.inl (List.mem_of_getElem? (i := 0) rfl))
    have F74 := f71.same W74
    have f75 := ((F66.other W70 (Or.inr (slot_ne (Or.inr (hw _ (own_g (i := 150) rfl))) (Or.inr (hw _ (own_g (i := 152) rfl))) (by decide) (t := (.object "com/example/wildebeest/wildebeest/core/VectorTime")) (t' := (.object "com/example/wildebeest/wildebeest/core/Message")) (by decide) (by decide)))).other W74 (Or.inr (slot_ne (Or.inr (hw _ (own_g (i := 150) rfl))) (Or.inr (hw _ (own_g (i := 154) rfl))) (by decide) (t := (.object "com/example/wildebeest/wildebeest/core/VectorTime")) (t' := (.array .long)) (by decide) (by decide))))
    have f76 := ((((((F44.other W48 (Or.inr (slot_ne (Or.inr (hw _ (own_g (i := 129) rfl))) (Or.inr (hw _ (own_g (i := 131) rfl))) (by decide) (t := (.object "com/example/wildebeest/wildebeest/core/EventKind")) (t' := .int) (by decide) (by decide)))).other W52 (Or.inr (slot_ne (Or.inr (hw _ (own_g (i := 129) rfl))) (Or.inr (hw _ (own_g (i := 133) rfl))) (by decide) (t := (.object "com/example/wildebeest/wildebeest/core/EventKind")) (t' := .long) (by decide) (by decide)))).other W57 (Or.inr (slot_ne (Or.inr (hw _ (own_g (i := 129) rfl))) (Or.inr (hw _ (own_g (i := 141) rfl))) (by decide) (t := (.object "com/example/wildebeest/wildebeest/core/EventKind")) (t' := .long) (by decide) (by decide)))).other W66 (Or.inr (slot_ne (Or.inr (hw _ (own_g (i := 129) rfl))) (Or.inr (hw _ (own_g (i := 150) rfl))) (by decide) (t := (.object "com/example/wildebeest/wildebeest/core/EventKind")) (t' := (.object "com/example/wildebeest/wildebeest/core/VectorTime")) (by decide) (by decide)))).other W70 (Or.inr (slot_ne (Or.inr (hw _ (own_g (i := 129) rfl))) (Or.inr (hw _ (own_g (i := 152) rfl))) (by decide) (t := (.object "com/example/wildebeest/wildebeest/core/EventKind")) (t' := (.object "com/example/wildebeest/wildebeest/core/Message")) (by decide) (by decide)))).other W74 (Or.inr (slot_ne (Or.inr (hw _ (own_g (i := 129) rfl))) (Or.inr (hw _ (own_g (i := 154) rfl))) (by decide) (t := (.object "com/example/wildebeest/wildebeest/core/EventKind")) (t' := (.array .long)) (by decide) (by decide))))
    have f77 := (((((F48.other W52 (Or.inr (slot_ne (Or.inr (hw _ (own_g (i := 131) rfl))) (Or.inr (hw _ (own_g (i := 133) rfl))) (by decide) (t := .int) (t' := .long) (by decide) (by decide)))).other W57 (Or.inr (slot_ne (Or.inr (hw _ (own_g (i := 131) rfl))) (Or.inr (hw _ (own_g (i := 141) rfl))) (by decide) (t := .int) (t' := .long) (by decide) (by decide)))).other W66 (Or.inr (slot_ne (Or.inr (hw _ (own_g (i := 131) rfl))) (Or.inr (hw _ (own_g (i := 150) rfl))) (by decide) (t := .int) (t' := (.object "com/example/wildebeest/wildebeest/core/VectorTime")) (by decide) (by decide)))).other W70 (Or.inr (slot_ne (Or.inr (hw _ (own_g (i := 131) rfl))) (Or.inr (hw _ (own_g (i := 152) rfl))) (by decide) (t := .int) (t' := (.object "com/example/wildebeest/wildebeest/core/Message")) (by decide) (by decide)))).other W74 (Or.inr (slot_ne (Or.inr (hw _ (own_g (i := 131) rfl))) (Or.inr (hw _ (own_g (i := 154) rfl))) (by decide) (t := .int) (t' := (.array .long)) (by decide) (by decide))))
    obtain ⟨fs_, hr_, hrun_, hended_, hW_, hsame_⟩ := X74.leave (v := none) (fun _ => rfl)
    refine ⟨_, _, pre0 _ (r74 _ ?_), hrun_, hended_, _, _, rfl, ?_, ⟨_, rfl⟩, hW_, hsame_.mono (by decide) (by decide)⟩
    · exact X74.returnOut hx Bd.returns (hb hby d16_112) hr_
    · show Q_teInit Z a kd pn ol op fs vv v u0 u1 u2 u3 u4 u5 u6 h0 n0 _ T74.heap _
      rw [e74]
      exact ⟨rfl, N74, K74, f76, f77, (by rw [hv]; exact f75)⟩

theorem d12_0 : decode prog_48_method_2_code 0 = .ok (.aload_n 0, 1) := by decide +kernel
theorem d12_1 : decode prog_48_method_2_code 1 = .ok (.invokevirtual 69, 3) := by decide +kernel
theorem d12_4 : decode prog_48_method_2_code 4 = .ok (.ifCond .eq 20, 3) := by decide +kernel
theorem d12_24 : decode prog_48_method_2_code 24 = .ok (.iload_n 1, 1) := by decide +kernel
theorem d12_25 : decode prog_48_method_2_code 25 = .ok (.iconst 1, 1) := by decide +kernel
theorem d12_26 : decode prog_48_method_2_code 26 = .ok (.if_icmp .ge 17, 3) := by decide +kernel
theorem d12_43 : decode prog_48_method_2_code 43 = .ok (.aload 6, 2) := by decide +kernel
theorem d12_45 : decode prog_48_method_2_code 45 = .ok (.arraylength, 1) := by decide +kernel
theorem d12_46 : decode prog_48_method_2_code 46 = .ok (.aload_n 0, 1) := by decide +kernel
theorem d12_47 : decode prog_48_method_2_code 47 = .ok (.invokevirtual 84, 3) := by decide +kernel
theorem pd_7 : parseMethodDescriptor "()Ljava/util/List;" = some ⟨[], some (.object "java/util/List")⟩ := by decide +kernel
theorem d12_50 : decode prog_48_method_2_code 50 = .ok (.invokeinterface 87 1, 5) := by decide +kernel
theorem pd_8 : parseMethodDescriptor "()I" = some ⟨[], some .int⟩ := by decide +kernel
theorem d12_55 : decode prog_48_method_2_code 55 = .ok (.if_icmp .eq 30, 3) := by decide +kernel
theorem d12_85 : decode prog_48_method_2_code 85 = .ok (.iconst 0, 1) := by decide +kernel
theorem d12_86 : decode prog_48_method_2_code 86 = .ok (.istore 7, 2) := by decide +kernel
theorem d12_88 : decode prog_48_method_2_code 88 = .ok (.iload 7, 2) := by decide +kernel
theorem d12_90 : decode prog_48_method_2_code 90 = .ok (.aload 6, 2) := by decide +kernel
theorem d12_92 : decode prog_48_method_2_code 92 = .ok (.arraylength, 1) := by decide +kernel
theorem d12_93 : decode prog_48_method_2_code 93 = .ok (.if_icmp .ge 77, 3) := by decide +kernel
theorem d12_170 : decode prog_48_method_2_code 170 = .ok (.new 28, 3) := by decide +kernel
theorem d12_173 : decode prog_48_method_2_code 173 = .ok (.dup, 1) := by decide +kernel
theorem d12_174 : decode prog_48_method_2_code 174 = .ok (.aload_n 0, 1) := by decide +kernel
theorem d12_175 : decode prog_48_method_2_code 175 = .ok (.iload_n 1, 1) := by decide +kernel
theorem d12_176 : decode prog_48_method_2_code 176 = .ok (.lload_n 2, 1) := by decide +kernel
theorem d12_177 : decode prog_48_method_2_code 177 = .ok (.aload 4, 2) := by decide +kernel
theorem d12_179 : decode prog_48_method_2_code 179 = .ok (.aload 5, 2) := by decide +kernel
theorem d12_181 : decode prog_48_method_2_code 181 = .ok (.aconst_null, 1) := by decide +kernel
theorem d12_182 : decode prog_48_method_2_code 182 = .ok (.aload 6, 2) := by decide +kernel
theorem d12_184 : decode prog_48_method_2_code 184 = .ok (.arraylength, 1) := by decide +kernel
theorem d12_185 : decode prog_48_method_2_code 185 = .ok (.ifCond .ne 9, 3) := by decide +kernel
theorem d12_188 : decode prog_48_method_2_code 188 = .ok (.getstatic 118, 3) := by decide +kernel
theorem d12_191 : decode prog_48_method_2_code 191 = .ok (.goto 11, 3) := by decide +kernel
theorem d12_202 : decode prog_48_method_2_code 202 = .ok (.invokespecial 126, 3) := by decide +kernel
theorem pd_9 : parseMethodDescriptor "(Lcom/example/wildebeest/wildebeest/core/EventKind;IJLjava/util/OptionalLong;Ljava/util/Optional;Lcom/example/wildebeest/wildebeest/core/Message;[J)V" = some ⟨[(.object "com/example/wildebeest/wildebeest/core/EventKind"), .int, .long, (.object "java/util/OptionalLong"), (.object "java/util/Optional"), (.object "com/example/wildebeest/wildebeest/core/Message"), (.array .long)], none⟩ := by decide +kernel
theorem d12_205 : decode prog_48_method_2_code 205 = .ok (.areturn, 1) := by decide +kernel
theorem ef_local (m : MethodId) (kd : Addr) (pn : Int32) (ol : Addr) (op : Addr) (fs : Addr) : entryFrame m #[(.ref kd), (.int pn), (.long (0 : Int64)), (.ref ol), (.ref op), (.ref fs)] 9 = mkF m 0 #[.val (.ref kd), .val (.int pn), .val (.long (0 : Int64)), .second, .val (.ref ol), .val (.ref op), .val (.ref fs), .unset, .unset] [] := by first | (simp [entryFrame, mkF, argsToLocals, Value.category]; done) | rfl
def Q_local (Z : State) (kd : Addr) (pn : Int32) (ol : Addr) (op : Addr) (fs : Addr) (vv : Value) (v : Addr) (kf : ClassId) (fl : Addr) (el : Addr) (kl : ClassId) (s_NF : Addr) (h0 : Heap) (n0 : Nat) (v_ : Option Value) (h_ : Heap) (L_ : List Loc) : Prop := ∃ (t : Addr), v_ = some (.ref t) ∧ Fr n0 L_ ∧ Keep h0 h_ [] ∧ (h0.size ≤ t) ∧ (Exa Z h_ t "com/example/wildebeest/wildebeest/core/TraceEvent") ∧ (Fld Z h_ t "com/example/wildebeest/wildebeest/core/TraceEvent" "kind" "Lcom/example/wildebeest/wildebeest/core/EventKind;" (.ref kd)) ∧ (Fld Z h_ t "com/example/wildebeest/wildebeest/core/TraceEvent" "node" "I" (.int pn)) ∧ (Fld Z h_ t "com/example/wildebeest/wildebeest/core/TraceEvent" "vector" "Lcom/example/wildebeest/wildebeest/core/VectorTime;" vv)
set_option maxRecDepth 65536 in
set_option maxHeartbeats 40000000 in
theorem rm_local (l : Launch) (Z : State) (a0 : Array Value) (hw : ∀ d ∈ tables_1, d.before a0 Z = true) (ws : List Jvm.Cond) (kd : Addr) (pn : Int32) (ol : Addr) (op : Addr) (fs : Addr) (vv : Value) (v : Addr) (kf : ClassId) (fl : Addr) (el : Addr) (kl : ClassId) (s_NF : Addr) (h0 : Heap) (n0 : Nat) (O0 : Old Z n0 h0) (OE_kd : Exa Z Z.heap kd "com/example/wildebeest/wildebeest/core/EventKind") (OF_kd_message : Fld Z Z.heap kd "com/example/wildebeest/wildebeest/core/EventKind" "message" "Z" (.int (0 : Int32))) (OF_kd_fields : Fld Z Z.heap kd "com/example/wildebeest/wildebeest/core/EventKind" "fields" "Ljava/util/List;" (.ref fl)) (OE_fl : Exa Z Z.heap fl "java/util/ImmutableCollections$ListN") (OF_fl_elements : Fld Z Z.heap fl "java/util/ImmutableCollections$ListN" "elements" "[Ljava/lang/Object;" (.ref el)) (OV_el : Arv Z Z.heap el kl (.object "java/lang/Object") (0 : Int32) [] .null) (S_TraceEvent_NO_FIELDS : Sta Z Z.heap "com/example/wildebeest/wildebeest/core/TraceEvent" "NO_FIELDS" "[J" (.ref s_NF)) (OE_ol : Exa Z Z.heap ol "java/util/OptionalLong") (OF_ol_isPresent : Fld Z Z.heap ol "java/util/OptionalLong" "isPresent" "Z" (.int (0 : Int32))) (E_op : Exa Z h0 op "java/util/Optional") (F_op_value : Fld Z h0 op "java/util/Optional" "value" "Ljava/lang/Object;" vv) (hvv : vv = .null ∨ (vv = .ref v ∧ Exa Z h0 v "com/example/wildebeest/wildebeest/core/VectorTime")) (V_fs : Arv Z h0 fs kf .long (0 : Int32) [] (.long (0 : Int64))) (hpn : ¬ (pn < (1 : Int32))) :
    MetFree l (⟨"com/example/wildebeest/wildebeest/core/TraceEvent", "local", "(Lcom/example/wildebeest/wildebeest/core/EventKind;IJLjava/util/OptionalLong;Ljava/util/Optional;[J)Lcom/example/wildebeest/wildebeest/core/TraceEvent;"⟩ : MethodName) (head1 (Jvm.Cond.code (⟨"com/example/wildebeest/wildebeest/core/TraceEvent", "local", "(Lcom/example/wildebeest/wildebeest/core/EventKind;IJLjava/util/OptionalLong;Ljava/util/Optional;[J)Lcom/example/wildebeest/wildebeest/core/TraceEvent;"⟩ : MethodName) prog_48_method_2_code 9 (some (.object "com/example/wildebeest/wildebeest/core/TraceEvent")) :: ws) ({ frames := 2, cells := 1, slots := 7, locals := 36 } : Room)) (fun aa_ U_ => aa_ = #[(.ref kd), (.int pn), (.long (0 : Int64)), (.ref ol), (.ref op), (.ref fs)] ∧ Z.Warmed39 U_.vm ∧ U_.heap = h0) (fun _ _ _ _ _ => True) (fun _ U_ o_ U_' => ∃ v_ L_, o_ = .returned v_ ∧ Q_local Z kd pn ol op fs vv v kf fl el kl s_NF h0 n0 v_ U_'.heap L_ ∧ FrameEnd U_ o_ U_' L_ ({ frames := 2, cells := 1, slots := 7, locals := 36 } : Room).cells ({ frames := 2, cells := 1, slots := 7, locals := 36 } : Room).slots) := by
  refine MetFree.of_bodySF (plainFor_of_name pn_TraceEvent) hisR ?_
  intro p e s m args below meth c s₁ Bd hml0 hP hK
  obtain ⟨rfl, hZ, hh⟩ := hP
  have hx := Bd.exec
  have hby := Bd.bytes
  have hml : c.maxLocals = 9 := hml0
  have hown : s.vm.findClass "com/example/wildebeest/wildebeest/core/TraceEvent" = some m.cls := findClass_of_methodNamed Bd.named
  have hnm := (name_of_methodNamed Bd.named Bd.method).1
  have X0 : Stand p l e ({ frames := 2, cells := 1, slots := 7, locals := 36 } : Room) s m #[(.ref kd), (.int pn), (.long (0 : Int64)), (.ref ol), (.ref op), (.ref fs)] below meth c s₁ [] 0 0 := Stand.of_body Bd
  have e0 : s₁.heap = h0 := by rw [← hh, Bd.state]; rfl
  have N0 := Fr.nil n0
  have K0 : Keep h0 h0 [] := Keep.refl h0 _
  have pre0 : ∀ z_, Steps p.tables e below (s₁.setTop (mkF m 0 #[.val (.ref kd), .val (.int pn), .val (.long (0 : Int64)), .second, .val (.ref ol), .val (.ref op), .val (.ref fs), .unset, .unset] [])) z_ → Steps p.tables e below (s₁.setTop (entryFrame m #[(.ref kd), (.int pn), (.long (0 : Int64)), (.ref ol), (.ref op), (.ref fs)] 9)) z_ := fun z_ k_ => castTop (ef_local m kd pn ol op fs) k_
  have r0 : own_R p e below s₁ (mkF m 0 #[.val (.ref kd), .val (.int pn), .val (.long (0 : Int64)), .second, .val (.ref ol), .val (.ref op), .val (.ref fs), .unset, .unset] []) s₁ (mkF m 0 #[.val (.ref kd), .val (.int pn), .val (.long (0 : Int64)), .second, .val (.ref ol), .val (.ref op), .val (.ref fs), .unset, .unset] []) := own_R.refl
  have ne_op_fs : op ≠ fs := (own_ne_arv E_op (hw _ (own_g (i := 199) rfl)) V_fs)
  have r1 : own_R p e below _ _ s₁ (mkF m 1 #[.val (.ref kd), .val (.int pn), .val (.long (0 : Int64)), .second, .val (.ref ol), .val (.ref op), .val (.ref fs), .unset, .unset] [(.ref kd)]) := r0.trans fun z_ kt => by
    refine XS.aloadN X0.here hx rfl (hb hby d12_0) rfl rfl ?_
    exact kt
  obtain ⟨cq2, kq2, q2a, q2b, q2c⟩ := isOf hZ e0 (OE_kd.ext O0.2)
  obtain ⟨_, _, ⟨T2, L2, cc2, n2⟩, -, X2, ⟨Lc2, hQ2, l2, y2, z2⟩, st2⟩ := X0.virtualBack hx (y := (⟨"com/example/wildebeest/wildebeest/core/EventKind", "isMessage", "()Z"⟩ : MethodName)) (z := (⟨"com/example/wildebeest/wildebeest/core/EventKind", "isMessage", "()Z"⟩ : MethodName)) hown (mvT hZ (hw _ (own_g (i := 87) rfl))) (mvT hZ (hw _ (own_g (i := 88) rfl))) (notFace_of_selects (args := #[]) (mvT hZ (hw _ (own_g (i := 90) rfl)))) (mvT hZ (hw _ (own_g (i := 90) rfl))) (mvT hZ (hw _ (own_g (i := 89) rfl))) (by decide) (backOf (W := 0) (rm_isMsg l Z a0 hw [] (kd) h0 n0 O0 ((OF_kd_message.ext O0.2))) hZ (hw _ (own_g (i := 91) rfl)) (hw _ (own_g (i := 71) rfl)) (by decide) (by decide)) q2a q2c (g := (mkF m 1 #[.val (.ref kd), .val (.int pn), .val (.long (0 : Int64)), .second, .val (.ref ol), .val (.ref op), .val (.ref fs), .unset, .unset] [(.ref kd)])) rfl (by rw [hml]; rfl) (Steps.refl _) (argsL := []) (rest := []) (lenOf pd_5 rfl) rfl (by show 2 * 0 + _ ≤ _; exact Nat.le_of_eq rfl) (hb hby d12_1) (fun _ _ => ⟨rfl, e0, (by decide : 0 + 0 ≤ _), (by decide : 0 + 0 ≤ _)⟩)
  dsimp only [Pt.U, Pt.locs, Pt.cells, Pt.slots] at X2 l2 y2 z2 st2 hQ2
  subst l2 y2 z2
  obtain ⟨rfl, Nq2, eq2⟩ := hQ2
  have N2 := Fr.app N0 Nq2
  have r2 : own_R p e below _ _ T2 (mkF m 4 #[.val (.ref kd), .val (.int pn), .val (.long (0 : Int64)), .second, .val (.ref ol), .val (.ref op), .val (.ref fs), .unset, .unset] [(.int (0 : Int32))]) := r1.trans fun z_ kt => st2.trans kt
  have e2 : T2.heap = h0 := eq2
  have r4 : own_R p e below _ _ T2 (mkF m 45 #[.val (.ref kd), .val (.int pn), .val (.long (0 : Int64)), .second, .val (.ref ol), .val (.ref op), .val (.ref fs), .unset, .unset] [(.ref fs)]) := r2.trans fun z_ kt => by
    refine XS.ifYes X2.here hx rfl (pc0 := 4) (pc' := 24) rfl (hb hby d12_4) rfl ((if0 _ _).trans (teq (by decide : (0 : Int32) = (0 : Int32))).1) (by decide) (by decide) ?_
    refine XS.iloadN X2.here hx rfl (hb hby d12_24) rfl ?_
    refine XS.iconst X2.here hx rfl (hb hby d12_25) ?_
    refine XS.icmpYes X2.here hx rfl (pc0 := 26) (pc' := 43) rfl (hb hby d12_26) rfl (flt (hpn : ¬ (pn < (1 : Int32)))).2.1 (by decide) (by decide) ?_
    refine XS.aload X2.here hx rfl (hb hby d12_43) rfl rfl ?_
    exact kt
  obtain ⟨cl3, Ar3, q3, S3, M3, H3, G3⟩ := id V_fs
  have r5 : own_R p e below _ _ T2 (mkF m 47 #[.val (.ref kd), .val (.int pn), .val (.long (0 : Int64)), .second, .val (.ref ol), .val (.ref op), .val (.ref fs), .unset, .unset] [(.ref kd), (.int (0 : Int32))]) := r4.trans fun z_ kt => by
    refine X2.arraylength hx (by rw [e2]; exact Ar3.1) (State.isArrayOf_alike hZ.alike Ar3.2.1) (g := (mkF m 45 #[.val (.ref kd), .val (.int pn), .val (.long (0 : Int64)), .second, .val (.ref ol), .val (.ref op), .val (.ref fs), .unset, .unset] [(.ref fs)])) rfl rfl (hb hby d12_45) _ ?_
    rw [len_of S3 M3]
    refine XS.aloadN X2.here hx rfl (hb hby d12_46) rfl rfl ?_
    exact kt
  obtain ⟨cq6, kq6, q6a, q6b, q6c⟩ := isOf hZ e2 (OE_kd.ext O0.2)
  obtain ⟨_, _, ⟨T6, L6, cc6, n6⟩, -, X6, ⟨Lc6, hQ6, l6, y6, z6⟩, st6⟩ := X2.virtualBack hx (y := (⟨"com/example/wildebeest/wildebeest/core/EventKind", "fields", "()Ljava/util/List;"⟩ : MethodName)) (z := (⟨"com/example/wildebeest/wildebeest/core/EventKind", "fields", "()Ljava/util/List;"⟩ : MethodName)) hown (mvT hZ (hw _ (own_g (i := 94) rfl))) (mvT hZ (hw _ (own_g (i := 95) rfl))) (notFace_of_selects (args := #[]) (mvT hZ (hw _ (own_g (i := 97) rfl)))) (mvT hZ (hw _ (own_g (i := 97) rfl))) (mvT hZ (hw _ (own_g (i := 96) rfl))) (by decide) (backOf (W := 1) (rm_ekFields l Z a0 hw [] (kd) (fl) h0 n0 O0 ((OF_kd_fields.ext O0.2))) hZ (hw _ (own_g (i := 98) rfl)) (hw _ (own_g (i := 71) rfl)) (by decide) (by decide)) q6a q6c (g := (mkF m 47 #[.val (.ref kd), .val (.int pn), .val (.long (0 : Int64)), .second, .val (.ref ol), .val (.ref op), .val (.ref fs), .unset, .unset] [(.ref kd), (.int (0 : Int32))])) rfl (by rw [hml]; rfl) (Steps.refl _) (argsL := []) (rest := [(.int (0 : Int32))]) (lenOf pd_7 rfl) rfl (by show 2 * 0 + _ ≤ _; exact Nat.le_of_eq rfl) (hb hby d12_47) (fun _ _ => ⟨rfl, e2, (by decide : 0 + 0 ≤ _), (by decide : 0 + 0 ≤ _)⟩)
  dsimp only [Pt.U, Pt.locs, Pt.cells, Pt.slots] at X6 l6 y6 z6 st6 hQ6
  subst l6 y6 z6
  obtain ⟨rfl, Nq6, eq6⟩ := hQ6
  have N6 := Fr.app N2 Nq6
  have r6 : own_R p e below _ _ T6 (mkF m 50 #[.val (.ref kd), .val (.int pn), .val (.long (0 : Int64)), .second, .val (.ref ol), .val (.ref op), .val (.ref fs), .unset, .unset] [(.ref fl), (.int (0 : Int32))]) := r5.trans fun z_ kt => st6.trans kt
  have e6 : T6.heap = h0 := eq6
  obtain ⟨cq7, kq7, q7a, q7b, q7c⟩ := isOf hZ e6 (OE_fl.ext O0.2)
  obtain ⟨_, _, ⟨T7, L7, cc7, n7⟩, -, X7, ⟨Lc7, hQ7, l7, y7, z7⟩, st7⟩ := X6.interfaceBack hx (xi := (⟨"java/util/List", "size", "()I"⟩ : MethodName)) (y := (⟨"java/util/ImmutableCollections$ListN", "size", "()I"⟩ : MethodName)) hown (mvT hZ (hw _ (own_g (i := 101) rfl))) (mvT hZ (hw _ (own_g (i := 102) rfl))) (mvT hZ (hw _ (own_g (i := 103) rfl))) (mvT hZ (hw _ (own_g (i := 104) rfl))) (mvT hZ (hw _ (own_g (i := 105) rfl))) (mvT hZ (hw _ (own_g (i := 106) rfl))) (mvT hZ (hw _ (own_g (i := 107) rfl))) (mvT hZ (hw _ (own_g (i := 108) rfl))) (by decide) (backOf (W := 1) (rm_lnSize l Z a0 hw [] (fl) (el) (kl) ([]) h0 n0 O0 ((OF_fl_elements.ext O0.2)) ((OV_el.ext O0.2))) hZ (hw _ (own_g (i := 110) rfl)) (hw _ (own_g (i := 109) rfl)) (by decide) (by decide)) q7a q7b q7c (g := (mkF m 50 #[.val (.ref kd), .val (.int pn), .val (.long (0 : Int64)), .second, .val (.ref ol), .val (.ref op), .val (.ref fs), .unset, .unset] [(.ref fl), (.int (0 : Int32))])) rfl (by rw [hml]; rfl) (Steps.refl _) (argsL := []) (rest := [(.int (0 : Int32))]) (lenOf pd_8 rfl) rfl (by show 2 * 0 + _ ≤ _; exact Nat.le_of_eq rfl) (hb hby d12_50) (fun _ _ => ⟨rfl, e6, (by decide : 0 + 0 ≤ _), (by decide : 0 + 0 ≤ _)⟩)
  dsimp only [Pt.U, Pt.locs, Pt.cells, Pt.slots] at X7 l7 y7 z7 st7 hQ7
  subst l7 y7 z7
  obtain ⟨rfl, Nq7, eq7⟩ := hQ7
  have N7 := Fr.app N6 Nq7
  have r7 : own_R p e below _ _ T7 (mkF m 55 #[.val (.ref kd), .val (.int pn), .val (.long (0 : Int64)), .second, .val (.ref ol), .val (.ref op), .val (.ref fs), .unset, .unset] [(.int (0 : Int32)), (.int (0 : Int32))]) := r6.trans fun z_ kt => st7.trans kt
  have e7 : T7.heap = h0 := eq7
  have r9 : own_R p e below _ _ T7 (mkF m 92 #[.val (.ref kd), .val (.int pn), .val (.long (0 : Int64)), .second, .val (.ref ol), .val (.ref op), .val (.ref fs), .val (.int (0 : Int32)), .unset] [(.ref fs), (.int (0 : Int32))]) := r7.trans fun z_ kt => by
    refine XS.icmpYes X7.here hx rfl (pc0 := 55) (pc' := 85) rfl (hb hby d12_55) rfl (teq (by decide : (0 : Int32) = (0 : Int32))).1 (by decide) (by decide) ?_
    refine XS.iconst X7.here hx rfl (hb hby d12_85) ?_
    refine XS.istore X7.here hx rfl (hb hby d12_86) rfl (l' := #[.val (.ref kd), .val (.int pn), .val (.long (0 : Int64)), .second, .val (.ref ol), .val (.ref op), .val (.ref fs), .val (.int (0 : Int32)), .unset]) rfl ?_
    refine XS.iload X7.here hx rfl (hb hby d12_88) rfl ?_
    refine XS.aload X7.here hx rfl (hb hby d12_90) rfl rfl ?_
    exact kt
  obtain ⟨cl8, Ar8, q8, S8, M8, H8, G8⟩ := id V_fs
  have r10 : own_R p e below _ _ T7 (mkF m 170 #[.val (.ref kd), .val (.int pn), .val (.long (0 : Int64)), .second, .val (.ref ol), .val (.ref op), .val (.ref fs), .val (.int (0 : Int32)), .unset] []) := r9.trans fun z_ kt => by
    refine X7.arraylength hx (by rw [e7]; exact Ar8.1) (State.isArrayOf_alike hZ.alike Ar8.2.1) (g := (mkF m 92 #[.val (.ref kd), .val (.int pn), .val (.long (0 : Int64)), .second, .val (.ref ol), .val (.ref op), .val (.ref fs), .val (.int (0 : Int32)), .unset] [(.ref fs), (.int (0 : Int32))])) rfl rfl (hb hby d12_92) _ ?_
    rw [len_of S8 M8]
    refine XS.icmpYes X7.here hx rfl (pc0 := 93) (pc' := 170) rfl (hb hby d12_93) rfl (flt (by decide : ¬ ((0 : Int32) < (0 : Int32)))).2.1 (by decide) (by decide) ?_
    exact kt
  obtain ⟨T11, h11, X11, e11, E11, A11, D11, -, st11⟩ := newO X7 hx hZ hown (hw _ (own_g (i := 113) rfl)) (hw _ (own_g (i := 114) rfl)) (hw _ (own_g (i := 85) rfl)) e7 (g := (mkF m 170 #[.val (.ref kd), .val (.int pn), .val (.long (0 : Int64)), .second, .val (.ref ol), .val (.ref op), .val (.ref fs), .val (.int (0 : Int32)), .unset] [])) rfl (hb hby d12_170) (by decide) (by decide)
  obtain ⟨b11, g11⟩ : ∃ z, z = h0.size := ⟨_, rfl⟩
  rw [← g11] at A11 D11 st11
  have r11 : own_R p e below _ _ T11 (mkF m 173 #[.val (.ref kd), .val (.int pn), .val (.long (0 : Int64)), .second, .val (.ref ol), .val (.ref op), .val (.ref fs), .val (.int (0 : Int32)), .unset] [(.ref b11)]) := r10.trans fun z_ kt => st11 _ kt
  have ne_op_b11 : op ≠ b11 := Nat.ne_of_lt (Nat.lt_of_lt_of_le E_op.lt (Nat.le_of_eq g11.symm))
  have ne_fs_b11 : fs ≠ b11 := Nat.ne_of_lt (Nat.lt_of_lt_of_le V_fs.lt (Nat.le_of_eq g11.symm))
  have g_b11 : n0 ≤ b11 := Nat.le_trans (own_old_size O0) (Nat.le_of_eq g11.symm)
  have sz_b11 : h0.size ≤ b11 := Nat.le_trans K0.1 (Nat.le_of_eq g11.symm)
  have O11 := O0.ext E11
  have K11 := K0.ext E11
  have F11_129 := D11 (Or.inr (hw _ (own_g (i := 129) rfl))) (ty := (.object "com/example/wildebeest/wildebeest/core/EventKind")) (by decide)
  have F11_131 := D11 (Or.inr (hw _ (own_g (i := 131) rfl))) (ty := .int) (by decide)
  have F11_133 := D11 (Or.inr (hw _ (own_g (i := 133) rfl))) (ty := .long) (by decide)
  have F11_141 := D11 (Or.inr (hw _ (own_g (i := 141) rfl))) (ty := .long) (by decide)
  have F11_150 := D11 (Or.inr (hw _ (own_g (i := 150) rfl))) (ty := (.object "com/example/wildebeest/wildebeest/core/VectorTime")) (by decide)
  have F11_152 := D11 (Or.inr (hw _ (own_g (i := 152) rfl))) (ty := (.object "com/example/wildebeest/wildebeest/core/Message")) (by decide)
  have F11_154 := D11 (Or.inr (hw _ (own_g (i := 154) rfl))) (ty := (.array .long)) (by decide)
  have f12 := (V_fs.ext E11)
  have r14 : own_R p e below _ _ T11 (mkF m 184 #[.val (.ref kd), .val (.int pn), .val (.long (0 : Int64)), .second, .val (.ref ol), .val (.ref op), .val (.ref fs), .val (.int (0 : Int32)), .unset] [(.ref fs), .null, (.ref op), (.ref ol), (.long (0 : Int64)), (.int pn), (.ref kd), (.ref b11), (.ref b11)]) := r11.trans fun z_ kt => by
    refine XS.dup X11.here hx rfl (hb hby d12_173) rfl rfl ?_
    refine XS.aloadN X11.here hx rfl (hb hby d12_174) rfl rfl ?_
    refine XS.iloadN X11.here hx rfl (hb hby d12_175) rfl ?_
    refine XS.lloadN X11.here hx rfl (hb hby d12_176) rfl ?_
    refine XS.aload X11.here hx rfl (hb hby d12_177) rfl rfl ?_
    refine XS.aload X11.here hx rfl (hb hby d12_179) rfl rfl ?_
    refine XS.aconstNull X11.here hx rfl (hb hby d12_181) ?_
    refine XS.aload X11.here hx rfl (hb hby d12_182) rfl rfl ?_
    exact kt
  obtain ⟨cl13, Ar13, q13, S13, M13, H13, G13⟩ := id f12
  have r15 : own_R p e below _ _ T11 (mkF m 188 #[.val (.ref kd), .val (.int pn), .val (.long (0 : Int64)), .second, .val (.ref ol), .val (.ref op), .val (.ref fs), .val (.int (0 : Int32)), .unset] [.null, (.ref op), (.ref ol), (.long (0 : Int64)), (.int pn), (.ref kd), (.ref b11), (.ref b11)]) := r14.trans fun z_ kt => by
    refine X11.arraylength hx (by rw [e11]; exact Ar13.1) (State.isArrayOf_alike hZ.alike Ar13.2.1) (g := (mkF m 184 #[.val (.ref kd), .val (.int pn), .val (.long (0 : Int64)), .second, .val (.ref ol), .val (.ref op), .val (.ref fs), .val (.int (0 : Int32)), .unset] [(.ref fs), .null, (.ref op), (.ref ol), (.long (0 : Int64)), (.int pn), (.ref kd), (.ref b11), (.ref b11)])) rfl rfl (hb hby d12_184) _ ?_
    rw [len_of S13 M13]
    refine XS.ifNo X11.here hx rfl (hb hby d12_185) rfl ((if0 _ _).trans (teq (by decide : (0 : Int32) = (0 : Int32))).2) ?_
    exact kt
  obtain ⟨T16, X16, e16, st16⟩ := getS2 X11 hx hZ hown (host := "") (Or.inl (hw _ (own_g (i := 115) rfl))) Via.refl e11 (S_TraceEvent_NO_FIELDS.ext O11.2) (g := (mkF m 188 #[.val (.ref kd), .val (.int pn), .val (.long (0 : Int64)), .second, .val (.ref ol), .val (.ref op), .val (.ref fs), .val (.int (0 : Int32)), .unset] [.null, (.ref op), (.ref ol), (.long (0 : Int64)), (.int pn), (.ref kd), (.ref b11), (.ref b11)])) rfl (hb hby d12_188)
  have r16 : own_R p e below _ _ T16 (mkF m 191 #[.val (.ref kd), .val (.int pn), .val (.long (0 : Int64)), .second, .val (.ref ol), .val (.ref op), .val (.ref fs), .val (.int (0 : Int32)), .unset] [(.ref s_NF), .null, (.ref op), (.ref ol), (.long (0 : Int64)), (.int pn), (.ref kd), (.ref b11), (.ref b11)]) := r15.trans fun z_ kt => st16 _ kt
  have hvv2 : vv = .null ∨ (vv = .ref v ∧ Exa Z h11 v "com/example/wildebeest/wildebeest/core/VectorTime") := hvv.imp id fun q => ⟨q.1, q.2.ext E11⟩
  have r17 : own_R p e below _ _ T16 (mkF m 202 #[.val (.ref kd), .val (.int pn), .val (.long (0 : Int64)), .second, .val (.ref ol), .val (.ref op), .val (.ref fs), .val (.int (0 : Int32)), .unset] [(.ref s_NF), .null, (.ref op), (.ref ol), (.long (0 : Int64)), (.int pn), (.ref kd), (.ref b11), (.ref b11)]) := r16.trans fun z_ kt => by
    refine XS.goto X16.here hx rfl (pc0 := 191) (pc' := 202) rfl (hb hby d12_191) (by decide) (by decide) ?_
    exact kt
  have f18 := (E_op.ext E11)
  have f19 := (F_op_value.ext E11)
  obtain ⟨_, _, ⟨T20, L20, cc20, n20⟩, -, X20, ⟨Lc20, hQ20, l20, y20, z20⟩, st20⟩ := X16.specialBack hx (y := (⟨"com/example/wildebeest/wildebeest/core/TraceEvent", "<init>", "(Lcom/example/wildebeest/wildebeest/core/EventKind;IJLjava/util/OptionalLong;Ljava/util/Optional;Lcom/example/wildebeest/wildebeest/core/Message;[J)V"⟩ : MethodName)) rfl hown (mvT hZ (hw _ (own_g (i := 117) rfl))) (mvT hZ (hw _ (own_g (i := 118) rfl))) (mvT hZ (hw _ (own_g (i := 119) rfl))) (by decide) (backOf (W := 1) (rm_teInit l Z a0 hw [] (b11) (kd) (pn) (ol) (op) (s_NF) (vv) (v) (.null) ((.int (0 : Int32))) ((.long (0 : Int64))) ((.long (0 : Int64))) (.null) (.null) (.null) h11 n0 O11 (A11) (g_b11) (OE_ol) (OF_ol_isPresent) (f18) (f19) (hvv2) (F11_129) (F11_131) (F11_133) (F11_141) (F11_150) (F11_152) (F11_154)) hZ (hw _ (own_g (i := 119) rfl)) (hw _ (own_g (i := 85) rfl)) (by decide) (by decide)) (g := (mkF m 202 #[.val (.ref kd), .val (.int pn), .val (.long (0 : Int64)), .second, .val (.ref ol), .val (.ref op), .val (.ref fs), .val (.int (0 : Int32)), .unset] [(.ref s_NF), .null, (.ref op), (.ref ol), (.long (0 : Int64)), (.int pn), (.ref kd), (.ref b11), (.ref b11)])) rfl (by rw [hml]; rfl) (Steps.refl _) (a := b11) (argsL := [(.ref kd), (.int pn), (.long (0 : Int64)), (.ref ol), (.ref op), .null, (.ref s_NF)]) (rest := [(.ref b11)]) (lenOf pd_9 rfl) rfl (by show 2 * 0 + _ ≤ _; exact Nat.le_of_eq rfl) (hb hby d12_202) (fun _ _ => ⟨rfl, e16, (by decide : 1 + 0 ≤ _), (by decide : 7 + 0 ≤ _)⟩)
  dsimp only [Pt.U, Pt.locs, Pt.cells, Pt.slots] at X20 l20 y20 z20 st20 hQ20
  subst l20 y20 z20
  obtain ⟨h20, e20⟩ : ∃ z, T20.heap = z := ⟨_, rfl⟩
  rw [e20] at hQ20
  obtain ⟨rfl, Nq20, Kq20, p20_0, p20_1, p20_2⟩ := hQ20
  have N20 := Fr.app N7 Nq20
  have r20 : own_R p e below _ _ T20 (mkF m 205 #[.val (.ref kd), .val (.int pn), .val (.long (0 : Int64)), .second, .val (.ref ol), .val (.ref op), .val (.ref fs), .val (.int (0 : Int32)), .unset] [(.ref b11)]) := r17.trans fun z_ kt => st20.trans kt
  have O20 := O11.keep Kq20 (allS g_b11 all0)
  have K20 := K11.trans Kq20 (allS (Or.inr sz_b11) all0)
  have f21 := (A11.keep Kq20)
  obtain ⟨fs_, hr_, hrun_, hended_, hW_, hsame_⟩ := X20.leave (v := some (.ref b11)) (fun h => by rw [Bd.returns] at h; cases h)
  refine ⟨_, _, pre0 _ (r20 _ ?_), hrun_, hended_, _, _, rfl, ?_, ⟨_, rfl⟩, hW_, hsame_.mono (by decide) (by decide)⟩
  · exact retOut X20 hx Bd.returns rfl (Or.inr (Or.inr (Or.inr (Or.inr ⟨rfl, rfl, rfl⟩)))) (hb hby d12_205) hr_
  · show Q_local Z kd pn ol op fs vv v kf fl el kl s_NF h0 n0 _ T20.heap _
    rw [e20]
    exact ⟨b11, rfl, N20, K20, sz_b11, f21, p20_0, p20_1, p20_2⟩

theorem d9_0 : decode method_3_code 0 = .ok (.iload_n 0, 1) := by decide +kernel
theorem d9_1 : decode method_3_code 1 = .ok (.iconst 3, 1) := by decide +kernel
theorem d9_2 : decode method_3_code 2 = .ok (.iand, 1) := by decide +kernel
theorem d9_3 : decode method_3_code 3 = .ok (.istore 4, 2) := by decide +kernel
theorem d9_5 : decode method_3_code 5 = .ok (.iload 4, 2) := by decide +kernel
theorem d9_7 : decode method_3_code 7 = .ok (.ifCond .ne 9, 3) := by decide +kernel
theorem d9_10 : decode method_3_code 10 = .ok (.getstatic 34, 3) := by decide +kernel
theorem d9_13 : decode method_3_code 13 = .ok (.goto 30, 3) := by decide +kernel
theorem d9_16 : decode method_3_code 16 = .ok (.iload 4, 2) := by decide +kernel
theorem d9_18 : decode method_3_code 18 = .ok (.iconst 1, 1) := by decide +kernel
theorem d9_19 : decode method_3_code 19 = .ok (.if_icmp .ne 9, 3) := by decide +kernel
theorem d9_22 : decode method_3_code 22 = .ok (.getstatic 40, 3) := by decide +kernel
theorem d9_25 : decode method_3_code 25 = .ok (.goto 18, 3) := by decide +kernel
theorem d9_28 : decode method_3_code 28 = .ok (.iload 4, 2) := by decide +kernel
theorem d9_30 : decode method_3_code 30 = .ok (.iconst 2, 1) := by decide +kernel
theorem d9_31 : decode method_3_code 31 = .ok (.if_icmp .ne 9, 3) := by decide +kernel
theorem d9_34 : decode method_3_code 34 = .ok (.getstatic 43, 3) := by decide +kernel
theorem d9_37 : decode method_3_code 37 = .ok (.goto 6, 3) := by decide +kernel
theorem d9_40 : decode method_3_code 40 = .ok (.getstatic 46, 3) := by decide +kernel
theorem d9_43 : decode method_3_code 43 = .ok (.astore 5, 2) := by decide +kernel
theorem d9_45 : decode method_3_code 45 = .ok (.iconst 1, 1) := by decide +kernel
theorem d9_46 : decode method_3_code 46 = .ok (.iload_n 1, 1) := by decide +kernel
theorem d9_47 : decode method_3_code 47 = .ok (.iconst 1, 1) := by decide +kernel
theorem d9_48 : decode method_3_code 48 = .ok (.iand, 1) := by decide +kernel
theorem d9_49 : decode method_3_code 49 = .ok (.iadd, 1) := by decide +kernel
theorem d9_50 : decode method_3_code 50 = .ok (.istore 6, 2) := by decide +kernel
theorem d9_52 : decode method_3_code 52 = .ok (.iload_n 2, 1) := by decide +kernel
theorem d9_53 : decode method_3_code 53 = .ok (.ifCond .eq 10, 3) := by decide +kernel
theorem d9_63 : decode method_3_code 63 = .ok (.invokestatic 54, 3) := by decide +kernel
theorem pd_10 : parseMethodDescriptor "()Ljava/util/Optional;" = some ⟨[], some (.object "java/util/Optional")⟩ := by decide +kernel
theorem d9_56 : decode method_3_code 56 = .ok (.aload_n 3, 1) := by decide +kernel
theorem d9_57 : decode method_3_code 57 = .ok (.invokestatic 49, 3) := by decide +kernel
theorem pd_11 : parseMethodDescriptor "(Ljava/lang/Object;)Ljava/util/Optional;" = some ⟨[(.object "java/lang/Object")], some (.object "java/util/Optional")⟩ := by decide +kernel
theorem d9_60 : decode method_3_code 60 = .ok (.goto 6, 3) := by decide +kernel
theorem d9_66 : decode method_3_code 66 = .ok (.astore 7, 2) := by decide +kernel
theorem d9_68 : decode method_3_code 68 = .ok (.aload 5, 2) := by decide +kernel
theorem d9_70 : decode method_3_code 70 = .ok (.iload 6, 2) := by decide +kernel
theorem d9_72 : decode method_3_code 72 = .ok (.lconst 0, 1) := by decide +kernel
theorem d9_73 : decode method_3_code 73 = .ok (.invokestatic 58, 3) := by decide +kernel
theorem pd_12 : parseMethodDescriptor "()Ljava/util/OptionalLong;" = some ⟨[], some (.object "java/util/OptionalLong")⟩ := by decide +kernel
theorem d9_76 : decode method_3_code 76 = .ok (.aload 7, 2) := by decide +kernel
theorem d9_78 : decode method_3_code 78 = .ok (.iconst 0, 1) := by decide +kernel
theorem d9_79 : decode method_3_code 79 = .ok (.newarray .long, 2) := by decide +kernel
theorem d9_81 : decode method_3_code 81 = .ok (.invokestatic 63, 3) := by decide +kernel
theorem pd_13 : parseMethodDescriptor "(Lcom/example/wildebeest/wildebeest/core/EventKind;IJLjava/util/OptionalLong;Ljava/util/Optional;[J)Lcom/example/wildebeest/wildebeest/core/TraceEvent;" = some ⟨[(.object "com/example/wildebeest/wildebeest/core/EventKind"), .int, .long, (.object "java/util/OptionalLong"), (.object "java/util/Optional"), (.array .long)], some (.object "com/example/wildebeest/wildebeest/core/TraceEvent")⟩ := by decide +kernel
theorem d9_84 : decode method_3_code 84 = .ok (.areturn, 1) := by decide +kernel
theorem pn_CausalityCheckCheckedPinLaw : plainName "com/example/wildebeest/wildebeest/core/CausalityCheckCheckedPinLaw" = true := by first | (simp [plainName, overriddenIn]; done) | decide +kernel
theorem ef_event (m : MethodId) (pk : Int32) (pb : Int32) (ps : Int32) (v : Addr) : entryFrame m #[(.int pk), (.int pb), (.int ps), (.ref v)] 8 = mkF m 0 #[.val (.int pk), .val (.int pb), .val (.int ps), .val (.ref v), .unset, .unset, .unset, .unset] [] := by first | (simp [entryFrame, mkF, argsToLocals, Value.category]; done) | rfl
def Q_event (Z : State) (pk : Int32) (pb : Int32) (ps : Int32) (v : Addr) (s_OL : Addr) (s_OE : Addr) (s_SEND : Addr) (s_RECEIVE : Addr) (s_REQUEST : Addr) (s_ENTER : Addr) (s_EXIT : Addr) (s_CRASH : Addr) (fl : Addr) (el : Addr) (kl : ClassId) (s_NF : Addr) (h0 : Heap) (n0 : Nat) (v_ : Option Value) (h_ : Heap) (L_ : List Loc) : Prop := ∃ (t : Addr) (kd : Addr) (pn : Int32) (vv : Value), v_ = some (.ref t) ∧ Fr n0 L_ ∧ Keep h0 h_ [] ∧ (h0.size ≤ t) ∧ (Exa Z h_ t "com/example/wildebeest/wildebeest/core/TraceEvent") ∧ (Fld Z h_ t "com/example/wildebeest/wildebeest/core/TraceEvent" "kind" "Lcom/example/wildebeest/wildebeest/core/EventKind;" (.ref kd)) ∧ (Fld Z h_ t "com/example/wildebeest/wildebeest/core/TraceEvent" "node" "I" (.int pn)) ∧ (Fld Z h_ t "com/example/wildebeest/wildebeest/core/TraceEvent" "vector" "Lcom/example/wildebeest/wildebeest/core/VectorTime;" vv) ∧ ((ps = (0 : Int32) ∧ vv = .null) ∨ (ps = (1 : Int32) ∧ vv = .ref v)) ∧ (pn = (1 : Int32) ∨ pn = (2 : Int32)) ∧ (kd ≠ s_SEND) ∧ (kd ≠ s_RECEIVE)
set_option maxRecDepth 65536 in
set_option maxHeartbeats 40000000 in
theorem rm_event (l : Launch) (Z : State) (a0 : Array Value) (hw : ∀ d ∈ tables_1, d.before a0 Z = true) (ws : List Jvm.Cond) (pk : Int32) (pb : Int32) (ps : Int32) (v : Addr) (s_OL : Addr) (s_OE : Addr) (s_SEND : Addr) (s_RECEIVE : Addr) (s_REQUEST : Addr) (s_ENTER : Addr) (s_EXIT : Addr) (s_CRASH : Addr) (fl : Addr) (el : Addr) (kl : ClassId) (s_NF : Addr) (h0 : Heap) (n0 : Nat) (O0 : Old Z n0 h0) (S_EventKind_REQUEST : Sta Z Z.heap "com/example/wildebeest/wildebeest/core/EventKind" "REQUEST" "Lcom/example/wildebeest/wildebeest/core/EventKind;" (.ref s_REQUEST)) (S_EventKind_ENTER : Sta Z Z.heap "com/example/wildebeest/wildebeest/core/EventKind" "ENTER" "Lcom/example/wildebeest/wildebeest/core/EventKind;" (.ref s_ENTER)) (S_EventKind_EXIT : Sta Z Z.heap "com/example/wildebeest/wildebeest/core/EventKind" "EXIT" "Lcom/example/wildebeest/wildebeest/core/EventKind;" (.ref s_EXIT)) (S_EventKind_CRASH : Sta Z Z.heap "com/example/wildebeest/wildebeest/core/EventKind" "CRASH" "Lcom/example/wildebeest/wildebeest/core/EventKind;" (.ref s_CRASH)) (OE_s_REQUEST : Exa Z Z.heap s_REQUEST "com/example/wildebeest/wildebeest/core/EventKind") (OF_s_REQUEST_message : Fld Z Z.heap s_REQUEST "com/example/wildebeest/wildebeest/core/EventKind" "message" "Z" (.int (0 : Int32))) (OF_s_REQUEST_fields : Fld Z Z.heap s_REQUEST "com/example/wildebeest/wildebeest/core/EventKind" "fields" "Ljava/util/List;" (.ref fl)) (OE_s_ENTER : Exa Z Z.heap s_ENTER "com/example/wildebeest/wildebeest/core/EventKind") (OF_s_ENTER_message : Fld Z Z.heap s_ENTER "com/example/wildebeest/wildebeest/core/EventKind" "message" "Z" (.int (0 : Int32))) (OF_s_ENTER_fields : Fld Z Z.heap s_ENTER "com/example/wildebeest/wildebeest/core/EventKind" "fields" "Ljava/util/List;" (.ref fl)) (OE_s_EXIT : Exa Z Z.heap s_EXIT "com/example/wildebeest/wildebeest/core/EventKind") (OF_s_EXIT_message : Fld Z Z.heap s_EXIT "com/example/wildebeest/wildebeest/core/EventKind" "message" "Z" (.int (0 : Int32))) (OF_s_EXIT_fields : Fld Z Z.heap s_EXIT "com/example/wildebeest/wildebeest/core/EventKind" "fields" "Ljava/util/List;" (.ref fl)) (OE_s_CRASH : Exa Z Z.heap s_CRASH "com/example/wildebeest/wildebeest/core/EventKind") (OF_s_CRASH_message : Fld Z Z.heap s_CRASH "com/example/wildebeest/wildebeest/core/EventKind" "message" "Z" (.int (0 : Int32))) (OF_s_CRASH_fields : Fld Z Z.heap s_CRASH "com/example/wildebeest/wildebeest/core/EventKind" "fields" "Ljava/util/List;" (.ref fl)) (ne_s_REQUEST_s_SEND : s_REQUEST ≠ s_SEND) (ne_s_REQUEST_s_RECEIVE : s_REQUEST ≠ s_RECEIVE) (ne_s_ENTER_s_SEND : s_ENTER ≠ s_SEND) (ne_s_ENTER_s_RECEIVE : s_ENTER ≠ s_RECEIVE) (ne_s_EXIT_s_SEND : s_EXIT ≠ s_SEND) (ne_s_EXIT_s_RECEIVE : s_EXIT ≠ s_RECEIVE) (ne_s_CRASH_s_SEND : s_CRASH ≠ s_SEND) (ne_s_CRASH_s_RECEIVE : s_CRASH ≠ s_RECEIVE) (OE_fl : Exa Z Z.heap fl "java/util/ImmutableCollections$ListN") (OF_fl_elements : Fld Z Z.heap fl "java/util/ImmutableCollections$ListN" "elements" "[Ljava/lang/Object;" (.ref el)) (OV_el : Arv Z Z.heap el kl (.object "java/lang/Object") (0 : Int32) [] .null) (S_TraceEvent_NO_FIELDS : Sta Z Z.heap "com/example/wildebeest/wildebeest/core/TraceEvent" "NO_FIELDS" "[J" (.ref s_NF)) (S_Optional_EMPTY : Sta Z Z.heap "java/util/Optional" "EMPTY" "Ljava/util/Optional;" (.ref s_OE)) (OE_s_OE : Exa Z Z.heap s_OE "java/util/Optional") (OF_s_OE_value : Fld Z Z.heap s_OE "java/util/Optional" "value" "Ljava/lang/Object;" .null) (S_OptionalLong_EMPTY : Sta Z Z.heap "java/util/OptionalLong" "EMPTY" "Ljava/util/OptionalLong;" (.ref s_OL)) (OE_s_OL : Exa Z Z.heap s_OL "java/util/OptionalLong") (OF_s_OL_isPresent : Fld Z Z.heap s_OL "java/util/OptionalLong" "isPresent" "Z" (.int (0 : Int32))) (E_v : Exa Z h0 v "com/example/wildebeest/wildebeest/core/VectorTime") (hps : ps = (0 : Int32) ∨ ps = (1 : Int32)) :
    MetFree l (⟨"com/example/wildebeest/wildebeest/core/CausalityCheckCheckedPinLaw", "event", "(IIZLcom/example/wildebeest/wildebeest/core/VectorTime;)Lcom/example/wildebeest/wildebeest/core/TraceEvent;"⟩ : MethodName) (head1 (Jvm.Cond.code (⟨"com/example/wildebeest/wildebeest/core/CausalityCheckCheckedPinLaw", "event", "(IIZLcom/example/wildebeest/wildebeest/core/VectorTime;)Lcom/example/wildebeest/wildebeest/core/TraceEvent;"⟩ : MethodName) method_3_code 8 (some (.object "com/example/wildebeest/wildebeest/core/TraceEvent")) :: ws) ({ frames := 3, cells := 3, slots := 8, locals := 56 } : Room)) (fun aa_ U_ => aa_ = #[(.int pk), (.int pb), (.int ps), (.ref v)] ∧ Z.Warmed39 U_.vm ∧ U_.heap = h0) (fun _ _ _ _ _ => True) (fun _ U_ o_ U_' => ∃ v_ L_, o_ = .returned v_ ∧ Q_event Z pk pb ps v s_OL s_OE s_SEND s_RECEIVE s_REQUEST s_ENTER s_EXIT s_CRASH fl el kl s_NF h0 n0 v_ U_'.heap L_ ∧ FrameEnd U_ o_ U_' L_ ({ frames := 3, cells := 3, slots := 8, locals := 56 } : Room).cells ({ frames := 3, cells := 3, slots := 8, locals := 56 } : Room).slots) := by
  refine MetFree.of_bodySF (plainFor_of_name pn_CausalityCheckCheckedPinLaw) hisR ?_
  intro p e s m args below meth c s₁ Bd hml0 hP hK
  obtain ⟨rfl, hZ, hh⟩ := hP
  have hx := Bd.exec
  have hby := Bd.bytes
  have hml : c.maxLocals = 8 := hml0
  have hown : s.vm.findClass "com/example/wildebeest/wildebeest/core/CausalityCheckCheckedPinLaw" = some m.cls := findClass_of_methodNamed Bd.named
  have hnm := (name_of_methodNamed Bd.named Bd.method).1
  have X0 : Stand p l e ({ frames := 3, cells := 3, slots := 8, locals := 56 } : Room) s m #[(.int pk), (.int pb), (.int ps), (.ref v)] below meth c s₁ [] 0 0 := Stand.of_body Bd
  have e0 : s₁.heap = h0 := by rw [← hh, Bd.state]; rfl
  have N0 := Fr.nil n0
  have K0 : Keep h0 h0 [] := Keep.refl h0 _
  have pre0 : ∀ z_, Steps p.tables e below (s₁.setTop (mkF m 0 #[.val (.int pk), .val (.int pb), .val (.int ps), .val (.ref v), .unset, .unset, .unset, .unset] [])) z_ → Steps p.tables e below (s₁.setTop (entryFrame m #[(.int pk), (.int pb), (.int ps), (.ref v)] 8)) z_ := fun z_ k_ => castTop (ef_event m pk pb ps v) k_
  have r0 : own_R p e below s₁ (mkF m 0 #[.val (.int pk), .val (.int pb), .val (.int ps), .val (.ref v), .unset, .unset, .unset, .unset] []) s₁ (mkF m 0 #[.val (.int pk), .val (.int pb), .val (.int ps), .val (.ref v), .unset, .unset, .unset, .unset] []) := own_R.refl
  have r1 : own_R p e below _ _ s₁ (mkF m 5 #[.val (.int pk), .val (.int pb), .val (.int ps), .val (.ref v), .val (.int (pk &&& (3 : Int32))), .unset, .unset, .unset] []) := r0.trans fun z_ kt => by
    refine XS.iloadN X0.here hx rfl (hb hby d9_0) rfl ?_
    refine XS.iconst X0.here hx rfl (hb hby d9_1) ?_
    refine XS.iand X0.here hx rfl (hb hby d9_2) rfl ?_
    refine XS.istore X0.here hx rfl (hb hby d9_3) rfl (l' := #[.val (.int pk), .val (.int pb), .val (.int ps), .val (.ref v), .val (.int (pk &&& (3 : Int32))), .unset, .unset, .unset]) rfl ?_
    exact kt
  obtain ⟨kd_k, T2, h2, L2, X2, e2, N2, Kq2, p2_0, p2_1, p2_2, p2_3, p2_4, r2⟩ : ∃ (kd_k : Addr) (T' : State) (h' : Heap) (locs' : List Loc), Stand p l e ({ frames := 3, cells := 3, slots := 8, locals := 56 } : Room) s m #[(.int pk), (.int pb), (.int ps), (.ref v)] below meth c T' locs' 0 0 ∧ T'.heap = h' ∧ Fr n0 locs' ∧ Keep h0 h' [] ∧ (Exa Z Z.heap kd_k "com/example/wildebeest/wildebeest/core/EventKind") ∧ (Fld Z Z.heap kd_k "com/example/wildebeest/wildebeest/core/EventKind" "message" "Z" (.int (0 : Int32))) ∧ (Fld Z Z.heap kd_k "com/example/wildebeest/wildebeest/core/EventKind" "fields" "Ljava/util/List;" (.ref fl)) ∧ (kd_k ≠ s_SEND) ∧ (kd_k ≠ s_RECEIVE) ∧ own_R p e below s₁ (mkF m 0 #[.val (.int pk), .val (.int pb), .val (.int ps), .val (.ref v), .unset, .unset, .unset, .unset] []) T' (mkF m 43 #[.val (.int pk), .val (.int pb), .val (.int ps), .val (.ref v), .val (.int (pk &&& (3 : Int32))), .unset, .unset, .unset] [(.ref kd_k)]) := by
    have Kb2 : Keep h0 h0 [] := Keep.refl _ _
    have r3 : own_R p e below _ _ s₁ (mkF m 7 #[.val (.int pk), .val (.int pb), .val (.int ps), .val (.ref v), .val (.int (pk &&& (3 : Int32))), .unset, .unset, .unset] [(.int (pk &&& (3 : Int32)))]) := r1.trans fun z_ kt => by
      refine XS.iload X0.here hx rfl (hb hby d9_5) rfl ?_
      exact kt
    by_cases hc7_4 : (pk &&& (3 : Int32)) = (0 : Int32)
    · skip
      have r5 : own_R p e below _ _ s₁ (mkF m 10 #[.val (.int pk), .val (.int pb), .val (.int ps), .val (.ref v), .val (.int (pk &&& (3 : Int32))), .unset, .unset, .unset] []) := r3.trans fun z_ kt => by
        refine XS.ifNo X0.here hx rfl (hb hby d9_7) rfl ((if0 _ _).trans (teq (hc7_4 : (pk &&& (3 : Int32)) = (0 : Int32))).2) ?_
        exact kt
      obtain ⟨T6, X6, e6, st6⟩ := getS2 X0 hx hZ hown (host := "") (Or.inl (hw _ (own_g (i := 238) rfl))) Via.refl e0 (S_EventKind_REQUEST.ext O0.2) (g := (mkF m 10 #[.val (.int pk), .val (.int pb), .val (.int ps), .val (.ref v), .val (.int (pk &&& (3 : Int32))), .unset, .unset, .unset] [])) rfl (hb hby d9_10)
      have r6 : own_R p e below _ _ T6 (mkF m 13 #[.val (.int pk), .val (.int pb), .val (.int ps), .val (.ref v), .val (.int (pk &&& (3 : Int32))), .unset, .unset, .unset] [(.ref s_REQUEST)]) := r5.trans fun z_ kt => st6 _ kt
      have r7 : own_R p e below _ _ T6 (mkF m 43 #[.val (.int pk), .val (.int pb), .val (.int ps), .val (.ref v), .val (.int (pk &&& (3 : Int32))), .unset, .unset, .unset] [(.ref s_REQUEST)]) := r6.trans fun z_ kt => by
        refine XS.goto X6.here hx rfl (pc0 := 13) (pc' := 43) rfl (hb hby d9_13) (by decide) (by decide) ?_
        exact kt
      exact ⟨s_REQUEST, T6, _, _, X6.more (by decide) (by decide), e6, N0, Kb2, OE_s_REQUEST, OF_s_REQUEST_message, OF_s_REQUEST_fields, ne_s_REQUEST_s_SEND, ne_s_REQUEST_s_RECEIVE, r7⟩
    · skip
      have r8 : own_R p e below _ _ s₁ (mkF m 19 #[.val (.int pk), .val (.int pb), .val (.int ps), .val (.ref v), .val (.int (pk &&& (3 : Int32))), .unset, .unset, .unset] [(.int (1 : Int32)), (.int (pk &&& (3 : Int32)))]) := r3.trans fun z_ kt => by
        refine XS.ifYes X0.here hx rfl (pc0 := 7) (pc' := 16) rfl (hb hby d9_7) rfl ((if0 _ _).trans (feq (hc7_4 : ¬ ((pk &&& (3 : Int32)) = (0 : Int32)))).2) (by decide) (by decide) ?_
        refine XS.iload X0.here hx rfl (hb hby d9_16) rfl ?_
        refine XS.iconst X0.here hx rfl (hb hby d9_18) ?_
        exact kt
      by_cases hc19_9 : (pk &&& (3 : Int32)) = (1 : Int32)
      · skip
        have r10 : own_R p e below _ _ s₁ (mkF m 22 #[.val (.int pk), .val (.int pb), .val (.int ps), .val (.ref v), .val (.int (pk &&& (3 : Int32))), .unset, .unset, .unset] []) := r8.trans fun z_ kt => by
          refine XS.icmpNo X0.here hx rfl (hb hby d9_19) rfl (teq (hc19_9 : (pk &&& (3 : Int32)) = (1 : Int32))).2 ?_
          exact kt
        obtain ⟨T11, X11, e11, st11⟩ := getS2 X0 hx hZ hown (host := "") (Or.inl (hw _ (own_g (i := 242) rfl))) Via.refl e0 (S_EventKind_ENTER.ext O0.2) (g := (mkF m 22 #[.val (.int pk), .val (.int pb), .val (.int ps), .val (.ref v), .val (.int (pk &&& (3 : Int32))), .unset, .unset, .unset] [])) rfl (hb hby d9_22)
        have r11 : own_R p e below _ _ T11 (mkF m 25 #[.val (.int pk), .val (.int pb), .val (.int ps), .val (.ref v), .val (.int (pk &&& (3 : Int32))), .unset, .unset, .unset] [(.ref s_ENTER)]) := r10.trans fun z_ kt => st11 _ kt
        have r12 : own_R p e below _ _ T11 (mkF m 43 #[.val (.int pk), .val (.int pb), .val (.int ps), .val (.ref v), .val (.int (pk &&& (3 : Int32))), .unset, .unset, .unset] [(.ref s_ENTER)]) := r11.trans fun z_ kt => by
          refine XS.goto X11.here hx rfl (pc0 := 25) (pc' := 43) rfl (hb hby d9_25) (by decide) (by decide) ?_
          exact kt
        exact ⟨s_ENTER, T11, _, _, X11.more (by decide) (by decide), e11, N0, Kb2, OE_s_ENTER, OF_s_ENTER_message, OF_s_ENTER_fields, ne_s_ENTER_s_SEND, ne_s_ENTER_s_RECEIVE, r12⟩
      · skip
        have r13 : own_R p e below _ _ s₁ (mkF m 31 #[.val (.int pk), .val (.int pb), .val (.int ps), .val (.ref v), .val (.int (pk &&& (3 : Int32))), .unset, .unset, .unset] [(.int (2 : Int32)), (.int (pk &&& (3 : Int32)))]) := r8.trans fun z_ kt => by
          refine XS.icmpYes X0.here hx rfl (pc0 := 19) (pc' := 28) rfl (hb hby d9_19) rfl (feq (hc19_9 : ¬ ((pk &&& (3 : Int32)) = (1 : Int32)))).2 (by decide) (by decide) ?_
          refine XS.iload X0.here hx rfl (hb hby d9_28) rfl ?_
          refine XS.iconst X0.here hx rfl (hb hby d9_30) ?_
          exact kt
        by_cases hc31_14 : (pk &&& (3 : Int32)) = (2 : Int32)
        · skip
          have r15 : own_R p e below _ _ s₁ (mkF m 34 #[.val (.int pk), .val (.int pb), .val (.int ps), .val (.ref v), .val (.int (pk &&& (3 : Int32))), .unset, .unset, .unset] []) := r13.trans fun z_ kt => by
            refine XS.icmpNo X0.here hx rfl (hb hby d9_31) rfl (teq (hc31_14 : (pk &&& (3 : Int32)) = (2 : Int32))).2 ?_
            exact kt
          obtain ⟨T16, X16, e16, st16⟩ := getS2 X0 hx hZ hown (host := "") (Or.inl (hw _ (own_g (i := 240) rfl))) Via.refl e0 (S_EventKind_EXIT.ext O0.2) (g := (mkF m 34 #[.val (.int pk), .val (.int pb), .val (.int ps), .val (.ref v), .val (.int (pk &&& (3 : Int32))), .unset, .unset, .unset] [])) rfl (hb hby d9_34)
          have r16 : own_R p e below _ _ T16 (mkF m 37 #[.val (.int pk), .val (.int pb), .val (.int ps), .val (.ref v), .val (.int (pk &&& (3 : Int32))), .unset, .unset, .unset] [(.ref s_EXIT)]) := r15.trans fun z_ kt => st16 _ kt
          have r17 : own_R p e below _ _ T16 (mkF m 43 #[.val (.int pk), .val (.int pb), .val (.int ps), .val (.ref v), .val (.int (pk &&& (3 : Int32))), .unset, .unset, .unset] [(.ref s_EXIT)]) := r16.trans fun z_ kt => by
            refine XS.goto X16.here hx rfl (pc0 := 37) (pc' := 43) rfl (hb hby d9_37) (by decide) (by decide) ?_
            exact kt
          exact ⟨s_EXIT, T16, _, _, X16.more (by decide) (by decide), e16, N0, Kb2, OE_s_EXIT, OF_s_EXIT_message, OF_s_EXIT_fields, ne_s_EXIT_s_SEND, ne_s_EXIT_s_RECEIVE, r17⟩
        · skip
          have r18 : own_R p e below _ _ s₁ (mkF m 40 #[.val (.int pk), .val (.int pb), .val (.int ps), .val (.ref v), .val (.int (pk &&& (3 : Int32))), .unset, .unset, .unset] []) := r13.trans fun z_ kt => by
            refine XS.icmpYes X0.here hx rfl (pc0 := 31) (pc' := 40) rfl (hb hby d9_31) rfl (feq (hc31_14 : ¬ ((pk &&& (3 : Int32)) = (2 : Int32)))).2 (by decide) (by decide) ?_
            exact kt
          obtain ⟨T19, X19, e19, st19⟩ := getS2 X0 hx hZ hown (host := "") (Or.inl (hw _ (own_g (i := 70) rfl))) Via.refl e0 (S_EventKind_CRASH.ext O0.2) (g := (mkF m 40 #[.val (.int pk), .val (.int pb), .val (.int ps), .val (.ref v), .val (.int (pk &&& (3 : Int32))), .unset, .unset, .unset] [])) rfl (hb hby d9_40)
          have r19 : own_R p e below _ _ T19 (mkF m 43 #[.val (.int pk), .val (.int pb), .val (.int ps), .val (.ref v), .val (.int (pk &&& (3 : Int32))), .unset, .unset, .unset] [(.ref s_CRASH)]) := r18.trans fun z_ kt => st19 _ kt
          exact ⟨s_CRASH, T19, _, _, X19.more (by decide) (by decide), e19, N0, Kb2, OE_s_CRASH, OF_s_CRASH_message, OF_s_CRASH_fields, ne_s_CRASH_s_SEND, ne_s_CRASH_s_RECEIVE, r19⟩
  have O2 := O0.keep Kq2 all0
  have K2 := K0.trans Kq2 all0
  have r20 : own_R p e below _ _ T2 (mkF m 52 #[.val (.int pk), .val (.int pb), .val (.int ps), .val (.ref v), .val (.int (pk &&& (3 : Int32))), .val (.ref kd_k), .val (.int ((1 : Int32) + (pb &&& (1 : Int32)))), .unset] []) := r2.trans fun z_ kt => by
    refine XS.astore X2.here hx rfl (hb hby d9_43) rfl rfl (l' := #[.val (.int pk), .val (.int pb), .val (.int ps), .val (.ref v), .val (.int (pk &&& (3 : Int32))), .val (.ref kd_k), .unset, .unset]) rfl ?_
    refine XS.iconst X2.here hx rfl (hb hby d9_45) ?_
    refine XS.iloadN X2.here hx rfl (hb hby d9_46) rfl ?_
    refine XS.iconst X2.here hx rfl (hb hby d9_47) ?_
    refine XS.iand X2.here hx rfl (hb hby d9_48) rfl ?_
    refine XS.iadd X2.here hx rfl (hb hby d9_49) rfl ?_
    refine XS.istore X2.here hx rfl (hb hby d9_50) rfl (l' := #[.val (.int pk), .val (.int pb), .val (.int ps), .val (.ref v), .val (.int (pk &&& (3 : Int32))), .val (.ref kd_k), .val (.int ((1 : Int32) + (pb &&& (1 : Int32)))), .unset]) rfl ?_
    exact kt
  obtain ⟨pn, h_pn⟩ : ∃ z, z = ((1 : Int32) + (pb &&& (1 : Int32))) := ⟨_, rfl⟩
  rw [← h_pn] at r20
  have hpn : pn = (1 : Int32) ∨ pn = (2 : Int32) := own_node h_pn
  obtain ⟨op_o, vv_o, T21, h21, L21, X21, e21, N21, Kq21, p21_0, p21_1, p21_2, r21⟩ : ∃ (op_o : Addr) (vv_o : Value) (T' : State) (h' : Heap) (locs' : List Loc), Stand p l e ({ frames := 3, cells := 3, slots := 8, locals := 56 } : Room) s m #[(.int pk), (.int pb), (.int ps), (.ref v)] below meth c T' locs' 1 1 ∧ T'.heap = h' ∧ Fr n0 locs' ∧ Keep h2 h' [] ∧ (Exa Z h' op_o "java/util/Optional") ∧ (Fld Z h' op_o "java/util/Optional" "value" "Ljava/lang/Object;" vv_o) ∧ ((ps = (0 : Int32) ∧ vv_o = .null) ∨ (ps = (1 : Int32) ∧ vv_o = .ref v ∧ Exa Z h' v "com/example/wildebeest/wildebeest/core/VectorTime")) ∧ own_R p e below s₁ (mkF m 0 #[.val (.int pk), .val (.int pb), .val (.int ps), .val (.ref v), .unset, .unset, .unset, .unset] []) T' (mkF m 66 #[.val (.int pk), .val (.int pb), .val (.int ps), .val (.ref v), .val (.int (pk &&& (3 : Int32))), .val (.ref kd_k), .val (.int pn), .unset] [(.ref op_o)]) := by
    have Kb21 : Keep h2 h2 [] := Keep.refl _ _
    have r22 : own_R p e below _ _ T2 (mkF m 53 #[.val (.int pk), .val (.int pb), .val (.int ps), .val (.ref v), .val (.int (pk &&& (3 : Int32))), .val (.ref kd_k), .val (.int pn), .unset] [(.int ps)]) := r20.trans fun z_ kt => by
      refine XS.iloadN X2.here hx rfl (hb hby d9_52) rfl ?_
      exact kt
    by_cases hc53_23 : ps = (0 : Int32)
    · skip
      have r24 : own_R p e below _ _ T2 (mkF m 63 #[.val (.int pk), .val (.int pb), .val (.int ps), .val (.ref v), .val (.int (pk &&& (3 : Int32))), .val (.ref kd_k), .val (.int pn), .unset] []) := r22.trans fun z_ kt => by
        refine XS.ifYes X2.here hx rfl (pc0 := 53) (pc' := 63) rfl (hb hby d9_53) rfl ((if0 _ _).trans (teq (hc53_23 : ps = (0 : Int32))).1) (by decide) (by decide) ?_
        exact kt
      obtain ⟨_, _, ⟨T25, L25, cc25, n25⟩, -, X25, ⟨Lc25, hQ25, l25, y25, z25⟩, st25⟩ := Jvm.LawKit.callS X2 hx (y := (⟨"java/util/Optional", "empty", "()Ljava/util/Optional;"⟩ : MethodName)) hown (mvT hZ (hw _ (own_g (i := 73) rfl))) (mvT hZ (hw _ (own_g (i := 74) rfl))) (mvT hZ (hw _ (own_g (i := 75) rfl))) (mvT hZ (hw _ (own_g (i := 76) rfl))) (by decide) (backOf (W := 0) (rm_opEmpty l Z a0 hw [] (s_OE) h2 n0 O2 (S_Optional_EMPTY)) hZ (hw _ (own_g (i := 76) rfl)) (hw _ (own_g (i := 75) rfl)) (by decide) (by decide)) (g := (mkF m 63 #[.val (.int pk), .val (.int pb), .val (.int ps), .val (.ref v), .val (.int (pk &&& (3 : Int32))), .val (.ref kd_k), .val (.int pn), .unset] [])) rfl (by rw [hml]; rfl) (argsL := []) (rest := []) (lenOf pd_10 rfl) rfl (by show 2 * 0 + _ ≤ _; exact Nat.le_of_eq rfl) (hb hby d9_63) (fun _ _ => ⟨rfl, e2, (by decide : 0 + 0 ≤ _), (by decide : 0 + 0 ≤ _)⟩)
      dsimp only [Pt.U, Pt.locs, Pt.cells, Pt.slots] at X25 l25 y25 z25 st25 hQ25
      subst l25 y25 z25
      obtain ⟨rfl, Nq25, eq25⟩ := hQ25
      have N25 := Fr.app N2 Nq25
      have r25 : own_R p e below _ _ T25 (mkF m 66 #[.val (.int pk), .val (.int pb), .val (.int ps), .val (.ref v), .val (.int (pk &&& (3 : Int32))), .val (.ref kd_k), .val (.int pn), .unset] [(.ref s_OE)]) := r24.trans fun z_ kt => st25 _ kt
      have e25 : T25.heap = h2 := eq25
      exact ⟨s_OE, .null, T25, _, _, X25.more (by decide) (by decide), e25, N25, Kb21, (OE_s_OE.ext O2.2), (OF_s_OE_value.ext O2.2), Or.inl ⟨hc53_23, rfl⟩, r25⟩
    · skip
      have r26 : own_R p e below _ _ T2 (mkF m 57 #[.val (.int pk), .val (.int pb), .val (.int ps), .val (.ref v), .val (.int (pk &&& (3 : Int32))), .val (.ref kd_k), .val (.int pn), .unset] [(.ref v)]) := r22.trans fun z_ kt => by
        refine XS.ifNo X2.here hx rfl (hb hby d9_53) rfl ((if0 _ _).trans (feq (hc53_23 : ¬ (ps = (0 : Int32)))).1) ?_
        refine XS.aloadN X2.here hx rfl (hb hby d9_56) rfl rfl ?_
        exact kt
      obtain ⟨_, _, ⟨T27, L27, cc27, n27⟩, -, X27, ⟨Lc27, hQ27, l27, y27, z27⟩, st27⟩ := Jvm.LawKit.callS X2 hx (y := (⟨"java/util/Optional", "of", "(Ljava/lang/Object;)Ljava/util/Optional;"⟩ : MethodName)) hown (mvT hZ (hw _ (own_g (i := 195) rfl))) (mvT hZ (hw _ (own_g (i := 196) rfl))) (mvT hZ (hw _ (own_g (i := 75) rfl))) (mvT hZ (hw _ (own_g (i := 197) rfl))) (by decide) (backOf (W := 0) (rm_opOf l Z a0 hw [] (v) h2 n0 O2 ) hZ (hw _ (own_g (i := 197) rfl)) (hw _ (own_g (i := 75) rfl)) (by decide) (by decide)) (g := (mkF m 57 #[.val (.int pk), .val (.int pb), .val (.int ps), .val (.ref v), .val (.int (pk &&& (3 : Int32))), .val (.ref kd_k), .val (.int pn), .unset] [(.ref v)])) rfl (by rw [hml]; rfl) (argsL := [(.ref v)]) (rest := []) (lenOf pd_11 rfl) rfl (by show 2 * 0 + _ ≤ _; exact Nat.le_of_eq rfl) (hb hby d9_57) (fun _ _ => ⟨rfl, e2, (by decide : 0 + 1 ≤ _), (by decide : 0 + 1 ≤ _)⟩)
      dsimp only [Pt.U, Pt.locs, Pt.cells, Pt.slots] at X27 l27 y27 z27 st27 hQ27
      subst l27 y27 z27
      obtain ⟨h27, e27⟩ : ∃ z, T27.heap = z := ⟨_, rfl⟩
      rw [e27] at hQ27
      obtain ⟨b_27, rfl, Nq27, Kq27, p27_0, p27_1, p27_2⟩ := hQ27
      have N27 := Fr.app N2 Nq27
      have r27 : own_R p e below _ _ T27 (mkF m 60 #[.val (.int pk), .val (.int pb), .val (.int ps), .val (.ref v), .val (.int (pk &&& (3 : Int32))), .val (.ref kd_k), .val (.int pn), .unset] [(.ref b_27)]) := r26.trans fun z_ kt => st27 _ kt
      have f28 := (E_v.keep Kq2)
      have ne_v_b_27 : v ≠ b_27 := Nat.ne_of_lt (Nat.lt_of_lt_of_le f28.lt p27_0)
      have g_b_27 : n0 ≤ b_27 := Nat.le_trans (own_old_size O2) p27_0
      have sz_b_27 : h2.size ≤ b_27 := Nat.le_trans Kb21.1 p27_0
      have O27 := O2.keep Kq27 all0
      have K27 := Kb21.trans Kq27 all0
      have r29 : own_R p e below _ _ T27 (mkF m 66 #[.val (.int pk), .val (.int pb), .val (.int ps), .val (.ref v), .val (.int (pk &&& (3 : Int32))), .val (.ref kd_k), .val (.int pn), .unset] [(.ref b_27)]) := r27.trans fun z_ kt => by
        refine XS.goto X27.here hx rfl (pc0 := 60) (pc' := 66) rfl (hb hby d9_60) (by decide) (by decide) ?_
        exact kt
      have f30 := (f28.keep Kq27)
      exact ⟨b_27, (.ref v), T27, _, _, X27.more (by decide) (by decide), e27, N27, K27, p27_1, p27_2, Or.inr ⟨(hps.resolve_left hc53_23), rfl, f30⟩, r29⟩
  have O21 := O2.keep Kq21 all0
  have K21 := K2.trans Kq21 all0
  have r31 : own_R p e below _ _ T21 (mkF m 73 #[.val (.int pk), .val (.int pb), .val (.int ps), .val (.ref v), .val (.int (pk &&& (3 : Int32))), .val (.ref kd_k), .val (.int pn), .val (.ref op_o)] [(.long (0 : Int64)), (.int pn), (.ref kd_k)]) := r21.trans fun z_ kt => by
    refine XS.astore X21.here hx rfl (hb hby d9_66) rfl rfl (l' := #[.val (.int pk), .val (.int pb), .val (.int ps), .val (.ref v), .val (.int (pk &&& (3 : Int32))), .val (.ref kd_k), .val (.int pn), .val (.ref op_o)]) rfl ?_
    refine XS.aload X21.here hx rfl (hb hby d9_68) rfl rfl ?_
    refine XS.iload X21.here hx rfl (hb hby d9_70) rfl ?_
    refine XS.lconst X21.here hx rfl (hb hby d9_72) ?_
    exact kt
  obtain ⟨_, _, ⟨T32, L32, cc32, n32⟩, -, X32, ⟨Lc32, hQ32, l32, y32, z32⟩, st32⟩ := Jvm.LawKit.callS X21 hx (y := (⟨"java/util/OptionalLong", "empty", "()Ljava/util/OptionalLong;"⟩ : MethodName)) hown (mvT hZ (hw _ (own_g (i := 78) rfl))) (mvT hZ (hw _ (own_g (i := 79) rfl))) (mvT hZ (hw _ (own_g (i := 80) rfl))) (mvT hZ (hw _ (own_g (i := 81) rfl))) (by decide) (backOf (W := 4) (rm_olEmpty l Z a0 hw [] (s_OL) h21 n0 O21 (S_OptionalLong_EMPTY)) hZ (hw _ (own_g (i := 81) rfl)) (hw _ (own_g (i := 80) rfl)) (by decide) (by decide)) (g := (mkF m 73 #[.val (.int pk), .val (.int pb), .val (.int ps), .val (.ref v), .val (.int (pk &&& (3 : Int32))), .val (.ref kd_k), .val (.int pn), .val (.ref op_o)] [(.long (0 : Int64)), (.int pn), (.ref kd_k)])) rfl (by rw [hml]; rfl) (argsL := []) (rest := [(.long (0 : Int64)), (.int pn), (.ref kd_k)]) (lenOf pd_12 rfl) rfl (by show 2 * 0 + _ ≤ _; exact Nat.le_of_eq rfl) (hb hby d9_73) (fun _ _ => ⟨rfl, e21, (by decide : 1 + 0 ≤ _), (by decide : 1 + 0 ≤ _)⟩)
  dsimp only [Pt.U, Pt.locs, Pt.cells, Pt.slots] at X32 l32 y32 z32 st32 hQ32
  subst l32 y32 z32
  obtain ⟨rfl, Nq32, eq32⟩ := hQ32
  have N32 := Fr.app N21 Nq32
  have r32 : own_R p e below _ _ T32 (mkF m 76 #[.val (.int pk), .val (.int pb), .val (.int ps), .val (.ref v), .val (.int (pk &&& (3 : Int32))), .val (.ref kd_k), .val (.int pn), .val (.ref op_o)] [(.ref s_OL), (.long (0 : Int64)), (.int pn), (.ref kd_k)]) := r31.trans fun z_ kt => st32 _ kt
  have e32 : T32.heap = h21 := eq32
  have r33 : own_R p e below _ _ T32 (mkF m 79 #[.val (.int pk), .val (.int pb), .val (.int ps), .val (.ref v), .val (.int (pk &&& (3 : Int32))), .val (.ref kd_k), .val (.int pn), .val (.ref op_o)] [(.int (0 : Int32)), (.ref op_o), (.ref s_OL), (.long (0 : Int64)), (.int pn), (.ref kd_k)]) := r32.trans fun z_ kt => by
    refine XS.aload X32.here hx rfl (hb hby d9_76) rfl rfl ?_
    refine XS.iconst X32.here hx rfl (hb hby d9_78) ?_
    exact kt
  obtain ⟨T34, h34, k34, X34, e34, E34, A34, st34⟩ := newP X32 hx hZ (hw _ (own_g (i := 0) rfl)) e32 (g := (mkF m 79 #[.val (.int pk), .val (.int pb), .val (.int ps), .val (.ref v), .val (.int (pk &&& (3 : Int32))), .val (.ref kd_k), .val (.int pn), .val (.ref op_o)] [(.int (0 : Int32)), (.ref op_o), (.ref s_OL), (.long (0 : Int64)), (.int pn), (.ref kd_k)])) rfl (hb hby d9_79) rfl (by decide) (cap := 0) (by decide) (by decide) (by decide) (by decide)
  obtain ⟨b34, g34⟩ : ∃ z, z = h21.size := ⟨_, rfl⟩
  rw [← g34] at A34 st34
  have r34 : own_R p e below _ _ T34 (mkF m 81 #[.val (.int pk), .val (.int pb), .val (.int ps), .val (.ref v), .val (.int (pk &&& (3 : Int32))), .val (.ref kd_k), .val (.int pn), .val (.ref op_o)] [(.ref b34), (.ref op_o), (.ref s_OL), (.long (0 : Int64)), (.int pn), (.ref kd_k)]) := r33.trans fun z_ kt => st34 _ kt
  have f35 := ((E_v.keep Kq2).keep Kq21)
  have ne_v_b34 : v ≠ b34 := Nat.ne_of_lt (Nat.lt_of_lt_of_le f35.lt (Nat.le_of_eq g34.symm))
  have ne_op_o_b34 : op_o ≠ b34 := Nat.ne_of_lt (Nat.lt_of_lt_of_le p21_0.lt (Nat.le_of_eq g34.symm))
  have g_b34 : n0 ≤ b34 := Nat.le_trans (own_old_size O21) (Nat.le_of_eq g34.symm)
  have sz_b34 : h0.size ≤ b34 := Nat.le_trans K21.1 (Nat.le_of_eq g34.symm)
  have O34 := O21.ext E34
  have K34 := K21.ext E34
  have V34 : Arv Z h34 b34 k34 .long (0 : Int32) [] (.long (0 : Int64)) := (Arv.new A34 (by decide)).pad (pad_rep [] (.long (0 : Int64)) 0)
  have f36 := (f35.ext E34)
  have f37 := (p21_0.ext E34)
  have f38 := (p21_1.ext E34)
  obtain ⟨_, _, ⟨T39, L39, cc39, n39⟩, -, X39, ⟨Lc39, hQ39, l39, y39, z39⟩, st39⟩ := Jvm.LawKit.callS X34 hx (y := (⟨"com/example/wildebeest/wildebeest/core/TraceEvent", "local", "(Lcom/example/wildebeest/wildebeest/core/EventKind;IJLjava/util/OptionalLong;Ljava/util/Optional;[J)Lcom/example/wildebeest/wildebeest/core/TraceEvent;"⟩ : MethodName)) hown (mvT hZ (hw _ (own_g (i := 83) rfl))) (mvT hZ (hw _ (own_g (i := 84) rfl))) (mvT hZ (hw _ (own_g (i := 85) rfl))) (mvT hZ (hw _ (own_g (i := 86) rfl))) (by decide) (backOf (W := 0) (rm_local l Z a0 hw [] (kd_k) (pn) (s_OL) (op_o) (b34) (vv_o) (v) (k34) (fl) (el) (kl) (s_NF) h34 n0 O34 (p2_0) (p2_1) (p2_2) (OE_fl) (OF_fl_elements) (OV_el) (S_TraceEvent_NO_FIELDS) (OE_s_OL) (OF_s_OL_isPresent) (f37) (f38) (p21_2.elim (fun q => Or.inl q.2) fun q => Or.inr ⟨q.2.1, f36⟩) (V34) (own_node_ge hpn)) hZ (hw _ (own_g (i := 86) rfl)) (hw _ (own_g (i := 85) rfl)) (by decide) (by decide)) (g := (mkF m 81 #[.val (.int pk), .val (.int pb), .val (.int ps), .val (.ref v), .val (.int (pk &&& (3 : Int32))), .val (.ref kd_k), .val (.int pn), .val (.ref op_o)] [(.ref b34), (.ref op_o), (.ref s_OL), (.long (0 : Int64)), (.int pn), (.ref kd_k)])) rfl (by rw [hml]; rfl) (argsL := [(.ref kd_k), (.int pn), (.long (0 : Int64)), (.ref s_OL), (.ref op_o), (.ref b34)]) (rest := []) (lenOf pd_13 rfl) rfl (by show 2 * 0 + _ ≤ _; exact Nat.le_of_eq rfl) (hb hby d9_81) (fun _ _ => ⟨rfl, e34, (by decide : 2 + 1 ≤ _), (by decide : 1 + 7 ≤ _)⟩)
  dsimp only [Pt.U, Pt.locs, Pt.cells, Pt.slots] at X39 l39 y39 z39 st39 hQ39
  subst l39 y39 z39
  obtain ⟨h39, e39⟩ : ∃ z, T39.heap = z := ⟨_, rfl⟩
  rw [e39] at hQ39
  obtain ⟨t_39, rfl, Nq39, Kq39, p39_0, p39_1, p39_2, p39_3, p39_4⟩ := hQ39
  have N39 := Fr.app N32 Nq39
  have r39 : own_R p e below _ _ T39 (mkF m 84 #[.val (.int pk), .val (.int pb), .val (.int ps), .val (.ref v), .val (.int (pk &&& (3 : Int32))), .val (.ref kd_k), .val (.int pn), .val (.ref op_o)] [(.ref t_39)]) := r34.trans fun z_ kt => st39 _ kt
  have ne_v_t_39 : v ≠ t_39 := Nat.ne_of_lt (Nat.lt_of_lt_of_le f36.lt p39_0)
  have ne_op_o_t_39 : op_o ≠ t_39 := Nat.ne_of_lt (Nat.lt_of_lt_of_le f37.lt p39_0)
  have ne_b34_t_39 : b34 ≠ t_39 := Nat.ne_of_lt (Nat.lt_of_lt_of_le V34.lt p39_0)
  have g_t_39 : n0 ≤ t_39 := Nat.le_trans (own_old_size O34) p39_0
  have sz_t_39 : h0.size ≤ t_39 := Nat.le_trans K34.1 p39_0
  have O39 := O34.keep Kq39 all0
  have K39 := K34.trans Kq39 all0
  obtain ⟨fs_, hr_, hrun_, hended_, hW_, hsame_⟩ := X39.leave (v := some (.ref t_39)) (fun h => by rw [Bd.returns] at h; cases h)
  refine ⟨_, _, pre0 _ (r39 _ ?_), hrun_, hended_, _, _, rfl, ?_, ⟨_, rfl⟩, hW_, hsame_.mono (by decide) (by decide)⟩
  · exact retOut X39 hx Bd.returns rfl (Or.inr (Or.inr (Or.inr (Or.inr ⟨rfl, rfl, rfl⟩)))) (hb hby d9_84) hr_
  · show Q_event Z pk pb ps v s_OL s_OE s_SEND s_RECEIVE s_REQUEST s_ENTER s_EXIT s_CRASH fl el kl s_NF h0 n0 _ T39.heap _
    rw [e39]
    exact ⟨t_39, kd_k, pn, vv_o, rfl, N39, K39, sz_t_39, p39_1, p39_2, p39_3, p39_4, p21_2.imp id fun q => ⟨q.1, q.2.1⟩, hpn, p2_3, p2_4⟩

theorem d21_0 : decode prog_48_method_6_code 0 = .ok (.aload_n 0, 1) := by decide +kernel
theorem d21_1 : decode prog_48_method_6_code 1 = .ok (.getfield 33, 3) := by decide +kernel
theorem d21_4 : decode prog_48_method_6_code 4 = .ok (.ireturn, 1) := by decide +kernel
theorem ef_teNode (m : MethodId) (a : Addr) : entryFrame m #[(.ref a)] 1 = mkF m 0 #[.val (.ref a)] [] := by first | (simp [entryFrame, mkF, argsToLocals, Value.category]; done) | rfl
def Q_teNode (Z : State) (a : Addr) (pn : Int32) (h0 : Heap) (n0 : Nat) (v_ : Option Value) (h_ : Heap) (L_ : List Loc) : Prop := v_ = some (.int pn) ∧ Fr n0 L_ ∧ h_ = h0
set_option maxRecDepth 65536 in
set_option maxHeartbeats 40000000 in
theorem rm_teNode (l : Launch) (Z : State) (a0 : Array Value) (hw : ∀ d ∈ tables_1, d.before a0 Z = true) (ws : List Jvm.Cond) (a : Addr) (pn : Int32) (h0 : Heap) (n0 : Nat) (O0 : Old Z n0 h0) (F_a_node : Fld Z h0 a "com/example/wildebeest/wildebeest/core/TraceEvent" "node" "I" (.int pn)) :
    MetFree l (⟨"com/example/wildebeest/wildebeest/core/TraceEvent", "node", "()I"⟩ : MethodName) (head1 (Jvm.Cond.code (⟨"com/example/wildebeest/wildebeest/core/TraceEvent", "node", "()I"⟩ : MethodName) prog_48_method_6_code 1 (some .int) :: ws) ({ frames := 0, cells := 0, slots := 0, locals := 0 } : Room)) (fun aa_ U_ => aa_ = #[(.ref a)] ∧ Z.Warmed39 U_.vm ∧ U_.heap = h0) (fun _ _ _ _ _ => True) (fun _ U_ o_ U_' => ∃ v_ L_, o_ = .returned v_ ∧ Q_teNode Z a pn h0 n0 v_ U_'.heap L_ ∧ FrameEnd U_ o_ U_' L_ ({ frames := 0, cells := 0, slots := 0, locals := 0 } : Room).cells ({ frames := 0, cells := 0, slots := 0, locals := 0 } : Room).slots) := by
  refine MetFree.of_bodySF (plainFor_of_name pn_TraceEvent) hisR ?_
  intro p e s m args below meth c s₁ Bd hml0 hP hK
  obtain ⟨rfl, hZ, hh⟩ := hP
  have hx := Bd.exec
  have hby := Bd.bytes
  have hml : c.maxLocals = 1 := hml0
  have hown : s.vm.findClass "com/example/wildebeest/wildebeest/core/TraceEvent" = some m.cls := findClass_of_methodNamed Bd.named
  have hnm := (name_of_methodNamed Bd.named Bd.method).1
  have X0 : Stand p l e ({ frames := 0, cells := 0, slots := 0, locals := 0 } : Room) s m #[(.ref a)] below meth c s₁ [] 0 0 := Stand.of_body Bd
  have e0 : s₁.heap = h0 := by rw [← hh, Bd.state]; rfl
  have N0 := Fr.nil n0
  have pre0 : ∀ z_, Steps p.tables e below (s₁.setTop (mkF m 0 #[.val (.ref a)] [])) z_ → Steps p.tables e below (s₁.setTop (entryFrame m #[(.ref a)] 1)) z_ := fun z_ k_ => castTop (ef_teNode m a) k_
  have r0 : own_R p e below s₁ (mkF m 0 #[.val (.ref a)] []) s₁ (mkF m 0 #[.val (.ref a)] []) := own_R.refl
  have r1 : own_R p e below _ _ s₁ (mkF m 1 #[.val (.ref a)] [(.ref a)]) := r0.trans fun z_ kt => by
    refine XS.aloadN X0.here hx rfl (hb hby d21_0) rfl rfl ?_
    exact kt
  obtain ⟨T2, X2, e2, st2⟩ := getF X0 hx hZ hown (host := "") (Or.inl (hw _ (own_g (i := 130) rfl))) Via.refl e0 F_a_node (g := (mkF m 1 #[.val (.ref a)] [(.ref a)])) rfl rfl (hb hby d21_1)
  have r2 : own_R p e below _ _ T2 (mkF m 4 #[.val (.ref a)] [(.int pn)]) := r1.trans fun z_ kt => st2 _ kt
  obtain ⟨fs_, hr_, hrun_, hended_, hW_, hsame_⟩ := X2.leave (v := some (.int pn)) (fun h => by rw [Bd.returns] at h; cases h)
  refine ⟨_, _, pre0 _ (r2 _ ?_), hrun_, hended_, _, _, rfl, ?_, ⟨_, rfl⟩, hW_, hsame_.mono (by decide) (by decide)⟩
  · exact retOut X2 hx Bd.returns rfl (Or.inl ⟨rfl, Or.inl rfl, _, rfl⟩) (hb hby d21_4) hr_
  · show Q_teNode Z a pn h0 n0 _ T2.heap _
    rw [e2]
    exact ⟨rfl, N0, rfl⟩

theorem d34_0 : decode prog_48_method_5_code 0 = .ok (.aload_n 0, 1) := by decide +kernel
theorem d34_1 : decode prog_48_method_5_code 1 = .ok (.getfield 27, 3) := by decide +kernel
theorem d34_4 : decode prog_48_method_5_code 4 = .ok (.areturn, 1) := by decide +kernel
theorem ef_teKind (m : MethodId) (a : Addr) : entryFrame m #[(.ref a)] 1 = mkF m 0 #[.val (.ref a)] [] := by first | (simp [entryFrame, mkF, argsToLocals, Value.category]; done) | rfl
def Q_teKind (Z : State) (a : Addr) (kd : Addr) (h0 : Heap) (n0 : Nat) (v_ : Option Value) (h_ : Heap) (L_ : List Loc) : Prop := v_ = some (.ref kd) ∧ Fr n0 L_ ∧ h_ = h0
set_option maxRecDepth 65536 in
set_option maxHeartbeats 40000000 in
theorem rm_teKind (l : Launch) (Z : State) (a0 : Array Value) (hw : ∀ d ∈ tables_1, d.before a0 Z = true) (ws : List Jvm.Cond) (a : Addr) (kd : Addr) (h0 : Heap) (n0 : Nat) (O0 : Old Z n0 h0) (F_a_kind : Fld Z h0 a "com/example/wildebeest/wildebeest/core/TraceEvent" "kind" "Lcom/example/wildebeest/wildebeest/core/EventKind;" (.ref kd)) :
    MetFree l (⟨"com/example/wildebeest/wildebeest/core/TraceEvent", "kind", "()Lcom/example/wildebeest/wildebeest/core/EventKind;"⟩ : MethodName) (head1 (Jvm.Cond.code (⟨"com/example/wildebeest/wildebeest/core/TraceEvent", "kind", "()Lcom/example/wildebeest/wildebeest/core/EventKind;"⟩ : MethodName) prog_48_method_5_code 1 (some (.object "com/example/wildebeest/wildebeest/core/EventKind")) :: ws) ({ frames := 0, cells := 0, slots := 0, locals := 0 } : Room)) (fun aa_ U_ => aa_ = #[(.ref a)] ∧ Z.Warmed39 U_.vm ∧ U_.heap = h0) (fun _ _ _ _ _ => True) (fun _ U_ o_ U_' => ∃ v_ L_, o_ = .returned v_ ∧ Q_teKind Z a kd h0 n0 v_ U_'.heap L_ ∧ FrameEnd U_ o_ U_' L_ ({ frames := 0, cells := 0, slots := 0, locals := 0 } : Room).cells ({ frames := 0, cells := 0, slots := 0, locals := 0 } : Room).slots) := by
  refine MetFree.of_bodySF (plainFor_of_name pn_TraceEvent) hisR ?_
  intro p e s m args below meth c s₁ Bd hml0 hP hK
  obtain ⟨rfl, hZ, hh⟩ := hP
  have hx := Bd.exec
  have hby := Bd.bytes
  have hml : c.maxLocals = 1 := hml0
  have hown : s.vm.findClass "com/example/wildebeest/wildebeest/core/TraceEvent" = some m.cls := findClass_of_methodNamed Bd.named
  have hnm := (name_of_methodNamed Bd.named Bd.method).1
  have X0 : Stand p l e ({ frames := 0, cells := 0, slots := 0, locals := 0 } : Room) s m #[(.ref a)] below meth c s₁ [] 0 0 := Stand.of_body Bd
  have e0 : s₁.heap = h0 := by rw [← hh, Bd.state]; rfl
  have N0 := Fr.nil n0
  have pre0 : ∀ z_, Steps p.tables e below (s₁.setTop (mkF m 0 #[.val (.ref a)] [])) z_ → Steps p.tables e below (s₁.setTop (entryFrame m #[(.ref a)] 1)) z_ := fun z_ k_ => castTop (ef_teKind m a) k_
  have r0 : own_R p e below s₁ (mkF m 0 #[.val (.ref a)] []) s₁ (mkF m 0 #[.val (.ref a)] []) := own_R.refl
  have r1 : own_R p e below _ _ s₁ (mkF m 1 #[.val (.ref a)] [(.ref a)]) := r0.trans fun z_ kt => by
    refine XS.aloadN X0.here hx rfl (hb hby d34_0) rfl rfl ?_
    exact kt
  obtain ⟨T2, X2, e2, st2⟩ := getF X0 hx hZ hown (host := "") (Or.inl (hw _ (own_g (i := 128) rfl))) Via.refl e0 F_a_kind (g := (mkF m 1 #[.val (.ref a)] [(.ref a)])) rfl rfl (hb hby d34_1)
  have r2 : own_R p e below _ _ T2 (mkF m 4 #[.val (.ref a)] [(.ref kd)]) := r1.trans fun z_ kt => st2 _ kt
  obtain ⟨fs_, hr_, hrun_, hended_, hW_, hsame_⟩ := X2.leave (v := some (.ref kd)) (fun h => by rw [Bd.returns] at h; cases h)
  refine ⟨_, _, pre0 _ (r2 _ ?_), hrun_, hended_, _, _, rfl, ?_, ⟨_, rfl⟩, hW_, hsame_.mono (by decide) (by decide)⟩
  · exact retOut X2 hx Bd.returns rfl (Or.inr (Or.inr (Or.inr (Or.inr ⟨rfl, rfl, rfl⟩)))) (hb hby d34_4) hr_
  · show Q_teKind Z a kd h0 n0 _ T2.heap _
    rw [e2]
    exact ⟨rfl, N0, rfl⟩

theorem d25_0 : decode prog_48_method_9_code 0 = .ok (.aload_n 0, 1) := by decide +kernel
theorem d25_1 : decode prog_48_method_9_code 1 = .ok (.getfield 57, 3) := by decide +kernel
theorem d25_4 : decode prog_48_method_9_code 4 = .ok (.invokestatic 151, 3) := by decide +kernel
theorem d25_7 : decode prog_48_method_9_code 7 = .ok (.areturn, 1) := by decide +kernel
theorem ef_teVecN (m : MethodId) (a : Addr) : entryFrame m #[(.ref a)] 1 = mkF m 0 #[.val (.ref a)] [] := by first | (simp [entryFrame, mkF, argsToLocals, Value.category]; done) | rfl
def Q_teVecN (Z : State) (a : Addr) (s_OE : Addr) (h0 : Heap) (n0 : Nat) (v_ : Option Value) (h_ : Heap) (L_ : List Loc) : Prop := v_ = some (.ref s_OE) ∧ Fr n0 L_ ∧ h_ = h0
set_option maxRecDepth 65536 in
set_option maxHeartbeats 40000000 in
theorem rm_teVecN (l : Launch) (Z : State) (a0 : Array Value) (hw : ∀ d ∈ tables_1, d.before a0 Z = true) (ws : List Jvm.Cond) (a : Addr) (s_OE : Addr) (h0 : Heap) (n0 : Nat) (O0 : Old Z n0 h0) (F_a_vector : Fld Z h0 a "com/example/wildebeest/wildebeest/core/TraceEvent" "vector" "Lcom/example/wildebeest/wildebeest/core/VectorTime;" .null) (S_Optional_EMPTY : Sta Z Z.heap "java/util/Optional" "EMPTY" "Ljava/util/Optional;" (.ref s_OE)) :
    MetFree l (⟨"com/example/wildebeest/wildebeest/core/TraceEvent", "vector", "()Ljava/util/Optional;"⟩ : MethodName) (head1 (Jvm.Cond.code (⟨"com/example/wildebeest/wildebeest/core/TraceEvent", "vector", "()Ljava/util/Optional;"⟩ : MethodName) prog_48_method_9_code 1 (some (.object "java/util/Optional")) :: ws) ({ frames := 1, cells := 0, slots := 0, locals := 12 } : Room)) (fun aa_ U_ => aa_ = #[(.ref a)] ∧ Z.Warmed39 U_.vm ∧ U_.heap = h0) (fun _ _ _ _ _ => True) (fun _ U_ o_ U_' => ∃ v_ L_, o_ = .returned v_ ∧ Q_teVecN Z a s_OE h0 n0 v_ U_'.heap L_ ∧ FrameEnd U_ o_ U_' L_ ({ frames := 1, cells := 0, slots := 0, locals := 12 } : Room).cells ({ frames := 1, cells := 0, slots := 0, locals := 12 } : Room).slots) := by
  refine MetFree.of_bodySF (plainFor_of_name pn_TraceEvent) hisR ?_
  intro p e s m args below meth c s₁ Bd hml0 hP hK
  obtain ⟨rfl, hZ, hh⟩ := hP
  have hx := Bd.exec
  have hby := Bd.bytes
  have hml : c.maxLocals = 1 := hml0
  have hown : s.vm.findClass "com/example/wildebeest/wildebeest/core/TraceEvent" = some m.cls := findClass_of_methodNamed Bd.named
  have hnm := (name_of_methodNamed Bd.named Bd.method).1
  have X0 : Stand p l e ({ frames := 1, cells := 0, slots := 0, locals := 12 } : Room) s m #[(.ref a)] below meth c s₁ [] 0 0 := Stand.of_body Bd
  have e0 : s₁.heap = h0 := by rw [← hh, Bd.state]; rfl
  have N0 := Fr.nil n0
  have pre0 : ∀ z_, Steps p.tables e below (s₁.setTop (mkF m 0 #[.val (.ref a)] [])) z_ → Steps p.tables e below (s₁.setTop (entryFrame m #[(.ref a)] 1)) z_ := fun z_ k_ => castTop (ef_teVecN m a) k_
  have r0 : own_R p e below s₁ (mkF m 0 #[.val (.ref a)] []) s₁ (mkF m 0 #[.val (.ref a)] []) := own_R.refl
  have r1 : own_R p e below _ _ s₁ (mkF m 1 #[.val (.ref a)] [(.ref a)]) := r0.trans fun z_ kt => by
    refine XS.aloadN X0.here hx rfl (hb hby d25_0) rfl rfl ?_
    exact kt
  obtain ⟨T2, X2, e2, st2⟩ := getF X0 hx hZ hown (host := "") (Or.inl (hw _ (own_g (i := 149) rfl))) Via.refl e0 F_a_vector (g := (mkF m 1 #[.val (.ref a)] [(.ref a)])) rfl rfl (hb hby d25_1)
  have r2 : own_R p e below _ _ T2 (mkF m 4 #[.val (.ref a)] [.null]) := r1.trans fun z_ kt => st2 _ kt
  obtain ⟨_, _, ⟨T3, L3, cc3, n3⟩, -, X3, ⟨Lc3, hQ3, l3, y3, z3⟩, st3⟩ := Jvm.LawKit.callS X2 hx (y := (⟨"java/util/Optional", "ofNullable", "(Ljava/lang/Object;)Ljava/util/Optional;"⟩ : MethodName)) hown (mvT hZ (hw _ (own_g (i := 185) rfl))) (mvT hZ (hw _ (own_g (i := 186) rfl))) (mvT hZ (hw _ (own_g (i := 75) rfl))) (mvT hZ (hw _ (own_g (i := 187) rfl))) (by decide) (backOf (W := 0) (rm_opNulN l Z a0 hw [] (s_OE) h0 n0 O0 (S_Optional_EMPTY)) hZ (hw _ (own_g (i := 187) rfl)) (hw _ (own_g (i := 75) rfl)) (by decide) (by decide)) (g := (mkF m 4 #[.val (.ref a)] [.null])) rfl (by rw [hml]; rfl) (argsL := [.null]) (rest := []) (lenOf pd_11 rfl) rfl (by show 2 * 0 + _ ≤ _; exact Nat.le_of_eq rfl) (hb hby d25_4) (fun _ _ => ⟨rfl, e2, (by decide : 0 + 0 ≤ _), (by decide : 0 + 0 ≤ _)⟩)
  dsimp only [Pt.U, Pt.locs, Pt.cells, Pt.slots] at X3 l3 y3 z3 st3 hQ3
  subst l3 y3 z3
  obtain ⟨rfl, Nq3, eq3⟩ := hQ3
  have N3 := Fr.app N0 Nq3
  have r3 : own_R p e below _ _ T3 (mkF m 7 #[.val (.ref a)] [(.ref s_OE)]) := r2.trans fun z_ kt => st3 _ kt
  have e3 : T3.heap = h0 := eq3
  obtain ⟨fs_, hr_, hrun_, hended_, hW_, hsame_⟩ := X3.leave (v := some (.ref s_OE)) (fun h => by rw [Bd.returns] at h; cases h)
  refine ⟨_, _, pre0 _ (r3 _ ?_), hrun_, hended_, _, _, rfl, ?_, ⟨_, rfl⟩, hW_, hsame_.mono (by decide) (by decide)⟩
  · exact retOut X3 hx Bd.returns rfl (Or.inr (Or.inr (Or.inr (Or.inr ⟨rfl, rfl, rfl⟩)))) (hb hby d25_7) hr_
  · show Q_teVecN Z a s_OE h0 n0 _ T3.heap _
    rw [e3]
    exact ⟨rfl, N3, rfl⟩

theorem ef_teVecR (m : MethodId) (a : Addr) : entryFrame m #[(.ref a)] 1 = mkF m 0 #[.val (.ref a)] [] := by first | (simp [entryFrame, mkF, argsToLocals, Value.category]; done) | rfl
def Q_teVecR (Z : State) (a : Addr) (v : Addr) (h0 : Heap) (n0 : Nat) (v_ : Option Value) (h_ : Heap) (L_ : List Loc) : Prop := ∃ (b : Addr), v_ = some (.ref b) ∧ Fr n0 L_ ∧ Keep h0 h_ [] ∧ (h0.size ≤ b) ∧ (Exa Z h_ b "java/util/Optional") ∧ (Fld Z h_ b "java/util/Optional" "value" "Ljava/lang/Object;" (.ref v))
set_option maxRecDepth 65536 in
set_option maxHeartbeats 40000000 in
theorem rm_teVecR (l : Launch) (Z : State) (a0 : Array Value) (hw : ∀ d ∈ tables_1, d.before a0 Z = true) (ws : List Jvm.Cond) (a : Addr) (v : Addr) (h0 : Heap) (n0 : Nat) (O0 : Old Z n0 h0) (F_a_vector : Fld Z h0 a "com/example/wildebeest/wildebeest/core/TraceEvent" "vector" "Lcom/example/wildebeest/wildebeest/core/VectorTime;" (.ref v)) :
    MetFree l (⟨"com/example/wildebeest/wildebeest/core/TraceEvent", "vector", "()Ljava/util/Optional;"⟩ : MethodName) (head1 (Jvm.Cond.code (⟨"com/example/wildebeest/wildebeest/core/TraceEvent", "vector", "()Ljava/util/Optional;"⟩ : MethodName) prog_48_method_9_code 1 (some (.object "java/util/Optional")) :: ws) ({ frames := 3, cells := 1, slots := 1, locals := 38 } : Room)) (fun aa_ U_ => aa_ = #[(.ref a)] ∧ Z.Warmed39 U_.vm ∧ U_.heap = h0) (fun _ _ _ _ _ => True) (fun _ U_ o_ U_' => ∃ v_ L_, o_ = .returned v_ ∧ Q_teVecR Z a v h0 n0 v_ U_'.heap L_ ∧ FrameEnd U_ o_ U_' L_ ({ frames := 3, cells := 1, slots := 1, locals := 38 } : Room).cells ({ frames := 3, cells := 1, slots := 1, locals := 38 } : Room).slots) := by
  refine MetFree.of_bodySF (plainFor_of_name pn_TraceEvent) hisR ?_
  intro p e s m args below meth c s₁ Bd hml0 hP hK
  obtain ⟨rfl, hZ, hh⟩ := hP
  have hx := Bd.exec
  have hby := Bd.bytes
  have hml : c.maxLocals = 1 := hml0
  have hown : s.vm.findClass "com/example/wildebeest/wildebeest/core/TraceEvent" = some m.cls := findClass_of_methodNamed Bd.named
  have hnm := (name_of_methodNamed Bd.named Bd.method).1
  have X0 : Stand p l e ({ frames := 3, cells := 1, slots := 1, locals := 38 } : Room) s m #[(.ref a)] below meth c s₁ [] 0 0 := Stand.of_body Bd
  have e0 : s₁.heap = h0 := by rw [← hh, Bd.state]; rfl
  have N0 := Fr.nil n0
  have K0 : Keep h0 h0 [] := Keep.refl h0 _
  have pre0 : ∀ z_, Steps p.tables e below (s₁.setTop (mkF m 0 #[.val (.ref a)] [])) z_ → Steps p.tables e below (s₁.setTop (entryFrame m #[(.ref a)] 1)) z_ := fun z_ k_ => castTop (ef_teVecR m a) k_
  have r0 : own_R p e below s₁ (mkF m 0 #[.val (.ref a)] []) s₁ (mkF m 0 #[.val (.ref a)] []) := own_R.refl
  have r1 : own_R p e below _ _ s₁ (mkF m 1 #[.val (.ref a)] [(.ref a)]) := r0.trans fun z_ kt => by
    refine XS.aloadN X0.here hx rfl (hb hby d25_0) rfl rfl ?_
    exact kt
  obtain ⟨T2, X2, e2, st2⟩ := getF X0 hx hZ hown (host := "") (Or.inl (hw _ (own_g (i := 149) rfl))) Via.refl e0 F_a_vector (g := (mkF m 1 #[.val (.ref a)] [(.ref a)])) rfl rfl (hb hby d25_1)
  have r2 : own_R p e below _ _ T2 (mkF m 4 #[.val (.ref a)] [(.ref v)]) := r1.trans fun z_ kt => st2 _ kt
  obtain ⟨_, _, ⟨T3, L3, cc3, n3⟩, -, X3, ⟨Lc3, hQ3, l3, y3, z3⟩, st3⟩ := Jvm.LawKit.callS X2 hx (y := (⟨"java/util/Optional", "ofNullable", "(Ljava/lang/Object;)Ljava/util/Optional;"⟩ : MethodName)) hown (mvT hZ (hw _ (own_g (i := 185) rfl))) (mvT hZ (hw _ (own_g (i := 186) rfl))) (mvT hZ (hw _ (own_g (i := 75) rfl))) (mvT hZ (hw _ (own_g (i := 187) rfl))) (by decide) (backOf (W := 0) (rm_opNulR l Z a0 hw [] (v) h0 n0 O0 ) hZ (hw _ (own_g (i := 187) rfl)) (hw _ (own_g (i := 75) rfl)) (by decide) (by decide)) (g := (mkF m 4 #[.val (.ref a)] [(.ref v)])) rfl (by rw [hml]; rfl) (argsL := [(.ref v)]) (rest := []) (lenOf pd_11 rfl) rfl (by show 2 * 0 + _ ≤ _; exact Nat.le_of_eq rfl) (hb hby d25_4) (fun _ _ => ⟨rfl, e2, (by decide : 0 + 1 ≤ _), (by decide : 0 + 1 ≤ _)⟩)
  dsimp only [Pt.U, Pt.locs, Pt.cells, Pt.slots] at X3 l3 y3 z3 st3 hQ3
  subst l3 y3 z3
  obtain ⟨h3, e3⟩ : ∃ z, T3.heap = z := ⟨_, rfl⟩
  rw [e3] at hQ3
  obtain ⟨b_3, rfl, Nq3, Kq3, p3_0, p3_1, p3_2⟩ := hQ3
  have N3 := Fr.app N0 Nq3
  have r3 : own_R p e below _ _ T3 (mkF m 7 #[.val (.ref a)] [(.ref b_3)]) := r2.trans fun z_ kt => st3 _ kt
  have ne_a_b_3 : a ≠ b_3 := Nat.ne_of_lt (Nat.lt_of_lt_of_le F_a_vector.lt p3_0)
  have g_b_3 : n0 ≤ b_3 := Nat.le_trans (own_old_size O0) p3_0
  have sz_b_3 : h0.size ≤ b_3 := Nat.le_trans K0.1 p3_0
  have O3 := O0.keep Kq3 all0
  have K3 := K0.trans Kq3 all0
  obtain ⟨fs_, hr_, hrun_, hended_, hW_, hsame_⟩ := X3.leave (v := some (.ref b_3)) (fun h => by rw [Bd.returns] at h; cases h)
  refine ⟨_, _, pre0 _ (r3 _ ?_), hrun_, hended_, _, _, rfl, ?_, ⟨_, rfl⟩, hW_, hsame_.mono (by decide) (by decide)⟩
  · exact retOut X3 hx Bd.returns rfl (Or.inr (Or.inr (Or.inr (Or.inr ⟨rfl, rfl, rfl⟩)))) (hb hby d25_7) hr_
  · show Q_teVecR Z a v h0 n0 _ T3.heap _
    rw [e3]
    exact ⟨b_3, rfl, N3, K3, sz_b_3, p3_1, p3_2⟩

theorem d22_0 : decode jdk_29_method_65_code 0 = .ok (.iload_n 0, 1) := by decide +kernel
theorem d22_1 : decode jdk_29_method_65_code 1 = .ok (.iload_n 1, 1) := by decide +kernel
theorem d22_2 : decode jdk_29_method_65_code 2 = .ok (.if_icmp .lt 7, 3) := by decide +kernel
theorem d22_9 : decode jdk_29_method_65_code 9 = .ok (.iload_n 1, 1) := by decide +kernel
theorem d22_10 : decode jdk_29_method_65_code 10 = .ok (.ireturn, 1) := by decide +kernel
theorem d22_5 : decode jdk_29_method_65_code 5 = .ok (.iload_n 0, 1) := by decide +kernel
theorem d22_6 : decode jdk_29_method_65_code 6 = .ok (.goto 4, 3) := by decide +kernel
theorem ef_maxI (m : MethodId) (px : Int32) (py : Int32) : entryFrame m #[(.int px), (.int py)] 2 = mkF m 0 #[.val (.int px), .val (.int py)] [] := by first | (simp [entryFrame, mkF, argsToLocals, Value.category]; done) | rfl
def Q_maxI (Z : State) (px : Int32) (py : Int32) (r : Int32) (h0 : Heap) (n0 : Nat) (v_ : Option Value) (h_ : Heap) (L_ : List Loc) : Prop := v_ = some (.int r) ∧ Fr n0 L_ ∧ h_ = h0
set_option maxRecDepth 65536 in
set_option maxHeartbeats 40000000 in
theorem rm_maxI (l : Launch) (Z : State) (a0 : Array Value) (hw : ∀ d ∈ tables_1, d.before a0 Z = true) (ws : List Jvm.Cond) (px : Int32) (py : Int32) (r : Int32) (h0 : Heap) (n0 : Nat) (O0 : Old Z n0 h0) (hr0 : (px < py ∧ r = py) ∨ (¬ (px < py) ∧ r = px)) :
    MetFree l (⟨"java/lang/Math", "max", "(II)I"⟩ : MethodName) (head1 (Jvm.Cond.code (⟨"java/lang/Math", "max", "(II)I"⟩ : MethodName) jdk_29_method_65_code 2 (some .int) :: ws) ({ frames := 0, cells := 0, slots := 0, locals := 0 } : Room)) (fun aa_ U_ => aa_ = #[(.int px), (.int py)] ∧ Z.Warmed39 U_.vm ∧ U_.heap = h0) (fun _ _ _ _ _ => True) (fun _ U_ o_ U_' => ∃ v_ L_, o_ = .returned v_ ∧ Q_maxI Z px py r h0 n0 v_ U_'.heap L_ ∧ FrameEnd U_ o_ U_' L_ ({ frames := 0, cells := 0, slots := 0, locals := 0 } : Room).cells ({ frames := 0, cells := 0, slots := 0, locals := 0 } : Room).slots) := by
  refine MetFree.of_bodySF (Jvm.Free.JP.mathPlain rfl (by decide +kernel)) hisR ?_
  intro p e s m args below meth c s₁ Bd hml0 hP hK
  obtain ⟨rfl, hZ, hh⟩ := hP
  have hx := Bd.exec
  have hby := Bd.bytes
  have hml : c.maxLocals = 2 := hml0
  have hown : s.vm.findClass "java/lang/Math" = some m.cls := findClass_of_methodNamed Bd.named
  have hnm := (name_of_methodNamed Bd.named Bd.method).1
  have X0 : Stand p l e ({ frames := 0, cells := 0, slots := 0, locals := 0 } : Room) s m #[(.int px), (.int py)] below meth c s₁ [] 0 0 := Stand.of_body Bd
  have e0 : s₁.heap = h0 := by rw [← hh, Bd.state]; rfl
  have N0 := Fr.nil n0
  have pre0 : ∀ z_, Steps p.tables e below (s₁.setTop (mkF m 0 #[.val (.int px), .val (.int py)] [])) z_ → Steps p.tables e below (s₁.setTop (entryFrame m #[(.int px), (.int py)] 2)) z_ := fun z_ k_ => castTop (ef_maxI m px py) k_
  have r0 : own_R p e below s₁ (mkF m 0 #[.val (.int px), .val (.int py)] []) s₁ (mkF m 0 #[.val (.int px), .val (.int py)] []) := own_R.refl
  rcases hr0 with ⟨q1, qr⟩ | ⟨q1, qr⟩
  · skip
    have r1 : own_R p e below _ _ s₁ (mkF m 10 #[.val (.int px), .val (.int py)] [(.int py)]) := r0.trans fun z_ kt => by
      refine XS.iloadN X0.here hx rfl (hb hby d22_0) rfl ?_
      refine XS.iloadN X0.here hx rfl (hb hby d22_1) rfl ?_
      refine XS.icmpYes X0.here hx rfl (pc0 := 2) (pc' := 9) rfl (hb hby d22_2) rfl (tlt (q1 : px < py)).1 (by decide) (by decide) ?_
      refine XS.iloadN X0.here hx rfl (hb hby d22_9) rfl ?_
      exact kt
    obtain ⟨fs_, hr_, hrun_, hended_, hW_, hsame_⟩ := X0.leave (v := some (.int py)) (fun h => by rw [Bd.returns] at h; cases h)
    refine ⟨_, _, pre0 _ (r1 _ ?_), hrun_, hended_, _, _, rfl, ?_, ⟨_, rfl⟩, hW_, hsame_.mono (by decide) (by decide)⟩
    · exact retOut X0 hx Bd.returns rfl (Or.inl ⟨rfl, Or.inl rfl, _, rfl⟩) (hb hby d22_10) hr_
    · show Q_maxI Z px py r h0 n0 _ s₁.heap _
      rw [e0]
      exact ⟨by rw [qr], N0, rfl⟩
  · skip
    have r2 : own_R p e below _ _ s₁ (mkF m 10 #[.val (.int px), .val (.int py)] [(.int px)]) := r0.trans fun z_ kt => by
      refine XS.iloadN X0.here hx rfl (hb hby d22_0) rfl ?_
      refine XS.iloadN X0.here hx rfl (hb hby d22_1) rfl ?_
      refine XS.icmpNo X0.here hx rfl (hb hby d22_2) rfl (flt (q1 : ¬ (px < py))).1 ?_
      refine XS.iloadN X0.here hx rfl (hb hby d22_5) rfl ?_
      refine XS.goto X0.here hx rfl (pc0 := 6) (pc' := 10) rfl (hb hby d22_6) (by decide) (by decide) ?_
      exact kt
    obtain ⟨fs_, hr_, hrun_, hended_, hW_, hsame_⟩ := X0.leave (v := some (.int px)) (fun h => by rw [Bd.returns] at h; cases h)
    refine ⟨_, _, pre0 _ (r2 _ ?_), hrun_, hended_, _, _, rfl, ?_, ⟨_, rfl⟩, hW_, hsame_.mono (by decide) (by decide)⟩
    · exact retOut X0 hx Bd.returns rfl (Or.inl ⟨rfl, Or.inl rfl, _, rfl⟩) (hb hby d22_10) hr_
    · show Q_maxI Z px py r h0 n0 _ s₁.heap _
      rw [e0]
      exact ⟨by rw [qr], N0, rfl⟩

theorem d24_0 : decode jdk_29_method_69_code 0 = .ok (.iload_n 0, 1) := by decide +kernel
theorem d24_1 : decode jdk_29_method_69_code 1 = .ok (.iload_n 1, 1) := by decide +kernel
theorem d24_2 : decode jdk_29_method_69_code 2 = .ok (.if_icmp .gt 7, 3) := by decide +kernel
theorem d24_9 : decode jdk_29_method_69_code 9 = .ok (.iload_n 1, 1) := by decide +kernel
theorem d24_10 : decode jdk_29_method_69_code 10 = .ok (.ireturn, 1) := by decide +kernel
theorem d24_5 : decode jdk_29_method_69_code 5 = .ok (.iload_n 0, 1) := by decide +kernel
theorem d24_6 : decode jdk_29_method_69_code 6 = .ok (.goto 4, 3) := by decide +kernel
theorem ef_minI (m : MethodId) (px : Int32) (py : Int32) : entryFrame m #[(.int px), (.int py)] 2 = mkF m 0 #[.val (.int px), .val (.int py)] [] := by first | (simp [entryFrame, mkF, argsToLocals, Value.category]; done) | rfl
def Q_minI (Z : State) (px : Int32) (py : Int32) (r : Int32) (h0 : Heap) (n0 : Nat) (v_ : Option Value) (h_ : Heap) (L_ : List Loc) : Prop := v_ = some (.int r) ∧ Fr n0 L_ ∧ h_ = h0
set_option maxRecDepth 65536 in
set_option maxHeartbeats 40000000 in
theorem rm_minI (l : Launch) (Z : State) (a0 : Array Value) (hw : ∀ d ∈ tables_1, d.before a0 Z = true) (ws : List Jvm.Cond) (px : Int32) (py : Int32) (r : Int32) (h0 : Heap) (n0 : Nat) (O0 : Old Z n0 h0) (hr0 : (py < px ∧ r = py) ∨ (¬ (py < px) ∧ r = px)) :
    MetFree l (⟨"java/lang/Math", "min", "(II)I"⟩ : MethodName) (head1 (Jvm.Cond.code (⟨"java/lang/Math", "min", "(II)I"⟩ : MethodName) jdk_29_method_69_code 2 (some .int) :: ws) ({ frames := 0, cells := 0, slots := 0, locals := 0 } : Room)) (fun aa_ U_ => aa_ = #[(.int px), (.int py)] ∧ Z.Warmed39 U_.vm ∧ U_.heap = h0) (fun _ _ _ _ _ => True) (fun _ U_ o_ U_' => ∃ v_ L_, o_ = .returned v_ ∧ Q_minI Z px py r h0 n0 v_ U_'.heap L_ ∧ FrameEnd U_ o_ U_' L_ ({ frames := 0, cells := 0, slots := 0, locals := 0 } : Room).cells ({ frames := 0, cells := 0, slots := 0, locals := 0 } : Room).slots) := by
  refine MetFree.of_bodySF (Jvm.Free.JP.mathPlain rfl (by decide +kernel)) hisR ?_
  intro p e s m args below meth c s₁ Bd hml0 hP hK
  obtain ⟨rfl, hZ, hh⟩ := hP
  have hx := Bd.exec
  have hby := Bd.bytes
  have hml : c.maxLocals = 2 := hml0
  have hown : s.vm.findClass "java/lang/Math" = some m.cls := findClass_of_methodNamed Bd.named
  have hnm := (name_of_methodNamed Bd.named Bd.method).1
  have X0 : Stand p l e ({ frames := 0, cells := 0, slots := 0, locals := 0 } : Room) s m #[(.int px), (.int py)] below meth c s₁ [] 0 0 := Stand.of_body Bd
  have e0 : s₁.heap = h0 := by rw [← hh, Bd.state]; rfl
  have N0 := Fr.nil n0
  have pre0 : ∀ z_, Steps p.tables e below (s₁.setTop (mkF m 0 #[.val (.int px), .val (.int py)] [])) z_ → Steps p.tables e below (s₁.setTop (entryFrame m #[(.int px), (.int py)] 2)) z_ := fun z_ k_ => castTop (ef_minI m px py) k_
  have r0 : own_R p e below s₁ (mkF m 0 #[.val (.int px), .val (.int py)] []) s₁ (mkF m 0 #[.val (.int px), .val (.int py)] []) := own_R.refl
  rcases hr0 with ⟨q1, qr⟩ | ⟨q1, qr⟩
  · skip
    have r1 : own_R p e below _ _ s₁ (mkF m 10 #[.val (.int px), .val (.int py)] [(.int py)]) := r0.trans fun z_ kt => by
      refine XS.iloadN X0.here hx rfl (hb hby d24_0) rfl ?_
      refine XS.iloadN X0.here hx rfl (hb hby d24_1) rfl ?_
      refine XS.icmpYes X0.here hx rfl (pc0 := 2) (pc' := 9) rfl (hb hby d24_2) rfl (tlt (q1 : py < px)).2.2.1 (by decide) (by decide) ?_
      refine XS.iloadN X0.here hx rfl (hb hby d24_9) rfl ?_
      exact kt
    obtain ⟨fs_, hr_, hrun_, hended_, hW_, hsame_⟩ := X0.leave (v := some (.int py)) (fun h => by rw [Bd.returns] at h; cases h)
    refine ⟨_, _, pre0 _ (r1 _ ?_), hrun_, hended_, _, _, rfl, ?_, ⟨_, rfl⟩, hW_, hsame_.mono (by decide) (by decide)⟩
    · exact retOut X0 hx Bd.returns rfl (Or.inl ⟨rfl, Or.inl rfl, _, rfl⟩) (hb hby d24_10) hr_
    · show Q_minI Z px py r h0 n0 _ s₁.heap _
      rw [e0]
      exact ⟨by rw [qr], N0, rfl⟩
  · skip
    have r2 : own_R p e below _ _ s₁ (mkF m 10 #[.val (.int px), .val (.int py)] [(.int px)]) := r0.trans fun z_ kt => by
      refine XS.iloadN X0.here hx rfl (hb hby d24_0) rfl ?_
      refine XS.iloadN X0.here hx rfl (hb hby d24_1) rfl ?_
      refine XS.icmpNo X0.here hx rfl (hb hby d24_2) rfl (flt (q1 : ¬ (py < px))).2.2.1 ?_
      refine XS.iloadN X0.here hx rfl (hb hby d24_5) rfl ?_
      refine XS.goto X0.here hx rfl (pc0 := 6) (pc' := 10) rfl (hb hby d24_6) (by decide) (by decide) ?_
      exact kt
    obtain ⟨fs_, hr_, hrun_, hended_, hW_, hsame_⟩ := X0.leave (v := some (.int px)) (fun h => by rw [Bd.returns] at h; cases h)
    refine ⟨_, _, pre0 _ (r2 _ ?_), hrun_, hended_, _, _, rfl, ?_, ⟨_, rfl⟩, hW_, hsame_.mono (by decide) (by decide)⟩
    · exact retOut X0 hx Bd.returns rfl (Or.inl ⟨rfl, Or.inl rfl, _, rfl⟩) (hb hby d24_10) hr_
    · show Q_minI Z px py r h0 n0 _ s₁.heap _
      rw [e0]
      exact ⟨by rw [qr], N0, rfl⟩

theorem d23_0 : decode jdk_65_method_124_code 0 = .ok (.iload_n 1, 1) := by decide +kernel
theorem d23_1 : decode jdk_65_method_124_code 1 = .ok (.aload_n 0, 1) := by decide +kernel
theorem d23_2 : decode jdk_65_method_124_code 2 = .ok (.arraylength, 1) := by decide +kernel
theorem d23_3 : decode jdk_65_method_124_code 3 = .ok (.if_icmp .ne 11, 3) := by decide +kernel
theorem d23_14 : decode jdk_65_method_124_code 14 = .ok (.iload_n 1, 1) := by decide +kernel
theorem d23_15 : decode jdk_65_method_124_code 15 = .ok (.newarray .long, 2) := by decide +kernel
theorem d23_17 : decode jdk_65_method_124_code 17 = .ok (.astore_n 2, 1) := by decide +kernel
theorem d23_18 : decode jdk_65_method_124_code 18 = .ok (.aload_n 0, 1) := by decide +kernel
theorem d23_19 : decode jdk_65_method_124_code 19 = .ok (.iconst 0, 1) := by decide +kernel
theorem d23_20 : decode jdk_65_method_124_code 20 = .ok (.aload_n 2, 1) := by decide +kernel
theorem d23_21 : decode jdk_65_method_124_code 21 = .ok (.iconst 0, 1) := by decide +kernel
theorem d23_22 : decode jdk_65_method_124_code 22 = .ok (.aload_n 0, 1) := by decide +kernel
theorem d23_23 : decode jdk_65_method_124_code 23 = .ok (.arraylength, 1) := by decide +kernel
theorem d23_24 : decode jdk_65_method_124_code 24 = .ok (.iload_n 1, 1) := by decide +kernel
theorem d23_25 : decode jdk_65_method_124_code 25 = .ok (.invokestatic 304, 3) := by decide +kernel
theorem pd_14 : parseMethodDescriptor "(II)I" = some ⟨[.int, .int], some .int⟩ := by decide +kernel
theorem d23_28 : decode jdk_65_method_124_code 28 = .ok (.invokestatic 150, 3) := by decide +kernel
theorem d23_31 : decode jdk_65_method_124_code 31 = .ok (.aload_n 2, 1) := by decide +kernel
theorem d23_32 : decode jdk_65_method_124_code 32 = .ok (.areturn, 1) := by decide +kernel
theorem pn_Arrays : plainName "java/util/Arrays" = true := by first | (simp [plainName, overriddenIn]; done) | decide +kernel
theorem ef_copy02 (m : MethodId) (aa : Addr) : entryFrame m #[(.ref aa), (.int (2 : Int32))] 3 = mkF m 0 #[.val (.ref aa), .val (.int (2 : Int32)), .unset] [] := by first | (simp [entryFrame, mkF, argsToLocals, Value.category]; done) | rfl
def Q_copy02 (Z : State) (aa : Addr) (ka : ClassId) (vs : List Value) (h0 : Heap) (n0 : Nat) (v_ : Option Value) (h_ : Heap) (L_ : List Loc) : Prop := ∃ (b : Addr) (kb : ClassId) (vb : List Value), v_ = some (.ref b) ∧ Fr n0 L_ ∧ Keep h0 h_ [] ∧ (h0.size ≤ b) ∧ (Arv Z h_ b kb .long (2 : Int32) vb (.long (0 : Int64))) ∧ (vb.length = 2)
set_option maxRecDepth 65536 in
set_option maxHeartbeats 40000000 in
theorem rm_copy02 (l : Launch) (Z : State) (a0 : Array Value) (hw : ∀ d ∈ tables_1, d.before a0 Z = true) (ws : List Jvm.Cond) (aa : Addr) (ka : ClassId) (vs : List Value) (h0 : Heap) (n0 : Nat) (O0 : Old Z n0 h0) (V_aa : Arv Z h0 aa ka .long (0 : Int32) vs (.long (0 : Int64))) :
    MetFree l (⟨"java/util/Arrays", "copyOf", "([JI)[J"⟩ : MethodName) (head1 (Jvm.Cond.code (⟨"java/util/Arrays", "copyOf", "([JI)[J"⟩ : MethodName) jdk_65_method_124_code 3 (some (.array .long)) :: ws) ({ frames := 1, cells := 1, slots := 2, locals := 40 } : Room)) (fun aa_ U_ => aa_ = #[(.ref aa), (.int (2 : Int32))] ∧ Z.Warmed39 U_.vm ∧ U_.heap = h0) (fun _ _ _ _ _ => True) (fun _ U_ o_ U_' => ∃ v_ L_, o_ = .returned v_ ∧ Q_copy02 Z aa ka vs h0 n0 v_ U_'.heap L_ ∧ FrameEnd U_ o_ U_' L_ ({ frames := 1, cells := 1, slots := 2, locals := 40 } : Room).cells ({ frames := 1, cells := 1, slots := 2, locals := 40 } : Room).slots) := by
  refine MetFree.of_bodySF (plainFor_of_name pn_Arrays) hisR ?_
  intro p e s m args below meth c s₁ Bd hml0 hP hK
  obtain ⟨rfl, hZ, hh⟩ := hP
  have hx := Bd.exec
  have hby := Bd.bytes
  have hml : c.maxLocals = 3 := hml0
  have hown : s.vm.findClass "java/util/Arrays" = some m.cls := findClass_of_methodNamed Bd.named
  have hnm := (name_of_methodNamed Bd.named Bd.method).1
  have X0 : Stand p l e ({ frames := 1, cells := 1, slots := 2, locals := 40 } : Room) s m #[(.ref aa), (.int (2 : Int32))] below meth c s₁ [] 0 0 := Stand.of_body Bd
  have e0 : s₁.heap = h0 := by rw [← hh, Bd.state]; rfl
  have N0 := Fr.nil n0
  have K0 : Keep h0 h0 [] := Keep.refl h0 _
  have pre0 : ∀ z_, Steps p.tables e below (s₁.setTop (mkF m 0 #[.val (.ref aa), .val (.int (2 : Int32)), .unset] [])) z_ → Steps p.tables e below (s₁.setTop (entryFrame m #[(.ref aa), (.int (2 : Int32))] 3)) z_ := fun z_ k_ => castTop (ef_copy02 m aa) k_
  have r0 : own_R p e below s₁ (mkF m 0 #[.val (.ref aa), .val (.int (2 : Int32)), .unset] []) s₁ (mkF m 0 #[.val (.ref aa), .val (.int (2 : Int32)), .unset] []) := own_R.refl
  have r2 : own_R p e below _ _ s₁ (mkF m 2 #[.val (.ref aa), .val (.int (2 : Int32)), .unset] [(.ref aa), (.int (2 : Int32))]) := r0.trans fun z_ kt => by
    refine XS.iloadN X0.here hx rfl (hb hby d23_0) rfl ?_
    refine XS.aloadN X0.here hx rfl (hb hby d23_1) rfl rfl ?_
    exact kt
  obtain ⟨cl1, Ar1, q1, S1, M1, H1, G1⟩ := id V_aa
  have r3 : own_R p e below _ _ s₁ (mkF m 15 #[.val (.ref aa), .val (.int (2 : Int32)), .unset] [(.int (2 : Int32))]) := r2.trans fun z_ kt => by
    refine X0.arraylength hx (by rw [e0]; exact Ar1.1) (State.isArrayOf_alike hZ.alike Ar1.2.1) (g := (mkF m 2 #[.val (.ref aa), .val (.int (2 : Int32)), .unset] [(.ref aa), (.int (2 : Int32))])) rfl rfl (hb hby d23_2) _ ?_
    rw [len_of S1 M1]
    refine XS.icmpYes X0.here hx rfl (pc0 := 3) (pc' := 14) rfl (hb hby d23_3) rfl (feq (by decide : ¬ ((2 : Int32) = (0 : Int32)))).2 (by decide) (by decide) ?_
    refine XS.iloadN X0.here hx rfl (hb hby d23_14) rfl ?_
    exact kt
  obtain ⟨T4, h4, k4, X4, e4, E4, A4, st4⟩ := newP X0 hx hZ (hw _ (own_g (i := 0) rfl)) e0 (g := (mkF m 15 #[.val (.ref aa), .val (.int (2 : Int32)), .unset] [(.int (2 : Int32))])) rfl (hb hby d23_15) rfl (by decide) (cap := 2) (by decide) (by decide) (by decide) (by decide)
  obtain ⟨b4, g4⟩ : ∃ z, z = h0.size := ⟨_, rfl⟩
  rw [← g4] at A4 st4
  have r4 : own_R p e below _ _ T4 (mkF m 17 #[.val (.ref aa), .val (.int (2 : Int32)), .unset] [(.ref b4)]) := r3.trans fun z_ kt => st4 _ kt
  have ne_aa_b4 : aa ≠ b4 := Nat.ne_of_lt (Nat.lt_of_lt_of_le V_aa.lt (Nat.le_of_eq g4.symm))
  have g_b4 : n0 ≤ b4 := Nat.le_trans (own_old_size O0) (Nat.le_of_eq g4.symm)
  have sz_b4 : h0.size ≤ b4 := Nat.le_trans K0.1 (Nat.le_of_eq g4.symm)
  have O4 := O0.ext E4
  have K4 := K0.ext E4
  have V4 : Arv Z h4 b4 k4 .long (2 : Int32) [(.long (0 : Int64)), (.long (0 : Int64))] (.long (0 : Int64)) := (Arv.new A4 (by decide)).pad (pad_rep [] (.long (0 : Int64)) 2)
  have f5 := (V_aa.ext E4)
  have r7 : own_R p e below _ _ T4 (mkF m 23 #[.val (.ref aa), .val (.int (2 : Int32)), .val (.ref b4)] [(.ref aa), (.int (0 : Int32)), (.ref b4), (.int (0 : Int32)), (.ref aa)]) := r4.trans fun z_ kt => by
    refine XS.astoreN X4.here hx rfl (hb hby d23_17) rfl rfl (l' := #[.val (.ref aa), .val (.int (2 : Int32)), .val (.ref b4)]) rfl ?_
    refine XS.aloadN X4.here hx rfl (hb hby d23_18) rfl rfl ?_
    refine XS.iconst X4.here hx rfl (hb hby d23_19) ?_
    refine XS.aloadN X4.here hx rfl (hb hby d23_20) rfl rfl ?_
    refine XS.iconst X4.here hx rfl (hb hby d23_21) ?_
    refine XS.aloadN X4.here hx rfl (hb hby d23_22) rfl rfl ?_
    exact kt
  obtain ⟨cl6, Ar6, q6, S6, M6, H6, G6⟩ := id f5
  have r8 : own_R p e below _ _ T4 (mkF m 25 #[.val (.ref aa), .val (.int (2 : Int32)), .val (.ref b4)] [(.int (2 : Int32)), (.int (0 : Int32)), (.int (0 : Int32)), (.ref b4), (.int (0 : Int32)), (.ref aa)]) := r7.trans fun z_ kt => by
    refine X4.arraylength hx (by rw [e4]; exact Ar6.1) (State.isArrayOf_alike hZ.alike Ar6.2.1) (g := (mkF m 23 #[.val (.ref aa), .val (.int (2 : Int32)), .val (.ref b4)] [(.ref aa), (.int (0 : Int32)), (.ref b4), (.int (0 : Int32)), (.ref aa)])) rfl rfl (hb hby d23_23) _ ?_
    rw [len_of S6 M6]
    refine XS.iloadN X4.here hx rfl (hb hby d23_24) rfl ?_
    exact kt
  obtain ⟨_, _, ⟨T9, L9, cc9, n9⟩, -, X9, ⟨Lc9, hQ9, l9, y9, z9⟩, st9⟩ := Jvm.LawKit.callS X4 hx (y := (⟨"java/lang/Math", "min", "(II)I"⟩ : MethodName)) hown (mvT hZ (hw _ (own_g (i := 173) rfl))) (mvT hZ (hw _ (own_g (i := 174) rfl))) (mvT hZ (hw _ (own_g (i := 167) rfl))) (mvT hZ (hw _ (own_g (i := 175) rfl))) (by decide) (backOf (W := 4) (rm_minI l Z a0 hw [] ((0 : Int32)) ((2 : Int32)) ((0 : Int32)) h4 n0 O4 (Or.inr ⟨by decide, rfl⟩)) hZ (hw _ (own_g (i := 175) rfl)) (hw _ (own_g (i := 167) rfl)) (by decide) (by decide)) (g := (mkF m 25 #[.val (.ref aa), .val (.int (2 : Int32)), .val (.ref b4)] [(.int (2 : Int32)), (.int (0 : Int32)), (.int (0 : Int32)), (.ref b4), (.int (0 : Int32)), (.ref aa)])) rfl (by rw [hml]; rfl) (argsL := [(.int (0 : Int32)), (.int (2 : Int32))]) (rest := [(.int (0 : Int32)), (.ref b4), (.int (0 : Int32)), (.ref aa)]) (lenOf pd_14 rfl) rfl (by show 2 * 0 + _ ≤ _; exact Nat.le_of_eq rfl) (hb hby d23_25) (fun _ _ => ⟨rfl, e4, (by decide : 1 + 0 ≤ _), (by decide : 2 + 0 ≤ _)⟩)
  dsimp only [Pt.U, Pt.locs, Pt.cells, Pt.slots] at X9 l9 y9 z9 st9 hQ9
  subst l9 y9 z9
  obtain ⟨rfl, Nq9, eq9⟩ := hQ9
  have N9 := Fr.app N0 Nq9
  have r9 : own_R p e below _ _ T9 (mkF m 28 #[.val (.ref aa), .val (.int (2 : Int32)), .val (.ref b4)] [(.int (0 : Int32)), (.int (0 : Int32)), (.ref b4), (.int (0 : Int32)), (.ref aa)]) := r8.trans fun z_ kt => st9 _ kt
  have e9 : T9.heap = h4 := eq9
  obtain ⟨T10, h10, L10, X10, e10, N10, Kq10, V10, st10⟩ := cpA X9 hx hZ hown (hw _ (own_g (i := 176) rfl)) (hw _ (own_g (i := 179) rfl)) (hw _ (own_g (i := 177) rfl)) (hw _ (own_g (i := 178) rfl)) e9 f5 V4 (Or.inl ⟨rfl, rfl⟩) (sp := (0 : Int32)) (dp := (0 : Int32)) (nn := (0 : Int32)) (by decide) (by decide) (by decide) (by decide) (by decide) rfl (by decide) N9 g_b4 (g := (mkF m 28 #[.val (.ref aa), .val (.int (2 : Int32)), .val (.ref b4)] [(.int (0 : Int32)), (.int (0 : Int32)), (.ref b4), (.int (0 : Int32)), (.ref aa)])) rfl (by rw [hml]; rfl) rfl (hb hby d23_28) (by decide) (W := 0) (by show 2 * 0 + _ ≤ _; exact Nat.le_of_eq rfl) (by decide)
  have r10 : own_R p e below _ _ T10 (mkF m 31 #[.val (.ref aa), .val (.int (2 : Int32)), .val (.ref b4)] []) := r9.trans fun z_ kt => st10 _ kt
  have O10 := O4.keep Kq10 (allS g_b4 all0)
  have K10 := K4.trans Kq10 (allS (Or.inr sz_b4) all0)
  obtain ⟨vb10, hvb10⟩ : ∃ z, z = ([(.long (0 : Int64)), (.long (0 : Int64))].take ((0 : Int32)).toNatClampNeg ++ (List.range ((0 : Int32)).toNatClampNeg).map (fun i => (vs).getD (((0 : Int32)).toNatClampNeg + i) (.long (0 : Int64))) ++ ([(.long (0 : Int64)), (.long (0 : Int64))]).drop (((0 : Int32)).toNatClampNeg + ((0 : Int32)).toNatClampNeg)) := ⟨_, rfl⟩
  rw [← hvb10] at V10
  have hl10 : vb10.length = 2 := by rw [hvb10]; rfl
  have r11 : own_R p e below _ _ T10 (mkF m 32 #[.val (.ref aa), .val (.int (2 : Int32)), .val (.ref b4)] [(.ref b4)]) := r10.trans fun z_ kt => by
    refine XS.aloadN X10.here hx rfl (hb hby d23_31) rfl rfl ?_
    exact kt
  obtain ⟨fs_, hr_, hrun_, hended_, hW_, hsame_⟩ := X10.leave (v := some (.ref b4)) (fun h => by rw [Bd.returns] at h; cases h)
  refine ⟨_, _, pre0 _ (r11 _ ?_), hrun_, hended_, _, _, rfl, ?_, ⟨_, rfl⟩, hW_, hsame_.mono (by decide) (by decide)⟩
  · exact retOut X10 hx Bd.returns rfl (Or.inr (Or.inr (Or.inr (Or.inr ⟨rfl, rfl, rfl⟩)))) (hb hby d23_32) hr_
  · show Q_copy02 Z aa ka vs h0 n0 _ T10.heap _
    rw [e10]
    exact ⟨b4, k4, vb10, rfl, N10, K10, sz_b4, V10, hl10⟩

theorem ef_copy03 (m : MethodId) (aa : Addr) : entryFrame m #[(.ref aa), (.int (3 : Int32))] 3 = mkF m 0 #[.val (.ref aa), .val (.int (3 : Int32)), .unset] [] := by first | (simp [entryFrame, mkF, argsToLocals, Value.category]; done) | rfl
def Q_copy03 (Z : State) (aa : Addr) (ka : ClassId) (vs : List Value) (h0 : Heap) (n0 : Nat) (v_ : Option Value) (h_ : Heap) (L_ : List Loc) : Prop := ∃ (b : Addr) (kb : ClassId) (vb : List Value), v_ = some (.ref b) ∧ Fr n0 L_ ∧ Keep h0 h_ [] ∧ (h0.size ≤ b) ∧ (Arv Z h_ b kb .long (3 : Int32) vb (.long (0 : Int64))) ∧ (vb.length = 3)
set_option maxRecDepth 65536 in
set_option maxHeartbeats 40000000 in
theorem rm_copy03 (l : Launch) (Z : State) (a0 : Array Value) (hw : ∀ d ∈ tables_1, d.before a0 Z = true) (ws : List Jvm.Cond) (aa : Addr) (ka : ClassId) (vs : List Value) (h0 : Heap) (n0 : Nat) (O0 : Old Z n0 h0) (V_aa : Arv Z h0 aa ka .long (0 : Int32) vs (.long (0 : Int64))) :
    MetFree l (⟨"java/util/Arrays", "copyOf", "([JI)[J"⟩ : MethodName) (head1 (Jvm.Cond.code (⟨"java/util/Arrays", "copyOf", "([JI)[J"⟩ : MethodName) jdk_65_method_124_code 3 (some (.array .long)) :: ws) ({ frames := 1, cells := 1, slots := 3, locals := 40 } : Room)) (fun aa_ U_ => aa_ = #[(.ref aa), (.int (3 : Int32))] ∧ Z.Warmed39 U_.vm ∧ U_.heap = h0) (fun _ _ _ _ _ => True) (fun _ U_ o_ U_' => ∃ v_ L_, o_ = .returned v_ ∧ Q_copy03 Z aa ka vs h0 n0 v_ U_'.heap L_ ∧ FrameEnd U_ o_ U_' L_ ({ frames := 1, cells := 1, slots := 3, locals := 40 } : Room).cells ({ frames := 1, cells := 1, slots := 3, locals := 40 } : Room).slots) := by
  refine MetFree.of_bodySF (plainFor_of_name pn_Arrays) hisR ?_
  intro p e s m args below meth c s₁ Bd hml0 hP hK
  obtain ⟨rfl, hZ, hh⟩ := hP
  have hx := Bd.exec
  have hby := Bd.bytes
  have hml : c.maxLocals = 3 := hml0
  have hown : s.vm.findClass "java/util/Arrays" = some m.cls := findClass_of_methodNamed Bd.named
  have hnm := (name_of_methodNamed Bd.named Bd.method).1
  have X0 : Stand p l e ({ frames := 1, cells := 1, slots := 3, locals := 40 } : Room) s m #[(.ref aa), (.int (3 : Int32))] below meth c s₁ [] 0 0 := Stand.of_body Bd
  have e0 : s₁.heap = h0 := by rw [← hh, Bd.state]; rfl
  have N0 := Fr.nil n0
  have K0 : Keep h0 h0 [] := Keep.refl h0 _
  have pre0 : ∀ z_, Steps p.tables e below (s₁.setTop (mkF m 0 #[.val (.ref aa), .val (.int (3 : Int32)), .unset] [])) z_ → Steps p.tables e below (s₁.setTop (entryFrame m #[(.ref aa), (.int (3 : Int32))] 3)) z_ := fun z_ k_ => castTop (ef_copy03 m aa) k_
  have r0 : own_R p e below s₁ (mkF m 0 #[.val (.ref aa), .val (.int (3 : Int32)), .unset] []) s₁ (mkF m 0 #[.val (.ref aa), .val (.int (3 : Int32)), .unset] []) := own_R.refl
  have r2 : own_R p e below _ _ s₁ (mkF m 2 #[.val (.ref aa), .val (.int (3 : Int32)), .unset] [(.ref aa), (.int (3 : Int32))]) := r0.trans fun z_ kt => by
    refine XS.iloadN X0.here hx rfl (hb hby d23_0) rfl ?_
    refine XS.aloadN X0.here hx rfl (hb hby d23_1) rfl rfl ?_
    exact kt
  obtain ⟨cl1, Ar1, q1, S1, M1, H1, G1⟩ := id V_aa
  have r3 : own_R p e below _ _ s₁ (mkF m 15 #[.val (.ref aa), .val (.int (3 : Int32)), .unset] [(.int (3 : Int32))]) := r2.trans fun z_ kt => by
    refine X0.arraylength hx (by rw [e0]; exact Ar1.1) (State.isArrayOf_alike hZ.alike Ar1.2.1) (g := (mkF m 2 #[.val (.ref aa), .val (.int (3 : Int32)), .unset] [(.ref aa), (.int (3 : Int32))])) rfl rfl (hb hby d23_2) _ ?_
    rw [len_of S1 M1]
    refine XS.icmpYes X0.here hx rfl (pc0 := 3) (pc' := 14) rfl (hb hby d23_3) rfl (feq (by decide : ¬ ((3 : Int32) = (0 : Int32)))).2 (by decide) (by decide) ?_
    refine XS.iloadN X0.here hx rfl (hb hby d23_14) rfl ?_
    exact kt
  obtain ⟨T4, h4, k4, X4, e4, E4, A4, st4⟩ := newP X0 hx hZ (hw _ (own_g (i := 0) rfl)) e0 (g := (mkF m 15 #[.val (.ref aa), .val (.int (3 : Int32)), .unset] [(.int (3 : Int32))])) rfl (hb hby d23_15) rfl (by decide) (cap := 3) (by decide) (by decide) (by decide) (by decide)
  obtain ⟨b4, g4⟩ : ∃ z, z = h0.size := ⟨_, rfl⟩
  rw [← g4] at A4 st4
  have r4 : own_R p e below _ _ T4 (mkF m 17 #[.val (.ref aa), .val (.int (3 : Int32)), .unset] [(.ref b4)]) := r3.trans fun z_ kt => st4 _ kt
  have ne_aa_b4 : aa ≠ b4 := Nat.ne_of_lt (Nat.lt_of_lt_of_le V_aa.lt (Nat.le_of_eq g4.symm))
  have g_b4 : n0 ≤ b4 := Nat.le_trans (own_old_size O0) (Nat.le_of_eq g4.symm)
  have sz_b4 : h0.size ≤ b4 := Nat.le_trans K0.1 (Nat.le_of_eq g4.symm)
  have O4 := O0.ext E4
  have K4 := K0.ext E4
  have V4 : Arv Z h4 b4 k4 .long (3 : Int32) [(.long (0 : Int64)), (.long (0 : Int64)), (.long (0 : Int64))] (.long (0 : Int64)) := (Arv.new A4 (by decide)).pad (pad_rep [] (.long (0 : Int64)) 3)
  have f5 := (V_aa.ext E4)
  have r7 : own_R p e below _ _ T4 (mkF m 23 #[.val (.ref aa), .val (.int (3 : Int32)), .val (.ref b4)] [(.ref aa), (.int (0 : Int32)), (.ref b4), (.int (0 : Int32)), (.ref aa)]) := r4.trans fun z_ kt => by
    refine XS.astoreN X4.here hx rfl (hb hby d23_17) rfl rfl (l' := #[.val (.ref aa), .val (.int (3 : Int32)), .val (.ref b4)]) rfl ?_
    refine XS.aloadN X4.here hx rfl (hb hby d23_18) rfl rfl ?_
    refine XS.iconst X4.here hx rfl (hb hby d23_19) ?_
    refine XS.aloadN X4.here hx rfl (hb hby d23_20) rfl rfl ?_
    refine XS.iconst X4.here hx rfl (hb hby d23_21) ?_
    refine XS.aloadN X4.here hx rfl (hb hby d23_22) rfl rfl ?_
    exact kt
  obtain ⟨cl6, Ar6, q6, S6, M6, H6, G6⟩ := id f5
  have r8 : own_R p e below _ _ T4 (mkF m 25 #[.val (.ref aa), .val (.int (3 : Int32)), .val (.ref b4)] [(.int (3 : Int32)), (.int (0 : Int32)), (.int (0 : Int32)), (.ref b4), (.int (0 : Int32)), (.ref aa)]) := r7.trans fun z_ kt => by
    refine X4.arraylength hx (by rw [e4]; exact Ar6.1) (State.isArrayOf_alike hZ.alike Ar6.2.1) (g := (mkF m 23 #[.val (.ref aa), .val (.int (3 : Int32)), .val (.ref b4)] [(.ref aa), (.int (0 : Int32)), (.ref b4), (.int (0 : Int32)), (.ref aa)])) rfl rfl (hb hby d23_23) _ ?_
    rw [len_of S6 M6]
    refine XS.iloadN X4.here hx rfl (hb hby d23_24) rfl ?_
    exact kt
  obtain ⟨_, _, ⟨T9, L9, cc9, n9⟩, -, X9, ⟨Lc9, hQ9, l9, y9, z9⟩, st9⟩ := Jvm.LawKit.callS X4 hx (y := (⟨"java/lang/Math", "min", "(II)I"⟩ : MethodName)) hown (mvT hZ (hw _ (own_g (i := 173) rfl))) (mvT hZ (hw _ (own_g (i := 174) rfl))) (mvT hZ (hw _ (own_g (i := 167) rfl))) (mvT hZ (hw _ (own_g (i := 175) rfl))) (by decide) (backOf (W := 4) (rm_minI l Z a0 hw [] ((0 : Int32)) ((3 : Int32)) ((0 : Int32)) h4 n0 O4 (Or.inr ⟨by decide, rfl⟩)) hZ (hw _ (own_g (i := 175) rfl)) (hw _ (own_g (i := 167) rfl)) (by decide) (by decide)) (g := (mkF m 25 #[.val (.ref aa), .val (.int (3 : Int32)), .val (.ref b4)] [(.int (3 : Int32)), (.int (0 : Int32)), (.int (0 : Int32)), (.ref b4), (.int (0 : Int32)), (.ref aa)])) rfl (by rw [hml]; rfl) (argsL := [(.int (0 : Int32)), (.int (3 : Int32))]) (rest := [(.int (0 : Int32)), (.ref b4), (.int (0 : Int32)), (.ref aa)]) (lenOf pd_14 rfl) rfl (by show 2 * 0 + _ ≤ _; exact Nat.le_of_eq rfl) (hb hby d23_25) (fun _ _ => ⟨rfl, e4, (by decide : 1 + 0 ≤ _), (by decide : 3 + 0 ≤ _)⟩)
  dsimp only [Pt.U, Pt.locs, Pt.cells, Pt.slots] at X9 l9 y9 z9 st9 hQ9
  subst l9 y9 z9
  obtain ⟨rfl, Nq9, eq9⟩ := hQ9
  have N9 := Fr.app N0 Nq9
  have r9 : own_R p e below _ _ T9 (mkF m 28 #[.val (.ref aa), .val (.int (3 : Int32)), .val (.ref b4)] [(.int (0 : Int32)), (.int (0 : Int32)), (.ref b4), (.int (0 : Int32)), (.ref aa)]) := r8.trans fun z_ kt => st9 _ kt
  have e9 : T9.heap = h4 := eq9
  obtain ⟨T10, h10, L10, X10, e10, N10, Kq10, V10, st10⟩ := cpA X9 hx hZ hown (hw _ (own_g (i := 176) rfl)) (hw _ (own_g (i := 179) rfl)) (hw _ (own_g (i := 177) rfl)) (hw _ (own_g (i := 178) rfl)) e9 f5 V4 (Or.inl ⟨rfl, rfl⟩) (sp := (0 : Int32)) (dp := (0 : Int32)) (nn := (0 : Int32)) (by decide) (by decide) (by decide) (by decide) (by decide) rfl (by decide) N9 g_b4 (g := (mkF m 28 #[.val (.ref aa), .val (.int (3 : Int32)), .val (.ref b4)] [(.int (0 : Int32)), (.int (0 : Int32)), (.ref b4), (.int (0 : Int32)), (.ref aa)])) rfl (by rw [hml]; rfl) rfl (hb hby d23_28) (by decide) (W := 0) (by show 2 * 0 + _ ≤ _; exact Nat.le_of_eq rfl) (by decide)
  have r10 : own_R p e below _ _ T10 (mkF m 31 #[.val (.ref aa), .val (.int (3 : Int32)), .val (.ref b4)] []) := r9.trans fun z_ kt => st10 _ kt
  have O10 := O4.keep Kq10 (allS g_b4 all0)
  have K10 := K4.trans Kq10 (allS (Or.inr sz_b4) all0)
  obtain ⟨vb10, hvb10⟩ : ∃ z, z = ([(.long (0 : Int64)), (.long (0 : Int64)), (.long (0 : Int64))].take ((0 : Int32)).toNatClampNeg ++ (List.range ((0 : Int32)).toNatClampNeg).map (fun i => (vs).getD (((0 : Int32)).toNatClampNeg + i) (.long (0 : Int64))) ++ ([(.long (0 : Int64)), (.long (0 : Int64)), (.long (0 : Int64))]).drop (((0 : Int32)).toNatClampNeg + ((0 : Int32)).toNatClampNeg)) := ⟨_, rfl⟩
  rw [← hvb10] at V10
  have hl10 : vb10.length = 3 := by rw [hvb10]; rfl
  have r11 : own_R p e below _ _ T10 (mkF m 32 #[.val (.ref aa), .val (.int (3 : Int32)), .val (.ref b4)] [(.ref b4)]) := r10.trans fun z_ kt => by
    refine XS.aloadN X10.here hx rfl (hb hby d23_31) rfl rfl ?_
    exact kt
  obtain ⟨fs_, hr_, hrun_, hended_, hW_, hsame_⟩ := X10.leave (v := some (.ref b4)) (fun h => by rw [Bd.returns] at h; cases h)
  refine ⟨_, _, pre0 _ (r11 _ ?_), hrun_, hended_, _, _, rfl, ?_, ⟨_, rfl⟩, hW_, hsame_.mono (by decide) (by decide)⟩
  · exact retOut X10 hx Bd.returns rfl (Or.inr (Or.inr (Or.inr (Or.inr ⟨rfl, rfl, rfl⟩)))) (hb hby d23_32) hr_
  · show Q_copy03 Z aa ka vs h0 n0 _ T10.heap _
    rw [e10]
    exact ⟨b4, k4, vb10, rfl, N10, K10, sz_b4, V10, hl10⟩

theorem ef_copy24 (m : MethodId) (aa : Addr) : entryFrame m #[(.ref aa), (.int (4 : Int32))] 3 = mkF m 0 #[.val (.ref aa), .val (.int (4 : Int32)), .unset] [] := by first | (simp [entryFrame, mkF, argsToLocals, Value.category]; done) | rfl
def Q_copy24 (Z : State) (aa : Addr) (ka : ClassId) (vs : List Value) (h0 : Heap) (n0 : Nat) (v_ : Option Value) (h_ : Heap) (L_ : List Loc) : Prop := ∃ (b : Addr) (kb : ClassId) (vb : List Value), v_ = some (.ref b) ∧ Fr n0 L_ ∧ Keep h0 h_ [] ∧ (h0.size ≤ b) ∧ (Arv Z h_ b kb .long (4 : Int32) vb (.long (0 : Int64))) ∧ (vb.length = 4)
set_option maxRecDepth 65536 in
set_option maxHeartbeats 40000000 in
theorem rm_copy24 (l : Launch) (Z : State) (a0 : Array Value) (hw : ∀ d ∈ tables_1, d.before a0 Z = true) (ws : List Jvm.Cond) (aa : Addr) (ka : ClassId) (vs : List Value) (h0 : Heap) (n0 : Nat) (O0 : Old Z n0 h0) (V_aa : Arv Z h0 aa ka .long (2 : Int32) vs (.long (0 : Int64))) :
    MetFree l (⟨"java/util/Arrays", "copyOf", "([JI)[J"⟩ : MethodName) (head1 (Jvm.Cond.code (⟨"java/util/Arrays", "copyOf", "([JI)[J"⟩ : MethodName) jdk_65_method_124_code 3 (some (.array .long)) :: ws) ({ frames := 1, cells := 1, slots := 4, locals := 40 } : Room)) (fun aa_ U_ => aa_ = #[(.ref aa), (.int (4 : Int32))] ∧ Z.Warmed39 U_.vm ∧ U_.heap = h0) (fun _ _ _ _ _ => True) (fun _ U_ o_ U_' => ∃ v_ L_, o_ = .returned v_ ∧ Q_copy24 Z aa ka vs h0 n0 v_ U_'.heap L_ ∧ FrameEnd U_ o_ U_' L_ ({ frames := 1, cells := 1, slots := 4, locals := 40 } : Room).cells ({ frames := 1, cells := 1, slots := 4, locals := 40 } : Room).slots) := by
  refine MetFree.of_bodySF (plainFor_of_name pn_Arrays) hisR ?_
  intro p e s m args below meth c s₁ Bd hml0 hP hK
  obtain ⟨rfl, hZ, hh⟩ := hP
  have hx := Bd.exec
  have hby := Bd.bytes
  have hml : c.maxLocals = 3 := hml0
  have hown : s.vm.findClass "java/util/Arrays" = some m.cls := findClass_of_methodNamed Bd.named
  have hnm := (name_of_methodNamed Bd.named Bd.method).1
  have X0 : Stand p l e ({ frames := 1, cells := 1, slots := 4, locals := 40 } : Room) s m #[(.ref aa), (.int (4 : Int32))] below meth c s₁ [] 0 0 := Stand.of_body Bd
  have e0 : s₁.heap = h0 := by rw [← hh, Bd.state]; rfl
  have N0 := Fr.nil n0
  have K0 : Keep h0 h0 [] := Keep.refl h0 _
  have pre0 : ∀ z_, Steps p.tables e below (s₁.setTop (mkF m 0 #[.val (.ref aa), .val (.int (4 : Int32)), .unset] [])) z_ → Steps p.tables e below (s₁.setTop (entryFrame m #[(.ref aa), (.int (4 : Int32))] 3)) z_ := fun z_ k_ => castTop (ef_copy24 m aa) k_
  have r0 : own_R p e below s₁ (mkF m 0 #[.val (.ref aa), .val (.int (4 : Int32)), .unset] []) s₁ (mkF m 0 #[.val (.ref aa), .val (.int (4 : Int32)), .unset] []) := own_R.refl
  have r2 : own_R p e below _ _ s₁ (mkF m 2 #[.val (.ref aa), .val (.int (4 : Int32)), .unset] [(.ref aa), (.int (4 : Int32))]) := r0.trans fun z_ kt => by
    refine XS.iloadN X0.here hx rfl (hb hby d23_0) rfl ?_
    refine XS.aloadN X0.here hx rfl (hb hby d23_1) rfl rfl ?_
    exact kt
  obtain ⟨cl1, Ar1, q1, S1, M1, H1, G1⟩ := id V_aa
  have r3 : own_R p e below _ _ s₁ (mkF m 15 #[.val (.ref aa), .val (.int (4 : Int32)), .unset] [(.int (4 : Int32))]) := r2.trans fun z_ kt => by
    refine X0.arraylength hx (by rw [e0]; exact Ar1.1) (State.isArrayOf_alike hZ.alike Ar1.2.1) (g := (mkF m 2 #[.val (.ref aa), .val (.int (4 : Int32)), .unset] [(.ref aa), (.int (4 : Int32))])) rfl rfl (hb hby d23_2) _ ?_
    rw [len_of S1 M1]
    refine XS.icmpYes X0.here hx rfl (pc0 := 3) (pc' := 14) rfl (hb hby d23_3) rfl (feq (by decide : ¬ ((4 : Int32) = (2 : Int32)))).2 (by decide) (by decide) ?_
    refine XS.iloadN X0.here hx rfl (hb hby d23_14) rfl ?_
    exact kt
  obtain ⟨T4, h4, k4, X4, e4, E4, A4, st4⟩ := newP X0 hx hZ (hw _ (own_g (i := 0) rfl)) e0 (g := (mkF m 15 #[.val (.ref aa), .val (.int (4 : Int32)), .unset] [(.int (4 : Int32))])) rfl (hb hby d23_15) rfl (by decide) (cap := 4) (by decide) (by decide) (by decide) (by decide)
  obtain ⟨b4, g4⟩ : ∃ z, z = h0.size := ⟨_, rfl⟩
  rw [← g4] at A4 st4
  have r4 : own_R p e below _ _ T4 (mkF m 17 #[.val (.ref aa), .val (.int (4 : Int32)), .unset] [(.ref b4)]) := r3.trans fun z_ kt => st4 _ kt
  have ne_aa_b4 : aa ≠ b4 := Nat.ne_of_lt (Nat.lt_of_lt_of_le V_aa.lt (Nat.le_of_eq g4.symm))
  have g_b4 : n0 ≤ b4 := Nat.le_trans (own_old_size O0) (Nat.le_of_eq g4.symm)
  have sz_b4 : h0.size ≤ b4 := Nat.le_trans K0.1 (Nat.le_of_eq g4.symm)
  have O4 := O0.ext E4
  have K4 := K0.ext E4
  have V4 : Arv Z h4 b4 k4 .long (4 : Int32) [(.long (0 : Int64)), (.long (0 : Int64)), (.long (0 : Int64)), (.long (0 : Int64))] (.long (0 : Int64)) := (Arv.new A4 (by decide)).pad (pad_rep [] (.long (0 : Int64)) 4)
  have f5 := (V_aa.ext E4)
  have r7 : own_R p e below _ _ T4 (mkF m 23 #[.val (.ref aa), .val (.int (4 : Int32)), .val (.ref b4)] [(.ref aa), (.int (0 : Int32)), (.ref b4), (.int (0 : Int32)), (.ref aa)]) := r4.trans fun z_ kt => by
    refine XS.astoreN X4.here hx rfl (hb hby d23_17) rfl rfl (l' := #[.val (.ref aa), .val (.int (4 : Int32)), .val (.ref b4)]) rfl ?_
    refine XS.aloadN X4.here hx rfl (hb hby d23_18) rfl rfl ?_
    refine XS.iconst X4.here hx rfl (hb hby d23_19) ?_
    refine XS.aloadN X4.here hx rfl (hb hby d23_20) rfl rfl ?_
    refine XS.iconst X4.here hx rfl (hb hby d23_21) ?_
    refine XS.aloadN X4.here hx rfl (hb hby d23_22) rfl rfl ?_
    exact kt
  obtain ⟨cl6, Ar6, q6, S6, M6, H6, G6⟩ := id f5
  have r8 : own_R p e below _ _ T4 (mkF m 25 #[.val (.ref aa), .val (.int (4 : Int32)), .val (.ref b4)] [(.int (4 : Int32)), (.int (2 : Int32)), (.int (0 : Int32)), (.ref b4), (.int (0 : Int32)), (.ref aa)]) := r7.trans fun z_ kt => by
    refine X4.arraylength hx (by rw [e4]; exact Ar6.1) (State.isArrayOf_alike hZ.alike Ar6.2.1) (g := (mkF m 23 #[.val (.ref aa), .val (.int (4 : Int32)), .val (.ref b4)] [(.ref aa), (.int (0 : Int32)), (.ref b4), (.int (0 : Int32)), (.ref aa)])) rfl rfl (hb hby d23_23) _ ?_
    rw [len_of S6 M6]
    refine XS.iloadN X4.here hx rfl (hb hby d23_24) rfl ?_
    exact kt
  obtain ⟨_, _, ⟨T9, L9, cc9, n9⟩, -, X9, ⟨Lc9, hQ9, l9, y9, z9⟩, st9⟩ := Jvm.LawKit.callS X4 hx (y := (⟨"java/lang/Math", "min", "(II)I"⟩ : MethodName)) hown (mvT hZ (hw _ (own_g (i := 173) rfl))) (mvT hZ (hw _ (own_g (i := 174) rfl))) (mvT hZ (hw _ (own_g (i := 167) rfl))) (mvT hZ (hw _ (own_g (i := 175) rfl))) (by decide) (backOf (W := 4) (rm_minI l Z a0 hw [] ((2 : Int32)) ((4 : Int32)) ((2 : Int32)) h4 n0 O4 (Or.inr ⟨by decide, rfl⟩)) hZ (hw _ (own_g (i := 175) rfl)) (hw _ (own_g (i := 167) rfl)) (by decide) (by decide)) (g := (mkF m 25 #[.val (.ref aa), .val (.int (4 : Int32)), .val (.ref b4)] [(.int (4 : Int32)), (.int (2 : Int32)), (.int (0 : Int32)), (.ref b4), (.int (0 : Int32)), (.ref aa)])) rfl (by rw [hml]; rfl) (argsL := [(.int (2 : Int32)), (.int (4 : Int32))]) (rest := [(.int (0 : Int32)), (.ref b4), (.int (0 : Int32)), (.ref aa)]) (lenOf pd_14 rfl) rfl (by show 2 * 0 + _ ≤ _; exact Nat.le_of_eq rfl) (hb hby d23_25) (fun _ _ => ⟨rfl, e4, (by decide : 1 + 0 ≤ _), (by decide : 4 + 0 ≤ _)⟩)
  dsimp only [Pt.U, Pt.locs, Pt.cells, Pt.slots] at X9 l9 y9 z9 st9 hQ9
  subst l9 y9 z9
  obtain ⟨rfl, Nq9, eq9⟩ := hQ9
  have N9 := Fr.app N0 Nq9
  have r9 : own_R p e below _ _ T9 (mkF m 28 #[.val (.ref aa), .val (.int (4 : Int32)), .val (.ref b4)] [(.int (2 : Int32)), (.int (0 : Int32)), (.ref b4), (.int (0 : Int32)), (.ref aa)]) := r8.trans fun z_ kt => st9 _ kt
  have e9 : T9.heap = h4 := eq9
  obtain ⟨T10, h10, L10, X10, e10, N10, Kq10, V10, st10⟩ := cpA X9 hx hZ hown (hw _ (own_g (i := 176) rfl)) (hw _ (own_g (i := 179) rfl)) (hw _ (own_g (i := 177) rfl)) (hw _ (own_g (i := 178) rfl)) e9 f5 V4 (Or.inl ⟨rfl, rfl⟩) (sp := (0 : Int32)) (dp := (0 : Int32)) (nn := (2 : Int32)) (by decide) (by decide) (by decide) (by decide) (by decide) rfl (by decide) N9 g_b4 (g := (mkF m 28 #[.val (.ref aa), .val (.int (4 : Int32)), .val (.ref b4)] [(.int (2 : Int32)), (.int (0 : Int32)), (.ref b4), (.int (0 : Int32)), (.ref aa)])) rfl (by rw [hml]; rfl) rfl (hb hby d23_28) (by decide) (W := 0) (by show 2 * 0 + _ ≤ _; exact Nat.le_of_eq rfl) (by decide)
  have r10 : own_R p e below _ _ T10 (mkF m 31 #[.val (.ref aa), .val (.int (4 : Int32)), .val (.ref b4)] []) := r9.trans fun z_ kt => st10 _ kt
  have O10 := O4.keep Kq10 (allS g_b4 all0)
  have K10 := K4.trans Kq10 (allS (Or.inr sz_b4) all0)
  obtain ⟨vb10, hvb10⟩ : ∃ z, z = ([(.long (0 : Int64)), (.long (0 : Int64)), (.long (0 : Int64)), (.long (0 : Int64))].take ((0 : Int32)).toNatClampNeg ++ (List.range ((2 : Int32)).toNatClampNeg).map (fun i => (vs).getD (((0 : Int32)).toNatClampNeg + i) (.long (0 : Int64))) ++ ([(.long (0 : Int64)), (.long (0 : Int64)), (.long (0 : Int64)), (.long (0 : Int64))]).drop (((0 : Int32)).toNatClampNeg + ((2 : Int32)).toNatClampNeg)) := ⟨_, rfl⟩
  rw [← hvb10] at V10
  have hl10 : vb10.length = 4 := by rw [hvb10]; rfl
  have r11 : own_R p e below _ _ T10 (mkF m 32 #[.val (.ref aa), .val (.int (4 : Int32)), .val (.ref b4)] [(.ref b4)]) := r10.trans fun z_ kt => by
    refine XS.aloadN X10.here hx rfl (hb hby d23_31) rfl rfl ?_
    exact kt
  obtain ⟨fs_, hr_, hrun_, hended_, hW_, hsame_⟩ := X10.leave (v := some (.ref b4)) (fun h => by rw [Bd.returns] at h; cases h)
  refine ⟨_, _, pre0 _ (r11 _ ?_), hrun_, hended_, _, _, rfl, ?_, ⟨_, rfl⟩, hW_, hsame_.mono (by decide) (by decide)⟩
  · exact retOut X10 hx Bd.returns rfl (Or.inr (Or.inr (Or.inr (Or.inr ⟨rfl, rfl, rfl⟩)))) (hb hby d23_32) hr_
  · show Q_copy24 Z aa ka vs h0 n0 _ T10.heap _
    rw [e10]
    exact ⟨b4, k4, vb10, rfl, N10, K10, sz_b4, V10, hl10⟩

theorem d33_0 : decode prog_53_method_8_code 0 = .ok (.iload_n 1, 1) := by decide +kernel
theorem d33_1 : decode prog_53_method_8_code 1 = .ok (.aload_n 0, 1) := by decide +kernel
theorem d33_2 : decode prog_53_method_8_code 2 = .ok (.getfield 17, 3) := by decide +kernel
theorem d33_5 : decode prog_53_method_8_code 5 = .ok (.if_icmp .ne 10, 3) := by decide +kernel
theorem d33_15 : decode prog_53_method_8_code 15 = .ok (.aload_n 0, 1) := by decide +kernel
theorem d33_16 : decode prog_53_method_8_code 16 = .ok (.getfield 13, 3) := by decide +kernel
theorem d33_19 : decode prog_53_method_8_code 19 = .ok (.iload_n 1, 1) := by decide +kernel
theorem d33_20 : decode prog_53_method_8_code 20 = .ok (.iconst 5, 1) := by decide +kernel
theorem d33_21 : decode prog_53_method_8_code 21 = .ok (.ishr, 1) := by decide +kernel
theorem d33_22 : decode prog_53_method_8_code 22 = .ok (.aaload, 1) := by decide +kernel
theorem d33_23 : decode prog_53_method_8_code 23 = .ok (.iload_n 1, 1) := by decide +kernel
theorem d33_24 : decode prog_53_method_8_code 24 = .ok (.bipush 32, 2) := by decide +kernel
theorem d33_26 : decode prog_53_method_8_code 26 = .ok (.irem, 1) := by decide +kernel
theorem d33_27 : decode prog_53_method_8_code 27 = .ok (.laload, 1) := by decide +kernel
theorem d33_28 : decode prog_53_method_8_code 28 = .ok (.lreturn, 1) := by decide +kernel
theorem ef_entry0 (m : MethodId) (a : Addr) : entryFrame m #[(.ref a), (.int (0 : Int32))] 2 = mkF m 0 #[.val (.ref a), .val (.int (0 : Int32))] [] := by first | (simp [entryFrame, mkF, argsToLocals, Value.category]; done) | rfl
def Q_entry0 (Z : State) (a : Addr) (bl : Addr) (kb : ClassId) (en : Addr) (ke : ClassId) (vse : List Value) (h0 : Heap) (n0 : Nat) (v_ : Option Value) (h_ : Heap) (L_ : List Loc) : Prop := ∃ (jr : Int64), v_ = some (.long jr) ∧ Fr n0 L_ ∧ h_ = h0
set_option maxRecDepth 65536 in
set_option maxHeartbeats 40000000 in
theorem rm_entry0 (l : Launch) (Z : State) (a0 : Array Value) (hw : ∀ d ∈ tables_1, d.before a0 Z = true) (ws : List Jvm.Cond) (a : Addr) (bl : Addr) (kb : ClassId) (en : Addr) (ke : ClassId) (vse : List Value) (h0 : Heap) (n0 : Nat) (O0 : Old Z n0 h0) (F_a_blocks : Fld Z h0 a "com/example/wildebeest/wildebeest/core/VectorTime" "blocks" "[[J" (.ref bl)) (F_a_held : Fld Z h0 a "com/example/wildebeest/wildebeest/core/VectorTime" "held" "I" (.int (-1 : Int32))) (V_bl : Arv Z h0 bl kb (.array .long) (1 : Int32) [(.ref en)] .null) (V_en : Arv Z h0 en ke .long (32 : Int32) vse (.long (0 : Int64))) :
    MetFree l (⟨"com/example/wildebeest/wildebeest/core/VectorTime", "entry", "(I)J"⟩ : MethodName) (head1 (Jvm.Cond.code (⟨"com/example/wildebeest/wildebeest/core/VectorTime", "entry", "(I)J"⟩ : MethodName) prog_53_method_8_code 2 (some .long) :: ws) ({ frames := 0, cells := 0, slots := 0, locals := 0 } : Room)) (fun aa_ U_ => aa_ = #[(.ref a), (.int (0 : Int32))] ∧ Z.Warmed39 U_.vm ∧ U_.heap = h0) (fun _ _ _ _ _ => True) (fun _ U_ o_ U_' => ∃ v_ L_, o_ = .returned v_ ∧ Q_entry0 Z a bl kb en ke vse h0 n0 v_ U_'.heap L_ ∧ FrameEnd U_ o_ U_' L_ ({ frames := 0, cells := 0, slots := 0, locals := 0 } : Room).cells ({ frames := 0, cells := 0, slots := 0, locals := 0 } : Room).slots) := by
  refine MetFree.of_bodySF (plainFor_of_name pn_VectorTime) hisR ?_
  intro p e s m args below meth c s₁ Bd hml0 hP hK
  obtain ⟨rfl, hZ, hh⟩ := hP
  have hx := Bd.exec
  have hby := Bd.bytes
  have hml : c.maxLocals = 2 := hml0
  have hown : s.vm.findClass "com/example/wildebeest/wildebeest/core/VectorTime" = some m.cls := findClass_of_methodNamed Bd.named
  have hnm := (name_of_methodNamed Bd.named Bd.method).1
  have X0 : Stand p l e ({ frames := 0, cells := 0, slots := 0, locals := 0 } : Room) s m #[(.ref a), (.int (0 : Int32))] below meth c s₁ [] 0 0 := Stand.of_body Bd
  have e0 : s₁.heap = h0 := by rw [← hh, Bd.state]; rfl
  have N0 := Fr.nil n0
  have pre0 : ∀ z_, Steps p.tables e below (s₁.setTop (mkF m 0 #[.val (.ref a), .val (.int (0 : Int32))] [])) z_ → Steps p.tables e below (s₁.setTop (entryFrame m #[(.ref a), (.int (0 : Int32))] 2)) z_ := fun z_ k_ => castTop (ef_entry0 m a) k_
  have r0 : own_R p e below s₁ (mkF m 0 #[.val (.ref a), .val (.int (0 : Int32))] []) s₁ (mkF m 0 #[.val (.ref a), .val (.int (0 : Int32))] []) := own_R.refl
  have r1 : own_R p e below _ _ s₁ (mkF m 2 #[.val (.ref a), .val (.int (0 : Int32))] [(.ref a), (.int (0 : Int32))]) := r0.trans fun z_ kt => by
    refine XS.iloadN X0.here hx rfl (hb hby d33_0) rfl ?_
    refine XS.aloadN X0.here hx rfl (hb hby d33_1) rfl rfl ?_
    exact kt
  obtain ⟨T2, X2, e2, st2⟩ := getF X0 hx hZ hown (host := "") (Or.inl (hw _ (own_g (i := 26) rfl))) Via.refl e0 F_a_held (g := (mkF m 2 #[.val (.ref a), .val (.int (0 : Int32))] [(.ref a), (.int (0 : Int32))])) rfl rfl (hb hby d33_2)
  have r2 : own_R p e below _ _ T2 (mkF m 5 #[.val (.ref a), .val (.int (0 : Int32))] [(.int (-1 : Int32)), (.int (0 : Int32))]) := r1.trans fun z_ kt => st2 _ kt
  have r3 : own_R p e below _ _ T2 (mkF m 16 #[.val (.ref a), .val (.int (0 : Int32))] [(.ref a)]) := r2.trans fun z_ kt => by
    refine XS.icmpYes X2.here hx rfl (pc0 := 5) (pc' := 15) rfl (hb hby d33_5) rfl (feq (by decide : ¬ ((0 : Int32) = (-1 : Int32)))).2 (by decide) (by decide) ?_
    refine XS.aloadN X2.here hx rfl (hb hby d33_15) rfl rfl ?_
    exact kt
  obtain ⟨T4, X4, e4, st4⟩ := getF X2 hx hZ hown (host := "") (Or.inl (hw _ (own_g (i := 24) rfl))) Via.refl e2 F_a_blocks (g := (mkF m 16 #[.val (.ref a), .val (.int (0 : Int32))] [(.ref a)])) rfl rfl (hb hby d33_16)
  have r4 : own_R p e below _ _ T4 (mkF m 19 #[.val (.ref a), .val (.int (0 : Int32))] [(.ref bl)]) := r3.trans fun z_ kt => st4 _ kt
  have r6 : own_R p e below _ _ T4 (mkF m 22 #[.val (.ref a), .val (.int (0 : Int32))] [(.int (0 : Int32)), (.ref bl)]) := r4.trans fun z_ kt => by
    refine XS.iloadN X4.here hx rfl (hb hby d33_19) rfl ?_
    refine XS.iconst X4.here hx rfl (hb hby d33_20) ?_
    refine XS.ishr X4.here hx rfl (hb hby d33_21) rfl ?_
    exact kt
  obtain ⟨cl5, Ar5, q5, S5, M5, H5, G5⟩ := id V_bl
  have hin5 : ¬ ((0 : Int32) < 0 ∨ cl5.slots.size ≤ ((0 : Int32)).toNatClampNeg) := inb_of S5 ⟨by decide, by decide⟩
  have hat5 : cl5.slots[((0 : Int32)).toNatClampNeg]? = some (.ref en) := Has.at H5 hin5 rfl
  have r8 : own_R p e below _ _ T4 (mkF m 27 #[.val (.ref a), .val (.int (0 : Int32))] [(.int (0 : Int32)), (.ref en)]) := r6.trans fun z_ kt => by
    refine X4.aaload hx (j := (0 : Int32)) (v := (.ref en)) (by rw [e4]; exact Ar5.1) (State.isArrayOf_alike hZ.alike Ar5.2.1) rfl Ar5.2.2 hin5 hat5 (g := (mkF m 22 #[.val (.ref a), .val (.int (0 : Int32))] [(.int (0 : Int32)), (.ref bl)])) rfl rfl (hb hby d33_22) _ ?_
    refine XS.iloadN X4.here hx rfl (hb hby d33_23) rfl ?_
    refine XS.bipush X4.here hx rfl (hb hby d33_24) ?_
    refine iremM X4 hx rfl (hb hby d33_26) rfl (by decide) ?_
    exact kt
  obtain ⟨cl7, Ar7, q7, S7, M7, H7, G7⟩ := id V_en
  obtain ⟨jr7, hjr7⟩ := fit_J (G7 0 (by rw [S7]; decide))
  have hin7 : ¬ ((0 : Int32) < 0 ∨ cl7.slots.size ≤ ((0 : Int32)).toNatClampNeg) := inb_of S7 ⟨by decide, by decide⟩
  have hat7 : cl7.slots[((0 : Int32)).toNatClampNeg]? = some (.long jr7) := Has.at H7 hin7 hjr7
  have r9 : own_R p e below _ _ T4 (mkF m 28 #[.val (.ref a), .val (.int (0 : Int32))] [(.long jr7)]) := r8.trans fun z_ kt => by
    refine X4.laload hx (j := (0 : Int32)) (v := (.long jr7)) (by rw [e4]; exact Ar7.1) (State.isArrayOf_alike hZ.alike Ar7.2.1) Ar7.2.2 hin7 hat7 (g := (mkF m 27 #[.val (.ref a), .val (.int (0 : Int32))] [(.int (0 : Int32)), (.ref en)])) rfl rfl (hb hby d33_27) _ ?_
    exact kt
  obtain ⟨fs_, hr_, hrun_, hended_, hW_, hsame_⟩ := X4.leave (v := some (.long jr7)) (fun h => by rw [Bd.returns] at h; cases h)
  refine ⟨_, _, pre0 _ (r9 _ ?_), hrun_, hended_, _, _, rfl, ?_, ⟨_, rfl⟩, hW_, hsame_.mono (by decide) (by decide)⟩
  · exact retOut X4 hx Bd.returns rfl (Or.inr (Or.inl ⟨rfl, rfl, _, rfl⟩)) (hb hby d33_28) hr_
  · show Q_entry0 Z a bl kb en ke vse h0 n0 _ T4.heap _
    rw [e4]
    exact ⟨jr7, rfl, N0, rfl⟩

theorem ef_entry1 (m : MethodId) (a : Addr) : entryFrame m #[(.ref a), (.int (1 : Int32))] 2 = mkF m 0 #[.val (.ref a), .val (.int (1 : Int32))] [] := by first | (simp [entryFrame, mkF, argsToLocals, Value.category]; done) | rfl
def Q_entry1 (Z : State) (a : Addr) (bl : Addr) (kb : ClassId) (en : Addr) (ke : ClassId) (vse : List Value) (h0 : Heap) (n0 : Nat) (v_ : Option Value) (h_ : Heap) (L_ : List Loc) : Prop := ∃ (jr : Int64), v_ = some (.long jr) ∧ Fr n0 L_ ∧ h_ = h0
set_option maxRecDepth 65536 in
set_option maxHeartbeats 40000000 in
theorem rm_entry1 (l : Launch) (Z : State) (a0 : Array Value) (hw : ∀ d ∈ tables_1, d.before a0 Z = true) (ws : List Jvm.Cond) (a : Addr) (bl : Addr) (kb : ClassId) (en : Addr) (ke : ClassId) (vse : List Value) (h0 : Heap) (n0 : Nat) (O0 : Old Z n0 h0) (F_a_blocks : Fld Z h0 a "com/example/wildebeest/wildebeest/core/VectorTime" "blocks" "[[J" (.ref bl)) (F_a_held : Fld Z h0 a "com/example/wildebeest/wildebeest/core/VectorTime" "held" "I" (.int (-1 : Int32))) (V_bl : Arv Z h0 bl kb (.array .long) (1 : Int32) [(.ref en)] .null) (V_en : Arv Z h0 en ke .long (32 : Int32) vse (.long (0 : Int64))) :
    MetFree l (⟨"com/example/wildebeest/wildebeest/core/VectorTime", "entry", "(I)J"⟩ : MethodName) (head1 (Jvm.Cond.code (⟨"com/example/wildebeest/wildebeest/core/VectorTime", "entry", "(I)J"⟩ : MethodName) prog_53_method_8_code 2 (some .long) :: ws) ({ frames := 0, cells := 0, slots := 0, locals := 0 } : Room)) (fun aa_ U_ => aa_ = #[(.ref a), (.int (1 : Int32))] ∧ Z.Warmed39 U_.vm ∧ U_.heap = h0) (fun _ _ _ _ _ => True) (fun _ U_ o_ U_' => ∃ v_ L_, o_ = .returned v_ ∧ Q_entry1 Z a bl kb en ke vse h0 n0 v_ U_'.heap L_ ∧ FrameEnd U_ o_ U_' L_ ({ frames := 0, cells := 0, slots := 0, locals := 0 } : Room).cells ({ frames := 0, cells := 0, slots := 0, locals := 0 } : Room).slots) := by
  refine MetFree.of_bodySF (plainFor_of_name pn_VectorTime) hisR ?_
  intro p e s m args below meth c s₁ Bd hml0 hP hK
  obtain ⟨rfl, hZ, hh⟩ := hP
  have hx := Bd.exec
  have hby := Bd.bytes
  have hml : c.maxLocals = 2 := hml0
  have hown : s.vm.findClass "com/example/wildebeest/wildebeest/core/VectorTime" = some m.cls := findClass_of_methodNamed Bd.named
  have hnm := (name_of_methodNamed Bd.named Bd.method).1
  have X0 : Stand p l e ({ frames := 0, cells := 0, slots := 0, locals := 0 } : Room) s m #[(.ref a), (.int (1 : Int32))] below meth c s₁ [] 0 0 := Stand.of_body Bd
  have e0 : s₁.heap = h0 := by rw [← hh, Bd.state]; rfl
  have N0 := Fr.nil n0
  have pre0 : ∀ z_, Steps p.tables e below (s₁.setTop (mkF m 0 #[.val (.ref a), .val (.int (1 : Int32))] [])) z_ → Steps p.tables e below (s₁.setTop (entryFrame m #[(.ref a), (.int (1 : Int32))] 2)) z_ := fun z_ k_ => castTop (ef_entry1 m a) k_
  have r0 : own_R p e below s₁ (mkF m 0 #[.val (.ref a), .val (.int (1 : Int32))] []) s₁ (mkF m 0 #[.val (.ref a), .val (.int (1 : Int32))] []) := own_R.refl
  have r1 : own_R p e below _ _ s₁ (mkF m 2 #[.val (.ref a), .val (.int (1 : Int32))] [(.ref a), (.int (1 : Int32))]) := r0.trans fun z_ kt => by
    refine XS.iloadN X0.here hx rfl (hb hby d33_0) rfl ?_
    refine XS.aloadN X0.here hx rfl (hb hby d33_1) rfl rfl ?_
    exact kt
  obtain ⟨T2, X2, e2, st2⟩ := getF X0 hx hZ hown (host := "") (Or.inl (hw _ (own_g (i := 26) rfl))) Via.refl e0 F_a_held (g := (mkF m 2 #[.val (.ref a), .val (.int (1 : Int32))] [(.ref a), (.int (1 : Int32))])) rfl rfl (hb hby d33_2)
  have r2 : own_R p e below _ _ T2 (mkF m 5 #[.val (.ref a), .val (.int (1 : Int32))] [(.int (-1 : Int32)), (.int (1 : Int32))]) := r1.trans fun z_ kt => st2 _ kt
  have r3 : own_R p e below _ _ T2 (mkF m 16 #[.val (.ref a), .val (.int (1 : Int32))] [(.ref a)]) := r2.trans fun z_ kt => by
    refine XS.icmpYes X2.here hx rfl (pc0 := 5) (pc' := 15) rfl (hb hby d33_5) rfl (feq (by decide : ¬ ((1 : Int32) = (-1 : Int32)))).2 (by decide) (by decide) ?_
    refine XS.aloadN X2.here hx rfl (hb hby d33_15) rfl rfl ?_
    exact kt
  obtain ⟨T4, X4, e4, st4⟩ := getF X2 hx hZ hown (host := "") (Or.inl (hw _ (own_g (i := 24) rfl))) Via.refl e2 F_a_blocks (g := (mkF m 16 #[.val (.ref a), .val (.int (1 : Int32))] [(.ref a)])) rfl rfl (hb hby d33_16)
  have r4 : own_R p e below _ _ T4 (mkF m 19 #[.val (.ref a), .val (.int (1 : Int32))] [(.ref bl)]) := r3.trans fun z_ kt => st4 _ kt
  have r6 : own_R p e below _ _ T4 (mkF m 22 #[.val (.ref a), .val (.int (1 : Int32))] [(.int (0 : Int32)), (.ref bl)]) := r4.trans fun z_ kt => by
    refine XS.iloadN X4.here hx rfl (hb hby d33_19) rfl ?_
    refine XS.iconst X4.here hx rfl (hb hby d33_20) ?_
    refine XS.ishr X4.here hx rfl (hb hby d33_21) rfl ?_
    exact kt
  obtain ⟨cl5, Ar5, q5, S5, M5, H5, G5⟩ := id V_bl
  have hin5 : ¬ ((0 : Int32) < 0 ∨ cl5.slots.size ≤ ((0 : Int32)).toNatClampNeg) := inb_of S5 ⟨by decide, by decide⟩
  have hat5 : cl5.slots[((0 : Int32)).toNatClampNeg]? = some (.ref en) := Has.at H5 hin5 rfl
  have r8 : own_R p e below _ _ T4 (mkF m 27 #[.val (.ref a), .val (.int (1 : Int32))] [(.int (1 : Int32)), (.ref en)]) := r6.trans fun z_ kt => by
    refine X4.aaload hx (j := (0 : Int32)) (v := (.ref en)) (by rw [e4]; exact Ar5.1) (State.isArrayOf_alike hZ.alike Ar5.2.1) rfl Ar5.2.2 hin5 hat5 (g := (mkF m 22 #[.val (.ref a), .val (.int (1 : Int32))] [(.int (0 : Int32)), (.ref bl)])) rfl rfl (hb hby d33_22) _ ?_
    refine XS.iloadN X4.here hx rfl (hb hby d33_23) rfl ?_
    refine XS.bipush X4.here hx rfl (hb hby d33_24) ?_
    refine iremM X4 hx rfl (hb hby d33_26) rfl (by decide) ?_
    exact kt
  obtain ⟨cl7, Ar7, q7, S7, M7, H7, G7⟩ := id V_en
  obtain ⟨jr7, hjr7⟩ := fit_J (G7 1 (by rw [S7]; decide))
  have hin7 : ¬ ((1 : Int32) < 0 ∨ cl7.slots.size ≤ ((1 : Int32)).toNatClampNeg) := inb_of S7 ⟨by decide, by decide⟩
  have hat7 : cl7.slots[((1 : Int32)).toNatClampNeg]? = some (.long jr7) := Has.at H7 hin7 hjr7
  have r9 : own_R p e below _ _ T4 (mkF m 28 #[.val (.ref a), .val (.int (1 : Int32))] [(.long jr7)]) := r8.trans fun z_ kt => by
    refine X4.laload hx (j := (1 : Int32)) (v := (.long jr7)) (by rw [e4]; exact Ar7.1) (State.isArrayOf_alike hZ.alike Ar7.2.1) Ar7.2.2 hin7 hat7 (g := (mkF m 27 #[.val (.ref a), .val (.int (1 : Int32))] [(.int (1 : Int32)), (.ref en)])) rfl rfl (hb hby d33_27) _ ?_
    exact kt
  obtain ⟨fs_, hr_, hrun_, hended_, hW_, hsame_⟩ := X4.leave (v := some (.long jr7)) (fun h => by rw [Bd.returns] at h; cases h)
  refine ⟨_, _, pre0 _ (r9 _ ?_), hrun_, hended_, _, _, rfl, ?_, ⟨_, rfl⟩, hW_, hsame_.mono (by decide) (by decide)⟩
  · exact retOut X4 hx Bd.returns rfl (Or.inr (Or.inl ⟨rfl, rfl, _, rfl⟩)) (hb hby d33_28) hr_
  · show Q_entry1 Z a bl kb en ke vse h0 n0 _ T4.heap _
    rw [e4]
    exact ⟨jr7, rfl, N0, rfl⟩

theorem d32_0 : decode prog_53_method_5_code 0 = .ok (.iload_n 1, 1) := by decide +kernel
theorem d32_1 : decode prog_53_method_5_code 1 = .ok (.iconst 1, 1) := by decide +kernel
theorem d32_2 : decode prog_53_method_5_code 2 = .ok (.if_icmp .lt 11, 3) := by decide +kernel
theorem d32_5 : decode prog_53_method_5_code 5 = .ok (.iload_n 1, 1) := by decide +kernel
theorem d32_6 : decode prog_53_method_5_code 6 = .ok (.aload_n 0, 1) := by decide +kernel
theorem d32_7 : decode prog_53_method_5_code 7 = .ok (.getfield 7, 3) := by decide +kernel
theorem d32_10 : decode prog_53_method_5_code 10 = .ok (.if_icmp .le 21, 3) := by decide +kernel
theorem d32_31 : decode prog_53_method_5_code 31 = .ok (.aload_n 0, 1) := by decide +kernel
theorem d32_32 : decode prog_53_method_5_code 32 = .ok (.iload_n 1, 1) := by decide +kernel
theorem d32_33 : decode prog_53_method_5_code 33 = .ok (.iconst 1, 1) := by decide +kernel
theorem d32_34 : decode prog_53_method_5_code 34 = .ok (.isub, 1) := by decide +kernel
theorem d32_35 : decode prog_53_method_5_code 35 = .ok (.invokevirtual 50, 3) := by decide +kernel
theorem pd_15 : parseMethodDescriptor "(I)J" = some ⟨[.int], some .long⟩ := by decide +kernel
theorem d32_38 : decode prog_53_method_5_code 38 = .ok (.lreturn, 1) := by decide +kernel
theorem ef_get1 (m : MethodId) (a : Addr) : entryFrame m #[(.ref a), (.int (1 : Int32))] 2 = mkF m 0 #[.val (.ref a), .val (.int (1 : Int32))] [] := by first | (simp [entryFrame, mkF, argsToLocals, Value.category]; done) | rfl
def Q_get1 (Z : State) (a : Addr) (bl : Addr) (kb : ClassId) (en : Addr) (ke : ClassId) (vse : List Value) (h0 : Heap) (n0 : Nat) (v_ : Option Value) (h_ : Heap) (L_ : List Loc) : Prop := ∃ (jr : Int64), v_ = some (.long jr) ∧ Fr n0 L_ ∧ h_ = h0
set_option maxRecDepth 65536 in
set_option maxHeartbeats 40000000 in
theorem rm_get1 (l : Launch) (Z : State) (a0 : Array Value) (hw : ∀ d ∈ tables_1, d.before a0 Z = true) (ws : List Jvm.Cond) (a : Addr) (bl : Addr) (kb : ClassId) (en : Addr) (ke : ClassId) (vse : List Value) (h0 : Heap) (n0 : Nat) (O0 : Old Z n0 h0) (E_a : Exa Z h0 a "com/example/wildebeest/wildebeest/core/VectorTime") (F_a_nodes : Fld Z h0 a "com/example/wildebeest/wildebeest/core/VectorTime" "nodes" "I" (.int (2 : Int32))) (F_a_blocks : Fld Z h0 a "com/example/wildebeest/wildebeest/core/VectorTime" "blocks" "[[J" (.ref bl)) (F_a_held : Fld Z h0 a "com/example/wildebeest/wildebeest/core/VectorTime" "held" "I" (.int (-1 : Int32))) (V_bl : Arv Z h0 bl kb (.array .long) (1 : Int32) [(.ref en)] .null) (V_en : Arv Z h0 en ke .long (32 : Int32) vse (.long (0 : Int64))) :
    MetFree l (⟨"com/example/wildebeest/wildebeest/core/VectorTime", "get", "(I)J"⟩ : MethodName) (head1 (Jvm.Cond.code (⟨"com/example/wildebeest/wildebeest/core/VectorTime", "get", "(I)J"⟩ : MethodName) prog_53_method_5_code 2 (some .long) :: ws) ({ frames := 1, cells := 0, slots := 0, locals := 13 } : Room)) (fun aa_ U_ => aa_ = #[(.ref a), (.int (1 : Int32))] ∧ Z.Warmed39 U_.vm ∧ U_.heap = h0) (fun _ _ _ _ _ => True) (fun _ U_ o_ U_' => ∃ v_ L_, o_ = .returned v_ ∧ Q_get1 Z a bl kb en ke vse h0 n0 v_ U_'.heap L_ ∧ FrameEnd U_ o_ U_' L_ ({ frames := 1, cells := 0, slots := 0, locals := 13 } : Room).cells ({ frames := 1, cells := 0, slots := 0, locals := 13 } : Room).slots) := by
  refine MetFree.of_bodySF (plainFor_of_name pn_VectorTime) hisR ?_
  intro p e s m args below meth c s₁ Bd hml0 hP hK
  obtain ⟨rfl, hZ, hh⟩ := hP
  have hx := Bd.exec
  have hby := Bd.bytes
  have hml : c.maxLocals = 2 := hml0
  have hown : s.vm.findClass "com/example/wildebeest/wildebeest/core/VectorTime" = some m.cls := findClass_of_methodNamed Bd.named
  have hnm := (name_of_methodNamed Bd.named Bd.method).1
  have X0 : Stand p l e ({ frames := 1, cells := 0, slots := 0, locals := 13 } : Room) s m #[(.ref a), (.int (1 : Int32))] below meth c s₁ [] 0 0 := Stand.of_body Bd
  have e0 : s₁.heap = h0 := by rw [← hh, Bd.state]; rfl
  have N0 := Fr.nil n0
  have pre0 : ∀ z_, Steps p.tables e below (s₁.setTop (mkF m 0 #[.val (.ref a), .val (.int (1 : Int32))] [])) z_ → Steps p.tables e below (s₁.setTop (entryFrame m #[(.ref a), (.int (1 : Int32))] 2)) z_ := fun z_ k_ => castTop (ef_get1 m a) k_
  have r0 : own_R p e below s₁ (mkF m 0 #[.val (.ref a), .val (.int (1 : Int32))] []) s₁ (mkF m 0 #[.val (.ref a), .val (.int (1 : Int32))] []) := own_R.refl
  have ne_a_bl : a ≠ bl := (own_ne_arv E_a (hw _ (own_g (i := 15) rfl)) V_bl)
  have ne_a_en : a ≠ en := (own_ne_arv E_a (hw _ (own_g (i := 15) rfl)) V_en)
  have r1 : own_R p e below _ _ s₁ (mkF m 7 #[.val (.ref a), .val (.int (1 : Int32))] [(.ref a), (.int (1 : Int32))]) := r0.trans fun z_ kt => by
    refine XS.iloadN X0.here hx rfl (hb hby d32_0) rfl ?_
    refine XS.iconst X0.here hx rfl (hb hby d32_1) ?_
    refine XS.icmpNo X0.here hx rfl (hb hby d32_2) rfl (flt (by decide : ¬ ((1 : Int32) < (1 : Int32)))).1 ?_
    refine XS.iloadN X0.here hx rfl (hb hby d32_5) rfl ?_
    refine XS.aloadN X0.here hx rfl (hb hby d32_6) rfl rfl ?_
    exact kt
  obtain ⟨T2, X2, e2, st2⟩ := getF X0 hx hZ hown (host := "") (Or.inl (hw _ (own_g (i := 22) rfl))) Via.refl e0 F_a_nodes (g := (mkF m 7 #[.val (.ref a), .val (.int (1 : Int32))] [(.ref a), (.int (1 : Int32))])) rfl rfl (hb hby d32_7)
  have r2 : own_R p e below _ _ T2 (mkF m 10 #[.val (.ref a), .val (.int (1 : Int32))] [(.int (2 : Int32)), (.int (1 : Int32))]) := r1.trans fun z_ kt => st2 _ kt
  have r3 : own_R p e below _ _ T2 (mkF m 35 #[.val (.ref a), .val (.int (1 : Int32))] [(.int (0 : Int32)), (.ref a)]) := r2.trans fun z_ kt => by
    refine XS.icmpYes X2.here hx rfl (pc0 := 10) (pc' := 31) rfl (hb hby d32_10) rfl (flt (by decide : ¬ ((2 : Int32) < (1 : Int32)))).2.2.2 (by decide) (by decide) ?_
    refine XS.aloadN X2.here hx rfl (hb hby d32_31) rfl rfl ?_
    refine XS.iloadN X2.here hx rfl (hb hby d32_32) rfl ?_
    refine XS.iconst X2.here hx rfl (hb hby d32_33) ?_
    refine XS.isub X2.here hx rfl (hb hby d32_34) rfl ?_
    exact kt
  obtain ⟨cq4, kq4, q4a, q4b, q4c⟩ := isOf hZ e2 E_a
  obtain ⟨_, _, ⟨T4, L4, cc4, n4⟩, -, X4, ⟨Lc4, hQ4, l4, y4, z4⟩, st4⟩ := X2.virtualBack hx (y := (⟨"com/example/wildebeest/wildebeest/core/VectorTime", "entry", "(I)J"⟩ : MethodName)) (z := (⟨"com/example/wildebeest/wildebeest/core/VectorTime", "entry", "(I)J"⟩ : MethodName)) hown (mvT hZ (hw _ (own_g (i := 222) rfl))) (mvT hZ (hw _ (own_g (i := 223) rfl))) (notFace_of_selects (args := #[]) (mvT hZ (hw _ (own_g (i := 225) rfl)))) (mvT hZ (hw _ (own_g (i := 225) rfl))) (mvT hZ (hw _ (own_g (i := 224) rfl))) (by decide) (backOf (W := 0) (rm_entry0 l Z a0 hw [] (a) (bl) (kb) (en) (ke) (vse) h0 n0 O0 (F_a_blocks) (F_a_held) (V_bl) (V_en)) hZ (hw _ (own_g (i := 226) rfl)) (hw _ (own_g (i := 4) rfl)) (by decide) (by decide)) q4a q4c (g := (mkF m 35 #[.val (.ref a), .val (.int (1 : Int32))] [(.int (0 : Int32)), (.ref a)])) rfl (by rw [hml]; rfl) (Steps.refl _) (argsL := [(.int (0 : Int32))]) (rest := []) (lenOf pd_15 rfl) rfl (by show 2 * 0 + _ ≤ _; exact Nat.le_of_eq rfl) (hb hby d32_35) (fun _ _ => ⟨rfl, e2, (by decide : 0 + 0 ≤ _), (by decide : 0 + 0 ≤ _)⟩)
  dsimp only [Pt.U, Pt.locs, Pt.cells, Pt.slots] at X4 l4 y4 z4 st4 hQ4
  subst l4 y4 z4
  obtain ⟨jr_4, rfl, Nq4, eq4⟩ := hQ4
  have N4 := Fr.app N0 Nq4
  have r4 : own_R p e below _ _ T4 (mkF m 38 #[.val (.ref a), .val (.int (1 : Int32))] [(.long jr_4)]) := r3.trans fun z_ kt => st4.trans kt
  have e4 : T4.heap = h0 := eq4
  obtain ⟨fs_, hr_, hrun_, hended_, hW_, hsame_⟩ := X4.leave (v := some (.long jr_4)) (fun h => by rw [Bd.returns] at h; cases h)
  refine ⟨_, _, pre0 _ (r4 _ ?_), hrun_, hended_, _, _, rfl, ?_, ⟨_, rfl⟩, hW_, hsame_.mono (by decide) (by decide)⟩
  · exact retOut X4 hx Bd.returns rfl (Or.inr (Or.inl ⟨rfl, rfl, _, rfl⟩)) (hb hby d32_38) hr_
  · show Q_get1 Z a bl kb en ke vse h0 n0 _ T4.heap _
    rw [e4]
    exact ⟨jr_4, rfl, N4, rfl⟩

theorem ef_get2 (m : MethodId) (a : Addr) : entryFrame m #[(.ref a), (.int (2 : Int32))] 2 = mkF m 0 #[.val (.ref a), .val (.int (2 : Int32))] [] := by first | (simp [entryFrame, mkF, argsToLocals, Value.category]; done) | rfl
def Q_get2 (Z : State) (a : Addr) (bl : Addr) (kb : ClassId) (en : Addr) (ke : ClassId) (vse : List Value) (h0 : Heap) (n0 : Nat) (v_ : Option Value) (h_ : Heap) (L_ : List Loc) : Prop := ∃ (jr : Int64), v_ = some (.long jr) ∧ Fr n0 L_ ∧ h_ = h0
set_option maxRecDepth 65536 in
set_option maxHeartbeats 40000000 in
theorem rm_get2 (l : Launch) (Z : State) (a0 : Array Value) (hw : ∀ d ∈ tables_1, d.before a0 Z = true) (ws : List Jvm.Cond) (a : Addr) (bl : Addr) (kb : ClassId) (en : Addr) (ke : ClassId) (vse : List Value) (h0 : Heap) (n0 : Nat) (O0 : Old Z n0 h0) (E_a : Exa Z h0 a "com/example/wildebeest/wildebeest/core/VectorTime") (F_a_nodes : Fld Z h0 a "com/example/wildebeest/wildebeest/core/VectorTime" "nodes" "I" (.int (2 : Int32))) (F_a_blocks : Fld Z h0 a "com/example/wildebeest/wildebeest/core/VectorTime" "blocks" "[[J" (.ref bl)) (F_a_held : Fld Z h0 a "com/example/wildebeest/wildebeest/core/VectorTime" "held" "I" (.int (-1 : Int32))) (V_bl : Arv Z h0 bl kb (.array .long) (1 : Int32) [(.ref en)] .null) (V_en : Arv Z h0 en ke .long (32 : Int32) vse (.long (0 : Int64))) :
    MetFree l (⟨"com/example/wildebeest/wildebeest/core/VectorTime", "get", "(I)J"⟩ : MethodName) (head1 (Jvm.Cond.code (⟨"com/example/wildebeest/wildebeest/core/VectorTime", "get", "(I)J"⟩ : MethodName) prog_53_method_5_code 2 (some .long) :: ws) ({ frames := 1, cells := 0, slots := 0, locals := 13 } : Room)) (fun aa_ U_ => aa_ = #[(.ref a), (.int (2 : Int32))] ∧ Z.Warmed39 U_.vm ∧ U_.heap = h0) (fun _ _ _ _ _ => True) (fun _ U_ o_ U_' => ∃ v_ L_, o_ = .returned v_ ∧ Q_get2 Z a bl kb en ke vse h0 n0 v_ U_'.heap L_ ∧ FrameEnd U_ o_ U_' L_ ({ frames := 1, cells := 0, slots := 0, locals := 13 } : Room).cells ({ frames := 1, cells := 0, slots := 0, locals := 13 } : Room).slots) := by
  refine MetFree.of_bodySF (plainFor_of_name pn_VectorTime) hisR ?_
  intro p e s m args below meth c s₁ Bd hml0 hP hK
  obtain ⟨rfl, hZ, hh⟩ := hP
  have hx := Bd.exec
  have hby := Bd.bytes
  have hml : c.maxLocals = 2 := hml0
  have hown : s.vm.findClass "com/example/wildebeest/wildebeest/core/VectorTime" = some m.cls := findClass_of_methodNamed Bd.named
  have hnm := (name_of_methodNamed Bd.named Bd.method).1
  have X0 : Stand p l e ({ frames := 1, cells := 0, slots := 0, locals := 13 } : Room) s m #[(.ref a), (.int (2 : Int32))] below meth c s₁ [] 0 0 := Stand.of_body Bd
  have e0 : s₁.heap = h0 := by rw [← hh, Bd.state]; rfl
  have N0 := Fr.nil n0
  have pre0 : ∀ z_, Steps p.tables e below (s₁.setTop (mkF m 0 #[.val (.ref a), .val (.int (2 : Int32))] [])) z_ → Steps p.tables e below (s₁.setTop (entryFrame m #[(.ref a), (.int (2 : Int32))] 2)) z_ := fun z_ k_ => castTop (ef_get2 m a) k_
  have r0 : own_R p e below s₁ (mkF m 0 #[.val (.ref a), .val (.int (2 : Int32))] []) s₁ (mkF m 0 #[.val (.ref a), .val (.int (2 : Int32))] []) := own_R.refl
  have ne_a_bl : a ≠ bl := (own_ne_arv E_a (hw _ (own_g (i := 15) rfl)) V_bl)
  have ne_a_en : a ≠ en := (own_ne_arv E_a (hw _ (own_g (i := 15) rfl)) V_en)
  have r1 : own_R p e below _ _ s₁ (mkF m 7 #[.val (.ref a), .val (.int (2 : Int32))] [(.ref a), (.int (2 : Int32))]) := r0.trans fun z_ kt => by
    refine XS.iloadN X0.here hx rfl (hb hby d32_0) rfl ?_
    refine XS.iconst X0.here hx rfl (hb hby d32_1) ?_
    refine XS.icmpNo X0.here hx rfl (hb hby d32_2) rfl (flt (by decide : ¬ ((2 : Int32) < (1 : Int32)))).1 ?_
    refine XS.iloadN X0.here hx rfl (hb hby d32_5) rfl ?_
    refine XS.aloadN X0.here hx rfl (hb hby d32_6) rfl rfl ?_
    exact kt
  obtain ⟨T2, X2, e2, st2⟩ := getF X0 hx hZ hown (host := "") (Or.inl (hw _ (own_g (i := 22) rfl))) Via.refl e0 F_a_nodes (g := (mkF m 7 #[.val (.ref a), .val (.int (2 : Int32))] [(.ref a), (.int (2 : Int32))])) rfl rfl (hb hby d32_7)
  have r2 : own_R p e below _ _ T2 (mkF m 10 #[.val (.ref a), .val (.int (2 : Int32))] [(.int (2 : Int32)), (.int (2 : Int32))]) := r1.trans fun z_ kt => st2 _ kt
  have r3 : own_R p e below _ _ T2 (mkF m 35 #[.val (.ref a), .val (.int (2 : Int32))] [(.int (1 : Int32)), (.ref a)]) := r2.trans fun z_ kt => by
    refine XS.icmpYes X2.here hx rfl (pc0 := 10) (pc' := 31) rfl (hb hby d32_10) rfl (flt (by decide : ¬ ((2 : Int32) < (2 : Int32)))).2.2.2 (by decide) (by decide) ?_
    refine XS.aloadN X2.here hx rfl (hb hby d32_31) rfl rfl ?_
    refine XS.iloadN X2.here hx rfl (hb hby d32_32) rfl ?_
    refine XS.iconst X2.here hx rfl (hb hby d32_33) ?_
    refine XS.isub X2.here hx rfl (hb hby d32_34) rfl ?_
    exact kt
  obtain ⟨cq4, kq4, q4a, q4b, q4c⟩ := isOf hZ e2 E_a
  obtain ⟨_, _, ⟨T4, L4, cc4, n4⟩, -, X4, ⟨Lc4, hQ4, l4, y4, z4⟩, st4⟩ := X2.virtualBack hx (y := (⟨"com/example/wildebeest/wildebeest/core/VectorTime", "entry", "(I)J"⟩ : MethodName)) (z := (⟨"com/example/wildebeest/wildebeest/core/VectorTime", "entry", "(I)J"⟩ : MethodName)) hown (mvT hZ (hw _ (own_g (i := 222) rfl))) (mvT hZ (hw _ (own_g (i := 223) rfl))) (notFace_of_selects (args := #[]) (mvT hZ (hw _ (own_g (i := 225) rfl)))) (mvT hZ (hw _ (own_g (i := 225) rfl))) (mvT hZ (hw _ (own_g (i := 224) rfl))) (by decide) (backOf (W := 0) (rm_entry1 l Z a0 hw [] (a) (bl) (kb) (en) (ke) (vse) h0 n0 O0 (F_a_blocks) (F_a_held) (V_bl) (V_en)) hZ (hw _ (own_g (i := 226) rfl)) (hw _ (own_g (i := 4) rfl)) (by decide) (by decide)) q4a q4c (g := (mkF m 35 #[.val (.ref a), .val (.int (2 : Int32))] [(.int (1 : Int32)), (.ref a)])) rfl (by rw [hml]; rfl) (Steps.refl _) (argsL := [(.int (1 : Int32))]) (rest := []) (lenOf pd_15 rfl) rfl (by show 2 * 0 + _ ≤ _; exact Nat.le_of_eq rfl) (hb hby d32_35) (fun _ _ => ⟨rfl, e2, (by decide : 0 + 0 ≤ _), (by decide : 0 + 0 ≤ _)⟩)
  dsimp only [Pt.U, Pt.locs, Pt.cells, Pt.slots] at X4 l4 y4 z4 st4 hQ4
  subst l4 y4 z4
  obtain ⟨jr_4, rfl, Nq4, eq4⟩ := hQ4
  have N4 := Fr.app N0 Nq4
  have r4 : own_R p e below _ _ T4 (mkF m 38 #[.val (.ref a), .val (.int (2 : Int32))] [(.long jr_4)]) := r3.trans fun z_ kt => st4.trans kt
  have e4 : T4.heap = h0 := eq4
  obtain ⟨fs_, hr_, hrun_, hended_, hW_, hsame_⟩ := X4.leave (v := some (.long jr_4)) (fun h => by rw [Bd.returns] at h; cases h)
  refine ⟨_, _, pre0 _ (r4 _ ?_), hrun_, hended_, _, _, rfl, ?_, ⟨_, rfl⟩, hW_, hsame_.mono (by decide) (by decide)⟩
  · exact retOut X4 hx Bd.returns rfl (Or.inr (Or.inl ⟨rfl, rfl, _, rfl⟩)) (hb hby d32_38) hr_
  · show Q_get2 Z a bl kb en ke vse h0 n0 _ T4.heap _
    rw [e4]
    exact ⟨jr_4, rfl, N4, rfl⟩

theorem d20_0 : decode prog_32_method_2_code 0 = .ok (.aload_n 1, 1) := by decide +kernel
theorem d20_1 : decode prog_32_method_2_code 1 = .ok (.invokevirtual 23, 3) := by decide +kernel
theorem d20_4 : decode prog_32_method_2_code 4 = .ok (.istore_n 2, 1) := by decide +kernel
theorem d20_5 : decode prog_32_method_2_code 5 = .ok (.iload_n 2, 1) := by decide +kernel
theorem d20_6 : decode prog_32_method_2_code 6 = .ok (.aload_n 0, 1) := by decide +kernel
theorem d20_7 : decode prog_32_method_2_code 7 = .ok (.getfield 19, 3) := by decide +kernel
theorem d20_10 : decode prog_32_method_2_code 10 = .ok (.arraylength, 1) := by decide +kernel
theorem d20_11 : decode prog_32_method_2_code 11 = .ok (.if_icmp .lt 27, 3) := by decide +kernel
theorem d20_14 : decode prog_32_method_2_code 14 = .ok (.aload_n 0, 1) := by decide +kernel
theorem d20_15 : decode prog_32_method_2_code 15 = .ok (.aload_n 0, 1) := by decide +kernel
theorem d20_16 : decode prog_32_method_2_code 16 = .ok (.getfield 19, 3) := by decide +kernel
theorem d20_19 : decode prog_32_method_2_code 19 = .ok (.iload_n 2, 1) := by decide +kernel
theorem d20_20 : decode prog_32_method_2_code 20 = .ok (.iconst 1, 1) := by decide +kernel
theorem d20_21 : decode prog_32_method_2_code 21 = .ok (.iadd, 1) := by decide +kernel
theorem d20_22 : decode prog_32_method_2_code 22 = .ok (.iconst 2, 1) := by decide +kernel
theorem d20_23 : decode prog_32_method_2_code 23 = .ok (.aload_n 0, 1) := by decide +kernel
theorem d20_24 : decode prog_32_method_2_code 24 = .ok (.getfield 19, 3) := by decide +kernel
theorem d20_27 : decode prog_32_method_2_code 27 = .ok (.arraylength, 1) := by decide +kernel
theorem d20_28 : decode prog_32_method_2_code 28 = .ok (.imul, 1) := by decide +kernel
theorem d20_29 : decode prog_32_method_2_code 29 = .ok (.invokestatic 29, 3) := by decide +kernel
theorem d20_32 : decode prog_32_method_2_code 32 = .ok (.invokestatic 35, 3) := by decide +kernel
theorem pd_16 : parseMethodDescriptor "([JI)[J" = some ⟨[(.array .long), .int], some (.array .long)⟩ := by decide +kernel
theorem d20_35 : decode prog_32_method_2_code 35 = .ok (.putfield 19, 3) := by decide +kernel
theorem d20_38 : decode prog_32_method_2_code 38 = .ok (.aload_n 0, 1) := by decide +kernel
theorem d20_39 : decode prog_32_method_2_code 39 = .ok (.getfield 19, 3) := by decide +kernel
theorem d20_42 : decode prog_32_method_2_code 42 = .ok (.iload_n 2, 1) := by decide +kernel
theorem d20_43 : decode prog_32_method_2_code 43 = .ok (.dup2, 1) := by decide +kernel
theorem d20_44 : decode prog_32_method_2_code 44 = .ok (.laload, 1) := by decide +kernel
theorem d20_45 : decode prog_32_method_2_code 45 = .ok (.lconst 1, 1) := by decide +kernel
theorem d20_46 : decode prog_32_method_2_code 46 = .ok (.ladd, 1) := by decide +kernel
theorem d20_47 : decode prog_32_method_2_code 47 = .ok (.lastore, 1) := by decide +kernel
theorem d20_48 : decode prog_32_method_2_code 48 = .ok (.aload_n 1, 1) := by decide +kernel
theorem d20_49 : decode prog_32_method_2_code 49 = .ok (.invokevirtual 41, 3) := by decide +kernel
theorem d20_52 : decode prog_32_method_2_code 52 = .ok (.invokevirtual 45, 3) := by decide +kernel
theorem d20_55 : decode prog_32_method_2_code 55 = .ok (.ifCond .eq 14, 3) := by decide +kernel
theorem d20_58 : decode prog_32_method_2_code 58 = .ok (.aload_n 0, 1) := by decide +kernel
theorem d20_59 : decode prog_32_method_2_code 59 = .ok (.dup, 1) := by decide +kernel
theorem d20_60 : decode prog_32_method_2_code 60 = .ok (.getfield 51, 3) := by decide +kernel
theorem d20_63 : decode prog_32_method_2_code 63 = .ok (.lconst 1, 1) := by decide +kernel
theorem d20_64 : decode prog_32_method_2_code 64 = .ok (.ladd, 1) := by decide +kernel
theorem d20_65 : decode prog_32_method_2_code 65 = .ok (.putfield 51, 3) := by decide +kernel
theorem d20_68 : decode prog_32_method_2_code 68 = .ok (.return_, 1) := by decide +kernel
theorem d20_69 : decode prog_32_method_2_code 69 = .ok (.aload_n 0, 1) := by decide +kernel
theorem d20_70 : decode prog_32_method_2_code 70 = .ok (.dup, 1) := by decide +kernel
theorem d20_71 : decode prog_32_method_2_code 71 = .ok (.getfield 55, 3) := by decide +kernel
theorem d20_74 : decode prog_32_method_2_code 74 = .ok (.lconst 1, 1) := by decide +kernel
theorem d20_75 : decode prog_32_method_2_code 75 = .ok (.ladd, 1) := by decide +kernel
theorem d20_76 : decode prog_32_method_2_code 76 = .ok (.putfield 55, 3) := by decide +kernel
theorem d20_79 : decode prog_32_method_2_code 79 = .ok (.aload_n 1, 1) := by decide +kernel
theorem d20_80 : decode prog_32_method_2_code 80 = .ok (.invokevirtual 41, 3) := by decide +kernel
theorem d20_83 : decode prog_32_method_2_code 83 = .ok (.invokevirtual 58, 3) := by decide +kernel
theorem pd_17 : parseMethodDescriptor "()Ljava/lang/Object;" = some ⟨[], some (.object "java/lang/Object")⟩ := by decide +kernel
theorem d20_86 : decode prog_32_method_2_code 86 = .ok (.checkcast 62, 3) := by decide +kernel
theorem d20_89 : decode prog_32_method_2_code 89 = .ok (.astore_n 3, 1) := by decide +kernel
theorem d20_90 : decode prog_32_method_2_code 90 = .ok (.aload_n 3, 1) := by decide +kernel
theorem d20_91 : decode prog_32_method_2_code 91 = .ok (.iload_n 2, 1) := by decide +kernel
theorem d20_92 : decode prog_32_method_2_code 92 = .ok (.invokevirtual 64, 3) := by decide +kernel
theorem d20_95 : decode prog_32_method_2_code 95 = .ok (.aload_n 0, 1) := by decide +kernel
theorem d20_96 : decode prog_32_method_2_code 96 = .ok (.getfield 19, 3) := by decide +kernel
theorem d20_99 : decode prog_32_method_2_code 99 = .ok (.iload_n 2, 1) := by decide +kernel
theorem d20_100 : decode prog_32_method_2_code 100 = .ok (.laload, 1) := by decide +kernel
theorem d20_101 : decode prog_32_method_2_code 101 = .ok (.lcmp, 1) := by decide +kernel
theorem d20_102 : decode prog_32_method_2_code 102 = .ok (.ifCond .eq 13, 3) := by decide +kernel
theorem d20_115 : decode prog_32_method_2_code 115 = .ok (.aload_n 1, 1) := by decide +kernel
theorem d20_116 : decode prog_32_method_2_code 116 = .ok (.invokevirtual 70, 3) := by decide +kernel
theorem pd_18 : parseMethodDescriptor "()Lcom/example/wildebeest/wildebeest/core/EventKind;" = some ⟨[], some (.object "com/example/wildebeest/wildebeest/core/EventKind")⟩ := by decide +kernel
theorem d20_119 : decode prog_32_method_2_code 119 = .ok (.getstatic 74, 3) := by decide +kernel
theorem d20_122 : decode prog_32_method_2_code 122 = .ok (.if_acmp .ne 66, 3) := by decide +kernel
theorem d20_188 : decode prog_32_method_2_code 188 = .ok (.aload_n 1, 1) := by decide +kernel
theorem d20_189 : decode prog_32_method_2_code 189 = .ok (.invokevirtual 70, 3) := by decide +kernel
theorem d20_192 : decode prog_32_method_2_code 192 = .ok (.getstatic 110, 3) := by decide +kernel
theorem d20_195 : decode prog_32_method_2_code 195 = .ok (.if_acmp .ne 63, 3) := by decide +kernel
theorem d20_258 : decode prog_32_method_2_code 258 = .ok (.return_, 1) := by decide +kernel
theorem d20_105 : decode prog_32_method_2_code 105 = .ok (.aload_n 0, 1) := by decide +kernel
theorem d20_106 : decode prog_32_method_2_code 106 = .ok (.dup, 1) := by decide +kernel
theorem d20_107 : decode prog_32_method_2_code 107 = .ok (.getfield 67, 3) := by decide +kernel
theorem d20_110 : decode prog_32_method_2_code 110 = .ok (.lconst 1, 1) := by decide +kernel
theorem d20_111 : decode prog_32_method_2_code 111 = .ok (.ladd, 1) := by decide +kernel
theorem d20_112 : decode prog_32_method_2_code 112 = .ok (.putfield 67, 3) := by decide +kernel
theorem ef_accept (m : MethodId) (a : Addr) (t : Addr) : entryFrame m #[(.ref a), (.ref t)] 5 = mkF m 0 #[.val (.ref a), .val (.ref t), .unset, .unset, .unset] [] := by first | (simp [entryFrame, mkF, argsToLocals, Value.category]; done) | rfl
def Q_accept (Z : State) (a : Addr) (t : Addr) (js : Int64) (ju : Int64) (jv : Int64) (v : Addr) (kd : Addr) (pn : Int32) (vv : Value) (ps : Int32) (ev : Addr) (kv : ClassId) (z : Int32) (vs : List Value) (s_OE : Addr) (s_SEND : Addr) (s_RECEIVE : Addr) (bl : Addr) (kb : ClassId) (en : Addr) (ke : ClassId) (vse : List Value) (h0 : Heap) (n0 : Nat) (v_ : Option Value) (h_ : Heap) (L_ : List Loc) : Prop := ∃ (ev2 : Addr) (kv2 : ClassId) (z2 : Int32) (vs2 : List Value) (js2 : Int64) (ju2 : Int64) (jv2 : Int64), v_ = none ∧ Fr n0 L_ ∧ Keep h0 h_ [a, ev] ∧ (ev2 = ev ∨ h0.size ≤ ev2) ∧ (Fld Z h_ a "com/example/wildebeest/wildebeest/core/CausalityCheck" "events" "[J" (.ref ev2)) ∧ (Arv Z h_ ev2 kv2 .long z2 vs2 (.long (0 : Int64))) ∧ (Fld Z h_ a "com/example/wildebeest/wildebeest/core/CausalityCheck" "stamped" "J" (.long js2)) ∧ (Fld Z h_ a "com/example/wildebeest/wildebeest/core/CausalityCheck" "unstamped" "J" (.long ju2)) ∧ (Fld Z h_ a "com/example/wildebeest/wildebeest/core/CausalityCheck" "violations" "J" (.long jv2)) ∧ (z2 = (0 : Int32) ∨ z2 = (2 : Int32) ∨ z2 = (3 : Int32) ∨ z2 = (4 : Int32)) ∧ (vs2.length = z2.toNatClampNeg) ∧ ((ps = (0 : Int32) ∧ js2 = js) ∨ (ps = (1 : Int32) ∧ js2 = (js + (1 : Int64))))
set_option maxRecDepth 65536 in
set_option maxHeartbeats 40000000 in
theorem rm_accept (l : Launch) (Z : State) (a0 : Array Value) (hw : ∀ d ∈ tables_1, d.before a0 Z = true) (ws : List Jvm.Cond) (a : Addr) (t : Addr) (js : Int64) (ju : Int64) (jv : Int64) (v : Addr) (kd : Addr) (pn : Int32) (vv : Value) (ps : Int32) (ev : Addr) (kv : ClassId) (z : Int32) (vs : List Value) (s_OE : Addr) (s_SEND : Addr) (s_RECEIVE : Addr) (bl : Addr) (kb : ClassId) (en : Addr) (ke : ClassId) (vse : List Value) (h0 : Heap) (n0 : Nat) (O0 : Old Z n0 h0) (E_a : Exa Z h0 a "com/example/wildebeest/wildebeest/core/CausalityCheck") (g_a : n0 ≤ a) (E_t : Exa Z h0 t "com/example/wildebeest/wildebeest/core/TraceEvent") (F_t_kind : Fld Z h0 t "com/example/wildebeest/wildebeest/core/TraceEvent" "kind" "Lcom/example/wildebeest/wildebeest/core/EventKind;" (.ref kd)) (F_t_node : Fld Z h0 t "com/example/wildebeest/wildebeest/core/TraceEvent" "node" "I" (.int pn)) (F_t_vector : Fld Z h0 t "com/example/wildebeest/wildebeest/core/TraceEvent" "vector" "Lcom/example/wildebeest/wildebeest/core/VectorTime;" vv) (F_a_stamped : Fld Z h0 a "com/example/wildebeest/wildebeest/core/CausalityCheck" "stamped" "J" (.long js)) (F_a_unstamped : Fld Z h0 a "com/example/wildebeest/wildebeest/core/CausalityCheck" "unstamped" "J" (.long ju)) (F_a_violations : Fld Z h0 a "com/example/wildebeest/wildebeest/core/CausalityCheck" "violations" "J" (.long jv)) (F_a_events : Fld Z h0 a "com/example/wildebeest/wildebeest/core/CausalityCheck" "events" "[J" (.ref ev)) (V_ev : Arv Z h0 ev kv .long z vs (.long (0 : Int64))) (g_ev : n0 ≤ ev) (hz : z = (0 : Int32) ∨ z = (2 : Int32) ∨ z = (3 : Int32) ∨ z = (4 : Int32)) (hvs : vs.length = z.toNatClampNeg) (hpn : pn = (1 : Int32) ∨ pn = (2 : Int32)) (hvv : (ps = (0 : Int32) ∧ vv = .null) ∨ (ps = (1 : Int32) ∧ vv = .ref v)) (S_Optional_EMPTY : Sta Z Z.heap "java/util/Optional" "EMPTY" "Ljava/util/Optional;" (.ref s_OE)) (OE_s_OE : Exa Z Z.heap s_OE "java/util/Optional") (OF_s_OE_value : Fld Z Z.heap s_OE "java/util/Optional" "value" "Ljava/lang/Object;" .null) (S_EventKind_SEND : Sta Z Z.heap "com/example/wildebeest/wildebeest/core/EventKind" "SEND" "Lcom/example/wildebeest/wildebeest/core/EventKind;" (.ref s_SEND)) (S_EventKind_RECEIVE : Sta Z Z.heap "com/example/wildebeest/wildebeest/core/EventKind" "RECEIVE" "Lcom/example/wildebeest/wildebeest/core/EventKind;" (.ref s_RECEIVE)) (ne_kd_s_SEND : kd ≠ s_SEND) (ne_kd_s_RECEIVE : kd ≠ s_RECEIVE) (E_v : Exa Z h0 v "com/example/wildebeest/wildebeest/core/VectorTime") (F_v_nodes : Fld Z h0 v "com/example/wildebeest/wildebeest/core/VectorTime" "nodes" "I" (.int (2 : Int32))) (F_v_blocks : Fld Z h0 v "com/example/wildebeest/wildebeest/core/VectorTime" "blocks" "[[J" (.ref bl)) (F_v_held : Fld Z h0 v "com/example/wildebeest/wildebeest/core/VectorTime" "held" "I" (.int (-1 : Int32))) (V_bl : Arv Z h0 bl kb (.array .long) (1 : Int32) [(.ref en)] .null) (V_en : Arv Z h0 en ke .long (32 : Int32) vse (.long (0 : Int64))) (ne_bl_ev : bl ≠ ev) (ne_en_ev : en ≠ ev) :
    MetFree l (⟨"com/example/wildebeest/wildebeest/core/CausalityCheck", "accept", "(Lcom/example/wildebeest/wildebeest/core/TraceEvent;)V"⟩ : MethodName) (head1 (Jvm.Cond.code (⟨"com/example/wildebeest/wildebeest/core/CausalityCheck", "accept", "(Lcom/example/wildebeest/wildebeest/core/TraceEvent;)V"⟩ : MethodName) prog_32_method_2_code 5 none :: ws) ({ frames := 4, cells := 3, slots := 6, locals := 55 } : Room)) (fun aa_ U_ => aa_ = #[(.ref a), (.ref t)] ∧ Z.Warmed39 U_.vm ∧ U_.heap = h0) (fun _ _ _ _ _ => True) (fun _ U_ o_ U_' => ∃ v_ L_, o_ = .returned v_ ∧ Q_accept Z a t js ju jv v kd pn vv ps ev kv z vs s_OE s_SEND s_RECEIVE bl kb en ke vse h0 n0 v_ U_'.heap L_ ∧ FrameEnd U_ o_ U_' L_ ({ frames := 4, cells := 3, slots := 6, locals := 55 } : Room).cells ({ frames := 4, cells := 3, slots := 6, locals := 55 } : Room).slots) := by
  refine MetFree.of_bodySF (plainFor_of_name pn_CausalityCheck) hisR ?_
  intro p e s m args below meth c s₁ Bd hml0 hP hK
  obtain ⟨rfl, hZ, hh⟩ := hP
  have hx := Bd.exec
  have hby := Bd.bytes
  have hml : c.maxLocals = 5 := hml0
  have hown : s.vm.findClass "com/example/wildebeest/wildebeest/core/CausalityCheck" = some m.cls := findClass_of_methodNamed Bd.named
  have hnm := (name_of_methodNamed Bd.named Bd.method).1
  have X0 : Stand p l e ({ frames := 4, cells := 3, slots := 6, locals := 55 } : Room) s m #[(.ref a), (.ref t)] below meth c s₁ [] 0 0 := Stand.of_body Bd
  have e0 : s₁.heap = h0 := by rw [← hh, Bd.state]; rfl
  have N0 := Fr.nil n0
  have K0 : Keep h0 h0 [a, ev] := Keep.refl h0 _
  have pre0 : ∀ z_, Steps p.tables e below (s₁.setTop (mkF m 0 #[.val (.ref a), .val (.ref t), .unset, .unset, .unset] [])) z_ → Steps p.tables e below (s₁.setTop (entryFrame m #[(.ref a), (.ref t)] 5)) z_ := fun z_ k_ => castTop (ef_accept m a t) k_
  have r0 : own_R p e below s₁ (mkF m 0 #[.val (.ref a), .val (.ref t), .unset, .unset, .unset] []) s₁ (mkF m 0 #[.val (.ref a), .val (.ref t), .unset, .unset, .unset] []) := own_R.refl
  have ne_a_t : a ≠ t := (ne_exa E_a E_t (by decide))
  have ne_a_ev : a ≠ ev := (own_ne_arv E_a (hw _ (own_g (i := 31) rfl)) V_ev)
  have ne_a_v : a ≠ v := (ne_exa E_a E_v (by decide))
  have ne_a_bl : a ≠ bl := (own_ne_arv E_a (hw _ (own_g (i := 31) rfl)) V_bl)
  have ne_a_en : a ≠ en := (own_ne_arv E_a (hw _ (own_g (i := 31) rfl)) V_en)
  have ne_t_ev : t ≠ ev := (own_ne_arv E_t (hw _ (own_g (i := 114) rfl)) V_ev)
  have ne_t_v : t ≠ v := (ne_exa E_t E_v (by decide))
  have ne_t_bl : t ≠ bl := (own_ne_arv E_t (hw _ (own_g (i := 114) rfl)) V_bl)
  have ne_t_en : t ≠ en := (own_ne_arv E_t (hw _ (own_g (i := 114) rfl)) V_en)
  have ne_ev_v : ev ≠ v := (Ne.symm (own_ne_arv E_v (hw _ (own_g (i := 15) rfl)) V_ev))
  have ne_v_bl : v ≠ bl := (own_ne_arv E_v (hw _ (own_g (i := 15) rfl)) V_bl)
  have ne_v_en : v ≠ en := (own_ne_arv E_v (hw _ (own_g (i := 15) rfl)) V_en)
  rcases hpn with hp0 | hp0
  · skip
    rw [hp0] at F_t_node
    have r1 : own_R p e below _ _ s₁ (mkF m 1 #[.val (.ref a), .val (.ref t), .unset, .unset, .unset] [(.ref t)]) := r0.trans fun z_ kt => by
      refine XS.aloadN X0.here hx rfl (hb hby d20_0) rfl rfl ?_
      exact kt
    obtain ⟨cq2, kq2, q2a, q2b, q2c⟩ := isOf hZ e0 E_t
    obtain ⟨_, _, ⟨T2, L2, cc2, n2⟩, -, X2, ⟨Lc2, hQ2, l2, y2, z2⟩, st2⟩ := X0.virtualBack hx (y := (⟨"com/example/wildebeest/wildebeest/core/TraceEvent", "node", "()I"⟩ : MethodName)) (z := (⟨"com/example/wildebeest/wildebeest/core/TraceEvent", "node", "()I"⟩ : MethodName)) hown (mvT hZ (hw _ (own_g (i := 160) rfl))) (mvT hZ (hw _ (own_g (i := 161) rfl))) (notFace_of_selects (args := #[]) (mvT hZ (hw _ (own_g (i := 163) rfl)))) (mvT hZ (hw _ (own_g (i := 163) rfl))) (mvT hZ (hw _ (own_g (i := 162) rfl))) (by decide) (backOf (W := 0) (rm_teNode l Z a0 hw [] (t) ((1 : Int32)) h0 n0 O0 (F_t_node)) hZ (hw _ (own_g (i := 164) rfl)) (hw _ (own_g (i := 85) rfl)) (by decide) (by decide)) q2a q2c (g := (mkF m 1 #[.val (.ref a), .val (.ref t), .unset, .unset, .unset] [(.ref t)])) rfl (by rw [hml]; rfl) (Steps.refl _) (argsL := []) (rest := []) (lenOf pd_8 rfl) rfl (by show 2 * 0 + _ ≤ _; exact Nat.le_of_eq rfl) (hb hby d20_1) (fun _ _ => ⟨rfl, e0, (by decide : 0 + 0 ≤ _), (by decide : 0 + 0 ≤ _)⟩)
    dsimp only [Pt.U, Pt.locs, Pt.cells, Pt.slots] at X2 l2 y2 z2 st2 hQ2
    subst l2 y2 z2
    obtain ⟨rfl, Nq2, eq2⟩ := hQ2
    have N2 := Fr.app N0 Nq2
    have r2 : own_R p e below _ _ T2 (mkF m 4 #[.val (.ref a), .val (.ref t), .unset, .unset, .unset] [(.int (1 : Int32))]) := r1.trans fun z_ kt => st2.trans kt
    have e2 : T2.heap = h0 := eq2
    have r3 : own_R p e below _ _ T2 (mkF m 5 #[.val (.ref a), .val (.ref t), .val (.int (1 : Int32)), .unset, .unset] []) := r2.trans fun z_ kt => by
      refine XS.istoreN X2.here hx rfl (hb hby d20_4) rfl (l' := #[.val (.ref a), .val (.ref t), .val (.int (1 : Int32)), .unset, .unset]) rfl ?_
      exact kt
    obtain ⟨ev1_g, kv1_g, z1_g, vs1_g, T4, h4, L4, X4, e4, N4, Kq4, p4_0, p4_1, p4_2, p4_3, p4_4, p4_5, p4_6, p4_7, r4⟩ : ∃ (ev1_g : Addr) (kv1_g : ClassId) (z1_g : Int32) (vs1_g : List Value) (T' : State) (h' : Heap) (locs' : List Loc), Stand p l e ({ frames := 4, cells := 3, slots := 6, locals := 55 } : Room) s m #[(.ref a), (.ref t)] below meth c T' locs' 1 4 ∧ T'.heap = h' ∧ Fr n0 locs' ∧ Keep h0 h' [a] ∧ (ev1_g = ev ∨ h0.size ≤ ev1_g) ∧ (Fld Z h' a "com/example/wildebeest/wildebeest/core/CausalityCheck" "events" "[J" (.ref ev1_g)) ∧ (Arv Z h' ev1_g kv1_g .long z1_g vs1_g (.long (0 : Int64))) ∧ ((z1_g = (2 : Int32) ∨ z1_g = (3 : Int32) ∨ z1_g = (4 : Int32)) ∧ (1 : Int32) < z1_g) ∧ (vs1_g.length = z1_g.toNatClampNeg) ∧ (Fld Z h' a "com/example/wildebeest/wildebeest/core/CausalityCheck" "stamped" "J" (.long js)) ∧ (Fld Z h' a "com/example/wildebeest/wildebeest/core/CausalityCheck" "unstamped" "J" (.long ju)) ∧ (Fld Z h' a "com/example/wildebeest/wildebeest/core/CausalityCheck" "violations" "J" (.long jv)) ∧ own_R p e below s₁ (mkF m 0 #[.val (.ref a), .val (.ref t), .unset, .unset, .unset] []) T' (mkF m 38 #[.val (.ref a), .val (.ref t), .val (.int (1 : Int32)), .unset, .unset] []) := by
      have Kb4 : Keep h0 h0 [a] := Keep.refl _ _
      rcases hz with hz0 | hz0 | hz0 | hz0
      · skip
        rw [hz0] at V_ev hvs
        have r5 : own_R p e below _ _ T2 (mkF m 7 #[.val (.ref a), .val (.ref t), .val (.int (1 : Int32)), .unset, .unset] [(.ref a), (.int (1 : Int32))]) := r3.trans fun z_ kt => by
          refine XS.iloadN X2.here hx rfl (hb hby d20_5) rfl ?_
          refine XS.aloadN X2.here hx rfl (hb hby d20_6) rfl rfl ?_
          exact kt
        obtain ⟨T6, X6, e6, st6⟩ := getF X2 hx hZ hown (host := "") (Or.inl (hw _ (own_g (i := 57) rfl))) Via.refl e2 F_a_events (g := (mkF m 7 #[.val (.ref a), .val (.ref t), .val (.int (1 : Int32)), .unset, .unset] [(.ref a), (.int (1 : Int32))])) rfl rfl (hb hby d20_7)
        have r6 : own_R p e below _ _ T6 (mkF m 10 #[.val (.ref a), .val (.ref t), .val (.int (1 : Int32)), .unset, .unset] [(.ref ev), (.int (1 : Int32))]) := r5.trans fun z_ kt => st6 _ kt
        obtain ⟨cl7, Ar7, q7, S7, M7, H7, G7⟩ := id V_ev
        have r8 : own_R p e below _ _ T6 (mkF m 16 #[.val (.ref a), .val (.ref t), .val (.int (1 : Int32)), .unset, .unset] [(.ref a), (.ref a)]) := r6.trans fun z_ kt => by
          refine X6.arraylength hx (by rw [e6]; exact Ar7.1) (State.isArrayOf_alike hZ.alike Ar7.2.1) (g := (mkF m 10 #[.val (.ref a), .val (.ref t), .val (.int (1 : Int32)), .unset, .unset] [(.ref ev), (.int (1 : Int32))])) rfl rfl (hb hby d20_10) _ ?_
          rw [len_of S7 M7]
          refine XS.icmpNo X6.here hx rfl (hb hby d20_11) rfl (flt (by decide : ¬ ((1 : Int32) < (0 : Int32)))).1 ?_
          refine XS.aloadN X6.here hx rfl (hb hby d20_14) rfl rfl ?_
          refine XS.aloadN X6.here hx rfl (hb hby d20_15) rfl rfl ?_
          exact kt
        obtain ⟨T9, X9, e9, st9⟩ := getF X6 hx hZ hown (host := "") (Or.inl (hw _ (own_g (i := 57) rfl))) Via.refl e6 F_a_events (g := (mkF m 16 #[.val (.ref a), .val (.ref t), .val (.int (1 : Int32)), .unset, .unset] [(.ref a), (.ref a)])) rfl rfl (hb hby d20_16)
        have r9 : own_R p e below _ _ T9 (mkF m 19 #[.val (.ref a), .val (.ref t), .val (.int (1 : Int32)), .unset, .unset] [(.ref ev), (.ref a)]) := r8.trans fun z_ kt => st9 _ kt
        have r10 : own_R p e below _ _ T9 (mkF m 24 #[.val (.ref a), .val (.ref t), .val (.int (1 : Int32)), .unset, .unset] [(.ref a), (.int (2 : Int32)), (.int (2 : Int32)), (.ref ev), (.ref a)]) := r9.trans fun z_ kt => by
          refine XS.iloadN X9.here hx rfl (hb hby d20_19) rfl ?_
          refine XS.iconst X9.here hx rfl (hb hby d20_20) ?_
          refine XS.iadd X9.here hx rfl (hb hby d20_21) rfl ?_
          refine XS.iconst X9.here hx rfl (hb hby d20_22) ?_
          refine XS.aloadN X9.here hx rfl (hb hby d20_23) rfl rfl ?_
          exact kt
        obtain ⟨T11, X11, e11, st11⟩ := getF X9 hx hZ hown (host := "") (Or.inl (hw _ (own_g (i := 57) rfl))) Via.refl e9 F_a_events (g := (mkF m 24 #[.val (.ref a), .val (.ref t), .val (.int (1 : Int32)), .unset, .unset] [(.ref a), (.int (2 : Int32)), (.int (2 : Int32)), (.ref ev), (.ref a)])) rfl rfl (hb hby d20_24)
        have r11 : own_R p e below _ _ T11 (mkF m 27 #[.val (.ref a), .val (.ref t), .val (.int (1 : Int32)), .unset, .unset] [(.ref ev), (.int (2 : Int32)), (.int (2 : Int32)), (.ref ev), (.ref a)]) := r10.trans fun z_ kt => st11 _ kt
        obtain ⟨cl12, Ar12, q12, S12, M12, H12, G12⟩ := id V_ev
        have r13 : own_R p e below _ _ T11 (mkF m 29 #[.val (.ref a), .val (.ref t), .val (.int (1 : Int32)), .unset, .unset] [(.int (0 : Int32)), (.int (2 : Int32)), (.ref ev), (.ref a)]) := r11.trans fun z_ kt => by
          refine X11.arraylength hx (by rw [e11]; exact Ar12.1) (State.isArrayOf_alike hZ.alike Ar12.2.1) (g := (mkF m 27 #[.val (.ref a), .val (.ref t), .val (.int (1 : Int32)), .unset, .unset] [(.ref ev), (.int (2 : Int32)), (.int (2 : Int32)), (.ref ev), (.ref a)])) rfl rfl (hb hby d20_27) _ ?_
          rw [len_of S12 M12]
          refine XS.imul X11.here hx rfl (hb hby d20_28) rfl ?_
          exact kt
        obtain ⟨_, _, ⟨T14, L14, cc14, n14⟩, -, X14, ⟨Lc14, hQ14, l14, y14, z14⟩, st14⟩ := Jvm.LawKit.callS X11 hx (y := (⟨"java/lang/Math", "max", "(II)I"⟩ : MethodName)) hown (mvT hZ (hw _ (own_g (i := 165) rfl))) (mvT hZ (hw _ (own_g (i := 166) rfl))) (mvT hZ (hw _ (own_g (i := 167) rfl))) (mvT hZ (hw _ (own_g (i := 168) rfl))) (by decide) (backOf (W := 2) (rm_maxI l Z a0 hw [] ((2 : Int32)) ((0 : Int32)) ((2 : Int32)) h0 n0 O0 (Or.inr ⟨by decide, rfl⟩)) hZ (hw _ (own_g (i := 168) rfl)) (hw _ (own_g (i := 167) rfl)) (by decide) (by decide)) (g := (mkF m 29 #[.val (.ref a), .val (.ref t), .val (.int (1 : Int32)), .unset, .unset] [(.int (0 : Int32)), (.int (2 : Int32)), (.ref ev), (.ref a)])) rfl (by rw [hml]; rfl) (argsL := [(.int (2 : Int32)), (.int (0 : Int32))]) (rest := [(.ref ev), (.ref a)]) (lenOf pd_14 rfl) rfl (by show 2 * 0 + _ ≤ _; exact Nat.le_of_eq rfl) (hb hby d20_29) (fun _ _ => ⟨rfl, e11, (by decide : 0 + 0 ≤ _), (by decide : 0 + 0 ≤ _)⟩)
        dsimp only [Pt.U, Pt.locs, Pt.cells, Pt.slots] at X14 l14 y14 z14 st14 hQ14
        subst l14 y14 z14
        obtain ⟨rfl, Nq14, eq14⟩ := hQ14
        have N14 := Fr.app N2 Nq14
        have r14 : own_R p e below _ _ T14 (mkF m 32 #[.val (.ref a), .val (.ref t), .val (.int (1 : Int32)), .unset, .unset] [(.int (2 : Int32)), (.ref ev), (.ref a)]) := r13.trans fun z_ kt => st14 _ kt
        have e14 : T14.heap = h0 := eq14
        obtain ⟨_, _, ⟨T15, L15, cc15, n15⟩, -, X15, ⟨Lc15, hQ15, l15, y15, z15⟩, st15⟩ := Jvm.LawKit.callS X14 hx (y := (⟨"java/util/Arrays", "copyOf", "([JI)[J"⟩ : MethodName)) hown (mvT hZ (hw _ (own_g (i := 169) rfl))) (mvT hZ (hw _ (own_g (i := 170) rfl))) (mvT hZ (hw _ (own_g (i := 171) rfl))) (mvT hZ (hw _ (own_g (i := 172) rfl))) (by decide) (backOf (W := 1) (rm_copy02 l Z a0 hw [] (ev) (kv) (vs) h0 n0 O0 (V_ev)) hZ (hw _ (own_g (i := 172) rfl)) (hw _ (own_g (i := 171) rfl)) (by decide) (by decide)) (g := (mkF m 32 #[.val (.ref a), .val (.ref t), .val (.int (1 : Int32)), .unset, .unset] [(.int (2 : Int32)), (.ref ev), (.ref a)])) rfl (by rw [hml]; rfl) (argsL := [(.ref ev), (.int (2 : Int32))]) (rest := [(.ref a)]) (lenOf pd_16 rfl) rfl (by show 2 * 0 + _ ≤ _; exact Nat.le_of_eq rfl) (hb hby d20_32) (fun _ _ => ⟨rfl, e14, (by decide : 0 + 1 ≤ _), (by decide : 0 + 2 ≤ _)⟩)
        dsimp only [Pt.U, Pt.locs, Pt.cells, Pt.slots] at X15 l15 y15 z15 st15 hQ15
        subst l15 y15 z15
        obtain ⟨h15, e15⟩ : ∃ z, T15.heap = z := ⟨_, rfl⟩
        rw [e15] at hQ15
        obtain ⟨b_15, kb_15, vb_15, rfl, Nq15, Kq15, p15_0, p15_1, p15_2⟩ := hQ15
        have N15 := Fr.app N14 Nq15
        have r15 : own_R p e below _ _ T15 (mkF m 35 #[.val (.ref a), .val (.ref t), .val (.int (1 : Int32)), .unset, .unset] [(.ref b_15), (.ref a)]) := r14.trans fun z_ kt => st15 _ kt
        have ne_a_b_15 : a ≠ b_15 := Nat.ne_of_lt (Nat.lt_of_lt_of_le E_a.lt p15_0)
        have ne_t_b_15 : t ≠ b_15 := Nat.ne_of_lt (Nat.lt_of_lt_of_le E_t.lt p15_0)
        have ne_ev_b_15 : ev ≠ b_15 := Nat.ne_of_lt (Nat.lt_of_lt_of_le V_ev.lt p15_0)
        have ne_v_b_15 : v ≠ b_15 := Nat.ne_of_lt (Nat.lt_of_lt_of_le E_v.lt p15_0)
        have ne_bl_b_15 : bl ≠ b_15 := Nat.ne_of_lt (Nat.lt_of_lt_of_le V_bl.lt p15_0)
        have ne_en_b_15 : en ≠ b_15 := Nat.ne_of_lt (Nat.lt_of_lt_of_le V_en.lt p15_0)
        have g_b_15 : n0 ≤ b_15 := Nat.le_trans (own_old_size O0) p15_0
        have sz_b_15 : h0.size ≤ b_15 := Nat.le_trans Kb4.1 p15_0
        have O15 := O0.keep Kq15 all0
        have K15 := Kb4.trans Kq15 all0
        have f16 := (F_a_events.keep Kq15 nin0)
        have f17 := (E_a.keep Kq15)
        obtain ⟨T18, h18, X18, e18, W18, st18⟩ := putF X15 hx hZ hown (host := "") (Or.inl (hw _ (own_g (i := 57) rfl))) Via.refl e15 f16 f17 (Or.inl (hw _ (own_g (i := 58) rfl))) (hw _ (own_g (i := 31) rfl)) (ty := (.array .long)) (v := (.ref b_15)) (by decide) rfl rfl (g := (mkF m 35 #[.val (.ref a), .val (.ref t), .val (.int (1 : Int32)), .unset, .unset] [(.ref b_15), (.ref a)])) rfl rfl (hb hby d20_35)
        have r18 : own_R p e below _ _ T18 (mkF m 38 #[.val (.ref a), .val (.ref t), .val (.int (1 : Int32)), .unset, .unset] []) := r15.trans fun z_ kt => st18 _ kt
        have N18 := Fr.snoc X18 N15 g_a
        have O18 := O15.wr W18 g_a
        have K18 := K15.wr W18 (Or.inl (List.mem_of_getElem? (i := 0) rfl))
        have F18 := f16.same W18
        have f19 := (p15_1.other W18 (Ne.symm ne_a_b_15))
        have f20 := ((F_a_stamped.keep Kq15 nin0).other W18 (Or.inr (slot_ne (Or.inl (hw _ (own_g (i := 65) rfl))) (Or.inl (hw _ (own_g (i := 58) rfl))) (by decide) (t := .long) (t' := (.array .long)) (by decide) (by decide))))
        have f21 := ((F_a_unstamped.keep Kq15 nin0).other W18 (Or.inr (slot_ne (Or.inl (hw _ (own_g (i := 194) rfl))) (Or.inl (hw _ (own_g (i := 58) rfl))) (by decide) (t := .long) (t' := (.array .long)) (by decide) (by decide))))
        have f22 := ((F_a_violations.keep Kq15 nin0).other W18 (Or.inr (slot_ne (Or.inl (hw _ (own_g (i := 228) rfl))) (Or.inl (hw _ (own_g (i := 58) rfl))) (by decide) (t := .long) (t' := (.array .long)) (by decide) (by decide))))
        exact ⟨b_15, kb_15, (2 : Int32), vb_15, T18, _, _, X18.more (by decide) (by decide), e18, N18, K18, Or.inr sz_b_15, F18, f19, by decide, p15_2, f20, f21, f22, r18⟩
      · skip
        rw [hz0] at V_ev hvs
        have r23 : own_R p e below _ _ T2 (mkF m 7 #[.val (.ref a), .val (.ref t), .val (.int (1 : Int32)), .unset, .unset] [(.ref a), (.int (1 : Int32))]) := r3.trans fun z_ kt => by
          refine XS.iloadN X2.here hx rfl (hb hby d20_5) rfl ?_
          refine XS.aloadN X2.here hx rfl (hb hby d20_6) rfl rfl ?_
          exact kt
        obtain ⟨T24, X24, e24, st24⟩ := getF X2 hx hZ hown (host := "") (Or.inl (hw _ (own_g (i := 57) rfl))) Via.refl e2 F_a_events (g := (mkF m 7 #[.val (.ref a), .val (.ref t), .val (.int (1 : Int32)), .unset, .unset] [(.ref a), (.int (1 : Int32))])) rfl rfl (hb hby d20_7)
        have r24 : own_R p e below _ _ T24 (mkF m 10 #[.val (.ref a), .val (.ref t), .val (.int (1 : Int32)), .unset, .unset] [(.ref ev), (.int (1 : Int32))]) := r23.trans fun z_ kt => st24 _ kt
        obtain ⟨cl25, Ar25, q25, S25, M25, H25, G25⟩ := id V_ev
        have r26 : own_R p e below _ _ T24 (mkF m 38 #[.val (.ref a), .val (.ref t), .val (.int (1 : Int32)), .unset, .unset] []) := r24.trans fun z_ kt => by
          refine X24.arraylength hx (by rw [e24]; exact Ar25.1) (State.isArrayOf_alike hZ.alike Ar25.2.1) (g := (mkF m 10 #[.val (.ref a), .val (.ref t), .val (.int (1 : Int32)), .unset, .unset] [(.ref ev), (.int (1 : Int32))])) rfl rfl (hb hby d20_10) _ ?_
          rw [len_of S25 M25]
          refine XS.icmpYes X24.here hx rfl (pc0 := 11) (pc' := 38) rfl (hb hby d20_11) rfl (tlt (by decide : (1 : Int32) < (2 : Int32))).1 (by decide) (by decide) ?_
          exact kt
        exact ⟨ev, kv, (2 : Int32), vs, T24, _, _, X24.more (by decide) (by decide), e24, N2, Kb4, Or.inl rfl, F_a_events, V_ev, by decide, hvs, F_a_stamped, F_a_unstamped, F_a_violations, r26⟩
      · skip
        rw [hz0] at V_ev hvs
        have r27 : own_R p e below _ _ T2 (mkF m 7 #[.val (.ref a), .val (.ref t), .val (.int (1 : Int32)), .unset, .unset] [(.ref a), (.int (1 : Int32))]) := r3.trans fun z_ kt => by
          refine XS.iloadN X2.here hx rfl (hb hby d20_5) rfl ?_
          refine XS.aloadN X2.here hx rfl (hb hby d20_6) rfl rfl ?_
          exact kt
        obtain ⟨T28, X28, e28, st28⟩ := getF X2 hx hZ hown (host := "") (Or.inl (hw _ (own_g (i := 57) rfl))) Via.refl e2 F_a_events (g := (mkF m 7 #[.val (.ref a), .val (.ref t), .val (.int (1 : Int32)), .unset, .unset] [(.ref a), (.int (1 : Int32))])) rfl rfl (hb hby d20_7)
        have r28 : own_R p e below _ _ T28 (mkF m 10 #[.val (.ref a), .val (.ref t), .val (.int (1 : Int32)), .unset, .unset] [(.ref ev), (.int (1 : Int32))]) := r27.trans fun z_ kt => st28 _ kt
        obtain ⟨cl29, Ar29, q29, S29, M29, H29, G29⟩ := id V_ev
        have r30 : own_R p e below _ _ T28 (mkF m 38 #[.val (.ref a), .val (.ref t), .val (.int (1 : Int32)), .unset, .unset] []) := r28.trans fun z_ kt => by
          refine X28.arraylength hx (by rw [e28]; exact Ar29.1) (State.isArrayOf_alike hZ.alike Ar29.2.1) (g := (mkF m 10 #[.val (.ref a), .val (.ref t), .val (.int (1 : Int32)), .unset, .unset] [(.ref ev), (.int (1 : Int32))])) rfl rfl (hb hby d20_10) _ ?_
          rw [len_of S29 M29]
          refine XS.icmpYes X28.here hx rfl (pc0 := 11) (pc' := 38) rfl (hb hby d20_11) rfl (tlt (by decide : (1 : Int32) < (3 : Int32))).1 (by decide) (by decide) ?_
          exact kt
        exact ⟨ev, kv, (3 : Int32), vs, T28, _, _, X28.more (by decide) (by decide), e28, N2, Kb4, Or.inl rfl, F_a_events, V_ev, by decide, hvs, F_a_stamped, F_a_unstamped, F_a_violations, r30⟩
      · skip
        rw [hz0] at V_ev hvs
        have r31 : own_R p e below _ _ T2 (mkF m 7 #[.val (.ref a), .val (.ref t), .val (.int (1 : Int32)), .unset, .unset] [(.ref a), (.int (1 : Int32))]) := r3.trans fun z_ kt => by
          refine XS.iloadN X2.here hx rfl (hb hby d20_5) rfl ?_
          refine XS.aloadN X2.here hx rfl (hb hby d20_6) rfl rfl ?_
          exact kt
        obtain ⟨T32, X32, e32, st32⟩ := getF X2 hx hZ hown (host := "") (Or.inl (hw _ (own_g (i := 57) rfl))) Via.refl e2 F_a_events (g := (mkF m 7 #[.val (.ref a), .val (.ref t), .val (.int (1 : Int32)), .unset, .unset] [(.ref a), (.int (1 : Int32))])) rfl rfl (hb hby d20_7)
        have r32 : own_R p e below _ _ T32 (mkF m 10 #[.val (.ref a), .val (.ref t), .val (.int (1 : Int32)), .unset, .unset] [(.ref ev), (.int (1 : Int32))]) := r31.trans fun z_ kt => st32 _ kt
        obtain ⟨cl33, Ar33, q33, S33, M33, H33, G33⟩ := id V_ev
        have r34 : own_R p e below _ _ T32 (mkF m 38 #[.val (.ref a), .val (.ref t), .val (.int (1 : Int32)), .unset, .unset] []) := r32.trans fun z_ kt => by
          refine X32.arraylength hx (by rw [e32]; exact Ar33.1) (State.isArrayOf_alike hZ.alike Ar33.2.1) (g := (mkF m 10 #[.val (.ref a), .val (.ref t), .val (.int (1 : Int32)), .unset, .unset] [(.ref ev), (.int (1 : Int32))])) rfl rfl (hb hby d20_10) _ ?_
          rw [len_of S33 M33]
          refine XS.icmpYes X32.here hx rfl (pc0 := 11) (pc' := 38) rfl (hb hby d20_11) rfl (tlt (by decide : (1 : Int32) < (4 : Int32))).1 (by decide) (by decide) ?_
          exact kt
        exact ⟨ev, kv, (4 : Int32), vs, T32, _, _, X32.more (by decide) (by decide), e32, N2, Kb4, Or.inl rfl, F_a_events, V_ev, by decide, hvs, F_a_stamped, F_a_unstamped, F_a_violations, r34⟩
    have ne_a_ev1_g : a ≠ ev1_g := own_fe p4_0 ne_a_ev E_a.lt
    have ne_t_ev1_g : t ≠ ev1_g := own_fe p4_0 ne_t_ev E_t.lt
    have ne_v_ev1_g : v ≠ ev1_g := own_fe p4_0 (Ne.symm ne_ev_v) E_v.lt
    have ne_bl_ev1_g : bl ≠ ev1_g := own_fe p4_0 ne_bl_ev V_bl.lt
    have ne_en_ev1_g : en ≠ ev1_g := own_fe p4_0 ne_en_ev V_en.lt
    have g_ev1_g : n0 ≤ ev1_g := own_feg p4_0 g_ev (own_old_size O0)
    have O4 := O0.keep Kq4 (allS g_a all0)
    have K4 := K0.trans Kq4 (allS (Or.inl (List.mem_of_getElem? (i := 0) rfl)) all0)
    rcases hvv with ⟨hps, hv⟩ | ⟨hps, hv⟩
    · skip
      rw [hv] at F_t_vector
      have r35 : own_R p e below _ _ T4 (mkF m 39 #[.val (.ref a), .val (.ref t), .val (.int (1 : Int32)), .unset, .unset] [(.ref a)]) := r4.trans fun z_ kt => by
        refine XS.aloadN X4.here hx rfl (hb hby d20_38) rfl rfl ?_
        exact kt
      obtain ⟨T36, X36, e36, st36⟩ := getF X4 hx hZ hown (host := "") (Or.inl (hw _ (own_g (i := 57) rfl))) Via.refl e4 p4_1 (g := (mkF m 39 #[.val (.ref a), .val (.ref t), .val (.int (1 : Int32)), .unset, .unset] [(.ref a)])) rfl rfl (hb hby d20_39)
      have r36 : own_R p e below _ _ T36 (mkF m 42 #[.val (.ref a), .val (.ref t), .val (.int (1 : Int32)), .unset, .unset] [(.ref ev1_g)]) := r35.trans fun z_ kt => st36 _ kt
      have r38 : own_R p e below _ _ T36 (mkF m 44 #[.val (.ref a), .val (.ref t), .val (.int (1 : Int32)), .unset, .unset] [(.int (1 : Int32)), (.ref ev1_g), (.int (1 : Int32)), (.ref ev1_g)]) := r36.trans fun z_ kt => by
        refine XS.iloadN X36.here hx rfl (hb hby d20_42) rfl ?_
        jvm_step X36.here [X36.here.top, hx, (hb hby d20_43), Value.category]
        exact kt
      obtain ⟨cl37, Ar37, q37, S37, M37, H37, G37⟩ := id p4_2
      obtain ⟨jr37, hjr37⟩ := fit_J (G37 1 (by rw [S37]; exact own_ix p4_3.2))
      have hin37 : ¬ ((1 : Int32) < 0 ∨ cl37.slots.size ≤ ((1 : Int32)).toNatClampNeg) := inb_of S37 ⟨by decide, p4_3.2⟩
      have hat37 : cl37.slots[((1 : Int32)).toNatClampNeg]? = some (.long jr37) := Has.at H37 hin37 hjr37
      obtain ⟨cl39, Ar39, q39, S39, M39, H39, G39⟩ := id p4_2
      have hin39 : ¬ ((1 : Int32) < 0 ∨ cl39.slots.size ≤ ((1 : Int32)).toNatClampNeg) := inb_of S39 ⟨by decide, p4_3.2⟩
      have r40 : own_R p e below _ _ T36 (mkF m 47 #[.val (.ref a), .val (.ref t), .val (.int (1 : Int32)), .unset, .unset] [(.long (jr37 + (1 : Int64))), (.int (1 : Int32)), (.ref ev1_g)]) := r38.trans fun z_ kt => by
        refine X36.laload hx (j := (1 : Int32)) (v := (.long jr37)) (by rw [e36]; exact Ar37.1) (State.isArrayOf_alike hZ.alike Ar37.2.1) Ar37.2.2 hin37 hat37 (g := (mkF m 44 #[.val (.ref a), .val (.ref t), .val (.int (1 : Int32)), .unset, .unset] [(.int (1 : Int32)), (.ref ev1_g), (.int (1 : Int32)), (.ref ev1_g)])) rfl rfl (hb hby d20_44) _ ?_
        refine XS.lconst X36.here hx rfl (hb hby d20_45) ?_
        refine XS.ladd X36.here hx rfl (hb hby d20_46) rfl ?_
        exact kt
      obtain ⟨T41, h41, X41, e41, W41, st41⟩ := stJ X36 hx hZ e36 Ar39 (j := (1 : Int32)) hin39 (g := (mkF m 47 #[.val (.ref a), .val (.ref t), .val (.int (1 : Int32)), .unset, .unset] [(.long (jr37 + (1 : Int64))), (.int (1 : Int32)), (.ref ev1_g)])) rfl rfl (hb hby d20_47)
      have r41 : own_R p e below _ _ T41 (mkF m 48 #[.val (.ref a), .val (.ref t), .val (.int (1 : Int32)), .unset, .unset] []) := r40.trans fun z_ kt => st41 _ kt
      have N41 := Fr.snoc X41 N4 g_ev1_g
      have O41 := O4.wr W41 g_ev1_g
      have K41 := K4.wr W41 (own_few p4_0 (List.mem_of_getElem? (i := 1) rfl) K0.1)
      have V41 : Arv Z h41 ev1_g kv1_g .long z1_g (vs1_g.set 1 (.long (jr37 + (1 : Int64)))) (.long (0 : Int64)) := Arv.set Ar39 q39 S39 M39 H39 G39 rfl W41 1 rfl (by rw [p4_4]; exact own_ix p4_3.2)
      have f42 := ((E_t.keep Kq4).wr W41)
      have r43 : own_R p e below _ _ T41 (mkF m 49 #[.val (.ref a), .val (.ref t), .val (.int (1 : Int32)), .unset, .unset] [(.ref t)]) := r41.trans fun z_ kt => by
        refine XS.aloadN X41.here hx rfl (hb hby d20_48) rfl rfl ?_
        exact kt
      have f44 := ((F_t_vector.keep Kq4 (ninS (Ne.symm ne_a_t) nin0)).other W41 (Or.inl ne_t_ev1_g))
      obtain ⟨cq45, kq45, q45a, q45b, q45c⟩ := isOf hZ e41 f42
      obtain ⟨_, _, ⟨T45, L45, cc45, n45⟩, -, X45, ⟨Lc45, hQ45, l45, y45, z45⟩, st45⟩ := X41.virtualBack hx (y := (⟨"com/example/wildebeest/wildebeest/core/TraceEvent", "vector", "()Ljava/util/Optional;"⟩ : MethodName)) (z := (⟨"com/example/wildebeest/wildebeest/core/TraceEvent", "vector", "()Ljava/util/Optional;"⟩ : MethodName)) hown (mvT hZ (hw _ (own_g (i := 180) rfl))) (mvT hZ (hw _ (own_g (i := 181) rfl))) (notFace_of_selects (args := #[]) (mvT hZ (hw _ (own_g (i := 183) rfl)))) (mvT hZ (hw _ (own_g (i := 183) rfl))) (mvT hZ (hw _ (own_g (i := 182) rfl))) (by decide) (backOf (W := 0) (rm_teVecN l Z a0 hw [] (t) (s_OE) h41 n0 O41 (f44) (S_Optional_EMPTY)) hZ (hw _ (own_g (i := 184) rfl)) (hw _ (own_g (i := 85) rfl)) (by decide) (by decide)) q45a q45c (g := (mkF m 49 #[.val (.ref a), .val (.ref t), .val (.int (1 : Int32)), .unset, .unset] [(.ref t)])) rfl (by rw [hml]; rfl) (Steps.refl _) (argsL := []) (rest := []) (lenOf pd_10 rfl) rfl (by show 2 * 0 + _ ≤ _; exact Nat.le_of_eq rfl) (hb hby d20_49) (fun _ _ => ⟨rfl, e41, (by decide : 1 + 0 ≤ _), (by decide : 4 + 0 ≤ _)⟩)
      dsimp only [Pt.U, Pt.locs, Pt.cells, Pt.slots] at X45 l45 y45 z45 st45 hQ45
      subst l45 y45 z45
      obtain ⟨rfl, Nq45, eq45⟩ := hQ45
      have N45 := Fr.app N41 Nq45
      have r45 : own_R p e below _ _ T45 (mkF m 52 #[.val (.ref a), .val (.ref t), .val (.int (1 : Int32)), .unset, .unset] [(.ref s_OE)]) := r43.trans fun z_ kt => st45.trans kt
      have e45 : T45.heap = h41 := eq45
      obtain ⟨cq46, kq46, q46a, q46b, q46c⟩ := isOf hZ e45 (OE_s_OE.ext O41.2)
      obtain ⟨_, _, ⟨T46, L46, cc46, n46⟩, -, X46, ⟨Lc46, hQ46, l46, y46, z46⟩, st46⟩ := X45.virtualBack hx (y := (⟨"java/util/Optional", "isEmpty", "()Z"⟩ : MethodName)) (z := (⟨"java/util/Optional", "isEmpty", "()Z"⟩ : MethodName)) hown (mvT hZ (hw _ (own_g (i := 188) rfl))) (mvT hZ (hw _ (own_g (i := 189) rfl))) (notFace_of_selects (args := #[]) (mvT hZ (hw _ (own_g (i := 191) rfl)))) (mvT hZ (hw _ (own_g (i := 191) rfl))) (mvT hZ (hw _ (own_g (i := 190) rfl))) (by decide) (backOf (W := 0) (rm_opIsEmptyN l Z a0 hw [] (s_OE) h41 n0 O41 ((OF_s_OE_value.ext O41.2))) hZ (hw _ (own_g (i := 192) rfl)) (hw _ (own_g (i := 75) rfl)) (by decide) (by decide)) q46a q46c (g := (mkF m 52 #[.val (.ref a), .val (.ref t), .val (.int (1 : Int32)), .unset, .unset] [(.ref s_OE)])) rfl (by rw [hml]; rfl) (Steps.refl _) (argsL := []) (rest := []) (lenOf pd_5 rfl) rfl (by show 2 * 0 + _ ≤ _; exact Nat.le_of_eq rfl) (hb hby d20_52) (fun _ _ => ⟨rfl, e45, (by decide : 1 + 0 ≤ _), (by decide : 4 + 0 ≤ _)⟩)
      dsimp only [Pt.U, Pt.locs, Pt.cells, Pt.slots] at X46 l46 y46 z46 st46 hQ46
      subst l46 y46 z46
      obtain ⟨rfl, Nq46, eq46⟩ := hQ46
      have N46 := Fr.app N45 Nq46
      have r46 : own_R p e below _ _ T46 (mkF m 55 #[.val (.ref a), .val (.ref t), .val (.int (1 : Int32)), .unset, .unset] [(.int (1 : Int32))]) := r45.trans fun z_ kt => st46.trans kt
      have e46 : T46.heap = h41 := eq46
      have f47 := (p4_6.other W41 (Or.inl ne_a_ev1_g))
      have r48 : own_R p e below _ _ T46 (mkF m 60 #[.val (.ref a), .val (.ref t), .val (.int (1 : Int32)), .unset, .unset] [(.ref a), (.ref a)]) := r46.trans fun z_ kt => by
        refine XS.ifNo X46.here hx rfl (hb hby d20_55) rfl ((if0 _ _).trans (feq (by decide : ¬ ((1 : Int32) = (0 : Int32)))).1) ?_
        refine XS.aloadN X46.here hx rfl (hb hby d20_58) rfl rfl ?_
        refine XS.dup X46.here hx rfl (hb hby d20_59) rfl rfl ?_
        exact kt
      obtain ⟨T49, X49, e49, st49⟩ := getF X46 hx hZ hown (host := "") (Or.inl (hw _ (own_g (i := 193) rfl))) Via.refl e46 f47 (g := (mkF m 60 #[.val (.ref a), .val (.ref t), .val (.int (1 : Int32)), .unset, .unset] [(.ref a), (.ref a)])) rfl rfl (hb hby d20_60)
      have r49 : own_R p e below _ _ T49 (mkF m 63 #[.val (.ref a), .val (.ref t), .val (.int (1 : Int32)), .unset, .unset] [(.long ju), (.ref a)]) := r48.trans fun z_ kt => st49 _ kt
      have f50 := ((E_a.keep Kq4).wr W41)
      have r51 : own_R p e below _ _ T49 (mkF m 65 #[.val (.ref a), .val (.ref t), .val (.int (1 : Int32)), .unset, .unset] [(.long (ju + (1 : Int64))), (.ref a)]) := r49.trans fun z_ kt => by
        refine XS.lconst X49.here hx rfl (hb hby d20_63) ?_
        refine XS.ladd X49.here hx rfl (hb hby d20_64) rfl ?_
        exact kt
      obtain ⟨T52, h52, X52, e52, W52, st52⟩ := putF X49 hx hZ hown (host := "") (Or.inl (hw _ (own_g (i := 193) rfl))) Via.refl e49 f47 f50 (Or.inl (hw _ (own_g (i := 194) rfl))) (hw _ (own_g (i := 31) rfl)) (ty := .long) (v := (.long (ju + (1 : Int64)))) (by decide) rfl rfl (g := (mkF m 65 #[.val (.ref a), .val (.ref t), .val (.int (1 : Int32)), .unset, .unset] [(.long (ju + (1 : Int64))), (.ref a)])) rfl rfl (hb hby d20_65)
      have r52 : own_R p e below _ _ T52 (mkF m 68 #[.val (.ref a), .val (.ref t), .val (.int (1 : Int32)), .unset, .unset] []) := r51.trans fun z_ kt => st52 _ kt
      have N52 := Fr.snoc X52 N46 g_a
      have O52 := O41.wr W52 g_a
      have K52 := K41.wr W52 (Or.inl (List.mem_of_getElem? (i := 0) rfl))
      have F52 := f47.same W52
      have f53 := ((p4_1.other W41 (Or.inl ne_a_ev1_g)).other W52 (Or.inr (slot_ne (Or.inl (hw _ (own_g (i := 58) rfl))) (Or.inl (hw _ (own_g (i := 194) rfl))) (by decide) (t := (.array .long)) (t' := .long) (by decide) (by decide))))
      have f54 := (V41.other W52 (Ne.symm ne_a_ev1_g))
      have f55 := ((p4_5.other W41 (Or.inl ne_a_ev1_g)).other W52 (Or.inr (slot_ne (Or.inl (hw _ (own_g (i := 65) rfl))) (Or.inl (hw _ (own_g (i := 194) rfl))) (by decide) (t := .long) (t' := .long) (by decide) (by decide))))
      have f56 := ((p4_7.other W41 (Or.inl ne_a_ev1_g)).other W52 (Or.inr (slot_ne (Or.inl (hw _ (own_g (i := 228) rfl))) (Or.inl (hw _ (own_g (i := 194) rfl))) (by decide) (t := .long) (t' := .long) (by decide) (by decide))))
      obtain ⟨fs_, hr_, hrun_, hended_, hW_, hsame_⟩ := X52.leave (v := none) (fun _ => rfl)
      refine ⟨_, _, pre0 _ (r52 _ ?_), hrun_, hended_, _, _, rfl, ?_, ⟨_, rfl⟩, hW_, hsame_.mono (by decide) (by decide)⟩
      · exact X52.returnOut hx Bd.returns (hb hby d20_68) hr_
      · show Q_accept Z a t js ju jv v kd pn vv ps ev kv z vs s_OE s_SEND s_RECEIVE bl kb en ke vse h0 n0 _ T52.heap _
        rw [e52]
        exact ⟨ev1_g, kv1_g, z1_g, (vs1_g.set 1 (.long (jr37 + (1 : Int64)))), js, (ju + (1 : Int64)), jv, rfl, N52, K52, (p4_0.imp id (Nat.le_trans K0.1)), f53, f54, f55, F52, f56, Or.inr p4_3.1, by rw [List.length_set]; exact p4_4, Or.inl ⟨hps, rfl⟩⟩
    · skip
      rw [hv] at F_t_vector
      have r57 : own_R p e below _ _ T4 (mkF m 39 #[.val (.ref a), .val (.ref t), .val (.int (1 : Int32)), .unset, .unset] [(.ref a)]) := r4.trans fun z_ kt => by
        refine XS.aloadN X4.here hx rfl (hb hby d20_38) rfl rfl ?_
        exact kt
      obtain ⟨T58, X58, e58, st58⟩ := getF X4 hx hZ hown (host := "") (Or.inl (hw _ (own_g (i := 57) rfl))) Via.refl e4 p4_1 (g := (mkF m 39 #[.val (.ref a), .val (.ref t), .val (.int (1 : Int32)), .unset, .unset] [(.ref a)])) rfl rfl (hb hby d20_39)
      have r58 : own_R p e below _ _ T58 (mkF m 42 #[.val (.ref a), .val (.ref t), .val (.int (1 : Int32)), .unset, .unset] [(.ref ev1_g)]) := r57.trans fun z_ kt => st58 _ kt
      have r60 : own_R p e below _ _ T58 (mkF m 44 #[.val (.ref a), .val (.ref t), .val (.int (1 : Int32)), .unset, .unset] [(.int (1 : Int32)), (.ref ev1_g), (.int (1 : Int32)), (.ref ev1_g)]) := r58.trans fun z_ kt => by
        refine XS.iloadN X58.here hx rfl (hb hby d20_42) rfl ?_
        jvm_step X58.here [X58.here.top, hx, (hb hby d20_43), Value.category]
        exact kt
      obtain ⟨cl59, Ar59, q59, S59, M59, H59, G59⟩ := id p4_2
      obtain ⟨jr59, hjr59⟩ := fit_J (G59 1 (by rw [S59]; exact own_ix p4_3.2))
      have hin59 : ¬ ((1 : Int32) < 0 ∨ cl59.slots.size ≤ ((1 : Int32)).toNatClampNeg) := inb_of S59 ⟨by decide, p4_3.2⟩
      have hat59 : cl59.slots[((1 : Int32)).toNatClampNeg]? = some (.long jr59) := Has.at H59 hin59 hjr59
      obtain ⟨cl61, Ar61, q61, S61, M61, H61, G61⟩ := id p4_2
      have hin61 : ¬ ((1 : Int32) < 0 ∨ cl61.slots.size ≤ ((1 : Int32)).toNatClampNeg) := inb_of S61 ⟨by decide, p4_3.2⟩
      have r62 : own_R p e below _ _ T58 (mkF m 47 #[.val (.ref a), .val (.ref t), .val (.int (1 : Int32)), .unset, .unset] [(.long (jr59 + (1 : Int64))), (.int (1 : Int32)), (.ref ev1_g)]) := r60.trans fun z_ kt => by
        refine X58.laload hx (j := (1 : Int32)) (v := (.long jr59)) (by rw [e58]; exact Ar59.1) (State.isArrayOf_alike hZ.alike Ar59.2.1) Ar59.2.2 hin59 hat59 (g := (mkF m 44 #[.val (.ref a), .val (.ref t), .val (.int (1 : Int32)), .unset, .unset] [(.int (1 : Int32)), (.ref ev1_g), (.int (1 : Int32)), (.ref ev1_g)])) rfl rfl (hb hby d20_44) _ ?_
        refine XS.lconst X58.here hx rfl (hb hby d20_45) ?_
        refine XS.ladd X58.here hx rfl (hb hby d20_46) rfl ?_
        exact kt
      obtain ⟨T63, h63, X63, e63, W63, st63⟩ := stJ X58 hx hZ e58 Ar61 (j := (1 : Int32)) hin61 (g := (mkF m 47 #[.val (.ref a), .val (.ref t), .val (.int (1 : Int32)), .unset, .unset] [(.long (jr59 + (1 : Int64))), (.int (1 : Int32)), (.ref ev1_g)])) rfl rfl (hb hby d20_47)
      have r63 : own_R p e below _ _ T63 (mkF m 48 #[.val (.ref a), .val (.ref t), .val (.int (1 : Int32)), .unset, .unset] []) := r62.trans fun z_ kt => st63 _ kt
      have N63 := Fr.snoc X63 N4 g_ev1_g
      have O63 := O4.wr W63 g_ev1_g
      have K63 := K4.wr W63 (own_few p4_0 (List.mem_of_getElem? (i := 1) rfl) K0.1)
      have V63 : Arv Z h63 ev1_g kv1_g .long z1_g (vs1_g.set 1 (.long (jr59 + (1 : Int64)))) (.long (0 : Int64)) := Arv.set Ar61 q61 S61 M61 H61 G61 rfl W63 1 rfl (by rw [p4_4]; exact own_ix p4_3.2)
      have f64 := ((E_t.keep Kq4).wr W63)
      have r65 : own_R p e below _ _ T63 (mkF m 49 #[.val (.ref a), .val (.ref t), .val (.int (1 : Int32)), .unset, .unset] [(.ref t)]) := r63.trans fun z_ kt => by
        refine XS.aloadN X63.here hx rfl (hb hby d20_48) rfl rfl ?_
        exact kt
      have f66 := ((F_t_vector.keep Kq4 (ninS (Ne.symm ne_a_t) nin0)).other W63 (Or.inl ne_t_ev1_g))
      obtain ⟨cq67, kq67, q67a, q67b, q67c⟩ := isOf hZ e63 f64
      obtain ⟨_, _, ⟨T67, L67, cc67, n67⟩, -, X67, ⟨Lc67, hQ67, l67, y67, z67⟩, st67⟩ := X63.virtualBack hx (y := (⟨"com/example/wildebeest/wildebeest/core/TraceEvent", "vector", "()Ljava/util/Optional;"⟩ : MethodName)) (z := (⟨"com/example/wildebeest/wildebeest/core/TraceEvent", "vector", "()Ljava/util/Optional;"⟩ : MethodName)) hown (mvT hZ (hw _ (own_g (i := 180) rfl))) (mvT hZ (hw _ (own_g (i := 181) rfl))) (notFace_of_selects (args := #[]) (mvT hZ (hw _ (own_g (i := 183) rfl)))) (mvT hZ (hw _ (own_g (i := 183) rfl))) (mvT hZ (hw _ (own_g (i := 182) rfl))) (by decide) (backOf (W := 0) (rm_teVecR l Z a0 hw [] (t) (v) h63 n0 O63 (f66)) hZ (hw _ (own_g (i := 184) rfl)) (hw _ (own_g (i := 85) rfl)) (by decide) (by decide)) q67a q67c (g := (mkF m 49 #[.val (.ref a), .val (.ref t), .val (.int (1 : Int32)), .unset, .unset] [(.ref t)])) rfl (by rw [hml]; rfl) (Steps.refl _) (argsL := []) (rest := []) (lenOf pd_10 rfl) rfl (by show 2 * 0 + _ ≤ _; exact Nat.le_of_eq rfl) (hb hby d20_49) (fun _ _ => ⟨rfl, e63, (by decide : 1 + 1 ≤ _), (by decide : 4 + 1 ≤ _)⟩)
      dsimp only [Pt.U, Pt.locs, Pt.cells, Pt.slots] at X67 l67 y67 z67 st67 hQ67
      subst l67 y67 z67
      obtain ⟨h67, e67⟩ : ∃ z, T67.heap = z := ⟨_, rfl⟩
      rw [e67] at hQ67
      obtain ⟨b_67, rfl, Nq67, Kq67, p67_0, p67_1, p67_2⟩ := hQ67
      have N67 := Fr.app N63 Nq67
      have r67 : own_R p e below _ _ T67 (mkF m 52 #[.val (.ref a), .val (.ref t), .val (.int (1 : Int32)), .unset, .unset] [(.ref b_67)]) := r65.trans fun z_ kt => st67.trans kt
      have f68 := ((E_a.keep Kq4).wr W63)
      have ne_a_b_67 : a ≠ b_67 := Nat.ne_of_lt (Nat.lt_of_lt_of_le f68.lt p67_0)
      have ne_t_b_67 : t ≠ b_67 := Nat.ne_of_lt (Nat.lt_of_lt_of_le f64.lt p67_0)
      have f69 := ((E_v.keep Kq4).wr W63)
      have ne_v_b_67 : v ≠ b_67 := Nat.ne_of_lt (Nat.lt_of_lt_of_le f69.lt p67_0)
      have f70 := ((V_bl.keep Kq4 (ninS (Ne.symm ne_a_bl) nin0)).other W63 ne_bl_ev1_g)
      have ne_bl_b_67 : bl ≠ b_67 := Nat.ne_of_lt (Nat.lt_of_lt_of_le f70.lt p67_0)
      have f71 := ((V_en.keep Kq4 (ninS (Ne.symm ne_a_en) nin0)).other W63 ne_en_ev1_g)
      have ne_en_b_67 : en ≠ b_67 := Nat.ne_of_lt (Nat.lt_of_lt_of_le f71.lt p67_0)
      have ne_ev1_g_b_67 : ev1_g ≠ b_67 := Nat.ne_of_lt (Nat.lt_of_lt_of_le V63.lt p67_0)
      have g_b_67 : n0 ≤ b_67 := Nat.le_trans (own_old_size O63) p67_0
      have sz_b_67 : h0.size ≤ b_67 := Nat.le_trans K63.1 p67_0
      have O67 := O63.keep Kq67 all0
      have K67 := K63.trans Kq67 all0
      obtain ⟨cq72, kq72, q72a, q72b, q72c⟩ := isOf hZ e67 p67_1
      obtain ⟨_, _, ⟨T72, L72, cc72, n72⟩, -, X72, ⟨Lc72, hQ72, l72, y72, z72⟩, st72⟩ := X67.virtualBack hx (y := (⟨"java/util/Optional", "isEmpty", "()Z"⟩ : MethodName)) (z := (⟨"java/util/Optional", "isEmpty", "()Z"⟩ : MethodName)) hown (mvT hZ (hw _ (own_g (i := 188) rfl))) (mvT hZ (hw _ (own_g (i := 189) rfl))) (notFace_of_selects (args := #[]) (mvT hZ (hw _ (own_g (i := 191) rfl)))) (mvT hZ (hw _ (own_g (i := 191) rfl))) (mvT hZ (hw _ (own_g (i := 190) rfl))) (by decide) (backOf (W := 0) (rm_opIsEmptyR l Z a0 hw [] (b_67) (v) h67 n0 O67 (p67_2)) hZ (hw _ (own_g (i := 192) rfl)) (hw _ (own_g (i := 75) rfl)) (by decide) (by decide)) q72a q72c (g := (mkF m 52 #[.val (.ref a), .val (.ref t), .val (.int (1 : Int32)), .unset, .unset] [(.ref b_67)])) rfl (by rw [hml]; rfl) (Steps.refl _) (argsL := []) (rest := []) (lenOf pd_5 rfl) rfl (by show 2 * 0 + _ ≤ _; exact Nat.le_of_eq rfl) (hb hby d20_52) (fun _ _ => ⟨rfl, e67, (by decide : 2 + 0 ≤ _), (by decide : 5 + 0 ≤ _)⟩)
      dsimp only [Pt.U, Pt.locs, Pt.cells, Pt.slots] at X72 l72 y72 z72 st72 hQ72
      subst l72 y72 z72
      obtain ⟨rfl, Nq72, eq72⟩ := hQ72
      have N72 := Fr.app N67 Nq72
      have r72 : own_R p e below _ _ T72 (mkF m 55 #[.val (.ref a), .val (.ref t), .val (.int (1 : Int32)), .unset, .unset] [(.int (0 : Int32))]) := r67.trans fun z_ kt => st72.trans kt
      have e72 : T72.heap = h67 := eq72
      have f73 := ((p4_5.other W63 (Or.inl ne_a_ev1_g)).keep Kq67 nin0)
      have r74 : own_R p e below _ _ T72 (mkF m 71 #[.val (.ref a), .val (.ref t), .val (.int (1 : Int32)), .unset, .unset] [(.ref a), (.ref a)]) := r72.trans fun z_ kt => by
        refine XS.ifYes X72.here hx rfl (pc0 := 55) (pc' := 69) rfl (hb hby d20_55) rfl ((if0 _ _).trans (teq (by decide : (0 : Int32) = (0 : Int32))).1) (by decide) (by decide) ?_
        refine XS.aloadN X72.here hx rfl (hb hby d20_69) rfl rfl ?_
        refine XS.dup X72.here hx rfl (hb hby d20_70) rfl rfl ?_
        exact kt
      obtain ⟨T75, X75, e75, st75⟩ := getF X72 hx hZ hown (host := "") (Or.inl (hw _ (own_g (i := 64) rfl))) Via.refl e72 f73 (g := (mkF m 71 #[.val (.ref a), .val (.ref t), .val (.int (1 : Int32)), .unset, .unset] [(.ref a), (.ref a)])) rfl rfl (hb hby d20_71)
      have r75 : own_R p e below _ _ T75 (mkF m 74 #[.val (.ref a), .val (.ref t), .val (.int (1 : Int32)), .unset, .unset] [(.long js), (.ref a)]) := r74.trans fun z_ kt => st75 _ kt
      have f76 := (f68.keep Kq67)
      have r77 : own_R p e below _ _ T75 (mkF m 76 #[.val (.ref a), .val (.ref t), .val (.int (1 : Int32)), .unset, .unset] [(.long (js + (1 : Int64))), (.ref a)]) := r75.trans fun z_ kt => by
        refine XS.lconst X75.here hx rfl (hb hby d20_74) ?_
        refine XS.ladd X75.here hx rfl (hb hby d20_75) rfl ?_
        exact kt
      obtain ⟨T78, h78, X78, e78, W78, st78⟩ := putF X75 hx hZ hown (host := "") (Or.inl (hw _ (own_g (i := 64) rfl))) Via.refl e75 f73 f76 (Or.inl (hw _ (own_g (i := 65) rfl))) (hw _ (own_g (i := 31) rfl)) (ty := .long) (v := (.long (js + (1 : Int64)))) (by decide) rfl rfl (g := (mkF m 76 #[.val (.ref a), .val (.ref t), .val (.int (1 : Int32)), .unset, .unset] [(.long (js + (1 : Int64))), (.ref a)])) rfl rfl (hb hby d20_76)
      have r78 : own_R p e below _ _ T78 (mkF m 79 #[.val (.ref a), .val (.ref t), .val (.int (1 : Int32)), .unset, .unset] []) := r77.trans fun z_ kt => st78 _ kt
      have N78 := Fr.snoc X78 N72 g_a
      have O78 := O67.wr W78 g_a
      have K78 := K67.wr W78 (Or.inl (List.mem_of_getElem? (i := 0) rfl))
      have F78 := f73.same W78
      have f79 := ((f64.keep Kq67).wr W78)
      have r80 : own_R p e below _ _ T78 (mkF m 80 #[.val (.ref a), .val (.ref t), .val (.int (1 : Int32)), .unset, .unset] [(.ref t)]) := r78.trans fun z_ kt => by
        refine XS.aloadN X78.here hx rfl (hb hby d20_79) rfl rfl ?_
        exact kt
      have f81 := ((f66.keep Kq67 nin0).other W78 (Or.inl (Ne.symm ne_a_t)))
      obtain ⟨cq82, kq82, q82a, q82b, q82c⟩ := isOf hZ e78 f79
      obtain ⟨_, _, ⟨T82, L82, cc82, n82⟩, -, X82, ⟨Lc82, hQ82, l82, y82, z82⟩, st82⟩ := X78.virtualBack hx (y := (⟨"com/example/wildebeest/wildebeest/core/TraceEvent", "vector", "()Ljava/util/Optional;"⟩ : MethodName)) (z := (⟨"com/example/wildebeest/wildebeest/core/TraceEvent", "vector", "()Ljava/util/Optional;"⟩ : MethodName)) hown (mvT hZ (hw _ (own_g (i := 180) rfl))) (mvT hZ (hw _ (own_g (i := 181) rfl))) (notFace_of_selects (args := #[]) (mvT hZ (hw _ (own_g (i := 183) rfl)))) (mvT hZ (hw _ (own_g (i := 183) rfl))) (mvT hZ (hw _ (own_g (i := 182) rfl))) (by decide) (backOf (W := 0) (rm_teVecR l Z a0 hw [] (t) (v) h78 n0 O78 (f81)) hZ (hw _ (own_g (i := 184) rfl)) (hw _ (own_g (i := 85) rfl)) (by decide) (by decide)) q82a q82c (g := (mkF m 80 #[.val (.ref a), .val (.ref t), .val (.int (1 : Int32)), .unset, .unset] [(.ref t)])) rfl (by rw [hml]; rfl) (Steps.refl _) (argsL := []) (rest := []) (lenOf pd_10 rfl) rfl (by show 2 * 0 + _ ≤ _; exact Nat.le_of_eq rfl) (hb hby d20_80) (fun _ _ => ⟨rfl, e78, (by decide : 2 + 1 ≤ _), (by decide : 5 + 1 ≤ _)⟩)
      dsimp only [Pt.U, Pt.locs, Pt.cells, Pt.slots] at X82 l82 y82 z82 st82 hQ82
      subst l82 y82 z82
      obtain ⟨h82, e82⟩ : ∃ z, T82.heap = z := ⟨_, rfl⟩
      rw [e82] at hQ82
      obtain ⟨b_82, rfl, Nq82, Kq82, p82_0, p82_1, p82_2⟩ := hQ82
      have N82 := Fr.app N78 Nq82
      have r82 : own_R p e below _ _ T82 (mkF m 83 #[.val (.ref a), .val (.ref t), .val (.int (1 : Int32)), .unset, .unset] [(.ref b_82)]) := r80.trans fun z_ kt => st82.trans kt
      have f83 := (f76.wr W78)
      have ne_a_b_82 : a ≠ b_82 := Nat.ne_of_lt (Nat.lt_of_lt_of_le f83.lt p82_0)
      have ne_t_b_82 : t ≠ b_82 := Nat.ne_of_lt (Nat.lt_of_lt_of_le f79.lt p82_0)
      have f84 := ((f69.keep Kq67).wr W78)
      have ne_v_b_82 : v ≠ b_82 := Nat.ne_of_lt (Nat.lt_of_lt_of_le f84.lt p82_0)
      have f85 := ((f70.keep Kq67 nin0).other W78 (Ne.symm ne_a_bl))
      have ne_bl_b_82 : bl ≠ b_82 := Nat.ne_of_lt (Nat.lt_of_lt_of_le f85.lt p82_0)
      have f86 := ((f71.keep Kq67 nin0).other W78 (Ne.symm ne_a_en))
      have ne_en_b_82 : en ≠ b_82 := Nat.ne_of_lt (Nat.lt_of_lt_of_le f86.lt p82_0)
      have f87 := ((V63.keep Kq67 nin0).other W78 (Ne.symm ne_a_ev1_g))
      have ne_ev1_g_b_82 : ev1_g ≠ b_82 := Nat.ne_of_lt (Nat.lt_of_lt_of_le f87.lt p82_0)
      have f88 := (p67_1.wr W78)
      have ne_b_67_b_82 : b_67 ≠ b_82 := Nat.ne_of_lt (Nat.lt_of_lt_of_le f88.lt p82_0)
      have g_b_82 : n0 ≤ b_82 := Nat.le_trans (own_old_size O78) p82_0
      have sz_b_82 : h0.size ≤ b_82 := Nat.le_trans K78.1 p82_0
      have O82 := O78.keep Kq82 all0
      have K82 := K78.trans Kq82 all0
      obtain ⟨cq89, kq89, q89a, q89b, q89c⟩ := isOf hZ e82 p82_1
      obtain ⟨_, _, ⟨T89, L89, cc89, n89⟩, -, X89, ⟨Lc89, hQ89, l89, y89, z89⟩, st89⟩ := X82.virtualBack hx (y := (⟨"java/util/Optional", "get", "()Ljava/lang/Object;"⟩ : MethodName)) (z := (⟨"java/util/Optional", "get", "()Ljava/lang/Object;"⟩ : MethodName)) hown (mvT hZ (hw _ (own_g (i := 211) rfl))) (mvT hZ (hw _ (own_g (i := 212) rfl))) (notFace_of_selects (args := #[]) (mvT hZ (hw _ (own_g (i := 214) rfl)))) (mvT hZ (hw _ (own_g (i := 214) rfl))) (mvT hZ (hw _ (own_g (i := 213) rfl))) (by decide) (backOf (W := 0) (rm_opGet l Z a0 hw [] (b_82) (v) h82 n0 O82 (p82_2)) hZ (hw _ (own_g (i := 215) rfl)) (hw _ (own_g (i := 75) rfl)) (by decide) (by decide)) q89a q89c (g := (mkF m 83 #[.val (.ref a), .val (.ref t), .val (.int (1 : Int32)), .unset, .unset] [(.ref b_82)])) rfl (by rw [hml]; rfl) (Steps.refl _) (argsL := []) (rest := []) (lenOf pd_17 rfl) rfl (by show 2 * 0 + _ ≤ _; exact Nat.le_of_eq rfl) (hb hby d20_83) (fun _ _ => ⟨rfl, e82, (by decide : 3 + 0 ≤ _), (by decide : 6 + 0 ≤ _)⟩)
      dsimp only [Pt.U, Pt.locs, Pt.cells, Pt.slots] at X89 l89 y89 z89 st89 hQ89
      subst l89 y89 z89
      obtain ⟨rfl, Nq89, eq89⟩ := hQ89
      have N89 := Fr.app N82 Nq89
      have r89 : own_R p e below _ _ T89 (mkF m 86 #[.val (.ref a), .val (.ref t), .val (.int (1 : Int32)), .unset, .unset] [(.ref v)]) := r82.trans fun z_ kt => st89.trans kt
      have e89 : T89.heap = h82 := eq89
      have f90 := (f84.keep Kq82)
      obtain ⟨T91, X91, e91, st91⟩ := castY X89 hx hZ hown (hw _ (own_g (i := 216) rfl)) e89 (Ins.self f90) (g := (mkF m 86 #[.val (.ref a), .val (.ref t), .val (.int (1 : Int32)), .unset, .unset] [(.ref v)])) rfl rfl (hb hby d20_86)
      have r91 : own_R p e below _ _ T91 (mkF m 89 #[.val (.ref a), .val (.ref t), .val (.int (1 : Int32)), .unset, .unset] [(.ref v)]) := r89.trans fun z_ kt => st91 _ kt
      have r92 : own_R p e below _ _ T91 (mkF m 92 #[.val (.ref a), .val (.ref t), .val (.int (1 : Int32)), .val (.ref v), .unset] [(.int (1 : Int32)), (.ref v)]) := r91.trans fun z_ kt => by
        refine XS.astoreN X91.here hx rfl (hb hby d20_89) rfl rfl (l' := #[.val (.ref a), .val (.ref t), .val (.int (1 : Int32)), .val (.ref v), .unset]) rfl ?_
        refine XS.aloadN X91.here hx rfl (hb hby d20_90) rfl rfl ?_
        refine XS.iloadN X91.here hx rfl (hb hby d20_91) rfl ?_
        exact kt
      have f93 := (((((F_v_nodes.keep Kq4 (ninS (Ne.symm ne_a_v) nin0)).other W63 (Or.inl ne_v_ev1_g)).keep Kq67 nin0).other W78 (Or.inl (Ne.symm ne_a_v))).keep Kq82 nin0)
      have f94 := (((((F_v_blocks.keep Kq4 (ninS (Ne.symm ne_a_v) nin0)).other W63 (Or.inl ne_v_ev1_g)).keep Kq67 nin0).other W78 (Or.inl (Ne.symm ne_a_v))).keep Kq82 nin0)
      have f95 := (((((F_v_held.keep Kq4 (ninS (Ne.symm ne_a_v) nin0)).other W63 (Or.inl ne_v_ev1_g)).keep Kq67 nin0).other W78 (Or.inl (Ne.symm ne_a_v))).keep Kq82 nin0)
      have f96 := (f85.keep Kq82 nin0)
      have f97 := (f86.keep Kq82 nin0)
      obtain ⟨cq98, kq98, q98a, q98b, q98c⟩ := isOf hZ e91 f90
      obtain ⟨_, _, ⟨T98, L98, cc98, n98⟩, -, X98, ⟨Lc98, hQ98, l98, y98, z98⟩, st98⟩ := X91.virtualBack hx (y := (⟨"com/example/wildebeest/wildebeest/core/VectorTime", "get", "(I)J"⟩ : MethodName)) (z := (⟨"com/example/wildebeest/wildebeest/core/VectorTime", "get", "(I)J"⟩ : MethodName)) hown (mvT hZ (hw _ (own_g (i := 217) rfl))) (mvT hZ (hw _ (own_g (i := 218) rfl))) (notFace_of_selects (args := #[]) (mvT hZ (hw _ (own_g (i := 220) rfl)))) (mvT hZ (hw _ (own_g (i := 220) rfl))) (mvT hZ (hw _ (own_g (i := 219) rfl))) (by decide) (backOf (W := 0) (rm_get1 l Z a0 hw [] (v) (bl) (kb) (en) (ke) (vse) h82 n0 O82 (f90) (f93) (f94) (f95) (f96) (f97)) hZ (hw _ (own_g (i := 221) rfl)) (hw _ (own_g (i := 4) rfl)) (by decide) (by decide)) q98a q98c (g := (mkF m 92 #[.val (.ref a), .val (.ref t), .val (.int (1 : Int32)), .val (.ref v), .unset] [(.int (1 : Int32)), (.ref v)])) rfl (by rw [hml]; rfl) (Steps.refl _) (argsL := [(.int (1 : Int32))]) (rest := []) (lenOf pd_15 rfl) rfl (by show 2 * 0 + _ ≤ _; exact Nat.le_of_eq rfl) (hb hby d20_92) (fun _ _ => ⟨rfl, e91, (by decide : 3 + 0 ≤ _), (by decide : 6 + 0 ≤ _)⟩)
      dsimp only [Pt.U, Pt.locs, Pt.cells, Pt.slots] at X98 l98 y98 z98 st98 hQ98
      subst l98 y98 z98
      obtain ⟨jr_98, rfl, Nq98, eq98⟩ := hQ98
      have N98 := Fr.app N89 Nq98
      have r98 : own_R p e below _ _ T98 (mkF m 95 #[.val (.ref a), .val (.ref t), .val (.int (1 : Int32)), .val (.ref v), .unset] [(.long jr_98)]) := r92.trans fun z_ kt => st98.trans kt
      have e98 : T98.heap = h82 := eq98
      have f99 := ((((p4_1.other W63 (Or.inl ne_a_ev1_g)).keep Kq67 nin0).other W78 (Or.inr (slot_ne (Or.inl (hw _ (own_g (i := 58) rfl))) (Or.inl (hw _ (own_g (i := 65) rfl))) (by decide) (t := (.array .long)) (t' := .long) (by decide) (by decide)))).keep Kq82 nin0)
      have r100 : own_R p e below _ _ T98 (mkF m 96 #[.val (.ref a), .val (.ref t), .val (.int (1 : Int32)), .val (.ref v), .unset] [(.ref a), (.long jr_98)]) := r98.trans fun z_ kt => by
        refine XS.aloadN X98.here hx rfl (hb hby d20_95) rfl rfl ?_
        exact kt
      obtain ⟨T101, X101, e101, st101⟩ := getF X98 hx hZ hown (host := "") (Or.inl (hw _ (own_g (i := 57) rfl))) Via.refl e98 f99 (g := (mkF m 96 #[.val (.ref a), .val (.ref t), .val (.int (1 : Int32)), .val (.ref v), .unset] [(.ref a), (.long jr_98)])) rfl rfl (hb hby d20_96)
      have r101 : own_R p e below _ _ T101 (mkF m 99 #[.val (.ref a), .val (.ref t), .val (.int (1 : Int32)), .val (.ref v), .unset] [(.ref ev1_g), (.long jr_98)]) := r100.trans fun z_ kt => st101 _ kt
      have f102 := (f87.keep Kq82 nin0)
      have r104 : own_R p e below _ _ T101 (mkF m 100 #[.val (.ref a), .val (.ref t), .val (.int (1 : Int32)), .val (.ref v), .unset] [(.int (1 : Int32)), (.ref ev1_g), (.long jr_98)]) := r101.trans fun z_ kt => by
        refine XS.iloadN X101.here hx rfl (hb hby d20_99) rfl ?_
        exact kt
      obtain ⟨cl103, Ar103, q103, S103, M103, H103, G103⟩ := id f102
      obtain ⟨jr103, hjr103⟩ := fit_J (G103 1 (by rw [S103]; exact own_ix p4_3.2))
      have hin103 : ¬ ((1 : Int32) < 0 ∨ cl103.slots.size ≤ ((1 : Int32)).toNatClampNeg) := inb_of S103 ⟨by decide, p4_3.2⟩
      have hat103 : cl103.slots[((1 : Int32)).toNatClampNeg]? = some (.long jr103) := Has.at H103 hin103 hjr103
      have r105 : own_R p e below _ _ T101 (mkF m 102 #[.val (.ref a), .val (.ref t), .val (.int (1 : Int32)), .val (.ref v), .unset] [(.int (lcmpW jr_98 jr103))]) := r104.trans fun z_ kt => by
        refine X101.laload hx (j := (1 : Int32)) (v := (.long jr103)) (by rw [e101]; exact Ar103.1) (State.isArrayOf_alike hZ.alike Ar103.2.1) Ar103.2.2 hin103 hat103 (g := (mkF m 100 #[.val (.ref a), .val (.ref t), .val (.int (1 : Int32)), .val (.ref v), .unset] [(.int (1 : Int32)), (.ref ev1_g), (.long jr_98)])) rfl rfl (hb hby d20_100) _ ?_
        refine XS.lcmp X101.here hx rfl (hb hby d20_101) rfl ?_
        exact kt
      by_cases hc102_106 : (lcmpW jr_98 jr103) = (0 : Int32)
      · skip
        have f107 := (f79.keep Kq82)
        have r108 : own_R p e below _ _ T101 (mkF m 116 #[.val (.ref a), .val (.ref t), .val (.int (1 : Int32)), .val (.ref v), .unset] [(.ref t)]) := r105.trans fun z_ kt => by
          refine XS.ifYes X101.here hx rfl (pc0 := 102) (pc' := 115) rfl (hb hby d20_102) rfl ((if0 _ _).trans (teq (hc102_106 : (lcmpW jr_98 jr103) = (0 : Int32))).1) (by decide) (by decide) ?_
          refine XS.aloadN X101.here hx rfl (hb hby d20_115) rfl rfl ?_
          exact kt
        have f109 := (((((F_t_kind.keep Kq4 (ninS (Ne.symm ne_a_t) nin0)).other W63 (Or.inl ne_t_ev1_g)).keep Kq67 nin0).other W78 (Or.inl (Ne.symm ne_a_t))).keep Kq82 nin0)
        obtain ⟨cq110, kq110, q110a, q110b, q110c⟩ := isOf hZ e101 f107
        obtain ⟨_, _, ⟨T110, L110, cc110, n110⟩, -, X110, ⟨Lc110, hQ110, l110, y110, z110⟩, st110⟩ := X101.virtualBack hx (y := (⟨"com/example/wildebeest/wildebeest/core/TraceEvent", "kind", "()Lcom/example/wildebeest/wildebeest/core/EventKind;"⟩ : MethodName)) (z := (⟨"com/example/wildebeest/wildebeest/core/TraceEvent", "kind", "()Lcom/example/wildebeest/wildebeest/core/EventKind;"⟩ : MethodName)) hown (mvT hZ (hw _ (own_g (i := 229) rfl))) (mvT hZ (hw _ (own_g (i := 230) rfl))) (notFace_of_selects (args := #[]) (mvT hZ (hw _ (own_g (i := 232) rfl)))) (mvT hZ (hw _ (own_g (i := 232) rfl))) (mvT hZ (hw _ (own_g (i := 231) rfl))) (by decide) (backOf (W := 0) (rm_teKind l Z a0 hw [] (t) (kd) h82 n0 O82 (f109)) hZ (hw _ (own_g (i := 233) rfl)) (hw _ (own_g (i := 85) rfl)) (by decide) (by decide)) q110a q110c (g := (mkF m 116 #[.val (.ref a), .val (.ref t), .val (.int (1 : Int32)), .val (.ref v), .unset] [(.ref t)])) rfl (by rw [hml]; rfl) (Steps.refl _) (argsL := []) (rest := []) (lenOf pd_18 rfl) rfl (by show 2 * 0 + _ ≤ _; exact Nat.le_of_eq rfl) (hb hby d20_116) (fun _ _ => ⟨rfl, e101, (by decide : 3 + 0 ≤ _), (by decide : 6 + 0 ≤ _)⟩)
        dsimp only [Pt.U, Pt.locs, Pt.cells, Pt.slots] at X110 l110 y110 z110 st110 hQ110
        subst l110 y110 z110
        obtain ⟨rfl, Nq110, eq110⟩ := hQ110
        have N110 := Fr.app N98 Nq110
        have r110 : own_R p e below _ _ T110 (mkF m 119 #[.val (.ref a), .val (.ref t), .val (.int (1 : Int32)), .val (.ref v), .unset] [(.ref kd)]) := r108.trans fun z_ kt => st110.trans kt
        have e110 : T110.heap = h82 := eq110
        obtain ⟨T111, X111, e111, st111⟩ := getS2 X110 hx hZ hown (host := "") (Or.inl (hw _ (own_g (i := 234) rfl))) Via.refl e110 (S_EventKind_SEND.ext O82.2) (g := (mkF m 119 #[.val (.ref a), .val (.ref t), .val (.int (1 : Int32)), .val (.ref v), .unset] [(.ref kd)])) rfl (hb hby d20_119)
        have r111 : own_R p e below _ _ T111 (mkF m 122 #[.val (.ref a), .val (.ref t), .val (.int (1 : Int32)), .val (.ref v), .unset] [(.ref s_SEND), (.ref kd)]) := r110.trans fun z_ kt => st111 _ kt
        have r112 : own_R p e below _ _ T111 (mkF m 189 #[.val (.ref a), .val (.ref t), .val (.int (1 : Int32)), .val (.ref v), .unset] [(.ref t)]) := r111.trans fun z_ kt => by
          refine Jvm.RoadKit.acmp (g := (mkF m 122 #[.val (.ref a), .val (.ref t), .val (.int (1 : Int32)), .val (.ref v), .unset] [(.ref s_SEND), (.ref kd)])) X111 hx rfl rfl rfl (pc0 := 122) (pc' := 188) (same := false) rfl (hb hby d20_122) rfl (decide_eq_false fun q => ne_kd_s_SEND (Value.ref.inj q)) (by decide) (by decide) ?_
          refine XS.aloadN X111.here hx rfl (hb hby d20_188) rfl rfl ?_
          exact kt
        obtain ⟨cq113, kq113, q113a, q113b, q113c⟩ := isOf hZ e111 f107
        obtain ⟨_, _, ⟨T113, L113, cc113, n113⟩, -, X113, ⟨Lc113, hQ113, l113, y113, z113⟩, st113⟩ := X111.virtualBack hx (y := (⟨"com/example/wildebeest/wildebeest/core/TraceEvent", "kind", "()Lcom/example/wildebeest/wildebeest/core/EventKind;"⟩ : MethodName)) (z := (⟨"com/example/wildebeest/wildebeest/core/TraceEvent", "kind", "()Lcom/example/wildebeest/wildebeest/core/EventKind;"⟩ : MethodName)) hown (mvT hZ (hw _ (own_g (i := 229) rfl))) (mvT hZ (hw _ (own_g (i := 230) rfl))) (notFace_of_selects (args := #[]) (mvT hZ (hw _ (own_g (i := 232) rfl)))) (mvT hZ (hw _ (own_g (i := 232) rfl))) (mvT hZ (hw _ (own_g (i := 231) rfl))) (by decide) (backOf (W := 0) (rm_teKind l Z a0 hw [] (t) (kd) h82 n0 O82 (f109)) hZ (hw _ (own_g (i := 233) rfl)) (hw _ (own_g (i := 85) rfl)) (by decide) (by decide)) q113a q113c (g := (mkF m 189 #[.val (.ref a), .val (.ref t), .val (.int (1 : Int32)), .val (.ref v), .unset] [(.ref t)])) rfl (by rw [hml]; rfl) (Steps.refl _) (argsL := []) (rest := []) (lenOf pd_18 rfl) rfl (by show 2 * 0 + _ ≤ _; exact Nat.le_of_eq rfl) (hb hby d20_189) (fun _ _ => ⟨rfl, e111, (by decide : 3 + 0 ≤ _), (by decide : 6 + 0 ≤ _)⟩)
        dsimp only [Pt.U, Pt.locs, Pt.cells, Pt.slots] at X113 l113 y113 z113 st113 hQ113
        subst l113 y113 z113
        obtain ⟨rfl, Nq113, eq113⟩ := hQ113
        have N113 := Fr.app N110 Nq113
        have r113 : own_R p e below _ _ T113 (mkF m 192 #[.val (.ref a), .val (.ref t), .val (.int (1 : Int32)), .val (.ref v), .unset] [(.ref kd)]) := r112.trans fun z_ kt => st113.trans kt
        have e113 : T113.heap = h82 := eq113
        obtain ⟨T114, X114, e114, st114⟩ := getS2 X113 hx hZ hown (host := "") (Or.inl (hw _ (own_g (i := 236) rfl))) Via.refl e113 (S_EventKind_RECEIVE.ext O82.2) (g := (mkF m 192 #[.val (.ref a), .val (.ref t), .val (.int (1 : Int32)), .val (.ref v), .unset] [(.ref kd)])) rfl (hb hby d20_192)
        have r114 : own_R p e below _ _ T114 (mkF m 195 #[.val (.ref a), .val (.ref t), .val (.int (1 : Int32)), .val (.ref v), .unset] [(.ref s_RECEIVE), (.ref kd)]) := r113.trans fun z_ kt => st114 _ kt
        have r115 : own_R p e below _ _ T114 (mkF m 258 #[.val (.ref a), .val (.ref t), .val (.int (1 : Int32)), .val (.ref v), .unset] []) := r114.trans fun z_ kt => by
          refine Jvm.RoadKit.acmp (g := (mkF m 195 #[.val (.ref a), .val (.ref t), .val (.int (1 : Int32)), .val (.ref v), .unset] [(.ref s_RECEIVE), (.ref kd)])) X114 hx rfl rfl rfl (pc0 := 195) (pc' := 258) (same := false) rfl (hb hby d20_195) rfl (decide_eq_false fun q => ne_kd_s_RECEIVE (Value.ref.inj q)) (by decide) (by decide) ?_
          exact kt
        have f116 := (F78.keep Kq82 nin0)
        have f117 := ((((p4_6.other W63 (Or.inl ne_a_ev1_g)).keep Kq67 nin0).other W78 (Or.inr (slot_ne (Or.inl (hw _ (own_g (i := 194) rfl))) (Or.inl (hw _ (own_g (i := 65) rfl))) (by decide) (t := .long) (t' := .long) (by decide) (by decide)))).keep Kq82 nin0)
        have f118 := ((((p4_7.other W63 (Or.inl ne_a_ev1_g)).keep Kq67 nin0).other W78 (Or.inr (slot_ne (Or.inl (hw _ (own_g (i := 228) rfl))) (Or.inl (hw _ (own_g (i := 65) rfl))) (by decide) (t := .long) (t' := .long) (by decide) (by decide)))).keep Kq82 nin0)
        obtain ⟨fs_, hr_, hrun_, hended_, hW_, hsame_⟩ := X114.leave (v := none) (fun _ => rfl)
        refine ⟨_, _, pre0 _ (r115 _ ?_), hrun_, hended_, _, _, rfl, ?_, ⟨_, rfl⟩, hW_, hsame_.mono (by decide) (by decide)⟩
        · exact X114.returnOut hx Bd.returns (hb hby d20_258) hr_
        · show Q_accept Z a t js ju jv v kd pn vv ps ev kv z vs s_OE s_SEND s_RECEIVE bl kb en ke vse h0 n0 _ T114.heap _
          rw [e114]
          exact ⟨ev1_g, kv1_g, z1_g, (vs1_g.set 1 (.long (jr59 + (1 : Int64)))), (js + (1 : Int64)), ju, jv, rfl, N113, K82, (p4_0.imp id (Nat.le_trans K0.1)), f99, f102, f116, f117, f118, Or.inr p4_3.1, by rw [List.length_set]; exact p4_4, Or.inr ⟨hps, rfl⟩⟩
      · skip
        have f119 := ((((p4_7.other W63 (Or.inl ne_a_ev1_g)).keep Kq67 nin0).other W78 (Or.inr (slot_ne (Or.inl (hw _ (own_g (i := 228) rfl))) (Or.inl (hw _ (own_g (i := 65) rfl))) (by decide) (t := .long) (t' := .long) (by decide) (by decide)))).keep Kq82 nin0)
        have r120 : own_R p e below _ _ T101 (mkF m 107 #[.val (.ref a), .val (.ref t), .val (.int (1 : Int32)), .val (.ref v), .unset] [(.ref a), (.ref a)]) := r105.trans fun z_ kt => by
          refine XS.ifNo X101.here hx rfl (hb hby d20_102) rfl ((if0 _ _).trans (feq (hc102_106 : ¬ ((lcmpW jr_98 jr103) = (0 : Int32)))).1) ?_
          refine XS.aloadN X101.here hx rfl (hb hby d20_105) rfl rfl ?_
          refine XS.dup X101.here hx rfl (hb hby d20_106) rfl rfl ?_
          exact kt
        obtain ⟨T121, X121, e121, st121⟩ := getF X101 hx hZ hown (host := "") (Or.inl (hw _ (own_g (i := 227) rfl))) Via.refl e101 f119 (g := (mkF m 107 #[.val (.ref a), .val (.ref t), .val (.int (1 : Int32)), .val (.ref v), .unset] [(.ref a), (.ref a)])) rfl rfl (hb hby d20_107)
        have r121 : own_R p e below _ _ T121 (mkF m 110 #[.val (.ref a), .val (.ref t), .val (.int (1 : Int32)), .val (.ref v), .unset] [(.long jv), (.ref a)]) := r120.trans fun z_ kt => st121 _ kt
        have f122 := (f83.keep Kq82)
        have r123 : own_R p e below _ _ T121 (mkF m 112 #[.val (.ref a), .val (.ref t), .val (.int (1 : Int32)), .val (.ref v), .unset] [(.long (jv + (1 : Int64))), (.ref a)]) := r121.trans fun z_ kt => by
          refine XS.lconst X121.here hx rfl (hb hby d20_110) ?_
          refine XS.ladd X121.here hx rfl (hb hby d20_111) rfl ?_
          exact kt
        obtain ⟨T124, h124, X124, e124, W124, st124⟩ := putF X121 hx hZ hown (host := "") (Or.inl (hw _ (own_g (i := 227) rfl))) Via.refl e121 f119 f122 (Or.inl (hw _ (own_g (i := 228) rfl))) (hw _ (own_g (i := 31) rfl)) (ty := .long) (v := (.long (jv + (1 : Int64)))) (by decide) rfl rfl (g := (mkF m 112 #[.val (.ref a), .val (.ref t), .val (.int (1 : Int32)), .val (.ref v), .unset] [(.long (jv + (1 : Int64))), (.ref a)])) rfl rfl (hb hby d20_112)
        have r124 : own_R p e below _ _ T124 (mkF m 115 #[.val (.ref a), .val (.ref t), .val (.int (1 : Int32)), .val (.ref v), .unset] []) := r123.trans fun z_ kt => st124 _ kt
        have N124 := Fr.snoc X124 N98 g_a
        have O124 := O82.wr W124 g_a
        have K124 := K82.wr W124 (Or.inl (List.mem_of_getElem? (i := 0) rfl))
        have F124 := f119.same W124
        have f125 := ((f79.keep Kq82).wr W124)
        have r126 : own_R p e below _ _ T124 (mkF m 116 #[.val (.ref a), .val (.ref t), .val (.int (1 : Int32)), .val (.ref v), .unset] [(.ref t)]) := r124.trans fun z_ kt => by
          refine XS.aloadN X124.here hx rfl (hb hby d20_115) rfl rfl ?_
          exact kt
        have f127 := ((((((F_t_kind.keep Kq4 (ninS (Ne.symm ne_a_t) nin0)).other W63 (Or.inl ne_t_ev1_g)).keep Kq67 nin0).other W78 (Or.inl (Ne.symm ne_a_t))).keep Kq82 nin0).other W124 (Or.inl (Ne.symm ne_a_t)))
        obtain ⟨cq128, kq128, q128a, q128b, q128c⟩ := isOf hZ e124 f125
        obtain ⟨_, _, ⟨T128, L128, cc128, n128⟩, -, X128, ⟨Lc128, hQ128, l128, y128, z128⟩, st128⟩ := X124.virtualBack hx (y := (⟨"com/example/wildebeest/wildebeest/core/TraceEvent", "kind", "()Lcom/example/wildebeest/wildebeest/core/EventKind;"⟩ : MethodName)) (z := (⟨"com/example/wildebeest/wildebeest/core/TraceEvent", "kind", "()Lcom/example/wildebeest/wildebeest/core/EventKind;"⟩ : MethodName)) hown (mvT hZ (hw _ (own_g (i := 229) rfl))) (mvT hZ (hw _ (own_g (i := 230) rfl))) (notFace_of_selects (args := #[]) (mvT hZ (hw _ (own_g (i := 232) rfl)))) (mvT hZ (hw _ (own_g (i := 232) rfl))) (mvT hZ (hw _ (own_g (i := 231) rfl))) (by decide) (backOf (W := 0) (rm_teKind l Z a0 hw [] (t) (kd) h124 n0 O124 (f127)) hZ (hw _ (own_g (i := 233) rfl)) (hw _ (own_g (i := 85) rfl)) (by decide) (by decide)) q128a q128c (g := (mkF m 116 #[.val (.ref a), .val (.ref t), .val (.int (1 : Int32)), .val (.ref v), .unset] [(.ref t)])) rfl (by rw [hml]; rfl) (Steps.refl _) (argsL := []) (rest := []) (lenOf pd_18 rfl) rfl (by show 2 * 0 + _ ≤ _; exact Nat.le_of_eq rfl) (hb hby d20_116) (fun _ _ => ⟨rfl, e124, (by decide : 3 + 0 ≤ _), (by decide : 6 + 0 ≤ _)⟩)
        dsimp only [Pt.U, Pt.locs, Pt.cells, Pt.slots] at X128 l128 y128 z128 st128 hQ128
        subst l128 y128 z128
        obtain ⟨rfl, Nq128, eq128⟩ := hQ128
        have N128 := Fr.app N124 Nq128
        have r128 : own_R p e below _ _ T128 (mkF m 119 #[.val (.ref a), .val (.ref t), .val (.int (1 : Int32)), .val (.ref v), .unset] [(.ref kd)]) := r126.trans fun z_ kt => st128.trans kt
        have e128 : T128.heap = h124 := eq128
        obtain ⟨T129, X129, e129, st129⟩ := getS2 X128 hx hZ hown (host := "") (Or.inl (hw _ (own_g (i := 234) rfl))) Via.refl e128 (S_EventKind_SEND.ext O124.2) (g := (mkF m 119 #[.val (.ref a), .val (.ref t), .val (.int (1 : Int32)), .val (.ref v), .unset] [(.ref kd)])) rfl (hb hby d20_119)
        have r129 : own_R p e below _ _ T129 (mkF m 122 #[.val (.ref a), .val (.ref t), .val (.int (1 : Int32)), .val (.ref v), .unset] [(.ref s_SEND), (.ref kd)]) := r128.trans fun z_ kt => st129 _ kt
        have r130 : own_R p e below _ _ T129 (mkF m 189 #[.val (.ref a), .val (.ref t), .val (.int (1 : Int32)), .val (.ref v), .unset] [(.ref t)]) := r129.trans fun z_ kt => by
          refine Jvm.RoadKit.acmp (g := (mkF m 122 #[.val (.ref a), .val (.ref t), .val (.int (1 : Int32)), .val (.ref v), .unset] [(.ref s_SEND), (.ref kd)])) X129 hx rfl rfl rfl (pc0 := 122) (pc' := 188) (same := false) rfl (hb hby d20_122) rfl (decide_eq_false fun q => ne_kd_s_SEND (Value.ref.inj q)) (by decide) (by decide) ?_
          refine XS.aloadN X129.here hx rfl (hb hby d20_188) rfl rfl ?_
          exact kt
        obtain ⟨cq131, kq131, q131a, q131b, q131c⟩ := isOf hZ e129 f125
        obtain ⟨_, _, ⟨T131, L131, cc131, n131⟩, -, X131, ⟨Lc131, hQ131, l131, y131, z131⟩, st131⟩ := X129.virtualBack hx (y := (⟨"com/example/wildebeest/wildebeest/core/TraceEvent", "kind", "()Lcom/example/wildebeest/wildebeest/core/EventKind;"⟩ : MethodName)) (z := (⟨"com/example/wildebeest/wildebeest/core/TraceEvent", "kind", "()Lcom/example/wildebeest/wildebeest/core/EventKind;"⟩ : MethodName)) hown (mvT hZ (hw _ (own_g (i := 229) rfl))) (mvT hZ (hw _ (own_g (i := 230) rfl))) (notFace_of_selects (args := #[]) (mvT hZ (hw _ (own_g (i := 232) rfl)))) (mvT hZ (hw _ (own_g (i := 232) rfl))) (mvT hZ (hw _ (own_g (i := 231) rfl))) (by decide) (backOf (W := 0) (rm_teKind l Z a0 hw [] (t) (kd) h124 n0 O124 (f127)) hZ (hw _ (own_g (i := 233) rfl)) (hw _ (own_g (i := 85) rfl)) (by decide) (by decide)) q131a q131c (g := (mkF m 189 #[.val (.ref a), .val (.ref t), .val (.int (1 : Int32)), .val (.ref v), .unset] [(.ref t)])) rfl (by rw [hml]; rfl) (Steps.refl _) (argsL := []) (rest := []) (lenOf pd_18 rfl) rfl (by show 2 * 0 + _ ≤ _; exact Nat.le_of_eq rfl) (hb hby d20_189) (fun _ _ => ⟨rfl, e129, (by decide : 3 + 0 ≤ _), (by decide : 6 + 0 ≤ _)⟩)
        dsimp only [Pt.U, Pt.locs, Pt.cells, Pt.slots] at X131 l131 y131 z131 st131 hQ131
        subst l131 y131 z131
        obtain ⟨rfl, Nq131, eq131⟩ := hQ131
        have N131 := Fr.app N128 Nq131
        have r131 : own_R p e below _ _ T131 (mkF m 192 #[.val (.ref a), .val (.ref t), .val (.int (1 : Int32)), .val (.ref v), .unset] [(.ref kd)]) := r130.trans fun z_ kt => st131.trans kt
        have e131 : T131.heap = h124 := eq131
        obtain ⟨T132, X132, e132, st132⟩ := getS2 X131 hx hZ hown (host := "") (Or.inl (hw _ (own_g (i := 236) rfl))) Via.refl e131 (S_EventKind_RECEIVE.ext O124.2) (g := (mkF m 192 #[.val (.ref a), .val (.ref t), .val (.int (1 : Int32)), .val (.ref v), .unset] [(.ref kd)])) rfl (hb hby d20_192)
        have r132 : own_R p e below _ _ T132 (mkF m 195 #[.val (.ref a), .val (.ref t), .val (.int (1 : Int32)), .val (.ref v), .unset] [(.ref s_RECEIVE), (.ref kd)]) := r131.trans fun z_ kt => st132 _ kt
        have r133 : own_R p e below _ _ T132 (mkF m 258 #[.val (.ref a), .val (.ref t), .val (.int (1 : Int32)), .val (.ref v), .unset] []) := r132.trans fun z_ kt => by
          refine Jvm.RoadKit.acmp (g := (mkF m 195 #[.val (.ref a), .val (.ref t), .val (.int (1 : Int32)), .val (.ref v), .unset] [(.ref s_RECEIVE), (.ref kd)])) X132 hx rfl rfl rfl (pc0 := 195) (pc' := 258) (same := false) rfl (hb hby d20_195) rfl (decide_eq_false fun q => ne_kd_s_RECEIVE (Value.ref.inj q)) (by decide) (by decide) ?_
          exact kt
        have f134 := (f99.other W124 (Or.inr (slot_ne (Or.inl (hw _ (own_g (i := 58) rfl))) (Or.inl (hw _ (own_g (i := 228) rfl))) (by decide) (t := (.array .long)) (t' := .long) (by decide) (by decide))))
        have f135 := (f102.other W124 (Ne.symm ne_a_ev1_g))
        have f136 := ((F78.keep Kq82 nin0).other W124 (Or.inr (slot_ne (Or.inl (hw _ (own_g (i := 65) rfl))) (Or.inl (hw _ (own_g (i := 228) rfl))) (by decide) (t := .long) (t' := .long) (by decide) (by decide))))
        have f137 := (((((p4_6.other W63 (Or.inl ne_a_ev1_g)).keep Kq67 nin0).other W78 (Or.inr (slot_ne (Or.inl (hw _ (own_g (i := 194) rfl))) (Or.inl (hw _ (own_g (i := 65) rfl))) (by decide) (t := .long) (t' := .long) (by decide) (by decide)))).keep Kq82 nin0).other W124 (Or.inr (slot_ne (Or.inl (hw _ (own_g (i := 194) rfl))) (Or.inl (hw _ (own_g (i := 228) rfl))) (by decide) (t := .long) (t' := .long) (by decide) (by decide))))
        obtain ⟨fs_, hr_, hrun_, hended_, hW_, hsame_⟩ := X132.leave (v := none) (fun _ => rfl)
        refine ⟨_, _, pre0 _ (r133 _ ?_), hrun_, hended_, _, _, rfl, ?_, ⟨_, rfl⟩, hW_, hsame_.mono (by decide) (by decide)⟩
        · exact X132.returnOut hx Bd.returns (hb hby d20_258) hr_
        · show Q_accept Z a t js ju jv v kd pn vv ps ev kv z vs s_OE s_SEND s_RECEIVE bl kb en ke vse h0 n0 _ T132.heap _
          rw [e132]
          exact ⟨ev1_g, kv1_g, z1_g, (vs1_g.set 1 (.long (jr59 + (1 : Int64)))), (js + (1 : Int64)), ju, (jv + (1 : Int64)), rfl, N131, K124, (p4_0.imp id (Nat.le_trans K0.1)), f134, f135, f136, f137, F124, Or.inr p4_3.1, by rw [List.length_set]; exact p4_4, Or.inr ⟨hps, rfl⟩⟩
  · skip
    rw [hp0] at F_t_node
    have r138 : own_R p e below _ _ s₁ (mkF m 1 #[.val (.ref a), .val (.ref t), .unset, .unset, .unset] [(.ref t)]) := r0.trans fun z_ kt => by
      refine XS.aloadN X0.here hx rfl (hb hby d20_0) rfl rfl ?_
      exact kt
    obtain ⟨cq139, kq139, q139a, q139b, q139c⟩ := isOf hZ e0 E_t
    obtain ⟨_, _, ⟨T139, L139, cc139, n139⟩, -, X139, ⟨Lc139, hQ139, l139, y139, z139⟩, st139⟩ := X0.virtualBack hx (y := (⟨"com/example/wildebeest/wildebeest/core/TraceEvent", "node", "()I"⟩ : MethodName)) (z := (⟨"com/example/wildebeest/wildebeest/core/TraceEvent", "node", "()I"⟩ : MethodName)) hown (mvT hZ (hw _ (own_g (i := 160) rfl))) (mvT hZ (hw _ (own_g (i := 161) rfl))) (notFace_of_selects (args := #[]) (mvT hZ (hw _ (own_g (i := 163) rfl)))) (mvT hZ (hw _ (own_g (i := 163) rfl))) (mvT hZ (hw _ (own_g (i := 162) rfl))) (by decide) (backOf (W := 0) (rm_teNode l Z a0 hw [] (t) ((2 : Int32)) h0 n0 O0 (F_t_node)) hZ (hw _ (own_g (i := 164) rfl)) (hw _ (own_g (i := 85) rfl)) (by decide) (by decide)) q139a q139c (g := (mkF m 1 #[.val (.ref a), .val (.ref t), .unset, .unset, .unset] [(.ref t)])) rfl (by rw [hml]; rfl) (Steps.refl _) (argsL := []) (rest := []) (lenOf pd_8 rfl) rfl (by show 2 * 0 + _ ≤ _; exact Nat.le_of_eq rfl) (hb hby d20_1) (fun _ _ => ⟨rfl, e0, (by decide : 0 + 0 ≤ _), (by decide : 0 + 0 ≤ _)⟩)
    dsimp only [Pt.U, Pt.locs, Pt.cells, Pt.slots] at X139 l139 y139 z139 st139 hQ139
    subst l139 y139 z139
    obtain ⟨rfl, Nq139, eq139⟩ := hQ139
    have N139 := Fr.app N0 Nq139
    have r139 : own_R p e below _ _ T139 (mkF m 4 #[.val (.ref a), .val (.ref t), .unset, .unset, .unset] [(.int (2 : Int32))]) := r138.trans fun z_ kt => st139.trans kt
    have e139 : T139.heap = h0 := eq139
    have r140 : own_R p e below _ _ T139 (mkF m 5 #[.val (.ref a), .val (.ref t), .val (.int (2 : Int32)), .unset, .unset] []) := r139.trans fun z_ kt => by
      refine XS.istoreN X139.here hx rfl (hb hby d20_4) rfl (l' := #[.val (.ref a), .val (.ref t), .val (.int (2 : Int32)), .unset, .unset]) rfl ?_
      exact kt
    obtain ⟨ev1_g, kv1_g, z1_g, vs1_g, T141, h141, L141, X141, e141, N141, Kq141, p141_0, p141_1, p141_2, p141_3, p141_4, p141_5, p141_6, p141_7, r141⟩ : ∃ (ev1_g : Addr) (kv1_g : ClassId) (z1_g : Int32) (vs1_g : List Value) (T' : State) (h' : Heap) (locs' : List Loc), Stand p l e ({ frames := 4, cells := 3, slots := 6, locals := 55 } : Room) s m #[(.ref a), (.ref t)] below meth c T' locs' 1 4 ∧ T'.heap = h' ∧ Fr n0 locs' ∧ Keep h0 h' [a] ∧ (ev1_g = ev ∨ h0.size ≤ ev1_g) ∧ (Fld Z h' a "com/example/wildebeest/wildebeest/core/CausalityCheck" "events" "[J" (.ref ev1_g)) ∧ (Arv Z h' ev1_g kv1_g .long z1_g vs1_g (.long (0 : Int64))) ∧ ((z1_g = (2 : Int32) ∨ z1_g = (3 : Int32) ∨ z1_g = (4 : Int32)) ∧ (2 : Int32) < z1_g) ∧ (vs1_g.length = z1_g.toNatClampNeg) ∧ (Fld Z h' a "com/example/wildebeest/wildebeest/core/CausalityCheck" "stamped" "J" (.long js)) ∧ (Fld Z h' a "com/example/wildebeest/wildebeest/core/CausalityCheck" "unstamped" "J" (.long ju)) ∧ (Fld Z h' a "com/example/wildebeest/wildebeest/core/CausalityCheck" "violations" "J" (.long jv)) ∧ own_R p e below s₁ (mkF m 0 #[.val (.ref a), .val (.ref t), .unset, .unset, .unset] []) T' (mkF m 38 #[.val (.ref a), .val (.ref t), .val (.int (2 : Int32)), .unset, .unset] []) := by
      have Kb141 : Keep h0 h0 [a] := Keep.refl _ _
      rcases hz with hz0 | hz0 | hz0 | hz0
      · skip
        rw [hz0] at V_ev hvs
        have r142 : own_R p e below _ _ T139 (mkF m 7 #[.val (.ref a), .val (.ref t), .val (.int (2 : Int32)), .unset, .unset] [(.ref a), (.int (2 : Int32))]) := r140.trans fun z_ kt => by
          refine XS.iloadN X139.here hx rfl (hb hby d20_5) rfl ?_
          refine XS.aloadN X139.here hx rfl (hb hby d20_6) rfl rfl ?_
          exact kt
        obtain ⟨T143, X143, e143, st143⟩ := getF X139 hx hZ hown (host := "") (Or.inl (hw _ (own_g (i := 57) rfl))) Via.refl e139 F_a_events (g := (mkF m 7 #[.val (.ref a), .val (.ref t), .val (.int (2 : Int32)), .unset, .unset] [(.ref a), (.int (2 : Int32))])) rfl rfl (hb hby d20_7)
        have r143 : own_R p e below _ _ T143 (mkF m 10 #[.val (.ref a), .val (.ref t), .val (.int (2 : Int32)), .unset, .unset] [(.ref ev), (.int (2 : Int32))]) := r142.trans fun z_ kt => st143 _ kt
        obtain ⟨cl144, Ar144, q144, S144, M144, H144, G144⟩ := id V_ev
        have r145 : own_R p e below _ _ T143 (mkF m 16 #[.val (.ref a), .val (.ref t), .val (.int (2 : Int32)), .unset, .unset] [(.ref a), (.ref a)]) := r143.trans fun z_ kt => by
          refine X143.arraylength hx (by rw [e143]; exact Ar144.1) (State.isArrayOf_alike hZ.alike Ar144.2.1) (g := (mkF m 10 #[.val (.ref a), .val (.ref t), .val (.int (2 : Int32)), .unset, .unset] [(.ref ev), (.int (2 : Int32))])) rfl rfl (hb hby d20_10) _ ?_
          rw [len_of S144 M144]
          refine XS.icmpNo X143.here hx rfl (hb hby d20_11) rfl (flt (by decide : ¬ ((2 : Int32) < (0 : Int32)))).1 ?_
          refine XS.aloadN X143.here hx rfl (hb hby d20_14) rfl rfl ?_
          refine XS.aloadN X143.here hx rfl (hb hby d20_15) rfl rfl ?_
          exact kt
        obtain ⟨T146, X146, e146, st146⟩ := getF X143 hx hZ hown (host := "") (Or.inl (hw _ (own_g (i := 57) rfl))) Via.refl e143 F_a_events (g := (mkF m 16 #[.val (.ref a), .val (.ref t), .val (.int (2 : Int32)), .unset, .unset] [(.ref a), (.ref a)])) rfl rfl (hb hby d20_16)
        have r146 : own_R p e below _ _ T146 (mkF m 19 #[.val (.ref a), .val (.ref t), .val (.int (2 : Int32)), .unset, .unset] [(.ref ev), (.ref a)]) := r145.trans fun z_ kt => st146 _ kt
        have r147 : own_R p e below _ _ T146 (mkF m 24 #[.val (.ref a), .val (.ref t), .val (.int (2 : Int32)), .unset, .unset] [(.ref a), (.int (2 : Int32)), (.int (3 : Int32)), (.ref ev), (.ref a)]) := r146.trans fun z_ kt => by
          refine XS.iloadN X146.here hx rfl (hb hby d20_19) rfl ?_
          refine XS.iconst X146.here hx rfl (hb hby d20_20) ?_
          refine XS.iadd X146.here hx rfl (hb hby d20_21) rfl ?_
          refine XS.iconst X146.here hx rfl (hb hby d20_22) ?_
          refine XS.aloadN X146.here hx rfl (hb hby d20_23) rfl rfl ?_
          exact kt
        obtain ⟨T148, X148, e148, st148⟩ := getF X146 hx hZ hown (host := "") (Or.inl (hw _ (own_g (i := 57) rfl))) Via.refl e146 F_a_events (g := (mkF m 24 #[.val (.ref a), .val (.ref t), .val (.int (2 : Int32)), .unset, .unset] [(.ref a), (.int (2 : Int32)), (.int (3 : Int32)), (.ref ev), (.ref a)])) rfl rfl (hb hby d20_24)
        have r148 : own_R p e below _ _ T148 (mkF m 27 #[.val (.ref a), .val (.ref t), .val (.int (2 : Int32)), .unset, .unset] [(.ref ev), (.int (2 : Int32)), (.int (3 : Int32)), (.ref ev), (.ref a)]) := r147.trans fun z_ kt => st148 _ kt
        obtain ⟨cl149, Ar149, q149, S149, M149, H149, G149⟩ := id V_ev
        have r150 : own_R p e below _ _ T148 (mkF m 29 #[.val (.ref a), .val (.ref t), .val (.int (2 : Int32)), .unset, .unset] [(.int (0 : Int32)), (.int (3 : Int32)), (.ref ev), (.ref a)]) := r148.trans fun z_ kt => by
          refine X148.arraylength hx (by rw [e148]; exact Ar149.1) (State.isArrayOf_alike hZ.alike Ar149.2.1) (g := (mkF m 27 #[.val (.ref a), .val (.ref t), .val (.int (2 : Int32)), .unset, .unset] [(.ref ev), (.int (2 : Int32)), (.int (3 : Int32)), (.ref ev), (.ref a)])) rfl rfl (hb hby d20_27) _ ?_
          rw [len_of S149 M149]
          refine XS.imul X148.here hx rfl (hb hby d20_28) rfl ?_
          exact kt
        obtain ⟨_, _, ⟨T151, L151, cc151, n151⟩, -, X151, ⟨Lc151, hQ151, l151, y151, z151⟩, st151⟩ := Jvm.LawKit.callS X148 hx (y := (⟨"java/lang/Math", "max", "(II)I"⟩ : MethodName)) hown (mvT hZ (hw _ (own_g (i := 165) rfl))) (mvT hZ (hw _ (own_g (i := 166) rfl))) (mvT hZ (hw _ (own_g (i := 167) rfl))) (mvT hZ (hw _ (own_g (i := 168) rfl))) (by decide) (backOf (W := 2) (rm_maxI l Z a0 hw [] ((3 : Int32)) ((0 : Int32)) ((3 : Int32)) h0 n0 O0 (Or.inr ⟨by decide, rfl⟩)) hZ (hw _ (own_g (i := 168) rfl)) (hw _ (own_g (i := 167) rfl)) (by decide) (by decide)) (g := (mkF m 29 #[.val (.ref a), .val (.ref t), .val (.int (2 : Int32)), .unset, .unset] [(.int (0 : Int32)), (.int (3 : Int32)), (.ref ev), (.ref a)])) rfl (by rw [hml]; rfl) (argsL := [(.int (3 : Int32)), (.int (0 : Int32))]) (rest := [(.ref ev), (.ref a)]) (lenOf pd_14 rfl) rfl (by show 2 * 0 + _ ≤ _; exact Nat.le_of_eq rfl) (hb hby d20_29) (fun _ _ => ⟨rfl, e148, (by decide : 0 + 0 ≤ _), (by decide : 0 + 0 ≤ _)⟩)
        dsimp only [Pt.U, Pt.locs, Pt.cells, Pt.slots] at X151 l151 y151 z151 st151 hQ151
        subst l151 y151 z151
        obtain ⟨rfl, Nq151, eq151⟩ := hQ151
        have N151 := Fr.app N139 Nq151
        have r151 : own_R p e below _ _ T151 (mkF m 32 #[.val (.ref a), .val (.ref t), .val (.int (2 : Int32)), .unset, .unset] [(.int (3 : Int32)), (.ref ev), (.ref a)]) := r150.trans fun z_ kt => st151 _ kt
        have e151 : T151.heap = h0 := eq151
        obtain ⟨_, _, ⟨T152, L152, cc152, n152⟩, -, X152, ⟨Lc152, hQ152, l152, y152, z152⟩, st152⟩ := Jvm.LawKit.callS X151 hx (y := (⟨"java/util/Arrays", "copyOf", "([JI)[J"⟩ : MethodName)) hown (mvT hZ (hw _ (own_g (i := 169) rfl))) (mvT hZ (hw _ (own_g (i := 170) rfl))) (mvT hZ (hw _ (own_g (i := 171) rfl))) (mvT hZ (hw _ (own_g (i := 172) rfl))) (by decide) (backOf (W := 1) (rm_copy03 l Z a0 hw [] (ev) (kv) (vs) h0 n0 O0 (V_ev)) hZ (hw _ (own_g (i := 172) rfl)) (hw _ (own_g (i := 171) rfl)) (by decide) (by decide)) (g := (mkF m 32 #[.val (.ref a), .val (.ref t), .val (.int (2 : Int32)), .unset, .unset] [(.int (3 : Int32)), (.ref ev), (.ref a)])) rfl (by rw [hml]; rfl) (argsL := [(.ref ev), (.int (3 : Int32))]) (rest := [(.ref a)]) (lenOf pd_16 rfl) rfl (by show 2 * 0 + _ ≤ _; exact Nat.le_of_eq rfl) (hb hby d20_32) (fun _ _ => ⟨rfl, e151, (by decide : 0 + 1 ≤ _), (by decide : 0 + 3 ≤ _)⟩)
        dsimp only [Pt.U, Pt.locs, Pt.cells, Pt.slots] at X152 l152 y152 z152 st152 hQ152
        subst l152 y152 z152
        obtain ⟨h152, e152⟩ : ∃ z, T152.heap = z := ⟨_, rfl⟩
        rw [e152] at hQ152
        obtain ⟨b_152, kb_152, vb_152, rfl, Nq152, Kq152, p152_0, p152_1, p152_2⟩ := hQ152
        have N152 := Fr.app N151 Nq152
        have r152 : own_R p e below _ _ T152 (mkF m 35 #[.val (.ref a), .val (.ref t), .val (.int (2 : Int32)), .unset, .unset] [(.ref b_152), (.ref a)]) := r151.trans fun z_ kt => st152 _ kt
        have ne_a_b_152 : a ≠ b_152 := Nat.ne_of_lt (Nat.lt_of_lt_of_le E_a.lt p152_0)
        have ne_t_b_152 : t ≠ b_152 := Nat.ne_of_lt (Nat.lt_of_lt_of_le E_t.lt p152_0)
        have ne_ev_b_152 : ev ≠ b_152 := Nat.ne_of_lt (Nat.lt_of_lt_of_le V_ev.lt p152_0)
        have ne_v_b_152 : v ≠ b_152 := Nat.ne_of_lt (Nat.lt_of_lt_of_le E_v.lt p152_0)
        have ne_bl_b_152 : bl ≠ b_152 := Nat.ne_of_lt (Nat.lt_of_lt_of_le V_bl.lt p152_0)
        have ne_en_b_152 : en ≠ b_152 := Nat.ne_of_lt (Nat.lt_of_lt_of_le V_en.lt p152_0)
        have g_b_152 : n0 ≤ b_152 := Nat.le_trans (own_old_size O0) p152_0
        have sz_b_152 : h0.size ≤ b_152 := Nat.le_trans Kb141.1 p152_0
        have O152 := O0.keep Kq152 all0
        have K152 := Kb141.trans Kq152 all0
        have f153 := (F_a_events.keep Kq152 nin0)
        have f154 := (E_a.keep Kq152)
        obtain ⟨T155, h155, X155, e155, W155, st155⟩ := putF X152 hx hZ hown (host := "") (Or.inl (hw _ (own_g (i := 57) rfl))) Via.refl e152 f153 f154 (Or.inl (hw _ (own_g (i := 58) rfl))) (hw _ (own_g (i := 31) rfl)) (ty := (.array .long)) (v := (.ref b_152)) (by decide) rfl rfl (g := (mkF m 35 #[.val (.ref a), .val (.ref t), .val (.int (2 : Int32)), .unset, .unset] [(.ref b_152), (.ref a)])) rfl rfl (hb hby d20_35)
        have r155 : own_R p e below _ _ T155 (mkF m 38 #[.val (.ref a), .val (.ref t), .val (.int (2 : Int32)), .unset, .unset] []) := r152.trans fun z_ kt => st155 _ kt
        have N155 := Fr.snoc X155 N152 g_a
        have O155 := O152.wr W155 g_a
        have K155 := K152.wr W155 (Or.inl (List.mem_of_getElem? (i := 0) rfl))
        have F155 := f153.same W155
        have f156 := (p152_1.other W155 (Ne.symm ne_a_b_152))
        have f157 := ((F_a_stamped.keep Kq152 nin0).other W155 (Or.inr (slot_ne (Or.inl (hw _ (own_g (i := 65) rfl))) (Or.inl (hw _ (own_g (i := 58) rfl))) (by decide) (t := .long) (t' := (.array .long)) (by decide) (by decide))))
        have f158 := ((F_a_unstamped.keep Kq152 nin0).other W155 (Or.inr (slot_ne (Or.inl (hw _ (own_g (i := 194) rfl))) (Or.inl (hw _ (own_g (i := 58) rfl))) (by decide) (t := .long) (t' := (.array .long)) (by decide) (by decide))))
        have f159 := ((F_a_violations.keep Kq152 nin0).other W155 (Or.inr (slot_ne (Or.inl (hw _ (own_g (i := 228) rfl))) (Or.inl (hw _ (own_g (i := 58) rfl))) (by decide) (t := .long) (t' := (.array .long)) (by decide) (by decide))))
        exact ⟨b_152, kb_152, (3 : Int32), vb_152, T155, _, _, X155.more (by decide) (by decide), e155, N155, K155, Or.inr sz_b_152, F155, f156, by decide, p152_2, f157, f158, f159, r155⟩
      · skip
        rw [hz0] at V_ev hvs
        have r160 : own_R p e below _ _ T139 (mkF m 7 #[.val (.ref a), .val (.ref t), .val (.int (2 : Int32)), .unset, .unset] [(.ref a), (.int (2 : Int32))]) := r140.trans fun z_ kt => by
          refine XS.iloadN X139.here hx rfl (hb hby d20_5) rfl ?_
          refine XS.aloadN X139.here hx rfl (hb hby d20_6) rfl rfl ?_
          exact kt
        obtain ⟨T161, X161, e161, st161⟩ := getF X139 hx hZ hown (host := "") (Or.inl (hw _ (own_g (i := 57) rfl))) Via.refl e139 F_a_events (g := (mkF m 7 #[.val (.ref a), .val (.ref t), .val (.int (2 : Int32)), .unset, .unset] [(.ref a), (.int (2 : Int32))])) rfl rfl (hb hby d20_7)
        have r161 : own_R p e below _ _ T161 (mkF m 10 #[.val (.ref a), .val (.ref t), .val (.int (2 : Int32)), .unset, .unset] [(.ref ev), (.int (2 : Int32))]) := r160.trans fun z_ kt => st161 _ kt
        obtain ⟨cl162, Ar162, q162, S162, M162, H162, G162⟩ := id V_ev
        have r163 : own_R p e below _ _ T161 (mkF m 16 #[.val (.ref a), .val (.ref t), .val (.int (2 : Int32)), .unset, .unset] [(.ref a), (.ref a)]) := r161.trans fun z_ kt => by
          refine X161.arraylength hx (by rw [e161]; exact Ar162.1) (State.isArrayOf_alike hZ.alike Ar162.2.1) (g := (mkF m 10 #[.val (.ref a), .val (.ref t), .val (.int (2 : Int32)), .unset, .unset] [(.ref ev), (.int (2 : Int32))])) rfl rfl (hb hby d20_10) _ ?_
          rw [len_of S162 M162]
          refine XS.icmpNo X161.here hx rfl (hb hby d20_11) rfl (flt (by decide : ¬ ((2 : Int32) < (2 : Int32)))).1 ?_
          refine XS.aloadN X161.here hx rfl (hb hby d20_14) rfl rfl ?_
          refine XS.aloadN X161.here hx rfl (hb hby d20_15) rfl rfl ?_
          exact kt
        obtain ⟨T164, X164, e164, st164⟩ := getF X161 hx hZ hown (host := "") (Or.inl (hw _ (own_g (i := 57) rfl))) Via.refl e161 F_a_events (g := (mkF m 16 #[.val (.ref a), .val (.ref t), .val (.int (2 : Int32)), .unset, .unset] [(.ref a), (.ref a)])) rfl rfl (hb hby d20_16)
        have r164 : own_R p e below _ _ T164 (mkF m 19 #[.val (.ref a), .val (.ref t), .val (.int (2 : Int32)), .unset, .unset] [(.ref ev), (.ref a)]) := r163.trans fun z_ kt => st164 _ kt
        have r165 : own_R p e below _ _ T164 (mkF m 24 #[.val (.ref a), .val (.ref t), .val (.int (2 : Int32)), .unset, .unset] [(.ref a), (.int (2 : Int32)), (.int (3 : Int32)), (.ref ev), (.ref a)]) := r164.trans fun z_ kt => by
          refine XS.iloadN X164.here hx rfl (hb hby d20_19) rfl ?_
          refine XS.iconst X164.here hx rfl (hb hby d20_20) ?_
          refine XS.iadd X164.here hx rfl (hb hby d20_21) rfl ?_
          refine XS.iconst X164.here hx rfl (hb hby d20_22) ?_
          refine XS.aloadN X164.here hx rfl (hb hby d20_23) rfl rfl ?_
          exact kt
        obtain ⟨T166, X166, e166, st166⟩ := getF X164 hx hZ hown (host := "") (Or.inl (hw _ (own_g (i := 57) rfl))) Via.refl e164 F_a_events (g := (mkF m 24 #[.val (.ref a), .val (.ref t), .val (.int (2 : Int32)), .unset, .unset] [(.ref a), (.int (2 : Int32)), (.int (3 : Int32)), (.ref ev), (.ref a)])) rfl rfl (hb hby d20_24)
        have r166 : own_R p e below _ _ T166 (mkF m 27 #[.val (.ref a), .val (.ref t), .val (.int (2 : Int32)), .unset, .unset] [(.ref ev), (.int (2 : Int32)), (.int (3 : Int32)), (.ref ev), (.ref a)]) := r165.trans fun z_ kt => st166 _ kt
        obtain ⟨cl167, Ar167, q167, S167, M167, H167, G167⟩ := id V_ev
        have r168 : own_R p e below _ _ T166 (mkF m 29 #[.val (.ref a), .val (.ref t), .val (.int (2 : Int32)), .unset, .unset] [(.int (4 : Int32)), (.int (3 : Int32)), (.ref ev), (.ref a)]) := r166.trans fun z_ kt => by
          refine X166.arraylength hx (by rw [e166]; exact Ar167.1) (State.isArrayOf_alike hZ.alike Ar167.2.1) (g := (mkF m 27 #[.val (.ref a), .val (.ref t), .val (.int (2 : Int32)), .unset, .unset] [(.ref ev), (.int (2 : Int32)), (.int (3 : Int32)), (.ref ev), (.ref a)])) rfl rfl (hb hby d20_27) _ ?_
          rw [len_of S167 M167]
          refine XS.imul X166.here hx rfl (hb hby d20_28) rfl ?_
          exact kt
        obtain ⟨_, _, ⟨T169, L169, cc169, n169⟩, -, X169, ⟨Lc169, hQ169, l169, y169, z169⟩, st169⟩ := Jvm.LawKit.callS X166 hx (y := (⟨"java/lang/Math", "max", "(II)I"⟩ : MethodName)) hown (mvT hZ (hw _ (own_g (i := 165) rfl))) (mvT hZ (hw _ (own_g (i := 166) rfl))) (mvT hZ (hw _ (own_g (i := 167) rfl))) (mvT hZ (hw _ (own_g (i := 168) rfl))) (by decide) (backOf (W := 2) (rm_maxI l Z a0 hw [] ((3 : Int32)) ((4 : Int32)) ((4 : Int32)) h0 n0 O0 (Or.inl ⟨by decide, rfl⟩)) hZ (hw _ (own_g (i := 168) rfl)) (hw _ (own_g (i := 167) rfl)) (by decide) (by decide)) (g := (mkF m 29 #[.val (.ref a), .val (.ref t), .val (.int (2 : Int32)), .unset, .unset] [(.int (4 : Int32)), (.int (3 : Int32)), (.ref ev), (.ref a)])) rfl (by rw [hml]; rfl) (argsL := [(.int (3 : Int32)), (.int (4 : Int32))]) (rest := [(.ref ev), (.ref a)]) (lenOf pd_14 rfl) rfl (by show 2 * 0 + _ ≤ _; exact Nat.le_of_eq rfl) (hb hby d20_29) (fun _ _ => ⟨rfl, e166, (by decide : 0 + 0 ≤ _), (by decide : 0 + 0 ≤ _)⟩)
        dsimp only [Pt.U, Pt.locs, Pt.cells, Pt.slots] at X169 l169 y169 z169 st169 hQ169
        subst l169 y169 z169
        obtain ⟨rfl, Nq169, eq169⟩ := hQ169
        have N169 := Fr.app N139 Nq169
        have r169 : own_R p e below _ _ T169 (mkF m 32 #[.val (.ref a), .val (.ref t), .val (.int (2 : Int32)), .unset, .unset] [(.int (4 : Int32)), (.ref ev), (.ref a)]) := r168.trans fun z_ kt => st169 _ kt
        have e169 : T169.heap = h0 := eq169
        obtain ⟨_, _, ⟨T170, L170, cc170, n170⟩, -, X170, ⟨Lc170, hQ170, l170, y170, z170⟩, st170⟩ := Jvm.LawKit.callS X169 hx (y := (⟨"java/util/Arrays", "copyOf", "([JI)[J"⟩ : MethodName)) hown (mvT hZ (hw _ (own_g (i := 169) rfl))) (mvT hZ (hw _ (own_g (i := 170) rfl))) (mvT hZ (hw _ (own_g (i := 171) rfl))) (mvT hZ (hw _ (own_g (i := 172) rfl))) (by decide) (backOf (W := 1) (rm_copy24 l Z a0 hw [] (ev) (kv) (vs) h0 n0 O0 (V_ev)) hZ (hw _ (own_g (i := 172) rfl)) (hw _ (own_g (i := 171) rfl)) (by decide) (by decide)) (g := (mkF m 32 #[.val (.ref a), .val (.ref t), .val (.int (2 : Int32)), .unset, .unset] [(.int (4 : Int32)), (.ref ev), (.ref a)])) rfl (by rw [hml]; rfl) (argsL := [(.ref ev), (.int (4 : Int32))]) (rest := [(.ref a)]) (lenOf pd_16 rfl) rfl (by show 2 * 0 + _ ≤ _; exact Nat.le_of_eq rfl) (hb hby d20_32) (fun _ _ => ⟨rfl, e169, (by decide : 0 + 1 ≤ _), (by decide : 0 + 4 ≤ _)⟩)
        dsimp only [Pt.U, Pt.locs, Pt.cells, Pt.slots] at X170 l170 y170 z170 st170 hQ170
        subst l170 y170 z170
        obtain ⟨h170, e170⟩ : ∃ z, T170.heap = z := ⟨_, rfl⟩
        rw [e170] at hQ170
        obtain ⟨b_170, kb_170, vb_170, rfl, Nq170, Kq170, p170_0, p170_1, p170_2⟩ := hQ170
        have N170 := Fr.app N169 Nq170
        have r170 : own_R p e below _ _ T170 (mkF m 35 #[.val (.ref a), .val (.ref t), .val (.int (2 : Int32)), .unset, .unset] [(.ref b_170), (.ref a)]) := r169.trans fun z_ kt => st170 _ kt
        have ne_a_b_170 : a ≠ b_170 := Nat.ne_of_lt (Nat.lt_of_lt_of_le E_a.lt p170_0)
        have ne_t_b_170 : t ≠ b_170 := Nat.ne_of_lt (Nat.lt_of_lt_of_le E_t.lt p170_0)
        have ne_ev_b_170 : ev ≠ b_170 := Nat.ne_of_lt (Nat.lt_of_lt_of_le V_ev.lt p170_0)
        have ne_v_b_170 : v ≠ b_170 := Nat.ne_of_lt (Nat.lt_of_lt_of_le E_v.lt p170_0)
        have ne_bl_b_170 : bl ≠ b_170 := Nat.ne_of_lt (Nat.lt_of_lt_of_le V_bl.lt p170_0)
        have ne_en_b_170 : en ≠ b_170 := Nat.ne_of_lt (Nat.lt_of_lt_of_le V_en.lt p170_0)
        have g_b_170 : n0 ≤ b_170 := Nat.le_trans (own_old_size O0) p170_0
        have sz_b_170 : h0.size ≤ b_170 := Nat.le_trans Kb141.1 p170_0
        have O170 := O0.keep Kq170 all0
        have K170 := Kb141.trans Kq170 all0
        have f171 := (F_a_events.keep Kq170 nin0)
        have f172 := (E_a.keep Kq170)
        obtain ⟨T173, h173, X173, e173, W173, st173⟩ := putF X170 hx hZ hown (host := "") (Or.inl (hw _ (own_g (i := 57) rfl))) Via.refl e170 f171 f172 (Or.inl (hw _ (own_g (i := 58) rfl))) (hw _ (own_g (i := 31) rfl)) (ty := (.array .long)) (v := (.ref b_170)) (by decide) rfl rfl (g := (mkF m 35 #[.val (.ref a), .val (.ref t), .val (.int (2 : Int32)), .unset, .unset] [(.ref b_170), (.ref a)])) rfl rfl (hb hby d20_35)
        have r173 : own_R p e below _ _ T173 (mkF m 38 #[.val (.ref a), .val (.ref t), .val (.int (2 : Int32)), .unset, .unset] []) := r170.trans fun z_ kt => st173 _ kt
        have N173 := Fr.snoc X173 N170 g_a
        have O173 := O170.wr W173 g_a
        have K173 := K170.wr W173 (Or.inl (List.mem_of_getElem? (i := 0) rfl))
        have F173 := f171.same W173
        have f174 := (p170_1.other W173 (Ne.symm ne_a_b_170))
        have f175 := ((F_a_stamped.keep Kq170 nin0).other W173 (Or.inr (slot_ne (Or.inl (hw _ (own_g (i := 65) rfl))) (Or.inl (hw _ (own_g (i := 58) rfl))) (by decide) (t := .long) (t' := (.array .long)) (by decide) (by decide))))
        have f176 := ((F_a_unstamped.keep Kq170 nin0).other W173 (Or.inr (slot_ne (Or.inl (hw _ (own_g (i := 194) rfl))) (Or.inl (hw _ (own_g (i := 58) rfl))) (by decide) (t := .long) (t' := (.array .long)) (by decide) (by decide))))
        have f177 := ((F_a_violations.keep Kq170 nin0).other W173 (Or.inr (slot_ne (Or.inl (hw _ (own_g (i := 228) rfl))) (Or.inl (hw _ (own_g (i := 58) rfl))) (by decide) (t := .long) (t' := (.array .long)) (by decide) (by decide))))
        exact ⟨b_170, kb_170, (4 : Int32), vb_170, T173, _, _, X173.more (by decide) (by decide), e173, N173, K173, Or.inr sz_b_170, F173, f174, by decide, p170_2, f175, f176, f177, r173⟩
      · skip
        rw [hz0] at V_ev hvs
        have r178 : own_R p e below _ _ T139 (mkF m 7 #[.val (.ref a), .val (.ref t), .val (.int (2 : Int32)), .unset, .unset] [(.ref a), (.int (2 : Int32))]) := r140.trans fun z_ kt => by
          refine XS.iloadN X139.here hx rfl (hb hby d20_5) rfl ?_
          refine XS.aloadN X139.here hx rfl (hb hby d20_6) rfl rfl ?_
          exact kt
        obtain ⟨T179, X179, e179, st179⟩ := getF X139 hx hZ hown (host := "") (Or.inl (hw _ (own_g (i := 57) rfl))) Via.refl e139 F_a_events (g := (mkF m 7 #[.val (.ref a), .val (.ref t), .val (.int (2 : Int32)), .unset, .unset] [(.ref a), (.int (2 : Int32))])) rfl rfl (hb hby d20_7)
        have r179 : own_R p e below _ _ T179 (mkF m 10 #[.val (.ref a), .val (.ref t), .val (.int (2 : Int32)), .unset, .unset] [(.ref ev), (.int (2 : Int32))]) := r178.trans fun z_ kt => st179 _ kt
        obtain ⟨cl180, Ar180, q180, S180, M180, H180, G180⟩ := id V_ev
        have r181 : own_R p e below _ _ T179 (mkF m 38 #[.val (.ref a), .val (.ref t), .val (.int (2 : Int32)), .unset, .unset] []) := r179.trans fun z_ kt => by
          refine X179.arraylength hx (by rw [e179]; exact Ar180.1) (State.isArrayOf_alike hZ.alike Ar180.2.1) (g := (mkF m 10 #[.val (.ref a), .val (.ref t), .val (.int (2 : Int32)), .unset, .unset] [(.ref ev), (.int (2 : Int32))])) rfl rfl (hb hby d20_10) _ ?_
          rw [len_of S180 M180]
          refine XS.icmpYes X179.here hx rfl (pc0 := 11) (pc' := 38) rfl (hb hby d20_11) rfl (tlt (by decide : (2 : Int32) < (3 : Int32))).1 (by decide) (by decide) ?_
          exact kt
        exact ⟨ev, kv, (3 : Int32), vs, T179, _, _, X179.more (by decide) (by decide), e179, N139, Kb141, Or.inl rfl, F_a_events, V_ev, by decide, hvs, F_a_stamped, F_a_unstamped, F_a_violations, r181⟩
      · skip
        rw [hz0] at V_ev hvs
        have r182 : own_R p e below _ _ T139 (mkF m 7 #[.val (.ref a), .val (.ref t), .val (.int (2 : Int32)), .unset, .unset] [(.ref a), (.int (2 : Int32))]) := r140.trans fun z_ kt => by
          refine XS.iloadN X139.here hx rfl (hb hby d20_5) rfl ?_
          refine XS.aloadN X139.here hx rfl (hb hby d20_6) rfl rfl ?_
          exact kt
        obtain ⟨T183, X183, e183, st183⟩ := getF X139 hx hZ hown (host := "") (Or.inl (hw _ (own_g (i := 57) rfl))) Via.refl e139 F_a_events (g := (mkF m 7 #[.val (.ref a), .val (.ref t), .val (.int (2 : Int32)), .unset, .unset] [(.ref a), (.int (2 : Int32))])) rfl rfl (hb hby d20_7)
        have r183 : own_R p e below _ _ T183 (mkF m 10 #[.val (.ref a), .val (.ref t), .val (.int (2 : Int32)), .unset, .unset] [(.ref ev), (.int (2 : Int32))]) := r182.trans fun z_ kt => st183 _ kt
        obtain ⟨cl184, Ar184, q184, S184, M184, H184, G184⟩ := id V_ev
        have r185 : own_R p e below _ _ T183 (mkF m 38 #[.val (.ref a), .val (.ref t), .val (.int (2 : Int32)), .unset, .unset] []) := r183.trans fun z_ kt => by
          refine X183.arraylength hx (by rw [e183]; exact Ar184.1) (State.isArrayOf_alike hZ.alike Ar184.2.1) (g := (mkF m 10 #[.val (.ref a), .val (.ref t), .val (.int (2 : Int32)), .unset, .unset] [(.ref ev), (.int (2 : Int32))])) rfl rfl (hb hby d20_10) _ ?_
          rw [len_of S184 M184]
          refine XS.icmpYes X183.here hx rfl (pc0 := 11) (pc' := 38) rfl (hb hby d20_11) rfl (tlt (by decide : (2 : Int32) < (4 : Int32))).1 (by decide) (by decide) ?_
          exact kt
        exact ⟨ev, kv, (4 : Int32), vs, T183, _, _, X183.more (by decide) (by decide), e183, N139, Kb141, Or.inl rfl, F_a_events, V_ev, by decide, hvs, F_a_stamped, F_a_unstamped, F_a_violations, r185⟩
    have ne_a_ev1_g : a ≠ ev1_g := own_fe p141_0 ne_a_ev E_a.lt
    have ne_t_ev1_g : t ≠ ev1_g := own_fe p141_0 ne_t_ev E_t.lt
    have ne_v_ev1_g : v ≠ ev1_g := own_fe p141_0 (Ne.symm ne_ev_v) E_v.lt
    have ne_bl_ev1_g : bl ≠ ev1_g := own_fe p141_0 ne_bl_ev V_bl.lt
    have ne_en_ev1_g : en ≠ ev1_g := own_fe p141_0 ne_en_ev V_en.lt
    have g_ev1_g : n0 ≤ ev1_g := own_feg p141_0 g_ev (own_old_size O0)
    have O141 := O0.keep Kq141 (allS g_a all0)
    have K141 := K0.trans Kq141 (allS (Or.inl (List.mem_of_getElem? (i := 0) rfl)) all0)
    rcases hvv with ⟨hps, hv⟩ | ⟨hps, hv⟩
    · skip
      rw [hv] at F_t_vector
      have r186 : own_R p e below _ _ T141 (mkF m 39 #[.val (.ref a), .val (.ref t), .val (.int (2 : Int32)), .unset, .unset] [(.ref a)]) := r141.trans fun z_ kt => by
        refine XS.aloadN X141.here hx rfl (hb hby d20_38) rfl rfl ?_
        exact kt
      obtain ⟨T187, X187, e187, st187⟩ := getF X141 hx hZ hown (host := "") (Or.inl (hw _ (own_g (i := 57) rfl))) Via.refl e141 p141_1 (g := (mkF m 39 #[.val (.ref a), .val (.ref t), .val (.int (2 : Int32)), .unset, .unset] [(.ref a)])) rfl rfl (hb hby d20_39)
      have r187 : own_R p e below _ _ T187 (mkF m 42 #[.val (.ref a), .val (.ref t), .val (.int (2 : Int32)), .unset, .unset] [(.ref ev1_g)]) := r186.trans fun z_ kt => st187 _ kt
      have r189 : own_R p e below _ _ T187 (mkF m 44 #[.val (.ref a), .val (.ref t), .val (.int (2 : Int32)), .unset, .unset] [(.int (2 : Int32)), (.ref ev1_g), (.int (2 : Int32)), (.ref ev1_g)]) := r187.trans fun z_ kt => by
        refine XS.iloadN X187.here hx rfl (hb hby d20_42) rfl ?_
        jvm_step X187.here [X187.here.top, hx, (hb hby d20_43), Value.category]
        exact kt
      obtain ⟨cl188, Ar188, q188, S188, M188, H188, G188⟩ := id p141_2
      obtain ⟨jr188, hjr188⟩ := fit_J (G188 2 (by rw [S188]; exact own_ix p141_3.2))
      have hin188 : ¬ ((2 : Int32) < 0 ∨ cl188.slots.size ≤ ((2 : Int32)).toNatClampNeg) := inb_of S188 ⟨by decide, p141_3.2⟩
      have hat188 : cl188.slots[((2 : Int32)).toNatClampNeg]? = some (.long jr188) := Has.at H188 hin188 hjr188
      obtain ⟨cl190, Ar190, q190, S190, M190, H190, G190⟩ := id p141_2
      have hin190 : ¬ ((2 : Int32) < 0 ∨ cl190.slots.size ≤ ((2 : Int32)).toNatClampNeg) := inb_of S190 ⟨by decide, p141_3.2⟩
      have r191 : own_R p e below _ _ T187 (mkF m 47 #[.val (.ref a), .val (.ref t), .val (.int (2 : Int32)), .unset, .unset] [(.long (jr188 + (1 : Int64))), (.int (2 : Int32)), (.ref ev1_g)]) := r189.trans fun z_ kt => by
        refine X187.laload hx (j := (2 : Int32)) (v := (.long jr188)) (by rw [e187]; exact Ar188.1) (State.isArrayOf_alike hZ.alike Ar188.2.1) Ar188.2.2 hin188 hat188 (g := (mkF m 44 #[.val (.ref a), .val (.ref t), .val (.int (2 : Int32)), .unset, .unset] [(.int (2 : Int32)), (.ref ev1_g), (.int (2 : Int32)), (.ref ev1_g)])) rfl rfl (hb hby d20_44) _ ?_
        refine XS.lconst X187.here hx rfl (hb hby d20_45) ?_
        refine XS.ladd X187.here hx rfl (hb hby d20_46) rfl ?_
        exact kt
      obtain ⟨T192, h192, X192, e192, W192, st192⟩ := stJ X187 hx hZ e187 Ar190 (j := (2 : Int32)) hin190 (g := (mkF m 47 #[.val (.ref a), .val (.ref t), .val (.int (2 : Int32)), .unset, .unset] [(.long (jr188 + (1 : Int64))), (.int (2 : Int32)), (.ref ev1_g)])) rfl rfl (hb hby d20_47)
      have r192 : own_R p e below _ _ T192 (mkF m 48 #[.val (.ref a), .val (.ref t), .val (.int (2 : Int32)), .unset, .unset] []) := r191.trans fun z_ kt => st192 _ kt
      have N192 := Fr.snoc X192 N141 g_ev1_g
      have O192 := O141.wr W192 g_ev1_g
      have K192 := K141.wr W192 (own_few p141_0 (List.mem_of_getElem? (i := 1) rfl) K0.1)
      have V192 : Arv Z h192 ev1_g kv1_g .long z1_g (vs1_g.set 2 (.long (jr188 + (1 : Int64)))) (.long (0 : Int64)) := Arv.set Ar190 q190 S190 M190 H190 G190 rfl W192 2 rfl (by rw [p141_4]; exact own_ix p141_3.2)
      have f193 := ((E_t.keep Kq141).wr W192)
      have r194 : own_R p e below _ _ T192 (mkF m 49 #[.val (.ref a), .val (.ref t), .val (.int (2 : Int32)), .unset, .unset] [(.ref t)]) := r192.trans fun z_ kt => by
        refine XS.aloadN X192.here hx rfl (hb hby d20_48) rfl rfl ?_
        exact kt
      have f195 := ((F_t_vector.keep Kq141 (ninS (Ne.symm ne_a_t) nin0)).other W192 (Or.inl ne_t_ev1_g))
      obtain ⟨cq196, kq196, q196a, q196b, q196c⟩ := isOf hZ e192 f193
      obtain ⟨_, _, ⟨T196, L196, cc196, n196⟩, -, X196, ⟨Lc196, hQ196, l196, y196, z196⟩, st196⟩ := X192.virtualBack hx (y := (⟨"com/example/wildebeest/wildebeest/core/TraceEvent", "vector", "()Ljava/util/Optional;"⟩ : MethodName)) (z := (⟨"com/example/wildebeest/wildebeest/core/TraceEvent", "vector", "()Ljava/util/Optional;"⟩ : MethodName)) hown (mvT hZ (hw _ (own_g (i := 180) rfl))) (mvT hZ (hw _ (own_g (i := 181) rfl))) (notFace_of_selects (args := #[]) (mvT hZ (hw _ (own_g (i := 183) rfl)))) (mvT hZ (hw _ (own_g (i := 183) rfl))) (mvT hZ (hw _ (own_g (i := 182) rfl))) (by decide) (backOf (W := 0) (rm_teVecN l Z a0 hw [] (t) (s_OE) h192 n0 O192 (f195) (S_Optional_EMPTY)) hZ (hw _ (own_g (i := 184) rfl)) (hw _ (own_g (i := 85) rfl)) (by decide) (by decide)) q196a q196c (g := (mkF m 49 #[.val (.ref a), .val (.ref t), .val (.int (2 : Int32)), .unset, .unset] [(.ref t)])) rfl (by rw [hml]; rfl) (Steps.refl _) (argsL := []) (rest := []) (lenOf pd_10 rfl) rfl (by show 2 * 0 + _ ≤ _; exact Nat.le_of_eq rfl) (hb hby d20_49) (fun _ _ => ⟨rfl, e192, (by decide : 1 + 0 ≤ _), (by decide : 4 + 0 ≤ _)⟩)
      dsimp only [Pt.U, Pt.locs, Pt.cells, Pt.slots] at X196 l196 y196 z196 st196 hQ196
      subst l196 y196 z196
      obtain ⟨rfl, Nq196, eq196⟩ := hQ196
      have N196 := Fr.app N192 Nq196
      have r196 : own_R p e below _ _ T196 (mkF m 52 #[.val (.ref a), .val (.ref t), .val (.int (2 : Int32)), .unset, .unset] [(.ref s_OE)]) := r194.trans fun z_ kt => st196.trans kt
      have e196 : T196.heap = h192 := eq196
      obtain ⟨cq197, kq197, q197a, q197b, q197c⟩ := isOf hZ e196 (OE_s_OE.ext O192.2)
      obtain ⟨_, _, ⟨T197, L197, cc197, n197⟩, -, X197, ⟨Lc197, hQ197, l197, y197, z197⟩, st197⟩ := X196.virtualBack hx (y := (⟨"java/util/Optional", "isEmpty", "()Z"⟩ : MethodName)) (z := (⟨"java/util/Optional", "isEmpty", "()Z"⟩ : MethodName)) hown (mvT hZ (hw _ (own_g (i := 188) rfl))) (mvT hZ (hw _ (own_g (i := 189) rfl))) (notFace_of_selects (args := #[]) (mvT hZ (hw _ (own_g (i := 191) rfl)))) (mvT hZ (hw _ (own_g (i := 191) rfl))) (mvT hZ (hw _ (own_g (i := 190) rfl))) (by decide) (backOf (W := 0) (rm_opIsEmptyN l Z a0 hw [] (s_OE) h192 n0 O192 ((OF_s_OE_value.ext O192.2))) hZ (hw _ (own_g (i := 192) rfl)) (hw _ (own_g (i := 75) rfl)) (by decide) (by decide)) q197a q197c (g := (mkF m 52 #[.val (.ref a), .val (.ref t), .val (.int (2 : Int32)), .unset, .unset] [(.ref s_OE)])) rfl (by rw [hml]; rfl) (Steps.refl _) (argsL := []) (rest := []) (lenOf pd_5 rfl) rfl (by show 2 * 0 + _ ≤ _; exact Nat.le_of_eq rfl) (hb hby d20_52) (fun _ _ => ⟨rfl, e196, (by decide : 1 + 0 ≤ _), (by decide : 4 + 0 ≤ _)⟩)
      dsimp only [Pt.U, Pt.locs, Pt.cells, Pt.slots] at X197 l197 y197 z197 st197 hQ197
      subst l197 y197 z197
      obtain ⟨rfl, Nq197, eq197⟩ := hQ197
      have N197 := Fr.app N196 Nq197
      have r197 : own_R p e below _ _ T197 (mkF m 55 #[.val (.ref a), .val (.ref t), .val (.int (2 : Int32)), .unset, .unset] [(.int (1 : Int32))]) := r196.trans fun z_ kt => st197.trans kt
      have e197 : T197.heap = h192 := eq197
      have f198 := (p141_6.other W192 (Or.inl ne_a_ev1_g))
      have r199 : own_R p e below _ _ T197 (mkF m 60 #[.val (.ref a), .val (.ref t), .val (.int (2 : Int32)), .unset, .unset] [(.ref a), (.ref a)]) := r197.trans fun z_ kt => by
        refine XS.ifNo X197.here hx rfl (hb hby d20_55) rfl ((if0 _ _).trans (feq (by decide : ¬ ((1 : Int32) = (0 : Int32)))).1) ?_
        refine XS.aloadN X197.here hx rfl (hb hby d20_58) rfl rfl ?_
        refine XS.dup X197.here hx rfl (hb hby d20_59) rfl rfl ?_
        exact kt
      obtain ⟨T200, X200, e200, st200⟩ := getF X197 hx hZ hown (host := "") (Or.inl (hw _ (own_g (i := 193) rfl))) Via.refl e197 f198 (g := (mkF m 60 #[.val (.ref a), .val (.ref t), .val (.int (2 : Int32)), .unset, .unset] [(.ref a), (.ref a)])) rfl rfl (hb hby d20_60)
      have r200 : own_R p e below _ _ T200 (mkF m 63 #[.val (.ref a), .val (.ref t), .val (.int (2 : Int32)), .unset, .unset] [(.long ju), (.ref a)]) := r199.trans fun z_ kt => st200 _ kt
      have f201 := ((E_a.keep Kq141).wr W192)
      have r202 : own_R p e below _ _ T200 (mkF m 65 #[.val (.ref a), .val (.ref t), .val (.int (2 : Int32)), .unset, .unset] [(.long (ju + (1 : Int64))), (.ref a)]) := r200.trans fun z_ kt => by
        refine XS.lconst X200.here hx rfl (hb hby d20_63) ?_
        refine XS.ladd X200.here hx rfl (hb hby d20_64) rfl ?_
        exact kt
      obtain ⟨T203, h203, X203, e203, W203, st203⟩ := putF X200 hx hZ hown (host := "") (Or.inl (hw _ (own_g (i := 193) rfl))) Via.refl e200 f198 f201 (Or.inl (hw _ (own_g (i := 194) rfl))) (hw _ (own_g (i := 31) rfl)) (ty := .long) (v := (.long (ju + (1 : Int64)))) (by decide) rfl rfl (g := (mkF m 65 #[.val (.ref a), .val (.ref t), .val (.int (2 : Int32)), .unset, .unset] [(.long (ju + (1 : Int64))), (.ref a)])) rfl rfl (hb hby d20_65)
      have r203 : own_R p e below _ _ T203 (mkF m 68 #[.val (.ref a), .val (.ref t), .val (.int (2 : Int32)), .unset, .unset] []) := r202.trans fun z_ kt => st203 _ kt
      have N203 := Fr.snoc X203 N197 g_a
      have O203 := O192.wr W203 g_a
      have K203 := K192.wr W203 (Or.inl (List.mem_of_getElem? (i := 0) rfl))
      have F203 := f198.same W203
      have f204 := ((p141_1.other W192 (Or.inl ne_a_ev1_g)).other W203 (Or.inr (slot_ne (Or.inl (hw _ (own_g (i := 58) rfl))) (Or.inl (hw _ (own_g (i := 194) rfl))) (by decide) (t := (.array .long)) (t' := .long) (by decide) (by decide))))
      have f205 := (V192.other W203 (Ne.symm ne_a_ev1_g))
      have f206 := ((p141_5.other W192 (Or.inl ne_a_ev1_g)).other W203 (Or.inr (slot_ne (Or.inl (hw _ (own_g (i := 65) rfl))) (Or.inl (hw _ (own_g (i := 194) rfl))) (by decide) (t := .long) (t' := .long) (by decide) (by decide))))
      have f207 := ((p141_7.other W192 (Or.inl ne_a_ev1_g)).other W203 (Or.inr (slot_ne (Or.inl (hw _ (own_g (i := 228) rfl))) (Or.inl (hw _ (own_g (i := 194) rfl))) (by decide) (t := .long) (t' := .long) (by decide) (by decide))))
      obtain ⟨fs_, hr_, hrun_, hended_, hW_, hsame_⟩ := X203.leave (v := none) (fun _ => rfl)
      refine ⟨_, _, pre0 _ (r203 _ ?_), hrun_, hended_, _, _, rfl, ?_, ⟨_, rfl⟩, hW_, hsame_.mono (by decide) (by decide)⟩
      · exact X203.returnOut hx Bd.returns (hb hby d20_68) hr_
      · show Q_accept Z a t js ju jv v kd pn vv ps ev kv z vs s_OE s_SEND s_RECEIVE bl kb en ke vse h0 n0 _ T203.heap _
        rw [e203]
        exact ⟨ev1_g, kv1_g, z1_g, (vs1_g.set 2 (.long (jr188 + (1 : Int64)))), js, (ju + (1 : Int64)), jv, rfl, N203, K203, (p141_0.imp id (Nat.le_trans K0.1)), f204, f205, f206, F203, f207, Or.inr p141_3.1, by rw [List.length_set]; exact p141_4, Or.inl ⟨hps, rfl⟩⟩
    · skip
      rw [hv] at F_t_vector
      have r208 : own_R p e below _ _ T141 (mkF m 39 #[.val (.ref a), .val (.ref t), .val (.int (2 : Int32)), .unset, .unset] [(.ref a)]) := r141.trans fun z_ kt => by
        refine XS.aloadN X141.here hx rfl (hb hby d20_38) rfl rfl ?_
        exact kt
      obtain ⟨T209, X209, e209, st209⟩ := getF X141 hx hZ hown (host := "") (Or.inl (hw _ (own_g (i := 57) rfl))) Via.refl e141 p141_1 (g := (mkF m 39 #[.val (.ref a), .val (.ref t), .val (.int (2 : Int32)), .unset, .unset] [(.ref a)])) rfl rfl (hb hby d20_39)
      have r209 : own_R p e below _ _ T209 (mkF m 42 #[.val (.ref a), .val (.ref t), .val (.int (2 : Int32)), .unset, .unset] [(.ref ev1_g)]) := r208.trans fun z_ kt => st209 _ kt
      have r211 : own_R p e below _ _ T209 (mkF m 44 #[.val (.ref a), .val (.ref t), .val (.int (2 : Int32)), .unset, .unset] [(.int (2 : Int32)), (.ref ev1_g), (.int (2 : Int32)), (.ref ev1_g)]) := r209.trans fun z_ kt => by
        refine XS.iloadN X209.here hx rfl (hb hby d20_42) rfl ?_
        jvm_step X209.here [X209.here.top, hx, (hb hby d20_43), Value.category]
        exact kt
      obtain ⟨cl210, Ar210, q210, S210, M210, H210, G210⟩ := id p141_2
      obtain ⟨jr210, hjr210⟩ := fit_J (G210 2 (by rw [S210]; exact own_ix p141_3.2))
      have hin210 : ¬ ((2 : Int32) < 0 ∨ cl210.slots.size ≤ ((2 : Int32)).toNatClampNeg) := inb_of S210 ⟨by decide, p141_3.2⟩
      have hat210 : cl210.slots[((2 : Int32)).toNatClampNeg]? = some (.long jr210) := Has.at H210 hin210 hjr210
      obtain ⟨cl212, Ar212, q212, S212, M212, H212, G212⟩ := id p141_2
      have hin212 : ¬ ((2 : Int32) < 0 ∨ cl212.slots.size ≤ ((2 : Int32)).toNatClampNeg) := inb_of S212 ⟨by decide, p141_3.2⟩
      have r213 : own_R p e below _ _ T209 (mkF m 47 #[.val (.ref a), .val (.ref t), .val (.int (2 : Int32)), .unset, .unset] [(.long (jr210 + (1 : Int64))), (.int (2 : Int32)), (.ref ev1_g)]) := r211.trans fun z_ kt => by
        refine X209.laload hx (j := (2 : Int32)) (v := (.long jr210)) (by rw [e209]; exact Ar210.1) (State.isArrayOf_alike hZ.alike Ar210.2.1) Ar210.2.2 hin210 hat210 (g := (mkF m 44 #[.val (.ref a), .val (.ref t), .val (.int (2 : Int32)), .unset, .unset] [(.int (2 : Int32)), (.ref ev1_g), (.int (2 : Int32)), (.ref ev1_g)])) rfl rfl (hb hby d20_44) _ ?_
        refine XS.lconst X209.here hx rfl (hb hby d20_45) ?_
        refine XS.ladd X209.here hx rfl (hb hby d20_46) rfl ?_
        exact kt
      obtain ⟨T214, h214, X214, e214, W214, st214⟩ := stJ X209 hx hZ e209 Ar212 (j := (2 : Int32)) hin212 (g := (mkF m 47 #[.val (.ref a), .val (.ref t), .val (.int (2 : Int32)), .unset, .unset] [(.long (jr210 + (1 : Int64))), (.int (2 : Int32)), (.ref ev1_g)])) rfl rfl (hb hby d20_47)
      have r214 : own_R p e below _ _ T214 (mkF m 48 #[.val (.ref a), .val (.ref t), .val (.int (2 : Int32)), .unset, .unset] []) := r213.trans fun z_ kt => st214 _ kt
      have N214 := Fr.snoc X214 N141 g_ev1_g
      have O214 := O141.wr W214 g_ev1_g
      have K214 := K141.wr W214 (own_few p141_0 (List.mem_of_getElem? (i := 1) rfl) K0.1)
      have V214 : Arv Z h214 ev1_g kv1_g .long z1_g (vs1_g.set 2 (.long (jr210 + (1 : Int64)))) (.long (0 : Int64)) := Arv.set Ar212 q212 S212 M212 H212 G212 rfl W214 2 rfl (by rw [p141_4]; exact own_ix p141_3.2)
      have f215 := ((E_t.keep Kq141).wr W214)
      have r216 : own_R p e below _ _ T214 (mkF m 49 #[.val (.ref a), .val (.ref t), .val (.int (2 : Int32)), .unset, .unset] [(.ref t)]) := r214.trans fun z_ kt => by
        refine XS.aloadN X214.here hx rfl (hb hby d20_48) rfl rfl ?_
        exact kt
      have f217 := ((F_t_vector.keep Kq141 (ninS (Ne.symm ne_a_t) nin0)).other W214 (Or.inl ne_t_ev1_g))
      obtain ⟨cq218, kq218, q218a, q218b, q218c⟩ := isOf hZ e214 f215
      obtain ⟨_, _, ⟨T218, L218, cc218, n218⟩, -, X218, ⟨Lc218, hQ218, l218, y218, z218⟩, st218⟩ := X214.virtualBack hx (y := (⟨"com/example/wildebeest/wildebeest/core/TraceEvent", "vector", "()Ljava/util/Optional;"⟩ : MethodName)) (z := (⟨"com/example/wildebeest/wildebeest/core/TraceEvent", "vector", "()Ljava/util/Optional;"⟩ : MethodName)) hown (mvT hZ (hw _ (own_g (i := 180) rfl))) (mvT hZ (hw _ (own_g (i := 181) rfl))) (notFace_of_selects (args := #[]) (mvT hZ (hw _ (own_g (i := 183) rfl)))) (mvT hZ (hw _ (own_g (i := 183) rfl))) (mvT hZ (hw _ (own_g (i := 182) rfl))) (by decide) (backOf (W := 0) (rm_teVecR l Z a0 hw [] (t) (v) h214 n0 O214 (f217)) hZ (hw _ (own_g (i := 184) rfl)) (hw _ (own_g (i := 85) rfl)) (by decide) (by decide)) q218a q218c (g := (mkF m 49 #[.val (.ref a), .val (.ref t), .val (.int (2 : Int32)), .unset, .unset] [(.ref t)])) rfl (by rw [hml]; rfl) (Steps.refl _) (argsL := []) (rest := []) (lenOf pd_10 rfl) rfl (by show 2 * 0 + _ ≤ _; exact Nat.le_of_eq rfl) (hb hby d20_49) (fun _ _ => ⟨rfl, e214, (by decide : 1 + 1 ≤ _), (by decide : 4 + 1 ≤ _)⟩)
      dsimp only [Pt.U, Pt.locs, Pt.cells, Pt.slots] at X218 l218 y218 z218 st218 hQ218
      subst l218 y218 z218
      obtain ⟨h218, e218⟩ : ∃ z, T218.heap = z := ⟨_, rfl⟩
      rw [e218] at hQ218
      obtain ⟨b_218, rfl, Nq218, Kq218, p218_0, p218_1, p218_2⟩ := hQ218
      have N218 := Fr.app N214 Nq218
      have r218 : own_R p e below _ _ T218 (mkF m 52 #[.val (.ref a), .val (.ref t), .val (.int (2 : Int32)), .unset, .unset] [(.ref b_218)]) := r216.trans fun z_ kt => st218.trans kt
      have f219 := ((E_a.keep Kq141).wr W214)
      have ne_a_b_218 : a ≠ b_218 := Nat.ne_of_lt (Nat.lt_of_lt_of_le f219.lt p218_0)
      have ne_t_b_218 : t ≠ b_218 := Nat.ne_of_lt (Nat.lt_of_lt_of_le f215.lt p218_0)
      have f220 := ((E_v.keep Kq141).wr W214)
      have ne_v_b_218 : v ≠ b_218 := Nat.ne_of_lt (Nat.lt_of_lt_of_le f220.lt p218_0)
      have f221 := ((V_bl.keep Kq141 (ninS (Ne.symm ne_a_bl) nin0)).other W214 ne_bl_ev1_g)
      have ne_bl_b_218 : bl ≠ b_218 := Nat.ne_of_lt (Nat.lt_of_lt_of_le f221.lt p218_0)
      have f222 := ((V_en.keep Kq141 (ninS (Ne.symm ne_a_en) nin0)).other W214 ne_en_ev1_g)
      have ne_en_b_218 : en ≠ b_218 := Nat.ne_of_lt (Nat.lt_of_lt_of_le f222.lt p218_0)
      have ne_ev1_g_b_218 : ev1_g ≠ b_218 := Nat.ne_of_lt (Nat.lt_of_lt_of_le V214.lt p218_0)
      have g_b_218 : n0 ≤ b_218 := Nat.le_trans (own_old_size O214) p218_0
      have sz_b_218 : h0.size ≤ b_218 := Nat.le_trans K214.1 p218_0
      have O218 := O214.keep Kq218 all0
      have K218 := K214.trans Kq218 all0
      obtain ⟨cq223, kq223, q223a, q223b, q223c⟩ := isOf hZ e218 p218_1
      obtain ⟨_, _, ⟨T223, L223, cc223, n223⟩, -, X223, ⟨Lc223, hQ223, l223, y223, z223⟩, st223⟩ := X218.virtualBack hx (y := (⟨"java/util/Optional", "isEmpty", "()Z"⟩ : MethodName)) (z := (⟨"java/util/Optional", "isEmpty", "()Z"⟩ : MethodName)) hown (mvT hZ (hw _ (own_g (i := 188) rfl))) (mvT hZ (hw _ (own_g (i := 189) rfl))) (notFace_of_selects (args := #[]) (mvT hZ (hw _ (own_g (i := 191) rfl)))) (mvT hZ (hw _ (own_g (i := 191) rfl))) (mvT hZ (hw _ (own_g (i := 190) rfl))) (by decide) (backOf (W := 0) (rm_opIsEmptyR l Z a0 hw [] (b_218) (v) h218 n0 O218 (p218_2)) hZ (hw _ (own_g (i := 192) rfl)) (hw _ (own_g (i := 75) rfl)) (by decide) (by decide)) q223a q223c (g := (mkF m 52 #[.val (.ref a), .val (.ref t), .val (.int (2 : Int32)), .unset, .unset] [(.ref b_218)])) rfl (by rw [hml]; rfl) (Steps.refl _) (argsL := []) (rest := []) (lenOf pd_5 rfl) rfl (by show 2 * 0 + _ ≤ _; exact Nat.le_of_eq rfl) (hb hby d20_52) (fun _ _ => ⟨rfl, e218, (by decide : 2 + 0 ≤ _), (by decide : 5 + 0 ≤ _)⟩)
      dsimp only [Pt.U, Pt.locs, Pt.cells, Pt.slots] at X223 l223 y223 z223 st223 hQ223
      subst l223 y223 z223
      obtain ⟨rfl, Nq223, eq223⟩ := hQ223
      have N223 := Fr.app N218 Nq223
      have r223 : own_R p e below _ _ T223 (mkF m 55 #[.val (.ref a), .val (.ref t), .val (.int (2 : Int32)), .unset, .unset] [(.int (0 : Int32))]) := r218.trans fun z_ kt => st223.trans kt
      have e223 : T223.heap = h218 := eq223
      have f224 := ((p141_5.other W214 (Or.inl ne_a_ev1_g)).keep Kq218 nin0)
      have r225 : own_R p e below _ _ T223 (mkF m 71 #[.val (.ref a), .val (.ref t), .val (.int (2 : Int32)), .unset, .unset] [(.ref a), (.ref a)]) := r223.trans fun z_ kt => by
        refine XS.ifYes X223.here hx rfl (pc0 := 55) (pc' := 69) rfl (hb hby d20_55) rfl ((if0 _ _).trans (teq (by decide : (0 : Int32) = (0 : Int32))).1) (by decide) (by decide) ?_
        refine XS.aloadN X223.here hx rfl (hb hby d20_69) rfl rfl ?_
        refine XS.dup X223.here hx rfl (hb hby d20_70) rfl rfl ?_
        exact kt
      obtain ⟨T226, X226, e226, st226⟩ := getF X223 hx hZ hown (host := "") (Or.inl (hw _ (own_g (i := 64) rfl))) Via.refl e223 f224 (g := (mkF m 71 #[.val (.ref a), .val (.ref t), .val (.int (2 : Int32)), .unset, .unset] [(.ref a), (.ref a)])) rfl rfl (hb hby d20_71)
      have r226 : own_R p e below _ _ T226 (mkF m 74 #[.val (.ref a), .val (.ref t), .val (.int (2 : Int32)), .unset, .unset] [(.long js), (.ref a)]) := r225.trans fun z_ kt => st226 _ kt
      have f227 := (f219.keep Kq218)
      have r228 : own_R p e below _ _ T226 (mkF m 76 #[.val (.ref a), .val (.ref t), .val (.int (2 : Int32)), .unset, .unset] [(.long (js + (1 : Int64))), (.ref a)]) := r226.trans fun z_ kt => by
        refine XS.lconst X226.here hx rfl (hb hby d20_74) ?_
        refine XS.ladd X226.here hx rfl (hb hby d20_75) rfl ?_
        exact kt
      obtain ⟨T229, h229, X229, e229, W229, st229⟩ := putF X226 hx hZ hown (host := "") (Or.inl (hw _ (own_g (i := 64) rfl))) Via.refl e226 f224 f227 (Or.inl (hw _ (own_g (i := 65) rfl))) (hw _ (own_g (i := 31) rfl)) (ty := .long) (v := (.long (js + (1 : Int64)))) (by decide) rfl rfl (g := (mkF m 76 #[.val (.ref a), .val (.ref t), .val (.int (2 : Int32)), .unset, .unset] [(.long (js + (1 : Int64))), (.ref a)])) rfl rfl (hb hby d20_76)
      have r229 : own_R p e below _ _ T229 (mkF m 79 #[.val (.ref a), .val (.ref t), .val (.int (2 : Int32)), .unset, .unset] []) := r228.trans fun z_ kt => st229 _ kt
      have N229 := Fr.snoc X229 N223 g_a
      have O229 := O218.wr W229 g_a
      have K229 := K218.wr W229 (Or.inl (List.mem_of_getElem? (i := 0) rfl))
      have F229 := f224.same W229
      have f230 := ((f215.keep Kq218).wr W229)
      have r231 : own_R p e below _ _ T229 (mkF m 80 #[.val (.ref a), .val (.ref t), .val (.int (2 : Int32)), .unset, .unset] [(.ref t)]) := r229.trans fun z_ kt => by
        refine XS.aloadN X229.here hx rfl (hb hby d20_79) rfl rfl ?_
        exact kt
      have f232 := ((f217.keep Kq218 nin0).other W229 (Or.inl (Ne.symm ne_a_t)))
      obtain ⟨cq233, kq233, q233a, q233b, q233c⟩ := isOf hZ e229 f230
      obtain ⟨_, _, ⟨T233, L233, cc233, n233⟩, -, X233, ⟨Lc233, hQ233, l233, y233, z233⟩, st233⟩ := X229.virtualBack hx (y := (⟨"com/example/wildebeest/wildebeest/core/TraceEvent", "vector", "()Ljava/util/Optional;"⟩ : MethodName)) (z := (⟨"com/example/wildebeest/wildebeest/core/TraceEvent", "vector", "()Ljava/util/Optional;"⟩ : MethodName)) hown (mvT hZ (hw _ (own_g (i := 180) rfl))) (mvT hZ (hw _ (own_g (i := 181) rfl))) (notFace_of_selects (args := #[]) (mvT hZ (hw _ (own_g (i := 183) rfl)))) (mvT hZ (hw _ (own_g (i := 183) rfl))) (mvT hZ (hw _ (own_g (i := 182) rfl))) (by decide) (backOf (W := 0) (rm_teVecR l Z a0 hw [] (t) (v) h229 n0 O229 (f232)) hZ (hw _ (own_g (i := 184) rfl)) (hw _ (own_g (i := 85) rfl)) (by decide) (by decide)) q233a q233c (g := (mkF m 80 #[.val (.ref a), .val (.ref t), .val (.int (2 : Int32)), .unset, .unset] [(.ref t)])) rfl (by rw [hml]; rfl) (Steps.refl _) (argsL := []) (rest := []) (lenOf pd_10 rfl) rfl (by show 2 * 0 + _ ≤ _; exact Nat.le_of_eq rfl) (hb hby d20_80) (fun _ _ => ⟨rfl, e229, (by decide : 2 + 1 ≤ _), (by decide : 5 + 1 ≤ _)⟩)
      dsimp only [Pt.U, Pt.locs, Pt.cells, Pt.slots] at X233 l233 y233 z233 st233 hQ233
      subst l233 y233 z233
      obtain ⟨h233, e233⟩ : ∃ z, T233.heap = z := ⟨_, rfl⟩
      rw [e233] at hQ233
      obtain ⟨b_233, rfl, Nq233, Kq233, p233_0, p233_1, p233_2⟩ := hQ233
      have N233 := Fr.app N229 Nq233
      have r233 : own_R p e below _ _ T233 (mkF m 83 #[.val (.ref a), .val (.ref t), .val (.int (2 : Int32)), .unset, .unset] [(.ref b_233)]) := r231.trans fun z_ kt => st233.trans kt
      have f234 := (f227.wr W229)
      have ne_a_b_233 : a ≠ b_233 := Nat.ne_of_lt (Nat.lt_of_lt_of_le f234.lt p233_0)
      have ne_t_b_233 : t ≠ b_233 := Nat.ne_of_lt (Nat.lt_of_lt_of_le f230.lt p233_0)
      have f235 := ((f220.keep Kq218).wr W229)
      have ne_v_b_233 : v ≠ b_233 := Nat.ne_of_lt (Nat.lt_of_lt_of_le f235.lt p233_0)
      have f236 := ((f221.keep Kq218 nin0).other W229 (Ne.symm ne_a_bl))
      have ne_bl_b_233 : bl ≠ b_233 := Nat.ne_of_lt (Nat.lt_of_lt_of_le f236.lt p233_0)
      have f237 := ((f222.keep Kq218 nin0).other W229 (Ne.symm ne_a_en))
      have ne_en_b_233 : en ≠ b_233 := Nat.ne_of_lt (Nat.lt_of_lt_of_le f237.lt p233_0)
      have f238 := ((V214.keep Kq218 nin0).other W229 (Ne.symm ne_a_ev1_g))
      have ne_ev1_g_b_233 : ev1_g ≠ b_233 := Nat.ne_of_lt (Nat.lt_of_lt_of_le f238.lt p233_0)
      have f239 := (p218_1.wr W229)
      have ne_b_218_b_233 : b_218 ≠ b_233 := Nat.ne_of_lt (Nat.lt_of_lt_of_le f239.lt p233_0)
      have g_b_233 : n0 ≤ b_233 := Nat.le_trans (own_old_size O229) p233_0
      have sz_b_233 : h0.size ≤ b_233 := Nat.le_trans K229.1 p233_0
      have O233 := O229.keep Kq233 all0
      have K233 := K229.trans Kq233 all0
      obtain ⟨cq240, kq240, q240a, q240b, q240c⟩ := isOf hZ e233 p233_1
      obtain ⟨_, _, ⟨T240, L240, cc240, n240⟩, -, X240, ⟨Lc240, hQ240, l240, y240, z240⟩, st240⟩ := X233.virtualBack hx (y := (⟨"java/util/Optional", "get", "()Ljava/lang/Object;"⟩ : MethodName)) (z := (⟨"java/util/Optional", "get", "()Ljava/lang/Object;"⟩ : MethodName)) hown (mvT hZ (hw _ (own_g (i := 211) rfl))) (mvT hZ (hw _ (own_g (i := 212) rfl))) (notFace_of_selects (args := #[]) (mvT hZ (hw _ (own_g (i := 214) rfl)))) (mvT hZ (hw _ (own_g (i := 214) rfl))) (mvT hZ (hw _ (own_g (i := 213) rfl))) (by decide) (backOf (W := 0) (rm_opGet l Z a0 hw [] (b_233) (v) h233 n0 O233 (p233_2)) hZ (hw _ (own_g (i := 215) rfl)) (hw _ (own_g (i := 75) rfl)) (by decide) (by decide)) q240a q240c (g := (mkF m 83 #[.val (.ref a), .val (.ref t), .val (.int (2 : Int32)), .unset, .unset] [(.ref b_233)])) rfl (by rw [hml]; rfl) (Steps.refl _) (argsL := []) (rest := []) (lenOf pd_17 rfl) rfl (by show 2 * 0 + _ ≤ _; exact Nat.le_of_eq rfl) (hb hby d20_83) (fun _ _ => ⟨rfl, e233, (by decide : 3 + 0 ≤ _), (by decide : 6 + 0 ≤ _)⟩)
      dsimp only [Pt.U, Pt.locs, Pt.cells, Pt.slots] at X240 l240 y240 z240 st240 hQ240
      subst l240 y240 z240
      obtain ⟨rfl, Nq240, eq240⟩ := hQ240
      have N240 := Fr.app N233 Nq240
      have r240 : own_R p e below _ _ T240 (mkF m 86 #[.val (.ref a), .val (.ref t), .val (.int (2 : Int32)), .unset, .unset] [(.ref v)]) := r233.trans fun z_ kt => st240.trans kt
      have e240 : T240.heap = h233 := eq240
      have f241 := (f235.keep Kq233)
      obtain ⟨T242, X242, e242, st242⟩ := castY X240 hx hZ hown (hw _ (own_g (i := 216) rfl)) e240 (Ins.self f241) (g := (mkF m 86 #[.val (.ref a), .val (.ref t), .val (.int (2 : Int32)), .unset, .unset] [(.ref v)])) rfl rfl (hb hby d20_86)
      have r242 : own_R p e below _ _ T242 (mkF m 89 #[.val (.ref a), .val (.ref t), .val (.int (2 : Int32)), .unset, .unset] [(.ref v)]) := r240.trans fun z_ kt => st242 _ kt
      have r243 : own_R p e below _ _ T242 (mkF m 92 #[.val (.ref a), .val (.ref t), .val (.int (2 : Int32)), .val (.ref v), .unset] [(.int (2 : Int32)), (.ref v)]) := r242.trans fun z_ kt => by
        refine XS.astoreN X242.here hx rfl (hb hby d20_89) rfl rfl (l' := #[.val (.ref a), .val (.ref t), .val (.int (2 : Int32)), .val (.ref v), .unset]) rfl ?_
        refine XS.aloadN X242.here hx rfl (hb hby d20_90) rfl rfl ?_
        refine XS.iloadN X242.here hx rfl (hb hby d20_91) rfl ?_
        exact kt
      have f244 := (((((F_v_nodes.keep Kq141 (ninS (Ne.symm ne_a_v) nin0)).other W214 (Or.inl ne_v_ev1_g)).keep Kq218 nin0).other W229 (Or.inl (Ne.symm ne_a_v))).keep Kq233 nin0)
      have f245 := (((((F_v_blocks.keep Kq141 (ninS (Ne.symm ne_a_v) nin0)).other W214 (Or.inl ne_v_ev1_g)).keep Kq218 nin0).other W229 (Or.inl (Ne.symm ne_a_v))).keep Kq233 nin0)
      have f246 := (((((F_v_held.keep Kq141 (ninS (Ne.symm ne_a_v) nin0)).other W214 (Or.inl ne_v_ev1_g)).keep Kq218 nin0).other W229 (Or.inl (Ne.symm ne_a_v))).keep Kq233 nin0)
      have f247 := (f236.keep Kq233 nin0)
      have f248 := (f237.keep Kq233 nin0)
      obtain ⟨cq249, kq249, q249a, q249b, q249c⟩ := isOf hZ e242 f241
      obtain ⟨_, _, ⟨T249, L249, cc249, n249⟩, -, X249, ⟨Lc249, hQ249, l249, y249, z249⟩, st249⟩ := X242.virtualBack hx (y := (⟨"com/example/wildebeest/wildebeest/core/VectorTime", "get", "(I)J"⟩ : MethodName)) (z := (⟨"com/example/wildebeest/wildebeest/core/VectorTime", "get", "(I)J"⟩ : MethodName)) hown (mvT hZ (hw _ (own_g (i := 217) rfl))) (mvT hZ (hw _ (own_g (i := 218) rfl))) (notFace_of_selects (args := #[]) (mvT hZ (hw _ (own_g (i := 220) rfl)))) (mvT hZ (hw _ (own_g (i := 220) rfl))) (mvT hZ (hw _ (own_g (i := 219) rfl))) (by decide) (backOf (W := 0) (rm_get2 l Z a0 hw [] (v) (bl) (kb) (en) (ke) (vse) h233 n0 O233 (f241) (f244) (f245) (f246) (f247) (f248)) hZ (hw _ (own_g (i := 221) rfl)) (hw _ (own_g (i := 4) rfl)) (by decide) (by decide)) q249a q249c (g := (mkF m 92 #[.val (.ref a), .val (.ref t), .val (.int (2 : Int32)), .val (.ref v), .unset] [(.int (2 : Int32)), (.ref v)])) rfl (by rw [hml]; rfl) (Steps.refl _) (argsL := [(.int (2 : Int32))]) (rest := []) (lenOf pd_15 rfl) rfl (by show 2 * 0 + _ ≤ _; exact Nat.le_of_eq rfl) (hb hby d20_92) (fun _ _ => ⟨rfl, e242, (by decide : 3 + 0 ≤ _), (by decide : 6 + 0 ≤ _)⟩)
      dsimp only [Pt.U, Pt.locs, Pt.cells, Pt.slots] at X249 l249 y249 z249 st249 hQ249
      subst l249 y249 z249
      obtain ⟨jr_249, rfl, Nq249, eq249⟩ := hQ249
      have N249 := Fr.app N240 Nq249
      have r249 : own_R p e below _ _ T249 (mkF m 95 #[.val (.ref a), .val (.ref t), .val (.int (2 : Int32)), .val (.ref v), .unset] [(.long jr_249)]) := r243.trans fun z_ kt => st249.trans kt
      have e249 : T249.heap = h233 := eq249
      have f250 := ((((p141_1.other W214 (Or.inl ne_a_ev1_g)).keep Kq218 nin0).other W229 (Or.inr (slot_ne (Or.inl (hw _ (own_g (i := 58) rfl))) (Or.inl (hw _ (own_g (i := 65) rfl))) (by decide) (t := (.array .long)) (t' := .long) (by decide) (by decide)))).keep Kq233 nin0)
      have r251 : own_R p e below _ _ T249 (mkF m 96 #[.val (.ref a), .val (.ref t), .val (.int (2 : Int32)), .val (.ref v), .unset] [(.ref a), (.long jr_249)]) := r249.trans fun z_ kt => by
        refine XS.aloadN X249.here hx rfl (hb hby d20_95) rfl rfl ?_
        exact kt
      obtain ⟨T252, X252, e252, st252⟩ := getF X249 hx hZ hown (host := "") (Or.inl (hw _ (own_g (i := 57) rfl))) Via.refl e249 f250 (g := (mkF m 96 #[.val (.ref a), .val (.ref t), .val (.int (2 : Int32)), .val (.ref v), .unset] [(.ref a), (.long jr_249)])) rfl rfl (hb hby d20_96)
      have r252 : own_R p e below _ _ T252 (mkF m 99 #[.val (.ref a), .val (.ref t), .val (.int (2 : Int32)), .val (.ref v), .unset] [(.ref ev1_g), (.long jr_249)]) := r251.trans fun z_ kt => st252 _ kt
      have f253 := (f238.keep Kq233 nin0)
      have r255 : own_R p e below _ _ T252 (mkF m 100 #[.val (.ref a), .val (.ref t), .val (.int (2 : Int32)), .val (.ref v), .unset] [(.int (2 : Int32)), (.ref ev1_g), (.long jr_249)]) := r252.trans fun z_ kt => by
        refine XS.iloadN X252.here hx rfl (hb hby d20_99) rfl ?_
        exact kt
      obtain ⟨cl254, Ar254, q254, S254, M254, H254, G254⟩ := id f253
      obtain ⟨jr254, hjr254⟩ := fit_J (G254 2 (by rw [S254]; exact own_ix p141_3.2))
      have hin254 : ¬ ((2 : Int32) < 0 ∨ cl254.slots.size ≤ ((2 : Int32)).toNatClampNeg) := inb_of S254 ⟨by decide, p141_3.2⟩
      have hat254 : cl254.slots[((2 : Int32)).toNatClampNeg]? = some (.long jr254) := Has.at H254 hin254 hjr254
      have r256 : own_R p e below _ _ T252 (mkF m 102 #[.val (.ref a), .val (.ref t), .val (.int (2 : Int32)), .val (.ref v), .unset] [(.int (lcmpW jr_249 jr254))]) := r255.trans fun z_ kt => by
        refine X252.laload hx (j := (2 : Int32)) (v := (.long jr254)) (by rw [e252]; exact Ar254.1) (State.isArrayOf_alike hZ.alike Ar254.2.1) Ar254.2.2 hin254 hat254 (g := (mkF m 100 #[.val (.ref a), .val (.ref t), .val (.int (2 : Int32)), .val (.ref v), .unset] [(.int (2 : Int32)), (.ref ev1_g), (.long jr_249)])) rfl rfl (hb hby d20_100) _ ?_
        refine XS.lcmp X252.here hx rfl (hb hby d20_101) rfl ?_
        exact kt
      by_cases hc102_257 : (lcmpW jr_249 jr254) = (0 : Int32)
      · skip
        have f258 := (f230.keep Kq233)
        have r259 : own_R p e below _ _ T252 (mkF m 116 #[.val (.ref a), .val (.ref t), .val (.int (2 : Int32)), .val (.ref v), .unset] [(.ref t)]) := r256.trans fun z_ kt => by
          refine XS.ifYes X252.here hx rfl (pc0 := 102) (pc' := 115) rfl (hb hby d20_102) rfl ((if0 _ _).trans (teq (hc102_257 : (lcmpW jr_249 jr254) = (0 : Int32))).1) (by decide) (by decide) ?_
          refine XS.aloadN X252.here hx rfl (hb hby d20_115) rfl rfl ?_
          exact kt
        have f260 := (((((F_t_kind.keep Kq141 (ninS (Ne.symm ne_a_t) nin0)).other W214 (Or.inl ne_t_ev1_g)).keep Kq218 nin0).other W229 (Or.inl (Ne.symm ne_a_t))).keep Kq233 nin0)
        obtain ⟨cq261, kq261, q261a, q261b, q261c⟩ := isOf hZ e252 f258
        obtain ⟨_, _, ⟨T261, L261, cc261, n261⟩, -, X261, ⟨Lc261, hQ261, l261, y261, z261⟩, st261⟩ := X252.virtualBack hx (y := (⟨"com/example/wildebeest/wildebeest/core/TraceEvent", "kind", "()Lcom/example/wildebeest/wildebeest/core/EventKind;"⟩ : MethodName)) (z := (⟨"com/example/wildebeest/wildebeest/core/TraceEvent", "kind", "()Lcom/example/wildebeest/wildebeest/core/EventKind;"⟩ : MethodName)) hown (mvT hZ (hw _ (own_g (i := 229) rfl))) (mvT hZ (hw _ (own_g (i := 230) rfl))) (notFace_of_selects (args := #[]) (mvT hZ (hw _ (own_g (i := 232) rfl)))) (mvT hZ (hw _ (own_g (i := 232) rfl))) (mvT hZ (hw _ (own_g (i := 231) rfl))) (by decide) (backOf (W := 0) (rm_teKind l Z a0 hw [] (t) (kd) h233 n0 O233 (f260)) hZ (hw _ (own_g (i := 233) rfl)) (hw _ (own_g (i := 85) rfl)) (by decide) (by decide)) q261a q261c (g := (mkF m 116 #[.val (.ref a), .val (.ref t), .val (.int (2 : Int32)), .val (.ref v), .unset] [(.ref t)])) rfl (by rw [hml]; rfl) (Steps.refl _) (argsL := []) (rest := []) (lenOf pd_18 rfl) rfl (by show 2 * 0 + _ ≤ _; exact Nat.le_of_eq rfl) (hb hby d20_116) (fun _ _ => ⟨rfl, e252, (by decide : 3 + 0 ≤ _), (by decide : 6 + 0 ≤ _)⟩)
        dsimp only [Pt.U, Pt.locs, Pt.cells, Pt.slots] at X261 l261 y261 z261 st261 hQ261
        subst l261 y261 z261
        obtain ⟨rfl, Nq261, eq261⟩ := hQ261
        have N261 := Fr.app N249 Nq261
        have r261 : own_R p e below _ _ T261 (mkF m 119 #[.val (.ref a), .val (.ref t), .val (.int (2 : Int32)), .val (.ref v), .unset] [(.ref kd)]) := r259.trans fun z_ kt => st261.trans kt
        have e261 : T261.heap = h233 := eq261
        obtain ⟨T262, X262, e262, st262⟩ := getS2 X261 hx hZ hown (host := "") (Or.inl (hw _ (own_g (i := 234) rfl))) Via.refl e261 (S_EventKind_SEND.ext O233.2) (g := (mkF m 119 #[.val (.ref a), .val (.ref t), .val (.int (2 : Int32)), .val (.ref v), .unset] [(.ref kd)])) rfl (hb hby d20_119)
        have r262 : own_R p e below _ _ T262 (mkF m 122 #[.val (.ref a), .val (.ref t), .val (.int (2 : Int32)), .val (.ref v), .unset] [(.ref s_SEND), (.ref kd)]) := r261.trans fun z_ kt => st262 _ kt
        have r263 : own_R p e below _ _ T262 (mkF m 189 #[.val (.ref a), .val (.ref t), .val (.int (2 : Int32)), .val (.ref v), .unset] [(.ref t)]) := r262.trans fun z_ kt => by
          refine Jvm.RoadKit.acmp (g := (mkF m 122 #[.val (.ref a), .val (.ref t), .val (.int (2 : Int32)), .val (.ref v), .unset] [(.ref s_SEND), (.ref kd)])) X262 hx rfl rfl rfl (pc0 := 122) (pc' := 188) (same := false) rfl (hb hby d20_122) rfl (decide_eq_false fun q => ne_kd_s_SEND (Value.ref.inj q)) (by decide) (by decide) ?_
          refine XS.aloadN X262.here hx rfl (hb hby d20_188) rfl rfl ?_
          exact kt
        obtain ⟨cq264, kq264, q264a, q264b, q264c⟩ := isOf hZ e262 f258
        obtain ⟨_, _, ⟨T264, L264, cc264, n264⟩, -, X264, ⟨Lc264, hQ264, l264, y264, z264⟩, st264⟩ := X262.virtualBack hx (y := (⟨"com/example/wildebeest/wildebeest/core/TraceEvent", "kind", "()Lcom/example/wildebeest/wildebeest/core/EventKind;"⟩ : MethodName)) (z := (⟨"com/example/wildebeest/wildebeest/core/TraceEvent", "kind", "()Lcom/example/wildebeest/wildebeest/core/EventKind;"⟩ : MethodName)) hown (mvT hZ (hw _ (own_g (i := 229) rfl))) (mvT hZ (hw _ (own_g (i := 230) rfl))) (notFace_of_selects (args := #[]) (mvT hZ (hw _ (own_g (i := 232) rfl)))) (mvT hZ (hw _ (own_g (i := 232) rfl))) (mvT hZ (hw _ (own_g (i := 231) rfl))) (by decide) (backOf (W := 0) (rm_teKind l Z a0 hw [] (t) (kd) h233 n0 O233 (f260)) hZ (hw _ (own_g (i := 233) rfl)) (hw _ (own_g (i := 85) rfl)) (by decide) (by decide)) q264a q264c (g := (mkF m 189 #[.val (.ref a), .val (.ref t), .val (.int (2 : Int32)), .val (.ref v), .unset] [(.ref t)])) rfl (by rw [hml]; rfl) (Steps.refl _) (argsL := []) (rest := []) (lenOf pd_18 rfl) rfl (by show 2 * 0 + _ ≤ _; exact Nat.le_of_eq rfl) (hb hby d20_189) (fun _ _ => ⟨rfl, e262, (by decide : 3 + 0 ≤ _), (by decide : 6 + 0 ≤ _)⟩)
        dsimp only [Pt.U, Pt.locs, Pt.cells, Pt.slots] at X264 l264 y264 z264 st264 hQ264
        subst l264 y264 z264
        obtain ⟨rfl, Nq264, eq264⟩ := hQ264
        have N264 := Fr.app N261 Nq264
        have r264 : own_R p e below _ _ T264 (mkF m 192 #[.val (.ref a), .val (.ref t), .val (.int (2 : Int32)), .val (.ref v), .unset] [(.ref kd)]) := r263.trans fun z_ kt => st264.trans kt
        have e264 : T264.heap = h233 := eq264
        obtain ⟨T265, X265, e265, st265⟩ := getS2 X264 hx hZ hown (host := "") (Or.inl (hw _ (own_g (i := 236) rfl))) Via.refl e264 (S_EventKind_RECEIVE.ext O233.2) (g := (mkF m 192 #[.val (.ref a), .val (.ref t), .val (.int (2 : Int32)), .val (.ref v), .unset] [(.ref kd)])) rfl (hb hby d20_192)
        have r265 : own_R p e below _ _ T265 (mkF m 195 #[.val (.ref a), .val (.ref t), .val (.int (2 : Int32)), .val (.ref v), .unset] [(.ref s_RECEIVE), (.ref kd)]) := r264.trans fun z_ kt => st265 _ kt
        have r266 : own_R p e below _ _ T265 (mkF m 258 #[.val (.ref a), .val (.ref t), .val (.int (2 : Int32)), .val (.ref v), .unset] []) := r265.trans fun z_ kt => by
          refine Jvm.RoadKit.acmp (g := (mkF m 195 #[.val (.ref a), .val (.ref t), .val (.int (2 : Int32)), .val (.ref v), .unset] [(.ref s_RECEIVE), (.ref kd)])) X265 hx rfl rfl rfl (pc0 := 195) (pc' := 258) (same := false) rfl (hb hby d20_195) rfl (decide_eq_false fun q => ne_kd_s_RECEIVE (Value.ref.inj q)) (by decide) (by decide) ?_
          exact kt
        have f267 := (F229.keep Kq233 nin0)
        have f268 := ((((p141_6.other W214 (Or.inl ne_a_ev1_g)).keep Kq218 nin0).other W229 (Or.inr (slot_ne (Or.inl (hw _ (own_g (i := 194) rfl))) (Or.inl (hw _ (own_g (i := 65) rfl))) (by decide) (t := .long) (t' := .long) (by decide) (by decide)))).keep Kq233 nin0)
        have f269 := ((((p141_7.other W214 (Or.inl ne_a_ev1_g)).keep Kq218 nin0).other W229 (Or.inr (slot_ne (Or.inl (hw _ (own_g (i := 228) rfl))) (Or.inl (hw _ (own_g (i := 65) rfl))) (by decide) (t := .long) (t' := .long) (by decide) (by decide)))).keep Kq233 nin0)
        obtain ⟨fs_, hr_, hrun_, hended_, hW_, hsame_⟩ := X265.leave (v := none) (fun _ => rfl)
        refine ⟨_, _, pre0 _ (r266 _ ?_), hrun_, hended_, _, _, rfl, ?_, ⟨_, rfl⟩, hW_, hsame_.mono (by decide) (by decide)⟩
        · exact X265.returnOut hx Bd.returns (hb hby d20_258) hr_
        · show Q_accept Z a t js ju jv v kd pn vv ps ev kv z vs s_OE s_SEND s_RECEIVE bl kb en ke vse h0 n0 _ T265.heap _
          rw [e265]
          exact ⟨ev1_g, kv1_g, z1_g, (vs1_g.set 2 (.long (jr210 + (1 : Int64)))), (js + (1 : Int64)), ju, jv, rfl, N264, K233, (p141_0.imp id (Nat.le_trans K0.1)), f250, f253, f267, f268, f269, Or.inr p141_3.1, by rw [List.length_set]; exact p141_4, Or.inr ⟨hps, rfl⟩⟩
      · skip
        have f270 := ((((p141_7.other W214 (Or.inl ne_a_ev1_g)).keep Kq218 nin0).other W229 (Or.inr (slot_ne (Or.inl (hw _ (own_g (i := 228) rfl))) (Or.inl (hw _ (own_g (i := 65) rfl))) (by decide) (t := .long) (t' := .long) (by decide) (by decide)))).keep Kq233 nin0)
        have r271 : own_R p e below _ _ T252 (mkF m 107 #[.val (.ref a), .val (.ref t), .val (.int (2 : Int32)), .val (.ref v), .unset] [(.ref a), (.ref a)]) := r256.trans fun z_ kt => by
          refine XS.ifNo X252.here hx rfl (hb hby d20_102) rfl ((if0 _ _).trans (feq (hc102_257 : ¬ ((lcmpW jr_249 jr254) = (0 : Int32)))).1) ?_
          refine XS.aloadN X252.here hx rfl (hb hby d20_105) rfl rfl ?_
          refine XS.dup X252.here hx rfl (hb hby d20_106) rfl rfl ?_
          exact kt
        obtain ⟨T272, X272, e272, st272⟩ := getF X252 hx hZ hown (host := "") (Or.inl (hw _ (own_g (i := 227) rfl))) Via.refl e252 f270 (g := (mkF m 107 #[.val (.ref a), .val (.ref t), .val (.int (2 : Int32)), .val (.ref v), .unset] [(.ref a), (.ref a)])) rfl rfl (hb hby d20_107)
        have r272 : own_R p e below _ _ T272 (mkF m 110 #[.val (.ref a), .val (.ref t), .val (.int (2 : Int32)), .val (.ref v), .unset] [(.long jv), (.ref a)]) := r271.trans fun z_ kt => st272 _ kt
        have f273 := (f234.keep Kq233)
        have r274 : own_R p e below _ _ T272 (mkF m 112 #[.val (.ref a), .val (.ref t), .val (.int (2 : Int32)), .val (.ref v), .unset] [(.long (jv + (1 : Int64))), (.ref a)]) := r272.trans fun z_ kt => by
          refine XS.lconst X272.here hx rfl (hb hby d20_110) ?_
          refine XS.ladd X272.here hx rfl (hb hby d20_111) rfl ?_
          exact kt
        obtain ⟨T275, h275, X275, e275, W275, st275⟩ := putF X272 hx hZ hown (host := "") (Or.inl (hw _ (own_g (i := 227) rfl))) Via.refl e272 f270 f273 (Or.inl (hw _ (own_g (i := 228) rfl))) (hw _ (own_g (i := 31) rfl)) (ty := .long) (v := (.long (jv + (1 : Int64)))) (by decide) rfl rfl (g := (mkF m 112 #[.val (.ref a), .val (.ref t), .val (.int (2 : Int32)), .val (.ref v), .unset] [(.long (jv + (1 : Int64))), (.ref a)])) rfl rfl (hb hby d20_112)
        have r275 : own_R p e below _ _ T275 (mkF m 115 #[.val (.ref a), .val (.ref t), .val (.int (2 : Int32)), .val (.ref v), .unset] []) := r274.trans fun z_ kt => st275 _ kt
        have N275 := Fr.snoc X275 N249 g_a
        have O275 := O233.wr W275 g_a
        have K275 := K233.wr W275 (Or.inl (List.mem_of_getElem? (i := 0) rfl))
        have F275 := f270.same W275
        have f276 := ((f230.keep Kq233).wr W275)
        have r277 : own_R p e below _ _ T275 (mkF m 116 #[.val (.ref a), .val (.ref t), .val (.int (2 : Int32)), .val (.ref v), .unset] [(.ref t)]) := r275.trans fun z_ kt => by
          refine XS.aloadN X275.here hx rfl (hb hby d20_115) rfl rfl ?_
          exact kt
        have f278 := ((((((F_t_kind.keep Kq141 (ninS (Ne.symm ne_a_t) nin0)).other W214 (Or.inl ne_t_ev1_g)).keep Kq218 nin0).other W229 (Or.inl (Ne.symm ne_a_t))).keep Kq233 nin0).other W275 (Or.inl (Ne.symm ne_a_t)))
        obtain ⟨cq279, kq279, q279a, q279b, q279c⟩ := isOf hZ e275 f276
        obtain ⟨_, _, ⟨T279, L279, cc279, n279⟩, -, X279, ⟨Lc279, hQ279, l279, y279, z279⟩, st279⟩ := X275.virtualBack hx (y := (⟨"com/example/wildebeest/wildebeest/core/TraceEvent", "kind", "()Lcom/example/wildebeest/wildebeest/core/EventKind;"⟩ : MethodName)) (z := (⟨"com/example/wildebeest/wildebeest/core/TraceEvent", "kind", "()Lcom/example/wildebeest/wildebeest/core/EventKind;"⟩ : MethodName)) hown (mvT hZ (hw _ (own_g (i := 229) rfl))) (mvT hZ (hw _ (own_g (i := 230) rfl))) (notFace_of_selects (args := #[]) (mvT hZ (hw _ (own_g (i := 232) rfl)))) (mvT hZ (hw _ (own_g (i := 232) rfl))) (mvT hZ (hw _ (own_g (i := 231) rfl))) (by decide) (backOf (W := 0) (rm_teKind l Z a0 hw [] (t) (kd) h275 n0 O275 (f278)) hZ (hw _ (own_g (i := 233) rfl)) (hw _ (own_g (i := 85) rfl)) (by decide) (by decide)) q279a q279c (g := (mkF m 116 #[.val (.ref a), .val (.ref t), .val (.int (2 : Int32)), .val (.ref v), .unset] [(.ref t)])) rfl (by rw [hml]; rfl) (Steps.refl _) (argsL := []) (rest := []) (lenOf pd_18 rfl) rfl (by show 2 * 0 + _ ≤ _; exact Nat.le_of_eq rfl) (hb hby d20_116) (fun _ _ => ⟨rfl, e275, (by decide : 3 + 0 ≤ _), (by decide : 6 + 0 ≤ _)⟩)
        dsimp only [Pt.U, Pt.locs, Pt.cells, Pt.slots] at X279 l279 y279 z279 st279 hQ279
        subst l279 y279 z279
        obtain ⟨rfl, Nq279, eq279⟩ := hQ279
        have N279 := Fr.app N275 Nq279
        have r279 : own_R p e below _ _ T279 (mkF m 119 #[.val (.ref a), .val (.ref t), .val (.int (2 : Int32)), .val (.ref v), .unset] [(.ref kd)]) := r277.trans fun z_ kt => st279.trans kt
        have e279 : T279.heap = h275 := eq279
        obtain ⟨T280, X280, e280, st280⟩ := getS2 X279 hx hZ hown (host := "") (Or.inl (hw _ (own_g (i := 234) rfl))) Via.refl e279 (S_EventKind_SEND.ext O275.2) (g := (mkF m 119 #[.val (.ref a), .val (.ref t), .val (.int (2 : Int32)), .val (.ref v), .unset] [(.ref kd)])) rfl (hb hby d20_119)
        have r280 : own_R p e below _ _ T280 (mkF m 122 #[.val (.ref a), .val (.ref t), .val (.int (2 : Int32)), .val (.ref v), .unset] [(.ref s_SEND), (.ref kd)]) := r279.trans fun z_ kt => st280 _ kt
        have r281 : own_R p e below _ _ T280 (mkF m 189 #[.val (.ref a), .val (.ref t), .val (.int (2 : Int32)), .val (.ref v), .unset] [(.ref t)]) := r280.trans fun z_ kt => by
          refine Jvm.RoadKit.acmp (g := (mkF m 122 #[.val (.ref a), .val (.ref t), .val (.int (2 : Int32)), .val (.ref v), .unset] [(.ref s_SEND), (.ref kd)])) X280 hx rfl rfl rfl (pc0 := 122) (pc' := 188) (same := false) rfl (hb hby d20_122) rfl (decide_eq_false fun q => ne_kd_s_SEND (Value.ref.inj q)) (by decide) (by decide) ?_
          refine XS.aloadN X280.here hx rfl (hb hby d20_188) rfl rfl ?_
          exact kt
        obtain ⟨cq282, kq282, q282a, q282b, q282c⟩ := isOf hZ e280 f276
        obtain ⟨_, _, ⟨T282, L282, cc282, n282⟩, -, X282, ⟨Lc282, hQ282, l282, y282, z282⟩, st282⟩ := X280.virtualBack hx (y := (⟨"com/example/wildebeest/wildebeest/core/TraceEvent", "kind", "()Lcom/example/wildebeest/wildebeest/core/EventKind;"⟩ : MethodName)) (z := (⟨"com/example/wildebeest/wildebeest/core/TraceEvent", "kind", "()Lcom/example/wildebeest/wildebeest/core/EventKind;"⟩ : MethodName)) hown (mvT hZ (hw _ (own_g (i := 229) rfl))) (mvT hZ (hw _ (own_g (i := 230) rfl))) (notFace_of_selects (args := #[]) (mvT hZ (hw _ (own_g (i := 232) rfl)))) (mvT hZ (hw _ (own_g (i := 232) rfl))) (mvT hZ (hw _ (own_g (i := 231) rfl))) (by decide) (backOf (W := 0) (rm_teKind l Z a0 hw [] (t) (kd) h275 n0 O275 (f278)) hZ (hw _ (own_g (i := 233) rfl)) (hw _ (own_g (i := 85) rfl)) (by decide) (by decide)) q282a q282c (g := (mkF m 189 #[.val (.ref a), .val (.ref t), .val (.int (2 : Int32)), .val (.ref v), .unset] [(.ref t)])) rfl (by rw [hml]; rfl) (Steps.refl _) (argsL := []) (rest := []) (lenOf pd_18 rfl) rfl (by show 2 * 0 + _ ≤ _; exact Nat.le_of_eq rfl) (hb hby d20_189) (fun _ _ => ⟨rfl, e280, (by decide : 3 + 0 ≤ _), (by decide : 6 + 0 ≤ _)⟩)
        dsimp only [Pt.U, Pt.locs, Pt.cells, Pt.slots] at X282 l282 y282 z282 st282 hQ282
        subst l282 y282 z282
        obtain ⟨rfl, Nq282, eq282⟩ := hQ282
        have N282 := Fr.app N279 Nq282
        have r282 : own_R p e below _ _ T282 (mkF m 192 #[.val (.ref a), .val (.ref t), .val (.int (2 : Int32)), .val (.ref v), .unset] [(.ref kd)]) := r281.trans fun z_ kt => st282.trans kt
        have e282 : T282.heap = h275 := eq282
        obtain ⟨T283, X283, e283, st283⟩ := getS2 X282 hx hZ hown (host := "") (Or.inl (hw _ (own_g (i := 236) rfl))) Via.refl e282 (S_EventKind_RECEIVE.ext O275.2) (g := (mkF m 192 #[.val (.ref a), .val (.ref t), .val (.int (2 : Int32)), .val (.ref v), .unset] [(.ref kd)])) rfl (hb hby d20_192)
        have r283 : own_R p e below _ _ T283 (mkF m 195 #[.val (.ref a), .val (.ref t), .val (.int (2 : Int32)), .val (.ref v), .unset] [(.ref s_RECEIVE), (.ref kd)]) := r282.trans fun z_ kt => st283 _ kt
        have r284 : own_R p e below _ _ T283 (mkF m 258 #[.val (.ref a), .val (.ref t), .val (.int (2 : Int32)), .val (.ref v), .unset] []) := r283.trans fun z_ kt => by
          refine Jvm.RoadKit.acmp (g := (mkF m 195 #[.val (.ref a), .val (.ref t), .val (.int (2 : Int32)), .val (.ref v), .unset] [(.ref s_RECEIVE), (.ref kd)])) X283 hx rfl rfl rfl (pc0 := 195) (pc' := 258) (same := false) rfl (hb hby d20_195) rfl (decide_eq_false fun q => ne_kd_s_RECEIVE (Value.ref.inj q)) (by decide) (by decide) ?_
          exact kt
        have f285 := (f250.other W275 (Or.inr (slot_ne (Or.inl (hw _ (own_g (i := 58) rfl))) (Or.inl (hw _ (own_g (i := 228) rfl))) (by decide) (t := (.array .long)) (t' := .long) (by decide) (by decide))))
        have f286 := (f253.other W275 (Ne.symm ne_a_ev1_g))
        have f287 := ((F229.keep Kq233 nin0).other W275 (Or.inr (slot_ne (Or.inl (hw _ (own_g (i := 65) rfl))) (Or.inl (hw _ (own_g (i := 228) rfl))) (by decide) (t := .long) (t' := .long) (by decide) (by decide))))
        have f288 := (((((p141_6.other W214 (Or.inl ne_a_ev1_g)).keep Kq218 nin0).other W229 (Or.inr (slot_ne (Or.inl (hw _ (own_g (i := 194) rfl))) (Or.inl (hw _ (own_g (i := 65) rfl))) (by decide) (t := .long) (t' := .long) (by decide) (by decide)))).keep Kq233 nin0).other W275 (Or.inr (slot_ne (Or.inl (hw _ (own_g (i := 194) rfl))) (Or.inl (hw _ (own_g (i := 228) rfl))) (by decide) (t := .long) (t' := .long) (by decide) (by decide))))
        obtain ⟨fs_, hr_, hrun_, hended_, hW_, hsame_⟩ := X283.leave (v := none) (fun _ => rfl)
        refine ⟨_, _, pre0 _ (r284 _ ?_), hrun_, hended_, _, _, rfl, ?_, ⟨_, rfl⟩, hW_, hsame_.mono (by decide) (by decide)⟩
        · exact X283.returnOut hx Bd.returns (hb hby d20_258) hr_
        · show Q_accept Z a t js ju jv v kd pn vv ps ev kv z vs s_OE s_SEND s_RECEIVE bl kb en ke vse h0 n0 _ T283.heap _
          rw [e283]
          exact ⟨ev1_g, kv1_g, z1_g, (vs1_g.set 2 (.long (jr210 + (1 : Int64)))), (js + (1 : Int64)), ju, (jv + (1 : Int64)), rfl, N282, K275, (p141_0.imp id (Nat.le_trans K0.1)), f285, f286, f287, f288, F275, Or.inr p141_3.1, by rw [List.length_set]; exact p141_4, Or.inr ⟨hps, rfl⟩⟩

theorem pd_19 : parseMethodDescriptor "([J)Lcom/example/wildebeest/wildebeest/core/VectorTime;" = some ⟨[(.array .long)], some (.object "com/example/wildebeest/wildebeest/core/VectorTime")⟩ := by decide +kernel
theorem pd_20 : parseMethodDescriptor "(IIZLcom/example/wildebeest/wildebeest/core/VectorTime;)Lcom/example/wildebeest/wildebeest/core/TraceEvent;" = some ⟨[.int, .int, .boolean, (.object "com/example/wildebeest/wildebeest/core/VectorTime")], some (.object "com/example/wildebeest/wildebeest/core/TraceEvent")⟩ := by decide +kernel
theorem pd_21 : parseMethodDescriptor "(Lcom/example/wildebeest/wildebeest/core/TraceEvent;)V" = some ⟨[(.object "com/example/wildebeest/wildebeest/core/TraceEvent")], none⟩ := by decide +kernel
theorem ef_law (m : MethodId) (pq : Int32) (pk : Int32) (je1 : Int64) (je2 : Int64) : entryFrame m #[(.int pq), (.int pk), (.long je1), (.long je2)] maxLocals = mkF m 0 #[.val (.int pq), .val (.int pk), .val (.long je1), .second, .val (.long je2), .second, .unset, .unset, .unset, .unset, .unset, .unset, .unset, .unset] [] := by first | (simp [entryFrame, mkF, argsToLocals, Value.category, maxLocals]; done) | rfl
def Q_law (Z : State) (pq : Int32) (pk : Int32) (je1 : Int64) (je2 : Int64) (s_OL : Addr) (s_OE : Addr) (s_SEND : Addr) (s_RECEIVE : Addr) (s_REQUEST : Addr) (s_ENTER : Addr) (s_EXIT : Addr) (s_CRASH : Addr) (fl : Addr) (el : Addr) (kl : ClassId) (s_NF : Addr) (s_ZV : Addr) (kz : ClassId) (vz : List Value) (h0 : Heap) (n0 : Nat) (v_ : Option Value) (h_ : Heap) (L_ : List Loc) : Prop := v_ = some (.int (1 : Int32)) ∧ Fr n0 L_
set_option maxRecDepth 65536 in
set_option maxHeartbeats 40000000 in
theorem rm_law (l : Launch) (Z : State) (a0 : Array Value) (hw : ∀ d ∈ tables_1, d.before a0 Z = true) (ws : List Jvm.Cond) (pq : Int32) (pk : Int32) (je1 : Int64) (je2 : Int64) (s_OL : Addr) (s_OE : Addr) (s_SEND : Addr) (s_RECEIVE : Addr) (s_REQUEST : Addr) (s_ENTER : Addr) (s_EXIT : Addr) (s_CRASH : Addr) (fl : Addr) (el : Addr) (kl : ClassId) (s_NF : Addr) (s_ZV : Addr) (kz : ClassId) (vz : List Value) (h0 : Heap) (n0 : Nat) (O0 : Old Z n0 h0) (S_EventKind_REQUEST : Sta Z Z.heap "com/example/wildebeest/wildebeest/core/EventKind" "REQUEST" "Lcom/example/wildebeest/wildebeest/core/EventKind;" (.ref s_REQUEST)) (S_EventKind_ENTER : Sta Z Z.heap "com/example/wildebeest/wildebeest/core/EventKind" "ENTER" "Lcom/example/wildebeest/wildebeest/core/EventKind;" (.ref s_ENTER)) (S_EventKind_EXIT : Sta Z Z.heap "com/example/wildebeest/wildebeest/core/EventKind" "EXIT" "Lcom/example/wildebeest/wildebeest/core/EventKind;" (.ref s_EXIT)) (S_EventKind_CRASH : Sta Z Z.heap "com/example/wildebeest/wildebeest/core/EventKind" "CRASH" "Lcom/example/wildebeest/wildebeest/core/EventKind;" (.ref s_CRASH)) (OE_s_REQUEST : Exa Z Z.heap s_REQUEST "com/example/wildebeest/wildebeest/core/EventKind") (OF_s_REQUEST_message : Fld Z Z.heap s_REQUEST "com/example/wildebeest/wildebeest/core/EventKind" "message" "Z" (.int (0 : Int32))) (OF_s_REQUEST_fields : Fld Z Z.heap s_REQUEST "com/example/wildebeest/wildebeest/core/EventKind" "fields" "Ljava/util/List;" (.ref fl)) (OE_s_ENTER : Exa Z Z.heap s_ENTER "com/example/wildebeest/wildebeest/core/EventKind") (OF_s_ENTER_message : Fld Z Z.heap s_ENTER "com/example/wildebeest/wildebeest/core/EventKind" "message" "Z" (.int (0 : Int32))) (OF_s_ENTER_fields : Fld Z Z.heap s_ENTER "com/example/wildebeest/wildebeest/core/EventKind" "fields" "Ljava/util/List;" (.ref fl)) (OE_s_EXIT : Exa Z Z.heap s_EXIT "com/example/wildebeest/wildebeest/core/EventKind") (OF_s_EXIT_message : Fld Z Z.heap s_EXIT "com/example/wildebeest/wildebeest/core/EventKind" "message" "Z" (.int (0 : Int32))) (OF_s_EXIT_fields : Fld Z Z.heap s_EXIT "com/example/wildebeest/wildebeest/core/EventKind" "fields" "Ljava/util/List;" (.ref fl)) (OE_s_CRASH : Exa Z Z.heap s_CRASH "com/example/wildebeest/wildebeest/core/EventKind") (OF_s_CRASH_message : Fld Z Z.heap s_CRASH "com/example/wildebeest/wildebeest/core/EventKind" "message" "Z" (.int (0 : Int32))) (OF_s_CRASH_fields : Fld Z Z.heap s_CRASH "com/example/wildebeest/wildebeest/core/EventKind" "fields" "Ljava/util/List;" (.ref fl)) (ne_s_REQUEST_s_SEND : s_REQUEST ≠ s_SEND) (ne_s_REQUEST_s_RECEIVE : s_REQUEST ≠ s_RECEIVE) (ne_s_ENTER_s_SEND : s_ENTER ≠ s_SEND) (ne_s_ENTER_s_RECEIVE : s_ENTER ≠ s_RECEIVE) (ne_s_EXIT_s_SEND : s_EXIT ≠ s_SEND) (ne_s_EXIT_s_RECEIVE : s_EXIT ≠ s_RECEIVE) (ne_s_CRASH_s_SEND : s_CRASH ≠ s_SEND) (ne_s_CRASH_s_RECEIVE : s_CRASH ≠ s_RECEIVE) (OE_fl : Exa Z Z.heap fl "java/util/ImmutableCollections$ListN") (OF_fl_elements : Fld Z Z.heap fl "java/util/ImmutableCollections$ListN" "elements" "[Ljava/lang/Object;" (.ref el)) (OV_el : Arv Z Z.heap el kl (.object "java/lang/Object") (0 : Int32) [] .null) (S_TraceEvent_NO_FIELDS : Sta Z Z.heap "com/example/wildebeest/wildebeest/core/TraceEvent" "NO_FIELDS" "[J" (.ref s_NF)) (S_Optional_EMPTY : Sta Z Z.heap "java/util/Optional" "EMPTY" "Ljava/util/Optional;" (.ref s_OE)) (OE_s_OE : Exa Z Z.heap s_OE "java/util/Optional") (OF_s_OE_value : Fld Z Z.heap s_OE "java/util/Optional" "value" "Ljava/lang/Object;" .null) (S_OptionalLong_EMPTY : Sta Z Z.heap "java/util/OptionalLong" "EMPTY" "Ljava/util/OptionalLong;" (.ref s_OL)) (OE_s_OL : Exa Z Z.heap s_OL "java/util/OptionalLong") (OF_s_OL_isPresent : Fld Z Z.heap s_OL "java/util/OptionalLong" "isPresent" "Z" (.int (0 : Int32))) (S_EventKind_SEND : Sta Z Z.heap "com/example/wildebeest/wildebeest/core/EventKind" "SEND" "Lcom/example/wildebeest/wildebeest/core/EventKind;" (.ref s_SEND)) (S_EventKind_RECEIVE : Sta Z Z.heap "com/example/wildebeest/wildebeest/core/EventKind" "RECEIVE" "Lcom/example/wildebeest/wildebeest/core/EventKind;" (.ref s_RECEIVE)) (S_VectorTime_ZERO : Sta Z Z.heap "com/example/wildebeest/wildebeest/core/VectorTime" "ZERO" "[J" (.ref s_ZV)) (OE_s_ZV : Exa Z Z.heap s_ZV "[J") (OV_s_ZV : Arv Z Z.heap s_ZV kz .long (32 : Int32) vz (.long (0 : Int64))) :
    MetFree l x (head1 (Jvm.Cond.code x code maxLocals ret :: ws) room_1) (fun aa_ U_ => aa_ = #[(.int pq), (.int pk), (.long je1), (.long je2)] ∧ Z.Warmed39 U_.vm ∧ U_.heap = h0) (fun _ _ _ _ _ => True) (fun _ U_ o_ U_' => ∃ v_ L_, o_ = .returned v_ ∧ Q_law Z pq pk je1 je2 s_OL s_OE s_SEND s_RECEIVE s_REQUEST s_ENTER s_EXIT s_CRASH fl el kl s_NF s_ZV kz vz h0 n0 v_ U_'.heap L_ ∧ FrameEnd U_ o_ U_' L_ room_1.cells room_1.slots) := by
  refine MetFree.of_bodySF (plainFor_of_name pn_CausalityCheckCheckedPinLaw) hisR ?_
  intro p e s m args below meth c s₁ Bd hml0 hP hK
  obtain ⟨rfl, hZ, hh⟩ := hP
  have hx := Bd.exec
  have hby := Bd.bytes
  have hml : c.maxLocals = 14 := hml0
  have hown : s.vm.findClass "com/example/wildebeest/wildebeest/core/CausalityCheckCheckedPinLaw" = some m.cls := findClass_of_methodNamed Bd.named
  have hnm := (name_of_methodNamed Bd.named Bd.method).1
  have X0 : Stand p l e room_1 s m #[(.int pq), (.int pk), (.long je1), (.long je2)] below meth c s₁ [] 0 0 := Stand.of_body Bd
  have e0 : s₁.heap = h0 := by rw [← hh, Bd.state]; rfl
  have N0 := Fr.nil n0
  have pre0 : ∀ z_, Steps p.tables e below (s₁.setTop (mkF m 0 #[.val (.int pq), .val (.int pk), .val (.long je1), .second, .val (.long je2), .second, .unset, .unset, .unset, .unset, .unset, .unset, .unset, .unset] [])) z_ → Steps p.tables e below (s₁.setTop (entryFrame m #[(.int pq), (.int pk), (.long je1), (.long je2)] maxLocals)) z_ := fun z_ k_ => castTop (ef_law m pq pk je1 je2) k_
  have r0 : own_R p e below s₁ (mkF m 0 #[.val (.int pq), .val (.int pk), .val (.long je1), .second, .val (.long je2), .second, .unset, .unset, .unset, .unset, .unset, .unset, .unset, .unset] []) s₁ (mkF m 0 #[.val (.int pq), .val (.int pk), .val (.long je1), .second, .val (.long je2), .second, .unset, .unset, .unset, .unset, .unset, .unset, .unset, .unset] []) := own_R.refl
  have r1 : own_R p e below _ _ s₁ (mkF m 1 #[.val (.int pq), .val (.int pk), .val (.long je1), .second, .val (.long je2), .second, .unset, .unset, .unset, .unset, .unset, .unset, .unset, .unset] [(.int (2 : Int32))]) := r0.trans fun z_ kt => by
    refine XS.iconst X0.here hx rfl (hb hby at_0) ?_
    exact kt
  obtain ⟨T2, h2, k2, X2, e2, E2, A2, st2⟩ := newP X0 hx hZ (hw _ (own_g (i := 0) rfl)) e0 (g := (mkF m 1 #[.val (.int pq), .val (.int pk), .val (.long je1), .second, .val (.long je2), .second, .unset, .unset, .unset, .unset, .unset, .unset, .unset, .unset] [(.int (2 : Int32))])) rfl (hb hby at_1) rfl (by decide) (cap := 2) (by decide) (by decide) (by decide) (by decide)
  obtain ⟨b2, g2⟩ : ∃ z, z = h0.size := ⟨_, rfl⟩
  rw [← g2] at A2 st2
  have r2 : own_R p e below _ _ T2 (mkF m 3 #[.val (.int pq), .val (.int pk), .val (.long je1), .second, .val (.long je2), .second, .unset, .unset, .unset, .unset, .unset, .unset, .unset, .unset] [(.ref b2)]) := r1.trans fun z_ kt => st2 _ kt
  have g_b2 : n0 ≤ b2 := Nat.le_trans (own_old_size O0) (Nat.le_of_eq g2.symm)
  have O2 := O0.ext E2
  have V2 : Arv Z h2 b2 k2 .long (2 : Int32) [(.long (0 : Int64)), (.long (0 : Int64))] (.long (0 : Int64)) := (Arv.new A2 (by decide)).pad (pad_rep [] (.long (0 : Int64)) 2)
  obtain ⟨cl3, Ar3, q3, S3, M3, H3, G3⟩ := id V2
  have hin3 : ¬ ((0 : Int32) < 0 ∨ cl3.slots.size ≤ ((0 : Int32)).toNatClampNeg) := inb_of S3 ⟨by decide, by decide⟩
  have r4 : own_R p e below _ _ T2 (mkF m 10 #[.val (.int pq), .val (.int pk), .val (.long je1), .second, .val (.long je2), .second, .unset, .unset, .unset, .unset, .unset, .unset, .unset, .unset] [(.long (je1 &&& (9223372036854775807 : Int64))), (.int (0 : Int32)), (.ref b2), (.ref b2)]) := r2.trans fun z_ kt => by
    refine XS.dup X2.here hx rfl (hb hby at_3) rfl rfl ?_
    refine XS.iconst X2.here hx rfl (hb hby at_4) ?_
    refine XS.lloadN X2.here hx rfl (hb hby at_5) rfl ?_
    refine X2.ldc2Long hx hown (mvT hZ (hw _ (own_g (i := 1) rfl))) (g := (mkF m 6 #[.val (.int pq), .val (.int pk), .val (.long je1), .second, .val (.long je2), .second, .unset, .unset, .unset, .unset, .unset, .unset, .unset, .unset] [(.long je1), (.int (0 : Int32)), (.ref b2), (.ref b2)])) rfl (hb hby at_6) _ ?_
    refine XS.land X2.here hx rfl (hb hby at_9) rfl ?_
    exact kt
  obtain ⟨T5, h5, X5, e5, W5, st5⟩ := stJ X2 hx hZ e2 Ar3 (j := (0 : Int32)) hin3 (g := (mkF m 10 #[.val (.int pq), .val (.int pk), .val (.long je1), .second, .val (.long je2), .second, .unset, .unset, .unset, .unset, .unset, .unset, .unset, .unset] [(.long (je1 &&& (9223372036854775807 : Int64))), (.int (0 : Int32)), (.ref b2), (.ref b2)])) rfl rfl (hb hby at_10)
  have r5 : own_R p e below _ _ T5 (mkF m 11 #[.val (.int pq), .val (.int pk), .val (.long je1), .second, .val (.long je2), .second, .unset, .unset, .unset, .unset, .unset, .unset, .unset, .unset] [(.ref b2)]) := r4.trans fun z_ kt => st5 _ kt
  have N5 := Fr.snoc X5 N0 g_b2
  have O5 := O2.wr W5 g_b2
  have V5 : Arv Z h5 b2 k2 .long (2 : Int32) [(.long (je1 &&& (9223372036854775807 : Int64))), (.long (0 : Int64))] (.long (0 : Int64)) := Arv.set Ar3 q3 S3 M3 H3 G3 rfl W5 0 rfl (Nat.le_of_ble_eq_true rfl)
  obtain ⟨cl6, Ar6, q6, S6, M6, H6, G6⟩ := id V5
  have hin6 : ¬ ((1 : Int32) < 0 ∨ cl6.slots.size ≤ ((1 : Int32)).toNatClampNeg) := inb_of S6 ⟨by decide, by decide⟩
  have r7 : own_R p e below _ _ T5 (mkF m 19 #[.val (.int pq), .val (.int pk), .val (.long je1), .second, .val (.long je2), .second, .unset, .unset, .unset, .unset, .unset, .unset, .unset, .unset] [(.long (je2 &&& (9223372036854775807 : Int64))), (.int (1 : Int32)), (.ref b2), (.ref b2)]) := r5.trans fun z_ kt => by
    refine XS.dup X5.here hx rfl (hb hby at_11) rfl rfl ?_
    refine XS.iconst X5.here hx rfl (hb hby at_12) ?_
    refine XS.lload X5.here hx rfl (hb hby at_13) rfl ?_
    refine X5.ldc2Long hx hown (mvT hZ (hw _ (own_g (i := 1) rfl))) (g := (mkF m 15 #[.val (.int pq), .val (.int pk), .val (.long je1), .second, .val (.long je2), .second, .unset, .unset, .unset, .unset, .unset, .unset, .unset, .unset] [(.long je2), (.int (1 : Int32)), (.ref b2), (.ref b2)])) rfl (hb hby at_15) _ ?_
    refine XS.land X5.here hx rfl (hb hby at_18) rfl ?_
    exact kt
  obtain ⟨T8, h8, X8, e8, W8, st8⟩ := stJ X5 hx hZ e5 Ar6 (j := (1 : Int32)) hin6 (g := (mkF m 19 #[.val (.int pq), .val (.int pk), .val (.long je1), .second, .val (.long je2), .second, .unset, .unset, .unset, .unset, .unset, .unset, .unset, .unset] [(.long (je2 &&& (9223372036854775807 : Int64))), (.int (1 : Int32)), (.ref b2), (.ref b2)])) rfl rfl (hb hby at_19)
  have r8 : own_R p e below _ _ T8 (mkF m 20 #[.val (.int pq), .val (.int pk), .val (.long je1), .second, .val (.long je2), .second, .unset, .unset, .unset, .unset, .unset, .unset, .unset, .unset] [(.ref b2)]) := r7.trans fun z_ kt => st8 _ kt
  have N8 := Fr.snoc X8 N5 g_b2
  have O8 := O5.wr W8 g_b2
  have V8 : Arv Z h8 b2 k2 .long (2 : Int32) [(.long (je1 &&& (9223372036854775807 : Int64))), (.long (je2 &&& (9223372036854775807 : Int64)))] (.long (0 : Int64)) := Arv.set Ar6 q6 S6 M6 H6 G6 rfl W8 1 rfl (Nat.le_of_ble_eq_true rfl)
  obtain ⟨_, _, ⟨T9, L9, cc9, n9⟩, -, X9, ⟨Lc9, hQ9, l9, y9, z9⟩, st9⟩ := Jvm.LawKit.callS X8 hx (y := (⟨"com/example/wildebeest/wildebeest/core/VectorTime", "of", "([J)Lcom/example/wildebeest/wildebeest/core/VectorTime;"⟩ : MethodName)) hown (mvT hZ (hw _ (own_g (i := 2) rfl))) (mvT hZ (hw _ (own_g (i := 3) rfl))) (mvT hZ (hw _ (own_g (i := 4) rfl))) (mvT hZ (hw _ (own_g (i := 5) rfl))) (by decide) (backOf (W := 0) (rm_of l Z a0 hw [] (b2) (k2) ((je1 &&& (9223372036854775807 : Int64))) ((je2 &&& (9223372036854775807 : Int64))) (s_ZV) (kz) (vz) h8 n0 O8 (S_VectorTime_ZERO) (OE_s_ZV) (OV_s_ZV) (V8) (own_mask_nn _) (own_mask_nn _)) hZ (hw _ (own_g (i := 5) rfl)) (hw _ (own_g (i := 4) rfl)) (by decide) (by decide)) (g := (mkF m 20 #[.val (.int pq), .val (.int pk), .val (.long je1), .second, .val (.long je2), .second, .unset, .unset, .unset, .unset, .unset, .unset, .unset, .unset] [(.ref b2)])) rfl (by rw [hml]; rfl) (argsL := [(.ref b2)]) (rest := []) (lenOf pd_19 rfl) rfl (by show 2 * 0 + _ ≤ _; exact Nat.le_of_eq rfl) (hb hby at_20) (fun _ _ => ⟨rfl, e8, (by decide : 1 + 3 ≤ _), (by decide : 2 + 37 ≤ _)⟩)
  dsimp only [Pt.U, Pt.locs, Pt.cells, Pt.slots] at X9 l9 y9 z9 st9 hQ9
  subst l9 y9 z9
  obtain ⟨h9, e9⟩ : ∃ z, T9.heap = z := ⟨_, rfl⟩
  rw [e9] at hQ9
  obtain ⟨v_w, bl_w, kb_w, en_w, ke_w, vse_w, rfl, Nq9, Kq9, p9_0, p9_1, p9_2, p9_3, p9_4, p9_5, p9_6, p9_7, p9_8⟩ := hQ9
  have N9 := Fr.app N8 Nq9
  have r9 : own_R p e below _ _ T9 (mkF m 23 #[.val (.int pq), .val (.int pk), .val (.long je1), .second, .val (.long je2), .second, .unset, .unset, .unset, .unset, .unset, .unset, .unset, .unset] [(.ref v_w)]) := r8.trans fun z_ kt => st9 _ kt
  have ne_b2_v_w : b2 ≠ v_w := Nat.ne_of_lt (Nat.lt_of_lt_of_le V8.lt p9_0)
  have g_v_w : n0 ≤ v_w := Nat.le_trans (own_old_size O8) p9_0
  have ne_b2_bl_w : b2 ≠ bl_w := Nat.ne_of_lt (Nat.lt_of_lt_of_le V8.lt p9_1)
  have g_bl_w : n0 ≤ bl_w := Nat.le_trans (own_old_size O8) p9_1
  have O9 := O8.keep Kq9 all0
  have ne_v_w_bl_w : v_w ≠ bl_w := (own_ne_arv p9_2 (hw _ (own_g (i := 15) rfl)) p9_7)
  have ne_v_w_en_w : v_w ≠ en_w := (own_ne_arv p9_2 (hw _ (own_g (i := 15) rfl)) p9_8)
  have r10 : own_R p e below _ _ T9 (mkF m 25 #[.val (.int pq), .val (.int pk), .val (.long je1), .second, .val (.long je2), .second, .val (.ref v_w), .unset, .unset, .unset, .unset, .unset, .unset, .unset] []) := r9.trans fun z_ kt => by
    refine XS.astore X9.here hx rfl (hb hby at_23) rfl rfl (l' := #[.val (.int pq), .val (.int pk), .val (.long je1), .second, .val (.long je2), .second, .val (.ref v_w), .unset, .unset, .unset, .unset, .unset, .unset, .unset]) rfl ?_
    exact kt
  obtain ⟨T11, h11, X11, e11, E11, A11, D11, -, st11⟩ := newO X9 hx hZ hown (hw _ (own_g (i := 30) rfl)) (hw _ (own_g (i := 31) rfl)) (hw _ (own_g (i := 32) rfl)) e9 (g := (mkF m 25 #[.val (.int pq), .val (.int pk), .val (.long je1), .second, .val (.long je2), .second, .val (.ref v_w), .unset, .unset, .unset, .unset, .unset, .unset, .unset] [])) rfl (hb hby at_25) (by decide) (by decide)
  obtain ⟨b11, g11⟩ : ∃ z, z = h9.size := ⟨_, rfl⟩
  rw [← g11] at A11 D11 st11
  have r11 : own_R p e below _ _ T11 (mkF m 28 #[.val (.int pq), .val (.int pk), .val (.long je1), .second, .val (.long je2), .second, .val (.ref v_w), .unset, .unset, .unset, .unset, .unset, .unset, .unset] [(.ref b11)]) := r10.trans fun z_ kt => st11 _ kt
  have f12 := (V8.keep Kq9 nin0)
  have ne_b2_b11 : b2 ≠ b11 := Nat.ne_of_lt (Nat.lt_of_lt_of_le f12.lt (Nat.le_of_eq g11.symm))
  have ne_v_w_b11 : v_w ≠ b11 := Nat.ne_of_lt (Nat.lt_of_lt_of_le p9_2.lt (Nat.le_of_eq g11.symm))
  have ne_bl_w_b11 : bl_w ≠ b11 := Nat.ne_of_lt (Nat.lt_of_lt_of_le p9_7.lt (Nat.le_of_eq g11.symm))
  have ne_en_w_b11 : en_w ≠ b11 := Nat.ne_of_lt (Nat.lt_of_lt_of_le p9_8.lt (Nat.le_of_eq g11.symm))
  have g_b11 : n0 ≤ b11 := Nat.le_trans (own_old_size O9) (Nat.le_of_eq g11.symm)
  have O11 := O9.ext E11
  have F11_54 := D11 (Or.inr (hw _ (own_g (i := 54) rfl))) (ty := (.object "java/util/Map")) (by decide)
  have F11_56 := D11 (Or.inr (hw _ (own_g (i := 56) rfl))) (ty := (.object "java/util/Map")) (by decide)
  have F11_58 := D11 (Or.inl (hw _ (own_g (i := 58) rfl))) (ty := (.array .long)) (by decide)
  have F11_65 := D11 (Or.inl (hw _ (own_g (i := 65) rfl))) (ty := .long) (by decide)
  have F11_194 := D11 (Or.inl (hw _ (own_g (i := 194) rfl))) (ty := .long) (by decide)
  have F11_228 := D11 (Or.inl (hw _ (own_g (i := 228) rfl))) (ty := .long) (by decide)
  have r13 : own_R p e below _ _ T11 (mkF m 29 #[.val (.int pq), .val (.int pk), .val (.long je1), .second, .val (.long je2), .second, .val (.ref v_w), .unset, .unset, .unset, .unset, .unset, .unset, .unset] [(.ref b11), (.ref b11)]) := r11.trans fun z_ kt => by
    refine XS.dup X11.here hx rfl (hb hby at_28) rfl rfl ?_
    exact kt
  obtain ⟨_, _, ⟨T14, L14, cc14, n14⟩, -, X14, ⟨Lc14, hQ14, l14, y14, z14⟩, st14⟩ := X11.specialBack hx (y := (⟨"com/example/wildebeest/wildebeest/core/CausalityCheck", "<init>", "()V"⟩ : MethodName)) rfl hown (mvT hZ (hw _ (own_g (i := 33) rfl))) (mvT hZ (hw _ (own_g (i := 34) rfl))) (mvT hZ (hw _ (own_g (i := 35) rfl))) (by decide) (backOf (W := 1) (rm_ccInit l Z a0 hw [] (b11) ((0 : Int64)) ((0 : Int64)) ((0 : Int64)) (.null) (.null) (.null) h11 n0 O11 (A11) (g_b11) (F11_65) (F11_194) (F11_228) (F11_54) (F11_56) (F11_58)) hZ (hw _ (own_g (i := 35) rfl)) (hw _ (own_g (i := 32) rfl)) (by decide) (by decide)) (g := (mkF m 29 #[.val (.int pq), .val (.int pk), .val (.long je1), .second, .val (.long je2), .second, .val (.ref v_w), .unset, .unset, .unset, .unset, .unset, .unset, .unset] [(.ref b11), (.ref b11)])) rfl (by rw [hml]; rfl) (Steps.refl _) (a := b11) (argsL := []) (rest := [(.ref b11)]) (lenOf pd_2 rfl) rfl (by show 2 * 0 + _ ≤ _; exact Nat.le_of_eq rfl) (hb hby at_29) (fun _ _ => ⟨rfl, e11, (by decide : 5 + 3 ≤ _), (by decide : 45 + 16 ≤ _)⟩)
  dsimp only [Pt.U, Pt.locs, Pt.cells, Pt.slots] at X14 l14 y14 z14 st14 hQ14
  subst l14 y14 z14
  obtain ⟨h14, e14⟩ : ∃ z, T14.heap = z := ⟨_, rfl⟩
  rw [e14] at hQ14
  obtain ⟨ev_14, ke_14, rfl, Nq14, Kq14, p14_0, p14_1, p14_2, p14_3, p14_4, p14_5⟩ := hQ14
  have N14 := Fr.app N9 Nq14
  have r14 : own_R p e below _ _ T14 (mkF m 32 #[.val (.int pq), .val (.int pk), .val (.long je1), .second, .val (.long je2), .second, .val (.ref v_w), .unset, .unset, .unset, .unset, .unset, .unset, .unset] [(.ref b11)]) := r13.trans fun z_ kt => st14.trans kt
  have f15 := (f12.ext E11)
  have ne_b2_ev_14 : b2 ≠ ev_14 := Nat.ne_of_lt (Nat.lt_of_lt_of_le f15.lt p14_0)
  have f16 := (p9_2.ext E11)
  have ne_v_w_ev_14 : v_w ≠ ev_14 := Nat.ne_of_lt (Nat.lt_of_lt_of_le f16.lt p14_0)
  have f17 := (p9_7.ext E11)
  have ne_bl_w_ev_14 : bl_w ≠ ev_14 := Nat.ne_of_lt (Nat.lt_of_lt_of_le f17.lt p14_0)
  have f18 := (p9_8.ext E11)
  have ne_en_w_ev_14 : en_w ≠ ev_14 := Nat.ne_of_lt (Nat.lt_of_lt_of_le f18.lt p14_0)
  have ne_b11_ev_14 : b11 ≠ ev_14 := Nat.ne_of_lt (Nat.lt_of_lt_of_le A11.lt p14_0)
  have g_ev_14 : n0 ≤ ev_14 := Nat.le_trans (own_old_size O11) p14_0
  have O14 := O11.keep Kq14 (allS g_b11 all0)
  have r19 : own_R p e below _ _ T14 (mkF m 39 #[.val (.int pq), .val (.int pk), .val (.long je1), .second, .val (.long je2), .second, .val (.ref v_w), .val (.ref b11), .val (.int (pq &&& (3 : Int32))), .unset, .unset, .unset, .unset, .unset] []) := r14.trans fun z_ kt => by
    refine XS.astore X14.here hx rfl (hb hby at_32) rfl rfl (l' := #[.val (.int pq), .val (.int pk), .val (.long je1), .second, .val (.long je2), .second, .val (.ref v_w), .val (.ref b11), .unset, .unset, .unset, .unset, .unset, .unset]) rfl ?_
    refine XS.iloadN X14.here hx rfl (hb hby at_34) rfl ?_
    refine XS.iconst X14.here hx rfl (hb hby at_35) ?_
    refine XS.iand X14.here hx rfl (hb hby at_36) rfl ?_
    refine XS.istore X14.here hx rfl (hb hby at_37) rfl (l' := #[.val (.int pq), .val (.int pk), .val (.long je1), .second, .val (.long je2), .second, .val (.ref v_w), .val (.ref b11), .val (.int (pq &&& (3 : Int32))), .unset, .unset, .unset, .unset, .unset]) rfl ?_
    exact kt
  obtain ⟨k, h_k⟩ : ∃ z, z = (pq &&& (3 : Int32)) := ⟨_, rfl⟩
  rw [← h_k] at r19
  rcases own_split3 h_k with rfl | rfl | rfl | rfl
  · skip
    have r20 : own_R p e below _ _ T14 (mkF m 44 #[.val (.int pq), .val (.int pk), .val (.long je1), .second, .val (.long je2), .second, .val (.ref v_w), .val (.ref b11), .val (.int (0 : Int32)), .unset, .unset, .unset, .unset, .unset] [(.int (((pq.toUInt32 >>> ((2 : Int32) &&& 31).toUInt32).toInt32) &&& (1 : Int32)))]) := r19.trans fun z_ kt => by
      refine XS.iloadN X14.here hx rfl (hb hby at_39) rfl ?_
      refine XS.iconst X14.here hx rfl (hb hby at_40) ?_
      refine XS.iushr X14.here hx rfl (hb hby at_41) rfl ?_
      refine XS.iconst X14.here hx rfl (hb hby at_42) ?_
      refine XS.iand X14.here hx rfl (hb hby at_43) rfl ?_
      exact kt
    obtain ⟨s1, h_s1, r21⟩ : ∃ s1 : Int32, (s1 = (0 : Int32) ∨ s1 = (1 : Int32)) ∧ own_R p e below s₁ (mkF m 0 #[.val (.int pq), .val (.int pk), .val (.long je1), .second, .val (.long je2), .second, .unset, .unset, .unset, .unset, .unset, .unset, .unset, .unset] []) T14 (mkF m 52 #[.val (.int pq), .val (.int pk), .val (.long je1), .second, .val (.long je2), .second, .val (.ref v_w), .val (.ref b11), .val (.int (0 : Int32)), .unset, .unset, .unset, .unset, .unset] [(.int s1)]) := by
      by_cases hc44_22 : (((pq.toUInt32 >>> ((2 : Int32) &&& 31).toUInt32).toInt32) &&& (1 : Int32)) = (0 : Int32)
      · skip
        have r23 : own_R p e below _ _ T14 (mkF m 52 #[.val (.int pq), .val (.int pk), .val (.long je1), .second, .val (.long je2), .second, .val (.ref v_w), .val (.ref b11), .val (.int (0 : Int32)), .unset, .unset, .unset, .unset, .unset] [(.int (0 : Int32))]) := r20.trans fun z_ kt => by
          refine XS.ifYes X14.here hx rfl (pc0 := 44) (pc' := 51) rfl (hb hby at_44) rfl ((if0 _ _).trans (teq (hc44_22 : (((pq.toUInt32 >>> ((2 : Int32) &&& 31).toUInt32).toInt32) &&& (1 : Int32)) = (0 : Int32))).1) (by decide) (by decide) ?_
          refine XS.iconst X14.here hx rfl (hb hby at_51) ?_
          exact kt
        exact ⟨(0 : Int32), Or.inl rfl, r23⟩
      · skip
        have r24 : own_R p e below _ _ T14 (mkF m 52 #[.val (.int pq), .val (.int pk), .val (.long je1), .second, .val (.long je2), .second, .val (.ref v_w), .val (.ref b11), .val (.int (0 : Int32)), .unset, .unset, .unset, .unset, .unset] [(.int (1 : Int32))]) := r20.trans fun z_ kt => by
          refine XS.ifNo X14.here hx rfl (hb hby at_44) rfl ((if0 _ _).trans (feq (hc44_22 : ¬ ((((pq.toUInt32 >>> ((2 : Int32) &&& 31).toUInt32).toInt32) &&& (1 : Int32)) = (0 : Int32)))).1) ?_
          refine XS.iconst X14.here hx rfl (hb hby at_47) ?_
          refine XS.goto X14.here hx rfl (pc0 := 48) (pc' := 52) rfl (hb hby at_48) (by decide) (by decide) ?_
          exact kt
        exact ⟨(1 : Int32), Or.inr rfl, r24⟩
    have r25 : own_R p e below _ _ T14 (mkF m 59 #[.val (.int pq), .val (.int pk), .val (.long je1), .second, .val (.long je2), .second, .val (.ref v_w), .val (.ref b11), .val (.int (0 : Int32)), .val (.int s1), .unset, .unset, .unset, .unset] [(.int (((pq.toUInt32 >>> ((3 : Int32) &&& 31).toUInt32).toInt32) &&& (1 : Int32)))]) := r21.trans fun z_ kt => by
      refine XS.istore X14.here hx rfl (hb hby at_52) rfl (l' := #[.val (.int pq), .val (.int pk), .val (.long je1), .second, .val (.long je2), .second, .val (.ref v_w), .val (.ref b11), .val (.int (0 : Int32)), .val (.int s1), .unset, .unset, .unset, .unset]) rfl ?_
      refine XS.iloadN X14.here hx rfl (hb hby at_54) rfl ?_
      refine XS.iconst X14.here hx rfl (hb hby at_55) ?_
      refine XS.iushr X14.here hx rfl (hb hby at_56) rfl ?_
      refine XS.iconst X14.here hx rfl (hb hby at_57) ?_
      refine XS.iand X14.here hx rfl (hb hby at_58) rfl ?_
      exact kt
    obtain ⟨s2, h_s2, r26⟩ : ∃ s2 : Int32, (s2 = (0 : Int32) ∨ s2 = (1 : Int32)) ∧ own_R p e below s₁ (mkF m 0 #[.val (.int pq), .val (.int pk), .val (.long je1), .second, .val (.long je2), .second, .unset, .unset, .unset, .unset, .unset, .unset, .unset, .unset] []) T14 (mkF m 67 #[.val (.int pq), .val (.int pk), .val (.long je1), .second, .val (.long je2), .second, .val (.ref v_w), .val (.ref b11), .val (.int (0 : Int32)), .val (.int s1), .unset, .unset, .unset, .unset] [(.int s2)]) := by
      by_cases hc59_27 : (((pq.toUInt32 >>> ((3 : Int32) &&& 31).toUInt32).toInt32) &&& (1 : Int32)) = (0 : Int32)
      · skip
        have r28 : own_R p e below _ _ T14 (mkF m 67 #[.val (.int pq), .val (.int pk), .val (.long je1), .second, .val (.long je2), .second, .val (.ref v_w), .val (.ref b11), .val (.int (0 : Int32)), .val (.int s1), .unset, .unset, .unset, .unset] [(.int (0 : Int32))]) := r25.trans fun z_ kt => by
          refine XS.ifYes X14.here hx rfl (pc0 := 59) (pc' := 66) rfl (hb hby at_59) rfl ((if0 _ _).trans (teq (hc59_27 : (((pq.toUInt32 >>> ((3 : Int32) &&& 31).toUInt32).toInt32) &&& (1 : Int32)) = (0 : Int32))).1) (by decide) (by decide) ?_
          refine XS.iconst X14.here hx rfl (hb hby at_66) ?_
          exact kt
        exact ⟨(0 : Int32), Or.inl rfl, r28⟩
      · skip
        have r29 : own_R p e below _ _ T14 (mkF m 67 #[.val (.int pq), .val (.int pk), .val (.long je1), .second, .val (.long je2), .second, .val (.ref v_w), .val (.ref b11), .val (.int (0 : Int32)), .val (.int s1), .unset, .unset, .unset, .unset] [(.int (1 : Int32))]) := r25.trans fun z_ kt => by
          refine XS.ifNo X14.here hx rfl (hb hby at_59) rfl ((if0 _ _).trans (feq (hc59_27 : ¬ ((((pq.toUInt32 >>> ((3 : Int32) &&& 31).toUInt32).toInt32) &&& (1 : Int32)) = (0 : Int32)))).1) ?_
          refine XS.iconst X14.here hx rfl (hb hby at_62) ?_
          refine XS.goto X14.here hx rfl (pc0 := 63) (pc' := 67) rfl (hb hby at_63) (by decide) (by decide) ?_
          exact kt
        exact ⟨(1 : Int32), Or.inr rfl, r29⟩
    have r30 : own_R p e below _ _ T14 (mkF m 74 #[.val (.int pq), .val (.int pk), .val (.long je1), .second, .val (.long je2), .second, .val (.ref v_w), .val (.ref b11), .val (.int (0 : Int32)), .val (.int s1), .val (.int s2), .unset, .unset, .unset] [(.int (((pq.toUInt32 >>> ((4 : Int32) &&& 31).toUInt32).toInt32) &&& (1 : Int32)))]) := r26.trans fun z_ kt => by
      refine XS.istore X14.here hx rfl (hb hby at_67) rfl (l' := #[.val (.int pq), .val (.int pk), .val (.long je1), .second, .val (.long je2), .second, .val (.ref v_w), .val (.ref b11), .val (.int (0 : Int32)), .val (.int s1), .val (.int s2), .unset, .unset, .unset]) rfl ?_
      refine XS.iloadN X14.here hx rfl (hb hby at_69) rfl ?_
      refine XS.iconst X14.here hx rfl (hb hby at_70) ?_
      refine XS.iushr X14.here hx rfl (hb hby at_71) rfl ?_
      refine XS.iconst X14.here hx rfl (hb hby at_72) ?_
      refine XS.iand X14.here hx rfl (hb hby at_73) rfl ?_
      exact kt
    obtain ⟨s3, h_s3, r31⟩ : ∃ s3 : Int32, (s3 = (0 : Int32) ∨ s3 = (1 : Int32)) ∧ own_R p e below s₁ (mkF m 0 #[.val (.int pq), .val (.int pk), .val (.long je1), .second, .val (.long je2), .second, .unset, .unset, .unset, .unset, .unset, .unset, .unset, .unset] []) T14 (mkF m 82 #[.val (.int pq), .val (.int pk), .val (.long je1), .second, .val (.long je2), .second, .val (.ref v_w), .val (.ref b11), .val (.int (0 : Int32)), .val (.int s1), .val (.int s2), .unset, .unset, .unset] [(.int s3)]) := by
      by_cases hc74_32 : (((pq.toUInt32 >>> ((4 : Int32) &&& 31).toUInt32).toInt32) &&& (1 : Int32)) = (0 : Int32)
      · skip
        have r33 : own_R p e below _ _ T14 (mkF m 82 #[.val (.int pq), .val (.int pk), .val (.long je1), .second, .val (.long je2), .second, .val (.ref v_w), .val (.ref b11), .val (.int (0 : Int32)), .val (.int s1), .val (.int s2), .unset, .unset, .unset] [(.int (0 : Int32))]) := r30.trans fun z_ kt => by
          refine XS.ifYes X14.here hx rfl (pc0 := 74) (pc' := 81) rfl (hb hby at_74) rfl ((if0 _ _).trans (teq (hc74_32 : (((pq.toUInt32 >>> ((4 : Int32) &&& 31).toUInt32).toInt32) &&& (1 : Int32)) = (0 : Int32))).1) (by decide) (by decide) ?_
          refine XS.iconst X14.here hx rfl (hb hby at_81) ?_
          exact kt
        exact ⟨(0 : Int32), Or.inl rfl, r33⟩
      · skip
        have r34 : own_R p e below _ _ T14 (mkF m 82 #[.val (.int pq), .val (.int pk), .val (.long je1), .second, .val (.long je2), .second, .val (.ref v_w), .val (.ref b11), .val (.int (0 : Int32)), .val (.int s1), .val (.int s2), .unset, .unset, .unset] [(.int (1 : Int32))]) := r30.trans fun z_ kt => by
          refine XS.ifNo X14.here hx rfl (hb hby at_74) rfl ((if0 _ _).trans (feq (hc74_32 : ¬ ((((pq.toUInt32 >>> ((4 : Int32) &&& 31).toUInt32).toInt32) &&& (1 : Int32)) = (0 : Int32)))).1) ?_
          refine XS.iconst X14.here hx rfl (hb hby at_77) ?_
          refine XS.goto X14.here hx rfl (pc0 := 78) (pc' := 82) rfl (hb hby at_78) (by decide) (by decide) ?_
          exact kt
        exact ⟨(1 : Int32), Or.inr rfl, r34⟩
    have f35 := (A11.keep Kq14)
    have r36 : own_R p e below _ _ T14 (mkF m 86 #[.val (.int pq), .val (.int pk), .val (.long je1), .second, .val (.long je2), .second, .val (.ref v_w), .val (.ref b11), .val (.int (0 : Int32)), .val (.int s1), .val (.int s2), .val (.int s3), .unset, .unset] [(.ref b11)]) := r31.trans fun z_ kt => by
      refine XS.istore X14.here hx rfl (hb hby at_82) rfl (l' := #[.val (.int pq), .val (.int pk), .val (.long je1), .second, .val (.long je2), .second, .val (.ref v_w), .val (.ref b11), .val (.int (0 : Int32)), .val (.int s1), .val (.int s2), .val (.int s3), .unset, .unset]) rfl ?_
      refine XS.aload X14.here hx rfl (hb hby at_84) rfl rfl ?_
      exact kt
    obtain ⟨cq37, kq37, q37a, q37b, q37c⟩ := isOf hZ e14 f35
    obtain ⟨_, _, ⟨T37, L37, cc37, n37⟩, -, X37, ⟨Lc37, hQ37, l37, y37, z37⟩, st37⟩ := X14.virtualBack hx (y := (⟨"com/example/wildebeest/wildebeest/core/CausalityCheck", "checked", "()Z"⟩ : MethodName)) (z := (⟨"com/example/wildebeest/wildebeest/core/CausalityCheck", "checked", "()Z"⟩ : MethodName)) hown (mvT hZ (hw _ (own_g (i := 59) rfl))) (mvT hZ (hw _ (own_g (i := 60) rfl))) (notFace_of_selects (args := #[]) (mvT hZ (hw _ (own_g (i := 62) rfl)))) (mvT hZ (hw _ (own_g (i := 62) rfl))) (mvT hZ (hw _ (own_g (i := 61) rfl))) (by decide) (backOf (W := 0) (rm_checked l Z a0 hw [] (b11) ((0 : Int64)) ((0 : Int32)) h14 n0 O14 (p14_3) (Or.inr ⟨rfl, by decide⟩)) hZ (hw _ (own_g (i := 63) rfl)) (hw _ (own_g (i := 32) rfl)) (by decide) (by decide)) q37a q37c (g := (mkF m 86 #[.val (.int pq), .val (.int pk), .val (.long je1), .second, .val (.long je2), .second, .val (.ref v_w), .val (.ref b11), .val (.int (0 : Int32)), .val (.int s1), .val (.int s2), .val (.int s3), .unset, .unset] [(.ref b11)])) rfl (by rw [hml]; rfl) (Steps.refl _) (argsL := []) (rest := []) (lenOf pd_5 rfl) rfl (by show 2 * 0 + _ ≤ _; exact Nat.le_of_eq rfl) (hb hby at_86) (fun _ _ => ⟨rfl, e14, (by decide : 8 + 0 ≤ _), (by decide : 61 + 0 ≤ _)⟩)
    dsimp only [Pt.U, Pt.locs, Pt.cells, Pt.slots] at X37 l37 y37 z37 st37 hQ37
    subst l37 y37 z37
    obtain ⟨rfl, Nq37, eq37⟩ := hQ37
    have N37 := Fr.app N14 Nq37
    have r37 : own_R p e below _ _ T37 (mkF m 89 #[.val (.int pq), .val (.int pk), .val (.long je1), .second, .val (.long je2), .second, .val (.ref v_w), .val (.ref b11), .val (.int (0 : Int32)), .val (.int s1), .val (.int s2), .val (.int s3), .unset, .unset] [(.int (0 : Int32))]) := r36.trans fun z_ kt => st37.trans kt
    have e37 : T37.heap = h14 := eq37
    have r38 : own_R p e below _ _ T37 (mkF m 280 #[.val (.int pq), .val (.int pk), .val (.long je1), .second, .val (.long je2), .second, .val (.ref v_w), .val (.ref b11), .val (.int (0 : Int32)), .val (.int s1), .val (.int s2), .val (.int s3), .val (.int (1 : Int32)), .val (.int (0 : Int32))] [(.int (1 : Int32))]) := r37.trans fun z_ kt => by
      refine XS.ifNo X37.here hx rfl (hb hby at_89) rfl ((if0 _ _).trans (teq (by decide : (0 : Int32) = (0 : Int32))).2) ?_
      refine XS.iconst X37.here hx rfl (hb hby at_92) ?_
      refine XS.goto X37.here hx rfl (pc0 := 93) (pc' := 97) rfl (hb hby at_93) (by decide) (by decide) ?_
      refine XS.istore X37.here hx rfl (hb hby at_97) rfl (l' := #[.val (.int pq), .val (.int pk), .val (.long je1), .second, .val (.long je2), .second, .val (.ref v_w), .val (.ref b11), .val (.int (0 : Int32)), .val (.int s1), .val (.int s2), .val (.int s3), .val (.int (1 : Int32)), .unset]) rfl ?_
      refine XS.iconst X37.here hx rfl (hb hby at_99) ?_
      refine XS.istore X37.here hx rfl (hb hby at_100) rfl (l' := #[.val (.int pq), .val (.int pk), .val (.long je1), .second, .val (.long je2), .second, .val (.ref v_w), .val (.ref b11), .val (.int (0 : Int32)), .val (.int s1), .val (.int s2), .val (.int s3), .val (.int (1 : Int32)), .val (.int (0 : Int32))]) rfl ?_
      refine XS.iload X37.here hx rfl (hb hby at_102) rfl ?_
      refine XS.iconst X37.here hx rfl (hb hby at_104) ?_
      refine XS.icmpYes X37.here hx rfl (pc0 := 105) (pc' := 150) rfl (hb hby at_105) rfl (tlt (by decide : (0 : Int32) < (1 : Int32))).1 (by decide) (by decide) ?_
      refine XS.iload X37.here hx rfl (hb hby at_150) rfl ?_
      refine XS.iconst X37.here hx rfl (hb hby at_152) ?_
      refine XS.icmpYes X37.here hx rfl (pc0 := 153) (pc' := 214) rfl (hb hby at_153) rfl (tlt (by decide : (0 : Int32) < (2 : Int32))).1 (by decide) (by decide) ?_
      refine XS.iload X37.here hx rfl (hb hby at_214) rfl ?_
      refine XS.iconst X37.here hx rfl (hb hby at_216) ?_
      refine XS.icmpYes X37.here hx rfl (pc0 := 217) (pc' := 278) rfl (hb hby at_217) rfl (tlt (by decide : (0 : Int32) < (3 : Int32))).1 (by decide) (by decide) ?_
      refine XS.iload X37.here hx rfl (hb hby at_278) rfl ?_
      exact kt
    obtain ⟨fs_, hr_, hrun_, hended_, hW_, hsame_⟩ := X37.leave (v := some (.int (1 : Int32))) (fun h => by rw [Bd.returns] at h; cases h)
    refine ⟨_, _, pre0 _ (r38 _ ?_), hrun_, hended_, _, _, rfl, ?_, ⟨_, rfl⟩, hW_, hsame_.mono (by decide) (by decide)⟩
    · exact retN X37 hx (t := .boolean) Bd.returns (by simp) (hb hby at_280) hr_
    · show Q_law Z pq pk je1 je2 s_OL s_OE s_SEND s_RECEIVE s_REQUEST s_ENTER s_EXIT s_CRASH fl el kl s_NF s_ZV kz vz h0 n0 _ T37.heap _
      rw [e37]
      exact ⟨rfl, N37⟩
  · skip
    have r39 : own_R p e below _ _ T14 (mkF m 44 #[.val (.int pq), .val (.int pk), .val (.long je1), .second, .val (.long je2), .second, .val (.ref v_w), .val (.ref b11), .val (.int (1 : Int32)), .unset, .unset, .unset, .unset, .unset] [(.int (((pq.toUInt32 >>> ((2 : Int32) &&& 31).toUInt32).toInt32) &&& (1 : Int32)))]) := r19.trans fun z_ kt => by
      refine XS.iloadN X14.here hx rfl (hb hby at_39) rfl ?_
      refine XS.iconst X14.here hx rfl (hb hby at_40) ?_
      refine XS.iushr X14.here hx rfl (hb hby at_41) rfl ?_
      refine XS.iconst X14.here hx rfl (hb hby at_42) ?_
      refine XS.iand X14.here hx rfl (hb hby at_43) rfl ?_
      exact kt
    obtain ⟨s1, h_s1, r40⟩ : ∃ s1 : Int32, (s1 = (0 : Int32) ∨ s1 = (1 : Int32)) ∧ own_R p e below s₁ (mkF m 0 #[.val (.int pq), .val (.int pk), .val (.long je1), .second, .val (.long je2), .second, .unset, .unset, .unset, .unset, .unset, .unset, .unset, .unset] []) T14 (mkF m 52 #[.val (.int pq), .val (.int pk), .val (.long je1), .second, .val (.long je2), .second, .val (.ref v_w), .val (.ref b11), .val (.int (1 : Int32)), .unset, .unset, .unset, .unset, .unset] [(.int s1)]) := by
      by_cases hc44_41 : (((pq.toUInt32 >>> ((2 : Int32) &&& 31).toUInt32).toInt32) &&& (1 : Int32)) = (0 : Int32)
      · skip
        have r42 : own_R p e below _ _ T14 (mkF m 52 #[.val (.int pq), .val (.int pk), .val (.long je1), .second, .val (.long je2), .second, .val (.ref v_w), .val (.ref b11), .val (.int (1 : Int32)), .unset, .unset, .unset, .unset, .unset] [(.int (0 : Int32))]) := r39.trans fun z_ kt => by
          refine XS.ifYes X14.here hx rfl (pc0 := 44) (pc' := 51) rfl (hb hby at_44) rfl ((if0 _ _).trans (teq (hc44_41 : (((pq.toUInt32 >>> ((2 : Int32) &&& 31).toUInt32).toInt32) &&& (1 : Int32)) = (0 : Int32))).1) (by decide) (by decide) ?_
          refine XS.iconst X14.here hx rfl (hb hby at_51) ?_
          exact kt
        exact ⟨(0 : Int32), Or.inl rfl, r42⟩
      · skip
        have r43 : own_R p e below _ _ T14 (mkF m 52 #[.val (.int pq), .val (.int pk), .val (.long je1), .second, .val (.long je2), .second, .val (.ref v_w), .val (.ref b11), .val (.int (1 : Int32)), .unset, .unset, .unset, .unset, .unset] [(.int (1 : Int32))]) := r39.trans fun z_ kt => by
          refine XS.ifNo X14.here hx rfl (hb hby at_44) rfl ((if0 _ _).trans (feq (hc44_41 : ¬ ((((pq.toUInt32 >>> ((2 : Int32) &&& 31).toUInt32).toInt32) &&& (1 : Int32)) = (0 : Int32)))).1) ?_
          refine XS.iconst X14.here hx rfl (hb hby at_47) ?_
          refine XS.goto X14.here hx rfl (pc0 := 48) (pc' := 52) rfl (hb hby at_48) (by decide) (by decide) ?_
          exact kt
        exact ⟨(1 : Int32), Or.inr rfl, r43⟩
    have r44 : own_R p e below _ _ T14 (mkF m 59 #[.val (.int pq), .val (.int pk), .val (.long je1), .second, .val (.long je2), .second, .val (.ref v_w), .val (.ref b11), .val (.int (1 : Int32)), .val (.int s1), .unset, .unset, .unset, .unset] [(.int (((pq.toUInt32 >>> ((3 : Int32) &&& 31).toUInt32).toInt32) &&& (1 : Int32)))]) := r40.trans fun z_ kt => by
      refine XS.istore X14.here hx rfl (hb hby at_52) rfl (l' := #[.val (.int pq), .val (.int pk), .val (.long je1), .second, .val (.long je2), .second, .val (.ref v_w), .val (.ref b11), .val (.int (1 : Int32)), .val (.int s1), .unset, .unset, .unset, .unset]) rfl ?_
      refine XS.iloadN X14.here hx rfl (hb hby at_54) rfl ?_
      refine XS.iconst X14.here hx rfl (hb hby at_55) ?_
      refine XS.iushr X14.here hx rfl (hb hby at_56) rfl ?_
      refine XS.iconst X14.here hx rfl (hb hby at_57) ?_
      refine XS.iand X14.here hx rfl (hb hby at_58) rfl ?_
      exact kt
    obtain ⟨s2, h_s2, r45⟩ : ∃ s2 : Int32, (s2 = (0 : Int32) ∨ s2 = (1 : Int32)) ∧ own_R p e below s₁ (mkF m 0 #[.val (.int pq), .val (.int pk), .val (.long je1), .second, .val (.long je2), .second, .unset, .unset, .unset, .unset, .unset, .unset, .unset, .unset] []) T14 (mkF m 67 #[.val (.int pq), .val (.int pk), .val (.long je1), .second, .val (.long je2), .second, .val (.ref v_w), .val (.ref b11), .val (.int (1 : Int32)), .val (.int s1), .unset, .unset, .unset, .unset] [(.int s2)]) := by
      by_cases hc59_46 : (((pq.toUInt32 >>> ((3 : Int32) &&& 31).toUInt32).toInt32) &&& (1 : Int32)) = (0 : Int32)
      · skip
        have r47 : own_R p e below _ _ T14 (mkF m 67 #[.val (.int pq), .val (.int pk), .val (.long je1), .second, .val (.long je2), .second, .val (.ref v_w), .val (.ref b11), .val (.int (1 : Int32)), .val (.int s1), .unset, .unset, .unset, .unset] [(.int (0 : Int32))]) := r44.trans fun z_ kt => by
          refine XS.ifYes X14.here hx rfl (pc0 := 59) (pc' := 66) rfl (hb hby at_59) rfl ((if0 _ _).trans (teq (hc59_46 : (((pq.toUInt32 >>> ((3 : Int32) &&& 31).toUInt32).toInt32) &&& (1 : Int32)) = (0 : Int32))).1) (by decide) (by decide) ?_
          refine XS.iconst X14.here hx rfl (hb hby at_66) ?_
          exact kt
        exact ⟨(0 : Int32), Or.inl rfl, r47⟩
      · skip
        have r48 : own_R p e below _ _ T14 (mkF m 67 #[.val (.int pq), .val (.int pk), .val (.long je1), .second, .val (.long je2), .second, .val (.ref v_w), .val (.ref b11), .val (.int (1 : Int32)), .val (.int s1), .unset, .unset, .unset, .unset] [(.int (1 : Int32))]) := r44.trans fun z_ kt => by
          refine XS.ifNo X14.here hx rfl (hb hby at_59) rfl ((if0 _ _).trans (feq (hc59_46 : ¬ ((((pq.toUInt32 >>> ((3 : Int32) &&& 31).toUInt32).toInt32) &&& (1 : Int32)) = (0 : Int32)))).1) ?_
          refine XS.iconst X14.here hx rfl (hb hby at_62) ?_
          refine XS.goto X14.here hx rfl (pc0 := 63) (pc' := 67) rfl (hb hby at_63) (by decide) (by decide) ?_
          exact kt
        exact ⟨(1 : Int32), Or.inr rfl, r48⟩
    have r49 : own_R p e below _ _ T14 (mkF m 74 #[.val (.int pq), .val (.int pk), .val (.long je1), .second, .val (.long je2), .second, .val (.ref v_w), .val (.ref b11), .val (.int (1 : Int32)), .val (.int s1), .val (.int s2), .unset, .unset, .unset] [(.int (((pq.toUInt32 >>> ((4 : Int32) &&& 31).toUInt32).toInt32) &&& (1 : Int32)))]) := r45.trans fun z_ kt => by
      refine XS.istore X14.here hx rfl (hb hby at_67) rfl (l' := #[.val (.int pq), .val (.int pk), .val (.long je1), .second, .val (.long je2), .second, .val (.ref v_w), .val (.ref b11), .val (.int (1 : Int32)), .val (.int s1), .val (.int s2), .unset, .unset, .unset]) rfl ?_
      refine XS.iloadN X14.here hx rfl (hb hby at_69) rfl ?_
      refine XS.iconst X14.here hx rfl (hb hby at_70) ?_
      refine XS.iushr X14.here hx rfl (hb hby at_71) rfl ?_
      refine XS.iconst X14.here hx rfl (hb hby at_72) ?_
      refine XS.iand X14.here hx rfl (hb hby at_73) rfl ?_
      exact kt
    obtain ⟨s3, h_s3, r50⟩ : ∃ s3 : Int32, (s3 = (0 : Int32) ∨ s3 = (1 : Int32)) ∧ own_R p e below s₁ (mkF m 0 #[.val (.int pq), .val (.int pk), .val (.long je1), .second, .val (.long je2), .second, .unset, .unset, .unset, .unset, .unset, .unset, .unset, .unset] []) T14 (mkF m 82 #[.val (.int pq), .val (.int pk), .val (.long je1), .second, .val (.long je2), .second, .val (.ref v_w), .val (.ref b11), .val (.int (1 : Int32)), .val (.int s1), .val (.int s2), .unset, .unset, .unset] [(.int s3)]) := by
      by_cases hc74_51 : (((pq.toUInt32 >>> ((4 : Int32) &&& 31).toUInt32).toInt32) &&& (1 : Int32)) = (0 : Int32)
      · skip
        have r52 : own_R p e below _ _ T14 (mkF m 82 #[.val (.int pq), .val (.int pk), .val (.long je1), .second, .val (.long je2), .second, .val (.ref v_w), .val (.ref b11), .val (.int (1 : Int32)), .val (.int s1), .val (.int s2), .unset, .unset, .unset] [(.int (0 : Int32))]) := r49.trans fun z_ kt => by
          refine XS.ifYes X14.here hx rfl (pc0 := 74) (pc' := 81) rfl (hb hby at_74) rfl ((if0 _ _).trans (teq (hc74_51 : (((pq.toUInt32 >>> ((4 : Int32) &&& 31).toUInt32).toInt32) &&& (1 : Int32)) = (0 : Int32))).1) (by decide) (by decide) ?_
          refine XS.iconst X14.here hx rfl (hb hby at_81) ?_
          exact kt
        exact ⟨(0 : Int32), Or.inl rfl, r52⟩
      · skip
        have r53 : own_R p e below _ _ T14 (mkF m 82 #[.val (.int pq), .val (.int pk), .val (.long je1), .second, .val (.long je2), .second, .val (.ref v_w), .val (.ref b11), .val (.int (1 : Int32)), .val (.int s1), .val (.int s2), .unset, .unset, .unset] [(.int (1 : Int32))]) := r49.trans fun z_ kt => by
          refine XS.ifNo X14.here hx rfl (hb hby at_74) rfl ((if0 _ _).trans (feq (hc74_51 : ¬ ((((pq.toUInt32 >>> ((4 : Int32) &&& 31).toUInt32).toInt32) &&& (1 : Int32)) = (0 : Int32)))).1) ?_
          refine XS.iconst X14.here hx rfl (hb hby at_77) ?_
          refine XS.goto X14.here hx rfl (pc0 := 78) (pc' := 82) rfl (hb hby at_78) (by decide) (by decide) ?_
          exact kt
        exact ⟨(1 : Int32), Or.inr rfl, r53⟩
    have f54 := (A11.keep Kq14)
    have r55 : own_R p e below _ _ T14 (mkF m 86 #[.val (.int pq), .val (.int pk), .val (.long je1), .second, .val (.long je2), .second, .val (.ref v_w), .val (.ref b11), .val (.int (1 : Int32)), .val (.int s1), .val (.int s2), .val (.int s3), .unset, .unset] [(.ref b11)]) := r50.trans fun z_ kt => by
      refine XS.istore X14.here hx rfl (hb hby at_82) rfl (l' := #[.val (.int pq), .val (.int pk), .val (.long je1), .second, .val (.long je2), .second, .val (.ref v_w), .val (.ref b11), .val (.int (1 : Int32)), .val (.int s1), .val (.int s2), .val (.int s3), .unset, .unset]) rfl ?_
      refine XS.aload X14.here hx rfl (hb hby at_84) rfl rfl ?_
      exact kt
    obtain ⟨cq56, kq56, q56a, q56b, q56c⟩ := isOf hZ e14 f54
    obtain ⟨_, _, ⟨T56, L56, cc56, n56⟩, -, X56, ⟨Lc56, hQ56, l56, y56, z56⟩, st56⟩ := X14.virtualBack hx (y := (⟨"com/example/wildebeest/wildebeest/core/CausalityCheck", "checked", "()Z"⟩ : MethodName)) (z := (⟨"com/example/wildebeest/wildebeest/core/CausalityCheck", "checked", "()Z"⟩ : MethodName)) hown (mvT hZ (hw _ (own_g (i := 59) rfl))) (mvT hZ (hw _ (own_g (i := 60) rfl))) (notFace_of_selects (args := #[]) (mvT hZ (hw _ (own_g (i := 62) rfl)))) (mvT hZ (hw _ (own_g (i := 62) rfl))) (mvT hZ (hw _ (own_g (i := 61) rfl))) (by decide) (backOf (W := 0) (rm_checked l Z a0 hw [] (b11) ((0 : Int64)) ((0 : Int32)) h14 n0 O14 (p14_3) (Or.inr ⟨rfl, by decide⟩)) hZ (hw _ (own_g (i := 63) rfl)) (hw _ (own_g (i := 32) rfl)) (by decide) (by decide)) q56a q56c (g := (mkF m 86 #[.val (.int pq), .val (.int pk), .val (.long je1), .second, .val (.long je2), .second, .val (.ref v_w), .val (.ref b11), .val (.int (1 : Int32)), .val (.int s1), .val (.int s2), .val (.int s3), .unset, .unset] [(.ref b11)])) rfl (by rw [hml]; rfl) (Steps.refl _) (argsL := []) (rest := []) (lenOf pd_5 rfl) rfl (by show 2 * 0 + _ ≤ _; exact Nat.le_of_eq rfl) (hb hby at_86) (fun _ _ => ⟨rfl, e14, (by decide : 8 + 0 ≤ _), (by decide : 61 + 0 ≤ _)⟩)
    dsimp only [Pt.U, Pt.locs, Pt.cells, Pt.slots] at X56 l56 y56 z56 st56 hQ56
    subst l56 y56 z56
    obtain ⟨rfl, Nq56, eq56⟩ := hQ56
    have N56 := Fr.app N14 Nq56
    have r56 : own_R p e below _ _ T56 (mkF m 89 #[.val (.int pq), .val (.int pk), .val (.long je1), .second, .val (.long je2), .second, .val (.ref v_w), .val (.ref b11), .val (.int (1 : Int32)), .val (.int s1), .val (.int s2), .val (.int s3), .unset, .unset] [(.int (0 : Int32))]) := r55.trans fun z_ kt => st56.trans kt
    have e56 : T56.heap = h14 := eq56
    have r57 : own_R p e below _ _ T56 (mkF m 118 #[.val (.int pq), .val (.int pk), .val (.long je1), .second, .val (.long je2), .second, .val (.ref v_w), .val (.ref b11), .val (.int (1 : Int32)), .val (.int s1), .val (.int s2), .val (.int s3), .val (.int (1 : Int32)), .val (.int (0 : Int32))] [(.ref v_w), (.int s1), (.int ((pq.toUInt32 >>> ((5 : Int32) &&& 31).toUInt32).toInt32)), (.int pk), (.ref b11)]) := r56.trans fun z_ kt => by
      refine XS.ifNo X56.here hx rfl (hb hby at_89) rfl ((if0 _ _).trans (teq (by decide : (0 : Int32) = (0 : Int32))).2) ?_
      refine XS.iconst X56.here hx rfl (hb hby at_92) ?_
      refine XS.goto X56.here hx rfl (pc0 := 93) (pc' := 97) rfl (hb hby at_93) (by decide) (by decide) ?_
      refine XS.istore X56.here hx rfl (hb hby at_97) rfl (l' := #[.val (.int pq), .val (.int pk), .val (.long je1), .second, .val (.long je2), .second, .val (.ref v_w), .val (.ref b11), .val (.int (1 : Int32)), .val (.int s1), .val (.int s2), .val (.int s3), .val (.int (1 : Int32)), .unset]) rfl ?_
      refine XS.iconst X56.here hx rfl (hb hby at_99) ?_
      refine XS.istore X56.here hx rfl (hb hby at_100) rfl (l' := #[.val (.int pq), .val (.int pk), .val (.long je1), .second, .val (.long je2), .second, .val (.ref v_w), .val (.ref b11), .val (.int (1 : Int32)), .val (.int s1), .val (.int s2), .val (.int s3), .val (.int (1 : Int32)), .val (.int (0 : Int32))]) rfl ?_
      refine XS.iload X56.here hx rfl (hb hby at_102) rfl ?_
      refine XS.iconst X56.here hx rfl (hb hby at_104) ?_
      refine XS.icmpNo X56.here hx rfl (hb hby at_105) rfl (flt (by decide : ¬ ((1 : Int32) < (1 : Int32)))).1 ?_
      refine XS.aload X56.here hx rfl (hb hby at_108) rfl rfl ?_
      refine XS.iloadN X56.here hx rfl (hb hby at_110) rfl ?_
      refine XS.iloadN X56.here hx rfl (hb hby at_111) rfl ?_
      refine XS.iconst X56.here hx rfl (hb hby at_112) ?_
      refine XS.iushr X56.here hx rfl (hb hby at_113) rfl ?_
      refine XS.iload X56.here hx rfl (hb hby at_114) rfl ?_
      refine XS.aload X56.here hx rfl (hb hby at_116) rfl rfl ?_
      exact kt
    have f58 := (f16.keep Kq14)
    obtain ⟨_, _, ⟨T59, L59, cc59, n59⟩, -, X59, ⟨Lc59, hQ59, l59, y59, z59⟩, st59⟩ := Jvm.LawKit.callS X56 hx (y := (⟨"com/example/wildebeest/wildebeest/core/CausalityCheckCheckedPinLaw", "event", "(IIZLcom/example/wildebeest/wildebeest/core/VectorTime;)Lcom/example/wildebeest/wildebeest/core/TraceEvent;"⟩ : MethodName)) hown (mvT hZ (hw _ (own_g (i := 66) rfl))) (mvT hZ (hw _ (own_g (i := 67) rfl))) (mvT hZ (hw _ (own_g (i := 68) rfl))) (mvT hZ (hw _ (own_g (i := 69) rfl))) (by decide) (backOf (W := 1) (rm_event l Z a0 hw [] (pk) (((pq.toUInt32 >>> ((5 : Int32) &&& 31).toUInt32).toInt32)) (s1) (v_w) (s_OL) (s_OE) (s_SEND) (s_RECEIVE) (s_REQUEST) (s_ENTER) (s_EXIT) (s_CRASH) (fl) (el) (kl) (s_NF) h14 n0 O14 (S_EventKind_REQUEST) (S_EventKind_ENTER) (S_EventKind_EXIT) (S_EventKind_CRASH) (OE_s_REQUEST) (OF_s_REQUEST_message) (OF_s_REQUEST_fields) (OE_s_ENTER) (OF_s_ENTER_message) (OF_s_ENTER_fields) (OE_s_EXIT) (OF_s_EXIT_message) (OF_s_EXIT_fields) (OE_s_CRASH) (OF_s_CRASH_message) (OF_s_CRASH_fields) (ne_s_REQUEST_s_SEND) (ne_s_REQUEST_s_RECEIVE) (ne_s_ENTER_s_SEND) (ne_s_ENTER_s_RECEIVE) (ne_s_EXIT_s_SEND) (ne_s_EXIT_s_RECEIVE) (ne_s_CRASH_s_SEND) (ne_s_CRASH_s_RECEIVE) (OE_fl) (OF_fl_elements) (OV_el) (S_TraceEvent_NO_FIELDS) (S_Optional_EMPTY) (OE_s_OE) (OF_s_OE_value) (S_OptionalLong_EMPTY) (OE_s_OL) (OF_s_OL_isPresent) (f58) (h_s1)) hZ (hw _ (own_g (i := 69) rfl)) (hw _ (own_g (i := 68) rfl)) (by decide) (by decide)) (g := (mkF m 118 #[.val (.int pq), .val (.int pk), .val (.long je1), .second, .val (.long je2), .second, .val (.ref v_w), .val (.ref b11), .val (.int (1 : Int32)), .val (.int s1), .val (.int s2), .val (.int s3), .val (.int (1 : Int32)), .val (.int (0 : Int32))] [(.ref v_w), (.int s1), (.int ((pq.toUInt32 >>> ((5 : Int32) &&& 31).toUInt32).toInt32)), (.int pk), (.ref b11)])) rfl (by rw [hml]; rfl) (argsL := [(.int pk), (.int ((pq.toUInt32 >>> ((5 : Int32) &&& 31).toUInt32).toInt32)), (.int s1), (.ref v_w)]) (rest := [(.ref b11)]) (lenOf pd_20 rfl) rfl (by show 2 * 0 + _ ≤ _; exact Nat.le_of_eq rfl) (hb hby at_118) (fun _ _ => ⟨rfl, e56, (by decide : 8 + 3 ≤ _), (by decide : 61 + 8 ≤ _)⟩)
    dsimp only [Pt.U, Pt.locs, Pt.cells, Pt.slots] at X59 l59 y59 z59 st59 hQ59
    subst l59 y59 z59
    obtain ⟨h59, e59⟩ : ∃ z, T59.heap = z := ⟨_, rfl⟩
    rw [e59] at hQ59
    obtain ⟨t_es1, kd_es1, pn_es1, vv_es1, rfl, Nq59, Kq59, p59_0, p59_1, p59_2, p59_3, p59_4, p59_5, p59_6, p59_7, p59_8⟩ := hQ59
    have N59 := Fr.app N56 Nq59
    have r59 : own_R p e below _ _ T59 (mkF m 121 #[.val (.int pq), .val (.int pk), .val (.long je1), .second, .val (.long je2), .second, .val (.ref v_w), .val (.ref b11), .val (.int (1 : Int32)), .val (.int s1), .val (.int s2), .val (.int s3), .val (.int (1 : Int32)), .val (.int (0 : Int32))] [(.ref t_es1), (.ref b11)]) := r57.trans fun z_ kt => st59 _ kt
    have f60 := (f15.keep Kq14 (ninS ne_b2_b11 nin0))
    have ne_b2_t_es1 : b2 ≠ t_es1 := Nat.ne_of_lt (Nat.lt_of_lt_of_le f60.lt p59_0)
    have ne_v_w_t_es1 : v_w ≠ t_es1 := Nat.ne_of_lt (Nat.lt_of_lt_of_le f58.lt p59_0)
    have f61 := (f17.keep Kq14 (ninS ne_bl_w_b11 nin0))
    have ne_bl_w_t_es1 : bl_w ≠ t_es1 := Nat.ne_of_lt (Nat.lt_of_lt_of_le f61.lt p59_0)
    have f62 := (f18.keep Kq14 (ninS ne_en_w_b11 nin0))
    have ne_en_w_t_es1 : en_w ≠ t_es1 := Nat.ne_of_lt (Nat.lt_of_lt_of_le f62.lt p59_0)
    have ne_b11_t_es1 : b11 ≠ t_es1 := Nat.ne_of_lt (Nat.lt_of_lt_of_le f54.lt p59_0)
    have ne_ev_14_t_es1 : ev_14 ≠ t_es1 := Nat.ne_of_lt (Nat.lt_of_lt_of_le p14_2.lt p59_0)
    have g_t_es1 : n0 ≤ t_es1 := Nat.le_trans (own_old_size O14) p59_0
    have O59 := O14.keep Kq59 all0
    have f63 := (f54.keep Kq59)
    have f64 := (p14_3.keep Kq59 nin0)
    have f65 := (p14_4.keep Kq59 nin0)
    have f66 := (p14_5.keep Kq59 nin0)
    have f67 := (p14_1.keep Kq59 nin0)
    have f68 := (p14_2.keep Kq59 nin0)
    have f69 := (f58.keep Kq59)
    have f70 := (((p9_3.ext E11).keep Kq14 (ninS ne_v_w_b11 nin0)).keep Kq59 nin0)
    have f71 := (((p9_4.ext E11).keep Kq14 (ninS ne_v_w_b11 nin0)).keep Kq59 nin0)
    have f72 := (((p9_5.ext E11).keep Kq14 (ninS ne_v_w_b11 nin0)).keep Kq59 nin0)
    have f73 := (f61.keep Kq59 nin0)
    have f74 := (f62.keep Kq59 nin0)
    obtain ⟨cq75, kq75, q75a, q75b, q75c⟩ := isOf hZ e59 f63
    obtain ⟨_, _, ⟨T75, L75, cc75, n75⟩, -, X75, ⟨Lc75, hQ75, l75, y75, z75⟩, st75⟩ := X59.virtualBack hx (y := (⟨"com/example/wildebeest/wildebeest/core/CausalityCheck", "accept", "(Lcom/example/wildebeest/wildebeest/core/TraceEvent;)V"⟩ : MethodName)) (z := (⟨"com/example/wildebeest/wildebeest/core/CausalityCheck", "accept", "(Lcom/example/wildebeest/wildebeest/core/TraceEvent;)V"⟩ : MethodName)) hown (mvT hZ (hw _ (own_g (i := 155) rfl))) (mvT hZ (hw _ (own_g (i := 156) rfl))) (notFace_of_selects (args := #[]) (mvT hZ (hw _ (own_g (i := 158) rfl)))) (mvT hZ (hw _ (own_g (i := 158) rfl))) (mvT hZ (hw _ (own_g (i := 157) rfl))) (by decide) (backOf (W := 0) (rm_accept l Z a0 hw [] (b11) (t_es1) ((0 : Int64)) ((0 : Int64)) ((0 : Int64)) (v_w) (kd_es1) (pn_es1) (vv_es1) (s1) (ev_14) (ke_14) ((0 : Int32)) ([]) (s_OE) (s_SEND) (s_RECEIVE) (bl_w) (kb_w) (en_w) (ke_w) (vse_w) h59 n0 O59 (f63) (g_b11) (p59_1) (p59_2) (p59_3) (p59_4) (f64) (f65) (f66) (f67) (f68) (g_ev_14) (Or.inl rfl) (rfl) (p59_6) (p59_5) (S_Optional_EMPTY) (OE_s_OE) (OF_s_OE_value) (S_EventKind_SEND) (S_EventKind_RECEIVE) (p59_7) (p59_8) (f69) (f70) (f71) (f72) (f73) (f74) (ne_bl_w_ev_14) (ne_en_w_ev_14)) hZ (hw _ (own_g (i := 159) rfl)) (hw _ (own_g (i := 32) rfl)) (by decide) (by decide)) q75a q75c (g := (mkF m 121 #[.val (.int pq), .val (.int pk), .val (.long je1), .second, .val (.long je2), .second, .val (.ref v_w), .val (.ref b11), .val (.int (1 : Int32)), .val (.int s1), .val (.int s2), .val (.int s3), .val (.int (1 : Int32)), .val (.int (0 : Int32))] [(.ref t_es1), (.ref b11)])) rfl (by rw [hml]; rfl) (Steps.refl _) (argsL := [(.ref t_es1)]) (rest := []) (lenOf pd_21 rfl) rfl (by show 2 * 0 + _ ≤ _; exact Nat.le_of_eq rfl) (hb hby at_121) (fun _ _ => ⟨rfl, e59, (by decide : 11 + 3 ≤ _), (by decide : 69 + 6 ≤ _)⟩)
    dsimp only [Pt.U, Pt.locs, Pt.cells, Pt.slots] at X75 l75 y75 z75 st75 hQ75
    subst l75 y75 z75
    obtain ⟨h75, e75⟩ : ∃ z, T75.heap = z := ⟨_, rfl⟩
    rw [e75] at hQ75
    obtain ⟨ev2_as1, kv2_as1, z2_as1, vs2_as1, js2_as1, ju2_as1, jv2_as1, rfl, Nq75, Kq75, p75_0, p75_1, p75_2, p75_3, p75_4, p75_5, p75_6, p75_7, p75_8⟩ := hQ75
    have N75 := Fr.app N59 Nq75
    have r75 : own_R p e below _ _ T75 (mkF m 124 #[.val (.int pq), .val (.int pk), .val (.long je1), .second, .val (.long je2), .second, .val (.ref v_w), .val (.ref b11), .val (.int (1 : Int32)), .val (.int s1), .val (.int s2), .val (.int s3), .val (.int (1 : Int32)), .val (.int (0 : Int32))] []) := r59.trans fun z_ kt => st75.trans kt
    have f76 := (f60.keep Kq59 nin0)
    have ne_b2_ev2_as1 : b2 ≠ ev2_as1 := own_fe p75_0 ne_b2_ev_14 f76.lt
    have ne_v_w_ev2_as1 : v_w ≠ ev2_as1 := own_fe p75_0 ne_v_w_ev_14 f69.lt
    have ne_bl_w_ev2_as1 : bl_w ≠ ev2_as1 := own_fe p75_0 ne_bl_w_ev_14 f73.lt
    have ne_en_w_ev2_as1 : en_w ≠ ev2_as1 := own_fe p75_0 ne_en_w_ev_14 f74.lt
    have ne_b11_ev2_as1 : b11 ≠ ev2_as1 := own_fe p75_0 ne_b11_ev_14 f63.lt
    have ne_t_es1_ev2_as1 : t_es1 ≠ ev2_as1 := own_fe p75_0 (Ne.symm ne_ev_14_t_es1) p59_1.lt
    have g_ev2_as1 : n0 ≤ ev2_as1 := own_feg p75_0 g_ev_14 (own_old_size O59)
    have O75 := O59.keep Kq75 (allS g_b11 (allS g_ev_14 all0))
    have ra1 := own_any1 p75_8
    have f77 := (f63.keep Kq75)
    have r78 : own_R p e below _ _ T75 (mkF m 135 #[.val (.int pq), .val (.int pk), .val (.long je1), .second, .val (.long je2), .second, .val (.ref v_w), .val (.ref b11), .val (.int (1 : Int32)), .val (.int s1), .val (.int s2), .val (.int s3), .val (.int (1 : Int32)), .val (.int s1)] [(.ref b11)]) := r75.trans fun z_ kt => by
      refine XS.iload X75.here hx rfl (hb hby at_124) rfl ?_
      refine XS.istore X75.here hx rfl (hb hby at_126) rfl (l' := #[.val (.int pq), .val (.int pk), .val (.long je1), .second, .val (.long je2), .second, .val (.ref v_w), .val (.ref b11), .val (.int (1 : Int32)), .val (.int s1), .val (.int s2), .val (.int s3), .val (.int (1 : Int32)), .val (.int s1)]) rfl ?_
      refine XS.iload X75.here hx rfl (hb hby at_128) rfl ?_
      refine XS.ifNo X75.here hx rfl (hb hby at_130) rfl ((if0 _ _).trans (feq (by decide : ¬ ((1 : Int32) = (0 : Int32)))).1) ?_
      refine XS.aload X75.here hx rfl (hb hby at_133) rfl rfl ?_
      exact kt
    obtain ⟨cq79, kq79, q79a, q79b, q79c⟩ := isOf hZ e75 f77
    obtain ⟨_, _, ⟨T79, L79, cc79, n79⟩, -, X79, ⟨Lc79, hQ79, l79, y79, z79⟩, st79⟩ := X75.virtualBack hx (y := (⟨"com/example/wildebeest/wildebeest/core/CausalityCheck", "checked", "()Z"⟩ : MethodName)) (z := (⟨"com/example/wildebeest/wildebeest/core/CausalityCheck", "checked", "()Z"⟩ : MethodName)) hown (mvT hZ (hw _ (own_g (i := 59) rfl))) (mvT hZ (hw _ (own_g (i := 60) rfl))) (notFace_of_selects (args := #[]) (mvT hZ (hw _ (own_g (i := 62) rfl)))) (mvT hZ (hw _ (own_g (i := 62) rfl))) (mvT hZ (hw _ (own_g (i := 61) rfl))) (by decide) (backOf (W := 0) (rm_checked l Z a0 hw [] (b11) (js2_as1) (s1) h75 n0 O75 (p75_3) (own_chk ra1)) hZ (hw _ (own_g (i := 63) rfl)) (hw _ (own_g (i := 32) rfl)) (by decide) (by decide)) q79a q79c (g := (mkF m 135 #[.val (.int pq), .val (.int pk), .val (.long je1), .second, .val (.long je2), .second, .val (.ref v_w), .val (.ref b11), .val (.int (1 : Int32)), .val (.int s1), .val (.int s2), .val (.int s3), .val (.int (1 : Int32)), .val (.int s1)] [(.ref b11)])) rfl (by rw [hml]; rfl) (Steps.refl _) (argsL := []) (rest := []) (lenOf pd_5 rfl) rfl (by show 2 * 0 + _ ≤ _; exact Nat.le_of_eq rfl) (hb hby at_135) (fun _ _ => ⟨rfl, e75, (by decide : 14 + 0 ≤ _), (by decide : 75 + 0 ≤ _)⟩)
    dsimp only [Pt.U, Pt.locs, Pt.cells, Pt.slots] at X79 l79 y79 z79 st79 hQ79
    subst l79 y79 z79
    obtain ⟨rfl, Nq79, eq79⟩ := hQ79
    have N79 := Fr.app N75 Nq79
    have r79 : own_R p e below _ _ T79 (mkF m 138 #[.val (.int pq), .val (.int pk), .val (.long je1), .second, .val (.long je2), .second, .val (.ref v_w), .val (.ref b11), .val (.int (1 : Int32)), .val (.int s1), .val (.int s2), .val (.int s3), .val (.int (1 : Int32)), .val (.int s1)] [(.int s1)]) := r78.trans fun z_ kt => st79.trans kt
    have e79 : T79.heap = h75 := eq79
    have r80 : own_R p e below _ _ T79 (mkF m 280 #[.val (.int pq), .val (.int pk), .val (.long je1), .second, .val (.long je2), .second, .val (.ref v_w), .val (.ref b11), .val (.int (1 : Int32)), .val (.int s1), .val (.int s2), .val (.int s3), .val (.int (1 : Int32)), .val (.int s1)] [(.int (1 : Int32))]) := r79.trans fun z_ kt => by
      refine XS.iload X79.here hx rfl (hb hby at_138) rfl ?_
      refine XS.icmpNo X79.here hx rfl (hb hby at_140) rfl (teq (rfl : s1 = s1)).2 ?_
      refine XS.iconst X79.here hx rfl (hb hby at_143) ?_
      refine XS.goto X79.here hx rfl (pc0 := 144) (pc' := 148) rfl (hb hby at_144) (by decide) (by decide) ?_
      refine XS.istore X79.here hx rfl (hb hby at_148) rfl (l' := #[.val (.int pq), .val (.int pk), .val (.long je1), .second, .val (.long je2), .second, .val (.ref v_w), .val (.ref b11), .val (.int (1 : Int32)), .val (.int s1), .val (.int s2), .val (.int s3), .val (.int (1 : Int32)), .val (.int s1)]) rfl ?_
      refine XS.iload X79.here hx rfl (hb hby at_150) rfl ?_
      refine XS.iconst X79.here hx rfl (hb hby at_152) ?_
      refine XS.icmpYes X79.here hx rfl (pc0 := 153) (pc' := 214) rfl (hb hby at_153) rfl (tlt (by decide : (1 : Int32) < (2 : Int32))).1 (by decide) (by decide) ?_
      refine XS.iload X79.here hx rfl (hb hby at_214) rfl ?_
      refine XS.iconst X79.here hx rfl (hb hby at_216) ?_
      refine XS.icmpYes X79.here hx rfl (pc0 := 217) (pc' := 278) rfl (hb hby at_217) rfl (tlt (by decide : (1 : Int32) < (3 : Int32))).1 (by decide) (by decide) ?_
      refine XS.iload X79.here hx rfl (hb hby at_278) rfl ?_
      exact kt
    obtain ⟨fs_, hr_, hrun_, hended_, hW_, hsame_⟩ := X79.leave (v := some (.int (1 : Int32))) (fun h => by rw [Bd.returns] at h; cases h)
    refine ⟨_, _, pre0 _ (r80 _ ?_), hrun_, hended_, _, _, rfl, ?_, ⟨_, rfl⟩, hW_, hsame_.mono (by decide) (by decide)⟩
    · exact retN X79 hx (t := .boolean) Bd.returns (by simp) (hb hby at_280) hr_
    · show Q_law Z pq pk je1 je2 s_OL s_OE s_SEND s_RECEIVE s_REQUEST s_ENTER s_EXIT s_CRASH fl el kl s_NF s_ZV kz vz h0 n0 _ T79.heap _
      rw [e79]
      exact ⟨rfl, N79⟩
  · skip
    have r81 : own_R p e below _ _ T14 (mkF m 44 #[.val (.int pq), .val (.int pk), .val (.long je1), .second, .val (.long je2), .second, .val (.ref v_w), .val (.ref b11), .val (.int (2 : Int32)), .unset, .unset, .unset, .unset, .unset] [(.int (((pq.toUInt32 >>> ((2 : Int32) &&& 31).toUInt32).toInt32) &&& (1 : Int32)))]) := r19.trans fun z_ kt => by
      refine XS.iloadN X14.here hx rfl (hb hby at_39) rfl ?_
      refine XS.iconst X14.here hx rfl (hb hby at_40) ?_
      refine XS.iushr X14.here hx rfl (hb hby at_41) rfl ?_
      refine XS.iconst X14.here hx rfl (hb hby at_42) ?_
      refine XS.iand X14.here hx rfl (hb hby at_43) rfl ?_
      exact kt
    obtain ⟨s1, h_s1, r82⟩ : ∃ s1 : Int32, (s1 = (0 : Int32) ∨ s1 = (1 : Int32)) ∧ own_R p e below s₁ (mkF m 0 #[.val (.int pq), .val (.int pk), .val (.long je1), .second, .val (.long je2), .second, .unset, .unset, .unset, .unset, .unset, .unset, .unset, .unset] []) T14 (mkF m 52 #[.val (.int pq), .val (.int pk), .val (.long je1), .second, .val (.long je2), .second, .val (.ref v_w), .val (.ref b11), .val (.int (2 : Int32)), .unset, .unset, .unset, .unset, .unset] [(.int s1)]) := by
      by_cases hc44_83 : (((pq.toUInt32 >>> ((2 : Int32) &&& 31).toUInt32).toInt32) &&& (1 : Int32)) = (0 : Int32)
      · skip
        have r84 : own_R p e below _ _ T14 (mkF m 52 #[.val (.int pq), .val (.int pk), .val (.long je1), .second, .val (.long je2), .second, .val (.ref v_w), .val (.ref b11), .val (.int (2 : Int32)), .unset, .unset, .unset, .unset, .unset] [(.int (0 : Int32))]) := r81.trans fun z_ kt => by
          refine XS.ifYes X14.here hx rfl (pc0 := 44) (pc' := 51) rfl (hb hby at_44) rfl ((if0 _ _).trans (teq (hc44_83 : (((pq.toUInt32 >>> ((2 : Int32) &&& 31).toUInt32).toInt32) &&& (1 : Int32)) = (0 : Int32))).1) (by decide) (by decide) ?_
          refine XS.iconst X14.here hx rfl (hb hby at_51) ?_
          exact kt
        exact ⟨(0 : Int32), Or.inl rfl, r84⟩
      · skip
        have r85 : own_R p e below _ _ T14 (mkF m 52 #[.val (.int pq), .val (.int pk), .val (.long je1), .second, .val (.long je2), .second, .val (.ref v_w), .val (.ref b11), .val (.int (2 : Int32)), .unset, .unset, .unset, .unset, .unset] [(.int (1 : Int32))]) := r81.trans fun z_ kt => by
          refine XS.ifNo X14.here hx rfl (hb hby at_44) rfl ((if0 _ _).trans (feq (hc44_83 : ¬ ((((pq.toUInt32 >>> ((2 : Int32) &&& 31).toUInt32).toInt32) &&& (1 : Int32)) = (0 : Int32)))).1) ?_
          refine XS.iconst X14.here hx rfl (hb hby at_47) ?_
          refine XS.goto X14.here hx rfl (pc0 := 48) (pc' := 52) rfl (hb hby at_48) (by decide) (by decide) ?_
          exact kt
        exact ⟨(1 : Int32), Or.inr rfl, r85⟩
    have r86 : own_R p e below _ _ T14 (mkF m 59 #[.val (.int pq), .val (.int pk), .val (.long je1), .second, .val (.long je2), .second, .val (.ref v_w), .val (.ref b11), .val (.int (2 : Int32)), .val (.int s1), .unset, .unset, .unset, .unset] [(.int (((pq.toUInt32 >>> ((3 : Int32) &&& 31).toUInt32).toInt32) &&& (1 : Int32)))]) := r82.trans fun z_ kt => by
      refine XS.istore X14.here hx rfl (hb hby at_52) rfl (l' := #[.val (.int pq), .val (.int pk), .val (.long je1), .second, .val (.long je2), .second, .val (.ref v_w), .val (.ref b11), .val (.int (2 : Int32)), .val (.int s1), .unset, .unset, .unset, .unset]) rfl ?_
      refine XS.iloadN X14.here hx rfl (hb hby at_54) rfl ?_
      refine XS.iconst X14.here hx rfl (hb hby at_55) ?_
      refine XS.iushr X14.here hx rfl (hb hby at_56) rfl ?_
      refine XS.iconst X14.here hx rfl (hb hby at_57) ?_
      refine XS.iand X14.here hx rfl (hb hby at_58) rfl ?_
      exact kt
    obtain ⟨s2, h_s2, r87⟩ : ∃ s2 : Int32, (s2 = (0 : Int32) ∨ s2 = (1 : Int32)) ∧ own_R p e below s₁ (mkF m 0 #[.val (.int pq), .val (.int pk), .val (.long je1), .second, .val (.long je2), .second, .unset, .unset, .unset, .unset, .unset, .unset, .unset, .unset] []) T14 (mkF m 67 #[.val (.int pq), .val (.int pk), .val (.long je1), .second, .val (.long je2), .second, .val (.ref v_w), .val (.ref b11), .val (.int (2 : Int32)), .val (.int s1), .unset, .unset, .unset, .unset] [(.int s2)]) := by
      by_cases hc59_88 : (((pq.toUInt32 >>> ((3 : Int32) &&& 31).toUInt32).toInt32) &&& (1 : Int32)) = (0 : Int32)
      · skip
        have r89 : own_R p e below _ _ T14 (mkF m 67 #[.val (.int pq), .val (.int pk), .val (.long je1), .second, .val (.long je2), .second, .val (.ref v_w), .val (.ref b11), .val (.int (2 : Int32)), .val (.int s1), .unset, .unset, .unset, .unset] [(.int (0 : Int32))]) := r86.trans fun z_ kt => by
          refine XS.ifYes X14.here hx rfl (pc0 := 59) (pc' := 66) rfl (hb hby at_59) rfl ((if0 _ _).trans (teq (hc59_88 : (((pq.toUInt32 >>> ((3 : Int32) &&& 31).toUInt32).toInt32) &&& (1 : Int32)) = (0 : Int32))).1) (by decide) (by decide) ?_
          refine XS.iconst X14.here hx rfl (hb hby at_66) ?_
          exact kt
        exact ⟨(0 : Int32), Or.inl rfl, r89⟩
      · skip
        have r90 : own_R p e below _ _ T14 (mkF m 67 #[.val (.int pq), .val (.int pk), .val (.long je1), .second, .val (.long je2), .second, .val (.ref v_w), .val (.ref b11), .val (.int (2 : Int32)), .val (.int s1), .unset, .unset, .unset, .unset] [(.int (1 : Int32))]) := r86.trans fun z_ kt => by
          refine XS.ifNo X14.here hx rfl (hb hby at_59) rfl ((if0 _ _).trans (feq (hc59_88 : ¬ ((((pq.toUInt32 >>> ((3 : Int32) &&& 31).toUInt32).toInt32) &&& (1 : Int32)) = (0 : Int32)))).1) ?_
          refine XS.iconst X14.here hx rfl (hb hby at_62) ?_
          refine XS.goto X14.here hx rfl (pc0 := 63) (pc' := 67) rfl (hb hby at_63) (by decide) (by decide) ?_
          exact kt
        exact ⟨(1 : Int32), Or.inr rfl, r90⟩
    have r91 : own_R p e below _ _ T14 (mkF m 74 #[.val (.int pq), .val (.int pk), .val (.long je1), .second, .val (.long je2), .second, .val (.ref v_w), .val (.ref b11), .val (.int (2 : Int32)), .val (.int s1), .val (.int s2), .unset, .unset, .unset] [(.int (((pq.toUInt32 >>> ((4 : Int32) &&& 31).toUInt32).toInt32) &&& (1 : Int32)))]) := r87.trans fun z_ kt => by
      refine XS.istore X14.here hx rfl (hb hby at_67) rfl (l' := #[.val (.int pq), .val (.int pk), .val (.long je1), .second, .val (.long je2), .second, .val (.ref v_w), .val (.ref b11), .val (.int (2 : Int32)), .val (.int s1), .val (.int s2), .unset, .unset, .unset]) rfl ?_
      refine XS.iloadN X14.here hx rfl (hb hby at_69) rfl ?_
      refine XS.iconst X14.here hx rfl (hb hby at_70) ?_
      refine XS.iushr X14.here hx rfl (hb hby at_71) rfl ?_
      refine XS.iconst X14.here hx rfl (hb hby at_72) ?_
      refine XS.iand X14.here hx rfl (hb hby at_73) rfl ?_
      exact kt
    obtain ⟨s3, h_s3, r92⟩ : ∃ s3 : Int32, (s3 = (0 : Int32) ∨ s3 = (1 : Int32)) ∧ own_R p e below s₁ (mkF m 0 #[.val (.int pq), .val (.int pk), .val (.long je1), .second, .val (.long je2), .second, .unset, .unset, .unset, .unset, .unset, .unset, .unset, .unset] []) T14 (mkF m 82 #[.val (.int pq), .val (.int pk), .val (.long je1), .second, .val (.long je2), .second, .val (.ref v_w), .val (.ref b11), .val (.int (2 : Int32)), .val (.int s1), .val (.int s2), .unset, .unset, .unset] [(.int s3)]) := by
      by_cases hc74_93 : (((pq.toUInt32 >>> ((4 : Int32) &&& 31).toUInt32).toInt32) &&& (1 : Int32)) = (0 : Int32)
      · skip
        have r94 : own_R p e below _ _ T14 (mkF m 82 #[.val (.int pq), .val (.int pk), .val (.long je1), .second, .val (.long je2), .second, .val (.ref v_w), .val (.ref b11), .val (.int (2 : Int32)), .val (.int s1), .val (.int s2), .unset, .unset, .unset] [(.int (0 : Int32))]) := r91.trans fun z_ kt => by
          refine XS.ifYes X14.here hx rfl (pc0 := 74) (pc' := 81) rfl (hb hby at_74) rfl ((if0 _ _).trans (teq (hc74_93 : (((pq.toUInt32 >>> ((4 : Int32) &&& 31).toUInt32).toInt32) &&& (1 : Int32)) = (0 : Int32))).1) (by decide) (by decide) ?_
          refine XS.iconst X14.here hx rfl (hb hby at_81) ?_
          exact kt
        exact ⟨(0 : Int32), Or.inl rfl, r94⟩
      · skip
        have r95 : own_R p e below _ _ T14 (mkF m 82 #[.val (.int pq), .val (.int pk), .val (.long je1), .second, .val (.long je2), .second, .val (.ref v_w), .val (.ref b11), .val (.int (2 : Int32)), .val (.int s1), .val (.int s2), .unset, .unset, .unset] [(.int (1 : Int32))]) := r91.trans fun z_ kt => by
          refine XS.ifNo X14.here hx rfl (hb hby at_74) rfl ((if0 _ _).trans (feq (hc74_93 : ¬ ((((pq.toUInt32 >>> ((4 : Int32) &&& 31).toUInt32).toInt32) &&& (1 : Int32)) = (0 : Int32)))).1) ?_
          refine XS.iconst X14.here hx rfl (hb hby at_77) ?_
          refine XS.goto X14.here hx rfl (pc0 := 78) (pc' := 82) rfl (hb hby at_78) (by decide) (by decide) ?_
          exact kt
        exact ⟨(1 : Int32), Or.inr rfl, r95⟩
    have f96 := (A11.keep Kq14)
    have r97 : own_R p e below _ _ T14 (mkF m 86 #[.val (.int pq), .val (.int pk), .val (.long je1), .second, .val (.long je2), .second, .val (.ref v_w), .val (.ref b11), .val (.int (2 : Int32)), .val (.int s1), .val (.int s2), .val (.int s3), .unset, .unset] [(.ref b11)]) := r92.trans fun z_ kt => by
      refine XS.istore X14.here hx rfl (hb hby at_82) rfl (l' := #[.val (.int pq), .val (.int pk), .val (.long je1), .second, .val (.long je2), .second, .val (.ref v_w), .val (.ref b11), .val (.int (2 : Int32)), .val (.int s1), .val (.int s2), .val (.int s3), .unset, .unset]) rfl ?_
      refine XS.aload X14.here hx rfl (hb hby at_84) rfl rfl ?_
      exact kt
    obtain ⟨cq98, kq98, q98a, q98b, q98c⟩ := isOf hZ e14 f96
    obtain ⟨_, _, ⟨T98, L98, cc98, n98⟩, -, X98, ⟨Lc98, hQ98, l98, y98, z98⟩, st98⟩ := X14.virtualBack hx (y := (⟨"com/example/wildebeest/wildebeest/core/CausalityCheck", "checked", "()Z"⟩ : MethodName)) (z := (⟨"com/example/wildebeest/wildebeest/core/CausalityCheck", "checked", "()Z"⟩ : MethodName)) hown (mvT hZ (hw _ (own_g (i := 59) rfl))) (mvT hZ (hw _ (own_g (i := 60) rfl))) (notFace_of_selects (args := #[]) (mvT hZ (hw _ (own_g (i := 62) rfl)))) (mvT hZ (hw _ (own_g (i := 62) rfl))) (mvT hZ (hw _ (own_g (i := 61) rfl))) (by decide) (backOf (W := 0) (rm_checked l Z a0 hw [] (b11) ((0 : Int64)) ((0 : Int32)) h14 n0 O14 (p14_3) (Or.inr ⟨rfl, by decide⟩)) hZ (hw _ (own_g (i := 63) rfl)) (hw _ (own_g (i := 32) rfl)) (by decide) (by decide)) q98a q98c (g := (mkF m 86 #[.val (.int pq), .val (.int pk), .val (.long je1), .second, .val (.long je2), .second, .val (.ref v_w), .val (.ref b11), .val (.int (2 : Int32)), .val (.int s1), .val (.int s2), .val (.int s3), .unset, .unset] [(.ref b11)])) rfl (by rw [hml]; rfl) (Steps.refl _) (argsL := []) (rest := []) (lenOf pd_5 rfl) rfl (by show 2 * 0 + _ ≤ _; exact Nat.le_of_eq rfl) (hb hby at_86) (fun _ _ => ⟨rfl, e14, (by decide : 8 + 0 ≤ _), (by decide : 61 + 0 ≤ _)⟩)
    dsimp only [Pt.U, Pt.locs, Pt.cells, Pt.slots] at X98 l98 y98 z98 st98 hQ98
    subst l98 y98 z98
    obtain ⟨rfl, Nq98, eq98⟩ := hQ98
    have N98 := Fr.app N14 Nq98
    have r98 : own_R p e below _ _ T98 (mkF m 89 #[.val (.int pq), .val (.int pk), .val (.long je1), .second, .val (.long je2), .second, .val (.ref v_w), .val (.ref b11), .val (.int (2 : Int32)), .val (.int s1), .val (.int s2), .val (.int s3), .unset, .unset] [(.int (0 : Int32))]) := r97.trans fun z_ kt => st98.trans kt
    have e98 : T98.heap = h14 := eq98
    have r99 : own_R p e below _ _ T98 (mkF m 118 #[.val (.int pq), .val (.int pk), .val (.long je1), .second, .val (.long je2), .second, .val (.ref v_w), .val (.ref b11), .val (.int (2 : Int32)), .val (.int s1), .val (.int s2), .val (.int s3), .val (.int (1 : Int32)), .val (.int (0 : Int32))] [(.ref v_w), (.int s1), (.int ((pq.toUInt32 >>> ((5 : Int32) &&& 31).toUInt32).toInt32)), (.int pk), (.ref b11)]) := r98.trans fun z_ kt => by
      refine XS.ifNo X98.here hx rfl (hb hby at_89) rfl ((if0 _ _).trans (teq (by decide : (0 : Int32) = (0 : Int32))).2) ?_
      refine XS.iconst X98.here hx rfl (hb hby at_92) ?_
      refine XS.goto X98.here hx rfl (pc0 := 93) (pc' := 97) rfl (hb hby at_93) (by decide) (by decide) ?_
      refine XS.istore X98.here hx rfl (hb hby at_97) rfl (l' := #[.val (.int pq), .val (.int pk), .val (.long je1), .second, .val (.long je2), .second, .val (.ref v_w), .val (.ref b11), .val (.int (2 : Int32)), .val (.int s1), .val (.int s2), .val (.int s3), .val (.int (1 : Int32)), .unset]) rfl ?_
      refine XS.iconst X98.here hx rfl (hb hby at_99) ?_
      refine XS.istore X98.here hx rfl (hb hby at_100) rfl (l' := #[.val (.int pq), .val (.int pk), .val (.long je1), .second, .val (.long je2), .second, .val (.ref v_w), .val (.ref b11), .val (.int (2 : Int32)), .val (.int s1), .val (.int s2), .val (.int s3), .val (.int (1 : Int32)), .val (.int (0 : Int32))]) rfl ?_
      refine XS.iload X98.here hx rfl (hb hby at_102) rfl ?_
      refine XS.iconst X98.here hx rfl (hb hby at_104) ?_
      refine XS.icmpNo X98.here hx rfl (hb hby at_105) rfl (flt (by decide : ¬ ((2 : Int32) < (1 : Int32)))).1 ?_
      refine XS.aload X98.here hx rfl (hb hby at_108) rfl rfl ?_
      refine XS.iloadN X98.here hx rfl (hb hby at_110) rfl ?_
      refine XS.iloadN X98.here hx rfl (hb hby at_111) rfl ?_
      refine XS.iconst X98.here hx rfl (hb hby at_112) ?_
      refine XS.iushr X98.here hx rfl (hb hby at_113) rfl ?_
      refine XS.iload X98.here hx rfl (hb hby at_114) rfl ?_
      refine XS.aload X98.here hx rfl (hb hby at_116) rfl rfl ?_
      exact kt
    have f100 := (f16.keep Kq14)
    obtain ⟨_, _, ⟨T101, L101, cc101, n101⟩, -, X101, ⟨Lc101, hQ101, l101, y101, z101⟩, st101⟩ := Jvm.LawKit.callS X98 hx (y := (⟨"com/example/wildebeest/wildebeest/core/CausalityCheckCheckedPinLaw", "event", "(IIZLcom/example/wildebeest/wildebeest/core/VectorTime;)Lcom/example/wildebeest/wildebeest/core/TraceEvent;"⟩ : MethodName)) hown (mvT hZ (hw _ (own_g (i := 66) rfl))) (mvT hZ (hw _ (own_g (i := 67) rfl))) (mvT hZ (hw _ (own_g (i := 68) rfl))) (mvT hZ (hw _ (own_g (i := 69) rfl))) (by decide) (backOf (W := 1) (rm_event l Z a0 hw [] (pk) (((pq.toUInt32 >>> ((5 : Int32) &&& 31).toUInt32).toInt32)) (s1) (v_w) (s_OL) (s_OE) (s_SEND) (s_RECEIVE) (s_REQUEST) (s_ENTER) (s_EXIT) (s_CRASH) (fl) (el) (kl) (s_NF) h14 n0 O14 (S_EventKind_REQUEST) (S_EventKind_ENTER) (S_EventKind_EXIT) (S_EventKind_CRASH) (OE_s_REQUEST) (OF_s_REQUEST_message) (OF_s_REQUEST_fields) (OE_s_ENTER) (OF_s_ENTER_message) (OF_s_ENTER_fields) (OE_s_EXIT) (OF_s_EXIT_message) (OF_s_EXIT_fields) (OE_s_CRASH) (OF_s_CRASH_message) (OF_s_CRASH_fields) (ne_s_REQUEST_s_SEND) (ne_s_REQUEST_s_RECEIVE) (ne_s_ENTER_s_SEND) (ne_s_ENTER_s_RECEIVE) (ne_s_EXIT_s_SEND) (ne_s_EXIT_s_RECEIVE) (ne_s_CRASH_s_SEND) (ne_s_CRASH_s_RECEIVE) (OE_fl) (OF_fl_elements) (OV_el) (S_TraceEvent_NO_FIELDS) (S_Optional_EMPTY) (OE_s_OE) (OF_s_OE_value) (S_OptionalLong_EMPTY) (OE_s_OL) (OF_s_OL_isPresent) (f100) (h_s1)) hZ (hw _ (own_g (i := 69) rfl)) (hw _ (own_g (i := 68) rfl)) (by decide) (by decide)) (g := (mkF m 118 #[.val (.int pq), .val (.int pk), .val (.long je1), .second, .val (.long je2), .second, .val (.ref v_w), .val (.ref b11), .val (.int (2 : Int32)), .val (.int s1), .val (.int s2), .val (.int s3), .val (.int (1 : Int32)), .val (.int (0 : Int32))] [(.ref v_w), (.int s1), (.int ((pq.toUInt32 >>> ((5 : Int32) &&& 31).toUInt32).toInt32)), (.int pk), (.ref b11)])) rfl (by rw [hml]; rfl) (argsL := [(.int pk), (.int ((pq.toUInt32 >>> ((5 : Int32) &&& 31).toUInt32).toInt32)), (.int s1), (.ref v_w)]) (rest := [(.ref b11)]) (lenOf pd_20 rfl) rfl (by show 2 * 0 + _ ≤ _; exact Nat.le_of_eq rfl) (hb hby at_118) (fun _ _ => ⟨rfl, e98, (by decide : 8 + 3 ≤ _), (by decide : 61 + 8 ≤ _)⟩)
    dsimp only [Pt.U, Pt.locs, Pt.cells, Pt.slots] at X101 l101 y101 z101 st101 hQ101
    subst l101 y101 z101
    obtain ⟨h101, e101⟩ : ∃ z, T101.heap = z := ⟨_, rfl⟩
    rw [e101] at hQ101
    obtain ⟨t_es1, kd_es1, pn_es1, vv_es1, rfl, Nq101, Kq101, p101_0, p101_1, p101_2, p101_3, p101_4, p101_5, p101_6, p101_7, p101_8⟩ := hQ101
    have N101 := Fr.app N98 Nq101
    have r101 : own_R p e below _ _ T101 (mkF m 121 #[.val (.int pq), .val (.int pk), .val (.long je1), .second, .val (.long je2), .second, .val (.ref v_w), .val (.ref b11), .val (.int (2 : Int32)), .val (.int s1), .val (.int s2), .val (.int s3), .val (.int (1 : Int32)), .val (.int (0 : Int32))] [(.ref t_es1), (.ref b11)]) := r99.trans fun z_ kt => st101 _ kt
    have f102 := (f15.keep Kq14 (ninS ne_b2_b11 nin0))
    have ne_b2_t_es1 : b2 ≠ t_es1 := Nat.ne_of_lt (Nat.lt_of_lt_of_le f102.lt p101_0)
    have ne_v_w_t_es1 : v_w ≠ t_es1 := Nat.ne_of_lt (Nat.lt_of_lt_of_le f100.lt p101_0)
    have f103 := (f17.keep Kq14 (ninS ne_bl_w_b11 nin0))
    have ne_bl_w_t_es1 : bl_w ≠ t_es1 := Nat.ne_of_lt (Nat.lt_of_lt_of_le f103.lt p101_0)
    have f104 := (f18.keep Kq14 (ninS ne_en_w_b11 nin0))
    have ne_en_w_t_es1 : en_w ≠ t_es1 := Nat.ne_of_lt (Nat.lt_of_lt_of_le f104.lt p101_0)
    have ne_b11_t_es1 : b11 ≠ t_es1 := Nat.ne_of_lt (Nat.lt_of_lt_of_le f96.lt p101_0)
    have ne_ev_14_t_es1 : ev_14 ≠ t_es1 := Nat.ne_of_lt (Nat.lt_of_lt_of_le p14_2.lt p101_0)
    have g_t_es1 : n0 ≤ t_es1 := Nat.le_trans (own_old_size O14) p101_0
    have O101 := O14.keep Kq101 all0
    have f105 := (f96.keep Kq101)
    have f106 := (p14_3.keep Kq101 nin0)
    have f107 := (p14_4.keep Kq101 nin0)
    have f108 := (p14_5.keep Kq101 nin0)
    have f109 := (p14_1.keep Kq101 nin0)
    have f110 := (p14_2.keep Kq101 nin0)
    have f111 := (f100.keep Kq101)
    have f112 := (((p9_3.ext E11).keep Kq14 (ninS ne_v_w_b11 nin0)).keep Kq101 nin0)
    have f113 := (((p9_4.ext E11).keep Kq14 (ninS ne_v_w_b11 nin0)).keep Kq101 nin0)
    have f114 := (((p9_5.ext E11).keep Kq14 (ninS ne_v_w_b11 nin0)).keep Kq101 nin0)
    have f115 := (f103.keep Kq101 nin0)
    have f116 := (f104.keep Kq101 nin0)
    obtain ⟨cq117, kq117, q117a, q117b, q117c⟩ := isOf hZ e101 f105
    obtain ⟨_, _, ⟨T117, L117, cc117, n117⟩, -, X117, ⟨Lc117, hQ117, l117, y117, z117⟩, st117⟩ := X101.virtualBack hx (y := (⟨"com/example/wildebeest/wildebeest/core/CausalityCheck", "accept", "(Lcom/example/wildebeest/wildebeest/core/TraceEvent;)V"⟩ : MethodName)) (z := (⟨"com/example/wildebeest/wildebeest/core/CausalityCheck", "accept", "(Lcom/example/wildebeest/wildebeest/core/TraceEvent;)V"⟩ : MethodName)) hown (mvT hZ (hw _ (own_g (i := 155) rfl))) (mvT hZ (hw _ (own_g (i := 156) rfl))) (notFace_of_selects (args := #[]) (mvT hZ (hw _ (own_g (i := 158) rfl)))) (mvT hZ (hw _ (own_g (i := 158) rfl))) (mvT hZ (hw _ (own_g (i := 157) rfl))) (by decide) (backOf (W := 0) (rm_accept l Z a0 hw [] (b11) (t_es1) ((0 : Int64)) ((0 : Int64)) ((0 : Int64)) (v_w) (kd_es1) (pn_es1) (vv_es1) (s1) (ev_14) (ke_14) ((0 : Int32)) ([]) (s_OE) (s_SEND) (s_RECEIVE) (bl_w) (kb_w) (en_w) (ke_w) (vse_w) h101 n0 O101 (f105) (g_b11) (p101_1) (p101_2) (p101_3) (p101_4) (f106) (f107) (f108) (f109) (f110) (g_ev_14) (Or.inl rfl) (rfl) (p101_6) (p101_5) (S_Optional_EMPTY) (OE_s_OE) (OF_s_OE_value) (S_EventKind_SEND) (S_EventKind_RECEIVE) (p101_7) (p101_8) (f111) (f112) (f113) (f114) (f115) (f116) (ne_bl_w_ev_14) (ne_en_w_ev_14)) hZ (hw _ (own_g (i := 159) rfl)) (hw _ (own_g (i := 32) rfl)) (by decide) (by decide)) q117a q117c (g := (mkF m 121 #[.val (.int pq), .val (.int pk), .val (.long je1), .second, .val (.long je2), .second, .val (.ref v_w), .val (.ref b11), .val (.int (2 : Int32)), .val (.int s1), .val (.int s2), .val (.int s3), .val (.int (1 : Int32)), .val (.int (0 : Int32))] [(.ref t_es1), (.ref b11)])) rfl (by rw [hml]; rfl) (Steps.refl _) (argsL := [(.ref t_es1)]) (rest := []) (lenOf pd_21 rfl) rfl (by show 2 * 0 + _ ≤ _; exact Nat.le_of_eq rfl) (hb hby at_121) (fun _ _ => ⟨rfl, e101, (by decide : 11 + 3 ≤ _), (by decide : 69 + 6 ≤ _)⟩)
    dsimp only [Pt.U, Pt.locs, Pt.cells, Pt.slots] at X117 l117 y117 z117 st117 hQ117
    subst l117 y117 z117
    obtain ⟨h117, e117⟩ : ∃ z, T117.heap = z := ⟨_, rfl⟩
    rw [e117] at hQ117
    obtain ⟨ev2_as1, kv2_as1, z2_as1, vs2_as1, js2_as1, ju2_as1, jv2_as1, rfl, Nq117, Kq117, p117_0, p117_1, p117_2, p117_3, p117_4, p117_5, p117_6, p117_7, p117_8⟩ := hQ117
    have N117 := Fr.app N101 Nq117
    have r117 : own_R p e below _ _ T117 (mkF m 124 #[.val (.int pq), .val (.int pk), .val (.long je1), .second, .val (.long je2), .second, .val (.ref v_w), .val (.ref b11), .val (.int (2 : Int32)), .val (.int s1), .val (.int s2), .val (.int s3), .val (.int (1 : Int32)), .val (.int (0 : Int32))] []) := r101.trans fun z_ kt => st117.trans kt
    have f118 := (f102.keep Kq101 nin0)
    have ne_b2_ev2_as1 : b2 ≠ ev2_as1 := own_fe p117_0 ne_b2_ev_14 f118.lt
    have ne_v_w_ev2_as1 : v_w ≠ ev2_as1 := own_fe p117_0 ne_v_w_ev_14 f111.lt
    have ne_bl_w_ev2_as1 : bl_w ≠ ev2_as1 := own_fe p117_0 ne_bl_w_ev_14 f115.lt
    have ne_en_w_ev2_as1 : en_w ≠ ev2_as1 := own_fe p117_0 ne_en_w_ev_14 f116.lt
    have ne_b11_ev2_as1 : b11 ≠ ev2_as1 := own_fe p117_0 ne_b11_ev_14 f105.lt
    have ne_t_es1_ev2_as1 : t_es1 ≠ ev2_as1 := own_fe p117_0 (Ne.symm ne_ev_14_t_es1) p101_1.lt
    have g_ev2_as1 : n0 ≤ ev2_as1 := own_feg p117_0 g_ev_14 (own_old_size O101)
    have O117 := O101.keep Kq117 (allS g_b11 (allS g_ev_14 all0))
    have ra1 := own_any1 p117_8
    have f119 := (f105.keep Kq117)
    have r120 : own_R p e below _ _ T117 (mkF m 135 #[.val (.int pq), .val (.int pk), .val (.long je1), .second, .val (.long je2), .second, .val (.ref v_w), .val (.ref b11), .val (.int (2 : Int32)), .val (.int s1), .val (.int s2), .val (.int s3), .val (.int (1 : Int32)), .val (.int s1)] [(.ref b11)]) := r117.trans fun z_ kt => by
      refine XS.iload X117.here hx rfl (hb hby at_124) rfl ?_
      refine XS.istore X117.here hx rfl (hb hby at_126) rfl (l' := #[.val (.int pq), .val (.int pk), .val (.long je1), .second, .val (.long je2), .second, .val (.ref v_w), .val (.ref b11), .val (.int (2 : Int32)), .val (.int s1), .val (.int s2), .val (.int s3), .val (.int (1 : Int32)), .val (.int s1)]) rfl ?_
      refine XS.iload X117.here hx rfl (hb hby at_128) rfl ?_
      refine XS.ifNo X117.here hx rfl (hb hby at_130) rfl ((if0 _ _).trans (feq (by decide : ¬ ((1 : Int32) = (0 : Int32)))).1) ?_
      refine XS.aload X117.here hx rfl (hb hby at_133) rfl rfl ?_
      exact kt
    obtain ⟨cq121, kq121, q121a, q121b, q121c⟩ := isOf hZ e117 f119
    obtain ⟨_, _, ⟨T121, L121, cc121, n121⟩, -, X121, ⟨Lc121, hQ121, l121, y121, z121⟩, st121⟩ := X117.virtualBack hx (y := (⟨"com/example/wildebeest/wildebeest/core/CausalityCheck", "checked", "()Z"⟩ : MethodName)) (z := (⟨"com/example/wildebeest/wildebeest/core/CausalityCheck", "checked", "()Z"⟩ : MethodName)) hown (mvT hZ (hw _ (own_g (i := 59) rfl))) (mvT hZ (hw _ (own_g (i := 60) rfl))) (notFace_of_selects (args := #[]) (mvT hZ (hw _ (own_g (i := 62) rfl)))) (mvT hZ (hw _ (own_g (i := 62) rfl))) (mvT hZ (hw _ (own_g (i := 61) rfl))) (by decide) (backOf (W := 0) (rm_checked l Z a0 hw [] (b11) (js2_as1) (s1) h117 n0 O117 (p117_3) (own_chk ra1)) hZ (hw _ (own_g (i := 63) rfl)) (hw _ (own_g (i := 32) rfl)) (by decide) (by decide)) q121a q121c (g := (mkF m 135 #[.val (.int pq), .val (.int pk), .val (.long je1), .second, .val (.long je2), .second, .val (.ref v_w), .val (.ref b11), .val (.int (2 : Int32)), .val (.int s1), .val (.int s2), .val (.int s3), .val (.int (1 : Int32)), .val (.int s1)] [(.ref b11)])) rfl (by rw [hml]; rfl) (Steps.refl _) (argsL := []) (rest := []) (lenOf pd_5 rfl) rfl (by show 2 * 0 + _ ≤ _; exact Nat.le_of_eq rfl) (hb hby at_135) (fun _ _ => ⟨rfl, e117, (by decide : 14 + 0 ≤ _), (by decide : 75 + 0 ≤ _)⟩)
    dsimp only [Pt.U, Pt.locs, Pt.cells, Pt.slots] at X121 l121 y121 z121 st121 hQ121
    subst l121 y121 z121
    obtain ⟨rfl, Nq121, eq121⟩ := hQ121
    have N121 := Fr.app N117 Nq121
    have r121 : own_R p e below _ _ T121 (mkF m 138 #[.val (.int pq), .val (.int pk), .val (.long je1), .second, .val (.long je2), .second, .val (.ref v_w), .val (.ref b11), .val (.int (2 : Int32)), .val (.int s1), .val (.int s2), .val (.int s3), .val (.int (1 : Int32)), .val (.int s1)] [(.int s1)]) := r120.trans fun z_ kt => st121.trans kt
    have e121 : T121.heap = h117 := eq121
    have r122 : own_R p e below _ _ T121 (mkF m 169 #[.val (.int pq), .val (.int pk), .val (.long je1), .second, .val (.long je2), .second, .val (.ref v_w), .val (.ref b11), .val (.int (2 : Int32)), .val (.int s1), .val (.int s2), .val (.int s3), .val (.int (1 : Int32)), .val (.int s1)] [(.ref v_w), (.int s2), (.int ((pq.toUInt32 >>> ((6 : Int32) &&& 31).toUInt32).toInt32)), (.int ((pk.toUInt32 >>> ((2 : Int32) &&& 31).toUInt32).toInt32)), (.ref b11)]) := r121.trans fun z_ kt => by
      refine XS.iload X121.here hx rfl (hb hby at_138) rfl ?_
      refine XS.icmpNo X121.here hx rfl (hb hby at_140) rfl (teq (rfl : s1 = s1)).2 ?_
      refine XS.iconst X121.here hx rfl (hb hby at_143) ?_
      refine XS.goto X121.here hx rfl (pc0 := 144) (pc' := 148) rfl (hb hby at_144) (by decide) (by decide) ?_
      refine XS.istore X121.here hx rfl (hb hby at_148) rfl (l' := #[.val (.int pq), .val (.int pk), .val (.long je1), .second, .val (.long je2), .second, .val (.ref v_w), .val (.ref b11), .val (.int (2 : Int32)), .val (.int s1), .val (.int s2), .val (.int s3), .val (.int (1 : Int32)), .val (.int s1)]) rfl ?_
      refine XS.iload X121.here hx rfl (hb hby at_150) rfl ?_
      refine XS.iconst X121.here hx rfl (hb hby at_152) ?_
      refine XS.icmpNo X121.here hx rfl (hb hby at_153) rfl (flt (by decide : ¬ ((2 : Int32) < (2 : Int32)))).1 ?_
      refine XS.aload X121.here hx rfl (hb hby at_156) rfl rfl ?_
      refine XS.iloadN X121.here hx rfl (hb hby at_158) rfl ?_
      refine XS.iconst X121.here hx rfl (hb hby at_159) ?_
      refine XS.iushr X121.here hx rfl (hb hby at_160) rfl ?_
      refine XS.iloadN X121.here hx rfl (hb hby at_161) rfl ?_
      refine XS.bipush X121.here hx rfl (hb hby at_162) ?_
      refine XS.iushr X121.here hx rfl (hb hby at_164) rfl ?_
      refine XS.iload X121.here hx rfl (hb hby at_165) rfl ?_
      refine XS.aload X121.here hx rfl (hb hby at_167) rfl rfl ?_
      exact kt
    have f123 := (f111.keep Kq117)
    obtain ⟨_, _, ⟨T124, L124, cc124, n124⟩, -, X124, ⟨Lc124, hQ124, l124, y124, z124⟩, st124⟩ := Jvm.LawKit.callS X121 hx (y := (⟨"com/example/wildebeest/wildebeest/core/CausalityCheckCheckedPinLaw", "event", "(IIZLcom/example/wildebeest/wildebeest/core/VectorTime;)Lcom/example/wildebeest/wildebeest/core/TraceEvent;"⟩ : MethodName)) hown (mvT hZ (hw _ (own_g (i := 66) rfl))) (mvT hZ (hw _ (own_g (i := 67) rfl))) (mvT hZ (hw _ (own_g (i := 68) rfl))) (mvT hZ (hw _ (own_g (i := 69) rfl))) (by decide) (backOf (W := 1) (rm_event l Z a0 hw [] (((pk.toUInt32 >>> ((2 : Int32) &&& 31).toUInt32).toInt32)) (((pq.toUInt32 >>> ((6 : Int32) &&& 31).toUInt32).toInt32)) (s2) (v_w) (s_OL) (s_OE) (s_SEND) (s_RECEIVE) (s_REQUEST) (s_ENTER) (s_EXIT) (s_CRASH) (fl) (el) (kl) (s_NF) h117 n0 O117 (S_EventKind_REQUEST) (S_EventKind_ENTER) (S_EventKind_EXIT) (S_EventKind_CRASH) (OE_s_REQUEST) (OF_s_REQUEST_message) (OF_s_REQUEST_fields) (OE_s_ENTER) (OF_s_ENTER_message) (OF_s_ENTER_fields) (OE_s_EXIT) (OF_s_EXIT_message) (OF_s_EXIT_fields) (OE_s_CRASH) (OF_s_CRASH_message) (OF_s_CRASH_fields) (ne_s_REQUEST_s_SEND) (ne_s_REQUEST_s_RECEIVE) (ne_s_ENTER_s_SEND) (ne_s_ENTER_s_RECEIVE) (ne_s_EXIT_s_SEND) (ne_s_EXIT_s_RECEIVE) (ne_s_CRASH_s_SEND) (ne_s_CRASH_s_RECEIVE) (OE_fl) (OF_fl_elements) (OV_el) (S_TraceEvent_NO_FIELDS) (S_Optional_EMPTY) (OE_s_OE) (OF_s_OE_value) (S_OptionalLong_EMPTY) (OE_s_OL) (OF_s_OL_isPresent) (f123) (h_s2)) hZ (hw _ (own_g (i := 69) rfl)) (hw _ (own_g (i := 68) rfl)) (by decide) (by decide)) (g := (mkF m 169 #[.val (.int pq), .val (.int pk), .val (.long je1), .second, .val (.long je2), .second, .val (.ref v_w), .val (.ref b11), .val (.int (2 : Int32)), .val (.int s1), .val (.int s2), .val (.int s3), .val (.int (1 : Int32)), .val (.int s1)] [(.ref v_w), (.int s2), (.int ((pq.toUInt32 >>> ((6 : Int32) &&& 31).toUInt32).toInt32)), (.int ((pk.toUInt32 >>> ((2 : Int32) &&& 31).toUInt32).toInt32)), (.ref b11)])) rfl (by rw [hml]; rfl) (argsL := [(.int ((pk.toUInt32 >>> ((2 : Int32) &&& 31).toUInt32).toInt32)), (.int ((pq.toUInt32 >>> ((6 : Int32) &&& 31).toUInt32).toInt32)), (.int s2), (.ref v_w)]) (rest := [(.ref b11)]) (lenOf pd_20 rfl) rfl (by show 2 * 0 + _ ≤ _; exact Nat.le_of_eq rfl) (hb hby at_169) (fun _ _ => ⟨rfl, e121, (by decide : 14 + 3 ≤ _), (by decide : 75 + 8 ≤ _)⟩)
    dsimp only [Pt.U, Pt.locs, Pt.cells, Pt.slots] at X124 l124 y124 z124 st124 hQ124
    subst l124 y124 z124
    obtain ⟨h124, e124⟩ : ∃ z, T124.heap = z := ⟨_, rfl⟩
    rw [e124] at hQ124
    obtain ⟨t_es2, kd_es2, pn_es2, vv_es2, rfl, Nq124, Kq124, p124_0, p124_1, p124_2, p124_3, p124_4, p124_5, p124_6, p124_7, p124_8⟩ := hQ124
    have N124 := Fr.app N121 Nq124
    have r124 : own_R p e below _ _ T124 (mkF m 172 #[.val (.int pq), .val (.int pk), .val (.long je1), .second, .val (.long je2), .second, .val (.ref v_w), .val (.ref b11), .val (.int (2 : Int32)), .val (.int s1), .val (.int s2), .val (.int s3), .val (.int (1 : Int32)), .val (.int s1)] [(.ref t_es2), (.ref b11)]) := r122.trans fun z_ kt => st124 _ kt
    have f125 := (f118.keep Kq117 (ninS ne_b2_b11 (ninS ne_b2_ev_14 nin0)))
    have ne_b2_t_es2 : b2 ≠ t_es2 := Nat.ne_of_lt (Nat.lt_of_lt_of_le f125.lt p124_0)
    have ne_v_w_t_es2 : v_w ≠ t_es2 := Nat.ne_of_lt (Nat.lt_of_lt_of_le f123.lt p124_0)
    have f126 := (f115.keep Kq117 (ninS ne_bl_w_b11 (ninS ne_bl_w_ev_14 nin0)))
    have ne_bl_w_t_es2 : bl_w ≠ t_es2 := Nat.ne_of_lt (Nat.lt_of_lt_of_le f126.lt p124_0)
    have f127 := (f116.keep Kq117 (ninS ne_en_w_b11 (ninS ne_en_w_ev_14 nin0)))
    have ne_en_w_t_es2 : en_w ≠ t_es2 := Nat.ne_of_lt (Nat.lt_of_lt_of_le f127.lt p124_0)
    have ne_b11_t_es2 : b11 ≠ t_es2 := Nat.ne_of_lt (Nat.lt_of_lt_of_le f119.lt p124_0)
    have f128 := (p101_1.keep Kq117)
    have ne_t_es1_t_es2 : t_es1 ≠ t_es2 := Nat.ne_of_lt (Nat.lt_of_lt_of_le f128.lt p124_0)
    have ne_ev2_as1_t_es2 : ev2_as1 ≠ t_es2 := Nat.ne_of_lt (Nat.lt_of_lt_of_le p117_2.lt p124_0)
    have g_t_es2 : n0 ≤ t_es2 := Nat.le_trans (own_old_size O117) p124_0
    have O124 := O117.keep Kq124 all0
    have f129 := (f119.keep Kq124)
    have f130 := (p117_3.keep Kq124 nin0)
    have f131 := (p117_4.keep Kq124 nin0)
    have f132 := (p117_5.keep Kq124 nin0)
    have f133 := (p117_1.keep Kq124 nin0)
    have f134 := (p117_2.keep Kq124 nin0)
    have f135 := (f123.keep Kq124)
    have f136 := ((f112.keep Kq117 (ninS ne_v_w_b11 (ninS ne_v_w_ev_14 nin0))).keep Kq124 nin0)
    have f137 := ((f113.keep Kq117 (ninS ne_v_w_b11 (ninS ne_v_w_ev_14 nin0))).keep Kq124 nin0)
    have f138 := ((f114.keep Kq117 (ninS ne_v_w_b11 (ninS ne_v_w_ev_14 nin0))).keep Kq124 nin0)
    have f139 := (f126.keep Kq124 nin0)
    have f140 := (f127.keep Kq124 nin0)
    obtain ⟨cq141, kq141, q141a, q141b, q141c⟩ := isOf hZ e124 f129
    obtain ⟨_, _, ⟨T141, L141, cc141, n141⟩, -, X141, ⟨Lc141, hQ141, l141, y141, z141⟩, st141⟩ := X124.virtualBack hx (y := (⟨"com/example/wildebeest/wildebeest/core/CausalityCheck", "accept", "(Lcom/example/wildebeest/wildebeest/core/TraceEvent;)V"⟩ : MethodName)) (z := (⟨"com/example/wildebeest/wildebeest/core/CausalityCheck", "accept", "(Lcom/example/wildebeest/wildebeest/core/TraceEvent;)V"⟩ : MethodName)) hown (mvT hZ (hw _ (own_g (i := 155) rfl))) (mvT hZ (hw _ (own_g (i := 156) rfl))) (notFace_of_selects (args := #[]) (mvT hZ (hw _ (own_g (i := 158) rfl)))) (mvT hZ (hw _ (own_g (i := 158) rfl))) (mvT hZ (hw _ (own_g (i := 157) rfl))) (by decide) (backOf (W := 0) (rm_accept l Z a0 hw [] (b11) (t_es2) (js2_as1) (ju2_as1) (jv2_as1) (v_w) (kd_es2) (pn_es2) (vv_es2) (s2) (ev2_as1) (kv2_as1) (z2_as1) (vs2_as1) (s_OE) (s_SEND) (s_RECEIVE) (bl_w) (kb_w) (en_w) (ke_w) (vse_w) h124 n0 O124 (f129) (g_b11) (p124_1) (p124_2) (p124_3) (p124_4) (f130) (f131) (f132) (f133) (f134) (g_ev2_as1) (p117_6) (p117_7) (p124_6) (p124_5) (S_Optional_EMPTY) (OE_s_OE) (OF_s_OE_value) (S_EventKind_SEND) (S_EventKind_RECEIVE) (p124_7) (p124_8) (f135) (f136) (f137) (f138) (f139) (f140) (ne_bl_w_ev2_as1) (ne_en_w_ev2_as1)) hZ (hw _ (own_g (i := 159) rfl)) (hw _ (own_g (i := 32) rfl)) (by decide) (by decide)) q141a q141c (g := (mkF m 172 #[.val (.int pq), .val (.int pk), .val (.long je1), .second, .val (.long je2), .second, .val (.ref v_w), .val (.ref b11), .val (.int (2 : Int32)), .val (.int s1), .val (.int s2), .val (.int s3), .val (.int (1 : Int32)), .val (.int s1)] [(.ref t_es2), (.ref b11)])) rfl (by rw [hml]; rfl) (Steps.refl _) (argsL := [(.ref t_es2)]) (rest := []) (lenOf pd_21 rfl) rfl (by show 2 * 0 + _ ≤ _; exact Nat.le_of_eq rfl) (hb hby at_172) (fun _ _ => ⟨rfl, e124, (by decide : 17 + 3 ≤ _), (by decide : 83 + 6 ≤ _)⟩)
    dsimp only [Pt.U, Pt.locs, Pt.cells, Pt.slots] at X141 l141 y141 z141 st141 hQ141
    subst l141 y141 z141
    obtain ⟨h141, e141⟩ : ∃ z, T141.heap = z := ⟨_, rfl⟩
    rw [e141] at hQ141
    obtain ⟨ev2_as2, kv2_as2, z2_as2, vs2_as2, js2_as2, ju2_as2, jv2_as2, rfl, Nq141, Kq141, p141_0, p141_1, p141_2, p141_3, p141_4, p141_5, p141_6, p141_7, p141_8⟩ := hQ141
    have N141 := Fr.app N124 Nq141
    have r141 : own_R p e below _ _ T141 (mkF m 175 #[.val (.int pq), .val (.int pk), .val (.long je1), .second, .val (.long je2), .second, .val (.ref v_w), .val (.ref b11), .val (.int (2 : Int32)), .val (.int s1), .val (.int s2), .val (.int s3), .val (.int (1 : Int32)), .val (.int s1)] []) := r124.trans fun z_ kt => st141.trans kt
    have f142 := (f125.keep Kq124 nin0)
    have ne_b2_ev2_as2 : b2 ≠ ev2_as2 := own_fe p141_0 ne_b2_ev2_as1 f142.lt
    have ne_v_w_ev2_as2 : v_w ≠ ev2_as2 := own_fe p141_0 ne_v_w_ev2_as1 f135.lt
    have ne_bl_w_ev2_as2 : bl_w ≠ ev2_as2 := own_fe p141_0 ne_bl_w_ev2_as1 f139.lt
    have ne_en_w_ev2_as2 : en_w ≠ ev2_as2 := own_fe p141_0 ne_en_w_ev2_as1 f140.lt
    have ne_b11_ev2_as2 : b11 ≠ ev2_as2 := own_fe p141_0 ne_b11_ev2_as1 f129.lt
    have f143 := (f128.keep Kq124)
    have ne_t_es1_ev2_as2 : t_es1 ≠ ev2_as2 := own_fe p141_0 ne_t_es1_ev2_as1 f143.lt
    have ne_t_es2_ev2_as2 : t_es2 ≠ ev2_as2 := own_fe p141_0 (Ne.symm ne_ev2_as1_t_es2) p124_1.lt
    have g_ev2_as2 : n0 ≤ ev2_as2 := own_feg p141_0 g_ev2_as1 (own_old_size O124)
    have O141 := O124.keep Kq141 (allS g_b11 (allS g_ev2_as1 all0))
    have r144 : own_R p e below _ _ T141 (mkF m 177 #[.val (.int pq), .val (.int pk), .val (.long je1), .second, .val (.long je2), .second, .val (.ref v_w), .val (.ref b11), .val (.int (2 : Int32)), .val (.int s1), .val (.int s2), .val (.int s3), .val (.int (1 : Int32)), .val (.int s1)] [(.int s1)]) := r141.trans fun z_ kt => by
      refine XS.iload X141.here hx rfl (hb hby at_175) rfl ?_
      exact kt
    obtain ⟨y2, h_y2, r145⟩ : ∃ y2 : Int32, ((y2 = (1 : Int32) ∧ ¬ (s1 = (0 : Int32) ∧ s2 = (0 : Int32))) ∨ (y2 = (0 : Int32) ∧ s1 = (0 : Int32) ∧ s2 = (0 : Int32))) ∧ own_R p e below s₁ (mkF m 0 #[.val (.int pq), .val (.int pk), .val (.long je1), .second, .val (.long je2), .second, .unset, .unset, .unset, .unset, .unset, .unset, .unset, .unset] []) T141 (mkF m 190 #[.val (.int pq), .val (.int pk), .val (.long je1), .second, .val (.long je2), .second, .val (.ref v_w), .val (.ref b11), .val (.int (2 : Int32)), .val (.int s1), .val (.int s2), .val (.int s3), .val (.int (1 : Int32)), .val (.int s1)] [(.int y2)]) := by
      by_cases hc177_146 : s1 = (0 : Int32)
      · skip
        have r147 : own_R p e below _ _ T141 (mkF m 182 #[.val (.int pq), .val (.int pk), .val (.long je1), .second, .val (.long je2), .second, .val (.ref v_w), .val (.ref b11), .val (.int (2 : Int32)), .val (.int s1), .val (.int s2), .val (.int s3), .val (.int (1 : Int32)), .val (.int s1)] [(.int s2)]) := r144.trans fun z_ kt => by
          refine XS.ifNo X141.here hx rfl (hb hby at_177) rfl ((if0 _ _).trans (teq (hc177_146 : s1 = (0 : Int32))).2) ?_
          refine XS.iload X141.here hx rfl (hb hby at_180) rfl ?_
          exact kt
        by_cases hc182_148 : s2 = (0 : Int32)
        · skip
          have r149 : own_R p e below _ _ T141 (mkF m 190 #[.val (.int pq), .val (.int pk), .val (.long je1), .second, .val (.long je2), .second, .val (.ref v_w), .val (.ref b11), .val (.int (2 : Int32)), .val (.int s1), .val (.int s2), .val (.int s3), .val (.int (1 : Int32)), .val (.int s1)] [(.int (0 : Int32))]) := r147.trans fun z_ kt => by
            refine XS.ifYes X141.here hx rfl (pc0 := 182) (pc' := 189) rfl (hb hby at_182) rfl ((if0 _ _).trans (teq (hc182_148 : s2 = (0 : Int32))).1) (by decide) (by decide) ?_
            refine XS.iconst X141.here hx rfl (hb hby at_189) ?_
            exact kt
          exact ⟨(0 : Int32), Or.inr ⟨rfl, hc177_146, hc182_148⟩, r149⟩
        · skip
          have r150 : own_R p e below _ _ T141 (mkF m 190 #[.val (.int pq), .val (.int pk), .val (.long je1), .second, .val (.long je2), .second, .val (.ref v_w), .val (.ref b11), .val (.int (2 : Int32)), .val (.int s1), .val (.int s2), .val (.int s3), .val (.int (1 : Int32)), .val (.int s1)] [(.int (1 : Int32))]) := r147.trans fun z_ kt => by
            refine XS.ifNo X141.here hx rfl (hb hby at_182) rfl ((if0 _ _).trans (feq (hc182_148 : ¬ (s2 = (0 : Int32)))).1) ?_
            refine XS.iconst X141.here hx rfl (hb hby at_185) ?_
            refine XS.goto X141.here hx rfl (pc0 := 186) (pc' := 190) rfl (hb hby at_186) (by decide) (by decide) ?_
            exact kt
          exact ⟨(1 : Int32), Or.inl ⟨rfl, own_not2 hc182_148⟩, r150⟩
      · skip
        have r151 : own_R p e below _ _ T141 (mkF m 190 #[.val (.int pq), .val (.int pk), .val (.long je1), .second, .val (.long je2), .second, .val (.ref v_w), .val (.ref b11), .val (.int (2 : Int32)), .val (.int s1), .val (.int s2), .val (.int s3), .val (.int (1 : Int32)), .val (.int s1)] [(.int (1 : Int32))]) := r144.trans fun z_ kt => by
          refine XS.ifYes X141.here hx rfl (pc0 := 177) (pc' := 185) rfl (hb hby at_177) rfl ((if0 _ _).trans (feq (hc177_146 : ¬ (s1 = (0 : Int32)))).2) (by decide) (by decide) ?_
          refine XS.iconst X141.here hx rfl (hb hby at_185) ?_
          refine XS.goto X141.here hx rfl (pc0 := 186) (pc' := 190) rfl (hb hby at_186) (by decide) (by decide) ?_
          exact kt
        exact ⟨(1 : Int32), Or.inl ⟨rfl, own_not1 hc177_146⟩, r151⟩
    have ra_y2 := own_any (by decide) h_y2 p141_8 ra1
    have f152 := (f129.keep Kq141)
    have r153 : own_R p e below _ _ T141 (mkF m 199 #[.val (.int pq), .val (.int pk), .val (.long je1), .second, .val (.long je2), .second, .val (.ref v_w), .val (.ref b11), .val (.int (2 : Int32)), .val (.int s1), .val (.int s2), .val (.int s3), .val (.int (1 : Int32)), .val (.int y2)] [(.ref b11)]) := r145.trans fun z_ kt => by
      refine XS.istore X141.here hx rfl (hb hby at_190) rfl (l' := #[.val (.int pq), .val (.int pk), .val (.long je1), .second, .val (.long je2), .second, .val (.ref v_w), .val (.ref b11), .val (.int (2 : Int32)), .val (.int s1), .val (.int s2), .val (.int s3), .val (.int (1 : Int32)), .val (.int y2)]) rfl ?_
      refine XS.iload X141.here hx rfl (hb hby at_192) rfl ?_
      refine XS.ifNo X141.here hx rfl (hb hby at_194) rfl ((if0 _ _).trans (feq (by decide : ¬ ((1 : Int32) = (0 : Int32)))).1) ?_
      refine XS.aload X141.here hx rfl (hb hby at_197) rfl rfl ?_
      exact kt
    obtain ⟨cq154, kq154, q154a, q154b, q154c⟩ := isOf hZ e141 f152
    obtain ⟨_, _, ⟨T154, L154, cc154, n154⟩, -, X154, ⟨Lc154, hQ154, l154, y154, z154⟩, st154⟩ := X141.virtualBack hx (y := (⟨"com/example/wildebeest/wildebeest/core/CausalityCheck", "checked", "()Z"⟩ : MethodName)) (z := (⟨"com/example/wildebeest/wildebeest/core/CausalityCheck", "checked", "()Z"⟩ : MethodName)) hown (mvT hZ (hw _ (own_g (i := 59) rfl))) (mvT hZ (hw _ (own_g (i := 60) rfl))) (notFace_of_selects (args := #[]) (mvT hZ (hw _ (own_g (i := 62) rfl)))) (mvT hZ (hw _ (own_g (i := 62) rfl))) (mvT hZ (hw _ (own_g (i := 61) rfl))) (by decide) (backOf (W := 0) (rm_checked l Z a0 hw [] (b11) (js2_as2) (y2) h141 n0 O141 (p141_3) (own_chk ra_y2)) hZ (hw _ (own_g (i := 63) rfl)) (hw _ (own_g (i := 32) rfl)) (by decide) (by decide)) q154a q154c (g := (mkF m 199 #[.val (.int pq), .val (.int pk), .val (.long je1), .second, .val (.long je2), .second, .val (.ref v_w), .val (.ref b11), .val (.int (2 : Int32)), .val (.int s1), .val (.int s2), .val (.int s3), .val (.int (1 : Int32)), .val (.int y2)] [(.ref b11)])) rfl (by rw [hml]; rfl) (Steps.refl _) (argsL := []) (rest := []) (lenOf pd_5 rfl) rfl (by show 2 * 0 + _ ≤ _; exact Nat.le_of_eq rfl) (hb hby at_199) (fun _ _ => ⟨rfl, e141, (by decide : 20 + 0 ≤ _), (by decide : 89 + 0 ≤ _)⟩)
    dsimp only [Pt.U, Pt.locs, Pt.cells, Pt.slots] at X154 l154 y154 z154 st154 hQ154
    subst l154 y154 z154
    obtain ⟨rfl, Nq154, eq154⟩ := hQ154
    have N154 := Fr.app N141 Nq154
    have r154 : own_R p e below _ _ T154 (mkF m 202 #[.val (.int pq), .val (.int pk), .val (.long je1), .second, .val (.long je2), .second, .val (.ref v_w), .val (.ref b11), .val (.int (2 : Int32)), .val (.int s1), .val (.int s2), .val (.int s3), .val (.int (1 : Int32)), .val (.int y2)] [(.int y2)]) := r153.trans fun z_ kt => st154.trans kt
    have e154 : T154.heap = h141 := eq154
    have r155 : own_R p e below _ _ T154 (mkF m 280 #[.val (.int pq), .val (.int pk), .val (.long je1), .second, .val (.long je2), .second, .val (.ref v_w), .val (.ref b11), .val (.int (2 : Int32)), .val (.int s1), .val (.int s2), .val (.int s3), .val (.int (1 : Int32)), .val (.int y2)] [(.int (1 : Int32))]) := r154.trans fun z_ kt => by
      refine XS.iload X154.here hx rfl (hb hby at_202) rfl ?_
      refine XS.icmpNo X154.here hx rfl (hb hby at_204) rfl (teq (rfl : y2 = y2)).2 ?_
      refine XS.iconst X154.here hx rfl (hb hby at_207) ?_
      refine XS.goto X154.here hx rfl (pc0 := 208) (pc' := 212) rfl (hb hby at_208) (by decide) (by decide) ?_
      refine XS.istore X154.here hx rfl (hb hby at_212) rfl (l' := #[.val (.int pq), .val (.int pk), .val (.long je1), .second, .val (.long je2), .second, .val (.ref v_w), .val (.ref b11), .val (.int (2 : Int32)), .val (.int s1), .val (.int s2), .val (.int s3), .val (.int (1 : Int32)), .val (.int y2)]) rfl ?_
      refine XS.iload X154.here hx rfl (hb hby at_214) rfl ?_
      refine XS.iconst X154.here hx rfl (hb hby at_216) ?_
      refine XS.icmpYes X154.here hx rfl (pc0 := 217) (pc' := 278) rfl (hb hby at_217) rfl (tlt (by decide : (2 : Int32) < (3 : Int32))).1 (by decide) (by decide) ?_
      refine XS.iload X154.here hx rfl (hb hby at_278) rfl ?_
      exact kt
    obtain ⟨fs_, hr_, hrun_, hended_, hW_, hsame_⟩ := X154.leave (v := some (.int (1 : Int32))) (fun h => by rw [Bd.returns] at h; cases h)
    refine ⟨_, _, pre0 _ (r155 _ ?_), hrun_, hended_, _, _, rfl, ?_, ⟨_, rfl⟩, hW_, hsame_.mono (by decide) (by decide)⟩
    · exact retN X154 hx (t := .boolean) Bd.returns (by simp) (hb hby at_280) hr_
    · show Q_law Z pq pk je1 je2 s_OL s_OE s_SEND s_RECEIVE s_REQUEST s_ENTER s_EXIT s_CRASH fl el kl s_NF s_ZV kz vz h0 n0 _ T154.heap _
      rw [e154]
      exact ⟨rfl, N154⟩
  · skip
    have r156 : own_R p e below _ _ T14 (mkF m 44 #[.val (.int pq), .val (.int pk), .val (.long je1), .second, .val (.long je2), .second, .val (.ref v_w), .val (.ref b11), .val (.int (3 : Int32)), .unset, .unset, .unset, .unset, .unset] [(.int (((pq.toUInt32 >>> ((2 : Int32) &&& 31).toUInt32).toInt32) &&& (1 : Int32)))]) := r19.trans fun z_ kt => by
      refine XS.iloadN X14.here hx rfl (hb hby at_39) rfl ?_
      refine XS.iconst X14.here hx rfl (hb hby at_40) ?_
      refine XS.iushr X14.here hx rfl (hb hby at_41) rfl ?_
      refine XS.iconst X14.here hx rfl (hb hby at_42) ?_
      refine XS.iand X14.here hx rfl (hb hby at_43) rfl ?_
      exact kt
    obtain ⟨s1, h_s1, r157⟩ : ∃ s1 : Int32, (s1 = (0 : Int32) ∨ s1 = (1 : Int32)) ∧ own_R p e below s₁ (mkF m 0 #[.val (.int pq), .val (.int pk), .val (.long je1), .second, .val (.long je2), .second, .unset, .unset, .unset, .unset, .unset, .unset, .unset, .unset] []) T14 (mkF m 52 #[.val (.int pq), .val (.int pk), .val (.long je1), .second, .val (.long je2), .second, .val (.ref v_w), .val (.ref b11), .val (.int (3 : Int32)), .unset, .unset, .unset, .unset, .unset] [(.int s1)]) := by
      by_cases hc44_158 : (((pq.toUInt32 >>> ((2 : Int32) &&& 31).toUInt32).toInt32) &&& (1 : Int32)) = (0 : Int32)
      · skip
        have r159 : own_R p e below _ _ T14 (mkF m 52 #[.val (.int pq), .val (.int pk), .val (.long je1), .second, .val (.long je2), .second, .val (.ref v_w), .val (.ref b11), .val (.int (3 : Int32)), .unset, .unset, .unset, .unset, .unset] [(.int (0 : Int32))]) := r156.trans fun z_ kt => by
          refine XS.ifYes X14.here hx rfl (pc0 := 44) (pc' := 51) rfl (hb hby at_44) rfl ((if0 _ _).trans (teq (hc44_158 : (((pq.toUInt32 >>> ((2 : Int32) &&& 31).toUInt32).toInt32) &&& (1 : Int32)) = (0 : Int32))).1) (by decide) (by decide) ?_
          refine XS.iconst X14.here hx rfl (hb hby at_51) ?_
          exact kt
        exact ⟨(0 : Int32), Or.inl rfl, r159⟩
      · skip
        have r160 : own_R p e below _ _ T14 (mkF m 52 #[.val (.int pq), .val (.int pk), .val (.long je1), .second, .val (.long je2), .second, .val (.ref v_w), .val (.ref b11), .val (.int (3 : Int32)), .unset, .unset, .unset, .unset, .unset] [(.int (1 : Int32))]) := r156.trans fun z_ kt => by
          refine XS.ifNo X14.here hx rfl (hb hby at_44) rfl ((if0 _ _).trans (feq (hc44_158 : ¬ ((((pq.toUInt32 >>> ((2 : Int32) &&& 31).toUInt32).toInt32) &&& (1 : Int32)) = (0 : Int32)))).1) ?_
          refine XS.iconst X14.here hx rfl (hb hby at_47) ?_
          refine XS.goto X14.here hx rfl (pc0 := 48) (pc' := 52) rfl (hb hby at_48) (by decide) (by decide) ?_
          exact kt
        exact ⟨(1 : Int32), Or.inr rfl, r160⟩
    have r161 : own_R p e below _ _ T14 (mkF m 59 #[.val (.int pq), .val (.int pk), .val (.long je1), .second, .val (.long je2), .second, .val (.ref v_w), .val (.ref b11), .val (.int (3 : Int32)), .val (.int s1), .unset, .unset, .unset, .unset] [(.int (((pq.toUInt32 >>> ((3 : Int32) &&& 31).toUInt32).toInt32) &&& (1 : Int32)))]) := r157.trans fun z_ kt => by
      refine XS.istore X14.here hx rfl (hb hby at_52) rfl (l' := #[.val (.int pq), .val (.int pk), .val (.long je1), .second, .val (.long je2), .second, .val (.ref v_w), .val (.ref b11), .val (.int (3 : Int32)), .val (.int s1), .unset, .unset, .unset, .unset]) rfl ?_
      refine XS.iloadN X14.here hx rfl (hb hby at_54) rfl ?_
      refine XS.iconst X14.here hx rfl (hb hby at_55) ?_
      refine XS.iushr X14.here hx rfl (hb hby at_56) rfl ?_
      refine XS.iconst X14.here hx rfl (hb hby at_57) ?_
      refine XS.iand X14.here hx rfl (hb hby at_58) rfl ?_
      exact kt
    obtain ⟨s2, h_s2, r162⟩ : ∃ s2 : Int32, (s2 = (0 : Int32) ∨ s2 = (1 : Int32)) ∧ own_R p e below s₁ (mkF m 0 #[.val (.int pq), .val (.int pk), .val (.long je1), .second, .val (.long je2), .second, .unset, .unset, .unset, .unset, .unset, .unset, .unset, .unset] []) T14 (mkF m 67 #[.val (.int pq), .val (.int pk), .val (.long je1), .second, .val (.long je2), .second, .val (.ref v_w), .val (.ref b11), .val (.int (3 : Int32)), .val (.int s1), .unset, .unset, .unset, .unset] [(.int s2)]) := by
      by_cases hc59_163 : (((pq.toUInt32 >>> ((3 : Int32) &&& 31).toUInt32).toInt32) &&& (1 : Int32)) = (0 : Int32)
      · skip
        have r164 : own_R p e below _ _ T14 (mkF m 67 #[.val (.int pq), .val (.int pk), .val (.long je1), .second, .val (.long je2), .second, .val (.ref v_w), .val (.ref b11), .val (.int (3 : Int32)), .val (.int s1), .unset, .unset, .unset, .unset] [(.int (0 : Int32))]) := r161.trans fun z_ kt => by
          refine XS.ifYes X14.here hx rfl (pc0 := 59) (pc' := 66) rfl (hb hby at_59) rfl ((if0 _ _).trans (teq (hc59_163 : (((pq.toUInt32 >>> ((3 : Int32) &&& 31).toUInt32).toInt32) &&& (1 : Int32)) = (0 : Int32))).1) (by decide) (by decide) ?_
          refine XS.iconst X14.here hx rfl (hb hby at_66) ?_
          exact kt
        exact ⟨(0 : Int32), Or.inl rfl, r164⟩
      · skip
        have r165 : own_R p e below _ _ T14 (mkF m 67 #[.val (.int pq), .val (.int pk), .val (.long je1), .second, .val (.long je2), .second, .val (.ref v_w), .val (.ref b11), .val (.int (3 : Int32)), .val (.int s1), .unset, .unset, .unset, .unset] [(.int (1 : Int32))]) := r161.trans fun z_ kt => by
          refine XS.ifNo X14.here hx rfl (hb hby at_59) rfl ((if0 _ _).trans (feq (hc59_163 : ¬ ((((pq.toUInt32 >>> ((3 : Int32) &&& 31).toUInt32).toInt32) &&& (1 : Int32)) = (0 : Int32)))).1) ?_
          refine XS.iconst X14.here hx rfl (hb hby at_62) ?_
          refine XS.goto X14.here hx rfl (pc0 := 63) (pc' := 67) rfl (hb hby at_63) (by decide) (by decide) ?_
          exact kt
        exact ⟨(1 : Int32), Or.inr rfl, r165⟩
    have r166 : own_R p e below _ _ T14 (mkF m 74 #[.val (.int pq), .val (.int pk), .val (.long je1), .second, .val (.long je2), .second, .val (.ref v_w), .val (.ref b11), .val (.int (3 : Int32)), .val (.int s1), .val (.int s2), .unset, .unset, .unset] [(.int (((pq.toUInt32 >>> ((4 : Int32) &&& 31).toUInt32).toInt32) &&& (1 : Int32)))]) := r162.trans fun z_ kt => by
      refine XS.istore X14.here hx rfl (hb hby at_67) rfl (l' := #[.val (.int pq), .val (.int pk), .val (.long je1), .second, .val (.long je2), .second, .val (.ref v_w), .val (.ref b11), .val (.int (3 : Int32)), .val (.int s1), .val (.int s2), .unset, .unset, .unset]) rfl ?_
      refine XS.iloadN X14.here hx rfl (hb hby at_69) rfl ?_
      refine XS.iconst X14.here hx rfl (hb hby at_70) ?_
      refine XS.iushr X14.here hx rfl (hb hby at_71) rfl ?_
      refine XS.iconst X14.here hx rfl (hb hby at_72) ?_
      refine XS.iand X14.here hx rfl (hb hby at_73) rfl ?_
      exact kt
    obtain ⟨s3, h_s3, r167⟩ : ∃ s3 : Int32, (s3 = (0 : Int32) ∨ s3 = (1 : Int32)) ∧ own_R p e below s₁ (mkF m 0 #[.val (.int pq), .val (.int pk), .val (.long je1), .second, .val (.long je2), .second, .unset, .unset, .unset, .unset, .unset, .unset, .unset, .unset] []) T14 (mkF m 82 #[.val (.int pq), .val (.int pk), .val (.long je1), .second, .val (.long je2), .second, .val (.ref v_w), .val (.ref b11), .val (.int (3 : Int32)), .val (.int s1), .val (.int s2), .unset, .unset, .unset] [(.int s3)]) := by
      by_cases hc74_168 : (((pq.toUInt32 >>> ((4 : Int32) &&& 31).toUInt32).toInt32) &&& (1 : Int32)) = (0 : Int32)
      · skip
        have r169 : own_R p e below _ _ T14 (mkF m 82 #[.val (.int pq), .val (.int pk), .val (.long je1), .second, .val (.long je2), .second, .val (.ref v_w), .val (.ref b11), .val (.int (3 : Int32)), .val (.int s1), .val (.int s2), .unset, .unset, .unset] [(.int (0 : Int32))]) := r166.trans fun z_ kt => by
          refine XS.ifYes X14.here hx rfl (pc0 := 74) (pc' := 81) rfl (hb hby at_74) rfl ((if0 _ _).trans (teq (hc74_168 : (((pq.toUInt32 >>> ((4 : Int32) &&& 31).toUInt32).toInt32) &&& (1 : Int32)) = (0 : Int32))).1) (by decide) (by decide) ?_
          refine XS.iconst X14.here hx rfl (hb hby at_81) ?_
          exact kt
        exact ⟨(0 : Int32), Or.inl rfl, r169⟩
      · skip
        have r170 : own_R p e below _ _ T14 (mkF m 82 #[.val (.int pq), .val (.int pk), .val (.long je1), .second, .val (.long je2), .second, .val (.ref v_w), .val (.ref b11), .val (.int (3 : Int32)), .val (.int s1), .val (.int s2), .unset, .unset, .unset] [(.int (1 : Int32))]) := r166.trans fun z_ kt => by
          refine XS.ifNo X14.here hx rfl (hb hby at_74) rfl ((if0 _ _).trans (feq (hc74_168 : ¬ ((((pq.toUInt32 >>> ((4 : Int32) &&& 31).toUInt32).toInt32) &&& (1 : Int32)) = (0 : Int32)))).1) ?_
          refine XS.iconst X14.here hx rfl (hb hby at_77) ?_
          refine XS.goto X14.here hx rfl (pc0 := 78) (pc' := 82) rfl (hb hby at_78) (by decide) (by decide) ?_
          exact kt
        exact ⟨(1 : Int32), Or.inr rfl, r170⟩
    have f171 := (A11.keep Kq14)
    have r172 : own_R p e below _ _ T14 (mkF m 86 #[.val (.int pq), .val (.int pk), .val (.long je1), .second, .val (.long je2), .second, .val (.ref v_w), .val (.ref b11), .val (.int (3 : Int32)), .val (.int s1), .val (.int s2), .val (.int s3), .unset, .unset] [(.ref b11)]) := r167.trans fun z_ kt => by
      refine XS.istore X14.here hx rfl (hb hby at_82) rfl (l' := #[.val (.int pq), .val (.int pk), .val (.long je1), .second, .val (.long je2), .second, .val (.ref v_w), .val (.ref b11), .val (.int (3 : Int32)), .val (.int s1), .val (.int s2), .val (.int s3), .unset, .unset]) rfl ?_
      refine XS.aload X14.here hx rfl (hb hby at_84) rfl rfl ?_
      exact kt
    obtain ⟨cq173, kq173, q173a, q173b, q173c⟩ := isOf hZ e14 f171
    obtain ⟨_, _, ⟨T173, L173, cc173, n173⟩, -, X173, ⟨Lc173, hQ173, l173, y173, z173⟩, st173⟩ := X14.virtualBack hx (y := (⟨"com/example/wildebeest/wildebeest/core/CausalityCheck", "checked", "()Z"⟩ : MethodName)) (z := (⟨"com/example/wildebeest/wildebeest/core/CausalityCheck", "checked", "()Z"⟩ : MethodName)) hown (mvT hZ (hw _ (own_g (i := 59) rfl))) (mvT hZ (hw _ (own_g (i := 60) rfl))) (notFace_of_selects (args := #[]) (mvT hZ (hw _ (own_g (i := 62) rfl)))) (mvT hZ (hw _ (own_g (i := 62) rfl))) (mvT hZ (hw _ (own_g (i := 61) rfl))) (by decide) (backOf (W := 0) (rm_checked l Z a0 hw [] (b11) ((0 : Int64)) ((0 : Int32)) h14 n0 O14 (p14_3) (Or.inr ⟨rfl, by decide⟩)) hZ (hw _ (own_g (i := 63) rfl)) (hw _ (own_g (i := 32) rfl)) (by decide) (by decide)) q173a q173c (g := (mkF m 86 #[.val (.int pq), .val (.int pk), .val (.long je1), .second, .val (.long je2), .second, .val (.ref v_w), .val (.ref b11), .val (.int (3 : Int32)), .val (.int s1), .val (.int s2), .val (.int s3), .unset, .unset] [(.ref b11)])) rfl (by rw [hml]; rfl) (Steps.refl _) (argsL := []) (rest := []) (lenOf pd_5 rfl) rfl (by show 2 * 0 + _ ≤ _; exact Nat.le_of_eq rfl) (hb hby at_86) (fun _ _ => ⟨rfl, e14, (by decide : 8 + 0 ≤ _), (by decide : 61 + 0 ≤ _)⟩)
    dsimp only [Pt.U, Pt.locs, Pt.cells, Pt.slots] at X173 l173 y173 z173 st173 hQ173
    subst l173 y173 z173
    obtain ⟨rfl, Nq173, eq173⟩ := hQ173
    have N173 := Fr.app N14 Nq173
    have r173 : own_R p e below _ _ T173 (mkF m 89 #[.val (.int pq), .val (.int pk), .val (.long je1), .second, .val (.long je2), .second, .val (.ref v_w), .val (.ref b11), .val (.int (3 : Int32)), .val (.int s1), .val (.int s2), .val (.int s3), .unset, .unset] [(.int (0 : Int32))]) := r172.trans fun z_ kt => st173.trans kt
    have e173 : T173.heap = h14 := eq173
    have r174 : own_R p e below _ _ T173 (mkF m 118 #[.val (.int pq), .val (.int pk), .val (.long je1), .second, .val (.long je2), .second, .val (.ref v_w), .val (.ref b11), .val (.int (3 : Int32)), .val (.int s1), .val (.int s2), .val (.int s3), .val (.int (1 : Int32)), .val (.int (0 : Int32))] [(.ref v_w), (.int s1), (.int ((pq.toUInt32 >>> ((5 : Int32) &&& 31).toUInt32).toInt32)), (.int pk), (.ref b11)]) := r173.trans fun z_ kt => by
      refine XS.ifNo X173.here hx rfl (hb hby at_89) rfl ((if0 _ _).trans (teq (by decide : (0 : Int32) = (0 : Int32))).2) ?_
      refine XS.iconst X173.here hx rfl (hb hby at_92) ?_
      refine XS.goto X173.here hx rfl (pc0 := 93) (pc' := 97) rfl (hb hby at_93) (by decide) (by decide) ?_
      refine XS.istore X173.here hx rfl (hb hby at_97) rfl (l' := #[.val (.int pq), .val (.int pk), .val (.long je1), .second, .val (.long je2), .second, .val (.ref v_w), .val (.ref b11), .val (.int (3 : Int32)), .val (.int s1), .val (.int s2), .val (.int s3), .val (.int (1 : Int32)), .unset]) rfl ?_
      refine XS.iconst X173.here hx rfl (hb hby at_99) ?_
      refine XS.istore X173.here hx rfl (hb hby at_100) rfl (l' := #[.val (.int pq), .val (.int pk), .val (.long je1), .second, .val (.long je2), .second, .val (.ref v_w), .val (.ref b11), .val (.int (3 : Int32)), .val (.int s1), .val (.int s2), .val (.int s3), .val (.int (1 : Int32)), .val (.int (0 : Int32))]) rfl ?_
      refine XS.iload X173.here hx rfl (hb hby at_102) rfl ?_
      refine XS.iconst X173.here hx rfl (hb hby at_104) ?_
      refine XS.icmpNo X173.here hx rfl (hb hby at_105) rfl (flt (by decide : ¬ ((3 : Int32) < (1 : Int32)))).1 ?_
      refine XS.aload X173.here hx rfl (hb hby at_108) rfl rfl ?_
      refine XS.iloadN X173.here hx rfl (hb hby at_110) rfl ?_
      refine XS.iloadN X173.here hx rfl (hb hby at_111) rfl ?_
      refine XS.iconst X173.here hx rfl (hb hby at_112) ?_
      refine XS.iushr X173.here hx rfl (hb hby at_113) rfl ?_
      refine XS.iload X173.here hx rfl (hb hby at_114) rfl ?_
      refine XS.aload X173.here hx rfl (hb hby at_116) rfl rfl ?_
      exact kt
    have f175 := (f16.keep Kq14)
    obtain ⟨_, _, ⟨T176, L176, cc176, n176⟩, -, X176, ⟨Lc176, hQ176, l176, y176, z176⟩, st176⟩ := Jvm.LawKit.callS X173 hx (y := (⟨"com/example/wildebeest/wildebeest/core/CausalityCheckCheckedPinLaw", "event", "(IIZLcom/example/wildebeest/wildebeest/core/VectorTime;)Lcom/example/wildebeest/wildebeest/core/TraceEvent;"⟩ : MethodName)) hown (mvT hZ (hw _ (own_g (i := 66) rfl))) (mvT hZ (hw _ (own_g (i := 67) rfl))) (mvT hZ (hw _ (own_g (i := 68) rfl))) (mvT hZ (hw _ (own_g (i := 69) rfl))) (by decide) (backOf (W := 1) (rm_event l Z a0 hw [] (pk) (((pq.toUInt32 >>> ((5 : Int32) &&& 31).toUInt32).toInt32)) (s1) (v_w) (s_OL) (s_OE) (s_SEND) (s_RECEIVE) (s_REQUEST) (s_ENTER) (s_EXIT) (s_CRASH) (fl) (el) (kl) (s_NF) h14 n0 O14 (S_EventKind_REQUEST) (S_EventKind_ENTER) (S_EventKind_EXIT) (S_EventKind_CRASH) (OE_s_REQUEST) (OF_s_REQUEST_message) (OF_s_REQUEST_fields) (OE_s_ENTER) (OF_s_ENTER_message) (OF_s_ENTER_fields) (OE_s_EXIT) (OF_s_EXIT_message) (OF_s_EXIT_fields) (OE_s_CRASH) (OF_s_CRASH_message) (OF_s_CRASH_fields) (ne_s_REQUEST_s_SEND) (ne_s_REQUEST_s_RECEIVE) (ne_s_ENTER_s_SEND) (ne_s_ENTER_s_RECEIVE) (ne_s_EXIT_s_SEND) (ne_s_EXIT_s_RECEIVE) (ne_s_CRASH_s_SEND) (ne_s_CRASH_s_RECEIVE) (OE_fl) (OF_fl_elements) (OV_el) (S_TraceEvent_NO_FIELDS) (S_Optional_EMPTY) (OE_s_OE) (OF_s_OE_value) (S_OptionalLong_EMPTY) (OE_s_OL) (OF_s_OL_isPresent) (f175) (h_s1)) hZ (hw _ (own_g (i := 69) rfl)) (hw _ (own_g (i := 68) rfl)) (by decide) (by decide)) (g := (mkF m 118 #[.val (.int pq), .val (.int pk), .val (.long je1), .second, .val (.long je2), .second, .val (.ref v_w), .val (.ref b11), .val (.int (3 : Int32)), .val (.int s1), .val (.int s2), .val (.int s3), .val (.int (1 : Int32)), .val (.int (0 : Int32))] [(.ref v_w), (.int s1), (.int ((pq.toUInt32 >>> ((5 : Int32) &&& 31).toUInt32).toInt32)), (.int pk), (.ref b11)])) rfl (by rw [hml]; rfl) (argsL := [(.int pk), (.int ((pq.toUInt32 >>> ((5 : Int32) &&& 31).toUInt32).toInt32)), (.int s1), (.ref v_w)]) (rest := [(.ref b11)]) (lenOf pd_20 rfl) rfl (by show 2 * 0 + _ ≤ _; exact Nat.le_of_eq rfl) (hb hby at_118) (fun _ _ => ⟨rfl, e173, (by decide : 8 + 3 ≤ _), (by decide : 61 + 8 ≤ _)⟩)
    dsimp only [Pt.U, Pt.locs, Pt.cells, Pt.slots] at X176 l176 y176 z176 st176 hQ176
    subst l176 y176 z176
    obtain ⟨h176, e176⟩ : ∃ z, T176.heap = z := ⟨_, rfl⟩
    rw [e176] at hQ176
    obtain ⟨t_es1, kd_es1, pn_es1, vv_es1, rfl, Nq176, Kq176, p176_0, p176_1, p176_2, p176_3, p176_4, p176_5, p176_6, p176_7, p176_8⟩ := hQ176
    have N176 := Fr.app N173 Nq176
    have r176 : own_R p e below _ _ T176 (mkF m 121 #[.val (.int pq), .val (.int pk), .val (.long je1), .second, .val (.long je2), .second, .val (.ref v_w), .val (.ref b11), .val (.int (3 : Int32)), .val (.int s1), .val (.int s2), .val (.int s3), .val (.int (1 : Int32)), .val (.int (0 : Int32))] [(.ref t_es1), (.ref b11)]) := r174.trans fun z_ kt => st176 _ kt
    have f177 := (f15.keep Kq14 (ninS ne_b2_b11 nin0))
    have ne_b2_t_es1 : b2 ≠ t_es1 := Nat.ne_of_lt (Nat.lt_of_lt_of_le f177.lt p176_0)
    have ne_v_w_t_es1 : v_w ≠ t_es1 := Nat.ne_of_lt (Nat.lt_of_lt_of_le f175.lt p176_0)
    have f178 := (f17.keep Kq14 (ninS ne_bl_w_b11 nin0))
    have ne_bl_w_t_es1 : bl_w ≠ t_es1 := Nat.ne_of_lt (Nat.lt_of_lt_of_le f178.lt p176_0)
    have f179 := (f18.keep Kq14 (ninS ne_en_w_b11 nin0))
    have ne_en_w_t_es1 : en_w ≠ t_es1 := Nat.ne_of_lt (Nat.lt_of_lt_of_le f179.lt p176_0)
    have ne_b11_t_es1 : b11 ≠ t_es1 := Nat.ne_of_lt (Nat.lt_of_lt_of_le f171.lt p176_0)
    have ne_ev_14_t_es1 : ev_14 ≠ t_es1 := Nat.ne_of_lt (Nat.lt_of_lt_of_le p14_2.lt p176_0)
    have g_t_es1 : n0 ≤ t_es1 := Nat.le_trans (own_old_size O14) p176_0
    have O176 := O14.keep Kq176 all0
    have f180 := (f171.keep Kq176)
    have f181 := (p14_3.keep Kq176 nin0)
    have f182 := (p14_4.keep Kq176 nin0)
    have f183 := (p14_5.keep Kq176 nin0)
    have f184 := (p14_1.keep Kq176 nin0)
    have f185 := (p14_2.keep Kq176 nin0)
    have f186 := (f175.keep Kq176)
    have f187 := (((p9_3.ext E11).keep Kq14 (ninS ne_v_w_b11 nin0)).keep Kq176 nin0)
    have f188 := (((p9_4.ext E11).keep Kq14 (ninS ne_v_w_b11 nin0)).keep Kq176 nin0)
    have f189 := (((p9_5.ext E11).keep Kq14 (ninS ne_v_w_b11 nin0)).keep Kq176 nin0)
    have f190 := (f178.keep Kq176 nin0)
    have f191 := (f179.keep Kq176 nin0)
    obtain ⟨cq192, kq192, q192a, q192b, q192c⟩ := isOf hZ e176 f180
    obtain ⟨_, _, ⟨T192, L192, cc192, n192⟩, -, X192, ⟨Lc192, hQ192, l192, y192, z192⟩, st192⟩ := X176.virtualBack hx (y := (⟨"com/example/wildebeest/wildebeest/core/CausalityCheck", "accept", "(Lcom/example/wildebeest/wildebeest/core/TraceEvent;)V"⟩ : MethodName)) (z := (⟨"com/example/wildebeest/wildebeest/core/CausalityCheck", "accept", "(Lcom/example/wildebeest/wildebeest/core/TraceEvent;)V"⟩ : MethodName)) hown (mvT hZ (hw _ (own_g (i := 155) rfl))) (mvT hZ (hw _ (own_g (i := 156) rfl))) (notFace_of_selects (args := #[]) (mvT hZ (hw _ (own_g (i := 158) rfl)))) (mvT hZ (hw _ (own_g (i := 158) rfl))) (mvT hZ (hw _ (own_g (i := 157) rfl))) (by decide) (backOf (W := 0) (rm_accept l Z a0 hw [] (b11) (t_es1) ((0 : Int64)) ((0 : Int64)) ((0 : Int64)) (v_w) (kd_es1) (pn_es1) (vv_es1) (s1) (ev_14) (ke_14) ((0 : Int32)) ([]) (s_OE) (s_SEND) (s_RECEIVE) (bl_w) (kb_w) (en_w) (ke_w) (vse_w) h176 n0 O176 (f180) (g_b11) (p176_1) (p176_2) (p176_3) (p176_4) (f181) (f182) (f183) (f184) (f185) (g_ev_14) (Or.inl rfl) (rfl) (p176_6) (p176_5) (S_Optional_EMPTY) (OE_s_OE) (OF_s_OE_value) (S_EventKind_SEND) (S_EventKind_RECEIVE) (p176_7) (p176_8) (f186) (f187) (f188) (f189) (f190) (f191) (ne_bl_w_ev_14) (ne_en_w_ev_14)) hZ (hw _ (own_g (i := 159) rfl)) (hw _ (own_g (i := 32) rfl)) (by decide) (by decide)) q192a q192c (g := (mkF m 121 #[.val (.int pq), .val (.int pk), .val (.long je1), .second, .val (.long je2), .second, .val (.ref v_w), .val (.ref b11), .val (.int (3 : Int32)), .val (.int s1), .val (.int s2), .val (.int s3), .val (.int (1 : Int32)), .val (.int (0 : Int32))] [(.ref t_es1), (.ref b11)])) rfl (by rw [hml]; rfl) (Steps.refl _) (argsL := [(.ref t_es1)]) (rest := []) (lenOf pd_21 rfl) rfl (by show 2 * 0 + _ ≤ _; exact Nat.le_of_eq rfl) (hb hby at_121) (fun _ _ => ⟨rfl, e176, (by decide : 11 + 3 ≤ _), (by decide : 69 + 6 ≤ _)⟩)
    dsimp only [Pt.U, Pt.locs, Pt.cells, Pt.slots] at X192 l192 y192 z192 st192 hQ192
    subst l192 y192 z192
    obtain ⟨h192, e192⟩ : ∃ z, T192.heap = z := ⟨_, rfl⟩
    rw [e192] at hQ192
    obtain ⟨ev2_as1, kv2_as1, z2_as1, vs2_as1, js2_as1, ju2_as1, jv2_as1, rfl, Nq192, Kq192, p192_0, p192_1, p192_2, p192_3, p192_4, p192_5, p192_6, p192_7, p192_8⟩ := hQ192
    have N192 := Fr.app N176 Nq192
    have r192 : own_R p e below _ _ T192 (mkF m 124 #[.val (.int pq), .val (.int pk), .val (.long je1), .second, .val (.long je2), .second, .val (.ref v_w), .val (.ref b11), .val (.int (3 : Int32)), .val (.int s1), .val (.int s2), .val (.int s3), .val (.int (1 : Int32)), .val (.int (0 : Int32))] []) := r176.trans fun z_ kt => st192.trans kt
    have f193 := (f177.keep Kq176 nin0)
    have ne_b2_ev2_as1 : b2 ≠ ev2_as1 := own_fe p192_0 ne_b2_ev_14 f193.lt
    have ne_v_w_ev2_as1 : v_w ≠ ev2_as1 := own_fe p192_0 ne_v_w_ev_14 f186.lt
    have ne_bl_w_ev2_as1 : bl_w ≠ ev2_as1 := own_fe p192_0 ne_bl_w_ev_14 f190.lt
    have ne_en_w_ev2_as1 : en_w ≠ ev2_as1 := own_fe p192_0 ne_en_w_ev_14 f191.lt
    have ne_b11_ev2_as1 : b11 ≠ ev2_as1 := own_fe p192_0 ne_b11_ev_14 f180.lt
    have ne_t_es1_ev2_as1 : t_es1 ≠ ev2_as1 := own_fe p192_0 (Ne.symm ne_ev_14_t_es1) p176_1.lt
    have g_ev2_as1 : n0 ≤ ev2_as1 := own_feg p192_0 g_ev_14 (own_old_size O176)
    have O192 := O176.keep Kq192 (allS g_b11 (allS g_ev_14 all0))
    have ra1 := own_any1 p192_8
    have f194 := (f180.keep Kq192)
    have r195 : own_R p e below _ _ T192 (mkF m 135 #[.val (.int pq), .val (.int pk), .val (.long je1), .second, .val (.long je2), .second, .val (.ref v_w), .val (.ref b11), .val (.int (3 : Int32)), .val (.int s1), .val (.int s2), .val (.int s3), .val (.int (1 : Int32)), .val (.int s1)] [(.ref b11)]) := r192.trans fun z_ kt => by
      refine XS.iload X192.here hx rfl (hb hby at_124) rfl ?_
      refine XS.istore X192.here hx rfl (hb hby at_126) rfl (l' := #[.val (.int pq), .val (.int pk), .val (.long je1), .second, .val (.long je2), .second, .val (.ref v_w), .val (.ref b11), .val (.int (3 : Int32)), .val (.int s1), .val (.int s2), .val (.int s3), .val (.int (1 : Int32)), .val (.int s1)]) rfl ?_
      refine XS.iload X192.here hx rfl (hb hby at_128) rfl ?_
      refine XS.ifNo X192.here hx rfl (hb hby at_130) rfl ((if0 _ _).trans (feq (by decide : ¬ ((1 : Int32) = (0 : Int32)))).1) ?_
      refine XS.aload X192.here hx rfl (hb hby at_133) rfl rfl ?_
      exact kt
    obtain ⟨cq196, kq196, q196a, q196b, q196c⟩ := isOf hZ e192 f194
    obtain ⟨_, _, ⟨T196, L196, cc196, n196⟩, -, X196, ⟨Lc196, hQ196, l196, y196, z196⟩, st196⟩ := X192.virtualBack hx (y := (⟨"com/example/wildebeest/wildebeest/core/CausalityCheck", "checked", "()Z"⟩ : MethodName)) (z := (⟨"com/example/wildebeest/wildebeest/core/CausalityCheck", "checked", "()Z"⟩ : MethodName)) hown (mvT hZ (hw _ (own_g (i := 59) rfl))) (mvT hZ (hw _ (own_g (i := 60) rfl))) (notFace_of_selects (args := #[]) (mvT hZ (hw _ (own_g (i := 62) rfl)))) (mvT hZ (hw _ (own_g (i := 62) rfl))) (mvT hZ (hw _ (own_g (i := 61) rfl))) (by decide) (backOf (W := 0) (rm_checked l Z a0 hw [] (b11) (js2_as1) (s1) h192 n0 O192 (p192_3) (own_chk ra1)) hZ (hw _ (own_g (i := 63) rfl)) (hw _ (own_g (i := 32) rfl)) (by decide) (by decide)) q196a q196c (g := (mkF m 135 #[.val (.int pq), .val (.int pk), .val (.long je1), .second, .val (.long je2), .second, .val (.ref v_w), .val (.ref b11), .val (.int (3 : Int32)), .val (.int s1), .val (.int s2), .val (.int s3), .val (.int (1 : Int32)), .val (.int s1)] [(.ref b11)])) rfl (by rw [hml]; rfl) (Steps.refl _) (argsL := []) (rest := []) (lenOf pd_5 rfl) rfl (by show 2 * 0 + _ ≤ _; exact Nat.le_of_eq rfl) (hb hby at_135) (fun _ _ => ⟨rfl, e192, (by decide : 14 + 0 ≤ _), (by decide : 75 + 0 ≤ _)⟩)
    dsimp only [Pt.U, Pt.locs, Pt.cells, Pt.slots] at X196 l196 y196 z196 st196 hQ196
    subst l196 y196 z196
    obtain ⟨rfl, Nq196, eq196⟩ := hQ196
    have N196 := Fr.app N192 Nq196
    have r196 : own_R p e below _ _ T196 (mkF m 138 #[.val (.int pq), .val (.int pk), .val (.long je1), .second, .val (.long je2), .second, .val (.ref v_w), .val (.ref b11), .val (.int (3 : Int32)), .val (.int s1), .val (.int s2), .val (.int s3), .val (.int (1 : Int32)), .val (.int s1)] [(.int s1)]) := r195.trans fun z_ kt => st196.trans kt
    have e196 : T196.heap = h192 := eq196
    have r197 : own_R p e below _ _ T196 (mkF m 169 #[.val (.int pq), .val (.int pk), .val (.long je1), .second, .val (.long je2), .second, .val (.ref v_w), .val (.ref b11), .val (.int (3 : Int32)), .val (.int s1), .val (.int s2), .val (.int s3), .val (.int (1 : Int32)), .val (.int s1)] [(.ref v_w), (.int s2), (.int ((pq.toUInt32 >>> ((6 : Int32) &&& 31).toUInt32).toInt32)), (.int ((pk.toUInt32 >>> ((2 : Int32) &&& 31).toUInt32).toInt32)), (.ref b11)]) := r196.trans fun z_ kt => by
      refine XS.iload X196.here hx rfl (hb hby at_138) rfl ?_
      refine XS.icmpNo X196.here hx rfl (hb hby at_140) rfl (teq (rfl : s1 = s1)).2 ?_
      refine XS.iconst X196.here hx rfl (hb hby at_143) ?_
      refine XS.goto X196.here hx rfl (pc0 := 144) (pc' := 148) rfl (hb hby at_144) (by decide) (by decide) ?_
      refine XS.istore X196.here hx rfl (hb hby at_148) rfl (l' := #[.val (.int pq), .val (.int pk), .val (.long je1), .second, .val (.long je2), .second, .val (.ref v_w), .val (.ref b11), .val (.int (3 : Int32)), .val (.int s1), .val (.int s2), .val (.int s3), .val (.int (1 : Int32)), .val (.int s1)]) rfl ?_
      refine XS.iload X196.here hx rfl (hb hby at_150) rfl ?_
      refine XS.iconst X196.here hx rfl (hb hby at_152) ?_
      refine XS.icmpNo X196.here hx rfl (hb hby at_153) rfl (flt (by decide : ¬ ((3 : Int32) < (2 : Int32)))).1 ?_
      refine XS.aload X196.here hx rfl (hb hby at_156) rfl rfl ?_
      refine XS.iloadN X196.here hx rfl (hb hby at_158) rfl ?_
      refine XS.iconst X196.here hx rfl (hb hby at_159) ?_
      refine XS.iushr X196.here hx rfl (hb hby at_160) rfl ?_
      refine XS.iloadN X196.here hx rfl (hb hby at_161) rfl ?_
      refine XS.bipush X196.here hx rfl (hb hby at_162) ?_
      refine XS.iushr X196.here hx rfl (hb hby at_164) rfl ?_
      refine XS.iload X196.here hx rfl (hb hby at_165) rfl ?_
      refine XS.aload X196.here hx rfl (hb hby at_167) rfl rfl ?_
      exact kt
    have f198 := (f186.keep Kq192)
    obtain ⟨_, _, ⟨T199, L199, cc199, n199⟩, -, X199, ⟨Lc199, hQ199, l199, y199, z199⟩, st199⟩ := Jvm.LawKit.callS X196 hx (y := (⟨"com/example/wildebeest/wildebeest/core/CausalityCheckCheckedPinLaw", "event", "(IIZLcom/example/wildebeest/wildebeest/core/VectorTime;)Lcom/example/wildebeest/wildebeest/core/TraceEvent;"⟩ : MethodName)) hown (mvT hZ (hw _ (own_g (i := 66) rfl))) (mvT hZ (hw _ (own_g (i := 67) rfl))) (mvT hZ (hw _ (own_g (i := 68) rfl))) (mvT hZ (hw _ (own_g (i := 69) rfl))) (by decide) (backOf (W := 1) (rm_event l Z a0 hw [] (((pk.toUInt32 >>> ((2 : Int32) &&& 31).toUInt32).toInt32)) (((pq.toUInt32 >>> ((6 : Int32) &&& 31).toUInt32).toInt32)) (s2) (v_w) (s_OL) (s_OE) (s_SEND) (s_RECEIVE) (s_REQUEST) (s_ENTER) (s_EXIT) (s_CRASH) (fl) (el) (kl) (s_NF) h192 n0 O192 (S_EventKind_REQUEST) (S_EventKind_ENTER) (S_EventKind_EXIT) (S_EventKind_CRASH) (OE_s_REQUEST) (OF_s_REQUEST_message) (OF_s_REQUEST_fields) (OE_s_ENTER) (OF_s_ENTER_message) (OF_s_ENTER_fields) (OE_s_EXIT) (OF_s_EXIT_message) (OF_s_EXIT_fields) (OE_s_CRASH) (OF_s_CRASH_message) (OF_s_CRASH_fields) (ne_s_REQUEST_s_SEND) (ne_s_REQUEST_s_RECEIVE) (ne_s_ENTER_s_SEND) (ne_s_ENTER_s_RECEIVE) (ne_s_EXIT_s_SEND) (ne_s_EXIT_s_RECEIVE) (ne_s_CRASH_s_SEND) (ne_s_CRASH_s_RECEIVE) (OE_fl) (OF_fl_elements) (OV_el) (S_TraceEvent_NO_FIELDS) (S_Optional_EMPTY) (OE_s_OE) (OF_s_OE_value) (S_OptionalLong_EMPTY) (OE_s_OL) (OF_s_OL_isPresent) (f198) (h_s2)) hZ (hw _ (own_g (i := 69) rfl)) (hw _ (own_g (i := 68) rfl)) (by decide) (by decide)) (g := (mkF m 169 #[.val (.int pq), .val (.int pk), .val (.long je1), .second, .val (.long je2), .second, .val (.ref v_w), .val (.ref b11), .val (.int (3 : Int32)), .val (.int s1), .val (.int s2), .val (.int s3), .val (.int (1 : Int32)), .val (.int s1)] [(.ref v_w), (.int s2), (.int ((pq.toUInt32 >>> ((6 : Int32) &&& 31).toUInt32).toInt32)), (.int ((pk.toUInt32 >>> ((2 : Int32) &&& 31).toUInt32).toInt32)), (.ref b11)])) rfl (by rw [hml]; rfl) (argsL := [(.int ((pk.toUInt32 >>> ((2 : Int32) &&& 31).toUInt32).toInt32)), (.int ((pq.toUInt32 >>> ((6 : Int32) &&& 31).toUInt32).toInt32)), (.int s2), (.ref v_w)]) (rest := [(.ref b11)]) (lenOf pd_20 rfl) rfl (by show 2 * 0 + _ ≤ _; exact Nat.le_of_eq rfl) (hb hby at_169) (fun _ _ => ⟨rfl, e196, (by decide : 14 + 3 ≤ _), (by decide : 75 + 8 ≤ _)⟩)
    dsimp only [Pt.U, Pt.locs, Pt.cells, Pt.slots] at X199 l199 y199 z199 st199 hQ199
    subst l199 y199 z199
    obtain ⟨h199, e199⟩ : ∃ z, T199.heap = z := ⟨_, rfl⟩
    rw [e199] at hQ199
    obtain ⟨t_es2, kd_es2, pn_es2, vv_es2, rfl, Nq199, Kq199, p199_0, p199_1, p199_2, p199_3, p199_4, p199_5, p199_6, p199_7, p199_8⟩ := hQ199
    have N199 := Fr.app N196 Nq199
    have r199 : own_R p e below _ _ T199 (mkF m 172 #[.val (.int pq), .val (.int pk), .val (.long je1), .second, .val (.long je2), .second, .val (.ref v_w), .val (.ref b11), .val (.int (3 : Int32)), .val (.int s1), .val (.int s2), .val (.int s3), .val (.int (1 : Int32)), .val (.int s1)] [(.ref t_es2), (.ref b11)]) := r197.trans fun z_ kt => st199 _ kt
    have f200 := (f193.keep Kq192 (ninS ne_b2_b11 (ninS ne_b2_ev_14 nin0)))
    have ne_b2_t_es2 : b2 ≠ t_es2 := Nat.ne_of_lt (Nat.lt_of_lt_of_le f200.lt p199_0)
    have ne_v_w_t_es2 : v_w ≠ t_es2 := Nat.ne_of_lt (Nat.lt_of_lt_of_le f198.lt p199_0)
    have f201 := (f190.keep Kq192 (ninS ne_bl_w_b11 (ninS ne_bl_w_ev_14 nin0)))
    have ne_bl_w_t_es2 : bl_w ≠ t_es2 := Nat.ne_of_lt (Nat.lt_of_lt_of_le f201.lt p199_0)
    have f202 := (f191.keep Kq192 (ninS ne_en_w_b11 (ninS ne_en_w_ev_14 nin0)))
    have ne_en_w_t_es2 : en_w ≠ t_es2 := Nat.ne_of_lt (Nat.lt_of_lt_of_le f202.lt p199_0)
    have ne_b11_t_es2 : b11 ≠ t_es2 := Nat.ne_of_lt (Nat.lt_of_lt_of_le f194.lt p199_0)
    have f203 := (p176_1.keep Kq192)
    have ne_t_es1_t_es2 : t_es1 ≠ t_es2 := Nat.ne_of_lt (Nat.lt_of_lt_of_le f203.lt p199_0)
    have ne_ev2_as1_t_es2 : ev2_as1 ≠ t_es2 := Nat.ne_of_lt (Nat.lt_of_lt_of_le p192_2.lt p199_0)
    have g_t_es2 : n0 ≤ t_es2 := Nat.le_trans (own_old_size O192) p199_0
    have O199 := O192.keep Kq199 all0
    have f204 := (f194.keep Kq199)
    have f205 := (p192_3.keep Kq199 nin0)
    have f206 := (p192_4.keep Kq199 nin0)
    have f207 := (p192_5.keep Kq199 nin0)
    have f208 := (p192_1.keep Kq199 nin0)
    have f209 := (p192_2.keep Kq199 nin0)
    have f210 := (f198.keep Kq199)
    have f211 := ((f187.keep Kq192 (ninS ne_v_w_b11 (ninS ne_v_w_ev_14 nin0))).keep Kq199 nin0)
    have f212 := ((f188.keep Kq192 (ninS ne_v_w_b11 (ninS ne_v_w_ev_14 nin0))).keep Kq199 nin0)
    have f213 := ((f189.keep Kq192 (ninS ne_v_w_b11 (ninS ne_v_w_ev_14 nin0))).keep Kq199 nin0)
    have f214 := (f201.keep Kq199 nin0)
    have f215 := (f202.keep Kq199 nin0)
    obtain ⟨cq216, kq216, q216a, q216b, q216c⟩ := isOf hZ e199 f204
    obtain ⟨_, _, ⟨T216, L216, cc216, n216⟩, -, X216, ⟨Lc216, hQ216, l216, y216, z216⟩, st216⟩ := X199.virtualBack hx (y := (⟨"com/example/wildebeest/wildebeest/core/CausalityCheck", "accept", "(Lcom/example/wildebeest/wildebeest/core/TraceEvent;)V"⟩ : MethodName)) (z := (⟨"com/example/wildebeest/wildebeest/core/CausalityCheck", "accept", "(Lcom/example/wildebeest/wildebeest/core/TraceEvent;)V"⟩ : MethodName)) hown (mvT hZ (hw _ (own_g (i := 155) rfl))) (mvT hZ (hw _ (own_g (i := 156) rfl))) (notFace_of_selects (args := #[]) (mvT hZ (hw _ (own_g (i := 158) rfl)))) (mvT hZ (hw _ (own_g (i := 158) rfl))) (mvT hZ (hw _ (own_g (i := 157) rfl))) (by decide) (backOf (W := 0) (rm_accept l Z a0 hw [] (b11) (t_es2) (js2_as1) (ju2_as1) (jv2_as1) (v_w) (kd_es2) (pn_es2) (vv_es2) (s2) (ev2_as1) (kv2_as1) (z2_as1) (vs2_as1) (s_OE) (s_SEND) (s_RECEIVE) (bl_w) (kb_w) (en_w) (ke_w) (vse_w) h199 n0 O199 (f204) (g_b11) (p199_1) (p199_2) (p199_3) (p199_4) (f205) (f206) (f207) (f208) (f209) (g_ev2_as1) (p192_6) (p192_7) (p199_6) (p199_5) (S_Optional_EMPTY) (OE_s_OE) (OF_s_OE_value) (S_EventKind_SEND) (S_EventKind_RECEIVE) (p199_7) (p199_8) (f210) (f211) (f212) (f213) (f214) (f215) (ne_bl_w_ev2_as1) (ne_en_w_ev2_as1)) hZ (hw _ (own_g (i := 159) rfl)) (hw _ (own_g (i := 32) rfl)) (by decide) (by decide)) q216a q216c (g := (mkF m 172 #[.val (.int pq), .val (.int pk), .val (.long je1), .second, .val (.long je2), .second, .val (.ref v_w), .val (.ref b11), .val (.int (3 : Int32)), .val (.int s1), .val (.int s2), .val (.int s3), .val (.int (1 : Int32)), .val (.int s1)] [(.ref t_es2), (.ref b11)])) rfl (by rw [hml]; rfl) (Steps.refl _) (argsL := [(.ref t_es2)]) (rest := []) (lenOf pd_21 rfl) rfl (by show 2 * 0 + _ ≤ _; exact Nat.le_of_eq rfl) (hb hby at_172) (fun _ _ => ⟨rfl, e199, (by decide : 17 + 3 ≤ _), (by decide : 83 + 6 ≤ _)⟩)
    dsimp only [Pt.U, Pt.locs, Pt.cells, Pt.slots] at X216 l216 y216 z216 st216 hQ216
    subst l216 y216 z216
    obtain ⟨h216, e216⟩ : ∃ z, T216.heap = z := ⟨_, rfl⟩
    rw [e216] at hQ216
    obtain ⟨ev2_as2, kv2_as2, z2_as2, vs2_as2, js2_as2, ju2_as2, jv2_as2, rfl, Nq216, Kq216, p216_0, p216_1, p216_2, p216_3, p216_4, p216_5, p216_6, p216_7, p216_8⟩ := hQ216
    have N216 := Fr.app N199 Nq216
    have r216 : own_R p e below _ _ T216 (mkF m 175 #[.val (.int pq), .val (.int pk), .val (.long je1), .second, .val (.long je2), .second, .val (.ref v_w), .val (.ref b11), .val (.int (3 : Int32)), .val (.int s1), .val (.int s2), .val (.int s3), .val (.int (1 : Int32)), .val (.int s1)] []) := r199.trans fun z_ kt => st216.trans kt
    have f217 := (f200.keep Kq199 nin0)
    have ne_b2_ev2_as2 : b2 ≠ ev2_as2 := own_fe p216_0 ne_b2_ev2_as1 f217.lt
    have ne_v_w_ev2_as2 : v_w ≠ ev2_as2 := own_fe p216_0 ne_v_w_ev2_as1 f210.lt
    have ne_bl_w_ev2_as2 : bl_w ≠ ev2_as2 := own_fe p216_0 ne_bl_w_ev2_as1 f214.lt
    have ne_en_w_ev2_as2 : en_w ≠ ev2_as2 := own_fe p216_0 ne_en_w_ev2_as1 f215.lt
    have ne_b11_ev2_as2 : b11 ≠ ev2_as2 := own_fe p216_0 ne_b11_ev2_as1 f204.lt
    have f218 := (f203.keep Kq199)
    have ne_t_es1_ev2_as2 : t_es1 ≠ ev2_as2 := own_fe p216_0 ne_t_es1_ev2_as1 f218.lt
    have ne_t_es2_ev2_as2 : t_es2 ≠ ev2_as2 := own_fe p216_0 (Ne.symm ne_ev2_as1_t_es2) p199_1.lt
    have g_ev2_as2 : n0 ≤ ev2_as2 := own_feg p216_0 g_ev2_as1 (own_old_size O199)
    have O216 := O199.keep Kq216 (allS g_b11 (allS g_ev2_as1 all0))
    have r219 : own_R p e below _ _ T216 (mkF m 177 #[.val (.int pq), .val (.int pk), .val (.long je1), .second, .val (.long je2), .second, .val (.ref v_w), .val (.ref b11), .val (.int (3 : Int32)), .val (.int s1), .val (.int s2), .val (.int s3), .val (.int (1 : Int32)), .val (.int s1)] [(.int s1)]) := r216.trans fun z_ kt => by
      refine XS.iload X216.here hx rfl (hb hby at_175) rfl ?_
      exact kt
    obtain ⟨y2, h_y2, r220⟩ : ∃ y2 : Int32, ((y2 = (1 : Int32) ∧ ¬ (s1 = (0 : Int32) ∧ s2 = (0 : Int32))) ∨ (y2 = (0 : Int32) ∧ s1 = (0 : Int32) ∧ s2 = (0 : Int32))) ∧ own_R p e below s₁ (mkF m 0 #[.val (.int pq), .val (.int pk), .val (.long je1), .second, .val (.long je2), .second, .unset, .unset, .unset, .unset, .unset, .unset, .unset, .unset] []) T216 (mkF m 190 #[.val (.int pq), .val (.int pk), .val (.long je1), .second, .val (.long je2), .second, .val (.ref v_w), .val (.ref b11), .val (.int (3 : Int32)), .val (.int s1), .val (.int s2), .val (.int s3), .val (.int (1 : Int32)), .val (.int s1)] [(.int y2)]) := by
      by_cases hc177_221 : s1 = (0 : Int32)
      · skip
        have r222 : own_R p e below _ _ T216 (mkF m 182 #[.val (.int pq), .val (.int pk), .val (.long je1), .second, .val (.long je2), .second, .val (.ref v_w), .val (.ref b11), .val (.int (3 : Int32)), .val (.int s1), .val (.int s2), .val (.int s3), .val (.int (1 : Int32)), .val (.int s1)] [(.int s2)]) := r219.trans fun z_ kt => by
          refine XS.ifNo X216.here hx rfl (hb hby at_177) rfl ((if0 _ _).trans (teq (hc177_221 : s1 = (0 : Int32))).2) ?_
          refine XS.iload X216.here hx rfl (hb hby at_180) rfl ?_
          exact kt
        by_cases hc182_223 : s2 = (0 : Int32)
        · skip
          have r224 : own_R p e below _ _ T216 (mkF m 190 #[.val (.int pq), .val (.int pk), .val (.long je1), .second, .val (.long je2), .second, .val (.ref v_w), .val (.ref b11), .val (.int (3 : Int32)), .val (.int s1), .val (.int s2), .val (.int s3), .val (.int (1 : Int32)), .val (.int s1)] [(.int (0 : Int32))]) := r222.trans fun z_ kt => by
            refine XS.ifYes X216.here hx rfl (pc0 := 182) (pc' := 189) rfl (hb hby at_182) rfl ((if0 _ _).trans (teq (hc182_223 : s2 = (0 : Int32))).1) (by decide) (by decide) ?_
            refine XS.iconst X216.here hx rfl (hb hby at_189) ?_
            exact kt
          exact ⟨(0 : Int32), Or.inr ⟨rfl, hc177_221, hc182_223⟩, r224⟩
        · skip
          have r225 : own_R p e below _ _ T216 (mkF m 190 #[.val (.int pq), .val (.int pk), .val (.long je1), .second, .val (.long je2), .second, .val (.ref v_w), .val (.ref b11), .val (.int (3 : Int32)), .val (.int s1), .val (.int s2), .val (.int s3), .val (.int (1 : Int32)), .val (.int s1)] [(.int (1 : Int32))]) := r222.trans fun z_ kt => by
            refine XS.ifNo X216.here hx rfl (hb hby at_182) rfl ((if0 _ _).trans (feq (hc182_223 : ¬ (s2 = (0 : Int32)))).1) ?_
            refine XS.iconst X216.here hx rfl (hb hby at_185) ?_
            refine XS.goto X216.here hx rfl (pc0 := 186) (pc' := 190) rfl (hb hby at_186) (by decide) (by decide) ?_
            exact kt
          exact ⟨(1 : Int32), Or.inl ⟨rfl, own_not2 hc182_223⟩, r225⟩
      · skip
        have r226 : own_R p e below _ _ T216 (mkF m 190 #[.val (.int pq), .val (.int pk), .val (.long je1), .second, .val (.long je2), .second, .val (.ref v_w), .val (.ref b11), .val (.int (3 : Int32)), .val (.int s1), .val (.int s2), .val (.int s3), .val (.int (1 : Int32)), .val (.int s1)] [(.int (1 : Int32))]) := r219.trans fun z_ kt => by
          refine XS.ifYes X216.here hx rfl (pc0 := 177) (pc' := 185) rfl (hb hby at_177) rfl ((if0 _ _).trans (feq (hc177_221 : ¬ (s1 = (0 : Int32)))).2) (by decide) (by decide) ?_
          refine XS.iconst X216.here hx rfl (hb hby at_185) ?_
          refine XS.goto X216.here hx rfl (pc0 := 186) (pc' := 190) rfl (hb hby at_186) (by decide) (by decide) ?_
          exact kt
        exact ⟨(1 : Int32), Or.inl ⟨rfl, own_not1 hc177_221⟩, r226⟩
    have ra_y2 := own_any (by decide) h_y2 p216_8 ra1
    have f227 := (f204.keep Kq216)
    have r228 : own_R p e below _ _ T216 (mkF m 199 #[.val (.int pq), .val (.int pk), .val (.long je1), .second, .val (.long je2), .second, .val (.ref v_w), .val (.ref b11), .val (.int (3 : Int32)), .val (.int s1), .val (.int s2), .val (.int s3), .val (.int (1 : Int32)), .val (.int y2)] [(.ref b11)]) := r220.trans fun z_ kt => by
      refine XS.istore X216.here hx rfl (hb hby at_190) rfl (l' := #[.val (.int pq), .val (.int pk), .val (.long je1), .second, .val (.long je2), .second, .val (.ref v_w), .val (.ref b11), .val (.int (3 : Int32)), .val (.int s1), .val (.int s2), .val (.int s3), .val (.int (1 : Int32)), .val (.int y2)]) rfl ?_
      refine XS.iload X216.here hx rfl (hb hby at_192) rfl ?_
      refine XS.ifNo X216.here hx rfl (hb hby at_194) rfl ((if0 _ _).trans (feq (by decide : ¬ ((1 : Int32) = (0 : Int32)))).1) ?_
      refine XS.aload X216.here hx rfl (hb hby at_197) rfl rfl ?_
      exact kt
    obtain ⟨cq229, kq229, q229a, q229b, q229c⟩ := isOf hZ e216 f227
    obtain ⟨_, _, ⟨T229, L229, cc229, n229⟩, -, X229, ⟨Lc229, hQ229, l229, y229, z229⟩, st229⟩ := X216.virtualBack hx (y := (⟨"com/example/wildebeest/wildebeest/core/CausalityCheck", "checked", "()Z"⟩ : MethodName)) (z := (⟨"com/example/wildebeest/wildebeest/core/CausalityCheck", "checked", "()Z"⟩ : MethodName)) hown (mvT hZ (hw _ (own_g (i := 59) rfl))) (mvT hZ (hw _ (own_g (i := 60) rfl))) (notFace_of_selects (args := #[]) (mvT hZ (hw _ (own_g (i := 62) rfl)))) (mvT hZ (hw _ (own_g (i := 62) rfl))) (mvT hZ (hw _ (own_g (i := 61) rfl))) (by decide) (backOf (W := 0) (rm_checked l Z a0 hw [] (b11) (js2_as2) (y2) h216 n0 O216 (p216_3) (own_chk ra_y2)) hZ (hw _ (own_g (i := 63) rfl)) (hw _ (own_g (i := 32) rfl)) (by decide) (by decide)) q229a q229c (g := (mkF m 199 #[.val (.int pq), .val (.int pk), .val (.long je1), .second, .val (.long je2), .second, .val (.ref v_w), .val (.ref b11), .val (.int (3 : Int32)), .val (.int s1), .val (.int s2), .val (.int s3), .val (.int (1 : Int32)), .val (.int y2)] [(.ref b11)])) rfl (by rw [hml]; rfl) (Steps.refl _) (argsL := []) (rest := []) (lenOf pd_5 rfl) rfl (by show 2 * 0 + _ ≤ _; exact Nat.le_of_eq rfl) (hb hby at_199) (fun _ _ => ⟨rfl, e216, (by decide : 20 + 0 ≤ _), (by decide : 89 + 0 ≤ _)⟩)
    dsimp only [Pt.U, Pt.locs, Pt.cells, Pt.slots] at X229 l229 y229 z229 st229 hQ229
    subst l229 y229 z229
    obtain ⟨rfl, Nq229, eq229⟩ := hQ229
    have N229 := Fr.app N216 Nq229
    have r229 : own_R p e below _ _ T229 (mkF m 202 #[.val (.int pq), .val (.int pk), .val (.long je1), .second, .val (.long je2), .second, .val (.ref v_w), .val (.ref b11), .val (.int (3 : Int32)), .val (.int s1), .val (.int s2), .val (.int s3), .val (.int (1 : Int32)), .val (.int y2)] [(.int y2)]) := r228.trans fun z_ kt => st229.trans kt
    have e229 : T229.heap = h216 := eq229
    have r230 : own_R p e below _ _ T229 (mkF m 233 #[.val (.int pq), .val (.int pk), .val (.long je1), .second, .val (.long je2), .second, .val (.ref v_w), .val (.ref b11), .val (.int (3 : Int32)), .val (.int s1), .val (.int s2), .val (.int s3), .val (.int (1 : Int32)), .val (.int y2)] [(.ref v_w), (.int s3), (.int ((pq.toUInt32 >>> ((7 : Int32) &&& 31).toUInt32).toInt32)), (.int ((pk.toUInt32 >>> ((4 : Int32) &&& 31).toUInt32).toInt32)), (.ref b11)]) := r229.trans fun z_ kt => by
      refine XS.iload X229.here hx rfl (hb hby at_202) rfl ?_
      refine XS.icmpNo X229.here hx rfl (hb hby at_204) rfl (teq (rfl : y2 = y2)).2 ?_
      refine XS.iconst X229.here hx rfl (hb hby at_207) ?_
      refine XS.goto X229.here hx rfl (pc0 := 208) (pc' := 212) rfl (hb hby at_208) (by decide) (by decide) ?_
      refine XS.istore X229.here hx rfl (hb hby at_212) rfl (l' := #[.val (.int pq), .val (.int pk), .val (.long je1), .second, .val (.long je2), .second, .val (.ref v_w), .val (.ref b11), .val (.int (3 : Int32)), .val (.int s1), .val (.int s2), .val (.int s3), .val (.int (1 : Int32)), .val (.int y2)]) rfl ?_
      refine XS.iload X229.here hx rfl (hb hby at_214) rfl ?_
      refine XS.iconst X229.here hx rfl (hb hby at_216) ?_
      refine XS.icmpNo X229.here hx rfl (hb hby at_217) rfl (flt (by decide : ¬ ((3 : Int32) < (3 : Int32)))).1 ?_
      refine XS.aload X229.here hx rfl (hb hby at_220) rfl rfl ?_
      refine XS.iloadN X229.here hx rfl (hb hby at_222) rfl ?_
      refine XS.iconst X229.here hx rfl (hb hby at_223) ?_
      refine XS.iushr X229.here hx rfl (hb hby at_224) rfl ?_
      refine XS.iloadN X229.here hx rfl (hb hby at_225) rfl ?_
      refine XS.bipush X229.here hx rfl (hb hby at_226) ?_
      refine XS.iushr X229.here hx rfl (hb hby at_228) rfl ?_
      refine XS.iload X229.here hx rfl (hb hby at_229) rfl ?_
      refine XS.aload X229.here hx rfl (hb hby at_231) rfl rfl ?_
      exact kt
    have f231 := (f210.keep Kq216)
    obtain ⟨_, _, ⟨T232, L232, cc232, n232⟩, -, X232, ⟨Lc232, hQ232, l232, y232, z232⟩, st232⟩ := Jvm.LawKit.callS X229 hx (y := (⟨"com/example/wildebeest/wildebeest/core/CausalityCheckCheckedPinLaw", "event", "(IIZLcom/example/wildebeest/wildebeest/core/VectorTime;)Lcom/example/wildebeest/wildebeest/core/TraceEvent;"⟩ : MethodName)) hown (mvT hZ (hw _ (own_g (i := 66) rfl))) (mvT hZ (hw _ (own_g (i := 67) rfl))) (mvT hZ (hw _ (own_g (i := 68) rfl))) (mvT hZ (hw _ (own_g (i := 69) rfl))) (by decide) (backOf (W := 1) (rm_event l Z a0 hw [] (((pk.toUInt32 >>> ((4 : Int32) &&& 31).toUInt32).toInt32)) (((pq.toUInt32 >>> ((7 : Int32) &&& 31).toUInt32).toInt32)) (s3) (v_w) (s_OL) (s_OE) (s_SEND) (s_RECEIVE) (s_REQUEST) (s_ENTER) (s_EXIT) (s_CRASH) (fl) (el) (kl) (s_NF) h216 n0 O216 (S_EventKind_REQUEST) (S_EventKind_ENTER) (S_EventKind_EXIT) (S_EventKind_CRASH) (OE_s_REQUEST) (OF_s_REQUEST_message) (OF_s_REQUEST_fields) (OE_s_ENTER) (OF_s_ENTER_message) (OF_s_ENTER_fields) (OE_s_EXIT) (OF_s_EXIT_message) (OF_s_EXIT_fields) (OE_s_CRASH) (OF_s_CRASH_message) (OF_s_CRASH_fields) (ne_s_REQUEST_s_SEND) (ne_s_REQUEST_s_RECEIVE) (ne_s_ENTER_s_SEND) (ne_s_ENTER_s_RECEIVE) (ne_s_EXIT_s_SEND) (ne_s_EXIT_s_RECEIVE) (ne_s_CRASH_s_SEND) (ne_s_CRASH_s_RECEIVE) (OE_fl) (OF_fl_elements) (OV_el) (S_TraceEvent_NO_FIELDS) (S_Optional_EMPTY) (OE_s_OE) (OF_s_OE_value) (S_OptionalLong_EMPTY) (OE_s_OL) (OF_s_OL_isPresent) (f231) (h_s3)) hZ (hw _ (own_g (i := 69) rfl)) (hw _ (own_g (i := 68) rfl)) (by decide) (by decide)) (g := (mkF m 233 #[.val (.int pq), .val (.int pk), .val (.long je1), .second, .val (.long je2), .second, .val (.ref v_w), .val (.ref b11), .val (.int (3 : Int32)), .val (.int s1), .val (.int s2), .val (.int s3), .val (.int (1 : Int32)), .val (.int y2)] [(.ref v_w), (.int s3), (.int ((pq.toUInt32 >>> ((7 : Int32) &&& 31).toUInt32).toInt32)), (.int ((pk.toUInt32 >>> ((4 : Int32) &&& 31).toUInt32).toInt32)), (.ref b11)])) rfl (by rw [hml]; rfl) (argsL := [(.int ((pk.toUInt32 >>> ((4 : Int32) &&& 31).toUInt32).toInt32)), (.int ((pq.toUInt32 >>> ((7 : Int32) &&& 31).toUInt32).toInt32)), (.int s3), (.ref v_w)]) (rest := [(.ref b11)]) (lenOf pd_20 rfl) rfl (by show 2 * 0 + _ ≤ _; exact Nat.le_of_eq rfl) (hb hby at_233) (fun _ _ => ⟨rfl, e229, (by decide : 20 + 3 ≤ _), (by decide : 89 + 8 ≤ _)⟩)
    dsimp only [Pt.U, Pt.locs, Pt.cells, Pt.slots] at X232 l232 y232 z232 st232 hQ232
    subst l232 y232 z232
    obtain ⟨h232, e232⟩ : ∃ z, T232.heap = z := ⟨_, rfl⟩
    rw [e232] at hQ232
    obtain ⟨t_es3, kd_es3, pn_es3, vv_es3, rfl, Nq232, Kq232, p232_0, p232_1, p232_2, p232_3, p232_4, p232_5, p232_6, p232_7, p232_8⟩ := hQ232
    have N232 := Fr.app N229 Nq232
    have r232 : own_R p e below _ _ T232 (mkF m 236 #[.val (.int pq), .val (.int pk), .val (.long je1), .second, .val (.long je2), .second, .val (.ref v_w), .val (.ref b11), .val (.int (3 : Int32)), .val (.int s1), .val (.int s2), .val (.int s3), .val (.int (1 : Int32)), .val (.int y2)] [(.ref t_es3), (.ref b11)]) := r230.trans fun z_ kt => st232 _ kt
    have f233 := (f217.keep Kq216 (ninS ne_b2_b11 (ninS ne_b2_ev2_as1 nin0)))
    have ne_b2_t_es3 : b2 ≠ t_es3 := Nat.ne_of_lt (Nat.lt_of_lt_of_le f233.lt p232_0)
    have ne_v_w_t_es3 : v_w ≠ t_es3 := Nat.ne_of_lt (Nat.lt_of_lt_of_le f231.lt p232_0)
    have f234 := (f214.keep Kq216 (ninS ne_bl_w_b11 (ninS ne_bl_w_ev2_as1 nin0)))
    have ne_bl_w_t_es3 : bl_w ≠ t_es3 := Nat.ne_of_lt (Nat.lt_of_lt_of_le f234.lt p232_0)
    have f235 := (f215.keep Kq216 (ninS ne_en_w_b11 (ninS ne_en_w_ev2_as1 nin0)))
    have ne_en_w_t_es3 : en_w ≠ t_es3 := Nat.ne_of_lt (Nat.lt_of_lt_of_le f235.lt p232_0)
    have ne_b11_t_es3 : b11 ≠ t_es3 := Nat.ne_of_lt (Nat.lt_of_lt_of_le f227.lt p232_0)
    have f236 := (f218.keep Kq216)
    have ne_t_es1_t_es3 : t_es1 ≠ t_es3 := Nat.ne_of_lt (Nat.lt_of_lt_of_le f236.lt p232_0)
    have f237 := (p199_1.keep Kq216)
    have ne_t_es2_t_es3 : t_es2 ≠ t_es3 := Nat.ne_of_lt (Nat.lt_of_lt_of_le f237.lt p232_0)
    have ne_ev2_as2_t_es3 : ev2_as2 ≠ t_es3 := Nat.ne_of_lt (Nat.lt_of_lt_of_le p216_2.lt p232_0)
    have g_t_es3 : n0 ≤ t_es3 := Nat.le_trans (own_old_size O216) p232_0
    have O232 := O216.keep Kq232 all0
    have f238 := (f227.keep Kq232)
    have f239 := (p216_3.keep Kq232 nin0)
    have f240 := (p216_4.keep Kq232 nin0)
    have f241 := (p216_5.keep Kq232 nin0)
    have f242 := (p216_1.keep Kq232 nin0)
    have f243 := (p216_2.keep Kq232 nin0)
    have f244 := (f231.keep Kq232)
    have f245 := ((f211.keep Kq216 (ninS ne_v_w_b11 (ninS ne_v_w_ev2_as1 nin0))).keep Kq232 nin0)
    have f246 := ((f212.keep Kq216 (ninS ne_v_w_b11 (ninS ne_v_w_ev2_as1 nin0))).keep Kq232 nin0)
    have f247 := ((f213.keep Kq216 (ninS ne_v_w_b11 (ninS ne_v_w_ev2_as1 nin0))).keep Kq232 nin0)
    have f248 := (f234.keep Kq232 nin0)
    have f249 := (f235.keep Kq232 nin0)
    obtain ⟨cq250, kq250, q250a, q250b, q250c⟩ := isOf hZ e232 f238
    obtain ⟨_, _, ⟨T250, L250, cc250, n250⟩, -, X250, ⟨Lc250, hQ250, l250, y250, z250⟩, st250⟩ := X232.virtualBack hx (y := (⟨"com/example/wildebeest/wildebeest/core/CausalityCheck", "accept", "(Lcom/example/wildebeest/wildebeest/core/TraceEvent;)V"⟩ : MethodName)) (z := (⟨"com/example/wildebeest/wildebeest/core/CausalityCheck", "accept", "(Lcom/example/wildebeest/wildebeest/core/TraceEvent;)V"⟩ : MethodName)) hown (mvT hZ (hw _ (own_g (i := 155) rfl))) (mvT hZ (hw _ (own_g (i := 156) rfl))) (notFace_of_selects (args := #[]) (mvT hZ (hw _ (own_g (i := 158) rfl)))) (mvT hZ (hw _ (own_g (i := 158) rfl))) (mvT hZ (hw _ (own_g (i := 157) rfl))) (by decide) (backOf (W := 0) (rm_accept l Z a0 hw [] (b11) (t_es3) (js2_as2) (ju2_as2) (jv2_as2) (v_w) (kd_es3) (pn_es3) (vv_es3) (s3) (ev2_as2) (kv2_as2) (z2_as2) (vs2_as2) (s_OE) (s_SEND) (s_RECEIVE) (bl_w) (kb_w) (en_w) (ke_w) (vse_w) h232 n0 O232 (f238) (g_b11) (p232_1) (p232_2) (p232_3) (p232_4) (f239) (f240) (f241) (f242) (f243) (g_ev2_as2) (p216_6) (p216_7) (p232_6) (p232_5) (S_Optional_EMPTY) (OE_s_OE) (OF_s_OE_value) (S_EventKind_SEND) (S_EventKind_RECEIVE) (p232_7) (p232_8) (f244) (f245) (f246) (f247) (f248) (f249) (ne_bl_w_ev2_as2) (ne_en_w_ev2_as2)) hZ (hw _ (own_g (i := 159) rfl)) (hw _ (own_g (i := 32) rfl)) (by decide) (by decide)) q250a q250c (g := (mkF m 236 #[.val (.int pq), .val (.int pk), .val (.long je1), .second, .val (.long je2), .second, .val (.ref v_w), .val (.ref b11), .val (.int (3 : Int32)), .val (.int s1), .val (.int s2), .val (.int s3), .val (.int (1 : Int32)), .val (.int y2)] [(.ref t_es3), (.ref b11)])) rfl (by rw [hml]; rfl) (Steps.refl _) (argsL := [(.ref t_es3)]) (rest := []) (lenOf pd_21 rfl) rfl (by show 2 * 0 + _ ≤ _; exact Nat.le_of_eq rfl) (hb hby at_236) (fun _ _ => ⟨rfl, e232, (by decide : 23 + 3 ≤ _), (by decide : 97 + 6 ≤ _)⟩)
    dsimp only [Pt.U, Pt.locs, Pt.cells, Pt.slots] at X250 l250 y250 z250 st250 hQ250
    subst l250 y250 z250
    obtain ⟨h250, e250⟩ : ∃ z, T250.heap = z := ⟨_, rfl⟩
    rw [e250] at hQ250
    obtain ⟨ev2_as3, kv2_as3, z2_as3, vs2_as3, js2_as3, ju2_as3, jv2_as3, rfl, Nq250, Kq250, p250_0, p250_1, p250_2, p250_3, p250_4, p250_5, p250_6, p250_7, p250_8⟩ := hQ250
    have N250 := Fr.app N232 Nq250
    have r250 : own_R p e below _ _ T250 (mkF m 239 #[.val (.int pq), .val (.int pk), .val (.long je1), .second, .val (.long je2), .second, .val (.ref v_w), .val (.ref b11), .val (.int (3 : Int32)), .val (.int s1), .val (.int s2), .val (.int s3), .val (.int (1 : Int32)), .val (.int y2)] []) := r232.trans fun z_ kt => st250.trans kt
    have f251 := (f233.keep Kq232 nin0)
    have ne_b2_ev2_as3 : b2 ≠ ev2_as3 := own_fe p250_0 ne_b2_ev2_as2 f251.lt
    have ne_v_w_ev2_as3 : v_w ≠ ev2_as3 := own_fe p250_0 ne_v_w_ev2_as2 f244.lt
    have ne_bl_w_ev2_as3 : bl_w ≠ ev2_as3 := own_fe p250_0 ne_bl_w_ev2_as2 f248.lt
    have ne_en_w_ev2_as3 : en_w ≠ ev2_as3 := own_fe p250_0 ne_en_w_ev2_as2 f249.lt
    have ne_b11_ev2_as3 : b11 ≠ ev2_as3 := own_fe p250_0 ne_b11_ev2_as2 f238.lt
    have f252 := (f236.keep Kq232)
    have ne_t_es1_ev2_as3 : t_es1 ≠ ev2_as3 := own_fe p250_0 ne_t_es1_ev2_as2 f252.lt
    have f253 := (f237.keep Kq232)
    have ne_t_es2_ev2_as3 : t_es2 ≠ ev2_as3 := own_fe p250_0 ne_t_es2_ev2_as2 f253.lt
    have ne_t_es3_ev2_as3 : t_es3 ≠ ev2_as3 := own_fe p250_0 (Ne.symm ne_ev2_as2_t_es3) p232_1.lt
    have g_ev2_as3 : n0 ≤ ev2_as3 := own_feg p250_0 g_ev2_as2 (own_old_size O232)
    have O250 := O232.keep Kq250 (allS g_b11 (allS g_ev2_as2 all0))
    have r254 : own_R p e below _ _ T250 (mkF m 241 #[.val (.int pq), .val (.int pk), .val (.long je1), .second, .val (.long je2), .second, .val (.ref v_w), .val (.ref b11), .val (.int (3 : Int32)), .val (.int s1), .val (.int s2), .val (.int s3), .val (.int (1 : Int32)), .val (.int y2)] [(.int y2)]) := r250.trans fun z_ kt => by
      refine XS.iload X250.here hx rfl (hb hby at_239) rfl ?_
      exact kt
    obtain ⟨y3, h_y3, r255⟩ : ∃ y3 : Int32, ((y3 = (1 : Int32) ∧ ¬ (y2 = (0 : Int32) ∧ s3 = (0 : Int32))) ∨ (y3 = (0 : Int32) ∧ y2 = (0 : Int32) ∧ s3 = (0 : Int32))) ∧ own_R p e below s₁ (mkF m 0 #[.val (.int pq), .val (.int pk), .val (.long je1), .second, .val (.long je2), .second, .unset, .unset, .unset, .unset, .unset, .unset, .unset, .unset] []) T250 (mkF m 254 #[.val (.int pq), .val (.int pk), .val (.long je1), .second, .val (.long je2), .second, .val (.ref v_w), .val (.ref b11), .val (.int (3 : Int32)), .val (.int s1), .val (.int s2), .val (.int s3), .val (.int (1 : Int32)), .val (.int y2)] [(.int y3)]) := by
      by_cases hc241_256 : y2 = (0 : Int32)
      · skip
        have r257 : own_R p e below _ _ T250 (mkF m 246 #[.val (.int pq), .val (.int pk), .val (.long je1), .second, .val (.long je2), .second, .val (.ref v_w), .val (.ref b11), .val (.int (3 : Int32)), .val (.int s1), .val (.int s2), .val (.int s3), .val (.int (1 : Int32)), .val (.int y2)] [(.int s3)]) := r254.trans fun z_ kt => by
          refine XS.ifNo X250.here hx rfl (hb hby at_241) rfl ((if0 _ _).trans (teq (hc241_256 : y2 = (0 : Int32))).2) ?_
          refine XS.iload X250.here hx rfl (hb hby at_244) rfl ?_
          exact kt
        by_cases hc246_258 : s3 = (0 : Int32)
        · skip
          have r259 : own_R p e below _ _ T250 (mkF m 254 #[.val (.int pq), .val (.int pk), .val (.long je1), .second, .val (.long je2), .second, .val (.ref v_w), .val (.ref b11), .val (.int (3 : Int32)), .val (.int s1), .val (.int s2), .val (.int s3), .val (.int (1 : Int32)), .val (.int y2)] [(.int (0 : Int32))]) := r257.trans fun z_ kt => by
            refine XS.ifYes X250.here hx rfl (pc0 := 246) (pc' := 253) rfl (hb hby at_246) rfl ((if0 _ _).trans (teq (hc246_258 : s3 = (0 : Int32))).1) (by decide) (by decide) ?_
            refine XS.iconst X250.here hx rfl (hb hby at_253) ?_
            exact kt
          exact ⟨(0 : Int32), Or.inr ⟨rfl, hc241_256, hc246_258⟩, r259⟩
        · skip
          have r260 : own_R p e below _ _ T250 (mkF m 254 #[.val (.int pq), .val (.int pk), .val (.long je1), .second, .val (.long je2), .second, .val (.ref v_w), .val (.ref b11), .val (.int (3 : Int32)), .val (.int s1), .val (.int s2), .val (.int s3), .val (.int (1 : Int32)), .val (.int y2)] [(.int (1 : Int32))]) := r257.trans fun z_ kt => by
            refine XS.ifNo X250.here hx rfl (hb hby at_246) rfl ((if0 _ _).trans (feq (hc246_258 : ¬ (s3 = (0 : Int32)))).1) ?_
            refine XS.iconst X250.here hx rfl (hb hby at_249) ?_
            refine XS.goto X250.here hx rfl (pc0 := 250) (pc' := 254) rfl (hb hby at_250) (by decide) (by decide) ?_
            exact kt
          exact ⟨(1 : Int32), Or.inl ⟨rfl, own_not2 hc246_258⟩, r260⟩
      · skip
        have r261 : own_R p e below _ _ T250 (mkF m 254 #[.val (.int pq), .val (.int pk), .val (.long je1), .second, .val (.long je2), .second, .val (.ref v_w), .val (.ref b11), .val (.int (3 : Int32)), .val (.int s1), .val (.int s2), .val (.int s3), .val (.int (1 : Int32)), .val (.int y2)] [(.int (1 : Int32))]) := r254.trans fun z_ kt => by
          refine XS.ifYes X250.here hx rfl (pc0 := 241) (pc' := 249) rfl (hb hby at_241) rfl ((if0 _ _).trans (feq (hc241_256 : ¬ (y2 = (0 : Int32)))).2) (by decide) (by decide) ?_
          refine XS.iconst X250.here hx rfl (hb hby at_249) ?_
          refine XS.goto X250.here hx rfl (pc0 := 250) (pc' := 254) rfl (hb hby at_250) (by decide) (by decide) ?_
          exact kt
        exact ⟨(1 : Int32), Or.inl ⟨rfl, own_not1 hc241_256⟩, r261⟩
    have ra_y3 := own_any (by decide) h_y3 p250_8 ra_y2
    have f262 := (f238.keep Kq250)
    have r263 : own_R p e below _ _ T250 (mkF m 263 #[.val (.int pq), .val (.int pk), .val (.long je1), .second, .val (.long je2), .second, .val (.ref v_w), .val (.ref b11), .val (.int (3 : Int32)), .val (.int s1), .val (.int s2), .val (.int s3), .val (.int (1 : Int32)), .val (.int y3)] [(.ref b11)]) := r255.trans fun z_ kt => by
      refine XS.istore X250.here hx rfl (hb hby at_254) rfl (l' := #[.val (.int pq), .val (.int pk), .val (.long je1), .second, .val (.long je2), .second, .val (.ref v_w), .val (.ref b11), .val (.int (3 : Int32)), .val (.int s1), .val (.int s2), .val (.int s3), .val (.int (1 : Int32)), .val (.int y3)]) rfl ?_
      refine XS.iload X250.here hx rfl (hb hby at_256) rfl ?_
      refine XS.ifNo X250.here hx rfl (hb hby at_258) rfl ((if0 _ _).trans (feq (by decide : ¬ ((1 : Int32) = (0 : Int32)))).1) ?_
      refine XS.aload X250.here hx rfl (hb hby at_261) rfl rfl ?_
      exact kt
    obtain ⟨cq264, kq264, q264a, q264b, q264c⟩ := isOf hZ e250 f262
    obtain ⟨_, _, ⟨T264, L264, cc264, n264⟩, -, X264, ⟨Lc264, hQ264, l264, y264, z264⟩, st264⟩ := X250.virtualBack hx (y := (⟨"com/example/wildebeest/wildebeest/core/CausalityCheck", "checked", "()Z"⟩ : MethodName)) (z := (⟨"com/example/wildebeest/wildebeest/core/CausalityCheck", "checked", "()Z"⟩ : MethodName)) hown (mvT hZ (hw _ (own_g (i := 59) rfl))) (mvT hZ (hw _ (own_g (i := 60) rfl))) (notFace_of_selects (args := #[]) (mvT hZ (hw _ (own_g (i := 62) rfl)))) (mvT hZ (hw _ (own_g (i := 62) rfl))) (mvT hZ (hw _ (own_g (i := 61) rfl))) (by decide) (backOf (W := 0) (rm_checked l Z a0 hw [] (b11) (js2_as3) (y3) h250 n0 O250 (p250_3) (own_chk ra_y3)) hZ (hw _ (own_g (i := 63) rfl)) (hw _ (own_g (i := 32) rfl)) (by decide) (by decide)) q264a q264c (g := (mkF m 263 #[.val (.int pq), .val (.int pk), .val (.long je1), .second, .val (.long je2), .second, .val (.ref v_w), .val (.ref b11), .val (.int (3 : Int32)), .val (.int s1), .val (.int s2), .val (.int s3), .val (.int (1 : Int32)), .val (.int y3)] [(.ref b11)])) rfl (by rw [hml]; rfl) (Steps.refl _) (argsL := []) (rest := []) (lenOf pd_5 rfl) rfl (by show 2 * 0 + _ ≤ _; exact Nat.le_of_eq rfl) (hb hby at_263) (fun _ _ => ⟨rfl, e250, (by decide : 26 + 0 ≤ _), (by decide : 103 + 0 ≤ _)⟩)
    dsimp only [Pt.U, Pt.locs, Pt.cells, Pt.slots] at X264 l264 y264 z264 st264 hQ264
    subst l264 y264 z264
    obtain ⟨rfl, Nq264, eq264⟩ := hQ264
    have N264 := Fr.app N250 Nq264
    have r264 : own_R p e below _ _ T264 (mkF m 266 #[.val (.int pq), .val (.int pk), .val (.long je1), .second, .val (.long je2), .second, .val (.ref v_w), .val (.ref b11), .val (.int (3 : Int32)), .val (.int s1), .val (.int s2), .val (.int s3), .val (.int (1 : Int32)), .val (.int y3)] [(.int y3)]) := r263.trans fun z_ kt => st264.trans kt
    have e264 : T264.heap = h250 := eq264
    have r265 : own_R p e below _ _ T264 (mkF m 280 #[.val (.int pq), .val (.int pk), .val (.long je1), .second, .val (.long je2), .second, .val (.ref v_w), .val (.ref b11), .val (.int (3 : Int32)), .val (.int s1), .val (.int s2), .val (.int s3), .val (.int (1 : Int32)), .val (.int y3)] [(.int (1 : Int32))]) := r264.trans fun z_ kt => by
      refine XS.iload X264.here hx rfl (hb hby at_266) rfl ?_
      refine XS.icmpNo X264.here hx rfl (hb hby at_268) rfl (teq (rfl : y3 = y3)).2 ?_
      refine XS.iconst X264.here hx rfl (hb hby at_271) ?_
      refine XS.goto X264.here hx rfl (pc0 := 272) (pc' := 276) rfl (hb hby at_272) (by decide) (by decide) ?_
      refine XS.istore X264.here hx rfl (hb hby at_276) rfl (l' := #[.val (.int pq), .val (.int pk), .val (.long je1), .second, .val (.long je2), .second, .val (.ref v_w), .val (.ref b11), .val (.int (3 : Int32)), .val (.int s1), .val (.int s2), .val (.int s3), .val (.int (1 : Int32)), .val (.int y3)]) rfl ?_
      refine XS.iload X264.here hx rfl (hb hby at_278) rfl ?_
      exact kt
    obtain ⟨fs_, hr_, hrun_, hended_, hW_, hsame_⟩ := X264.leave (v := some (.int (1 : Int32))) (fun h => by rw [Bd.returns] at h; cases h)
    refine ⟨_, _, pre0 _ (r265 _ ?_), hrun_, hended_, _, _, rfl, ?_, ⟨_, rfl⟩, hW_, hsame_.mono (by decide) (by decide)⟩
    · exact retN X264 hx (t := .boolean) Bd.returns (by simp) (hb hby at_280) hr_
    · show Q_law Z pq pk je1 je2 s_OL s_OE s_SEND s_RECEIVE s_REQUEST s_ENTER s_EXIT s_CRASH fl el kl s_NF s_ZV kz vz h0 n0 _ T264.heap _
      rw [e264]
      exact ⟨rfl, N264⟩

set_option maxRecDepth 65536 in
set_option maxHeartbeats 40000000 in
theorem comes_1 {Post : Tables → Env → Array Value → State → Outcome → State → Prop} (hpost : ∀ tb e args s v u, (limb_1_1.after args s (.returned v) u = true ∧ limb_1_2.after args s (.returned v) u = true ∧ True) → FrameEnd s (.returned v) u (Jvm.fieldLocs frame_1_writes args s ++ Jvm.arrayLocs frame_1_arrays args s ++ Jvm.staticLocs frame_1_statics s) 64 320 → Post tb e args s (.returned v) u) :
    ArmFor flags0 classFile x code maxLocals ret World_1 tables_1 room_1 Calls_1 rest_1 Pre_1 Post := by
  intro l hfl _ _ p e ha hc hk s m args below hf hA hF happ hP
  obtain ⟨hcalls, hrest, hpre⟩ := hP
  obtain ⟨-, -, -, hnamed, -, -, -, hat⟩ := (Spec.applies_iff hf).mp happ
  obtain ⟨hg, hn⟩ := and_e (Cond.before_iff.mp (show (Jvm.Cond.and given_1 narrow_1).before args s = true from hpre))
  obtain ⟨u1a, u1b⟩ := and_e hg
  obtain ⟨u2a, u2b⟩ := and_e u1b
  obtain ⟨u3a, u3b⟩ := and_e u2b
  obtain ⟨u4a, u4b⟩ := and_e u3b
  obtain ⟨w0, w1, w2, w3, rfl⟩ : ∃ w0 w1 w2 w3 : Value, args = #[w0, w1, w2, w3] := by
    have hs : args.size = 4 := by simpa [Cond.value, given_1] using u1a
    obtain ⟨L⟩ := args
    match L, hs with
    | [w0, w1, w2, w3], _ => exact ⟨w0, w1, w2, w3, rfl⟩
  have hw := fun d (hd : d ∈ tables_1) => atoms_spec (ws := Jvm.Cond.code x code maxLocals ret :: tables_1) hat d (List.mem_cons_of_mem _ hd)
  have hfit : Fit s := fun {y c} hc i hi => by
    obtain ⟨ha, rfl⟩ := Array.getElem?_eq_some_iff.mp hc
    have q := List.all_eq_true.mp ((Array.all_eq_true_iff_forall_mem.mp hF) _ (Array.getElem_mem ha)) i (List.mem_range.mpr hi)
    simpa [Array.getElem?_eq_getElem hi] using q
  obtain ⟨hsets, hown0⟩ := atoms_of _ (rest_1_c_eq ▸ (show rest_1_c.before _ s = true from hrest))
  have hr0 := Cond.before_iff.mp hown0
  obtain ⟨i0, ei0⟩ := is_v u2a
  obtain rfl : w0 = (.int i0) := Option.some.inj ei0
  obtain ⟨i1, ei1⟩ := is_v u3a
  obtain rfl : w1 = (.int i1) := Option.some.inj ei1
  obtain ⟨i2, ei2⟩ := isL_v u4a
  obtain rfl : w2 = (.long i2) := Option.some.inj ei2
  obtain ⟨i3, ei3⟩ := isL_v u4b
  obtain rfl : w3 = (.long i3) := Option.some.inj ei3
  obtain ⟨u5a, u5b⟩ := and_e hn
  obtain ⟨u6a, u6b⟩ := and_e u5b
  obtain ⟨u7a, u7b⟩ := and_e u6b
  obtain ⟨u8a, u8b⟩ := and_e u7b
  obtain ⟨u9a, u9b⟩ := and_e u8b
  obtain ⟨u10a, u10b⟩ := and_e u9b
  obtain ⟨u11a, u11b⟩ := and_e u10b
  obtain ⟨u12a, u12b⟩ := and_e u11b
  obtain ⟨u13a, u13b⟩ := and_e u12b
  obtain ⟨u14a, u14b⟩ := and_e u13b
  obtain ⟨u15a, u15b⟩ := and_e u14b
  obtain ⟨u16a, u16b⟩ := and_e u15b
  obtain ⟨u17a, u17b⟩ := and_e u16b
  obtain ⟨u18a, u18b⟩ := and_e u17b
  obtain ⟨u19a, u19b⟩ := and_e u18b
  obtain ⟨u20a, u20b⟩ := and_e u19b
  obtain ⟨u21a, u21b⟩ := and_e u20b
  obtain ⟨u22a, u22b⟩ := and_e u21b
  obtain ⟨u23a, u23b⟩ := and_e u22b
  obtain ⟨u24a, u24b⟩ := and_e u23b
  obtain ⟨u25a, u25b⟩ := and_e u24b
  obtain ⟨u26a, u26b⟩ := and_e u25b
  obtain ⟨u27a, u27b⟩ := and_e u26b
  obtain ⟨u28a, u28b⟩ := and_e u27b
  obtain ⟨u29a, u29b⟩ := and_e u28b
  obtain ⟨u30a, u30b⟩ := and_e u29b
  obtain ⟨u31a, u31b⟩ := and_e u30b
  obtain ⟨u32a, u32b⟩ := and_e u31b
  obtain ⟨u33a, u33b⟩ := and_e u32b
  obtain ⟨u34a, u34b⟩ := and_e u33b
  obtain ⟨s_ZERO, ev_s_ZERO⟩ := exa_v u6a
  have OE_s_ZERO := Exa.start ev_s_ZERO u6a
  have S_s_ZERO := Sta.start ev_s_ZERO (Or.inr ⟨(hw _ (own_g (i := 4) rfl)), (hw _ (own_g (i := 12) rfl))⟩)
  obtain ⟨s_CRASH, ev_s_CRASH⟩ := exa_v u8a
  have OE_s_CRASH := Exa.start ev_s_CRASH u8a
  have S_s_CRASH := Sta.start ev_s_CRASH (Or.inr ⟨(hw _ (own_g (i := 71) rfl)), (hw _ (own_g (i := 72) rfl))⟩)
  obtain ⟨s_SEND, ev_s_SEND⟩ := exa_v u15a
  have OE_s_SEND := Exa.start ev_s_SEND u15a
  have S_s_SEND := Sta.start ev_s_SEND (Or.inr ⟨(hw _ (own_g (i := 71) rfl)), (hw _ (own_g (i := 235) rfl))⟩)
  obtain ⟨s_RECEIVE, ev_s_RECEIVE⟩ := exa_v u18a
  have OE_s_RECEIVE := Exa.start ev_s_RECEIVE u18a
  have S_s_RECEIVE := Sta.start ev_s_RECEIVE (Or.inr ⟨(hw _ (own_g (i := 71) rfl)), (hw _ (own_g (i := 237) rfl))⟩)
  obtain ⟨s_REQUEST, ev_s_REQUEST⟩ := exa_v u20a
  have OE_s_REQUEST := Exa.start ev_s_REQUEST u20a
  have S_s_REQUEST := Sta.start ev_s_REQUEST (Or.inr ⟨(hw _ (own_g (i := 71) rfl)), (hw _ (own_g (i := 239) rfl))⟩)
  obtain ⟨s_EXIT, ev_s_EXIT⟩ := exa_v u23a
  have OE_s_EXIT := Exa.start ev_s_EXIT u23a
  have S_s_EXIT := Sta.start ev_s_EXIT (Or.inr ⟨(hw _ (own_g (i := 71) rfl)), (hw _ (own_g (i := 241) rfl))⟩)
  obtain ⟨s_ENTER, ev_s_ENTER⟩ := exa_v u28a
  have OE_s_ENTER := Exa.start ev_s_ENTER u28a
  have S_s_ENTER := Sta.start ev_s_ENTER (Or.inr ⟨(hw _ (own_g (i := 71) rfl)), (hw _ (own_g (i := 243) rfl))⟩)
  have OF_s_CRASH_message : Fld s s.heap s_CRASH "com/example/wildebeest/wildebeest/core/EventKind" "message" "Z" (.int (0 : Int32)) := own_eq_fld ev_s_CRASH u9a
  have OF_s_CRASH_ordinal : Fld s s.heap s_CRASH "java/lang/Enum" "ordinal" "I" (.int (5 : Int32)) := own_eq_fld ev_s_CRASH u16a
  have OF_s_SEND_ordinal : Fld s s.heap s_SEND "java/lang/Enum" "ordinal" "I" (.int (3 : Int32)) := own_eq_fld ev_s_SEND u17a
  have OF_s_RECEIVE_ordinal : Fld s s.heap s_RECEIVE "java/lang/Enum" "ordinal" "I" (.int (4 : Int32)) := own_eq_fld ev_s_RECEIVE u19a
  have OF_s_REQUEST_message : Fld s s.heap s_REQUEST "com/example/wildebeest/wildebeest/core/EventKind" "message" "Z" (.int (0 : Int32)) := own_eq_fld ev_s_REQUEST u21a
  have OF_s_EXIT_message : Fld s s.heap s_EXIT "com/example/wildebeest/wildebeest/core/EventKind" "message" "Z" (.int (0 : Int32)) := own_eq_fld ev_s_EXIT u24a
  have OF_s_EXIT_ordinal : Fld s s.heap s_EXIT "java/lang/Enum" "ordinal" "I" (.int (2 : Int32)) := own_eq_fld ev_s_EXIT u26a
  have OF_s_REQUEST_ordinal : Fld s s.heap s_REQUEST "java/lang/Enum" "ordinal" "I" (.int (0 : Int32)) := own_eq_fld ev_s_REQUEST u27a
  have OF_s_ENTER_message : Fld s s.heap s_ENTER "com/example/wildebeest/wildebeest/core/EventKind" "message" "Z" (.int (0 : Int32)) := own_eq_fld ev_s_ENTER u29a
  have OF_s_ENTER_ordinal : Fld s s.heap s_ENTER "java/lang/Enum" "ordinal" "I" (.int (1 : Int32)) := own_eq_fld ev_s_ENTER u31a
  have OF_s_SEND_message : Fld s s.heap s_SEND "com/example/wildebeest/wildebeest/core/EventKind" "message" "Z" (.int (1 : Int32)) := own_eq_fld ev_s_SEND u32a
  have OF_s_RECEIVE_message : Fld s s.heap s_RECEIVE "com/example/wildebeest/wildebeest/core/EventKind" "message" "Z" (.int (1 : Int32)) := own_eq_fld ev_s_RECEIVE u34a
  have OVz := own_arr (dv := .long (0 : Int64)) hfit ev_s_ZERO u5a u7a
  obtain ⟨kz, vz, OVz⟩ := OVz
  obtain ⟨fl, ev_fl⟩ := exa_v u10a
  have OE_fl := Exa.start ev_fl u10a
  obtain ⟨el, ev_el⟩ := arr_v u11a
  have OF_el := own_fld_of ev_fl ev_el
  obtain ⟨kl, OVl⟩ := own_arr0 hfit ev_el u11a u12a
  have OF_CRASH_f := own_fld_of ev_s_CRASH ev_fl
  have OF_REQUEST_f := own_fld_of ev_s_REQUEST (own_eq_val ev_fl u22a)
  have OF_ENTER_f := own_fld_of ev_s_ENTER (own_eq_val ev_fl u30a)
  have OF_EXIT_f := own_fld_of ev_s_EXIT (own_eq_val ev_fl u25a)
  obtain ⟨s_NF, ev_NF⟩ := arr_v u13a
  have S_NF := Sta.start ev_NF (Or.inr ⟨(hw _ (own_g (i := 85) rfl)), (hw _ (own_g (i := 116) rfl))⟩)
  obtain ⟨s_OE, ev_s_OE⟩ := exa_v (Cond.before_iff.mp (hsets _ (List.mem_of_getElem? (i := 2) rfl)))
  have OE_s_OE := Exa.start ev_s_OE (Cond.before_iff.mp (hsets _ (List.mem_of_getElem? (i := 2) rfl)))
  have S_s_OE := Sta.start ev_s_OE (Or.inl (hsets _ (List.mem_of_getElem? (i := 1) rfl)))
  obtain ⟨s_OL, ev_s_OL⟩ := exa_v (Cond.before_iff.mp (hsets _ (List.mem_of_getElem? (i := 6) rfl)))
  have OE_s_OL := Exa.start ev_s_OL (Cond.before_iff.mp (hsets _ (List.mem_of_getElem? (i := 6) rfl)))
  have S_s_OL := Sta.start ev_s_OL (Or.inl (hsets _ (List.mem_of_getElem? (i := 5) rfl)))
  have OF_OE : Fld s s.heap s_OE "java/util/Optional" "value" "Ljava/lang/Object;" .null := own_eq_null ev_s_OE (Cond.before_iff.mp (hsets _ (List.mem_of_getElem? (i := 3) rfl)))
  have OF_OL : Fld s s.heap s_OL "java/util/OptionalLong" "isPresent" "Z" (.int (0 : Int32)) := own_eq_fld ev_s_OL (Cond.before_iff.mp (hsets _ (List.mem_of_getElem? (i := 7) rfl)))
  obtain ⟨n, o, h1, h2, h3, _, L, rfl, ⟨rfl, N⟩, hq⟩ := rm_law l s _ hw tables_1 i0 i1 i2 i3 s_OL s_OE s_SEND s_RECEIVE s_REQUEST s_ENTER s_EXIT s_CRASH fl el kl s_NF s_ZERO kz vz s.heap s.heap.size (Old.start s) (S_s_REQUEST) (S_s_ENTER) (S_s_EXIT) (S_s_CRASH) (OE_s_REQUEST) (OF_s_REQUEST_message) (OF_REQUEST_f) (OE_s_ENTER) (OF_s_ENTER_message) (OF_ENTER_f) (OE_s_EXIT) (OF_s_EXIT_message) (OF_EXIT_f) (OE_s_CRASH) (OF_s_CRASH_message) (OF_CRASH_f) (Fld.ne OF_s_REQUEST_ordinal OF_s_SEND_ordinal (by decide)) (Fld.ne OF_s_REQUEST_ordinal OF_s_RECEIVE_ordinal (by decide)) (Fld.ne OF_s_ENTER_ordinal OF_s_SEND_ordinal (by decide)) (Fld.ne OF_s_ENTER_ordinal OF_s_RECEIVE_ordinal (by decide)) (Fld.ne OF_s_EXIT_ordinal OF_s_SEND_ordinal (by decide)) (Fld.ne OF_s_EXIT_ordinal OF_s_RECEIVE_ordinal (by decide)) (Fld.ne OF_s_CRASH_ordinal OF_s_SEND_ordinal (by decide)) (Fld.ne OF_s_CRASH_ordinal OF_s_RECEIVE_ordinal (by decide)) (OE_fl) (OF_el) (OVl) (S_NF) (S_s_OE) (OE_s_OE) (OF_OE) (S_s_OL) (OE_s_OL) (OF_OL) (S_s_SEND) (S_s_RECEIVE) (S_s_ZERO) (OE_s_ZERO) (OVz) p e ha hc hk s m _ below hf ((Spec.applies_iff_loose hf).mp happ).1 ⟨rfl, State.Warmed39.refl s, rfl⟩ trivial
  refine ⟨n, _, h1, h2, h3, hpost _ _ _ _ _ _ ⟨Cond.after_iff.mpr rfl, Cond.after_iff.mpr (eq_i res_at (Term.int_eval (1)) rfl), trivial⟩ ⟨hq.1, hq.2.1, (hq.2.2.sift fun y hy => Or.inr (N y hy)).mono (by decide) (by decide)⟩⟩
theorem main_1_1 : Claimed_1_1 := comes_1 fun _ _ _ _ _ _ h hF => ⟨h.1, hF⟩
theorem main_1_2 : Claimed_1_2 := comes_1 fun _ _ _ _ _ _ h hF => ⟨h.2.1, hF⟩

end Jvm.Pilot.@@N@@
namespace Jvm.Pilot.@@N@@
open Jvm Jvm.ClassFile Sem Op Lib Jvm.Free Jvm.Stand Jvm.Pilot.@@N@@.Jvm.D
/-! MADE BY PROGRAM (witnessworld.py) out of the Statement's table words and the real class files: 39 classes; the members and pool entries that the words name. The judged class is class 1, her method 1. -/
namespace start1
open Jvm.ClassFile
def u (s : String) : CpInfo := .utf8 (stringToUtf16 s)
/-- a pool by its gaps: so many unusable entries, then the entry; so many at the end -/
def gap : Nat → List CpInfo → List CpInfo
  | 0, r => r
  | n + 1, r => .unusable :: gap n r
def poolList (es : List (Nat × CpInfo)) (last : Nat) : List CpInfo := es.foldr (fun e r => gap e.1 (e.2 :: r)) (gap last [])
def pool (es : List (Nat × CpInfo)) (last : Nat) : Array CpInfo := ⟨poolList es last⟩
def fileOf (pool : Array CpInfo) (this : Nat) (attrs : Array Attribute := #[]) (ms : Array MethodInfo := #[]) (fl : Nat := 33) (sup : Nat := 0) (ifs : Array Nat := #[]) (fds : Array FieldInfo := #[]) : ClassFile where
  minorVersion := 0
  majorVersion := 65
  constantPool := pool
  accessFlags := fl
  thisClass := this
  superClass := sup
  interfaces := ifs
  fields := fds
  methods := ms
  attributes := attrs
def plain (name : String) (sup : Option ClassId) : Class where
  name := name
  kind := .ordinary
  loader := none
  accessFlags := 33
  super := sup
  interfaces := #[]
  cf := none
  fields := #[]
  methods := #[]
  instanceTypes := #[]
  staticTypes := #[]
  resolved := #[]
  callSites := []
  init := .initialized
  statics := none
  mirror := none

def pool0 : Array CpInfo := pool [(5, u "<init>"), (0, u "()V"), (1, .class_ 10), (1, u "java/lang/Object")] 113

def k0c0 : Code := { maxStack := 0, maxLocals := 1, code := object_method_1_code, exceptionTable := #[], attributes := #[] }
def k0m0 : Method := { name := "<init>", desc := "()V", sig := { parameters := [], returnType := none }, accessFlags := 1, code := some k0c0 }
/-- java/lang/Object -/
def k0 : Class := { plain "java/lang/Object" none with
  accessFlags := 33
  interfaces := #[]
  cf := some (fileOf pool0 8 #[] #[{ accessFlags := 1, nameIndex := 5, descriptorIndex := 6, attributes := #[] }] 33 0 #[] #[])
  fields := #[]
  methods := #[k0m0]
  instanceTypes := #[]
  staticTypes := #[]
  resolved := Array.replicate 124 none
  statics := none }

def pool1 : Array CpInfo := pool [(2, .class_ 4), (0, .nameAndType 5 6), (0, u "java/lang/Object"), (0, u "<init>"), (0, u "()V"), (2, .long 9223372036854775807), (1, .methodref 12 13), (0, .class_ 14), (0, .nameAndType 15 16), (0, u "com/example/wildebeest/wildebeest/core/VectorTime"), (0, u "of"), (0, u "([J)Lcom/example/wildebeest/wildebeest/core/VectorTime;"), (0, .class_ 18), (0, u "com/example/wildebeest/wildebeest/core/CausalityCheck"), (0, .methodref 17 3), (0, .methodref 17 21), (0, .nameAndType 22 23), (0, u "checked"), (0, u "()Z"), (0, .methodref 25 26), (0, .class_ 27), (0, .nameAndType 28 29), (0, u "com/example/wildebeest/wildebeest/core/CausalityCheckCheckedPinLaw"), (0, u "event"), (0, u "(IIZLcom/example/wildebeest/wildebeest/core/VectorTime;)Lcom/example/wildebeest/wildebeest/core/TraceEvent;"), (0, .methodref 17 31), (0, .nameAndType 32 33), (0, u "accept"), (0, u "(Lcom/example/wildebeest/wildebeest/core/TraceEvent;)V"), (0, .fieldref 35 36), (0, .class_ 37), (0, .nameAndType 38 39), (0, u "com/example/wildebeest/wildebeest/core/EventKind"), (0, u "REQUEST"), (0, u "Lcom/example/wildebeest/wildebeest/core/EventKind;"), (0, .fieldref 35 41), (0, .nameAndType 42 39), (0, u "ENTER"), (0, .fieldref 35 44), (0, .nameAndType 45 39), (0, u "EXIT"), (0, .fieldref 35 47), (0, .nameAndType 48 39), (0, u "CRASH"), (0, .methodref 50 51), (0, .class_ 52), (0, .nameAndType 15 53), (0, u "java/util/Optional"), (0, u "(Ljava/lang/Object;)Ljava/util/Optional;"), (0, .methodref 50 55), (0, .nameAndType 56 57), (0, u "empty"), (0, u "()Ljava/util/Optional;"), (0, .methodref 59 60), (0, .class_ 61), (0, .nameAndType 56 62), (0, u "java/util/OptionalLong"), (0, u "()Ljava/util/OptionalLong;"), (0, .methodref 64 65), (0, .class_ 66), (0, .nameAndType 67 68), (0, u "com/example/wildebeest/wildebeest/core/TraceEvent"), (0, u "local"), (0, u "(Lcom/example/wildebeest/wildebeest/core/EventKind;IJLjava/util/OptionalLong;Ljava/util/Optional;[J)Lcom/example/wildebeest/wildebeest/core/TraceEvent;"), (2, u "law"), (0, u "(IIJJ)Z")] 3

def k1m0 : Method := { name := "<init>", desc := "()V", sig := { parameters := [], returnType := none }, accessFlags := 1, code := none }
def k1c1 : Code := { maxStack := 7, maxLocals := 14, code := code, exceptionTable := #[], attributes := #[] }
def k1m1 : Method := { name := "law", desc := "(IIJJ)Z", sig := { parameters := [.int, .int, .long, .long], returnType := some .boolean }, accessFlags := 9, code := some k1c1 }
def k1c2 : Code := { maxStack := 7, maxLocals := 8, code := method_3_code, exceptionTable := #[], attributes := #[] }
def k1m2 : Method := { name := "event", desc := "(IIZLcom/example/wildebeest/wildebeest/core/VectorTime;)Lcom/example/wildebeest/wildebeest/core/TraceEvent;", sig := { parameters := [.int, .int, .boolean, (.object "com/example/wildebeest/wildebeest/core/VectorTime")], returnType := some (.object "com/example/wildebeest/wildebeest/core/TraceEvent") }, accessFlags := 10, code := some k1c2 }
/-- com/example/wildebeest/wildebeest/core/CausalityCheckCheckedPinLaw -/
def k1 : Class := { plain "com/example/wildebeest/wildebeest/core/CausalityCheckCheckedPinLaw" (some 0) with
  accessFlags := 49
  interfaces := #[]
  cf := some (fileOf pool1 25 #[] #[{ accessFlags := 1, nameIndex := 5, descriptorIndex := 6, attributes := #[] }, { accessFlags := 9, nameIndex := 71, descriptorIndex := 72, attributes := #[] }, { accessFlags := 10, nameIndex := 28, descriptorIndex := 29, attributes := #[] }] 49 2 #[] #[])
  fields := #[]
  methods := #[k1m0, k1m1, k1m2]
  instanceTypes := #[]
  staticTypes := #[]
  resolved := Array.replicate 76 none
  statics := none }

def pool2 : Array CpInfo := pool [(1, .methodref 2 3), (0, .class_ 4), (0, .nameAndType 5 6), (0, u "java/lang/Object"), (0, u "<init>"), (0, u "()V"), (0, .fieldref 8 9), (0, .class_ 10), (0, .nameAndType 11 12), (0, u "com/example/wildebeest/wildebeest/core/VectorTime"), (0, u "nodes"), (0, u "I"), (0, .fieldref 8 14), (0, .nameAndType 15 16), (0, u "blocks"), (0, u "[[J"), (0, .fieldref 8 18), (0, .nameAndType 19 12), (0, u "held"), (0, .fieldref 8 21), (0, .nameAndType 22 23), (0, u "heldValue"), (0, u "J"), (7, .methodref 8 32), (0, .nameAndType 33 34), (0, u "blocksFor"), (0, u "(I)[[J"), (4, .fieldref 8 40), (0, .nameAndType 41 42), (0, u "ZERO"), (0, u "[J"), (0, .methodref 8 44), (0, .nameAndType 5 45), (0, u "(I[[JIJ)V"), (0, .class_ 42), (3, .methodref 8 51), (0, .nameAndType 52 53), (0, u "entry"), (0, u "(I)J"), (49, u "BLOCK"), (2, u "BLOCK_SHIFT"), (3, u "of"), (0, u "([J)Lcom/example/wildebeest/wildebeest/core/VectorTime;"), (3, u "get")] 30

def k2c0 : Code := { maxStack := 3, maxLocals := 6, code := prog_53_method_1_code, exceptionTable := #[], attributes := #[] }
def k2m0 : Method := { name := "<init>", desc := "(I[[JIJ)V", sig := { parameters := [.int, (.array (.array .long)), .int, .long], returnType := none }, accessFlags := 0, code := some k2c0 }
def k2c1 : Code := { maxStack := 7, maxLocals := 8, code := prog_53_method_2_code, exceptionTable := #[], attributes := #[] }
def k2m1 : Method := { name := "of", desc := "([J)Lcom/example/wildebeest/wildebeest/core/VectorTime;", sig := { parameters := [(.array .long)], returnType := some (.object "com/example/wildebeest/wildebeest/core/VectorTime") }, accessFlags := 137, code := some k2c1 }
def k2c2 : Code := { maxStack := 3, maxLocals := 3, code := prog_53_method_3_code, exceptionTable := #[], attributes := #[] }
def k2m2 : Method := { name := "blocksFor", desc := "(I)[[J", sig := { parameters := [.int], returnType := some (.array (.array .long)) }, accessFlags := 8, code := some k2c2 }
def k2c3 : Code := { maxStack := 4, maxLocals := 2, code := prog_53_method_5_code, exceptionTable := #[], attributes := #[] }
def k2m3 : Method := { name := "get", desc := "(I)J", sig := { parameters := [.int], returnType := some .long }, accessFlags := 1, code := some k2c3 }
def k2c4 : Code := { maxStack := 3, maxLocals := 2, code := prog_53_method_8_code, exceptionTable := #[], attributes := #[] }
def k2m4 : Method := { name := "entry", desc := "(I)J", sig := { parameters := [.int], returnType := some .long }, accessFlags := 0, code := some k2c4 }
/-- com/example/wildebeest/wildebeest/core/VectorTime -/
def k2 : Class := { plain "com/example/wildebeest/wildebeest/core/VectorTime" (some 0) with
  accessFlags := 49
  interfaces := #[]
  cf := some (fileOf pool2 8 #[] #[{ accessFlags := 0, nameIndex := 5, descriptorIndex := 45, attributes := #[] }, { accessFlags := 137, nameIndex := 110, descriptorIndex := 111, attributes := #[] }, { accessFlags := 8, nameIndex := 33, descriptorIndex := 34, attributes := #[] }, { accessFlags := 1, nameIndex := 115, descriptorIndex := 53, attributes := #[] }, { accessFlags := 0, nameIndex := 52, descriptorIndex := 53, attributes := #[] }] 49 2 #[] #[{ accessFlags := 24, nameIndex := 103, descriptorIndex := 12, attributes := #[] }, { accessFlags := 24, nameIndex := 106, descriptorIndex := 12, attributes := #[] }, { accessFlags := 24, nameIndex := 41, descriptorIndex := 42, attributes := #[] }, { accessFlags := 18, nameIndex := 11, descriptorIndex := 12, attributes := #[] }, { accessFlags := 18, nameIndex := 15, descriptorIndex := 16, attributes := #[] }, { accessFlags := 18, nameIndex := 19, descriptorIndex := 12, attributes := #[] }, { accessFlags := 18, nameIndex := 22, descriptorIndex := 23, attributes := #[] }])
  fields := #[{ name := "BLOCK", type := .int, accessFlags := 24, slot := 0, constantValue := 0 }, { name := "BLOCK_SHIFT", type := .int, accessFlags := 24, slot := 1, constantValue := 0 }, { name := "ZERO", type := (.array .long), accessFlags := 24, slot := 2, constantValue := 0 }, { name := "nodes", type := .int, accessFlags := 18, slot := 0, constantValue := 0 }, { name := "blocks", type := (.array (.array .long)), accessFlags := 18, slot := 1, constantValue := 0 }, { name := "held", type := .int, accessFlags := 18, slot := 2, constantValue := 0 }, { name := "heldValue", type := .long, accessFlags := 18, slot := 3, constantValue := 0 }]
  methods := #[k2m0, k2m1, k2m2, k2m3, k2m4]
  instanceTypes := #[.int, (.array (.array .long)), .int, .long]
  staticTypes := #[.int, .int, (.array .long)]
  resolved := Array.replicate 146 none
  statics := some 0 }

def pool3 : Array CpInfo := pool [(12, .class_ 14), (1, u "java/util/function/Consumer"), (1, .class_ 17), (0, u "java/lang/Object")] 41

/-- java/util/function/Consumer -/
def k3 : Class := { plain "java/util/function/Consumer" (some 0) with
  accessFlags := 1537
  interfaces := #[]
  cf := some (fileOf pool3 12 #[] #[] 1537 16 #[] #[])
  fields := #[]
  methods := #[]
  instanceTypes := #[]
  staticTypes := #[]
  resolved := Array.replicate 59 none
  statics := none }

def pool4 : Array CpInfo := pool [(1, .methodref 2 3), (0, .class_ 4), (0, .nameAndType 5 6), (0, u "java/lang/Object"), (0, u "<init>"), (0, u "()V"), (0, .class_ 8), (0, u "java/util/HashMap"), (0, .methodref 7 3), (0, .fieldref 11 12), (0, .class_ 13), (0, .nameAndType 14 15), (0, u "com/example/wildebeest/wildebeest/core/CausalityCheck"), (0, u "sends"), (0, u "Ljava/util/Map;"), (0, .fieldref 11 17), (0, .nameAndType 18 15), (0, u "receives"), (0, .fieldref 11 20), (0, .nameAndType 21 22), (0, u "events"), (0, u "[J"), (0, .methodref 24 25), (0, .class_ 26), (0, .nameAndType 27 28), (0, u "com/example/wildebeest/wildebeest/core/TraceEvent"), (0, u "node"), (0, u "()I"), (0, .methodref 30 31), (0, .class_ 32), (0, .nameAndType 33 34), (0, u "java/lang/Math"), (0, u "max"), (0, u "(II)I"), (0, .methodref 36 37), (0, .class_ 38), (0, .nameAndType 39 40), (0, u "java/util/Arrays"), (0, u "copyOf"), (0, u "([JI)[J"), (0, .methodref 24 42), (0, .nameAndType 43 44), (0, u "vector"), (0, u "()Ljava/util/Optional;"), (0, .methodref 46 47), (0, .class_ 48), (0, .nameAndType 49 50), (0, u "java/util/Optional"), (0, u "isEmpty"), (0, u "()Z"), (0, .fieldref 11 52), (0, .nameAndType 53 54), (0, u "unstamped"), (0, u "J"), (0, .fieldref 11 56), (0, .nameAndType 57 54), (0, u "stamped"), (0, .methodref 46 59), (0, .nameAndType 60 61), (0, u "get"), (0, u "()Ljava/lang/Object;"), (0, .class_ 63), (0, u "com/example/wildebeest/wildebeest/core/VectorTime"), (0, .methodref 62 65), (0, .nameAndType 60 66), (0, u "(I)J"), (0, .fieldref 11 68), (0, .nameAndType 69 54), (0, u "violations"), (0, .methodref 24 71), (0, .nameAndType 72 73), (0, u "kind"), (0, u "()Lcom/example/wildebeest/wildebeest/core/EventKind;"), (0, .fieldref 75 76), (0, .class_ 77), (0, .nameAndType 78 79), (0, u "com/example/wildebeest/wildebeest/core/EventKind"), (0, u "SEND"), (0, u "Lcom/example/wildebeest/wildebeest/core/EventKind;"), (30, .fieldref 75 111), (0, .nameAndType 112 79), (0, u "RECEIVE"), (15, u "checked"), (12, u "accept"), (0, u "(Lcom/example/wildebeest/wildebeest/core/TraceEvent;)V"), (0, .class_ 144), (0, u "java/util/function/Consumer")] 10

def k4c0 : Code := { maxStack := 3, maxLocals := 1, code := prog_32_method_1_code, exceptionTable := #[], attributes := #[] }
def k4m0 : Method := { name := "<init>", desc := "()V", sig := { parameters := [], returnType := none }, accessFlags := 1, code := some k4c0 }
def k4c1 : Code := { maxStack := 6, maxLocals := 5, code := prog_32_method_2_code, exceptionTable := #[], attributes := #[] }
def k4m1 : Method := { name := "accept", desc := "(Lcom/example/wildebeest/wildebeest/core/TraceEvent;)V", sig := { parameters := [(.object "com/example/wildebeest/wildebeest/core/TraceEvent")], returnType := none }, accessFlags := 1, code := some k4c1 }
def k4c2 : Code := { maxStack := 4, maxLocals := 1, code := prog_32_method_4_code, exceptionTable := #[], attributes := #[] }
def k4m2 : Method := { name := "checked", desc := "()Z", sig := { parameters := [], returnType := some .boolean }, accessFlags := 1, code := some k4c2 }
/-- com/example/wildebeest/wildebeest/core/CausalityCheck -/
def k4 : Class := { plain "com/example/wildebeest/wildebeest/core/CausalityCheck" (some 0) with
  accessFlags := 49
  interfaces := #[3]
  cf := some (fileOf pool4 11 #[] #[{ accessFlags := 1, nameIndex := 5, descriptorIndex := 6, attributes := #[] }, { accessFlags := 1, nameIndex := 141, descriptorIndex := 142, attributes := #[] }, { accessFlags := 1, nameIndex := 128, descriptorIndex := 50, attributes := #[] }] 49 2 #[143] #[{ accessFlags := 18, nameIndex := 14, descriptorIndex := 15, attributes := #[] }, { accessFlags := 18, nameIndex := 18, descriptorIndex := 15, attributes := #[] }, { accessFlags := 2, nameIndex := 21, descriptorIndex := 22, attributes := #[] }, { accessFlags := 2, nameIndex := 57, descriptorIndex := 54, attributes := #[] }, { accessFlags := 2, nameIndex := 53, descriptorIndex := 54, attributes := #[] }, { accessFlags := 2, nameIndex := 69, descriptorIndex := 54, attributes := #[] }])
  fields := #[{ name := "sends", type := (.object "java/util/Map"), accessFlags := 18, slot := 0, constantValue := 0 }, { name := "receives", type := (.object "java/util/Map"), accessFlags := 18, slot := 1, constantValue := 0 }, { name := "events", type := (.array .long), accessFlags := 2, slot := 2, constantValue := 0 }, { name := "stamped", type := .long, accessFlags := 2, slot := 3, constantValue := 0 }, { name := "unstamped", type := .long, accessFlags := 2, slot := 4, constantValue := 0 }, { name := "violations", type := .long, accessFlags := 2, slot := 5, constantValue := 0 }]
  methods := #[k4m0, k4m1, k4m2]
  instanceTypes := #[(.object "java/util/Map"), (.object "java/util/Map"), (.array .long), .long, .long, .long]
  staticTypes := #[]
  resolved := Array.replicate 155 none
  statics := none }

def pool5 : Array CpInfo := pool [(2, .class_ 4), (1, u "java/util/Map"), (31, .class_ 37), (0, u "java/util/Map$Entry"), (55, .class_ 94), (0, u "java/lang/Object")] 168

/-- java/util/Map -/
def k5 : Class := { plain "java/util/Map" (some 0) with
  accessFlags := 1537
  interfaces := #[]
  cf := some (fileOf pool5 2 #[.nestMembers #[36]] #[] 1537 93 #[] #[])
  fields := #[]
  methods := #[]
  instanceTypes := #[]
  staticTypes := #[]
  resolved := Array.replicate 263 none
  statics := none }

def pool6 : Array CpInfo := pool [(1, .methodref 2 3), (0, .class_ 4), (0, .nameAndType 5 6), (0, u "java/lang/Object"), (0, u "<init>"), (0, u "()V"), (1, .class_ 10), (1, u "java/util/AbstractMap"), (42, .class_ 54), (0, u "java/util/Map"), (9, u "keySet"), (0, u "Ljava/util/Set;"), (0, .class_ 67), (0, u "java/util/AbstractMap$1"), (5, u "values"), (0, u "Ljava/util/Collection;"), (0, .class_ 76), (0, u "java/util/AbstractMap$2"), (104, .class_ 182), (0, u "java/util/AbstractMap$ViewCollection"), (0, .class_ 184), (0, u "java/util/AbstractMap$SimpleImmutableEntry"), (0, .class_ 186), (0, u "java/util/AbstractMap$SimpleEntry"), (0, .class_ 188), (0, u "java/util/AbstractMap$2$1"), (0, .class_ 190), (0, u "java/util/AbstractMap$1$1")] 5

def k6c0 : Code := { maxStack := 1, maxLocals := 1, code := jdk_71_method_1_code, exceptionTable := #[], attributes := #[] }
def k6m0 : Method := { name := "<init>", desc := "()V", sig := { parameters := [], returnType := none }, accessFlags := 4, code := some k6c0 }
/-- java/util/AbstractMap -/
def k6 : Class := { plain "java/util/AbstractMap" (some 0) with
  accessFlags := 1057
  interfaces := #[5]
  cf := some (fileOf pool6 8 #[.nestMembers #[181, 183, 185, 75, 187, 66, 189]] #[{ accessFlags := 4, nameIndex := 5, descriptorIndex := 6, attributes := #[] }] 1057 2 #[53] #[{ accessFlags := 128, nameIndex := 64, descriptorIndex := 65, attributes := #[] }, { accessFlags := 128, nameIndex := 73, descriptorIndex := 74, attributes := #[] }])
  fields := #[{ name := "keySet", type := (.object "java/util/Set"), accessFlags := 128, slot := 0, constantValue := 0 }, { name := "values", type := (.object "java/util/Collection"), accessFlags := 128, slot := 1, constantValue := 0 }]
  methods := #[k6m0]
  instanceTypes := #[(.object "java/util/Set"), (.object "java/util/Collection")]
  staticTypes := #[]
  resolved := Array.replicate 196 none
  statics := none }

def pool7 : Array CpInfo := pool [(1, .class_ 2), (0, u "java/lang/Cloneable"), (0, .class_ 4), (0, u "java/lang/Object")] 2

/-- java/lang/Cloneable -/
def k7 : Class := { plain "java/lang/Cloneable" (some 0) with
  accessFlags := 1537
  interfaces := #[]
  cf := some (fileOf pool7 1 #[] #[] 1537 3 #[] #[])
  fields := #[]
  methods := #[]
  instanceTypes := #[]
  staticTypes := #[]
  resolved := Array.replicate 7 none
  statics := none }

def pool8 : Array CpInfo := pool [(1, .class_ 2), (0, u "java/io/Serializable"), (0, .class_ 4), (0, u "java/lang/Object")] 2

/-- java/io/Serializable -/
def k8 : Class := { plain "java/io/Serializable" (some 0) with
  accessFlags := 1537
  interfaces := #[]
  cf := some (fileOf pool8 1 #[] #[] 1537 3 #[] #[])
  fields := #[]
  methods := #[]
  instanceTypes := #[]
  staticTypes := #[]
  resolved := Array.replicate 7 none
  statics := none }

def pool9 : Array CpInfo := pool [(40, .class_ 41), (0, u "java/util/HashMap"), (1, .methodref 44 45), (0, .class_ 46), (0, .nameAndType 47 48), (0, u "java/util/AbstractMap"), (0, u "<init>"), (0, u "()V"), (32, .fieldref 40 82), (0, .nameAndType 83 84), (0, u "loadFactor"), (0, u "F"), (5, u "threshold"), (0, u "I"), (0, .float 1061158912), (8, .class_ 103), (1, u "java/util/Map"), (0, u "size"), (2, u "table"), (0, u "[Ljava/util/HashMap$Node;"), (14, u "entrySet"), (39, .class_ 165), (1, u "java/util/HashMap$Node"), (14, .class_ 181), (0, u "java/util/HashMap$TreeNode"), (22, u "modCount"), (37, u "Ljava/util/Set;"), (0, .class_ 244), (0, u "java/util/HashMap$KeySet"), (18, .class_ 264), (0, u "java/util/HashMap$Values"), (3, .class_ 269), (0, u "java/util/HashMap$EntrySet"), (76, .class_ 348), (1, u "java/util/HashMap$UnsafeHolder"), (43, .class_ 393), (0, u "java/lang/Cloneable"), (0, .class_ 395), (0, u "java/io/Serializable"), (0, u "serialVersionUID"), (0, u "J"), (3, u "DEFAULT_INITIAL_CAPACITY"), (1, u "MAXIMUM_CAPACITY"), (0, u "DEFAULT_LOAD_FACTOR"), (0, u "TREEIFY_THRESHOLD"), (1, u "UNTREEIFY_THRESHOLD"), (1, u "MIN_TREEIFY_CAPACITY"), (186, .class_ 597), (0, u "java/util/HashMap$EntrySpliterator"), (0, .class_ 599), (0, u "java/util/HashMap$ValueSpliterator"), (0, .class_ 601), (0, u "java/util/HashMap$KeySpliterator"), (0, .class_ 603), (0, u "java/util/HashMap$HashMapSpliterator"), (0, .class_ 605), (0, u "java/util/HashMap$EntryIterator"), (0, .class_ 607), (0, u "java/util/HashMap$ValueIterator"), (0, .class_ 609), (0, u "java/util/HashMap$KeyIterator"), (0, .class_ 611), (0, u "java/util/HashMap$HashIterator")] 17

def k9c0 : Code := { maxStack := 2, maxLocals := 1, code := jdk_69_method_7_code, exceptionTable := #[], attributes := #[] }
def k9m0 : Method := { name := "<init>", desc := "()V", sig := { parameters := [], returnType := none }, accessFlags := 1, code := some k9c0 }
/-- java/util/HashMap -/
def k9 : Class := { plain "java/util/HashMap" (some 6) with
  accessFlags := 33
  interfaces := #[5, 7, 8]
  cf := some (fileOf pool9 40 #[.nestMembers #[180, 596, 598, 600, 602, 604, 606, 608, 610, 346, 268, 263, 243, 163]] #[{ accessFlags := 1, nameIndex := 47, descriptorIndex := 48, attributes := #[] }] 33 44 #[101, 392, 394] #[{ accessFlags := 26, nameIndex := 396, descriptorIndex := 397, attributes := #[] }, { accessFlags := 24, nameIndex := 401, descriptorIndex := 91, attributes := #[] }, { accessFlags := 24, nameIndex := 403, descriptorIndex := 91, attributes := #[] }, { accessFlags := 24, nameIndex := 404, descriptorIndex := 84, attributes := #[] }, { accessFlags := 24, nameIndex := 405, descriptorIndex := 91, attributes := #[] }, { accessFlags := 24, nameIndex := 407, descriptorIndex := 91, attributes := #[] }, { accessFlags := 24, nameIndex := 409, descriptorIndex := 91, attributes := #[] }, { accessFlags := 128, nameIndex := 107, descriptorIndex := 108, attributes := #[] }, { accessFlags := 128, nameIndex := 123, descriptorIndex := 242, attributes := #[] }, { accessFlags := 128, nameIndex := 104, descriptorIndex := 91, attributes := #[] }, { accessFlags := 128, nameIndex := 204, descriptorIndex := 91, attributes := #[] }, { accessFlags := 0, nameIndex := 90, descriptorIndex := 91, attributes := #[] }, { accessFlags := 16, nameIndex := 83, descriptorIndex := 84, attributes := #[] }])
  fields := #[{ name := "serialVersionUID", type := .long, accessFlags := 26, slot := 0, constantValue := 0 }, { name := "DEFAULT_INITIAL_CAPACITY", type := .int, accessFlags := 24, slot := 1, constantValue := 0 }, { name := "MAXIMUM_CAPACITY", type := .int, accessFlags := 24, slot := 2, constantValue := 0 }, { name := "DEFAULT_LOAD_FACTOR", type := .float, accessFlags := 24, slot := 3, constantValue := 0 }, { name := "TREEIFY_THRESHOLD", type := .int, accessFlags := 24, slot := 4, constantValue := 0 }, { name := "UNTREEIFY_THRESHOLD", type := .int, accessFlags := 24, slot := 5, constantValue := 0 }, { name := "MIN_TREEIFY_CAPACITY", type := .int, accessFlags := 24, slot := 6, constantValue := 0 }, { name := "table", type := (.array (.object "java/util/HashMap$Node")), accessFlags := 128, slot := 2, constantValue := 0 }, { name := "entrySet", type := (.object "java/util/Set"), accessFlags := 128, slot := 3, constantValue := 0 }, { name := "size", type := .int, accessFlags := 128, slot := 4, constantValue := 0 }, { name := "modCount", type := .int, accessFlags := 128, slot := 5, constantValue := 0 }, { name := "threshold", type := .int, accessFlags := 0, slot := 6, constantValue := 0 }, { name := "loadFactor", type := .float, accessFlags := 16, slot := 7, constantValue := 0 }]
  methods := #[k9m0]
  instanceTypes := #[(.object "java/util/Set"), (.object "java/util/Collection"), (.array (.object "java/util/HashMap$Node")), (.object "java/util/Set"), .int, .int, .int, .float]
  staticTypes := #[.long, .int, .int, .float, .int, .int, .int]
  resolved := Array.replicate 629 none
  statics := none }

def pool10 : Array CpInfo := pool [(1, .class_ 2), (0, u "java/lang/constant/Constable"), (0, .class_ 4), (0, u "java/lang/Object")] 6

/-- java/lang/constant/Constable -/
def k10 : Class := { plain "java/lang/constant/Constable" (some 0) with
  accessFlags := 1537
  interfaces := #[]
  cf := some (fileOf pool10 1 #[] #[] 1537 3 #[] #[])
  fields := #[]
  methods := #[]
  instanceTypes := #[]
  staticTypes := #[]
  resolved := Array.replicate 11 none
  statics := none }

def pool11 : Array CpInfo := pool [(1, .class_ 2), (0, u "java/lang/Comparable"), (0, .class_ 4), (0, u "java/lang/Object")] 7

/-- java/lang/Comparable -/
def k11 : Class := { plain "java/lang/Comparable" (some 0) with
  accessFlags := 1537
  interfaces := #[]
  cf := some (fileOf pool11 1 #[] #[] 1537 3 #[] #[])
  fields := #[]
  methods := #[]
  instanceTypes := #[]
  staticTypes := #[]
  resolved := Array.replicate 12 none
  statics := none }

def pool12 : Array CpInfo := pool [(2, .class_ 4), (1, u "java/lang/Enum"), (0, u "name"), (0, u "Ljava/lang/String;"), (2, u "ordinal"), (0, u "I"), (1, .class_ 14), (1, u "java/lang/Object"), (4, u "hash"), (86, .class_ 108), (1, u "java/lang/Enum$EnumDesc"), (2, .class_ 112), (0, u "java/lang/constant/Constable"), (0, .class_ 114), (0, u "java/lang/Comparable"), (0, .class_ 116), (0, u "java/io/Serializable")] 87

/-- java/lang/Enum -/
def k12 : Class := { plain "java/lang/Enum" (some 0) with
  accessFlags := 1057
  interfaces := #[10, 11, 8]
  cf := some (fileOf pool12 2 #[.nestMembers #[106]] #[] 1057 12 #[111, 113, 115] #[{ accessFlags := 18, nameIndex := 5, descriptorIndex := 6, attributes := #[] }, { accessFlags := 18, nameIndex := 9, descriptorIndex := 10, attributes := #[] }, { accessFlags := 2, nameIndex := 19, descriptorIndex := 10, attributes := #[] }])
  fields := #[{ name := "name", type := (.object "java/lang/String"), accessFlags := 18, slot := 0, constantValue := 0 }, { name := "ordinal", type := .int, accessFlags := 18, slot := 1, constantValue := 0 }, { name := "hash", type := .int, accessFlags := 2, slot := 2, constantValue := 0 }]
  methods := #[]
  instanceTypes := #[(.object "java/lang/String"), .int, .int]
  staticTypes := #[]
  resolved := Array.replicate 204 none
  statics := none }

def pool13 : Array CpInfo := pool [(2, .class_ 4), (1, u "com/example/wildebeest/wildebeest/core/Spelled"), (29, .class_ 35), (0, u "java/lang/Object")] 14

/-- com/example/wildebeest/wildebeest/core/Spelled -/
def k13 : Class := { plain "com/example/wildebeest/wildebeest/core/Spelled" (some 0) with
  accessFlags := 1537
  interfaces := #[]
  cf := some (fileOf pool13 2 #[] #[] 1537 34 #[] #[])
  fields := #[]
  methods := #[]
  instanceTypes := #[]
  staticTypes := #[]
  resolved := Array.replicate 50 none
  statics := none }

def pool14 : Array CpInfo := pool [(1, .class_ 2), (0, u "com/example/wildebeest/wildebeest/core/EventKind"), (2, u "REQUEST"), (0, u "Lcom/example/wildebeest/wildebeest/core/EventKind;"), (2, u "ENTER"), (2, u "EXIT"), (2, u "SEND"), (2, u "RECEIVE"), (2, u "CRASH"), (2, u "LEADER"), (2, u "EXPIRE"), (2, u "REFUSED"), (2, u "GONE"), (2, u "$VALUES"), (0, u "[Lcom/example/wildebeest/wildebeest/core/EventKind;"), (6, .class_ 46), (1, u "java/lang/Enum"), (8, u "spelling"), (0, u "Ljava/lang/String;"), (0, .fieldref 1 58), (0, .nameAndType 59 60), (0, u "message"), (0, u "Z"), (6, .fieldref 1 68), (0, .nameAndType 69 70), (0, u "fields"), (0, u "Ljava/util/List;"), (5, .class_ 78), (1, u "com/example/wildebeest/wildebeest/core/Spelled"), (5, .class_ 85), (0, u "com/example/wildebeest/wildebeest/core/EventKind$Field"), (57, u "isMessage"), (0, u "()Z"), (0, u "()Ljava/util/List;")] 9

def k14c0 : Code := { maxStack := 1, maxLocals := 1, code := prog_36_method_6_code, exceptionTable := #[], attributes := #[] }
def k14m0 : Method := { name := "isMessage", desc := "()Z", sig := { parameters := [], returnType := some .boolean }, accessFlags := 1, code := some k14c0 }
def k14c1 : Code := { maxStack := 1, maxLocals := 1, code := prog_36_method_7_code, exceptionTable := #[], attributes := #[] }
def k14m1 : Method := { name := "fields", desc := "()Ljava/util/List;", sig := { parameters := [], returnType := some (.object "java/util/List") }, accessFlags := 1, code := some k14c1 }
/-- com/example/wildebeest/wildebeest/core/EventKind -/
def k14 : Class := { plain "com/example/wildebeest/wildebeest/core/EventKind" (some 12) with
  accessFlags := 16433
  interfaces := #[13]
  cf := some (fileOf pool14 1 #[.nestMembers #[84]] #[{ accessFlags := 1, nameIndex := 143, descriptorIndex := 144, attributes := #[] }, { accessFlags := 1, nameIndex := 69, descriptorIndex := 145, attributes := #[] }] 16433 44 #[76] #[{ accessFlags := 16409, nameIndex := 5, descriptorIndex := 6, attributes := #[] }, { accessFlags := 16409, nameIndex := 9, descriptorIndex := 6, attributes := #[] }, { accessFlags := 16409, nameIndex := 12, descriptorIndex := 6, attributes := #[] }, { accessFlags := 16409, nameIndex := 15, descriptorIndex := 6, attributes := #[] }, { accessFlags := 16409, nameIndex := 18, descriptorIndex := 6, attributes := #[] }, { accessFlags := 16409, nameIndex := 21, descriptorIndex := 6, attributes := #[] }, { accessFlags := 16409, nameIndex := 24, descriptorIndex := 6, attributes := #[] }, { accessFlags := 16409, nameIndex := 27, descriptorIndex := 6, attributes := #[] }, { accessFlags := 16409, nameIndex := 30, descriptorIndex := 6, attributes := #[] }, { accessFlags := 16409, nameIndex := 33, descriptorIndex := 6, attributes := #[] }, { accessFlags := 18, nameIndex := 55, descriptorIndex := 56, attributes := #[] }, { accessFlags := 18, nameIndex := 59, descriptorIndex := 60, attributes := #[] }, { accessFlags := 18, nameIndex := 69, descriptorIndex := 70, attributes := #[] }, { accessFlags := 4122, nameIndex := 36, descriptorIndex := 37, attributes := #[] }])
  fields := #[{ name := "REQUEST", type := (.object "com/example/wildebeest/wildebeest/core/EventKind"), accessFlags := 16409, slot := 0, constantValue := 0 }, { name := "ENTER", type := (.object "com/example/wildebeest/wildebeest/core/EventKind"), accessFlags := 16409, slot := 1, constantValue := 0 }, { name := "EXIT", type := (.object "com/example/wildebeest/wildebeest/core/EventKind"), accessFlags := 16409, slot := 2, constantValue := 0 }, { name := "SEND", type := (.object "com/example/wildebeest/wildebeest/core/EventKind"), accessFlags := 16409, slot := 3, constantValue := 0 }, { name := "RECEIVE", type := (.object "com/example/wildebeest/wildebeest/core/EventKind"), accessFlags := 16409, slot := 4, constantValue := 0 }, { name := "CRASH", type := (.object "com/example/wildebeest/wildebeest/core/EventKind"), accessFlags := 16409, slot := 5, constantValue := 0 }, { name := "LEADER", type := (.object "com/example/wildebeest/wildebeest/core/EventKind"), accessFlags := 16409, slot := 6, constantValue := 0 }, { name := "EXPIRE", type := (.object "com/example/wildebeest/wildebeest/core/EventKind"), accessFlags := 16409, slot := 7, constantValue := 0 }, { name := "REFUSED", type := (.object "com/example/wildebeest/wildebeest/core/EventKind"), accessFlags := 16409, slot := 8, constantValue := 0 }, { name := "GONE", type := (.object "com/example/wildebeest/wildebeest/core/EventKind"), accessFlags := 16409, slot := 9, constantValue := 0 }, { name := "spelling", type := (.object "java/lang/String"), accessFlags := 18, slot := 3, constantValue := 0 }, { name := "message", type := .boolean, accessFlags := 18, slot := 4, constantValue := 0 }, { name := "fields", type := (.object "java/util/List"), accessFlags := 18, slot := 5, constantValue := 0 }, { name := "$VALUES", type := (.array (.object "com/example/wildebeest/wildebeest/core/EventKind")), accessFlags := 4122, slot := 10, constantValue := 0 }]
  methods := #[k14m0, k14m1]
  instanceTypes := #[(.object "java/lang/String"), .int, .int, (.object "java/lang/String"), .boolean, (.object "java/util/List")]
  staticTypes := #[(.object "com/example/wildebeest/wildebeest/core/EventKind"), (.object "com/example/wildebeest/wildebeest/core/EventKind"), (.object "com/example/wildebeest/wildebeest/core/EventKind"), (.object "com/example/wildebeest/wildebeest/core/EventKind"), (.object "com/example/wildebeest/wildebeest/core/EventKind"), (.object "com/example/wildebeest/wildebeest/core/EventKind"), (.object "com/example/wildebeest/wildebeest/core/EventKind"), (.object "com/example/wildebeest/wildebeest/core/EventKind"), (.object "com/example/wildebeest/wildebeest/core/EventKind"), (.object "com/example/wildebeest/wildebeest/core/EventKind"), (.array (.object "com/example/wildebeest/wildebeest/core/EventKind"))]
  resolved := Array.replicate 155 none
  statics := some 1 }

def pool15 : Array CpInfo := pool [(1, .fieldref 2 3), (0, .class_ 4), (0, .nameAndType 5 6), (0, u "java/util/Optional"), (0, u "EMPTY"), (0, u "Ljava/util/Optional;"), (0, .methodref 8 9), (0, .class_ 10), (0, .nameAndType 11 12), (0, u "java/lang/Object"), (0, u "<init>"), (0, u "()V"), (0, .fieldref 2 14), (0, .nameAndType 15 16), (0, u "value"), (0, u "Ljava/lang/Object;"), (0, .methodref 18 19), (0, .class_ 20), (0, .nameAndType 21 22), (0, u "java/util/Objects"), (0, u "requireNonNull"), (0, u "(Ljava/lang/Object;)Ljava/lang/Object;"), (0, .methodref 2 24), (0, .nameAndType 11 25), (0, u "(Ljava/lang/Object;)V"), (19, u "isEmpty"), (0, u "()Z"), (8, u "empty"), (0, u "()Ljava/util/Optional;"), (7, u "ofNullable"), (0, u "(Ljava/lang/Object;)Ljava/util/Optional;"), (7, u "get"), (0, u "()Ljava/lang/Object;"), (7, u "of"), (82, u "orElse")] 21

def k15c0 : Code := { maxStack := 1, maxLocals := 1, code := jdk_32_method_1_code, exceptionTable := #[], attributes := #[] }
def k15m0 : Method := { name := "empty", desc := "()Ljava/util/Optional;", sig := { parameters := [], returnType := some (.object "java/util/Optional") }, accessFlags := 9, code := some k15c0 }
def k15c1 : Code := { maxStack := 2, maxLocals := 2, code := jdk_32_method_2_code, exceptionTable := #[], attributes := #[] }
def k15m1 : Method := { name := "<init>", desc := "(Ljava/lang/Object;)V", sig := { parameters := [(.object "java/lang/Object")], returnType := none }, accessFlags := 2, code := some k15c1 }
def k15c2 : Code := { maxStack := 3, maxLocals := 1, code := jdk_32_method_3_code, exceptionTable := #[], attributes := #[] }
def k15m2 : Method := { name := "of", desc := "(Ljava/lang/Object;)Ljava/util/Optional;", sig := { parameters := [(.object "java/lang/Object")], returnType := some (.object "java/util/Optional") }, accessFlags := 9, code := some k15c2 }
def k15c3 : Code := { maxStack := 3, maxLocals := 1, code := jdk_32_method_4_code, exceptionTable := #[], attributes := #[] }
def k15m3 : Method := { name := "ofNullable", desc := "(Ljava/lang/Object;)Ljava/util/Optional;", sig := { parameters := [(.object "java/lang/Object")], returnType := some (.object "java/util/Optional") }, accessFlags := 9, code := some k15c3 }
def k15c4 : Code := { maxStack := 3, maxLocals := 1, code := jdk_32_method_5_code, exceptionTable := #[], attributes := #[] }
def k15m4 : Method := { name := "get", desc := "()Ljava/lang/Object;", sig := { parameters := [], returnType := some (.object "java/lang/Object") }, accessFlags := 1, code := some k15c4 }
def k15c5 : Code := { maxStack := 1, maxLocals := 1, code := jdk_32_method_7_code, exceptionTable := #[], attributes := #[] }
def k15m5 : Method := { name := "isEmpty", desc := "()Z", sig := { parameters := [], returnType := some .boolean }, accessFlags := 1, code := some k15c5 }
def k15c6 : Code := { maxStack := 1, maxLocals := 2, code := jdk_32_method_15_code, exceptionTable := #[], attributes := #[] }
def k15m6 : Method := { name := "orElse", desc := "(Ljava/lang/Object;)Ljava/lang/Object;", sig := { parameters := [(.object "java/lang/Object")], returnType := some (.object "java/lang/Object") }, accessFlags := 1, code := some k15c6 }
/-- java/util/Optional -/
def k15 : Class := { plain "java/util/Optional" (some 0) with
  accessFlags := 49
  interfaces := #[]
  cf := some (fileOf pool15 2 #[] #[{ accessFlags := 9, nameIndex := 55, descriptorIndex := 56, attributes := #[] }, { accessFlags := 2, nameIndex := 11, descriptorIndex := 25, attributes := #[] }, { accessFlags := 9, nameIndex := 82, descriptorIndex := 65, attributes := #[] }, { accessFlags := 9, nameIndex := 64, descriptorIndex := 65, attributes := #[] }, { accessFlags := 1, nameIndex := 73, descriptorIndex := 74, attributes := #[] }, { accessFlags := 1, nameIndex := 45, descriptorIndex := 46, attributes := #[] }, { accessFlags := 1, nameIndex := 165, descriptorIndex := 22, attributes := #[] }] 49 8 #[] #[{ accessFlags := 26, nameIndex := 5, descriptorIndex := 6, attributes := #[] }, { accessFlags := 18, nameIndex := 15, descriptorIndex := 16, attributes := #[] }])
  fields := #[{ name := "EMPTY", type := (.object "java/util/Optional"), accessFlags := 26, slot := 0, constantValue := 0 }, { name := "value", type := (.object "java/lang/Object"), accessFlags := 18, slot := 0, constantValue := 0 }]
  methods := #[k15m0, k15m1, k15m2, k15m3, k15m4, k15m5, k15m6]
  instanceTypes := #[(.object "java/lang/Object")]
  staticTypes := #[(.object "java/util/Optional")]
  resolved := Array.replicate 187 none
  statics := some 2 }

def pool16 : Array CpInfo := pool [(2, .class_ 4), (1, u "java/lang/Object"), (0, u "<init>"), (0, u "()V"), (0, .fieldref 8 9), (0, .class_ 10), (0, .nameAndType 11 12), (0, u "java/util/OptionalLong"), (0, u "isPresent"), (0, u "Z"), (2, u "value"), (0, u "J"), (0, .fieldref 8 18), (0, .nameAndType 19 20), (0, u "EMPTY"), (0, u "Ljava/util/OptionalLong;"), (28, u "empty"), (46, u "()Ljava/util/OptionalLong;"), (2, u "()Z"), (10, u "orElse"), (0, u "(J)J")] 26

def k16m0 : Method := { name := "<init>", desc := "()V", sig := { parameters := [], returnType := none }, accessFlags := 2, code := none }
def k16c1 : Code := { maxStack := 1, maxLocals := 0, code := jdk_2650_method_2_code, exceptionTable := #[], attributes := #[] }
def k16m1 : Method := { name := "empty", desc := "()Ljava/util/OptionalLong;", sig := { parameters := [], returnType := some (.object "java/util/OptionalLong") }, accessFlags := 9, code := some k16c1 }
def k16c2 : Code := { maxStack := 1, maxLocals := 1, code := jdk_2650_method_6_code, exceptionTable := #[], attributes := #[] }
def k16m2 : Method := { name := "isPresent", desc := "()Z", sig := { parameters := [], returnType := some .boolean }, accessFlags := 1, code := some k16c2 }
def k16c3 : Code := { maxStack := 2, maxLocals := 3, code := jdk_2650_method_11_code, exceptionTable := #[], attributes := #[] }
def k16m3 : Method := { name := "orElse", desc := "(J)J", sig := { parameters := [.long], returnType := some .long }, accessFlags := 1, code := some k16c3 }
/-- java/util/OptionalLong -/
def k16 : Class := { plain "java/util/OptionalLong" (some 0) with
  accessFlags := 49
  interfaces := #[]
  cf := some (fileOf pool16 8 #[] #[{ accessFlags := 2, nameIndex := 5, descriptorIndex := 6, attributes := #[] }, { accessFlags := 9, nameIndex := 49, descriptorIndex := 96, attributes := #[] }, { accessFlags := 1, nameIndex := 11, descriptorIndex := 99, attributes := #[] }, { accessFlags := 1, nameIndex := 110, descriptorIndex := 111, attributes := #[] }] 49 2 #[] #[{ accessFlags := 26, nameIndex := 19, descriptorIndex := 20, attributes := #[] }, { accessFlags := 18, nameIndex := 11, descriptorIndex := 12, attributes := #[] }, { accessFlags := 18, nameIndex := 15, descriptorIndex := 16, attributes := #[] }])
  fields := #[{ name := "EMPTY", type := (.object "java/util/OptionalLong"), accessFlags := 26, slot := 0, constantValue := 0 }, { name := "isPresent", type := .boolean, accessFlags := 18, slot := 0, constantValue := 0 }, { name := "value", type := .long, accessFlags := 18, slot := 1, constantValue := 0 }]
  methods := #[k16m0, k16m1, k16m2, k16m3]
  instanceTypes := #[.boolean, .long]
  staticTypes := #[(.object "java/util/OptionalLong")]
  resolved := Array.replicate 138 none
  statics := some 3 }

def pool17 : Array CpInfo := pool [(1, .methodref 2 3), (0, .class_ 4), (0, .nameAndType 5 6), (0, u "java/lang/Object"), (0, u "<init>"), (0, u "()V"), (9, .methodref 17 18), (0, .class_ 19), (0, .nameAndType 20 21), (0, u "java/util/OptionalLong"), (0, u "isPresent"), (0, u "()Z"), (5, .fieldref 28 29), (0, .class_ 30), (0, .nameAndType 31 32), (0, u "com/example/wildebeest/wildebeest/core/TraceEvent"), (0, u "kind"), (0, u "Lcom/example/wildebeest/wildebeest/core/EventKind;"), (0, .fieldref 28 34), (0, .nameAndType 35 36), (0, u "node"), (0, u "I"), (0, .fieldref 28 38), (0, .nameAndType 39 40), (0, u "time"), (0, u "J"), (0, .long 18446744073709551615), (1, .methodref 17 44), (0, .nameAndType 45 46), (0, u "orElse"), (0, u "(J)J"), (0, .fieldref 28 48), (0, .nameAndType 49 40), (0, u "lamport"), (0, .methodref 51 52), (0, .class_ 53), (0, .nameAndType 45 54), (0, u "java/util/Optional"), (0, u "(Ljava/lang/Object;)Ljava/lang/Object;"), (0, .class_ 56), (0, u "com/example/wildebeest/wildebeest/core/VectorTime"), (0, .fieldref 28 58), (0, .nameAndType 59 60), (0, u "vector"), (0, u "Lcom/example/wildebeest/wildebeest/core/VectorTime;"), (0, .fieldref 28 62), (0, .nameAndType 63 64), (0, u "message"), (0, u "Lcom/example/wildebeest/wildebeest/core/Message;"), (0, .fieldref 28 66), (0, .nameAndType 67 68), (0, u "fields"), (0, u "[J"), (0, .methodref 70 71), (0, .class_ 72), (0, .nameAndType 73 21), (0, u "com/example/wildebeest/wildebeest/core/EventKind"), (0, u "isMessage"), (10, .methodref 70 85), (0, .nameAndType 67 86), (0, u "()Ljava/util/List;"), (0, .interfaceMethodref 88 89), (0, .class_ 90), (0, .nameAndType 91 92), (0, u "java/util/List"), (0, u "size"), (0, u "()I"), (25, .fieldref 28 119), (0, .nameAndType 120 68), (0, u "NO_FIELDS"), (5, .methodref 28 127), (0, .nameAndType 5 128), (0, u "(Lcom/example/wildebeest/wildebeest/core/EventKind;IJLjava/util/OptionalLong;Ljava/util/Optional;Lcom/example/wildebeest/wildebeest/core/Message;[J)V"), (22, .methodref 51 152), (0, .nameAndType 153 154), (0, u "ofNullable"), (0, u "(Ljava/lang/Object;)Ljava/util/Optional;"), (1, .class_ 158), (1, u "com/example/wildebeest/wildebeest/core/TraceEvent$1"), (44, u "local"), (0, u "(Lcom/example/wildebeest/wildebeest/core/EventKind;IJLjava/util/OptionalLong;Ljava/util/Optional;[J)Lcom/example/wildebeest/wildebeest/core/TraceEvent;"), (5, u "()Lcom/example/wildebeest/wildebeest/core/EventKind;"), (0, u "()Ljava/util/Optional;")] 44

def k17c0 : Code := { maxStack := 4, maxLocals := 9, code := prog_48_method_1_code, exceptionTable := #[], attributes := #[] }
def k17m0 : Method := { name := "<init>", desc := "(Lcom/example/wildebeest/wildebeest/core/EventKind;IJLjava/util/OptionalLong;Ljava/util/Optional;Lcom/example/wildebeest/wildebeest/core/Message;[J)V", sig := { parameters := [(.object "com/example/wildebeest/wildebeest/core/EventKind"), .int, .long, (.object "java/util/OptionalLong"), (.object "java/util/Optional"), (.object "com/example/wildebeest/wildebeest/core/Message"), (.array .long)], returnType := none }, accessFlags := 2, code := some k17c0 }
def k17c1 : Code := { maxStack := 10, maxLocals := 9, code := prog_48_method_2_code, exceptionTable := #[], attributes := #[] }
def k17m1 : Method := { name := "local", desc := "(Lcom/example/wildebeest/wildebeest/core/EventKind;IJLjava/util/OptionalLong;Ljava/util/Optional;[J)Lcom/example/wildebeest/wildebeest/core/TraceEvent;", sig := { parameters := [(.object "com/example/wildebeest/wildebeest/core/EventKind"), .int, .long, (.object "java/util/OptionalLong"), (.object "java/util/Optional"), (.array .long)], returnType := some (.object "com/example/wildebeest/wildebeest/core/TraceEvent") }, accessFlags := 137, code := some k17c1 }
def k17c2 : Code := { maxStack := 1, maxLocals := 1, code := prog_48_method_5_code, exceptionTable := #[], attributes := #[] }
def k17m2 : Method := { name := "kind", desc := "()Lcom/example/wildebeest/wildebeest/core/EventKind;", sig := { parameters := [], returnType := some (.object "com/example/wildebeest/wildebeest/core/EventKind") }, accessFlags := 1, code := some k17c2 }
def k17c3 : Code := { maxStack := 1, maxLocals := 1, code := prog_48_method_6_code, exceptionTable := #[], attributes := #[] }
def k17m3 : Method := { name := "node", desc := "()I", sig := { parameters := [], returnType := some .int }, accessFlags := 1, code := some k17c3 }
def k17c4 : Code := { maxStack := 1, maxLocals := 1, code := prog_48_method_9_code, exceptionTable := #[], attributes := #[] }
def k17m4 : Method := { name := "vector", desc := "()Ljava/util/Optional;", sig := { parameters := [], returnType := some (.object "java/util/Optional") }, accessFlags := 1, code := some k17c4 }
/-- com/example/wildebeest/wildebeest/core/TraceEvent -/
def k17 : Class := { plain "com/example/wildebeest/wildebeest/core/TraceEvent" (some 0) with
  accessFlags := 49
  interfaces := #[]
  cf := some (fileOf pool17 28 #[.nestMembers #[156]] #[{ accessFlags := 2, nameIndex := 5, descriptorIndex := 128, attributes := #[] }, { accessFlags := 137, nameIndex := 203, descriptorIndex := 204, attributes := #[] }, { accessFlags := 1, nameIndex := 31, descriptorIndex := 210, attributes := #[] }, { accessFlags := 1, nameIndex := 35, descriptorIndex := 92, attributes := #[] }, { accessFlags := 1, nameIndex := 59, descriptorIndex := 211, attributes := #[] }] 49 2 #[] #[{ accessFlags := 26, nameIndex := 120, descriptorIndex := 68, attributes := #[] }, { accessFlags := 18, nameIndex := 31, descriptorIndex := 32, attributes := #[] }, { accessFlags := 18, nameIndex := 35, descriptorIndex := 36, attributes := #[] }, { accessFlags := 18, nameIndex := 39, descriptorIndex := 40, attributes := #[] }, { accessFlags := 18, nameIndex := 49, descriptorIndex := 40, attributes := #[] }, { accessFlags := 18, nameIndex := 59, descriptorIndex := 60, attributes := #[] }, { accessFlags := 18, nameIndex := 63, descriptorIndex := 64, attributes := #[] }, { accessFlags := 18, nameIndex := 67, descriptorIndex := 68, attributes := #[] }])
  fields := #[{ name := "NO_FIELDS", type := (.array .long), accessFlags := 26, slot := 0, constantValue := 0 }, { name := "kind", type := (.object "com/example/wildebeest/wildebeest/core/EventKind"), accessFlags := 18, slot := 0, constantValue := 0 }, { name := "node", type := .int, accessFlags := 18, slot := 1, constantValue := 0 }, { name := "time", type := .long, accessFlags := 18, slot := 2, constantValue := 0 }, { name := "lamport", type := .long, accessFlags := 18, slot := 3, constantValue := 0 }, { name := "vector", type := (.object "com/example/wildebeest/wildebeest/core/VectorTime"), accessFlags := 18, slot := 4, constantValue := 0 }, { name := "message", type := (.object "com/example/wildebeest/wildebeest/core/Message"), accessFlags := 18, slot := 5, constantValue := 0 }, { name := "fields", type := (.array .long), accessFlags := 18, slot := 6, constantValue := 0 }]
  methods := #[k17m0, k17m1, k17m2, k17m3, k17m4]
  instanceTypes := #[(.object "com/example/wildebeest/wildebeest/core/EventKind"), .int, .long, .long, (.object "com/example/wildebeest/wildebeest/core/VectorTime"), (.object "com/example/wildebeest/wildebeest/core/Message"), (.array .long)]
  staticTypes := #[(.array .long)]
  resolved := Array.replicate 256 none
  statics := some 4 }

def pool18 : Array CpInfo := pool [(8, .class_ 10), (1, u "java/lang/Iterable"), (24, .class_ 36), (0, u "java/lang/Object")] 25

/-- java/lang/Iterable -/
def k18 : Class := { plain "java/lang/Iterable" (some 0) with
  accessFlags := 1537
  interfaces := #[]
  cf := some (fileOf pool18 8 #[] #[] 1537 35 #[] #[])
  fields := #[]
  methods := #[]
  instanceTypes := #[]
  staticTypes := #[]
  resolved := Array.replicate 62 none
  statics := none }

def pool19 : Array CpInfo := pool [(10, .class_ 12), (1, u "java/util/Collection"), (47, .class_ 61), (0, u "java/lang/Object"), (0, .class_ 63), (0, u "java/lang/Iterable")] 51

/-- java/util/Collection -/
def k19 : Class := { plain "java/util/Collection" (some 0) with
  accessFlags := 1537
  interfaces := #[18]
  cf := some (fileOf pool19 10 #[] #[] 1537 60 #[62] #[])
  fields := #[]
  methods := #[]
  instanceTypes := #[]
  staticTypes := #[]
  resolved := Array.replicate 115 none
  statics := none }

def pool20 : Array CpInfo := pool [(8, .class_ 10), (1, u "java/util/SequencedCollection"), (15, .class_ 27), (0, u "java/lang/Object"), (0, .class_ 29), (0, u "java/util/Collection")] 27

/-- java/util/SequencedCollection -/
def k20 : Class := { plain "java/util/SequencedCollection" (some 0) with
  accessFlags := 1537
  interfaces := #[19]
  cf := some (fileOf pool20 8 #[] #[] 1537 26 #[28] #[])
  fields := #[]
  methods := #[]
  instanceTypes := #[]
  staticTypes := #[]
  resolved := Array.replicate 57 none
  statics := none }

def pool21 : Array CpInfo := pool [(8, .class_ 10), (1, u "java/util/List"), (68, u "size"), (0, u "()I"), (22, .class_ 104), (0, u "java/lang/Object"), (15, .class_ 121), (0, u "java/util/SequencedCollection")] 129

def k21m0 : Method := { name := "size", desc := "()I", sig := { parameters := [], returnType := some .int }, accessFlags := 1025, code := none }
/-- java/util/List -/
def k21 : Class := { plain "java/util/List" (some 0) with
  accessFlags := 1537
  interfaces := #[20]
  cf := some (fileOf pool21 8 #[] #[{ accessFlags := 1025, nameIndex := 79, descriptorIndex := 80, attributes := #[] }] 1537 103 #[120] #[])
  fields := #[]
  methods := #[k21m0]
  instanceTypes := #[]
  staticTypes := #[]
  resolved := Array.replicate 251 none
  statics := none }

def pool22 : Array CpInfo := pool [(2, .class_ 4), (1, u "java/lang/Object"), (0, u "<init>"), (0, u "()V"), (1, .class_ 10), (1, u "java/util/AbstractCollection"), (66, .class_ 78), (0, u "java/util/Collection")] 81

def k22m0 : Method := { name := "<init>", desc := "()V", sig := { parameters := [], returnType := none }, accessFlags := 4, code := none }
/-- java/util/AbstractCollection -/
def k22 : Class := { plain "java/util/AbstractCollection" (some 0) with
  accessFlags := 1057
  interfaces := #[19]
  cf := some (fileOf pool22 8 #[] #[{ accessFlags := 4, nameIndex := 5, descriptorIndex := 6, attributes := #[] }] 1057 2 #[77] #[])
  fields := #[]
  methods := #[k22m0]
  instanceTypes := #[]
  staticTypes := #[]
  resolved := Array.replicate 160 none
  statics := none }

def pool23 : Array CpInfo := pool [(2, .class_ 4), (1, u "java/util/AbstractCollection"), (0, u "<init>"), (0, u "()V"), (1, .class_ 10), (1, u "java/util/ImmutableCollections"), (2, .class_ 14), (0, u "java/util/ImmutableCollections$AbstractImmutableCollection")] 41

def k23m0 : Method := { name := "<init>", desc := "()V", sig := { parameters := [], returnType := none }, accessFlags := 0, code := none }
/-- java/util/ImmutableCollections$AbstractImmutableCollection -/
def k23 : Class := { plain "java/util/ImmutableCollections$AbstractImmutableCollection" (some 22) with
  accessFlags := 1056
  interfaces := #[]
  cf := some (fileOf pool23 13 #[.nestHost 8] #[{ accessFlags := 0, nameIndex := 5, descriptorIndex := 6, attributes := #[] }] 1056 2 #[] #[])
  fields := #[]
  methods := #[k23m0]
  instanceTypes := #[]
  staticTypes := #[]
  resolved := Array.replicate 56 none
  statics := none }

def pool24 : Array CpInfo := pool [(1, .class_ 2), (0, u "java/util/RandomAccess"), (0, .class_ 4), (0, u "java/lang/Object")] 2

/-- java/util/RandomAccess -/
def k24 : Class := { plain "java/util/RandomAccess" (some 0) with
  accessFlags := 1537
  interfaces := #[]
  cf := some (fileOf pool24 1 #[] #[] 1537 3 #[] #[])
  fields := #[]
  methods := #[]
  instanceTypes := #[]
  staticTypes := #[]
  resolved := Array.replicate 7 none
  statics := none }

def pool25 : Array CpInfo := pool [(2, .class_ 4), (1, u "java/util/ImmutableCollections$AbstractImmutableCollection"), (0, u "<init>"), (0, u "()V"), (1, .class_ 10), (1, u "java/util/ImmutableCollections"), (3, .class_ 16), (1, u "java/util/ImmutableCollections$AbstractImmutableList"), (60, .class_ 78), (0, u "java/util/List"), (45, .class_ 125), (0, u "java/util/RandomAccess")] 70

def k25m0 : Method := { name := "<init>", desc := "()V", sig := { parameters := [], returnType := none }, accessFlags := 0, code := none }
/-- java/util/ImmutableCollections$AbstractImmutableList -/
def k25 : Class := { plain "java/util/ImmutableCollections$AbstractImmutableList" (some 23) with
  accessFlags := 1056
  interfaces := #[21, 24]
  cf := some (fileOf pool25 14 #[.nestHost 8] #[{ accessFlags := 0, nameIndex := 5, descriptorIndex := 6, attributes := #[] }] 1056 2 #[77, 124] #[])
  fields := #[]
  methods := #[k25m0]
  instanceTypes := #[]
  staticTypes := #[]
  resolved := Array.replicate 196 none
  statics := none }

def pool26 : Array CpInfo := pool [(2, .class_ 4), (1, u "java/util/ImmutableCollections$AbstractImmutableList"), (2, .fieldref 8 9), (0, .class_ 10), (0, .nameAndType 11 12), (0, u "java/util/ImmutableCollections$ListN"), (0, u "elements"), (0, u "[Ljava/lang/Object;"), (2, u "allowNulls"), (0, u "Z"), (42, .class_ 60), (0, u "java/io/Serializable"), (16, u "size"), (0, u "()I"), (35, .class_ 115), (0, u "java/util/ImmutableCollections")] 3

def k26c0 : Code := { maxStack := 1, maxLocals := 1, code := jdk_45_method_3_code, exceptionTable := #[], attributes := #[] }
def k26m0 : Method := { name := "size", desc := "()I", sig := { parameters := [], returnType := some .int }, accessFlags := 1, code := some k26c0 }
/-- java/util/ImmutableCollections$ListN -/
def k26 : Class := { plain "java/util/ImmutableCollections$ListN" (some 25) with
  accessFlags := 48
  interfaces := #[8]
  cf := some (fileOf pool26 8 #[.nestHost 114] #[{ accessFlags := 1, nameIndex := 77, descriptorIndex := 78, attributes := #[] }] 48 2 #[59] #[{ accessFlags := 18, nameIndex := 11, descriptorIndex := 12, attributes := #[] }, { accessFlags := 18, nameIndex := 15, descriptorIndex := 16, attributes := #[] }])
  fields := #[{ name := "elements", type := (.array (.object "java/lang/Object")), accessFlags := 18, slot := 0, constantValue := 0 }, { name := "allowNulls", type := .boolean, accessFlags := 18, slot := 1, constantValue := 0 }]
  methods := #[k26m0]
  instanceTypes := #[(.array (.object "java/lang/Object")), .boolean]
  staticTypes := #[]
  resolved := Array.replicate 119 none
  statics := none }

def pool27 : Array CpInfo := pool [(1, .class_ 2), (0, u "java/lang/Math"), (1, .class_ 6), (1, u "java/lang/Object"), (0, u "<init>"), (0, u "()V"), (89, .class_ 100), (1, u "java/lang/Math$RandomNumberGeneratorHolder"), (71, u "negativeZeroFloatBits"), (0, u "J"), (2, u "negativeZeroDoubleBits"), (21, u "max"), (2, u "min"), (43, u "$assertionsDisabled"), (0, u "Z"), (88, u "(II)I"), (2, u "twoToTheDoubleScaleDown"), (0, u "D"), (4, u "twoToTheDoubleScaleUp"), (9, u "E"), (3, u "PI"), (2, u "TAU"), (2, u "DEGREES_TO_RADIANS"), (0, u "RADIANS_TO_DEGREES")] 94

def k27m0 : Method := { name := "<init>", desc := "()V", sig := { parameters := [], returnType := none }, accessFlags := 2, code := none }
def k27c1 : Code := { maxStack := 2, maxLocals := 2, code := jdk_29_method_65_code, exceptionTable := #[], attributes := #[] }
def k27m1 : Method := { name := "max", desc := "(II)I", sig := { parameters := [.int, .int], returnType := some .int }, accessFlags := 9, code := some k27c1 }
def k27c2 : Code := { maxStack := 2, maxLocals := 2, code := jdk_29_method_69_code, exceptionTable := #[], attributes := #[] }
def k27m2 : Method := { name := "min", desc := "(II)I", sig := { parameters := [.int, .int], returnType := some .int }, accessFlags := 9, code := some k27c2 }
/-- java/lang/Math -/
def k27 : Class := { plain "java/lang/Math" (some 0) with
  accessFlags := 49
  interfaces := #[]
  cf := some (fileOf pool27 1 #[.nestMembers #[98]] #[{ accessFlags := 2, nameIndex := 7, descriptorIndex := 8, attributes := #[] }, { accessFlags := 9, nameIndex := 198, descriptorIndex := 335, attributes := #[] }, { accessFlags := 9, nameIndex := 201, descriptorIndex := 335, attributes := #[] }] 49 4 #[] #[{ accessFlags := 25, nameIndex := 354, descriptorIndex := 339, attributes := #[] }, { accessFlags := 25, nameIndex := 358, descriptorIndex := 339, attributes := #[] }, { accessFlags := 25, nameIndex := 361, descriptorIndex := 339, attributes := #[] }, { accessFlags := 26, nameIndex := 364, descriptorIndex := 339, attributes := #[] }, { accessFlags := 26, nameIndex := 365, descriptorIndex := 339, attributes := #[] }, { accessFlags := 26, nameIndex := 172, descriptorIndex := 173, attributes := #[] }, { accessFlags := 26, nameIndex := 176, descriptorIndex := 173, attributes := #[] }, { accessFlags := 8, nameIndex := 344, descriptorIndex := 339, attributes := #[] }, { accessFlags := 8, nameIndex := 338, descriptorIndex := 339, attributes := #[] }, { accessFlags := 4120, nameIndex := 245, descriptorIndex := 246, attributes := #[] }])
  fields := #[{ name := "E", type := .double, accessFlags := 25, slot := 0, constantValue := 0 }, { name := "PI", type := .double, accessFlags := 25, slot := 1, constantValue := 0 }, { name := "TAU", type := .double, accessFlags := 25, slot := 2, constantValue := 0 }, { name := "DEGREES_TO_RADIANS", type := .double, accessFlags := 26, slot := 3, constantValue := 0 }, { name := "RADIANS_TO_DEGREES", type := .double, accessFlags := 26, slot := 4, constantValue := 0 }, { name := "negativeZeroFloatBits", type := .long, accessFlags := 26, slot := 5, constantValue := 0 }, { name := "negativeZeroDoubleBits", type := .long, accessFlags := 26, slot := 6, constantValue := 0 }, { name := "twoToTheDoubleScaleUp", type := .double, accessFlags := 8, slot := 7, constantValue := 0 }, { name := "twoToTheDoubleScaleDown", type := .double, accessFlags := 8, slot := 8, constantValue := 0 }, { name := "$assertionsDisabled", type := .boolean, accessFlags := 4120, slot := 9, constantValue := 0 }]
  methods := #[k27m0, k27m1, k27m2]
  instanceTypes := #[]
  staticTypes := #[.double, .double, .double, .double, .double, .long, .long, .double, .double, .boolean]
  resolved := Array.replicate 460 none
  statics := none }

def pool28 : Array CpInfo := pool [(2, .class_ 4), (1, u "java/lang/Object"), (0, u "<init>"), (0, u "()V"), (7, .class_ 16), (1, u "java/util/Arrays"), (57, .class_ 76), (1, u "java/util/Arrays$NaturalOrder"), (36, .class_ 115), (1, u "java/util/Arrays$LegacyMergeSort"), (1, u "Z"), (32, .methodref 151 152), (0, .class_ 153), (0, .nameAndType 154 155), (0, u "java/lang/System"), (0, u "arraycopy"), (0, u "(Ljava/lang/Object;ILjava/lang/Object;II)V"), (146, u "copyOf"), (1, .methodref 305 306), (0, .class_ 307), (0, .nameAndType 308 309), (0, u "java/lang/Math"), (0, u "min"), (0, u "(II)I"), (65, .class_ 376), (0, u "java/util/Arrays$ArrayList"), (68, u "$assertionsDisabled"), (269, u "MIN_ARRAY_SORT_GRAN"), (0, u "I"), (2, u "INSERTIONSORT_THRESHOLD"), (152, u "([JI)[J"), (102, .class_ 976), (0, u "java/util/Arrays$ArrayItr")] 52

def k28m0 : Method := { name := "<init>", desc := "()V", sig := { parameters := [], returnType := none }, accessFlags := 2, code := none }
def k28c1 : Code := { maxStack := 6, maxLocals := 3, code := jdk_65_method_124_code, exceptionTable := #[], attributes := #[] }
def k28m1 : Method := { name := "copyOf", desc := "([JI)[J", sig := { parameters := [(.array .long), .int], returnType := some (.array .long) }, accessFlags := 9, code := some k28c1 }
/-- java/util/Arrays -/
def k28 : Class := { plain "java/util/Arrays" (some 0) with
  accessFlags := 49
  interfaces := #[]
  cf := some (fileOf pool28 14 #[.nestMembers #[975, 375, 113, 74]] #[{ accessFlags := 2, nameIndex := 5, descriptorIndex := 6, attributes := #[] }, { accessFlags := 9, nameIndex := 302, descriptorIndex := 872, attributes := #[] }] 49 2 #[] #[{ accessFlags := 26, nameIndex := 715, descriptorIndex := 716, attributes := #[] }, { accessFlags := 26, nameIndex := 719, descriptorIndex := 716, attributes := #[] }, { accessFlags := 4120, nameIndex := 445, descriptorIndex := 117, attributes := #[] }])
  fields := #[{ name := "MIN_ARRAY_SORT_GRAN", type := .int, accessFlags := 26, slot := 0, constantValue := 0 }, { name := "INSERTIONSORT_THRESHOLD", type := .int, accessFlags := 26, slot := 1, constantValue := 0 }, { name := "$assertionsDisabled", type := .boolean, accessFlags := 4120, slot := 2, constantValue := 0 }]
  methods := #[k28m0, k28m1]
  instanceTypes := #[]
  staticTypes := #[.int, .int, .boolean]
  resolved := Array.replicate 1029 none
  statics := none }

def pool29 : Array CpInfo := pool [(2, .class_ 4), (1, u "java/lang/Object"), (0, u "<init>"), (0, u "()V"), (1, .class_ 10), (1, u "java/lang/System"), (0, u "allowSecurityManager"), (0, u "I"), (16, u "cons"), (0, u "Ljava/io/Console;"), (77, .class_ 110), (1, u "java/lang/System$CallersHolder"), (43, u "initialErrStream"), (0, u "Ljava/io/PrintStream;"), (19, u "security"), (0, u "Ljava/lang/SecurityManager;"), (31, .class_ 209), (0, u "java/lang/System$1"), (7, u "props"), (0, u "Ljava/util/Properties;"), (2, u "lineSeparator"), (0, u "Ljava/lang/String;"), (96, .class_ 321), (1, u "java/lang/System$LoggerFinder"), (5, .class_ 328), (0, u "java/lang/System$Logger"), (67, u "err"), (2, u "out"), (91, u "notSupportedJnuEncoding"), (15, u "in"), (17, u "initialIn"), (0, u "Ljava/io/InputStream;"), (35, u "bootLayer"), (0, u "Ljava/lang/ModuleLayer;"), (99, .class_ 664), (0, u "java/lang/System$2"), (9, u "NEVER"), (2, u "MAYBE"), (49, u "arraycopy"), (0, u "(Ljava/lang/Object;ILjava/lang/Object;II)V"), (72, .class_ 802), (0, u "java/lang/System$Logger$Level")] 31

def k29m0 : Method := { name := "<init>", desc := "()V", sig := { parameters := [], returnType := none }, accessFlags := 2, code := none }
def k29m1 : Method := { name := "arraycopy", desc := "(Ljava/lang/Object;ILjava/lang/Object;II)V", sig := { parameters := [(.object "java/lang/Object"), .int, (.object "java/lang/Object"), .int, .int], returnType := none }, accessFlags := 265, code := none }
/-- java/lang/System -/
def k29 : Class := { plain "java/lang/System" (some 0) with
  accessFlags := 49
  interfaces := #[]
  cf := some (fileOf pool29 8 #[.nestMembers #[319, 327, 801, 108, 663, 208]] #[{ accessFlags := 2, nameIndex := 5, descriptorIndex := 6, attributes := #[] }, { accessFlags := 265, nameIndex := 727, descriptorIndex := 728, attributes := #[] }] 49 2 #[] #[{ accessFlags := 25, nameIndex := 507, descriptorIndex := 526, attributes := #[] }, { accessFlags := 25, nameIndex := 399, descriptorIndex := 155, attributes := #[] }, { accessFlags := 25, nameIndex := 396, descriptorIndex := 155, attributes := #[] }, { accessFlags := 10, nameIndex := 525, descriptorIndex := 526, attributes := #[] }, { accessFlags := 26, nameIndex := 674, descriptorIndex := 12, attributes := #[] }, { accessFlags := 26, nameIndex := 677, descriptorIndex := 12, attributes := #[] }, { accessFlags := 10, nameIndex := 11, descriptorIndex := 12, attributes := #[] }, { accessFlags := 74, nameIndex := 175, descriptorIndex := 176, attributes := #[] }, { accessFlags := 10, nameIndex := 491, descriptorIndex := 222, attributes := #[] }, { accessFlags := 74, nameIndex := 29, descriptorIndex := 30, attributes := #[] }, { accessFlags := 74, nameIndex := 154, descriptorIndex := 155, attributes := #[] }, { accessFlags := 10, nameIndex := 217, descriptorIndex := 218, attributes := #[] }, { accessFlags := 10, nameIndex := 221, descriptorIndex := 222, attributes := #[] }, { accessFlags := 8, nameIndex := 562, descriptorIndex := 563, attributes := #[] }])
  fields := #[{ name := "in", type := (.object "java/io/InputStream"), accessFlags := 25, slot := 0, constantValue := 0 }, { name := "out", type := (.object "java/io/PrintStream"), accessFlags := 25, slot := 1, constantValue := 0 }, { name := "err", type := (.object "java/io/PrintStream"), accessFlags := 25, slot := 2, constantValue := 0 }, { name := "initialIn", type := (.object "java/io/InputStream"), accessFlags := 10, slot := 3, constantValue := 0 }, { name := "NEVER", type := .int, accessFlags := 26, slot := 4, constantValue := 0 }, { name := "MAYBE", type := .int, accessFlags := 26, slot := 5, constantValue := 0 }, { name := "allowSecurityManager", type := .int, accessFlags := 10, slot := 6, constantValue := 0 }, { name := "security", type := (.object "java/lang/SecurityManager"), accessFlags := 74, slot := 7, constantValue := 0 }, { name := "notSupportedJnuEncoding", type := (.object "java/lang/String"), accessFlags := 10, slot := 8, constantValue := 0 }, { name := "cons", type := (.object "java/io/Console"), accessFlags := 74, slot := 9, constantValue := 0 }, { name := "initialErrStream", type := (.object "java/io/PrintStream"), accessFlags := 74, slot := 10, constantValue := 0 }, { name := "props", type := (.object "java/util/Properties"), accessFlags := 10, slot := 11, constantValue := 0 }, { name := "lineSeparator", type := (.object "java/lang/String"), accessFlags := 10, slot := 12, constantValue := 0 }, { name := "bootLayer", type := (.object "java/lang/ModuleLayer"), accessFlags := 8, slot := 13, constantValue := 0 }]
  methods := #[k29m0, k29m1]
  instanceTypes := #[]
  staticTypes := #[(.object "java/io/InputStream"), (.object "java/io/PrintStream"), (.object "java/io/PrintStream"), (.object "java/io/InputStream"), .int, .int, .int, (.object "java/lang/SecurityManager"), (.object "java/lang/String"), (.object "java/io/Console"), (.object "java/io/PrintStream"), (.object "java/util/Properties"), (.object "java/lang/String"), (.object "java/lang/ModuleLayer")]
  resolved := Array.replicate 834 none
  statics := none }

def pool30 : Array CpInfo := pool [(2, .class_ 4), (1, u "java/lang/Object"), (0, u "<init>"), (0, u "()V"), (35, .class_ 44), (1, u "java/util/Objects"), (0, u "requireNonNull"), (0, u "(Ljava/lang/Object;)Ljava/lang/Object;")] 137

def k30m0 : Method := { name := "<init>", desc := "()V", sig := { parameters := [], returnType := none }, accessFlags := 2, code := none }
def k30c1 : Code := { maxStack := 2, maxLocals := 1, code := jdk_31_method_10_code, exceptionTable := #[], attributes := #[] }
def k30m1 : Method := { name := "requireNonNull", desc := "(Ljava/lang/Object;)Ljava/lang/Object;", sig := { parameters := [(.object "java/lang/Object")], returnType := some (.object "java/lang/Object") }, accessFlags := 9, code := some k30c1 }
/-- java/util/Objects -/
def k30 : Class := { plain "java/util/Objects" (some 0) with
  accessFlags := 49
  interfaces := #[]
  cf := some (fileOf pool30 42 #[] #[{ accessFlags := 2, nameIndex := 5, descriptorIndex := 6, attributes := #[] }, { accessFlags := 9, nameIndex := 45, descriptorIndex := 46, attributes := #[] }] 49 2 #[] #[])
  fields := #[]
  methods := #[k30m0, k30m1]
  instanceTypes := #[]
  staticTypes := #[]
  resolved := Array.replicate 184 none
  statics := none }

/-- the primitive byte -/
def k31 : Class := { plain "byte" none with kind := .primitive 'B', accessFlags := 0x411 }
/-- [B -/
def k32 : Class := { plain "[B" (some 0) with kind := .array 31 .byte, interfaces := #[7, 8], accessFlags := 1041 }

/-- the primitive int -/
def k33 : Class := { plain "int" none with kind := .primitive 'I', accessFlags := 0x411 }
/-- [I -/
def k34 : Class := { plain "[I" (some 0) with kind := .array 33 .int, interfaces := #[7, 8], accessFlags := 1041 }

/-- the primitive long -/
def k35 : Class := { plain "long" none with kind := .primitive 'J', accessFlags := 0x411 }
/-- [J -/
def k36 : Class := { plain "[J" (some 0) with kind := .array 35 .long, interfaces := #[7, 8], accessFlags := 1041 }

/-- [Ljava/lang/Object; -/
def k37 : Class := { plain "[Ljava/lang/Object;" (some 0) with kind := .array 0 (.object "java/lang/Object"), interfaces := #[7, 8], accessFlags := 1041 }

/-- [[J -/
def k38 : Class := { plain "[[J" (some 0) with kind := .array 36 (.array .long), interfaces := #[7, 8], accessFlags := 1041 }

def heap : Heap := #[{ cls := 2, slots := #[.int 0, .int 0, .ref 7], vm := .statics 2 },
  { cls := 14, slots := #[.ref 9, .ref 10, .ref 11, .ref 12, .ref 13, .ref 14, .null, .null, .null, .null, .null], vm := .statics 14 },
  { cls := 15, slots := #[.ref 15], vm := .statics 15 },
  { cls := 16, slots := #[.ref 16], vm := .statics 16 },
  { cls := 17, slots := #[.ref 8], vm := .statics 17 },
  { cls := 37, slots := #[], vm := .none },
  { cls := 26, slots := #[.ref 5, .int 0], vm := .none },
  { cls := 36, slots := #[.long 0, .long 0, .long 0, .long 0, .long 0, .long 0, .long 0, .long 0, .long 0, .long 0, .long 0, .long 0, .long 0, .long 0, .long 0, .long 0, .long 0, .long 0, .long 0, .long 0, .long 0, .long 0, .long 0, .long 0, .long 0, .long 0, .long 0, .long 0, .long 0, .long 0, .long 0, .long 0], vm := .none },
  { cls := 36, slots := #[], vm := .none },
  { cls := 14, slots := #[.null, .int 0, .int 0, .null, .int 0, .ref 6], vm := .none },
  { cls := 14, slots := #[.null, .int 1, .int 0, .null, .int 0, .ref 6], vm := .none },
  { cls := 14, slots := #[.null, .int 2, .int 0, .null, .int 0, .ref 6], vm := .none },
  { cls := 14, slots := #[.null, .int 3, .int 0, .null, .int 1, .ref 6], vm := .none },
  { cls := 14, slots := #[.null, .int 4, .int 0, .null, .int 1, .ref 6], vm := .none },
  { cls := 14, slots := #[.null, .int 5, .int 0, .null, .int 0, .ref 6], vm := .none },
  { cls := 15, slots := #[.null], vm := .none },
  { cls := 16, slots := #[.int 0, .long 0], vm := .none }]
def classes : Array Class := #[k0, k1, k2, k3, k4, k5, k6, k7, k8, k9, k10, k11, k12, k13, k14, k15, k16, k17, k18, k19, k20, k21, k22, k23, k24, k25, k26, k27, k28, k29, k30, k31, k32, k33, k34, k35, k36, k37, k38]
def interned : List (Array UInt16 × Addr) := []
def slotsUsed : Nat := 90
def theMethod : MethodId := ⟨1, 1⟩
def args0 : Array Value := #[.int 5, .int 6, .long 7, .long 8]
def aboutOver (below : List Frame) : State where
  vm := { classes := classes, interned := interned.toArray }
  heap := heap
  slotsUsed := slotsUsed
  threads := #[{ frames := .invoking theMethod args0 :: below }]
def below0 : List Frame := [.native { method := ⟨0, 0⟩, args := #[] }]
def about1 : State := aboutOver below0
def p0 : Program := .bare "" "" ""
def e0 : Env := launch0.env 0 0 0
theorem w_frames : about1.frames = Frame.invoking theMethod args0 :: below0 := rfl
set_option maxRecDepth 65536 in
theorem w_args : argsFit about1.vm theMethod args0 = true := by decide +kernel
set_option maxRecDepth 65536 in
theorem w_heap : heapFits about1 = true := by decide +kernel
set_option maxRecDepth 65536 in
theorem w_runnable : about1.curStatus? = some .runnable := by decide +kernel
set_option maxRecDepth 65536 in
theorem w_alone : about1.alone = true := by decide +kernel
set_option maxRecDepth 65536 in
theorem w_named : about1.methodNamed? x = some theMethod := by decide +kernel
set_option maxRecDepth 65536 in
theorem w_hears : about1.hears theMethod below0 = true := by decide +kernel
set_option maxRecDepth 65536 in
theorem w_ripe : about1.ripe theMethod args0 below0 = true := by decide +kernel
theorem w_running : about1.status = .running := rfl
set_option maxRecDepth 65536 in
theorem w_room : about1.hasRoom e0.platform room_1 = true :=
  launch0.hasRoom_least _ room_1 (by decide +kernel) (by decide +kernel) (by decide +kernel) (by decide +kernel) (by decide +kernel) (by decide +kernel)
theorem allAtoms_all (ts : List Jvm.Cond) (a : Array Jvm.Value) (st : Jvm.State) : (allAtoms ts).before a st = ts.all (fun c => c.before a st) := by
  induction ts with
  | nil => rfl
  | cons c t ih =>
    show (Jvm.Cond.and c (allAtoms t)).before a st = _
    rw [Jvm.Cond.before_and, ih, List.all_cons]
def words1 : List Jvm.Cond := Jvm.Cond.code x code maxLocals ret :: tables_1
/-- a 'code' word, met by the world's own term for the bytes: nothing is compared byte by byte -/
theorem code_word {y : MethodName} {bytes : ByteArray} {mx : Nat} {rt : Option FieldType} {a : Array Value} {s : State} {m : MethodId} {meth : Method} {c : Code} (h1 : s.methodNamed? y = some m) (h2 : s.vm.method? m = some meth) (h3 : meth.code = some c) (h4 : c.code = bytes)
    (h5 : (c.maxLocals == mx && c.exceptionTable.isEmpty && decide (c.maxStack ≤ mostOperands) && decide (meth.sig.returnType = rt) && !meth.locks && decide (parseMethodDescriptor y.desc = some meth.sig)) = true) : (Jvm.Cond.code y bytes mx rt).before a s = true := by
  simp only [Bool.and_eq_true, beq_iff_eq, Bool.not_eq_true', decide_eq_true_eq] at h5
  obtain ⟨⟨⟨⟨⟨g1, g2⟩, g3⟩, g4⟩, g5⟩, g6⟩ := h5
  simp [Cond.before, Cond.holds, Cond.value, h1, h2, h3, h4, g1, g2, g3, g4, g5, g6]
def isCode : Jvm.Cond → Bool
  | .code _ _ _ _ => true
  | _ => false
theorem all_split {L : List Jvm.Cond} {P : Jvm.Cond → Bool} (h1 : L.all (fun c => isCode c || P c) = true) (h2 : ∀ c ∈ L.filter isCode, P c = true) : L.all P = true := by
  refine List.all_eq_true.mpr fun c hc => ?_
  have h := List.all_eq_true.mp h1 c hc
  rcases Bool.eq_false_or_eq_true (isCode c) with hi | hi
  · exact h2 c (List.mem_filter.mpr ⟨hc, hi⟩)
  · simpa [hi] using h
set_option maxRecDepth 65536 in
theorem w_c0 : (Jvm.Cond.code x code maxLocals ret).before args0 about1 = true := code_word (m := ⟨1, 1⟩) (meth := k1m1) (c := k1c1) (by decide +kernel) rfl rfl rfl (by decide +kernel)
set_option maxRecDepth 65536 in
theorem w_c1 : (Jvm.Cond.code ({ cls := "com/example/wildebeest/wildebeest/core/VectorTime", name := "of", desc := "([J)Lcom/example/wildebeest/wildebeest/core/VectorTime;" } : Jvm.MethodName) prog_53_method_2_code (8 : Nat) (Option.some (Jvm.ClassFile.FieldType.object "com/example/wildebeest/wildebeest/core/VectorTime"))).before args0 about1 = true := code_word (m := ⟨2, 1⟩) (meth := k2m1) (c := k2c1) (by decide +kernel) rfl rfl rfl (by decide +kernel)
set_option maxRecDepth 65536 in
theorem w_c2 : (Jvm.Cond.code ({ cls := "com/example/wildebeest/wildebeest/core/VectorTime", name := "blocksFor", desc := "(I)[[J" } : Jvm.MethodName) prog_53_method_3_code (3 : Nat) (Option.some (Jvm.ClassFile.FieldType.array (Jvm.ClassFile.FieldType.array Jvm.ClassFile.FieldType.long)))).before args0 about1 = true := code_word (m := ⟨2, 2⟩) (meth := k2m2) (c := k2c2) (by decide +kernel) rfl rfl rfl (by decide +kernel)
set_option maxRecDepth 65536 in
theorem w_c3 : (Jvm.Cond.code ({ cls := "com/example/wildebeest/wildebeest/core/VectorTime", name := "<init>", desc := "(I[[JIJ)V" } : Jvm.MethodName) prog_53_method_1_code (6 : Nat) (Option.none : Option Jvm.ClassFile.FieldType)).before args0 about1 = true := code_word (m := ⟨2, 0⟩) (meth := k2m0) (c := k2c0) (by decide +kernel) rfl rfl rfl (by decide +kernel)
set_option maxRecDepth 65536 in
theorem w_c4 : (Jvm.Cond.code ({ cls := "java/lang/Object", name := "<init>", desc := "()V" } : Jvm.MethodName) object_method_1_code (1 : Nat) (Option.none : Option Jvm.ClassFile.FieldType)).before args0 about1 = true := code_word (m := ⟨0, 0⟩) (meth := k0m0) (c := k0c0) (by decide +kernel) rfl rfl rfl (by decide +kernel)
set_option maxRecDepth 65536 in
theorem w_c5 : (Jvm.Cond.code ({ cls := "com/example/wildebeest/wildebeest/core/CausalityCheck", name := "<init>", desc := "()V" } : Jvm.MethodName) prog_32_method_1_code (1 : Nat) (Option.none : Option Jvm.ClassFile.FieldType)).before args0 about1 = true := code_word (m := ⟨4, 0⟩) (meth := k4m0) (c := k4c0) (by decide +kernel) rfl rfl rfl (by decide +kernel)
set_option maxRecDepth 65536 in
theorem w_c6 : (Jvm.Cond.code ({ cls := "java/util/HashMap", name := "<init>", desc := "()V" } : Jvm.MethodName) jdk_69_method_7_code (1 : Nat) (Option.none : Option Jvm.ClassFile.FieldType)).before args0 about1 = true := code_word (m := ⟨9, 0⟩) (meth := k9m0) (c := k9c0) (by decide +kernel) rfl rfl rfl (by decide +kernel)
set_option maxRecDepth 65536 in
theorem w_c7 : (Jvm.Cond.code ({ cls := "java/util/AbstractMap", name := "<init>", desc := "()V" } : Jvm.MethodName) jdk_71_method_1_code (1 : Nat) (Option.none : Option Jvm.ClassFile.FieldType)).before args0 about1 = true := code_word (m := ⟨6, 0⟩) (meth := k6m0) (c := k6c0) (by decide +kernel) rfl rfl rfl (by decide +kernel)
set_option maxRecDepth 65536 in
theorem w_c8 : (Jvm.Cond.code ({ cls := "com/example/wildebeest/wildebeest/core/CausalityCheck", name := "checked", desc := "()Z" } : Jvm.MethodName) prog_32_method_4_code (1 : Nat) (Option.some Jvm.ClassFile.FieldType.boolean)).before args0 about1 = true := code_word (m := ⟨4, 2⟩) (meth := k4m2) (c := k4c2) (by decide +kernel) rfl rfl rfl (by decide +kernel)
set_option maxRecDepth 65536 in
theorem w_c9 : (Jvm.Cond.code ({ cls := "com/example/wildebeest/wildebeest/core/CausalityCheckCheckedPinLaw", name := "event", desc := "(IIZLcom/example/wildebeest/wildebeest/core/VectorTime;)Lcom/example/wildebeest/wildebeest/core/TraceEvent;" } : Jvm.MethodName) method_3_code (8 : Nat) (Option.some (Jvm.ClassFile.FieldType.object "com/example/wildebeest/wildebeest/core/TraceEvent"))).before args0 about1 = true := code_word (m := ⟨1, 2⟩) (meth := k1m2) (c := k1c2) (by decide +kernel) rfl rfl rfl (by decide +kernel)
set_option maxRecDepth 65536 in
theorem w_c10 : (Jvm.Cond.code ({ cls := "java/util/Optional", name := "empty", desc := "()Ljava/util/Optional;" } : Jvm.MethodName) jdk_32_method_1_code (1 : Nat) (Option.some (Jvm.ClassFile.FieldType.object "java/util/Optional"))).before args0 about1 = true := code_word (m := ⟨15, 0⟩) (meth := k15m0) (c := k15c0) (by decide +kernel) rfl rfl rfl (by decide +kernel)
set_option maxRecDepth 65536 in
theorem w_c11 : (Jvm.Cond.code ({ cls := "java/util/OptionalLong", name := "empty", desc := "()Ljava/util/OptionalLong;" } : Jvm.MethodName) jdk_2650_method_2_code (0 : Nat) (Option.some (Jvm.ClassFile.FieldType.object "java/util/OptionalLong"))).before args0 about1 = true := code_word (m := ⟨16, 1⟩) (meth := k16m1) (c := k16c1) (by decide +kernel) rfl rfl rfl (by decide +kernel)
set_option maxRecDepth 65536 in
theorem w_c12 : (Jvm.Cond.code ({ cls := "com/example/wildebeest/wildebeest/core/TraceEvent", name := "local", desc := "(Lcom/example/wildebeest/wildebeest/core/EventKind;IJLjava/util/OptionalLong;Ljava/util/Optional;[J)Lcom/example/wildebeest/wildebeest/core/TraceEvent;" } : Jvm.MethodName) prog_48_method_2_code (9 : Nat) (Option.some (Jvm.ClassFile.FieldType.object "com/example/wildebeest/wildebeest/core/TraceEvent"))).before args0 about1 = true := code_word (m := ⟨17, 1⟩) (meth := k17m1) (c := k17c1) (by decide +kernel) rfl rfl rfl (by decide +kernel)
set_option maxRecDepth 65536 in
theorem w_c13 : (Jvm.Cond.code ({ cls := "com/example/wildebeest/wildebeest/core/EventKind", name := "isMessage", desc := "()Z" } : Jvm.MethodName) prog_36_method_6_code (1 : Nat) (Option.some Jvm.ClassFile.FieldType.boolean)).before args0 about1 = true := code_word (m := ⟨14, 0⟩) (meth := k14m0) (c := k14c0) (by decide +kernel) rfl rfl rfl (by decide +kernel)
set_option maxRecDepth 65536 in
theorem w_c14 : (Jvm.Cond.code ({ cls := "com/example/wildebeest/wildebeest/core/EventKind", name := "fields", desc := "()Ljava/util/List;" } : Jvm.MethodName) prog_36_method_7_code (1 : Nat) (Option.some (Jvm.ClassFile.FieldType.object "java/util/List"))).before args0 about1 = true := code_word (m := ⟨14, 1⟩) (meth := k14m1) (c := k14c1) (by decide +kernel) rfl rfl rfl (by decide +kernel)
set_option maxRecDepth 65536 in
theorem w_c15 : (Jvm.Cond.code ({ cls := "java/util/ImmutableCollections$ListN", name := "size", desc := "()I" } : Jvm.MethodName) jdk_45_method_3_code (1 : Nat) (Option.some Jvm.ClassFile.FieldType.int)).before args0 about1 = true := code_word (m := ⟨26, 0⟩) (meth := k26m0) (c := k26c0) (by decide +kernel) rfl rfl rfl (by decide +kernel)
set_option maxRecDepth 65536 in
theorem w_c16 : (Jvm.Cond.code ({ cls := "com/example/wildebeest/wildebeest/core/TraceEvent", name := "<init>", desc := "(Lcom/example/wildebeest/wildebeest/core/EventKind;IJLjava/util/OptionalLong;Ljava/util/Optional;Lcom/example/wildebeest/wildebeest/core/Message;[J)V" } : Jvm.MethodName) prog_48_method_1_code (9 : Nat) (Option.none : Option Jvm.ClassFile.FieldType)).before args0 about1 = true := code_word (m := ⟨17, 0⟩) (meth := k17m0) (c := k17c0) (by decide +kernel) rfl rfl rfl (by decide +kernel)
set_option maxRecDepth 65536 in
theorem w_c17 : (Jvm.Cond.code ({ cls := "java/util/OptionalLong", name := "isPresent", desc := "()Z" } : Jvm.MethodName) jdk_2650_method_6_code (1 : Nat) (Option.some Jvm.ClassFile.FieldType.boolean)).before args0 about1 = true := code_word (m := ⟨16, 2⟩) (meth := k16m2) (c := k16c2) (by decide +kernel) rfl rfl rfl (by decide +kernel)
set_option maxRecDepth 65536 in
theorem w_c18 : (Jvm.Cond.code ({ cls := "java/util/OptionalLong", name := "orElse", desc := "(J)J" } : Jvm.MethodName) jdk_2650_method_11_code (3 : Nat) (Option.some Jvm.ClassFile.FieldType.long)).before args0 about1 = true := code_word (m := ⟨16, 3⟩) (meth := k16m3) (c := k16c3) (by decide +kernel) rfl rfl rfl (by decide +kernel)
set_option maxRecDepth 65536 in
theorem w_c19 : (Jvm.Cond.code ({ cls := "java/util/Optional", name := "orElse", desc := "(Ljava/lang/Object;)Ljava/lang/Object;" } : Jvm.MethodName) jdk_32_method_15_code (2 : Nat) (Option.some (Jvm.ClassFile.FieldType.object "java/lang/Object"))).before args0 about1 = true := code_word (m := ⟨15, 6⟩) (meth := k15m6) (c := k15c6) (by decide +kernel) rfl rfl rfl (by decide +kernel)
set_option maxRecDepth 65536 in
theorem w_c20 : (Jvm.Cond.code ({ cls := "com/example/wildebeest/wildebeest/core/CausalityCheck", name := "accept", desc := "(Lcom/example/wildebeest/wildebeest/core/TraceEvent;)V" } : Jvm.MethodName) prog_32_method_2_code (5 : Nat) (Option.none : Option Jvm.ClassFile.FieldType)).before args0 about1 = true := code_word (m := ⟨4, 1⟩) (meth := k4m1) (c := k4c1) (by decide +kernel) rfl rfl rfl (by decide +kernel)
set_option maxRecDepth 65536 in
theorem w_c21 : (Jvm.Cond.code ({ cls := "com/example/wildebeest/wildebeest/core/TraceEvent", name := "node", desc := "()I" } : Jvm.MethodName) prog_48_method_6_code (1 : Nat) (Option.some Jvm.ClassFile.FieldType.int)).before args0 about1 = true := code_word (m := ⟨17, 3⟩) (meth := k17m3) (c := k17c3) (by decide +kernel) rfl rfl rfl (by decide +kernel)
set_option maxRecDepth 65536 in
theorem w_c22 : (Jvm.Cond.code ({ cls := "java/lang/Math", name := "max", desc := "(II)I" } : Jvm.MethodName) jdk_29_method_65_code (2 : Nat) (Option.some Jvm.ClassFile.FieldType.int)).before args0 about1 = true := code_word (m := ⟨27, 1⟩) (meth := k27m1) (c := k27c1) (by decide +kernel) rfl rfl rfl (by decide +kernel)
set_option maxRecDepth 65536 in
theorem w_c23 : (Jvm.Cond.code ({ cls := "java/util/Arrays", name := "copyOf", desc := "([JI)[J" } : Jvm.MethodName) jdk_65_method_124_code (3 : Nat) (Option.some (Jvm.ClassFile.FieldType.array Jvm.ClassFile.FieldType.long))).before args0 about1 = true := code_word (m := ⟨28, 1⟩) (meth := k28m1) (c := k28c1) (by decide +kernel) rfl rfl rfl (by decide +kernel)
set_option maxRecDepth 65536 in
theorem w_c24 : (Jvm.Cond.code ({ cls := "java/lang/Math", name := "min", desc := "(II)I" } : Jvm.MethodName) jdk_29_method_69_code (2 : Nat) (Option.some Jvm.ClassFile.FieldType.int)).before args0 about1 = true := code_word (m := ⟨27, 2⟩) (meth := k27m2) (c := k27c2) (by decide +kernel) rfl rfl rfl (by decide +kernel)
set_option maxRecDepth 65536 in
theorem w_c25 : (Jvm.Cond.code ({ cls := "com/example/wildebeest/wildebeest/core/TraceEvent", name := "vector", desc := "()Ljava/util/Optional;" } : Jvm.MethodName) prog_48_method_9_code (1 : Nat) (Option.some (Jvm.ClassFile.FieldType.object "java/util/Optional"))).before args0 about1 = true := code_word (m := ⟨17, 4⟩) (meth := k17m4) (c := k17c4) (by decide +kernel) rfl rfl rfl (by decide +kernel)
set_option maxRecDepth 65536 in
theorem w_c26 : (Jvm.Cond.code ({ cls := "java/util/Optional", name := "ofNullable", desc := "(Ljava/lang/Object;)Ljava/util/Optional;" } : Jvm.MethodName) jdk_32_method_4_code (1 : Nat) (Option.some (Jvm.ClassFile.FieldType.object "java/util/Optional"))).before args0 about1 = true := code_word (m := ⟨15, 3⟩) (meth := k15m3) (c := k15c3) (by decide +kernel) rfl rfl rfl (by decide +kernel)
set_option maxRecDepth 65536 in
theorem w_c27 : (Jvm.Cond.code ({ cls := "java/util/Optional", name := "isEmpty", desc := "()Z" } : Jvm.MethodName) jdk_32_method_7_code (1 : Nat) (Option.some Jvm.ClassFile.FieldType.boolean)).before args0 about1 = true := code_word (m := ⟨15, 5⟩) (meth := k15m5) (c := k15c5) (by decide +kernel) rfl rfl rfl (by decide +kernel)
set_option maxRecDepth 65536 in
theorem w_c28 : (Jvm.Cond.code ({ cls := "java/util/Optional", name := "of", desc := "(Ljava/lang/Object;)Ljava/util/Optional;" } : Jvm.MethodName) jdk_32_method_3_code (1 : Nat) (Option.some (Jvm.ClassFile.FieldType.object "java/util/Optional"))).before args0 about1 = true := code_word (m := ⟨15, 2⟩) (meth := k15m2) (c := k15c2) (by decide +kernel) rfl rfl rfl (by decide +kernel)
set_option maxRecDepth 65536 in
theorem w_c29 : (Jvm.Cond.code ({ cls := "java/util/Objects", name := "requireNonNull", desc := "(Ljava/lang/Object;)Ljava/lang/Object;" } : Jvm.MethodName) jdk_31_method_10_code (1 : Nat) (Option.some (Jvm.ClassFile.FieldType.object "java/lang/Object"))).before args0 about1 = true := code_word (m := ⟨30, 1⟩) (meth := k30m1) (c := k30c1) (by decide +kernel) rfl rfl rfl (by decide +kernel)
set_option maxRecDepth 65536 in
theorem w_c30 : (Jvm.Cond.code ({ cls := "java/util/Optional", name := "<init>", desc := "(Ljava/lang/Object;)V" } : Jvm.MethodName) jdk_32_method_2_code (2 : Nat) (Option.none : Option Jvm.ClassFile.FieldType)).before args0 about1 = true := code_word (m := ⟨15, 1⟩) (meth := k15m1) (c := k15c1) (by decide +kernel) rfl rfl rfl (by decide +kernel)
set_option maxRecDepth 65536 in
theorem w_c31 : (Jvm.Cond.code ({ cls := "java/util/Optional", name := "get", desc := "()Ljava/lang/Object;" } : Jvm.MethodName) jdk_32_method_5_code (1 : Nat) (Option.some (Jvm.ClassFile.FieldType.object "java/lang/Object"))).before args0 about1 = true := code_word (m := ⟨15, 4⟩) (meth := k15m4) (c := k15c4) (by decide +kernel) rfl rfl rfl (by decide +kernel)
set_option maxRecDepth 65536 in
theorem w_c32 : (Jvm.Cond.code ({ cls := "com/example/wildebeest/wildebeest/core/VectorTime", name := "get", desc := "(I)J" } : Jvm.MethodName) prog_53_method_5_code (2 : Nat) (Option.some Jvm.ClassFile.FieldType.long)).before args0 about1 = true := code_word (m := ⟨2, 3⟩) (meth := k2m3) (c := k2c3) (by decide +kernel) rfl rfl rfl (by decide +kernel)
set_option maxRecDepth 65536 in
theorem w_c33 : (Jvm.Cond.code ({ cls := "com/example/wildebeest/wildebeest/core/VectorTime", name := "entry", desc := "(I)J" } : Jvm.MethodName) prog_53_method_8_code (2 : Nat) (Option.some Jvm.ClassFile.FieldType.long)).before args0 about1 = true := code_word (m := ⟨2, 4⟩) (meth := k2m4) (c := k2c4) (by decide +kernel) rfl rfl rfl (by decide +kernel)
set_option maxRecDepth 65536 in
theorem w_c34 : (Jvm.Cond.code ({ cls := "com/example/wildebeest/wildebeest/core/TraceEvent", name := "kind", desc := "()Lcom/example/wildebeest/wildebeest/core/EventKind;" } : Jvm.MethodName) prog_48_method_5_code (1 : Nat) (Option.some (Jvm.ClassFile.FieldType.object "com/example/wildebeest/wildebeest/core/EventKind"))).before args0 about1 = true := code_word (m := ⟨17, 2⟩) (meth := k17m2) (c := k17c2) (by decide +kernel) rfl rfl rfl (by decide +kernel)
def codes1 : List Jvm.Cond := [Jvm.Cond.code x code maxLocals ret, Jvm.Cond.code ({ cls := "com/example/wildebeest/wildebeest/core/VectorTime", name := "of", desc := "([J)Lcom/example/wildebeest/wildebeest/core/VectorTime;" } : Jvm.MethodName) prog_53_method_2_code (8 : Nat) (Option.some (Jvm.ClassFile.FieldType.object "com/example/wildebeest/wildebeest/core/VectorTime")), Jvm.Cond.code ({ cls := "com/example/wildebeest/wildebeest/core/VectorTime", name := "blocksFor", desc := "(I)[[J" } : Jvm.MethodName) prog_53_method_3_code (3 : Nat) (Option.some (Jvm.ClassFile.FieldType.array (Jvm.ClassFile.FieldType.array Jvm.ClassFile.FieldType.long))), Jvm.Cond.code ({ cls := "com/example/wildebeest/wildebeest/core/VectorTime", name := "<init>", desc := "(I[[JIJ)V" } : Jvm.MethodName) prog_53_method_1_code (6 : Nat) (Option.none : Option Jvm.ClassFile.FieldType), Jvm.Cond.code ({ cls := "java/lang/Object", name := "<init>", desc := "()V" } : Jvm.MethodName) object_method_1_code (1 : Nat) (Option.none : Option Jvm.ClassFile.FieldType), Jvm.Cond.code ({ cls := "com/example/wildebeest/wildebeest/core/CausalityCheck", name := "<init>", desc := "()V" } : Jvm.MethodName) prog_32_method_1_code (1 : Nat) (Option.none : Option Jvm.ClassFile.FieldType), Jvm.Cond.code ({ cls := "java/util/HashMap", name := "<init>", desc := "()V" } : Jvm.MethodName) jdk_69_method_7_code (1 : Nat) (Option.none : Option Jvm.ClassFile.FieldType), Jvm.Cond.code ({ cls := "java/util/AbstractMap", name := "<init>", desc := "()V" } : Jvm.MethodName) jdk_71_method_1_code (1 : Nat) (Option.none : Option Jvm.ClassFile.FieldType), Jvm.Cond.code ({ cls := "com/example/wildebeest/wildebeest/core/CausalityCheck", name := "checked", desc := "()Z" } : Jvm.MethodName) prog_32_method_4_code (1 : Nat) (Option.some Jvm.ClassFile.FieldType.boolean), Jvm.Cond.code ({ cls := "com/example/wildebeest/wildebeest/core/CausalityCheckCheckedPinLaw", name := "event", desc := "(IIZLcom/example/wildebeest/wildebeest/core/VectorTime;)Lcom/example/wildebeest/wildebeest/core/TraceEvent;" } : Jvm.MethodName) method_3_code (8 : Nat) (Option.some (Jvm.ClassFile.FieldType.object "com/example/wildebeest/wildebeest/core/TraceEvent")), Jvm.Cond.code ({ cls := "java/util/Optional", name := "empty", desc := "()Ljava/util/Optional;" } : Jvm.MethodName) jdk_32_method_1_code (1 : Nat) (Option.some (Jvm.ClassFile.FieldType.object "java/util/Optional")), Jvm.Cond.code ({ cls := "java/util/OptionalLong", name := "empty", desc := "()Ljava/util/OptionalLong;" } : Jvm.MethodName) jdk_2650_method_2_code (0 : Nat) (Option.some (Jvm.ClassFile.FieldType.object "java/util/OptionalLong")), Jvm.Cond.code ({ cls := "com/example/wildebeest/wildebeest/core/TraceEvent", name := "local", desc := "(Lcom/example/wildebeest/wildebeest/core/EventKind;IJLjava/util/OptionalLong;Ljava/util/Optional;[J)Lcom/example/wildebeest/wildebeest/core/TraceEvent;" } : Jvm.MethodName) prog_48_method_2_code (9 : Nat) (Option.some (Jvm.ClassFile.FieldType.object "com/example/wildebeest/wildebeest/core/TraceEvent")), Jvm.Cond.code ({ cls := "com/example/wildebeest/wildebeest/core/EventKind", name := "isMessage", desc := "()Z" } : Jvm.MethodName) prog_36_method_6_code (1 : Nat) (Option.some Jvm.ClassFile.FieldType.boolean), Jvm.Cond.code ({ cls := "com/example/wildebeest/wildebeest/core/EventKind", name := "fields", desc := "()Ljava/util/List;" } : Jvm.MethodName) prog_36_method_7_code (1 : Nat) (Option.some (Jvm.ClassFile.FieldType.object "java/util/List")), Jvm.Cond.code ({ cls := "java/util/ImmutableCollections$ListN", name := "size", desc := "()I" } : Jvm.MethodName) jdk_45_method_3_code (1 : Nat) (Option.some Jvm.ClassFile.FieldType.int), Jvm.Cond.code ({ cls := "com/example/wildebeest/wildebeest/core/TraceEvent", name := "<init>", desc := "(Lcom/example/wildebeest/wildebeest/core/EventKind;IJLjava/util/OptionalLong;Ljava/util/Optional;Lcom/example/wildebeest/wildebeest/core/Message;[J)V" } : Jvm.MethodName) prog_48_method_1_code (9 : Nat) (Option.none : Option Jvm.ClassFile.FieldType), Jvm.Cond.code ({ cls := "java/util/OptionalLong", name := "isPresent", desc := "()Z" } : Jvm.MethodName) jdk_2650_method_6_code (1 : Nat) (Option.some Jvm.ClassFile.FieldType.boolean), Jvm.Cond.code ({ cls := "java/util/OptionalLong", name := "orElse", desc := "(J)J" } : Jvm.MethodName) jdk_2650_method_11_code (3 : Nat) (Option.some Jvm.ClassFile.FieldType.long), Jvm.Cond.code ({ cls := "java/util/Optional", name := "orElse", desc := "(Ljava/lang/Object;)Ljava/lang/Object;" } : Jvm.MethodName) jdk_32_method_15_code (2 : Nat) (Option.some (Jvm.ClassFile.FieldType.object "java/lang/Object")), Jvm.Cond.code ({ cls := "com/example/wildebeest/wildebeest/core/CausalityCheck", name := "accept", desc := "(Lcom/example/wildebeest/wildebeest/core/TraceEvent;)V" } : Jvm.MethodName) prog_32_method_2_code (5 : Nat) (Option.none : Option Jvm.ClassFile.FieldType), Jvm.Cond.code ({ cls := "com/example/wildebeest/wildebeest/core/TraceEvent", name := "node", desc := "()I" } : Jvm.MethodName) prog_48_method_6_code (1 : Nat) (Option.some Jvm.ClassFile.FieldType.int), Jvm.Cond.code ({ cls := "java/lang/Math", name := "max", desc := "(II)I" } : Jvm.MethodName) jdk_29_method_65_code (2 : Nat) (Option.some Jvm.ClassFile.FieldType.int), Jvm.Cond.code ({ cls := "java/util/Arrays", name := "copyOf", desc := "([JI)[J" } : Jvm.MethodName) jdk_65_method_124_code (3 : Nat) (Option.some (Jvm.ClassFile.FieldType.array Jvm.ClassFile.FieldType.long)), Jvm.Cond.code ({ cls := "java/lang/Math", name := "min", desc := "(II)I" } : Jvm.MethodName) jdk_29_method_69_code (2 : Nat) (Option.some Jvm.ClassFile.FieldType.int), Jvm.Cond.code ({ cls := "com/example/wildebeest/wildebeest/core/TraceEvent", name := "vector", desc := "()Ljava/util/Optional;" } : Jvm.MethodName) prog_48_method_9_code (1 : Nat) (Option.some (Jvm.ClassFile.FieldType.object "java/util/Optional")), Jvm.Cond.code ({ cls := "java/util/Optional", name := "ofNullable", desc := "(Ljava/lang/Object;)Ljava/util/Optional;" } : Jvm.MethodName) jdk_32_method_4_code (1 : Nat) (Option.some (Jvm.ClassFile.FieldType.object "java/util/Optional")), Jvm.Cond.code ({ cls := "java/util/Optional", name := "isEmpty", desc := "()Z" } : Jvm.MethodName) jdk_32_method_7_code (1 : Nat) (Option.some Jvm.ClassFile.FieldType.boolean), Jvm.Cond.code ({ cls := "java/util/Optional", name := "of", desc := "(Ljava/lang/Object;)Ljava/util/Optional;" } : Jvm.MethodName) jdk_32_method_3_code (1 : Nat) (Option.some (Jvm.ClassFile.FieldType.object "java/util/Optional")), Jvm.Cond.code ({ cls := "java/util/Objects", name := "requireNonNull", desc := "(Ljava/lang/Object;)Ljava/lang/Object;" } : Jvm.MethodName) jdk_31_method_10_code (1 : Nat) (Option.some (Jvm.ClassFile.FieldType.object "java/lang/Object")), Jvm.Cond.code ({ cls := "java/util/Optional", name := "<init>", desc := "(Ljava/lang/Object;)V" } : Jvm.MethodName) jdk_32_method_2_code (2 : Nat) (Option.none : Option Jvm.ClassFile.FieldType), Jvm.Cond.code ({ cls := "java/util/Optional", name := "get", desc := "()Ljava/lang/Object;" } : Jvm.MethodName) jdk_32_method_5_code (1 : Nat) (Option.some (Jvm.ClassFile.FieldType.object "java/lang/Object")), Jvm.Cond.code ({ cls := "com/example/wildebeest/wildebeest/core/VectorTime", name := "get", desc := "(I)J" } : Jvm.MethodName) prog_53_method_5_code (2 : Nat) (Option.some Jvm.ClassFile.FieldType.long), Jvm.Cond.code ({ cls := "com/example/wildebeest/wildebeest/core/VectorTime", name := "entry", desc := "(I)J" } : Jvm.MethodName) prog_53_method_8_code (2 : Nat) (Option.some Jvm.ClassFile.FieldType.long), Jvm.Cond.code ({ cls := "com/example/wildebeest/wildebeest/core/TraceEvent", name := "kind", desc := "()Lcom/example/wildebeest/wildebeest/core/EventKind;" } : Jvm.MethodName) prog_48_method_5_code (1 : Nat) (Option.some (Jvm.ClassFile.FieldType.object "com/example/wildebeest/wildebeest/core/EventKind"))]
set_option maxRecDepth 65536 in
theorem codes_eq : words1.filter isCode = codes1 := rfl
theorem w_codes : ∀ c ∈ words1.filter isCode, c.before args0 about1 = true := by
  rw [codes_eq]
  intro c hc
  simp only [codes1, List.mem_cons, List.not_mem_nil, or_false] at hc
  rcases hc with rfl | rfl | rfl | rfl | rfl | rfl | rfl | rfl | rfl | rfl | rfl | rfl | rfl | rfl | rfl | rfl | rfl | rfl | rfl | rfl | rfl | rfl | rfl | rfl | rfl | rfl | rfl | rfl | rfl | rfl | rfl | rfl | rfl | rfl | rfl
  · exact w_c0
  · exact w_c1
  · exact w_c2
  · exact w_c3
  · exact w_c4
  · exact w_c5
  · exact w_c6
  · exact w_c7
  · exact w_c8
  · exact w_c9
  · exact w_c10
  · exact w_c11
  · exact w_c12
  · exact w_c13
  · exact w_c14
  · exact w_c15
  · exact w_c16
  · exact w_c17
  · exact w_c18
  · exact w_c19
  · exact w_c20
  · exact w_c21
  · exact w_c22
  · exact w_c23
  · exact w_c24
  · exact w_c25
  · exact w_c26
  · exact w_c27
  · exact w_c28
  · exact w_c29
  · exact w_c30
  · exact w_c31
  · exact w_c32
  · exact w_c33
  · exact w_c34
set_option maxRecDepth 65536 in
theorem w_t1 : (words1.take 24).all (fun c => isCode c || c.before args0 about1) = true := by decide +kernel
set_option maxRecDepth 65536 in
theorem w_t2 : ((words1.drop 24).take 24).all (fun c => isCode c || c.before args0 about1) = true := by decide +kernel
set_option maxRecDepth 65536 in
theorem w_t3 : (((words1.drop 24).drop 24).take 24).all (fun c => isCode c || c.before args0 about1) = true := by decide +kernel
set_option maxRecDepth 65536 in
theorem w_t4 : ((((words1.drop 24).drop 24).drop 24).take 24).all (fun c => isCode c || c.before args0 about1) = true := by decide +kernel
set_option maxRecDepth 65536 in
theorem w_t5 : (((((words1.drop 24).drop 24).drop 24).drop 24).take 24).all (fun c => isCode c || c.before args0 about1) = true := by decide +kernel
set_option maxRecDepth 65536 in
theorem w_t6 : ((((((words1.drop 24).drop 24).drop 24).drop 24).drop 24).take 24).all (fun c => isCode c || c.before args0 about1) = true := by decide +kernel
set_option maxRecDepth 65536 in
theorem w_t7 : (((((((words1.drop 24).drop 24).drop 24).drop 24).drop 24).drop 24).take 24).all (fun c => isCode c || c.before args0 about1) = true := by decide +kernel
set_option maxRecDepth 65536 in
theorem w_t8 : ((((((((words1.drop 24).drop 24).drop 24).drop 24).drop 24).drop 24).drop 24).take 24).all (fun c => isCode c || c.before args0 about1) = true := by decide +kernel
set_option maxRecDepth 65536 in
theorem w_t9 : (((((((((words1.drop 24).drop 24).drop 24).drop 24).drop 24).drop 24).drop 24).drop 24).take 24).all (fun c => isCode c || c.before args0 about1) = true := by decide +kernel
set_option maxRecDepth 65536 in
theorem w_t10 : ((((((((((words1.drop 24).drop 24).drop 24).drop 24).drop 24).drop 24).drop 24).drop 24).drop 24).take 24).all (fun c => isCode c || c.before args0 about1) = true := by decide +kernel
set_option maxRecDepth 65536 in
theorem w_t11 : ((((((((((words1.drop 24).drop 24).drop 24).drop 24).drop 24).drop 24).drop 24).drop 24).drop 24).drop 24).all (fun c => isCode c || c.before args0 about1) = true := by decide +kernel
theorem w_tables : (allAtoms (Jvm.Cond.code x code maxLocals ret :: tables_1)).before args0 about1 = true := by
  rw [allAtoms_all]
  show words1.all (fun c => c.before args0 about1) = true
  refine all_split ?_ w_codes
  rw [← List.take_append_drop 24 words1, List.all_append, w_t1, ← List.take_append_drop 24 (words1.drop 24), List.all_append, w_t2, ← List.take_append_drop 24 ((words1.drop 24).drop 24), List.all_append, w_t3, ← List.take_append_drop 24 (((words1.drop 24).drop 24).drop 24), List.all_append, w_t4, ← List.take_append_drop 24 ((((words1.drop 24).drop 24).drop 24).drop 24), List.all_append, w_t5, ← List.take_append_drop 24 (((((words1.drop 24).drop 24).drop 24).drop 24).drop 24), List.all_append, w_t6, ← List.take_append_drop 24 ((((((words1.drop 24).drop 24).drop 24).drop 24).drop 24).drop 24), List.all_append, w_t7, ← List.take_append_drop 24 (((((((words1.drop 24).drop 24).drop 24).drop 24).drop 24).drop 24).drop 24), List.all_append, w_t8, ← List.take_append_drop 24 ((((((((words1.drop 24).drop 24).drop 24).drop 24).drop 24).drop 24).drop 24).drop 24), List.all_append, w_t9, ← List.take_append_drop 24 (((((((((words1.drop 24).drop 24).drop 24).drop 24).drop 24).drop 24).drop 24).drop 24).drop 24), List.all_append, w_t10, w_t11]
  rfl
set_option maxRecDepth 65536 in
theorem w_rest : rest_1_c.before args0 about1 = true := by decide +kernel
set_option maxRecDepth 65536 in
theorem w_case : (Jvm.Cond.and given_1 narrow_1).before args0 about1 = true := by decide +kernel
theorem w_applies : (headSpec (Jvm.Cond.code x code maxLocals ret :: tables_1) room_1).applies x e0.platform about1 = true :=
  (Spec.applies_iff w_frames).mpr ⟨w_running, w_runnable, w_alone, w_named, w_hears, w_ripe, w_room, w_tables⟩
theorem atStart : AtStart classFile x code maxLocals ret World_1 tables_1 room_1 Calls_1 rest_1 Pre_1 launch0 p0 e0 about1 theMethod args0 below0 :=
  ⟨lists_1, trivial, launch0.admits_env _ _ _, launch0.least_env, fairChoices_fair.cas, fairChoices_fair.clock, w_frames, w_args, w_heap, w_applies, trivial, w_rest, w_case⟩
end start1
theorem witness_1 : WitnessClaimed_1 := ⟨start1.p0, start1.e0, start1.about1, start1.theMethod, start1.args0, start1.below0, start1.atStart⟩
end Jvm.Pilot.@@N@@
