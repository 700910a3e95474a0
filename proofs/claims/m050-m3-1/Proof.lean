import JvmDerived
import JvmDerived.Pilot.@@N@@Statement
import JvmDerived.Pilot.@@N@@Code
set_option linter.unusedVariables false
set_option linter.unusedSimpArgs false
namespace Jvm.Pilot.@@N@@
open Jvm Jvm.ClassFile Sem Op Lib Jvm.Free Jvm.Stand Jvm.LawKit Jvm.RoadKit Bundle Jvm.Pilot.@@N@@.Jvm.D
/-- from the state T with the top frame g the run comes to T' with g' -/
def own_R (p : Program) (e : Env) (below : List Frame) (T : State) (g : JFrame) (T' : State) (g' : JFrame) : Prop := ∀ t, Steps p.tables e below (T'.setTop g') t → Steps p.tables e below (T.setTop g) t
abbrev own_S (p : Program) (e : Env) (below : List Frame) (T : State) (g : JFrame) (t : State) : Prop := Steps p.tables e below (T.setTop g) t
theorem own_R.refl {p : Program} {e : Env} {below : List Frame} {T : State} {g : JFrame} : own_R p e below T g T g := fun _ k => k
theorem own_R.trans {p : Program} {e : Env} {below : List Frame} {T T' T'' : State} {g g' g'' : JFrame} (h : own_R p e below T g T' g') (h' : own_R p e below T' g' T'' g'') : own_R p e below T g T'' g'' := fun t k => h t (h' t k)
theorem own_ne_arv {Z : State} {h : Heap} {a b : Addr} {C : String} {k : Nat} {kk : ClassId} {ty : FieldType} {z : Int32} {vs : List Value} {dv : Value} {a0 : Array Value} (E : Exa Z h a C) (wi : (Jvm.Cond.instantiable C k).before a0 Z = true) (V : Arv Z h b kk ty z vs dv) : a ≠ b := by
  obtain ⟨c, A, -⟩ := V
  exact ne_arr E wi A
theorem own_fe {a b x : Addr} {n : Nat} (h : b = a ∨ n ≤ b) (h1 : x ≠ a) (h2 : x < n) : x ≠ b := fun q => h.elim (fun e => h1 (q.trans e)) (fun e => Nat.not_lt.mpr e (q ▸ h2))
theorem own_feg {a b : Addr} {n k : Nat} (h : b = a ∨ n ≤ b) (h1 : k ≤ a) (h2 : k ≤ n) : k ≤ b := h.elim (fun e => e ▸ h1) (Nat.le_trans h2)
theorem own_g {α : Type} {L : List α} {i : Nat} {d : α} (h : L[i]? = some d) : d ∈ L := List.mem_of_getElem? h
theorem own_few {a b : Addr} {ws : List Addr} {n k : Nat} (h : b = a ∨ n ≤ b) (hm : a ∈ ws) (hk : k ≤ n) : b ∈ ws ∨ k ≤ b := h.elim (fun e => Or.inl (e ▸ hm)) (fun e => Or.inr (Nat.le_trans hk e))
theorem own_lt1 (vs : List Value) (d : Value) : vs.length < (vs ++ List.replicate 1 d).length := by simp
theorem own_app {Z : State} {h : Heap} {b : Addr} {k : ClassId} {ty : FieldType} {z : Int32} {vs : List Value} {v d : Value} (F : Arv Z h b k ty z ((vs ++ List.replicate 1 d).set vs.length v) d) : Arv Z h b k ty z (vs ++ [v]) d := by
  have e : (vs ++ List.replicate 1 d).set vs.length v = vs ++ [v] := by simp
  rw [e] at F
  exact F
theorem own_selp {Z s : State} {a0 args : Array Value} {y : MethodName} {n : Nat} (hZ : Z.Warmed39 s.vm) (wi : (Jvm.Cond.instantiable y.cls n).before a0 Z = true) (wp : (Jvm.Cond.privateMethod y).before a0 Z = true) (wm : (Jvm.Cond.instanceMethod y).before a0 Z = true) (hy : y.cls ≠ "java/lang/invoke/MethodHandle" ∧ y.cls ≠ "java/lang/invoke/VarHandle") : (Jvm.Cond.selects y.cls y y).before args s = true := by
  have wi' : (Jvm.Cond.instantiable y.cls n).before args s = true := mvT hZ wi
  obtain ⟨c, k, h1, h2, -, h4, -⟩ := Cond.instantiable_spec wi'
  have h5 : k.isInterface = false := by
    cases hi : k.isInterface with
    | false => rfl
    | true => simp [hi] at h4
  exact Jvm.Stand.selects_self_of_private h1 h2 h5 (Cond.privateMethod_at (mvP hZ wp (args := #[]))) (mvT hZ wm) hy
theorem own_old_size {Z : State} {n0 : Nat} {h : Heap} (O : Old Z n0 h) : n0 ≤ h.size := O.1 ▸ O.2.1

theorem own_eq_fld {s : State} {args : Array Value} {t : Jvm.Term} {a : Addr} {C n d : String} {k : Int32} (ev : t.eval args s none [] s = some (.ref a)) (h : (Jvm.Cond.eq (Jvm.Term.field t C n d) (Jvm.Term.int k)).value args s none s [] = some true) : Fld s s.heap a C n d (.int k) := by
  apply Fld.start
  have q := fld_at (C := C) (n := n) (dd := d) ev
  rw [← q]
  cases hv : (Jvm.Term.field t C n d).eval args s none [] s with
  | none => simp [Cond.value, hv] at h
  | some v => cases v <;> simp_all [Cond.value, Term.eval]

theorem own_eq_val {s : State} {args : Array Value} {t u : Jvm.Term} {y : Addr} (ev : u.eval args s none [] s = some (.ref y)) (h : (Jvm.Cond.eq t u).value args s none s [] = some true) : t.eval args s none [] s = some (.ref y) := by
  cases hv : t.eval args s none [] s with
  | none => simp [Cond.value, hv] at h
  | some v => cases v <;> simp_all [Cond.value]
theorem own_eq_ref {s : State} {args : Array Value} {t u : Jvm.Term} {a y : Addr} {C n d : String} (ev : t.eval args s none [] s = some (.ref a)) (eu : u.eval args s none [] s = some (.ref y)) (h : (Jvm.Cond.eq (Jvm.Term.field t C n d) u).value args s none s [] = some true) : Fld s s.heap a C n d (.ref y) := by
  apply Fld.start
  rw [← fld_at (C := C) (n := n) (dd := d) ev]
  exact own_eq_val eu h
theorem own_eq_null {s : State} {args : Array Value} {t : Jvm.Term} {a : Addr} {C n d : String} (ev : t.eval args s none [] s = some (.ref a)) (h : (Jvm.Cond.eq (Jvm.Term.field t C n d) Jvm.Term.null).value args s none s [] = some true) : Fld s s.heap a C n d .null := by
  apply Fld.start
  rw [← fld_at (C := C) (n := n) (dd := d) ev]
  exact null_v h
theorem own_len {s : State} {args : Array Value} {t : Jvm.Term} {a : Addr} {cl : Cell} {ty : FieldType} {n : Int32} (ev : t.eval args s none [] s = some (.ref a)) (A : Arr s s.heap a cl ty) (h : (Jvm.Cond.eq (Jvm.Term.length t) (Jvm.Term.int n)).value args s none s [] = some true) : cl.slots.size < 2 ^ 31 ∧ cl.slots.size.toInt32 = n := by
  have ha : s.arrayAt? a = some cl := A.fin (Vm.Alike.refl _)
  by_cases hl : cl.slots.size < 2 ^ 31
  · have e := len_f (args := args) (first := s) (o := none) (idx := []) ev ha hl
    refine ⟨hl, ?_⟩
    simp only [Cond.value, e, Term.int_eval] at h
    simpa using h
  · exfalso
    have e : (Jvm.Term.length t).eval args s none [] s = none := by simp [Term.eval, ev, ha]; omega
    simp only [Cond.value, e] at h
    cases h
theorem own_elem {s : State} {args : Array Value} {t u : Jvm.Term} {a y : Addr} {cl : Cell} {ty : FieldType} {j : Int32} (ev : t.eval args s none [] s = some (.ref a)) (eu : u.eval args s none [] s = some (.ref y)) (A : Arr s s.heap a cl ty) (hj : ¬ j < 0) (h : (Jvm.Cond.eq (Jvm.Term.elem t (Jvm.Term.int j)) u).value args s none s [] = some true) : cl.slots[j.toNatClampNeg]? = some (.ref y) := by
  have ha : s.arrayAt? a = some cl := A.fin (Vm.Alike.refl _)
  have e := elem_f (args := args) (first := s) (o := none) (idx := []) (a := Jvm.Term.int j) ev rfl ha hj
  rw [← e]
  exact own_eq_val eu h

theorem own_eq_fldJ {s : State} {args : Array Value} {t : Jvm.Term} {a : Addr} {C n d : String} {k : Int64} (ev : t.eval args s none [] s = some (.ref a)) (h : (Jvm.Cond.eq (Jvm.Term.field t C n d) (Jvm.Term.long k)).value args s none s [] = some true) : Fld s s.heap a C n d (.long k) := by
  apply Fld.start
  have q := fld_at (C := C) (n := n) (dd := d) ev
  rw [← q]
  cases hv : (Jvm.Term.field t C n d).eval args s none [] s with
  | none => simp [Cond.value, hv] at h
  | some v => cases v <;> simp_all [Cond.value, Term.eval]
theorem own_lc_ge {x : Int64} (h : 0 ≤ x.toInt) : ¬ (lcmpW x (0 : Int64) < (0 : Int32)) := by
  rw [lw_lt, Int64.lt_iff_toInt_lt]
  have e : (0 : Int64).toInt = 0 := by decide
  omega
theorem own_lc_eq {x y : Int64} (h : x = y) : lcmpW x y = (0 : Int32) := (lw_eq x y).mpr h
theorem own_lc_ne {x y : Int64} (h : ¬ x = y) : ¬ (lcmpW x y = (0 : Int32)) := fun q => h ((lw_eq x y).mp q)
theorem own_lc_eq' {x y : Int64} (h : lcmpW x y = (0 : Int32)) : x = y := (lw_eq x y).mp h
theorem own_lc_ne' {x y : Int64} (h : ¬ (lcmpW x y = (0 : Int32))) : ¬ x = y := fun q => h ((lw_eq x y).mpr q)
theorem own_or0 {js : Int64} {pn : Int32} (h : lcmpW (js ||| (pn.toInt64)) (0 : Int64) = (0 : Int32)) : js = (0 : Int64) ∧ pn = (0 : Int32) := by
  have h1 := own_lc_eq' h
  have h2 : js.toBitVec ||| pn.toInt64.toBitVec = 0#64 := by
    have := congrArg Int64.toBitVec h1
    simpa using this
  rw [BitVec.or_eq_zero_iff] at h2
  have e1 : js = (0 : Int64) := Int64.toBitVec_inj.mp h2.1
  have e2 : pn.toInt64 = (0 : Int64) := Int64.toBitVec_inj.mp h2.2
  refine ⟨e1, Int32.toInt_inj.mp ?_⟩
  rw [← c_i2l pn, e2]
  decide
theorem own_g9 : (1000000000 : Int64).toInt = 1000000000 := by decide
theorem own_sec {jn : Int64} (h : 0 ≤ jn.toInt) : (jn / (1000000000 : Int64)).toInt = jn.toInt / 1000000000 := (c_ldiv jn (1000000000 : Int64) 1000000000 own_g9 (by decide)).1 h
theorem own_remv {jn : Int64} (h : 0 ≤ jn.toInt) : (jn - (jn / (1000000000 : Int64)) * (1000000000 : Int64)).toInt = jn.toInt % 1000000000 := (c_lrem jn (1000000000 : Int64) 1000000000 own_g9).1 h
theorem own_nan {jn : Int64} (h : 0 ≤ jn.toInt) : ((jn - (jn / (1000000000 : Int64)) * (1000000000 : Int64)).toInt32).toInt = jn.toInt % 1000000000 := by
  have h1 := c_l2i (jn - (jn / (1000000000 : Int64)) * (1000000000 : Int64))
  have h2 := rng32 ((jn - (jn / (1000000000 : Int64)) * (1000000000 : Int64)).toInt32)
  rw [own_remv h] at h1
  omega
theorem own_rem_nn {jn : Int64} (h : 0 ≤ jn.toInt) : ¬ (((jn - (jn / (1000000000 : Int64)) * (1000000000 : Int64)).toInt32) < (0 : Int32)) := by
  rw [Int32.lt_iff_toInt_lt, own_nan h]
  have e : (0 : Int32).toInt = 0 := by decide
  omega
theorem own_mulv {jx : Int64} (h : 0 ≤ jx.toInt) (hm : jx.toInt * 1000000000 ≤ 9223372036854775807) : (jx * (1000000000 : Int64)).toInt = jx.toInt * 1000000000 := by
  have h1 := c_lmul jx (1000000000 : Int64)
  have h2 := rng64 (jx * (1000000000 : Int64))
  rw [own_g9] at h1
  omega
theorem own_muldiv {jx : Int64} (h : 0 ≤ jx.toInt) (hm : jx.toInt * 1000000000 ≤ 9223372036854775807) : (jx * (1000000000 : Int64)) / (1000000000 : Int64) = jx := by
  apply Int64.toInt_inj.mp
  rw [own_sec (by rw [own_mulv h hm]; omega), own_mulv h hm]
  omega
theorem own_notmin {jx : Int64} (h : 0 ≤ jx.toInt) : ¬ (jx = (-9223372036854775808 : Int64)) := fun q => by
  rw [q] at h
  exact absurd h (by decide)
theorem own_addx {jx jy : Int64} (h1 : 0 ≤ jx.toInt) (h2 : 0 ≤ jy.toInt) (h3 : jx.toInt + jy.toInt ≤ 9223372036854775807) : 0 ≤ ((jx ^^^ (jx + jy)) &&& (jy ^^^ (jx + jy))).toInt := by
  have q1 := c_ladd jx jy
  have q2 := rng64 (jx + jy)
  have q3 : 0 ≤ (jx + jy).toInt := by omega
  exact (c_andSL _ _).2.1 ((c_xorSL jx (jx + jy)).2.2.2 h1 q3)
theorem own_le1 {js : Int64} {pn : Int32} (h1 : 0 ≤ pn.toInt) (h2 : js.toInt * 1000000000 + pn.toInt ≤ 9223372036854775807) : js.toInt * 1000000000 ≤ 9223372036854775807 := by omega
theorem own_mul_nn {js : Int64} (h : 0 ≤ js.toInt) (hm : js.toInt * 1000000000 ≤ 9223372036854775807) : 0 ≤ (js * (1000000000 : Int64)).toInt := by rw [own_mulv h hm]; omega
theorem own_i2l_nn {pn : Int32} (h : 0 ≤ pn.toInt) : 0 ≤ (pn.toInt64).toInt := by rw [c_i2l]; exact h
theorem own_sum_le {js : Int64} {pn : Int32} (h0 : 0 ≤ js.toInt) (h1 : 0 ≤ pn.toInt) (h2 : js.toInt * 1000000000 + pn.toInt ≤ 9223372036854775807) : (js * (1000000000 : Int64)).toInt + (pn.toInt64).toInt ≤ 9223372036854775807 := by
  rw [c_i2l, own_mulv h0 (own_le1 h1 h2)]; exact h2
theorem own_pos {x : Int64} (h : 0 ≤ x.toInt) (hn : ¬ x = (0 : Int64)) : 0 < x.toInt := by
  have e : (0 : Int64).toInt = 0 := by decide
  have : x.toInt ≠ 0 := fun q => hn (Int64.toInt_inj.mp (q.trans e.symm))
  omega
theorem own_divv {jt ja : Int64} (h1 : 0 ≤ jt.toInt) (h2 : 0 ≤ ja.toInt) : (jt / ja).toInt = jt.toInt / ja.toInt :=
  (c_ldiv jt ja ja.toInt rfl (fun q => by rw [q] at h2; exact absurd h2 (by decide))).1 h1
theorem own_div_nn {jt ja : Int64} (h1 : 0 ≤ jt.toInt) (h2 : 0 ≤ ja.toInt) (hn : ¬ ja = (0 : Int64)) : 0 ≤ (jt / ja).toInt := by
  rw [own_divv h1 h2]
  exact Int.ediv_nonneg h1 h2
theorem own_zdiv : ((0 : Int64) / (1000000000 : Int64)) = (0 : Int64) := by decide
theorem own_zrem : (((0 : Int64) - ((0 : Int64) / (1000000000 : Int64)) * (1000000000 : Int64)).toInt32) = (0 : Int32) := by decide
theorem own_mask_nn (x : Int64) : 0 ≤ (x &&& (9223372036854775807 : Int64)).toInt := (c_andSL x _).2.2 (by decide)
theorem own_mask15_nn (x : Int64) : 0 ≤ (x &&& (15 : Int64)).toInt := (c_andSL x _).2.2 (by decide)
theorem own_jq {ja jt jq : Int64} (h1 : 0 ≤ ja.toInt) (h2 : 0 ≤ jt.toInt) (h : (ja = (0 : Int64) ∧ jq = (0 : Int64)) ∨ (¬ (ja = (0 : Int64)) ∧ jq = jt / ja)) : 0 ≤ jq.toInt := by
  rcases h with ⟨-, rfl⟩ | ⟨q, rfl⟩
  · decide
  · exact own_div_nn h2 h1 q
theorem own_sec_nn {jq : Int64} (h : 0 ≤ jq.toInt) : 0 ≤ (jq / (1000000000 : Int64)).toInt := by rw [own_sec h]; omega
theorem own_nan_nn {jq : Int64} (h : 0 ≤ jq.toInt) : 0 ≤ ((jq - (jq / (1000000000 : Int64)) * (1000000000 : Int64)).toInt32).toInt := by rw [own_nan h]; omega
theorem own_nan_sum {jq : Int64} (h : 0 ≤ jq.toInt) : (jq / (1000000000 : Int64)).toInt * 1000000000 + ((jq - (jq / (1000000000 : Int64)) * (1000000000 : Int64)).toInt32).toInt ≤ 9223372036854775807 := by
  rw [own_sec h, own_nan h]
  have := rng64 jq
  omega
theorem own_back {jq : Int64} (h : 0 ≤ jq.toInt) : (((jq / (1000000000 : Int64)) * (1000000000 : Int64)) + (((jq - (jq / (1000000000 : Int64)) * (1000000000 : Int64)).toInt32).toInt64)) = jq := by
  apply Int64.toInt_inj.mp
  have h1 := c_ladd ((jq / (1000000000 : Int64)) * (1000000000 : Int64)) (((jq - (jq / (1000000000 : Int64)) * (1000000000 : Int64)).toInt32).toInt64)
  have h2 := rng64 (((jq / (1000000000 : Int64)) * (1000000000 : Int64)) + (((jq - (jq / (1000000000 : Int64)) * (1000000000 : Int64)).toInt32).toInt64))
  have h3 := rng64 jq
  have h4 := own_mulv (own_sec_nn h) (by rw [own_sec h]; omega)
  rw [c_i2l, own_nan h, h4, own_sec h] at h1
  omega
theorem own_E0 {ja jt jq : Int64} (h1 : 0 ≤ ja.toInt) (h2 : 0 ≤ jt.toInt) (h3 : lcmpW ja (0 : Int64) = (0 : Int32)) (h : (ja = (0 : Int64) ∧ jq = (0 : Int64)) ∨ (¬ (ja = (0 : Int64)) ∧ jq = jt / ja)) : lcmpW jq (0 : Int64) = (0 : Int32) := by
  rcases h with ⟨-, q⟩ | ⟨q, -⟩
  · exact own_lc_eq q
  · exact absurd (own_lc_eq' h3) q
theorem own_E1 {ja jt jq : Int64} (h1 : 0 ≤ ja.toInt) (h2 : 0 ≤ jt.toInt) (h3 : ¬ (lcmpW ja (0 : Int64) = (0 : Int32))) (h : (ja = (0 : Int64) ∧ jq = (0 : Int64)) ∨ (¬ (ja = (0 : Int64)) ∧ jq = jt / ja)) :
    ¬ (lcmpW jq (0 : Int64) < (0 : Int32)) ∧ ¬ ((0 : Int32) < lcmpW jq jt) ∧ ¬ ((0 : Int32) < lcmpW jq ((9223372036854775807 : Int64) / ja)) ∧ ¬ (lcmpW (jt - (jq * ja)) (0 : Int64) < (0 : Int32)) ∧ lcmpW (jt - (jq * ja)) ja < (0 : Int32) := by
  rcases h with ⟨q, -⟩ | ⟨q, rfl⟩
  · exact absurd q (own_lc_ne' h3)
  have p := own_pos h1 q
  have d := own_divv h2 h1
  have dm := own_divv (jt := (9223372036854775807 : Int64)) (by decide) h1
  have em : (9223372036854775807 : Int64).toInt = 9223372036854775807 := by decide
  rw [em] at dm
  have e0 : (0 : Int64).toInt = 0 := by decide
  have r1 := rng64 jt
  have k0 : 0 ≤ jt.toInt / ja.toInt := Int.ediv_nonneg h2 h1
  have k1 : jt.toInt / ja.toInt ≤ jt.toInt := Int.ediv_le_self _ h2
  have k2 : jt.toInt / ja.toInt ≤ 9223372036854775807 / ja.toInt := Int.ediv_le_ediv p (by omega)
  have k3 := Int.emod_add_mul_ediv jt.toInt ja.toInt
  have k4 := Int.emod_nonneg jt.toInt (by omega : ja.toInt ≠ 0)
  have k5 := Int.emod_lt_of_pos jt.toInt p
  have c1 := c_lmul (jt / ja) ja
  have c2 := c_lsub jt ((jt / ja) * ja)
  have c3 := rng64 ((jt / ja) * ja)
  have c4 := rng64 (jt - ((jt / ja) * ja))
  rw [d] at c1
  rw [Int.mul_comm] at k3
  have k6 : 0 ≤ jt.toInt / ja.toInt * ja.toInt := Int.mul_nonneg k0 h1
  generalize jt.toInt / ja.toInt * ja.toInt = P at c1 k3 k6
  have v1 : ((jt / ja) * ja).toInt = P := by omega
  rw [v1] at c2
  have v2 : (jt - ((jt / ja) * ja)).toInt = jt.toInt - P := by omega
  refine ⟨own_lc_ge (by rw [d]; exact k0), ?_, ?_, own_lc_ge (by omega), ?_⟩
  · rw [lw_gt, Int64.lt_iff_toInt_lt, d]; omega
  · rw [lw_gt, Int64.lt_iff_toInt_lt, d, dm]; omega
  · rw [lw_lt, Int64.lt_iff_toInt_lt, v2]; omega

theorem d1_0 : decode prog_7_method_1_code 0 = .ok (.aload_n 0, 1) := by decide +kernel
theorem d1_1 : decode prog_7_method_1_code 1 = .ok (.invokespecial 1, 3) := by decide +kernel
theorem d1_4 : decode prog_7_method_1_code 4 = .ok (.aload_n 0, 1) := by decide +kernel
theorem d1_5 : decode prog_7_method_1_code 5 = .ok (.lload_n 1, 1) := by decide +kernel
theorem d1_6 : decode prog_7_method_1_code 6 = .ok (.putfield 7, 3) := by decide +kernel
theorem d1_9 : decode prog_7_method_1_code 9 = .ok (.aload_n 0, 1) := by decide +kernel
theorem d1_10 : decode prog_7_method_1_code 10 = .ok (.lload_n 3, 1) := by decide +kernel
theorem d1_11 : decode prog_7_method_1_code 11 = .ok (.putfield 13, 3) := by decide +kernel
theorem d1_14 : decode prog_7_method_1_code 14 = .ok (.aload_n 0, 1) := by decide +kernel
theorem d1_15 : decode prog_7_method_1_code 15 = .ok (.lload 5, 2) := by decide +kernel
theorem d1_17 : decode prog_7_method_1_code 17 = .ok (.putfield 16, 3) := by decide +kernel
theorem d1_20 : decode prog_7_method_1_code 20 = .ok (.aload_n 0, 1) := by decide +kernel
theorem d1_21 : decode prog_7_method_1_code 21 = .ok (.lload 7, 2) := by decide +kernel
theorem d1_23 : decode prog_7_method_1_code 23 = .ok (.putfield 19, 3) := by decide +kernel
theorem d1_26 : decode prog_7_method_1_code 26 = .ok (.aload_n 0, 1) := by decide +kernel
theorem d1_27 : decode prog_7_method_1_code 27 = .ok (.lload 9, 2) := by decide +kernel
theorem d1_29 : decode prog_7_method_1_code 29 = .ok (.putfield 22, 3) := by decide +kernel
theorem d1_32 : decode prog_7_method_1_code 32 = .ok (.aload_n 0, 1) := by decide +kernel
theorem d1_33 : decode prog_7_method_1_code 33 = .ok (.lload 11, 2) := by decide +kernel
theorem d1_35 : decode prog_7_method_1_code 35 = .ok (.putfield 25, 3) := by decide +kernel
theorem d1_38 : decode prog_7_method_1_code 38 = .ok (.aload_n 0, 1) := by decide +kernel
theorem d1_39 : decode prog_7_method_1_code 39 = .ok (.lload 13, 2) := by decide +kernel
theorem d1_41 : decode prog_7_method_1_code 41 = .ok (.putfield 28, 3) := by decide +kernel
theorem d1_44 : decode prog_7_method_1_code 44 = .ok (.aload_n 0, 1) := by decide +kernel
theorem d1_45 : decode prog_7_method_1_code 45 = .ok (.lload 15, 2) := by decide +kernel
theorem d1_47 : decode prog_7_method_1_code 47 = .ok (.putfield 31, 3) := by decide +kernel
theorem d1_50 : decode prog_7_method_1_code 50 = .ok (.return_, 1) := by decide +kernel
theorem pn_LockMetrics : plainName "com/example/kubera/kubera/LockMetrics" = true := by first | (simp [plainName, overriddenIn]; done) | decide +kernel
theorem ef_lmInit (m : MethodId) (a : Addr) (j1 : Int64) (j2 : Int64) (j3 : Int64) (j4 : Int64) (j5 : Int64) (j6 : Int64) (j7 : Int64) (j8 : Int64) : entryFrame m #[(.ref a), (.long j1), (.long j2), (.long j3), (.long j4), (.long j5), (.long j6), (.long j7), (.long j8)] 17 = mkF m 0 #[.val (.ref a), .val (.long j1), .second, .val (.long j2), .second, .val (.long j3), .second, .val (.long j4), .second, .val (.long j5), .second, .val (.long j6), .second, .val (.long j7), .second, .val (.long j8), .second] [] := by first | (simp [entryFrame, mkF, argsToLocals, Value.category]; done) | rfl
def Q_lmInit (Z : State) (a : Addr) (j1 : Int64) (j2 : Int64) (j3 : Int64) (j4 : Int64) (j5 : Int64) (j6 : Int64) (j7 : Int64) (j8 : Int64) (u0 : Value) (u1 : Value) (u2 : Value) (u3 : Value) (u4 : Value) (u5 : Value) (u6 : Value) (u7 : Value) (h0 : Heap) (n0 : Nat) (v : Option Value) (h : Heap) (L : List Loc) : Prop := v = none ∧ Fr n0 L ∧ Keep h0 h [a] ∧ (Fld Z h a "com/example/kubera/kubera/LockMetrics" "acquireAttempts" "J" (.long j1)) ∧ (Fld Z h a "com/example/kubera/kubera/LockMetrics" "totalWaitNanos" "J" (.long j5))
set_option maxRecDepth 65536 in
set_option maxHeartbeats 40000000 in
theorem rm_lmInit (l : Launch) (Z : State) (a0 : Array Value) (hw : ∀ d ∈ tables_1, d.before a0 Z = true) (ws : List Jvm.Cond) (a : Addr) (j1 : Int64) (j2 : Int64) (j3 : Int64) (j4 : Int64) (j5 : Int64) (j6 : Int64) (j7 : Int64) (j8 : Int64) (u0 : Value) (u1 : Value) (u2 : Value) (u3 : Value) (u4 : Value) (u5 : Value) (u6 : Value) (u7 : Value) (h0 : Heap) (n0 : Nat) (O0 : Old Z n0 h0) (E_a : Exa Z h0 a "com/example/kubera/kubera/LockMetrics") (g_a : n0 ≤ a) (F_a_acquireAttempts : Fld Z h0 a "com/example/kubera/kubera/LockMetrics" "acquireAttempts" "J" u0) (F_a_acquireGrants : Fld Z h0 a "com/example/kubera/kubera/LockMetrics" "acquireGrants" "J" u1) (F_a_acquireRefusals : Fld Z h0 a "com/example/kubera/kubera/LockMetrics" "acquireRefusals" "J" u2) (F_a_acquireErrors : Fld Z h0 a "com/example/kubera/kubera/LockMetrics" "acquireErrors" "J" u3) (F_a_totalWaitNanos : Fld Z h0 a "com/example/kubera/kubera/LockMetrics" "totalWaitNanos" "J" u4) (F_a_renewals : Fld Z h0 a "com/example/kubera/kubera/LockMetrics" "renewals" "J" u5) (F_a_renewalFailures : Fld Z h0 a "com/example/kubera/kubera/LockMetrics" "renewalFailures" "J" u6) (F_a_leasesLostWhileHeld : Fld Z h0 a "com/example/kubera/kubera/LockMetrics" "leasesLostWhileHeld" "J" u7) :
    MetFree l (⟨"com/example/kubera/kubera/LockMetrics", "<init>", "(JJJJJJJJ)V"⟩ : MethodName) (head1 (Jvm.Cond.code (⟨"com/example/kubera/kubera/LockMetrics", "<init>", "(JJJJJJJJ)V"⟩ : MethodName) prog_7_method_1_code 17 none :: ws) ({ frames := 1, cells := 0, slots := 0, locals := 12 } : Room)) (fun aa_ U => aa_ = #[(.ref a), (.long j1), (.long j2), (.long j3), (.long j4), (.long j5), (.long j6), (.long j7), (.long j8)] ∧ Z.Warmed39 U.vm ∧ U.heap = h0) (fun _ _ _ _ _ => True) (fun _ U o U' => ∃ v L, o = .returned v ∧ Q_lmInit Z a j1 j2 j3 j4 j5 j6 j7 j8 u0 u1 u2 u3 u4 u5 u6 u7 h0 n0 v U'.heap L ∧ FrameEnd U o U' L ({ frames := 1, cells := 0, slots := 0, locals := 12 } : Room).cells ({ frames := 1, cells := 0, slots := 0, locals := 12 } : Room).slots) := by
  refine MetFree.of_bodySF (plainFor_of_name pn_LockMetrics) hisR ?_
  intro p e s m args below meth c s₁ Bd hml0 hP hK
  obtain ⟨rfl, hZ, hh⟩ := hP
  have hx := Bd.exec
  have hby := Bd.bytes
  have hml : c.maxLocals = 17 := hml0
  have hown : s.vm.findClass "com/example/kubera/kubera/LockMetrics" = some m.cls := findClass_of_methodNamed Bd.named
  have hnm := (name_of_methodNamed Bd.named Bd.method).1
  have X0 : Stand p l e ({ frames := 1, cells := 0, slots := 0, locals := 12 } : Room) s m #[(.ref a), (.long j1), (.long j2), (.long j3), (.long j4), (.long j5), (.long j6), (.long j7), (.long j8)] below meth c s₁ [] 0 0 := Stand.of_body Bd
  have e0 : s₁.heap = h0 := by rw [← hh, Bd.state]; rfl
  have N0 := Fr.nil n0
  have K0 : Keep h0 h0 [a] := Keep.refl h0 _
  have pre0 : ∀ t, Steps p.tables e below (s₁.setTop (mkF m 0 #[.val (.ref a), .val (.long j1), .second, .val (.long j2), .second, .val (.long j3), .second, .val (.long j4), .second, .val (.long j5), .second, .val (.long j6), .second, .val (.long j7), .second, .val (.long j8), .second] [])) t → Steps p.tables e below (s₁.setTop (entryFrame m #[(.ref a), (.long j1), (.long j2), (.long j3), (.long j4), (.long j5), (.long j6), (.long j7), (.long j8)] 17)) t := fun t k => castTop (ef_lmInit m a j1 j2 j3 j4 j5 j6 j7 j8) k
  have r0 : own_R p e below s₁ (mkF m 0 #[.val (.ref a), .val (.long j1), .second, .val (.long j2), .second, .val (.long j3), .second, .val (.long j4), .second, .val (.long j5), .second, .val (.long j6), .second, .val (.long j7), .second, .val (.long j8), .second] []) s₁ (mkF m 0 #[.val (.ref a), .val (.long j1), .second, .val (.long j2), .second, .val (.long j3), .second, .val (.long j4), .second, .val (.long j5), .second, .val (.long j6), .second, .val (.long j7), .second, .val (.long j8), .second] []) := own_R.refl
  have r1 : own_R p e below _ _ s₁ (mkF m 1 #[.val (.ref a), .val (.long j1), .second, .val (.long j2), .second, .val (.long j3), .second, .val (.long j4), .second, .val (.long j5), .second, .val (.long j6), .second, .val (.long j7), .second, .val (.long j8), .second] [(.ref a)]) := r0.trans fun z_ kt => by
    show own_S p e below s₁ (mkF m 0 #[.val (.ref a), .val (.long j1), .second, .val (.long j2), .second, .val (.long j3), .second, .val (.long j4), .second, .val (.long j5), .second, .val (.long j6), .second, .val (.long j7), .second, .val (.long j8), .second] []) _
    refine XS.aloadN X0.here hx rfl (hb hby d1_0) rfl rfl ?_
    exact kt
  obtain ⟨T2, X2, e2, st2⟩ := initO X0 hx hZ hown (hw _ (own_g (i := 7) rfl)) (hw _ (own_g (i := 8) rfl)) (hw _ (own_g (i := 9) rfl)) e0 (g := (mkF m 1 #[.val (.ref a), .val (.long j1), .second, .val (.long j2), .second, .val (.long j3), .second, .val (.long j4), .second, .val (.long j5), .second, .val (.long j6), .second, .val (.long j7), .second, .val (.long j8), .second] [(.ref a)])) rfl (by rw [hml]; rfl) rfl (hb hby d1_1) (by decide) (W := 0) (by show 2 * 0 + _ ≤ _; exact Nat.le_of_eq rfl) (by decide)
  have r2 : own_R p e below _ _ T2 (mkF m 4 #[.val (.ref a), .val (.long j1), .second, .val (.long j2), .second, .val (.long j3), .second, .val (.long j4), .second, .val (.long j5), .second, .val (.long j6), .second, .val (.long j7), .second, .val (.long j8), .second] []) := r1.trans fun z_ kt => st2 _ kt
  have r3 : own_R p e below _ _ T2 (mkF m 6 #[.val (.ref a), .val (.long j1), .second, .val (.long j2), .second, .val (.long j3), .second, .val (.long j4), .second, .val (.long j5), .second, .val (.long j6), .second, .val (.long j7), .second, .val (.long j8), .second] [(.long j1), (.ref a)]) := r2.trans fun z_ kt => by
    show own_S p e below T2 (mkF m 4 #[.val (.ref a), .val (.long j1), .second, .val (.long j2), .second, .val (.long j3), .second, .val (.long j4), .second, .val (.long j5), .second, .val (.long j6), .second, .val (.long j7), .second, .val (.long j8), .second] []) _
    refine XS.aloadN X2.here hx rfl (hb hby d1_4) rfl rfl ?_
    show own_S p e below T2 (mkF m 5 #[.val (.ref a), .val (.long j1), .second, .val (.long j2), .second, .val (.long j3), .second, .val (.long j4), .second, .val (.long j5), .second, .val (.long j6), .second, .val (.long j7), .second, .val (.long j8), .second] [(.ref a)]) _
    refine XS.lloadN X2.here hx rfl (hb hby d1_5) rfl ?_
    exact kt
  obtain ⟨T4, h4, X4, e4, W4, st4⟩ := putF X2 hx hZ hown (host := "") (Or.inl (hw _ (own_g (i := 10) rfl))) Via.refl e2 F_a_acquireAttempts E_a (Or.inr ⟨(hw _ (own_g (i := 11) rfl)), rfl, hnm⟩) (hw _ (own_g (i := 2) rfl)) (ty := .long) (v := (.long j1)) (by decide) rfl rfl (g := (mkF m 6 #[.val (.ref a), .val (.long j1), .second, .val (.long j2), .second, .val (.long j3), .second, .val (.long j4), .second, .val (.long j5), .second, .val (.long j6), .second, .val (.long j7), .second, .val (.long j8), .second] [(.long j1), (.ref a)])) rfl rfl (hb hby d1_6)
  have r4 : own_R p e below _ _ T4 (mkF m 9 #[.val (.ref a), .val (.long j1), .second, .val (.long j2), .second, .val (.long j3), .second, .val (.long j4), .second, .val (.long j5), .second, .val (.long j6), .second, .val (.long j7), .second, .val (.long j8), .second] []) := r3.trans fun z_ kt => st4 _ kt
  have N4 := Fr.snoc X4 N0 g_a
  have O4 := O0.wr W4 g_a
  have K4 := K0.wr W4 (Or.inl (List.mem_of_getElem? (i := 0) rfl))
  have F4 := F_a_acquireAttempts.same W4
  have f5 := (F_a_acquireGrants.other W4 (Or.inr (slot_ne (Or.inr (hw _ (own_g (i := 13) rfl))) (Or.inr (hw _ (own_g (i := 11) rfl))) (by decide) (t := .long) (t' := .long) (by decide) (by decide))))
  have f6 := (E_a.wr W4)
  have r7 : own_R p e below _ _ T4 (mkF m 11 #[.val (.ref a), .val (.long j1), .second, .val (.long j2), .second, .val (.long j3), .second, .val (.long j4), .second, .val (.long j5), .second, .val (.long j6), .second, .val (.long j7), .second, .val (.long j8), .second] [(.long j2), (.ref a)]) := r4.trans fun z_ kt => by
    show own_S p e below T4 (mkF m 9 #[.val (.ref a), .val (.long j1), .second, .val (.long j2), .second, .val (.long j3), .second, .val (.long j4), .second, .val (.long j5), .second, .val (.long j6), .second, .val (.long j7), .second, .val (.long j8), .second] []) _
    refine XS.aloadN X4.here hx rfl (hb hby d1_9) rfl rfl ?_
    show own_S p e below T4 (mkF m 10 #[.val (.ref a), .val (.long j1), .second, .val (.long j2), .second, .val (.long j3), .second, .val (.long j4), .second, .val (.long j5), .second, .val (.long j6), .second, .val (.long j7), .second, .val (.long j8), .second] [(.ref a)]) _
    refine XS.lloadN X4.here hx rfl (hb hby d1_10) rfl ?_
    exact kt
  obtain ⟨T8, h8, X8, e8, W8, st8⟩ := putF X4 hx hZ hown (host := "") (Or.inl (hw _ (own_g (i := 12) rfl))) Via.refl e4 f5 f6 (Or.inr ⟨(hw _ (own_g (i := 13) rfl)), rfl, hnm⟩) (hw _ (own_g (i := 2) rfl)) (ty := .long) (v := (.long j2)) (by decide) rfl rfl (g := (mkF m 11 #[.val (.ref a), .val (.long j1), .second, .val (.long j2), .second, .val (.long j3), .second, .val (.long j4), .second, .val (.long j5), .second, .val (.long j6), .second, .val (.long j7), .second, .val (.long j8), .second] [(.long j2), (.ref a)])) rfl rfl (hb hby d1_11)
  have r8 : own_R p e below _ _ T8 (mkF m 14 #[.val (.ref a), .val (.long j1), .second, .val (.long j2), .second, .val (.long j3), .second, .val (.long j4), .second, .val (.long j5), .second, .val (.long j6), .second, .val (.long j7), .second, .val (.long j8), .second] []) := r7.trans fun z_ kt => st8 _ kt
  have N8 := Fr.snoc X8 N4 g_a
  have O8 := O4.wr W8 g_a
  have K8 := K4.wr W8 (Or.inl (List.mem_of_getElem? (i := 0) rfl))
  have F8 := f5.same W8
  have f9 := ((F_a_acquireRefusals.other W4 (Or.inr (slot_ne (Or.inr (hw _ (own_g (i := 15) rfl))) (Or.inr (hw _ (own_g (i := 11) rfl))) (by decide) (t := .long) (t' := .long) (by decide) (by decide)))).other W8 (Or.inr (slot_ne (Or.inr (hw _ (own_g (i := 15) rfl))) (Or.inr (hw _ (own_g (i := 13) rfl))) (by decide) (t := .long) (t' := .long) (by decide) (by decide))))
  have f10 := (f6.wr W8)
  have r11 : own_R p e below _ _ T8 (mkF m 17 #[.val (.ref a), .val (.long j1), .second, .val (.long j2), .second, .val (.long j3), .second, .val (.long j4), .second, .val (.long j5), .second, .val (.long j6), .second, .val (.long j7), .second, .val (.long j8), .second] [(.long j3), (.ref a)]) := r8.trans fun z_ kt => by
    show own_S p e below T8 (mkF m 14 #[.val (.ref a), .val (.long j1), .second, .val (.long j2), .second, .val (.long j3), .second, .val (.long j4), .second, .val (.long j5), .second, .val (.long j6), .second, .val (.long j7), .second, .val (.long j8), .second] []) _
    refine XS.aloadN X8.here hx rfl (hb hby d1_14) rfl rfl ?_
    show own_S p e below T8 (mkF m 15 #[.val (.ref a), .val (.long j1), .second, .val (.long j2), .second, .val (.long j3), .second, .val (.long j4), .second, .val (.long j5), .second, .val (.long j6), .second, .val (.long j7), .second, .val (.long j8), .second] [(.ref a)]) _
    refine XS.lload X8.here hx rfl (hb hby d1_15) rfl ?_
    exact kt
  obtain ⟨T12, h12, X12, e12, W12, st12⟩ := putF X8 hx hZ hown (host := "") (Or.inl (hw _ (own_g (i := 14) rfl))) Via.refl e8 f9 f10 (Or.inr ⟨(hw _ (own_g (i := 15) rfl)), rfl, hnm⟩) (hw _ (own_g (i := 2) rfl)) (ty := .long) (v := (.long j3)) (by decide) rfl rfl (g := (mkF m 17 #[.val (.ref a), .val (.long j1), .second, .val (.long j2), .second, .val (.long j3), .second, .val (.long j4), .second, .val (.long j5), .second, .val (.long j6), .second, .val (.long j7), .second, .val (.long j8), .second] [(.long j3), (.ref a)])) rfl rfl (hb hby d1_17)
  have r12 : own_R p e below _ _ T12 (mkF m 20 #[.val (.ref a), .val (.long j1), .second, .val (.long j2), .second, .val (.long j3), .second, .val (.long j4), .second, .val (.long j5), .second, .val (.long j6), .second, .val (.long j7), .second, .val (.long j8), .second] []) := r11.trans fun z_ kt => st12 _ kt
  have N12 := Fr.snoc X12 N8 g_a
  have O12 := O8.wr W12 g_a
  have K12 := K8.wr W12 (Or.inl (List.mem_of_getElem? (i := 0) rfl))
  have F12 := f9.same W12
  have f13 := (((F_a_acquireErrors.other W4 (Or.inr (slot_ne (Or.inr (hw _ (own_g (i := 17) rfl))) (Or.inr (hw _ (own_g (i := 11) rfl))) (by decide) (t := .long) (t' := .long) (by decide) (by decide)))).other W8 (Or.inr (slot_ne (Or.inr (hw _ (own_g (i := 17) rfl))) (Or.inr (hw _ (own_g (i := 13) rfl))) (by decide) (t := .long) (t' := .long) (by decide) (by decide)))).other W12 (Or.inr (slot_ne (Or.inr (hw _ (own_g (i := 17) rfl))) (Or.inr (hw _ (own_g (i := 15) rfl))) (by decide) (t := .long) (t' := .long) (by decide) (by decide))))
  have f14 := (f10.wr W12)
  have r15 : own_R p e below _ _ T12 (mkF m 23 #[.val (.ref a), .val (.long j1), .second, .val (.long j2), .second, .val (.long j3), .second, .val (.long j4), .second, .val (.long j5), .second, .val (.long j6), .second, .val (.long j7), .second, .val (.long j8), .second] [(.long j4), (.ref a)]) := r12.trans fun z_ kt => by
    show own_S p e below T12 (mkF m 20 #[.val (.ref a), .val (.long j1), .second, .val (.long j2), .second, .val (.long j3), .second, .val (.long j4), .second, .val (.long j5), .second, .val (.long j6), .second, .val (.long j7), .second, .val (.long j8), .second] []) _
    refine XS.aloadN X12.here hx rfl (hb hby d1_20) rfl rfl ?_
    show own_S p e below T12 (mkF m 21 #[.val (.ref a), .val (.long j1), .second, .val (.long j2), .second, .val (.long j3), .second, .val (.long j4), .second, .val (.long j5), .second, .val (.long j6), .second, .val (.long j7), .second, .val (.long j8), .second] [(.ref a)]) _
    refine XS.lload X12.here hx rfl (hb hby d1_21) rfl ?_
    exact kt
  obtain ⟨T16, h16, X16, e16, W16, st16⟩ := putF X12 hx hZ hown (host := "") (Or.inl (hw _ (own_g (i := 16) rfl))) Via.refl e12 f13 f14 (Or.inr ⟨(hw _ (own_g (i := 17) rfl)), rfl, hnm⟩) (hw _ (own_g (i := 2) rfl)) (ty := .long) (v := (.long j4)) (by decide) rfl rfl (g := (mkF m 23 #[.val (.ref a), .val (.long j1), .second, .val (.long j2), .second, .val (.long j3), .second, .val (.long j4), .second, .val (.long j5), .second, .val (.long j6), .second, .val (.long j7), .second, .val (.long j8), .second] [(.long j4), (.ref a)])) rfl rfl (hb hby d1_23)
  have r16 : own_R p e below _ _ T16 (mkF m 26 #[.val (.ref a), .val (.long j1), .second, .val (.long j2), .second, .val (.long j3), .second, .val (.long j4), .second, .val (.long j5), .second, .val (.long j6), .second, .val (.long j7), .second, .val (.long j8), .second] []) := r15.trans fun z_ kt => st16 _ kt
  have N16 := Fr.snoc X16 N12 g_a
  have O16 := O12.wr W16 g_a
  have K16 := K12.wr W16 (Or.inl (List.mem_of_getElem? (i := 0) rfl))
  have F16 := f13.same W16
  have f17 := ((((F_a_totalWaitNanos.other W4 (Or.inr (slot_ne (Or.inr (hw _ (own_g (i := 19) rfl))) (Or.inr (hw _ (own_g (i := 11) rfl))) (by decide) (t := .long) (t' := .long) (by decide) (by decide)))).other W8 (Or.inr (slot_ne (Or.inr (hw _ (own_g (i := 19) rfl))) (Or.inr (hw _ (own_g (i := 13) rfl))) (by decide) (t := .long) (t' := .long) (by decide) (by decide)))).other W12 (Or.inr (slot_ne (Or.inr (hw _ (own_g (i := 19) rfl))) (Or.inr (hw _ (own_g (i := 15) rfl))) (by decide) (t := .long) (t' := .long) (by decide) (by decide)))).other W16 (Or.inr (slot_ne (Or.inr (hw _ (own_g (i := 19) rfl))) (Or.inr (hw _ (own_g (i := 17) rfl))) (by decide) (t := .long) (t' := .long) (by decide) (by decide))))
  have f18 := (f14.wr W16)
  have r19 : own_R p e below _ _ T16 (mkF m 29 #[.val (.ref a), .val (.long j1), .second, .val (.long j2), .second, .val (.long j3), .second, .val (.long j4), .second, .val (.long j5), .second, .val (.long j6), .second, .val (.long j7), .second, .val (.long j8), .second] [(.long j5), (.ref a)]) := r16.trans fun z_ kt => by
    show own_S p e below T16 (mkF m 26 #[.val (.ref a), .val (.long j1), .second, .val (.long j2), .second, .val (.long j3), .second, .val (.long j4), .second, .val (.long j5), .second, .val (.long j6), .second, .val (.long j7), .second, .val (.long j8), .second] []) _
    refine XS.aloadN X16.here hx rfl (hb hby d1_26) rfl rfl ?_
    show own_S p e below T16 (mkF m 27 #[.val (.ref a), .val (.long j1), .second, .val (.long j2), .second, .val (.long j3), .second, .val (.long j4), .second, .val (.long j5), .second, .val (.long j6), .second, .val (.long j7), .second, .val (.long j8), .second] [(.ref a)]) _
    refine XS.lload X16.here hx rfl (hb hby d1_27) rfl ?_
    exact kt
  obtain ⟨T20, h20, X20, e20, W20, st20⟩ := putF X16 hx hZ hown (host := "") (Or.inl (hw _ (own_g (i := 18) rfl))) Via.refl e16 f17 f18 (Or.inr ⟨(hw _ (own_g (i := 19) rfl)), rfl, hnm⟩) (hw _ (own_g (i := 2) rfl)) (ty := .long) (v := (.long j5)) (by decide) rfl rfl (g := (mkF m 29 #[.val (.ref a), .val (.long j1), .second, .val (.long j2), .second, .val (.long j3), .second, .val (.long j4), .second, .val (.long j5), .second, .val (.long j6), .second, .val (.long j7), .second, .val (.long j8), .second] [(.long j5), (.ref a)])) rfl rfl (hb hby d1_29)
  have r20 : own_R p e below _ _ T20 (mkF m 32 #[.val (.ref a), .val (.long j1), .second, .val (.long j2), .second, .val (.long j3), .second, .val (.long j4), .second, .val (.long j5), .second, .val (.long j6), .second, .val (.long j7), .second, .val (.long j8), .second] []) := r19.trans fun z_ kt => st20 _ kt
  have N20 := Fr.snoc X20 N16 g_a
  have O20 := O16.wr W20 g_a
  have K20 := K16.wr W20 (Or.inl (List.mem_of_getElem? (i := 0) rfl))
  have F20 := f17.same W20
  have f21 := (((((F_a_renewals.other W4 (Or.inr (slot_ne (Or.inr (hw _ (own_g (i := 21) rfl))) (Or.inr (hw _ (own_g (i := 11) rfl))) (by decide) (t := .long) (t' := .long) (by decide) (by decide)))).other W8 (Or.inr (slot_ne (Or.inr (hw _ (own_g (i := 21) rfl))) (Or.inr (hw _ (own_g (i := 13) rfl))) (by decide) (t := .long) (t' := .long) (by decide) (by decide)))).other W12 (Or.inr (slot_ne (Or.inr (hw _ (own_g (i := 21) rfl))) (Or.inr (hw _ (own_g (i := 15) rfl))) (by decide) (t := .long) (t' := .long) (by decide) (by decide)))).other W16 (Or.inr (slot_ne (Or.inr (hw _ (own_g (i := 21) rfl))) (Or.inr (hw _ (own_g (i := 17) rfl))) (by decide) (t := .long) (t' := .long) (by decide) (by decide)))).other W20 (Or.inr (slot_ne (Or.inr (hw _ (own_g (i := 21) rfl))) (Or.inr (hw _ (own_g (i := 19) rfl))) (by decide) (t := .long) (t' := .long) (by decide) (by decide))))
  have f22 := (f18.wr W20)
  have r23 : own_R p e below _ _ T20 (mkF m 35 #[.val (.ref a), .val (.long j1), .second, .val (.long j2), .second, .val (.long j3), .second, .val (.long j4), .second, .val (.long j5), .second, .val (.long j6), .second, .val (.long j7), .second, .val (.long j8), .second] [(.long j6), (.ref a)]) := r20.trans fun z_ kt => by
    show own_S p e below T20 (mkF m 32 #[.val (.ref a), .val (.long j1), .second, .val (.long j2), .second, .val (.long j3), .second, .val (.long j4), .second, .val (.long j5), .second, .val (.long j6), .second, .val (.long j7), .second, .val (.long j8), .second] []) _
    refine XS.aloadN X20.here hx rfl (hb hby d1_32) rfl rfl ?_
    show own_S p e below T20 (mkF m 33 #[.val (.ref a), .val (.long j1), .second, .val (.long j2), .second, .val (.long j3), .second, .val (.long j4), .second, .val (.long j5), .second, .val (.long j6), .second, .val (.long j7), .second, .val (.long j8), .second] [(.ref a)]) _
    refine XS.lload X20.here hx rfl (hb hby d1_33) rfl ?_
    exact kt
  obtain ⟨T24, h24, X24, e24, W24, st24⟩ := putF X20 hx hZ hown (host := "") (Or.inl (hw _ (own_g (i := 20) rfl))) Via.refl e20 f21 f22 (Or.inr ⟨(hw _ (own_g (i := 21) rfl)), rfl, hnm⟩) (hw _ (own_g (i := 2) rfl)) (ty := .long) (v := (.long j6)) (by decide) rfl rfl (g := (mkF m 35 #[.val (.ref a), .val (.long j1), .second, .val (.long j2), .second, .val (.long j3), .second, .val (.long j4), .second, .val (.long j5), .second, .val (.long j6), .second, .val (.long j7), .second, .val (.long j8), .second] [(.long j6), (.ref a)])) rfl rfl (hb hby d1_35)
  have r24 : own_R p e below _ _ T24 (mkF m 38 #[.val (.ref a), .val (.long j1), .second, .val (.long j2), .second, .val (.long j3), .second, .val (.long j4), .second, .val (.long j5), .second, .val (.long j6), .second, .val (.long j7), .second, .val (.long j8), .second] []) := r23.trans fun z_ kt => st24 _ kt
  have N24 := Fr.snoc X24 N20 g_a
  have O24 := O20.wr W24 g_a
  have K24 := K20.wr W24 (Or.inl (List.mem_of_getElem? (i := 0) rfl))
  have F24 := f21.same W24
  have f25 := ((((((F_a_renewalFailures.other W4 (Or.inr (slot_ne (Or.inr (hw _ (own_g (i := 23) rfl))) (Or.inr (hw _ (own_g (i := 11) rfl))) (by decide) (t := .long) (t' := .long) (by decide) (by decide)))).other W8 (Or.inr (slot_ne (Or.inr (hw _ (own_g (i := 23) rfl))) (Or.inr (hw _ (own_g (i := 13) rfl))) (by decide) (t := .long) (t' := .long) (by decide) (by decide)))).other W12 (Or.inr (slot_ne (Or.inr (hw _ (own_g (i := 23) rfl))) (Or.inr (hw _ (own_g (i := 15) rfl))) (by decide) (t := .long) (t' := .long) (by decide) (by decide)))).other W16 (Or.inr (slot_ne (Or.inr (hw _ (own_g (i := 23) rfl))) (Or.inr (hw _ (own_g (i := 17) rfl))) (by decide) (t := .long) (t' := .long) (by decide) (by decide)))).other W20 (Or.inr (slot_ne (Or.inr (hw _ (own_g (i := 23) rfl))) (Or.inr (hw _ (own_g (i := 19) rfl))) (by decide) (t := .long) (t' := .long) (by decide) (by decide)))).other W24 (Or.inr (slot_ne (Or.inr (hw _ (own_g (i := 23) rfl))) (Or.inr (hw _ (own_g (i := 21) rfl))) (by decide) (t := .long) (t' := .long) (by decide) (by decide))))
  have f26 := (f22.wr W24)
  have r27 : own_R p e below _ _ T24 (mkF m 41 #[.val (.ref a), .val (.long j1), .second, .val (.long j2), .second, .val (.long j3), .second, .val (.long j4), .second, .val (.long j5), .second, .val (.long j6), .second, .val (.long j7), .second, .val (.long j8), .second] [(.long j7), (.ref a)]) := r24.trans fun z_ kt => by
    show own_S p e below T24 (mkF m 38 #[.val (.ref a), .val (.long j1), .second, .val (.long j2), .second, .val (.long j3), .second, .val (.long j4), .second, .val (.long j5), .second, .val (.long j6), .second, .val (.long j7), .second, .val (.long j8), .second] []) _
    refine XS.aloadN X24.here hx rfl (hb hby d1_38) rfl rfl ?_
    show own_S p e below T24 (mkF m 39 #[.val (.ref a), .val (.long j1), .second, .val (.long j2), .second, .val (.long j3), .second, .val (.long j4), .second, .val (.long j5), .second, .val (.long j6), .second, .val (.long j7), .second, .val (.long j8), .second] [(.ref a)]) _
    refine XS.lload X24.here hx rfl (hb hby d1_39) rfl ?_
    exact kt
  obtain ⟨T28, h28, X28, e28, W28, st28⟩ := putF X24 hx hZ hown (host := "") (Or.inl (hw _ (own_g (i := 22) rfl))) Via.refl e24 f25 f26 (Or.inr ⟨(hw _ (own_g (i := 23) rfl)), rfl, hnm⟩) (hw _ (own_g (i := 2) rfl)) (ty := .long) (v := (.long j7)) (by decide) rfl rfl (g := (mkF m 41 #[.val (.ref a), .val (.long j1), .second, .val (.long j2), .second, .val (.long j3), .second, .val (.long j4), .second, .val (.long j5), .second, .val (.long j6), .second, .val (.long j7), .second, .val (.long j8), .second] [(.long j7), (.ref a)])) rfl rfl (hb hby d1_41)
  have r28 : own_R p e below _ _ T28 (mkF m 44 #[.val (.ref a), .val (.long j1), .second, .val (.long j2), .second, .val (.long j3), .second, .val (.long j4), .second, .val (.long j5), .second, .val (.long j6), .second, .val (.long j7), .second, .val (.long j8), .second] []) := r27.trans fun z_ kt => st28 _ kt
  have N28 := Fr.snoc X28 N24 g_a
  have O28 := O24.wr W28 g_a
  have K28 := K24.wr W28 (Or.inl (List.mem_of_getElem? (i := 0) rfl))
  have F28 := f25.same W28
  have f29 := (((((((F_a_leasesLostWhileHeld.other W4 (Or.inr (slot_ne (Or.inr (hw _ (own_g (i := 25) rfl))) (Or.inr (hw _ (own_g (i := 11) rfl))) (by decide) (t := .long) (t' := .long) (by decide) (by decide)))).other W8 (Or.inr (slot_ne (Or.inr (hw _ (own_g (i := 25) rfl))) (Or.inr (hw _ (own_g (i := 13) rfl))) (by decide) (t := .long) (t' := .long) (by decide) (by decide)))).other W12 (Or.inr (slot_ne (Or.inr (hw _ (own_g (i := 25) rfl))) (Or.inr (hw _ (own_g (i := 15) rfl))) (by decide) (t := .long) (t' := .long) (by decide) (by decide)))).other W16 (Or.inr (slot_ne (Or.inr (hw _ (own_g (i := 25) rfl))) (Or.inr (hw _ (own_g (i := 17) rfl))) (by decide) (t := .long) (t' := .long) (by decide) (by decide)))).other W20 (Or.inr (slot_ne (Or.inr (hw _ (own_g (i := 25) rfl))) (Or.inr (hw _ (own_g (i := 19) rfl))) (by decide) (t := .long) (t' := .long) (by decide) (by decide)))).other W24 (Or.inr (slot_ne (Or.inr (hw _ (own_g (i := 25) rfl))) (Or.inr (hw _ (own_g (i := 21) rfl))) (by decide) (t := .long) (t' := .long) (by decide) (by decide)))).other W28 (Or.inr (slot_ne (Or.inr (hw _ (own_g (i := 25) rfl))) (Or.inr (hw _ (own_g (i := 23) rfl))) (by decide) (t := .long) (t' := .long) (by decide) (by decide))))
  have f30 := (f26.wr W28)
  have r31 : own_R p e below _ _ T28 (mkF m 47 #[.val (.ref a), .val (.long j1), .second, .val (.long j2), .second, .val (.long j3), .second, .val (.long j4), .second, .val (.long j5), .second, .val (.long j6), .second, .val (.long j7), .second, .val (.long j8), .second] [(.long j8), (.ref a)]) := r28.trans fun z_ kt => by
    show own_S p e below T28 (mkF m 44 #[.val (.ref a), .val (.long j1), .second, .val (.long j2), .second, .val (.long j3), .second, .val (.long j4), .second, .val (.long j5), .second, .val (.long j6), .second, .val (.long j7), .second, .val (.long j8), .second] []) _
    refine XS.aloadN X28.here hx rfl (hb hby d1_44) rfl rfl ?_
    show own_S p e below T28 (mkF m 45 #[.val (.ref a), .val (.long j1), .second, .val (.long j2), .second, .val (.long j3), .second, .val (.long j4), .second, .val (.long j5), .second, .val (.long j6), .second, .val (.long j7), .second, .val (.long j8), .second] [(.ref a)]) _
    refine XS.lload X28.here hx rfl (hb hby d1_45) rfl ?_
    exact kt
  obtain ⟨T32, h32, X32, e32, W32, st32⟩ := putF X28 hx hZ hown (host := "") (Or.inl (hw _ (own_g (i := 24) rfl))) Via.refl e28 f29 f30 (Or.inr ⟨(hw _ (own_g (i := 25) rfl)), rfl, hnm⟩) (hw _ (own_g (i := 2) rfl)) (ty := .long) (v := (.long j8)) (by decide) rfl rfl (g := (mkF m 47 #[.val (.ref a), .val (.long j1), .second, .val (.long j2), .second, .val (.long j3), .second, .val (.long j4), .second, .val (.long j5), .second, .val (.long j6), .second, .val (.long j7), .second, .val (.long j8), .second] [(.long j8), (.ref a)])) rfl rfl (hb hby d1_47)
  have r32 : own_R p e below _ _ T32 (mkF m 50 #[.val (.ref a), .val (.long j1), .second, .val (.long j2), .second, .val (.long j3), .second, .val (.long j4), .second, .val (.long j5), .second, .val (.long j6), .second, .val (.long j7), .second, .val (.long j8), .second] []) := r31.trans fun z_ kt => st32 _ kt
  have N32 := Fr.snoc X32 N28 g_a
  have O32 := O28.wr W32 g_a
  have K32 := K28.wr W32 (Or.inl (List.mem_of_getElem? (i := 0) rfl))
  have F32 := f29.same W32
  have f33 := (((((((F4.other W8 (Or.inr (slot_ne (Or.inr (hw _ (own_g (i := 11) rfl))) (Or.inr (hw _ (own_g (i := 13) rfl))) (by decide) (t := .long) (t' := .long) (by decide) (by decide)))).other W12 (Or.inr (slot_ne (Or.inr (hw _ (own_g (i := 11) rfl))) (Or.inr (hw _ (own_g (i := 15) rfl))) (by decide) (t := .long) (t' := .long) (by decide) (by decide)))).other W16 (Or.inr (slot_ne (Or.inr (hw _ (own_g (i := 11) rfl))) (Or.inr (hw _ (own_g (i := 17) rfl))) (by decide) (t := .long) (t' := .long) (by decide) (by decide)))).other W20 (Or.inr (slot_ne (Or.inr (hw _ (own_g (i := 11) rfl))) (Or.inr (hw _ (own_g (i := 19) rfl))) (by decide) (t := .long) (t' := .long) (by decide) (by decide)))).other W24 (Or.inr (slot_ne (Or.inr (hw _ (own_g (i := 11) rfl))) (Or.inr (hw _ (own_g (i := 21) rfl))) (by decide) (t := .long) (t' := .long) (by decide) (by decide)))).other W28 (Or.inr (slot_ne (Or.inr (hw _ (own_g (i := 11) rfl))) (Or.inr (hw _ (own_g (i := 23) rfl))) (by decide) (t := .long) (t' := .long) (by decide) (by decide)))).other W32 (Or.inr (slot_ne (Or.inr (hw _ (own_g (i := 11) rfl))) (Or.inr (hw _ (own_g (i := 25) rfl))) (by decide) (t := .long) (t' := .long) (by decide) (by decide))))
  have f34 := (((F20.other W24 (Or.inr (slot_ne (Or.inr (hw _ (own_g (i := 19) rfl))) (Or.inr (hw _ (own_g (i := 21) rfl))) (by decide) (t := .long) (t' := .long) (by decide) (by decide)))).other W28 (Or.inr (slot_ne (Or.inr (hw _ (own_g (i := 19) rfl))) (Or.inr (hw _ (own_g (i := 23) rfl))) (by decide) (t := .long) (t' := .long) (by decide) (by decide)))).other W32 (Or.inr (slot_ne (Or.inr (hw _ (own_g (i := 19) rfl))) (Or.inr (hw _ (own_g (i := 25) rfl))) (by decide) (t := .long) (t' := .long) (by decide) (by decide))))
  obtain ⟨fs, hr, hrun, hended, hW, hsame⟩ := X32.leave (v := none) (fun _ => rfl)
  refine ⟨_, _, pre0 _ (r32 _ ?_), hrun, hended, _, _, rfl, ?_, ⟨_, rfl⟩, hW, hsame.mono (by decide) (by decide)⟩
  · exact X32.returnOut hx Bd.returns (hb hby d1_50) hr
  · show Q_lmInit Z a j1 j2 j3 j4 j5 j6 j7 j8 u0 u1 u2 u3 u4 u5 u6 u7 h0 n0 _ T32.heap _
    rw [e32]
    exact ⟨rfl, N32, K32, f33, f34⟩

theorem d10_0 : decode jdk_2316_method_17_code 0 = .ok (.aload_n 0, 1) := by decide +kernel
theorem d10_1 : decode jdk_2316_method_17_code 1 = .ok (.invokespecial 218, 3) := by decide +kernel
theorem d10_4 : decode jdk_2316_method_17_code 4 = .ok (.aload_n 0, 1) := by decide +kernel
theorem d10_5 : decode jdk_2316_method_17_code 5 = .ok (.lload_n 1, 1) := by decide +kernel
theorem d10_6 : decode jdk_2316_method_17_code 6 = .ok (.putfield 221, 3) := by decide +kernel
theorem d10_9 : decode jdk_2316_method_17_code 9 = .ok (.aload_n 0, 1) := by decide +kernel
theorem d10_10 : decode jdk_2316_method_17_code 10 = .ok (.iload_n 3, 1) := by decide +kernel
theorem d10_11 : decode jdk_2316_method_17_code 11 = .ok (.putfield 224, 3) := by decide +kernel
theorem d10_14 : decode jdk_2316_method_17_code 14 = .ok (.return_, 1) := by decide +kernel
theorem pn_Duration : plainName "java/time/Duration" = true := by first | (simp [plainName, overriddenIn]; done) | decide +kernel
theorem ef_duInit (m : MethodId) (a : Addr) (js : Int64) (pn : Int32) : entryFrame m #[(.ref a), (.long js), (.int pn)] 4 = mkF m 0 #[.val (.ref a), .val (.long js), .second, .val (.int pn)] [] := by first | (simp [entryFrame, mkF, argsToLocals, Value.category]; done) | rfl
def Q_duInit (Z : State) (a : Addr) (js : Int64) (pn : Int32) (u1 : Value) (u2 : Value) (h0 : Heap) (n0 : Nat) (v : Option Value) (h : Heap) (L : List Loc) : Prop := v = none ∧ Fr n0 L ∧ Keep h0 h [a] ∧ (Fld Z h a "java/time/Duration" "seconds" "J" (.long js)) ∧ (Fld Z h a "java/time/Duration" "nanos" "I" (.int pn))
set_option maxRecDepth 65536 in
set_option maxHeartbeats 40000000 in
theorem rm_duInit (l : Launch) (Z : State) (a0 : Array Value) (hw : ∀ d ∈ tables_1, d.before a0 Z = true) (ws : List Jvm.Cond) (a : Addr) (js : Int64) (pn : Int32) (u1 : Value) (u2 : Value) (h0 : Heap) (n0 : Nat) (O0 : Old Z n0 h0) (E_a : Exa Z h0 a "java/time/Duration") (g_a : n0 ≤ a) (F_a_seconds : Fld Z h0 a "java/time/Duration" "seconds" "J" u1) (F_a_nanos : Fld Z h0 a "java/time/Duration" "nanos" "I" u2) :
    MetFree l (⟨"java/time/Duration", "<init>", "(JI)V"⟩ : MethodName) (head1 (Jvm.Cond.code (⟨"java/time/Duration", "<init>", "(JI)V"⟩ : MethodName) jdk_2316_method_17_code 4 none :: ws) ({ frames := 1, cells := 0, slots := 0, locals := 12 } : Room)) (fun aa_ U => aa_ = #[(.ref a), (.long js), (.int pn)] ∧ Z.Warmed39 U.vm ∧ U.heap = h0) (fun _ _ _ _ _ => True) (fun _ U o U' => ∃ v L, o = .returned v ∧ Q_duInit Z a js pn u1 u2 h0 n0 v U'.heap L ∧ FrameEnd U o U' L ({ frames := 1, cells := 0, slots := 0, locals := 12 } : Room).cells ({ frames := 1, cells := 0, slots := 0, locals := 12 } : Room).slots) := by
  refine MetFree.of_bodySF (plainFor_of_name pn_Duration) hisR ?_
  intro p e s m args below meth c s₁ Bd hml0 hP hK
  obtain ⟨rfl, hZ, hh⟩ := hP
  have hx := Bd.exec
  have hby := Bd.bytes
  have hml : c.maxLocals = 4 := hml0
  have hown : s.vm.findClass "java/time/Duration" = some m.cls := findClass_of_methodNamed Bd.named
  have hnm := (name_of_methodNamed Bd.named Bd.method).1
  have X0 : Stand p l e ({ frames := 1, cells := 0, slots := 0, locals := 12 } : Room) s m #[(.ref a), (.long js), (.int pn)] below meth c s₁ [] 0 0 := Stand.of_body Bd
  have e0 : s₁.heap = h0 := by rw [← hh, Bd.state]; rfl
  have N0 := Fr.nil n0
  have K0 : Keep h0 h0 [a] := Keep.refl h0 _
  have pre0 : ∀ t, Steps p.tables e below (s₁.setTop (mkF m 0 #[.val (.ref a), .val (.long js), .second, .val (.int pn)] [])) t → Steps p.tables e below (s₁.setTop (entryFrame m #[(.ref a), (.long js), (.int pn)] 4)) t := fun t k => castTop (ef_duInit m a js pn) k
  have r0 : own_R p e below s₁ (mkF m 0 #[.val (.ref a), .val (.long js), .second, .val (.int pn)] []) s₁ (mkF m 0 #[.val (.ref a), .val (.long js), .second, .val (.int pn)] []) := own_R.refl
  have r1 : own_R p e below _ _ s₁ (mkF m 1 #[.val (.ref a), .val (.long js), .second, .val (.int pn)] [(.ref a)]) := r0.trans fun z_ kt => by
    show own_S p e below s₁ (mkF m 0 #[.val (.ref a), .val (.long js), .second, .val (.int pn)] []) _
    refine XS.aloadN X0.here hx rfl (hb hby d10_0) rfl rfl ?_
    exact kt
  obtain ⟨T2, X2, e2, st2⟩ := initO X0 hx hZ hown (hw _ (own_g (i := 66) rfl)) (hw _ (own_g (i := 8) rfl)) (hw _ (own_g (i := 9) rfl)) e0 (g := (mkF m 1 #[.val (.ref a), .val (.long js), .second, .val (.int pn)] [(.ref a)])) rfl (by rw [hml]; rfl) rfl (hb hby d10_1) (by decide) (W := 0) (by show 2 * 0 + _ ≤ _; exact Nat.le_of_eq rfl) (by decide)
  have r2 : own_R p e below _ _ T2 (mkF m 4 #[.val (.ref a), .val (.long js), .second, .val (.int pn)] []) := r1.trans fun z_ kt => st2 _ kt
  have r3 : own_R p e below _ _ T2 (mkF m 6 #[.val (.ref a), .val (.long js), .second, .val (.int pn)] [(.long js), (.ref a)]) := r2.trans fun z_ kt => by
    show own_S p e below T2 (mkF m 4 #[.val (.ref a), .val (.long js), .second, .val (.int pn)] []) _
    refine XS.aloadN X2.here hx rfl (hb hby d10_4) rfl rfl ?_
    show own_S p e below T2 (mkF m 5 #[.val (.ref a), .val (.long js), .second, .val (.int pn)] [(.ref a)]) _
    refine XS.lloadN X2.here hx rfl (hb hby d10_5) rfl ?_
    exact kt
  obtain ⟨T4, h4, X4, e4, W4, st4⟩ := putF X2 hx hZ hown (host := "") (Or.inl (hw _ (own_g (i := 45) rfl))) Via.refl e2 F_a_seconds E_a (Or.inr ⟨(hw _ (own_g (i := 46) rfl)), rfl, hnm⟩) (hw _ (own_g (i := 61) rfl)) (ty := .long) (v := (.long js)) (by decide) rfl rfl (g := (mkF m 6 #[.val (.ref a), .val (.long js), .second, .val (.int pn)] [(.long js), (.ref a)])) rfl rfl (hb hby d10_6)
  have r4 : own_R p e below _ _ T4 (mkF m 9 #[.val (.ref a), .val (.long js), .second, .val (.int pn)] []) := r3.trans fun z_ kt => st4 _ kt
  have N4 := Fr.snoc X4 N0 g_a
  have O4 := O0.wr W4 g_a
  have K4 := K0.wr W4 (Or.inl (List.mem_of_getElem? (i := 0) rfl))
  have F4 := F_a_seconds.same W4
  have f5 := (F_a_nanos.other W4 (Or.inr (slot_ne (Or.inr (hw _ (own_g (i := 48) rfl))) (Or.inr (hw _ (own_g (i := 46) rfl))) (by decide) (t := .int) (t' := .long) (by decide) (by decide))))
  have f6 := (E_a.wr W4)
  have r7 : own_R p e below _ _ T4 (mkF m 11 #[.val (.ref a), .val (.long js), .second, .val (.int pn)] [(.int pn), (.ref a)]) := r4.trans fun z_ kt => by
    show own_S p e below T4 (mkF m 9 #[.val (.ref a), .val (.long js), .second, .val (.int pn)] []) _
    refine XS.aloadN X4.here hx rfl (hb hby d10_9) rfl rfl ?_
    show own_S p e below T4 (mkF m 10 #[.val (.ref a), .val (.long js), .second, .val (.int pn)] [(.ref a)]) _
    refine XS.iloadN X4.here hx rfl (hb hby d10_10) rfl ?_
    exact kt
  obtain ⟨T8, h8, X8, e8, W8, st8⟩ := putF X4 hx hZ hown (host := "") (Or.inl (hw _ (own_g (i := 47) rfl))) Via.refl e4 f5 f6 (Or.inr ⟨(hw _ (own_g (i := 48) rfl)), rfl, hnm⟩) (hw _ (own_g (i := 61) rfl)) (ty := .int) (v := (.int pn)) (by decide) rfl rfl (g := (mkF m 11 #[.val (.ref a), .val (.long js), .second, .val (.int pn)] [(.int pn), (.ref a)])) rfl rfl (hb hby d10_11)
  have r8 : own_R p e below _ _ T8 (mkF m 14 #[.val (.ref a), .val (.long js), .second, .val (.int pn)] []) := r7.trans fun z_ kt => st8 _ kt
  have N8 := Fr.snoc X8 N4 g_a
  have O8 := O4.wr W8 g_a
  have K8 := K4.wr W8 (Or.inl (List.mem_of_getElem? (i := 0) rfl))
  have F8 := f5.same W8
  have f9 := (F4.other W8 (Or.inr (slot_ne (Or.inr (hw _ (own_g (i := 46) rfl))) (Or.inr (hw _ (own_g (i := 48) rfl))) (by decide) (t := .long) (t' := .int) (by decide) (by decide))))
  obtain ⟨fs, hr, hrun, hended, hW, hsame⟩ := X8.leave (v := none) (fun _ => rfl)
  refine ⟨_, _, pre0 _ (r8 _ ?_), hrun, hended, _, _, rfl, ?_, ⟨_, rfl⟩, hW, hsame.mono (by decide) (by decide)⟩
  · exact X8.returnOut hx Bd.returns (hb hby d10_14) hr
  · show Q_duInit Z a js pn u1 u2 h0 n0 _ T8.heap _
    rw [e8]
    exact ⟨rfl, N8, K8, f9, F8⟩

theorem d5_0 : decode jdk_2316_method_16_code 0 = .ok (.lload_n 0, 1) := by decide +kernel
theorem d5_1 : decode jdk_2316_method_16_code 1 = .ok (.iload_n 2, 1) := by decide +kernel
theorem d5_2 : decode jdk_2316_method_16_code 2 = .ok (.i2l, 1) := by decide +kernel
theorem d5_3 : decode jdk_2316_method_16_code 3 = .ok (.lor, 1) := by decide +kernel
theorem d5_4 : decode jdk_2316_method_16_code 4 = .ok (.lconst 0, 1) := by decide +kernel
theorem d5_5 : decode jdk_2316_method_16_code 5 = .ok (.lcmp, 1) := by decide +kernel
theorem d5_6 : decode jdk_2316_method_16_code 6 = .ok (.ifCond .ne 7, 3) := by decide +kernel
theorem d5_9 : decode jdk_2316_method_16_code 9 = .ok (.getstatic 32, 3) := by decide +kernel
theorem d5_12 : decode jdk_2316_method_16_code 12 = .ok (.areturn, 1) := by decide +kernel
theorem d5_13 : decode jdk_2316_method_16_code 13 = .ok (.new 11, 3) := by decide +kernel
theorem d5_16 : decode jdk_2316_method_16_code 16 = .ok (.dup, 1) := by decide +kernel
theorem d5_17 : decode jdk_2316_method_16_code 17 = .ok (.lload_n 0, 1) := by decide +kernel
theorem d5_18 : decode jdk_2316_method_16_code 18 = .ok (.iload_n 2, 1) := by decide +kernel
theorem d5_19 : decode jdk_2316_method_16_code 19 = .ok (.invokespecial 215, 3) := by decide +kernel
theorem pd_0 : parseMethodDescriptor "(JI)V" = some ⟨[.long, .int], none⟩ := by decide +kernel
theorem d5_22 : decode jdk_2316_method_16_code 22 = .ok (.areturn, 1) := by decide +kernel
theorem ef_create (m : MethodId) (js : Int64) (pn : Int32) : entryFrame m #[(.long js), (.int pn)] 3 = mkF m 0 #[.val (.long js), .second, .val (.int pn)] [] := by first | (simp [entryFrame, mkF, argsToLocals, Value.category]; done) | rfl
def Q_create (Z : State) (js : Int64) (pn : Int32) (s_ZERO : Addr) (h0 : Heap) (n0 : Nat) (v : Option Value) (h : Heap) (L : List Loc) : Prop := ∃ (b : Addr), v = some (.ref b) ∧ Fr n0 L ∧ Keep h0 h [] ∧ (Exa Z h b "java/time/Duration") ∧ (Fld Z h b "java/time/Duration" "seconds" "J" (.long js)) ∧ (Fld Z h b "java/time/Duration" "nanos" "I" (.int pn))
set_option maxRecDepth 65536 in
set_option maxHeartbeats 40000000 in
theorem rm_create (l : Launch) (Z : State) (a0 : Array Value) (hw : ∀ d ∈ tables_1, d.before a0 Z = true) (ws : List Jvm.Cond) (js : Int64) (pn : Int32) (s_ZERO : Addr) (h0 : Heap) (n0 : Nat) (O0 : Old Z n0 h0) (S_Duration_ZERO : Sta Z Z.heap "java/time/Duration" "ZERO" "Ljava/time/Duration;" (.ref s_ZERO)) (OE_s_ZERO : Exa Z Z.heap s_ZERO "java/time/Duration") (OF_s_ZERO_seconds : Fld Z Z.heap s_ZERO "java/time/Duration" "seconds" "J" (.long (0 : Int64))) (OF_s_ZERO_nanos : Fld Z Z.heap s_ZERO "java/time/Duration" "nanos" "I" (.int (0 : Int32))) :
    MetFree l (⟨"java/time/Duration", "create", "(JI)Ljava/time/Duration;"⟩ : MethodName) (head1 (Jvm.Cond.code (⟨"java/time/Duration", "create", "(JI)Ljava/time/Duration;"⟩ : MethodName) jdk_2316_method_16_code 3 (some (.object "java/time/Duration")) :: ws) ({ frames := 2, cells := 1, slots := 2, locals := 28 } : Room)) (fun aa_ U => aa_ = #[(.long js), (.int pn)] ∧ Z.Warmed39 U.vm ∧ U.heap = h0) (fun _ _ _ _ _ => True) (fun _ U o U' => ∃ v L, o = .returned v ∧ Q_create Z js pn s_ZERO h0 n0 v U'.heap L ∧ FrameEnd U o U' L ({ frames := 2, cells := 1, slots := 2, locals := 28 } : Room).cells ({ frames := 2, cells := 1, slots := 2, locals := 28 } : Room).slots) := by
  refine MetFree.of_bodySF (plainFor_of_name pn_Duration) hisR ?_
  intro p e s m args below meth c s₁ Bd hml0 hP hK
  obtain ⟨rfl, hZ, hh⟩ := hP
  have hx := Bd.exec
  have hby := Bd.bytes
  have hml : c.maxLocals = 3 := hml0
  have hown : s.vm.findClass "java/time/Duration" = some m.cls := findClass_of_methodNamed Bd.named
  have hnm := (name_of_methodNamed Bd.named Bd.method).1
  have X0 : Stand p l e ({ frames := 2, cells := 1, slots := 2, locals := 28 } : Room) s m #[(.long js), (.int pn)] below meth c s₁ [] 0 0 := Stand.of_body Bd
  have e0 : s₁.heap = h0 := by rw [← hh, Bd.state]; rfl
  have N0 := Fr.nil n0
  have K0 : Keep h0 h0 [] := Keep.refl h0 _
  have pre0 : ∀ t, Steps p.tables e below (s₁.setTop (mkF m 0 #[.val (.long js), .second, .val (.int pn)] [])) t → Steps p.tables e below (s₁.setTop (entryFrame m #[(.long js), (.int pn)] 3)) t := fun t k => castTop (ef_create m js pn) k
  have r0 : own_R p e below s₁ (mkF m 0 #[.val (.long js), .second, .val (.int pn)] []) s₁ (mkF m 0 #[.val (.long js), .second, .val (.int pn)] []) := own_R.refl
  have r1 : own_R p e below _ _ s₁ (mkF m 6 #[.val (.long js), .second, .val (.int pn)] [(.int (lcmpW (js ||| (pn.toInt64)) (0 : Int64)))]) := r0.trans fun z_ kt => by
    show own_S p e below s₁ (mkF m 0 #[.val (.long js), .second, .val (.int pn)] []) _
    refine XS.lloadN X0.here hx rfl (hb hby d5_0) rfl ?_
    show own_S p e below s₁ (mkF m 1 #[.val (.long js), .second, .val (.int pn)] [(.long js)]) _
    refine XS.iloadN X0.here hx rfl (hb hby d5_1) rfl ?_
    show own_S p e below s₁ (mkF m 2 #[.val (.long js), .second, .val (.int pn)] [(.int pn), (.long js)]) _
    refine XS.i2l X0.here hx rfl (hb hby d5_2) rfl ?_
    show own_S p e below s₁ (mkF m 3 #[.val (.long js), .second, .val (.int pn)] [(.long (pn.toInt64)), (.long js)]) _
    refine XS.lor X0.here hx rfl (hb hby d5_3) rfl ?_
    show own_S p e below s₁ (mkF m 4 #[.val (.long js), .second, .val (.int pn)] [(.long (js ||| (pn.toInt64)))]) _
    refine XS.lconst X0.here hx rfl (hb hby d5_4) ?_
    show own_S p e below s₁ (mkF m 5 #[.val (.long js), .second, .val (.int pn)] [(.long (0 : Int64)), (.long (js ||| (pn.toInt64)))]) _
    refine XS.lcmp X0.here hx rfl (hb hby d5_5) rfl ?_
    exact kt
  by_cases hc6_2 : (lcmpW (js ||| (pn.toInt64)) (0 : Int64)) = (0 : Int32)
  · skip
    have r3 : own_R p e below _ _ s₁ (mkF m 9 #[.val (.long js), .second, .val (.int pn)] []) := r1.trans fun z_ kt => by
      show own_S p e below s₁ (mkF m 6 #[.val (.long js), .second, .val (.int pn)] [(.int (lcmpW (js ||| (pn.toInt64)) (0 : Int64)))]) _
      refine XS.ifNo X0.here hx rfl (hb hby d5_6) rfl ((if0 _ _).trans (teq (hc6_2 : (lcmpW (js ||| (pn.toInt64)) (0 : Int64)) = (0 : Int32))).2) ?_
      exact kt
    obtain ⟨T4, X4, e4, st4⟩ := getS2 X0 hx hZ hown (host := "") (Or.inl (hw _ (own_g (i := 39) rfl))) Via.refl e0 (S_Duration_ZERO.ext O0.2) (g := (mkF m 9 #[.val (.long js), .second, .val (.int pn)] [])) rfl (hb hby d5_9)
    have r4 : own_R p e below _ _ T4 (mkF m 12 #[.val (.long js), .second, .val (.int pn)] [(.ref s_ZERO)]) := r3.trans fun z_ kt => st4 _ kt
    obtain ⟨z1, z2⟩ := own_or0 hc6_2
    obtain ⟨fs, hr, hrun, hended, hW, hsame⟩ := X4.leave (v := some (.ref s_ZERO)) (fun h => by rw [Bd.returns] at h; cases h)
    refine ⟨_, _, pre0 _ (r4 _ ?_), hrun, hended, _, _, rfl, ?_, ⟨_, rfl⟩, hW, hsame.mono (by decide) (by decide)⟩
    · exact retOut X4 hx Bd.returns rfl (Or.inr (Or.inr (Or.inr (Or.inr ⟨rfl, rfl, rfl⟩)))) (hb hby d5_12) hr
    · show Q_create Z js pn s_ZERO h0 n0 _ T4.heap _
      rw [e4]
      exact ⟨s_ZERO, rfl, N0, K0, (OE_s_ZERO.ext O0.2), (by rw [z1]; exact (OF_s_ZERO_seconds.ext O0.2)), (by rw [z2]; exact (OF_s_ZERO_nanos.ext O0.2))⟩
  · skip
    have r5 : own_R p e below _ _ s₁ (mkF m 13 #[.val (.long js), .second, .val (.int pn)] []) := r1.trans fun z_ kt => by
      show own_S p e below s₁ (mkF m 6 #[.val (.long js), .second, .val (.int pn)] [(.int (lcmpW (js ||| (pn.toInt64)) (0 : Int64)))]) _
      refine XS.ifYes X0.here hx rfl (pc0 := 6) (pc' := 13) rfl (hb hby d5_6) rfl ((if0 _ _).trans (feq (hc6_2 : ¬ ((lcmpW (js ||| (pn.toInt64)) (0 : Int64)) = (0 : Int32)))).2) (by decide) (by decide) ?_
      exact kt
    obtain ⟨T6, h6, X6, e6, E6, A6, D6, -, st6⟩ := newO X0 hx hZ hown (hw _ (own_g (i := 60) rfl)) (hw _ (own_g (i := 61) rfl)) (hw _ (own_g (i := 33) rfl)) e0 (g := (mkF m 13 #[.val (.long js), .second, .val (.int pn)] [])) rfl (hb hby d5_13) (by decide) (by decide)
    obtain ⟨b6, g6⟩ : ∃ z, z = h0.size := ⟨_, rfl⟩
    rw [← g6] at A6 D6 st6
    have r6 : own_R p e below _ _ T6 (mkF m 16 #[.val (.long js), .second, .val (.int pn)] [(.ref b6)]) := r5.trans fun z_ kt => st6 _ kt
    have g_b6 : n0 ≤ b6 := Nat.le_trans (own_old_size O0) (Nat.le_of_eq g6.symm)
    have sz_b6 : h0.size ≤ b6 := Nat.le_trans K0.1 (Nat.le_of_eq g6.symm)
    have O6 := O0.ext E6
    have K6 := K0.ext E6
    have F6_46 := D6 (Or.inr (hw _ (own_g (i := 46) rfl))) (ty := .long) (by decide)
    have F6_48 := D6 (Or.inr (hw _ (own_g (i := 48) rfl))) (ty := .int) (by decide)
    have r7 : own_R p e below _ _ T6 (mkF m 19 #[.val (.long js), .second, .val (.int pn)] [(.int pn), (.long js), (.ref b6), (.ref b6)]) := r6.trans fun z_ kt => by
      show own_S p e below T6 (mkF m 16 #[.val (.long js), .second, .val (.int pn)] [(.ref b6)]) _
      refine XS.dup X6.here hx rfl (hb hby d5_16) rfl rfl ?_
      show own_S p e below T6 (mkF m 17 #[.val (.long js), .second, .val (.int pn)] [(.ref b6), (.ref b6)]) _
      refine XS.lloadN X6.here hx rfl (hb hby d5_17) rfl ?_
      show own_S p e below T6 (mkF m 18 #[.val (.long js), .second, .val (.int pn)] [(.long js), (.ref b6), (.ref b6)]) _
      refine XS.iloadN X6.here hx rfl (hb hby d5_18) rfl ?_
      exact kt
    obtain ⟨_, _, ⟨T8, L8, cc8, n8⟩, -, X8, ⟨Lc8, hQ8, l8, y8, z8⟩, st8⟩ := X6.specialBack hx (y := (⟨"java/time/Duration", "<init>", "(JI)V"⟩ : MethodName)) rfl hown (mvT hZ (hw _ (own_g (i := 62) rfl))) (mvT hZ (hw _ (own_g (i := 63) rfl))) (mvT hZ (hw _ (own_g (i := 65) rfl))) (by decide) (backOf (W := 1) (rm_duInit l Z a0 hw [] (b6) (js) (pn) ((.long (0 : Int64))) ((.int (0 : Int32))) h6 n0 O6 (A6) (g_b6) (F6_46) (F6_48)) hZ (hw _ (own_g (i := 65) rfl)) (hw _ (own_g (i := 33) rfl)) (by decide) (by decide)) (g := (mkF m 19 #[.val (.long js), .second, .val (.int pn)] [(.int pn), (.long js), (.ref b6), (.ref b6)])) rfl (by rw [hml]; rfl) (Steps.refl _) (a := b6) (argsL := [(.long js), (.int pn)]) (rest := [(.ref b6)]) (lenOf pd_0 rfl) rfl (by show 2 * 0 + _ ≤ _; exact Nat.le_of_eq rfl) (hb hby d5_19) (fun _ _ => ⟨rfl, e6, (by decide : 1 + 0 ≤ _), (by decide : 2 + 0 ≤ _)⟩)
    dsimp only [Pt.U, Pt.locs, Pt.cells, Pt.slots] at X8 l8 y8 z8 st8 hQ8
    subst l8 y8 z8
    obtain ⟨h8, e8⟩ : ∃ z, T8.heap = z := ⟨_, rfl⟩
    rw [e8] at hQ8
    obtain ⟨rfl, Nq8, Kq8, p8_0, p8_1⟩ := hQ8
    have N8 := Fr.app N0 Nq8
    have r8 : own_R p e below _ _ T8 (mkF m 22 #[.val (.long js), .second, .val (.int pn)] [(.ref b6)]) := r7.trans fun z_ kt => st8.trans kt
    have O8 := O6.keep Kq8 (allS g_b6 all0)
    have K8 := K6.trans Kq8 (allS (Or.inr sz_b6) all0)
    have f9 := (A6.keep Kq8)
    obtain ⟨fs, hr, hrun, hended, hW, hsame⟩ := X8.leave (v := some (.ref b6)) (fun h => by rw [Bd.returns] at h; cases h)
    refine ⟨_, _, pre0 _ (r8 _ ?_), hrun, hended, _, _, rfl, ?_, ⟨_, rfl⟩, hW, hsame.mono (by decide) (by decide)⟩
    · exact retOut X8 hx Bd.returns rfl (Or.inr (Or.inr (Or.inr (Or.inr ⟨rfl, rfl, rfl⟩)))) (hb hby d5_22) hr
    · show Q_create Z js pn s_ZERO h0 n0 _ T8.heap _
      rw [e8]
      exact ⟨b6, rfl, N8, K8, f9, p8_0, p8_1⟩

theorem d4_0 : decode jdk_2316_method_7_code 0 = .ok (.lload_n 0, 1) := by decide +kernel
theorem d4_1 : decode jdk_2316_method_7_code 1 = .ok (.ldc2_w 16, 3) := by decide +kernel
theorem d4_4 : decode jdk_2316_method_7_code 4 = .ok (.ldiv, 1) := by decide +kernel
theorem d4_5 : decode jdk_2316_method_7_code 5 = .ok (.lstore_n 2, 1) := by decide +kernel
theorem d4_6 : decode jdk_2316_method_7_code 6 = .ok (.lload_n 0, 1) := by decide +kernel
theorem d4_7 : decode jdk_2316_method_7_code 7 = .ok (.ldc2_w 16, 3) := by decide +kernel
theorem d4_10 : decode jdk_2316_method_7_code 10 = .ok (.lrem, 1) := by decide +kernel
theorem d4_11 : decode jdk_2316_method_7_code 11 = .ok (.l2i, 1) := by decide +kernel
theorem d4_12 : decode jdk_2316_method_7_code 12 = .ok (.istore 4, 2) := by decide +kernel
theorem d4_14 : decode jdk_2316_method_7_code 14 = .ok (.iload 4, 2) := by decide +kernel
theorem d4_16 : decode jdk_2316_method_7_code 16 = .ok (.ifCond .ge 14, 3) := by decide +kernel
theorem d4_30 : decode jdk_2316_method_7_code 30 = .ok (.lload_n 2, 1) := by decide +kernel
theorem d4_31 : decode jdk_2316_method_7_code 31 = .ok (.iload 4, 2) := by decide +kernel
theorem d4_33 : decode jdk_2316_method_7_code 33 = .ok (.invokestatic 10, 3) := by decide +kernel
theorem pd_1 : parseMethodDescriptor "(JI)Ljava/time/Duration;" = some ⟨[.long, .int], some (.object "java/time/Duration")⟩ := by decide +kernel
theorem d4_36 : decode jdk_2316_method_7_code 36 = .ok (.areturn, 1) := by decide +kernel
theorem ef_ofNanos (m : MethodId) (jn : Int64) : entryFrame m #[(.long jn)] 5 = mkF m 0 #[.val (.long jn), .second, .unset, .unset, .unset] [] := by first | (simp [entryFrame, mkF, argsToLocals, Value.category]; done) | rfl
def Q_ofNanos (Z : State) (jn : Int64) (s_ZERO : Addr) (h0 : Heap) (n0 : Nat) (v : Option Value) (h : Heap) (L : List Loc) : Prop := ∃ (b : Addr), v = some (.ref b) ∧ Fr n0 L ∧ Keep h0 h [] ∧ (Exa Z h b "java/time/Duration") ∧ (Fld Z h b "java/time/Duration" "seconds" "J" (.long (jn / (1000000000 : Int64)))) ∧ (Fld Z h b "java/time/Duration" "nanos" "I" (.int ((jn - (jn / (1000000000 : Int64)) * (1000000000 : Int64)).toInt32)))
set_option maxRecDepth 65536 in
set_option maxHeartbeats 40000000 in
theorem rm_ofNanos (l : Launch) (Z : State) (a0 : Array Value) (hw : ∀ d ∈ tables_1, d.before a0 Z = true) (ws : List Jvm.Cond) (jn : Int64) (s_ZERO : Addr) (h0 : Heap) (n0 : Nat) (O0 : Old Z n0 h0) (S_Duration_ZERO : Sta Z Z.heap "java/time/Duration" "ZERO" "Ljava/time/Duration;" (.ref s_ZERO)) (OE_s_ZERO : Exa Z Z.heap s_ZERO "java/time/Duration") (OF_s_ZERO_seconds : Fld Z Z.heap s_ZERO "java/time/Duration" "seconds" "J" (.long (0 : Int64))) (OF_s_ZERO_nanos : Fld Z Z.heap s_ZERO "java/time/Duration" "nanos" "I" (.int (0 : Int32))) (hjn : 0 ≤ jn.toInt) :
    MetFree l (⟨"java/time/Duration", "ofNanos", "(J)Ljava/time/Duration;"⟩ : MethodName) (head1 (Jvm.Cond.code (⟨"java/time/Duration", "ofNanos", "(J)Ljava/time/Duration;"⟩ : MethodName) jdk_2316_method_7_code 5 (some (.object "java/time/Duration")) :: ws) ({ frames := 3, cells := 1, slots := 2, locals := 42 } : Room)) (fun aa_ U => aa_ = #[(.long jn)] ∧ Z.Warmed39 U.vm ∧ U.heap = h0) (fun _ _ _ _ _ => True) (fun _ U o U' => ∃ v L, o = .returned v ∧ Q_ofNanos Z jn s_ZERO h0 n0 v U'.heap L ∧ FrameEnd U o U' L ({ frames := 3, cells := 1, slots := 2, locals := 42 } : Room).cells ({ frames := 3, cells := 1, slots := 2, locals := 42 } : Room).slots) := by
  refine MetFree.of_bodySF (plainFor_of_name pn_Duration) hisR ?_
  intro p e s m args below meth c s₁ Bd hml0 hP hK
  obtain ⟨rfl, hZ, hh⟩ := hP
  have hx := Bd.exec
  have hby := Bd.bytes
  have hml : c.maxLocals = 5 := hml0
  have hown : s.vm.findClass "java/time/Duration" = some m.cls := findClass_of_methodNamed Bd.named
  have hnm := (name_of_methodNamed Bd.named Bd.method).1
  have X0 : Stand p l e ({ frames := 3, cells := 1, slots := 2, locals := 42 } : Room) s m #[(.long jn)] below meth c s₁ [] 0 0 := Stand.of_body Bd
  have e0 : s₁.heap = h0 := by rw [← hh, Bd.state]; rfl
  have N0 := Fr.nil n0
  have K0 : Keep h0 h0 [] := Keep.refl h0 _
  have pre0 : ∀ t, Steps p.tables e below (s₁.setTop (mkF m 0 #[.val (.long jn), .second, .unset, .unset, .unset] [])) t → Steps p.tables e below (s₁.setTop (entryFrame m #[(.long jn)] 5)) t := fun t k => castTop (ef_ofNanos m jn) k
  have r0 : own_R p e below s₁ (mkF m 0 #[.val (.long jn), .second, .unset, .unset, .unset] []) s₁ (mkF m 0 #[.val (.long jn), .second, .unset, .unset, .unset] []) := own_R.refl
  have r1 : own_R p e below _ _ s₁ (mkF m 33 #[.val (.long jn), .second, .val (.long (jn / (1000000000 : Int64))), .second, .val (.int ((jn - (jn / (1000000000 : Int64)) * (1000000000 : Int64)).toInt32))] [(.int ((jn - (jn / (1000000000 : Int64)) * (1000000000 : Int64)).toInt32)), (.long (jn / (1000000000 : Int64)))]) := r0.trans fun z_ kt => by
    show own_S p e below s₁ (mkF m 0 #[.val (.long jn), .second, .unset, .unset, .unset] []) _
    refine XS.lloadN X0.here hx rfl (hb hby d4_0) rfl ?_
    show own_S p e below s₁ (mkF m 1 #[.val (.long jn), .second, .unset, .unset, .unset] [(.long jn)]) _
    refine X0.ldc2Long hx hown (mvT hZ (hw _ (own_g (i := 35) rfl))) (g := (mkF m 1 #[.val (.long jn), .second, .unset, .unset, .unset] [(.long jn)])) rfl (hb hby d4_1) _ ?_
    show own_S p e below s₁ (mkF m 4 #[.val (.long jn), .second, .unset, .unset, .unset] [(.long (1000000000 : Int64)), (.long jn)]) _
    refine XS.ldiv X0.here hx rfl (hb hby d4_4) rfl (by decide) ?_
    show own_S p e below s₁ (mkF m 5 #[.val (.long jn), .second, .unset, .unset, .unset] [(.long (jn / (1000000000 : Int64)))]) _
    refine XS.lstoreN X0.here hx rfl (hb hby d4_5) rfl (l' := #[.val (.long jn), .second, .val (.long (jn / (1000000000 : Int64))), .second, .unset]) rfl ?_
    show own_S p e below s₁ (mkF m 6 #[.val (.long jn), .second, .val (.long (jn / (1000000000 : Int64))), .second, .unset] []) _
    refine XS.lloadN X0.here hx rfl (hb hby d4_6) rfl ?_
    show own_S p e below s₁ (mkF m 7 #[.val (.long jn), .second, .val (.long (jn / (1000000000 : Int64))), .second, .unset] [(.long jn)]) _
    refine X0.ldc2Long hx hown (mvT hZ (hw _ (own_g (i := 35) rfl))) (g := (mkF m 7 #[.val (.long jn), .second, .val (.long (jn / (1000000000 : Int64))), .second, .unset] [(.long jn)])) rfl (hb hby d4_7) _ ?_
    show own_S p e below s₁ (mkF m 10 #[.val (.long jn), .second, .val (.long (jn / (1000000000 : Int64))), .second, .unset] [(.long (1000000000 : Int64)), (.long jn)]) _
    refine XS.lrem X0.here hx rfl (hb hby d4_10) rfl (by decide) ?_
    show own_S p e below s₁ (mkF m 11 #[.val (.long jn), .second, .val (.long (jn / (1000000000 : Int64))), .second, .unset] [(.long (jn - (jn / (1000000000 : Int64)) * (1000000000 : Int64)))]) _
    refine XS.l2i X0.here hx rfl (hb hby d4_11) rfl ?_
    show own_S p e below s₁ (mkF m 12 #[.val (.long jn), .second, .val (.long (jn / (1000000000 : Int64))), .second, .unset] [(.int ((jn - (jn / (1000000000 : Int64)) * (1000000000 : Int64)).toInt32))]) _
    refine XS.istore X0.here hx rfl (hb hby d4_12) rfl (l' := #[.val (.long jn), .second, .val (.long (jn / (1000000000 : Int64))), .second, .val (.int ((jn - (jn / (1000000000 : Int64)) * (1000000000 : Int64)).toInt32))]) rfl ?_
    show own_S p e below s₁ (mkF m 14 #[.val (.long jn), .second, .val (.long (jn / (1000000000 : Int64))), .second, .val (.int ((jn - (jn / (1000000000 : Int64)) * (1000000000 : Int64)).toInt32))] []) _
    refine XS.iload X0.here hx rfl (hb hby d4_14) rfl ?_
    show own_S p e below s₁ (mkF m 16 #[.val (.long jn), .second, .val (.long (jn / (1000000000 : Int64))), .second, .val (.int ((jn - (jn / (1000000000 : Int64)) * (1000000000 : Int64)).toInt32))] [(.int ((jn - (jn / (1000000000 : Int64)) * (1000000000 : Int64)).toInt32))]) _
    refine XS.ifYes X0.here hx rfl (pc0 := 16) (pc' := 30) rfl (hb hby d4_16) rfl ((if0 _ _).trans (flt (own_rem_nn hjn : ¬ (((jn - (jn / (1000000000 : Int64)) * (1000000000 : Int64)).toInt32) < (0 : Int32)))).2.1) (by decide) (by decide) ?_
    show own_S p e below s₁ (mkF m 30 #[.val (.long jn), .second, .val (.long (jn / (1000000000 : Int64))), .second, .val (.int ((jn - (jn / (1000000000 : Int64)) * (1000000000 : Int64)).toInt32))] []) _
    refine XS.lloadN X0.here hx rfl (hb hby d4_30) rfl ?_
    show own_S p e below s₁ (mkF m 31 #[.val (.long jn), .second, .val (.long (jn / (1000000000 : Int64))), .second, .val (.int ((jn - (jn / (1000000000 : Int64)) * (1000000000 : Int64)).toInt32))] [(.long (jn / (1000000000 : Int64)))]) _
    refine XS.iload X0.here hx rfl (hb hby d4_31) rfl ?_
    exact kt
  obtain ⟨_, _, ⟨T2, L2, cc2, n2⟩, -, X2, ⟨Lc2, hQ2, l2, y2, z2⟩, st2⟩ := Jvm.LawKit.callS X0 hx (y := (⟨"java/time/Duration", "create", "(JI)Ljava/time/Duration;"⟩ : MethodName)) hown (mvT hZ (hw _ (own_g (i := 36) rfl))) (mvT hZ (hw _ (own_g (i := 37) rfl))) (mvT hZ (hw _ (own_g (i := 33) rfl))) (mvT hZ (hw _ (own_g (i := 38) rfl))) (by decide) (backOf (W := 0) (rm_create l Z a0 hw [] ((jn / (1000000000 : Int64))) (((jn - (jn / (1000000000 : Int64)) * (1000000000 : Int64)).toInt32)) (s_ZERO) h0 n0 O0 (S_Duration_ZERO) (OE_s_ZERO) (OF_s_ZERO_seconds) (OF_s_ZERO_nanos)) hZ (hw _ (own_g (i := 38) rfl)) (hw _ (own_g (i := 33) rfl)) (by decide) (by decide)) (g := (mkF m 33 #[.val (.long jn), .second, .val (.long (jn / (1000000000 : Int64))), .second, .val (.int ((jn - (jn / (1000000000 : Int64)) * (1000000000 : Int64)).toInt32))] [(.int ((jn - (jn / (1000000000 : Int64)) * (1000000000 : Int64)).toInt32)), (.long (jn / (1000000000 : Int64)))])) rfl (by rw [hml]; rfl) (argsL := [(.long (jn / (1000000000 : Int64))), (.int ((jn - (jn / (1000000000 : Int64)) * (1000000000 : Int64)).toInt32))]) (rest := []) (lenOf pd_1 rfl) rfl (by show 2 * 0 + _ ≤ _; exact Nat.le_of_eq rfl) (hb hby d4_33) (fun _ _ => ⟨rfl, e0, (by decide : 0 + 1 ≤ _), (by decide : 0 + 2 ≤ _)⟩)
  dsimp only [Pt.U, Pt.locs, Pt.cells, Pt.slots] at X2 l2 y2 z2 st2 hQ2
  subst l2 y2 z2
  obtain ⟨h2, e2⟩ : ∃ z, T2.heap = z := ⟨_, rfl⟩
  rw [e2] at hQ2
  obtain ⟨b_2, rfl, Nq2, Kq2, p2_0, p2_1, p2_2⟩ := hQ2
  have N2 := Fr.app N0 Nq2
  have r2 : own_R p e below _ _ T2 (mkF m 36 #[.val (.long jn), .second, .val (.long (jn / (1000000000 : Int64))), .second, .val (.int ((jn - (jn / (1000000000 : Int64)) * (1000000000 : Int64)).toInt32))] [(.ref b_2)]) := r1.trans fun z_ kt => st2 _ kt
  have O2 := O0.keep Kq2 all0
  have K2 := K0.trans Kq2 all0
  obtain ⟨fs, hr, hrun, hended, hW, hsame⟩ := X2.leave (v := some (.ref b_2)) (fun h => by rw [Bd.returns] at h; cases h)
  refine ⟨_, _, pre0 _ (r2 _ ?_), hrun, hended, _, _, rfl, ?_, ⟨_, rfl⟩, hW, hsame.mono (by decide) (by decide)⟩
  · exact retOut X2 hx Bd.returns rfl (Or.inr (Or.inr (Or.inr (Or.inr ⟨rfl, rfl, rfl⟩)))) (hb hby d4_36) hr
  · show Q_ofNanos Z jn s_ZERO h0 n0 _ T2.heap _
    rw [e2]
    exact ⟨b_2, rfl, N2, K2, p2_0, p2_1, p2_2⟩

theorem d8_0 : decode jdk_29_method_61_code 0 = .ok (.lload_n 0, 1) := by decide +kernel
theorem d8_1 : decode jdk_29_method_61_code 1 = .ok (.lconst 0, 1) := by decide +kernel
theorem d8_2 : decode jdk_29_method_61_code 2 = .ok (.lcmp, 1) := by decide +kernel
theorem d8_3 : decode jdk_29_method_61_code 3 = .ok (.ifCond .ge 8, 3) := by decide +kernel
theorem d8_11 : decode jdk_29_method_61_code 11 = .ok (.lload_n 0, 1) := by decide +kernel
theorem d8_12 : decode jdk_29_method_61_code 12 = .ok (.lreturn, 1) := by decide +kernel
theorem ef_abs (m : MethodId) (jx : Int64) : entryFrame m #[(.long jx)] 2 = mkF m 0 #[.val (.long jx), .second] [] := by first | (simp [entryFrame, mkF, argsToLocals, Value.category]; done) | rfl
def Q_abs (Z : State) (jx : Int64) (h0 : Heap) (n0 : Nat) (v : Option Value) (h : Heap) (L : List Loc) : Prop := v = some (.long jx) ∧ Fr n0 L ∧ h = h0
set_option maxRecDepth 65536 in
set_option maxHeartbeats 40000000 in
theorem rm_abs (l : Launch) (Z : State) (a0 : Array Value) (hw : ∀ d ∈ tables_1, d.before a0 Z = true) (ws : List Jvm.Cond) (jx : Int64) (h0 : Heap) (n0 : Nat) (O0 : Old Z n0 h0) (hjx : 0 ≤ jx.toInt) :
    MetFree l (⟨"java/lang/Math", "abs", "(J)J"⟩ : MethodName) (head1 (Jvm.Cond.code (⟨"java/lang/Math", "abs", "(J)J"⟩ : MethodName) jdk_29_method_61_code 2 (some .long) :: ws) ({ frames := 0, cells := 0, slots := 0, locals := 0 } : Room)) (fun aa_ U => aa_ = #[(.long jx)] ∧ Z.Warmed39 U.vm ∧ U.heap = h0) (fun _ _ _ _ _ => True) (fun _ U o U' => ∃ v L, o = .returned v ∧ Q_abs Z jx h0 n0 v U'.heap L ∧ FrameEnd U o U' L ({ frames := 0, cells := 0, slots := 0, locals := 0 } : Room).cells ({ frames := 0, cells := 0, slots := 0, locals := 0 } : Room).slots) := by
  refine MetFree.of_bodySF (Jvm.Free.JP.mathPlain rfl (by decide +kernel)) hisR ?_
  intro p e s m args below meth c s₁ Bd hml0 hP hK
  obtain ⟨rfl, hZ, hh⟩ := hP
  have hx := Bd.exec
  have hby := Bd.bytes
  have hml : c.maxLocals = 2 := hml0
  have hown : s.vm.findClass "java/lang/Math" = some m.cls := findClass_of_methodNamed Bd.named
  have hnm := (name_of_methodNamed Bd.named Bd.method).1
  have X0 : Stand p l e ({ frames := 0, cells := 0, slots := 0, locals := 0 } : Room) s m #[(.long jx)] below meth c s₁ [] 0 0 := Stand.of_body Bd
  have e0 : s₁.heap = h0 := by rw [← hh, Bd.state]; rfl
  have N0 := Fr.nil n0
  have pre0 : ∀ t, Steps p.tables e below (s₁.setTop (mkF m 0 #[.val (.long jx), .second] [])) t → Steps p.tables e below (s₁.setTop (entryFrame m #[(.long jx)] 2)) t := fun t k => castTop (ef_abs m jx) k
  have r0 : own_R p e below s₁ (mkF m 0 #[.val (.long jx), .second] []) s₁ (mkF m 0 #[.val (.long jx), .second] []) := own_R.refl
  have r1 : own_R p e below _ _ s₁ (mkF m 12 #[.val (.long jx), .second] [(.long jx)]) := r0.trans fun z_ kt => by
    show own_S p e below s₁ (mkF m 0 #[.val (.long jx), .second] []) _
    refine XS.lloadN X0.here hx rfl (hb hby d8_0) rfl ?_
    show own_S p e below s₁ (mkF m 1 #[.val (.long jx), .second] [(.long jx)]) _
    refine XS.lconst X0.here hx rfl (hb hby d8_1) ?_
    show own_S p e below s₁ (mkF m 2 #[.val (.long jx), .second] [(.long (0 : Int64)), (.long jx)]) _
    refine XS.lcmp X0.here hx rfl (hb hby d8_2) rfl ?_
    show own_S p e below s₁ (mkF m 3 #[.val (.long jx), .second] [(.int (lcmpW jx (0 : Int64)))]) _
    refine XS.ifYes X0.here hx rfl (pc0 := 3) (pc' := 11) rfl (hb hby d8_3) rfl ((if0 _ _).trans (flt (own_lc_ge hjx : ¬ ((lcmpW jx (0 : Int64)) < (0 : Int32)))).2.1) (by decide) (by decide) ?_
    show own_S p e below s₁ (mkF m 11 #[.val (.long jx), .second] []) _
    refine XS.lloadN X0.here hx rfl (hb hby d8_11) rfl ?_
    exact kt
  obtain ⟨fs, hr, hrun, hended, hW, hsame⟩ := X0.leave (v := some (.long jx)) (fun h => by rw [Bd.returns] at h; cases h)
  refine ⟨_, _, pre0 _ (r1 _ ?_), hrun, hended, _, _, rfl, ?_, ⟨_, rfl⟩, hW, hsame.mono (by decide) (by decide)⟩
  · exact retOut X0 hx Bd.returns rfl (Or.inr (Or.inl ⟨rfl, rfl, _, rfl⟩)) (hb hby d8_12) hr
  · show Q_abs Z jx h0 n0 _ s₁.heap _
    rw [e0]
    exact ⟨rfl, N0, rfl⟩

theorem d7_0 : decode jdk_29_method_30_code 0 = .ok (.lload_n 0, 1) := by decide +kernel
theorem d7_1 : decode jdk_29_method_30_code 1 = .ok (.lload_n 2, 1) := by decide +kernel
theorem d7_2 : decode jdk_29_method_30_code 2 = .ok (.lmul, 1) := by decide +kernel
theorem d7_3 : decode jdk_29_method_30_code 3 = .ok (.lstore 4, 2) := by decide +kernel
theorem d7_5 : decode jdk_29_method_30_code 5 = .ok (.lload_n 0, 1) := by decide +kernel
theorem d7_6 : decode jdk_29_method_30_code 6 = .ok (.invokestatic 122, 3) := by decide +kernel
theorem pd_2 : parseMethodDescriptor "(J)J" = some ⟨[.long], some .long⟩ := by decide +kernel
theorem d7_9 : decode jdk_29_method_30_code 9 = .ok (.lstore 6, 2) := by decide +kernel
theorem d7_11 : decode jdk_29_method_30_code 11 = .ok (.lload_n 2, 1) := by decide +kernel
theorem d7_12 : decode jdk_29_method_30_code 12 = .ok (.invokestatic 122, 3) := by decide +kernel
theorem d7_15 : decode jdk_29_method_30_code 15 = .ok (.lstore 8, 2) := by decide +kernel
theorem d7_17 : decode jdk_29_method_30_code 17 = .ok (.lload 6, 2) := by decide +kernel
theorem d7_19 : decode jdk_29_method_30_code 19 = .ok (.lload 8, 2) := by decide +kernel
theorem d7_21 : decode jdk_29_method_30_code 21 = .ok (.lor, 1) := by decide +kernel
theorem d7_22 : decode jdk_29_method_30_code 22 = .ok (.bipush 31, 2) := by decide +kernel
theorem d7_24 : decode jdk_29_method_30_code 24 = .ok (.lushr, 1) := by decide +kernel
theorem d7_25 : decode jdk_29_method_30_code 25 = .ok (.lconst 0, 1) := by decide +kernel
theorem d7_26 : decode jdk_29_method_30_code 26 = .ok (.lcmp, 1) := by decide +kernel
theorem d7_27 : decode jdk_29_method_30_code 27 = .ok (.ifCond .eq 44, 3) := by decide +kernel
theorem d7_71 : decode jdk_29_method_30_code 71 = .ok (.lload 4, 2) := by decide +kernel
theorem d7_73 : decode jdk_29_method_30_code 73 = .ok (.lreturn, 1) := by decide +kernel
theorem d7_30 : decode jdk_29_method_30_code 30 = .ok (.lload_n 2, 1) := by decide +kernel
theorem d7_31 : decode jdk_29_method_30_code 31 = .ok (.lconst 0, 1) := by decide +kernel
theorem d7_32 : decode jdk_29_method_30_code 32 = .ok (.lcmp, 1) := by decide +kernel
theorem d7_33 : decode jdk_29_method_30_code 33 = .ok (.ifCond .eq 12, 3) := by decide +kernel
theorem d7_36 : decode jdk_29_method_30_code 36 = .ok (.lload 4, 2) := by decide +kernel
theorem d7_38 : decode jdk_29_method_30_code 38 = .ok (.lload_n 2, 1) := by decide +kernel
theorem d7_39 : decode jdk_29_method_30_code 39 = .ok (.ldiv, 1) := by decide +kernel
theorem d7_40 : decode jdk_29_method_30_code 40 = .ok (.lload_n 0, 1) := by decide +kernel
theorem d7_41 : decode jdk_29_method_30_code 41 = .ok (.lcmp, 1) := by decide +kernel
theorem d7_42 : decode jdk_29_method_30_code 42 = .ok (.ifCond .ne 19, 3) := by decide +kernel
theorem d7_45 : decode jdk_29_method_30_code 45 = .ok (.lload_n 0, 1) := by decide +kernel
theorem d7_46 : decode jdk_29_method_30_code 46 = .ok (.ldc2_w 128, 3) := by decide +kernel
theorem d7_49 : decode jdk_29_method_30_code 49 = .ok (.lcmp, 1) := by decide +kernel
theorem d7_50 : decode jdk_29_method_30_code 50 = .ok (.ifCond .ne 21, 3) := by decide +kernel
theorem ef_mulX (m : MethodId) (jx : Int64) : entryFrame m #[(.long jx), (.long (1000000000 : Int64))] 10 = mkF m 0 #[.val (.long jx), .second, .val (.long (1000000000 : Int64)), .second, .unset, .unset, .unset, .unset, .unset, .unset] [] := by first | (simp [entryFrame, mkF, argsToLocals, Value.category]; done) | rfl
def Q_mulX (Z : State) (jx : Int64) (h0 : Heap) (n0 : Nat) (v : Option Value) (h : Heap) (L : List Loc) : Prop := v = some (.long (jx * (1000000000 : Int64))) ∧ Fr n0 L ∧ h = h0
set_option maxRecDepth 65536 in
set_option maxHeartbeats 40000000 in
theorem rm_mulX (l : Launch) (Z : State) (a0 : Array Value) (hw : ∀ d ∈ tables_1, d.before a0 Z = true) (ws : List Jvm.Cond) (jx : Int64) (h0 : Heap) (n0 : Nat) (O0 : Old Z n0 h0) (hjx : 0 ≤ jx.toInt) (hmx : jx.toInt * 1000000000 ≤ 9223372036854775807) :
    MetFree l (⟨"java/lang/Math", "multiplyExact", "(JJ)J"⟩ : MethodName) (head1 (Jvm.Cond.code (⟨"java/lang/Math", "multiplyExact", "(JJ)J"⟩ : MethodName) jdk_29_method_30_code 10 (some .long) :: ws) ({ frames := 1, cells := 0, slots := 0, locals := 13 } : Room)) (fun aa_ U => aa_ = #[(.long jx), (.long (1000000000 : Int64))] ∧ Z.Warmed39 U.vm ∧ U.heap = h0) (fun _ _ _ _ _ => True) (fun _ U o U' => ∃ v L, o = .returned v ∧ Q_mulX Z jx h0 n0 v U'.heap L ∧ FrameEnd U o U' L ({ frames := 1, cells := 0, slots := 0, locals := 13 } : Room).cells ({ frames := 1, cells := 0, slots := 0, locals := 13 } : Room).slots) := by
  refine MetFree.of_bodySF (Jvm.Free.JP.mathPlain rfl (by decide +kernel)) hisR ?_
  intro p e s m args below meth c s₁ Bd hml0 hP hK
  obtain ⟨rfl, hZ, hh⟩ := hP
  have hx := Bd.exec
  have hby := Bd.bytes
  have hml : c.maxLocals = 10 := hml0
  have hown : s.vm.findClass "java/lang/Math" = some m.cls := findClass_of_methodNamed Bd.named
  have hnm := (name_of_methodNamed Bd.named Bd.method).1
  have X0 : Stand p l e ({ frames := 1, cells := 0, slots := 0, locals := 13 } : Room) s m #[(.long jx), (.long (1000000000 : Int64))] below meth c s₁ [] 0 0 := Stand.of_body Bd
  have e0 : s₁.heap = h0 := by rw [← hh, Bd.state]; rfl
  have N0 := Fr.nil n0
  have pre0 : ∀ t, Steps p.tables e below (s₁.setTop (mkF m 0 #[.val (.long jx), .second, .val (.long (1000000000 : Int64)), .second, .unset, .unset, .unset, .unset, .unset, .unset] [])) t → Steps p.tables e below (s₁.setTop (entryFrame m #[(.long jx), (.long (1000000000 : Int64))] 10)) t := fun t k => castTop (ef_mulX m jx) k
  have r0 : own_R p e below s₁ (mkF m 0 #[.val (.long jx), .second, .val (.long (1000000000 : Int64)), .second, .unset, .unset, .unset, .unset, .unset, .unset] []) s₁ (mkF m 0 #[.val (.long jx), .second, .val (.long (1000000000 : Int64)), .second, .unset, .unset, .unset, .unset, .unset, .unset] []) := own_R.refl
  have r1 : own_R p e below _ _ s₁ (mkF m 6 #[.val (.long jx), .second, .val (.long (1000000000 : Int64)), .second, .val (.long (jx * (1000000000 : Int64))), .second, .unset, .unset, .unset, .unset] [(.long jx)]) := r0.trans fun z_ kt => by
    show own_S p e below s₁ (mkF m 0 #[.val (.long jx), .second, .val (.long (1000000000 : Int64)), .second, .unset, .unset, .unset, .unset, .unset, .unset] []) _
    refine XS.lloadN X0.here hx rfl (hb hby d7_0) rfl ?_
    show own_S p e below s₁ (mkF m 1 #[.val (.long jx), .second, .val (.long (1000000000 : Int64)), .second, .unset, .unset, .unset, .unset, .unset, .unset] [(.long jx)]) _
    refine XS.lloadN X0.here hx rfl (hb hby d7_1) rfl ?_
    show own_S p e below s₁ (mkF m 2 #[.val (.long jx), .second, .val (.long (1000000000 : Int64)), .second, .unset, .unset, .unset, .unset, .unset, .unset] [(.long (1000000000 : Int64)), (.long jx)]) _
    refine XS.lmul X0.here hx rfl (hb hby d7_2) rfl ?_
    show own_S p e below s₁ (mkF m 3 #[.val (.long jx), .second, .val (.long (1000000000 : Int64)), .second, .unset, .unset, .unset, .unset, .unset, .unset] [(.long (jx * (1000000000 : Int64)))]) _
    refine XS.lstore X0.here hx rfl (hb hby d7_3) rfl (l' := #[.val (.long jx), .second, .val (.long (1000000000 : Int64)), .second, .val (.long (jx * (1000000000 : Int64))), .second, .unset, .unset, .unset, .unset]) rfl ?_
    show own_S p e below s₁ (mkF m 5 #[.val (.long jx), .second, .val (.long (1000000000 : Int64)), .second, .val (.long (jx * (1000000000 : Int64))), .second, .unset, .unset, .unset, .unset] []) _
    refine XS.lloadN X0.here hx rfl (hb hby d7_5) rfl ?_
    exact kt
  obtain ⟨_, _, ⟨T2, L2, cc2, n2⟩, -, X2, ⟨Lc2, hQ2, l2, y2, z2⟩, st2⟩ := Jvm.LawKit.callS X0 hx (y := (⟨"java/lang/Math", "abs", "(J)J"⟩ : MethodName)) hown (mvT hZ (hw _ (own_g (i := 53) rfl))) (mvT hZ (hw _ (own_g (i := 54) rfl))) (mvT hZ (hw _ (own_g (i := 51) rfl))) (mvT hZ (hw _ (own_g (i := 55) rfl))) (by decide) (backOf (W := 0) (rm_abs l Z a0 hw [] (jx) h0 n0 O0 (hjx)) hZ (hw _ (own_g (i := 55) rfl)) (hw _ (own_g (i := 51) rfl)) (by decide) (by decide)) (g := (mkF m 6 #[.val (.long jx), .second, .val (.long (1000000000 : Int64)), .second, .val (.long (jx * (1000000000 : Int64))), .second, .unset, .unset, .unset, .unset] [(.long jx)])) rfl (by rw [hml]; rfl) (argsL := [(.long jx)]) (rest := []) (lenOf pd_2 rfl) rfl (by show 2 * 0 + _ ≤ _; exact Nat.le_of_eq rfl) (hb hby d7_6) (fun _ _ => ⟨rfl, e0, (by decide : 0 + 0 ≤ _), (by decide : 0 + 0 ≤ _)⟩)
  dsimp only [Pt.U, Pt.locs, Pt.cells, Pt.slots] at X2 l2 y2 z2 st2 hQ2
  subst l2 y2 z2
  obtain ⟨rfl, Nq2, eq2⟩ := hQ2
  have N2 := Fr.app N0 Nq2
  have r2 : own_R p e below _ _ T2 (mkF m 9 #[.val (.long jx), .second, .val (.long (1000000000 : Int64)), .second, .val (.long (jx * (1000000000 : Int64))), .second, .unset, .unset, .unset, .unset] [(.long jx)]) := r1.trans fun z_ kt => st2 _ kt
  have e2 : T2.heap = h0 := eq2
  have r3 : own_R p e below _ _ T2 (mkF m 12 #[.val (.long jx), .second, .val (.long (1000000000 : Int64)), .second, .val (.long (jx * (1000000000 : Int64))), .second, .val (.long jx), .second, .unset, .unset] [(.long (1000000000 : Int64))]) := r2.trans fun z_ kt => by
    show own_S p e below T2 (mkF m 9 #[.val (.long jx), .second, .val (.long (1000000000 : Int64)), .second, .val (.long (jx * (1000000000 : Int64))), .second, .unset, .unset, .unset, .unset] [(.long jx)]) _
    refine XS.lstore X2.here hx rfl (hb hby d7_9) rfl (l' := #[.val (.long jx), .second, .val (.long (1000000000 : Int64)), .second, .val (.long (jx * (1000000000 : Int64))), .second, .val (.long jx), .second, .unset, .unset]) rfl ?_
    show own_S p e below T2 (mkF m 11 #[.val (.long jx), .second, .val (.long (1000000000 : Int64)), .second, .val (.long (jx * (1000000000 : Int64))), .second, .val (.long jx), .second, .unset, .unset] []) _
    refine XS.lloadN X2.here hx rfl (hb hby d7_11) rfl ?_
    exact kt
  obtain ⟨_, _, ⟨T4, L4, cc4, n4⟩, -, X4, ⟨Lc4, hQ4, l4, y4, z4⟩, st4⟩ := Jvm.LawKit.callS X2 hx (y := (⟨"java/lang/Math", "abs", "(J)J"⟩ : MethodName)) hown (mvT hZ (hw _ (own_g (i := 53) rfl))) (mvT hZ (hw _ (own_g (i := 54) rfl))) (mvT hZ (hw _ (own_g (i := 51) rfl))) (mvT hZ (hw _ (own_g (i := 55) rfl))) (by decide) (backOf (W := 0) (rm_abs l Z a0 hw [] ((1000000000 : Int64)) h0 n0 O0 (by decide)) hZ (hw _ (own_g (i := 55) rfl)) (hw _ (own_g (i := 51) rfl)) (by decide) (by decide)) (g := (mkF m 12 #[.val (.long jx), .second, .val (.long (1000000000 : Int64)), .second, .val (.long (jx * (1000000000 : Int64))), .second, .val (.long jx), .second, .unset, .unset] [(.long (1000000000 : Int64))])) rfl (by rw [hml]; rfl) (argsL := [(.long (1000000000 : Int64))]) (rest := []) (lenOf pd_2 rfl) rfl (by show 2 * 0 + _ ≤ _; exact Nat.le_of_eq rfl) (hb hby d7_12) (fun _ _ => ⟨rfl, e2, (by decide : 0 + 0 ≤ _), (by decide : 0 + 0 ≤ _)⟩)
  dsimp only [Pt.U, Pt.locs, Pt.cells, Pt.slots] at X4 l4 y4 z4 st4 hQ4
  subst l4 y4 z4
  obtain ⟨rfl, Nq4, eq4⟩ := hQ4
  have N4 := Fr.app N2 Nq4
  have r4 : own_R p e below _ _ T4 (mkF m 15 #[.val (.long jx), .second, .val (.long (1000000000 : Int64)), .second, .val (.long (jx * (1000000000 : Int64))), .second, .val (.long jx), .second, .unset, .unset] [(.long (1000000000 : Int64))]) := r3.trans fun z_ kt => st4 _ kt
  have e4 : T4.heap = h0 := eq4
  have r5 : own_R p e below _ _ T4 (mkF m 27 #[.val (.long jx), .second, .val (.long (1000000000 : Int64)), .second, .val (.long (jx * (1000000000 : Int64))), .second, .val (.long jx), .second, .val (.long (1000000000 : Int64)), .second] [(.int (lcmpW (((jx ||| (1000000000 : Int64)).toUInt64 >>> ((31 : Int32) &&& 0x3f).toInt64.toUInt64).toInt64) (0 : Int64)))]) := r4.trans fun z_ kt => by
    show own_S p e below T4 (mkF m 15 #[.val (.long jx), .second, .val (.long (1000000000 : Int64)), .second, .val (.long (jx * (1000000000 : Int64))), .second, .val (.long jx), .second, .unset, .unset] [(.long (1000000000 : Int64))]) _
    refine XS.lstore X4.here hx rfl (hb hby d7_15) rfl (l' := #[.val (.long jx), .second, .val (.long (1000000000 : Int64)), .second, .val (.long (jx * (1000000000 : Int64))), .second, .val (.long jx), .second, .val (.long (1000000000 : Int64)), .second]) rfl ?_
    show own_S p e below T4 (mkF m 17 #[.val (.long jx), .second, .val (.long (1000000000 : Int64)), .second, .val (.long (jx * (1000000000 : Int64))), .second, .val (.long jx), .second, .val (.long (1000000000 : Int64)), .second] []) _
    refine XS.lload X4.here hx rfl (hb hby d7_17) rfl ?_
    show own_S p e below T4 (mkF m 19 #[.val (.long jx), .second, .val (.long (1000000000 : Int64)), .second, .val (.long (jx * (1000000000 : Int64))), .second, .val (.long jx), .second, .val (.long (1000000000 : Int64)), .second] [(.long jx)]) _
    refine XS.lload X4.here hx rfl (hb hby d7_19) rfl ?_
    show own_S p e below T4 (mkF m 21 #[.val (.long jx), .second, .val (.long (1000000000 : Int64)), .second, .val (.long (jx * (1000000000 : Int64))), .second, .val (.long jx), .second, .val (.long (1000000000 : Int64)), .second] [(.long (1000000000 : Int64)), (.long jx)]) _
    refine XS.lor X4.here hx rfl (hb hby d7_21) rfl ?_
    show own_S p e below T4 (mkF m 22 #[.val (.long jx), .second, .val (.long (1000000000 : Int64)), .second, .val (.long (jx * (1000000000 : Int64))), .second, .val (.long jx), .second, .val (.long (1000000000 : Int64)), .second] [(.long (jx ||| (1000000000 : Int64)))]) _
    refine XS.bipush X4.here hx rfl (hb hby d7_22) ?_
    show own_S p e below T4 (mkF m 24 #[.val (.long jx), .second, .val (.long (1000000000 : Int64)), .second, .val (.long (jx * (1000000000 : Int64))), .second, .val (.long jx), .second, .val (.long (1000000000 : Int64)), .second] [(.int (31 : Int32)), (.long (jx ||| (1000000000 : Int64)))]) _
    refine XS.lushr X4.here hx rfl (hb hby d7_24) rfl ?_
    show own_S p e below T4 (mkF m 25 #[.val (.long jx), .second, .val (.long (1000000000 : Int64)), .second, .val (.long (jx * (1000000000 : Int64))), .second, .val (.long jx), .second, .val (.long (1000000000 : Int64)), .second] [(.long (((jx ||| (1000000000 : Int64)).toUInt64 >>> ((31 : Int32) &&& 0x3f).toInt64.toUInt64).toInt64))]) _
    refine XS.lconst X4.here hx rfl (hb hby d7_25) ?_
    show own_S p e below T4 (mkF m 26 #[.val (.long jx), .second, .val (.long (1000000000 : Int64)), .second, .val (.long (jx * (1000000000 : Int64))), .second, .val (.long jx), .second, .val (.long (1000000000 : Int64)), .second] [(.long (0 : Int64)), (.long (((jx ||| (1000000000 : Int64)).toUInt64 >>> ((31 : Int32) &&& 0x3f).toInt64.toUInt64).toInt64))]) _
    refine XS.lcmp X4.here hx rfl (hb hby d7_26) rfl ?_
    exact kt
  by_cases hc27_6 : (lcmpW (((jx ||| (1000000000 : Int64)).toUInt64 >>> ((31 : Int32) &&& 0x3f).toInt64.toUInt64).toInt64) (0 : Int64)) = (0 : Int32)
  · skip
    have r7 : own_R p e below _ _ T4 (mkF m 73 #[.val (.long jx), .second, .val (.long (1000000000 : Int64)), .second, .val (.long (jx * (1000000000 : Int64))), .second, .val (.long jx), .second, .val (.long (1000000000 : Int64)), .second] [(.long (jx * (1000000000 : Int64)))]) := r5.trans fun z_ kt => by
      show own_S p e below T4 (mkF m 27 #[.val (.long jx), .second, .val (.long (1000000000 : Int64)), .second, .val (.long (jx * (1000000000 : Int64))), .second, .val (.long jx), .second, .val (.long (1000000000 : Int64)), .second] [(.int (lcmpW (((jx ||| (1000000000 : Int64)).toUInt64 >>> ((31 : Int32) &&& 0x3f).toInt64.toUInt64).toInt64) (0 : Int64)))]) _
      refine XS.ifYes X4.here hx rfl (pc0 := 27) (pc' := 71) rfl (hb hby d7_27) rfl ((if0 _ _).trans (teq (hc27_6 : (lcmpW (((jx ||| (1000000000 : Int64)).toUInt64 >>> ((31 : Int32) &&& 0x3f).toInt64.toUInt64).toInt64) (0 : Int64)) = (0 : Int32))).1) (by decide) (by decide) ?_
      show own_S p e below T4 (mkF m 71 #[.val (.long jx), .second, .val (.long (1000000000 : Int64)), .second, .val (.long (jx * (1000000000 : Int64))), .second, .val (.long jx), .second, .val (.long (1000000000 : Int64)), .second] []) _
      refine XS.lload X4.here hx rfl (hb hby d7_71) rfl ?_
      exact kt
    obtain ⟨fs, hr, hrun, hended, hW, hsame⟩ := X4.leave (v := some (.long (jx * (1000000000 : Int64)))) (fun h => by rw [Bd.returns] at h; cases h)
    refine ⟨_, _, pre0 _ (r7 _ ?_), hrun, hended, _, _, rfl, ?_, ⟨_, rfl⟩, hW, hsame.mono (by decide) (by decide)⟩
    · exact retOut X4 hx Bd.returns rfl (Or.inr (Or.inl ⟨rfl, rfl, _, rfl⟩)) (hb hby d7_73) hr
    · show Q_mulX Z jx h0 n0 _ T4.heap _
      rw [e4]
      exact ⟨rfl, N4, rfl⟩
  · skip
    have r8 : own_R p e below _ _ T4 (mkF m 73 #[.val (.long jx), .second, .val (.long (1000000000 : Int64)), .second, .val (.long (jx * (1000000000 : Int64))), .second, .val (.long jx), .second, .val (.long (1000000000 : Int64)), .second] [(.long (jx * (1000000000 : Int64)))]) := r5.trans fun z_ kt => by
      show own_S p e below T4 (mkF m 27 #[.val (.long jx), .second, .val (.long (1000000000 : Int64)), .second, .val (.long (jx * (1000000000 : Int64))), .second, .val (.long jx), .second, .val (.long (1000000000 : Int64)), .second] [(.int (lcmpW (((jx ||| (1000000000 : Int64)).toUInt64 >>> ((31 : Int32) &&& 0x3f).toInt64.toUInt64).toInt64) (0 : Int64)))]) _
      refine XS.ifNo X4.here hx rfl (hb hby d7_27) rfl ((if0 _ _).trans (feq (hc27_6 : ¬ ((lcmpW (((jx ||| (1000000000 : Int64)).toUInt64 >>> ((31 : Int32) &&& 0x3f).toInt64.toUInt64).toInt64) (0 : Int64)) = (0 : Int32)))).1) ?_
      show own_S p e below T4 (mkF m 30 #[.val (.long jx), .second, .val (.long (1000000000 : Int64)), .second, .val (.long (jx * (1000000000 : Int64))), .second, .val (.long jx), .second, .val (.long (1000000000 : Int64)), .second] []) _
      refine XS.lloadN X4.here hx rfl (hb hby d7_30) rfl ?_
      show own_S p e below T4 (mkF m 31 #[.val (.long jx), .second, .val (.long (1000000000 : Int64)), .second, .val (.long (jx * (1000000000 : Int64))), .second, .val (.long jx), .second, .val (.long (1000000000 : Int64)), .second] [(.long (1000000000 : Int64))]) _
      refine XS.lconst X4.here hx rfl (hb hby d7_31) ?_
      show own_S p e below T4 (mkF m 32 #[.val (.long jx), .second, .val (.long (1000000000 : Int64)), .second, .val (.long (jx * (1000000000 : Int64))), .second, .val (.long jx), .second, .val (.long (1000000000 : Int64)), .second] [(.long (0 : Int64)), (.long (1000000000 : Int64))]) _
      refine XS.lcmp X4.here hx rfl (hb hby d7_32) rfl ?_
      show own_S p e below T4 (mkF m 33 #[.val (.long jx), .second, .val (.long (1000000000 : Int64)), .second, .val (.long (jx * (1000000000 : Int64))), .second, .val (.long jx), .second, .val (.long (1000000000 : Int64)), .second] [(.int (1 : Int32))]) _
      refine XS.ifNo X4.here hx rfl (hb hby d7_33) rfl ((if0 _ _).trans (feq (by decide : ¬ ((1 : Int32) = (0 : Int32)))).1) ?_
      show own_S p e below T4 (mkF m 36 #[.val (.long jx), .second, .val (.long (1000000000 : Int64)), .second, .val (.long (jx * (1000000000 : Int64))), .second, .val (.long jx), .second, .val (.long (1000000000 : Int64)), .second] []) _
      refine XS.lload X4.here hx rfl (hb hby d7_36) rfl ?_
      show own_S p e below T4 (mkF m 38 #[.val (.long jx), .second, .val (.long (1000000000 : Int64)), .second, .val (.long (jx * (1000000000 : Int64))), .second, .val (.long jx), .second, .val (.long (1000000000 : Int64)), .second] [(.long (jx * (1000000000 : Int64)))]) _
      refine XS.lloadN X4.here hx rfl (hb hby d7_38) rfl ?_
      show own_S p e below T4 (mkF m 39 #[.val (.long jx), .second, .val (.long (1000000000 : Int64)), .second, .val (.long (jx * (1000000000 : Int64))), .second, .val (.long jx), .second, .val (.long (1000000000 : Int64)), .second] [(.long (1000000000 : Int64)), (.long (jx * (1000000000 : Int64)))]) _
      refine XS.ldiv X4.here hx rfl (hb hby d7_39) rfl (by decide) ?_
      show own_S p e below T4 (mkF m 40 #[.val (.long jx), .second, .val (.long (1000000000 : Int64)), .second, .val (.long (jx * (1000000000 : Int64))), .second, .val (.long jx), .second, .val (.long (1000000000 : Int64)), .second] [(.long ((jx * (1000000000 : Int64)) / (1000000000 : Int64)))]) _
      refine XS.lloadN X4.here hx rfl (hb hby d7_40) rfl ?_
      show own_S p e below T4 (mkF m 41 #[.val (.long jx), .second, .val (.long (1000000000 : Int64)), .second, .val (.long (jx * (1000000000 : Int64))), .second, .val (.long jx), .second, .val (.long (1000000000 : Int64)), .second] [(.long jx), (.long ((jx * (1000000000 : Int64)) / (1000000000 : Int64)))]) _
      refine XS.lcmp X4.here hx rfl (hb hby d7_41) rfl ?_
      show own_S p e below T4 (mkF m 42 #[.val (.long jx), .second, .val (.long (1000000000 : Int64)), .second, .val (.long (jx * (1000000000 : Int64))), .second, .val (.long jx), .second, .val (.long (1000000000 : Int64)), .second] [(.int (lcmpW ((jx * (1000000000 : Int64)) / (1000000000 : Int64)) jx))]) _
      refine XS.ifNo X4.here hx rfl (hb hby d7_42) rfl ((if0 _ _).trans (teq (own_lc_eq (own_muldiv hjx hmx) : (lcmpW ((jx * (1000000000 : Int64)) / (1000000000 : Int64)) jx) = (0 : Int32))).2) ?_
      show own_S p e below T4 (mkF m 45 #[.val (.long jx), .second, .val (.long (1000000000 : Int64)), .second, .val (.long (jx * (1000000000 : Int64))), .second, .val (.long jx), .second, .val (.long (1000000000 : Int64)), .second] []) _
      refine XS.lloadN X4.here hx rfl (hb hby d7_45) rfl ?_
      show own_S p e below T4 (mkF m 46 #[.val (.long jx), .second, .val (.long (1000000000 : Int64)), .second, .val (.long (jx * (1000000000 : Int64))), .second, .val (.long jx), .second, .val (.long (1000000000 : Int64)), .second] [(.long jx)]) _
      refine X4.ldc2Long hx hown (mvT hZ (hw _ (own_g (i := 68) rfl))) (g := (mkF m 46 #[.val (.long jx), .second, .val (.long (1000000000 : Int64)), .second, .val (.long (jx * (1000000000 : Int64))), .second, .val (.long jx), .second, .val (.long (1000000000 : Int64)), .second] [(.long jx)])) rfl (hb hby d7_46) _ ?_
      show own_S p e below T4 (mkF m 49 #[.val (.long jx), .second, .val (.long (1000000000 : Int64)), .second, .val (.long (jx * (1000000000 : Int64))), .second, .val (.long jx), .second, .val (.long (1000000000 : Int64)), .second] [(.long (-9223372036854775808 : Int64)), (.long jx)]) _
      refine XS.lcmp X4.here hx rfl (hb hby d7_49) rfl ?_
      show own_S p e below T4 (mkF m 50 #[.val (.long jx), .second, .val (.long (1000000000 : Int64)), .second, .val (.long (jx * (1000000000 : Int64))), .second, .val (.long jx), .second, .val (.long (1000000000 : Int64)), .second] [(.int (lcmpW jx (-9223372036854775808 : Int64)))]) _
      refine XS.ifYes X4.here hx rfl (pc0 := 50) (pc' := 71) rfl (hb hby d7_50) rfl ((if0 _ _).trans (feq (own_lc_ne (own_notmin hjx) : ¬ ((lcmpW jx (-9223372036854775808 : Int64)) = (0 : Int32)))).2) (by decide) (by decide) ?_
      show own_S p e below T4 (mkF m 71 #[.val (.long jx), .second, .val (.long (1000000000 : Int64)), .second, .val (.long (jx * (1000000000 : Int64))), .second, .val (.long jx), .second, .val (.long (1000000000 : Int64)), .second] []) _
      refine XS.lload X4.here hx rfl (hb hby d7_71) rfl ?_
      exact kt
    obtain ⟨fs, hr, hrun, hended, hW, hsame⟩ := X4.leave (v := some (.long (jx * (1000000000 : Int64)))) (fun h => by rw [Bd.returns] at h; cases h)
    refine ⟨_, _, pre0 _ (r8 _ ?_), hrun, hended, _, _, rfl, ?_, ⟨_, rfl⟩, hW, hsame.mono (by decide) (by decide)⟩
    · exact retOut X4 hx Bd.returns rfl (Or.inr (Or.inl ⟨rfl, rfl, _, rfl⟩)) (hb hby d7_73) hr
    · show Q_mulX Z jx h0 n0 _ T4.heap _
      rw [e4]
      exact ⟨rfl, N4, rfl⟩

theorem d9_0 : decode jdk_29_method_25_code 0 = .ok (.lload_n 0, 1) := by decide +kernel
theorem d9_1 : decode jdk_29_method_25_code 1 = .ok (.lload_n 2, 1) := by decide +kernel
theorem d9_2 : decode jdk_29_method_25_code 2 = .ok (.ladd, 1) := by decide +kernel
theorem d9_3 : decode jdk_29_method_25_code 3 = .ok (.lstore 4, 2) := by decide +kernel
theorem d9_5 : decode jdk_29_method_25_code 5 = .ok (.lload_n 0, 1) := by decide +kernel
theorem d9_6 : decode jdk_29_method_25_code 6 = .ok (.lload 4, 2) := by decide +kernel
theorem d9_8 : decode jdk_29_method_25_code 8 = .ok (.lxor, 1) := by decide +kernel
theorem d9_9 : decode jdk_29_method_25_code 9 = .ok (.lload_n 2, 1) := by decide +kernel
theorem d9_10 : decode jdk_29_method_25_code 10 = .ok (.lload 4, 2) := by decide +kernel
theorem d9_12 : decode jdk_29_method_25_code 12 = .ok (.lxor, 1) := by decide +kernel
theorem d9_13 : decode jdk_29_method_25_code 13 = .ok (.land, 1) := by decide +kernel
theorem d9_14 : decode jdk_29_method_25_code 14 = .ok (.lconst 0, 1) := by decide +kernel
theorem d9_15 : decode jdk_29_method_25_code 15 = .ok (.lcmp, 1) := by decide +kernel
theorem d9_16 : decode jdk_29_method_25_code 16 = .ok (.ifCond .ge 13, 3) := by decide +kernel
theorem d9_29 : decode jdk_29_method_25_code 29 = .ok (.lload 4, 2) := by decide +kernel
theorem d9_31 : decode jdk_29_method_25_code 31 = .ok (.lreturn, 1) := by decide +kernel
theorem ef_addX (m : MethodId) (jx : Int64) (jy : Int64) : entryFrame m #[(.long jx), (.long jy)] 6 = mkF m 0 #[.val (.long jx), .second, .val (.long jy), .second, .unset, .unset] [] := by first | (simp [entryFrame, mkF, argsToLocals, Value.category]; done) | rfl
def Q_addX (Z : State) (jx : Int64) (jy : Int64) (h0 : Heap) (n0 : Nat) (v : Option Value) (h : Heap) (L : List Loc) : Prop := v = some (.long (jx + jy)) ∧ Fr n0 L ∧ h = h0
set_option maxRecDepth 65536 in
set_option maxHeartbeats 40000000 in
theorem rm_addX (l : Launch) (Z : State) (a0 : Array Value) (hw : ∀ d ∈ tables_1, d.before a0 Z = true) (ws : List Jvm.Cond) (jx : Int64) (jy : Int64) (h0 : Heap) (n0 : Nat) (O0 : Old Z n0 h0) (hjx : 0 ≤ jx.toInt) (hjy : 0 ≤ jy.toInt) (hxy : jx.toInt + jy.toInt ≤ 9223372036854775807) :
    MetFree l (⟨"java/lang/Math", "addExact", "(JJ)J"⟩ : MethodName) (head1 (Jvm.Cond.code (⟨"java/lang/Math", "addExact", "(JJ)J"⟩ : MethodName) jdk_29_method_25_code 6 (some .long) :: ws) ({ frames := 0, cells := 0, slots := 0, locals := 0 } : Room)) (fun aa_ U => aa_ = #[(.long jx), (.long jy)] ∧ Z.Warmed39 U.vm ∧ U.heap = h0) (fun _ _ _ _ _ => True) (fun _ U o U' => ∃ v L, o = .returned v ∧ Q_addX Z jx jy h0 n0 v U'.heap L ∧ FrameEnd U o U' L ({ frames := 0, cells := 0, slots := 0, locals := 0 } : Room).cells ({ frames := 0, cells := 0, slots := 0, locals := 0 } : Room).slots) := by
  refine MetFree.of_bodySF (Jvm.Free.JP.mathPlain rfl (by decide +kernel)) hisR ?_
  intro p e s m args below meth c s₁ Bd hml0 hP hK
  obtain ⟨rfl, hZ, hh⟩ := hP
  have hx := Bd.exec
  have hby := Bd.bytes
  have hml : c.maxLocals = 6 := hml0
  have hown : s.vm.findClass "java/lang/Math" = some m.cls := findClass_of_methodNamed Bd.named
  have hnm := (name_of_methodNamed Bd.named Bd.method).1
  have X0 : Stand p l e ({ frames := 0, cells := 0, slots := 0, locals := 0 } : Room) s m #[(.long jx), (.long jy)] below meth c s₁ [] 0 0 := Stand.of_body Bd
  have e0 : s₁.heap = h0 := by rw [← hh, Bd.state]; rfl
  have N0 := Fr.nil n0
  have pre0 : ∀ t, Steps p.tables e below (s₁.setTop (mkF m 0 #[.val (.long jx), .second, .val (.long jy), .second, .unset, .unset] [])) t → Steps p.tables e below (s₁.setTop (entryFrame m #[(.long jx), (.long jy)] 6)) t := fun t k => castTop (ef_addX m jx jy) k
  have r0 : own_R p e below s₁ (mkF m 0 #[.val (.long jx), .second, .val (.long jy), .second, .unset, .unset] []) s₁ (mkF m 0 #[.val (.long jx), .second, .val (.long jy), .second, .unset, .unset] []) := own_R.refl
  have r1 : own_R p e below _ _ s₁ (mkF m 31 #[.val (.long jx), .second, .val (.long jy), .second, .val (.long (jx + jy)), .second] [(.long (jx + jy))]) := r0.trans fun z_ kt => by
    show own_S p e below s₁ (mkF m 0 #[.val (.long jx), .second, .val (.long jy), .second, .unset, .unset] []) _
    refine XS.lloadN X0.here hx rfl (hb hby d9_0) rfl ?_
    show own_S p e below s₁ (mkF m 1 #[.val (.long jx), .second, .val (.long jy), .second, .unset, .unset] [(.long jx)]) _
    refine XS.lloadN X0.here hx rfl (hb hby d9_1) rfl ?_
    show own_S p e below s₁ (mkF m 2 #[.val (.long jx), .second, .val (.long jy), .second, .unset, .unset] [(.long jy), (.long jx)]) _
    refine XS.ladd X0.here hx rfl (hb hby d9_2) rfl ?_
    show own_S p e below s₁ (mkF m 3 #[.val (.long jx), .second, .val (.long jy), .second, .unset, .unset] [(.long (jx + jy))]) _
    refine XS.lstore X0.here hx rfl (hb hby d9_3) rfl (l' := #[.val (.long jx), .second, .val (.long jy), .second, .val (.long (jx + jy)), .second]) rfl ?_
    show own_S p e below s₁ (mkF m 5 #[.val (.long jx), .second, .val (.long jy), .second, .val (.long (jx + jy)), .second] []) _
    refine XS.lloadN X0.here hx rfl (hb hby d9_5) rfl ?_
    show own_S p e below s₁ (mkF m 6 #[.val (.long jx), .second, .val (.long jy), .second, .val (.long (jx + jy)), .second] [(.long jx)]) _
    refine XS.lload X0.here hx rfl (hb hby d9_6) rfl ?_
    show own_S p e below s₁ (mkF m 8 #[.val (.long jx), .second, .val (.long jy), .second, .val (.long (jx + jy)), .second] [(.long (jx + jy)), (.long jx)]) _
    refine XS.lxor X0.here hx rfl (hb hby d9_8) rfl ?_
    show own_S p e below s₁ (mkF m 9 #[.val (.long jx), .second, .val (.long jy), .second, .val (.long (jx + jy)), .second] [(.long (jx ^^^ (jx + jy)))]) _
    refine XS.lloadN X0.here hx rfl (hb hby d9_9) rfl ?_
    show own_S p e below s₁ (mkF m 10 #[.val (.long jx), .second, .val (.long jy), .second, .val (.long (jx + jy)), .second] [(.long jy), (.long (jx ^^^ (jx + jy)))]) _
    refine XS.lload X0.here hx rfl (hb hby d9_10) rfl ?_
    show own_S p e below s₁ (mkF m 12 #[.val (.long jx), .second, .val (.long jy), .second, .val (.long (jx + jy)), .second] [(.long (jx + jy)), (.long jy), (.long (jx ^^^ (jx + jy)))]) _
    refine XS.lxor X0.here hx rfl (hb hby d9_12) rfl ?_
    show own_S p e below s₁ (mkF m 13 #[.val (.long jx), .second, .val (.long jy), .second, .val (.long (jx + jy)), .second] [(.long (jy ^^^ (jx + jy))), (.long (jx ^^^ (jx + jy)))]) _
    refine XS.land X0.here hx rfl (hb hby d9_13) rfl ?_
    show own_S p e below s₁ (mkF m 14 #[.val (.long jx), .second, .val (.long jy), .second, .val (.long (jx + jy)), .second] [(.long ((jx ^^^ (jx + jy)) &&& (jy ^^^ (jx + jy))))]) _
    refine XS.lconst X0.here hx rfl (hb hby d9_14) ?_
    show own_S p e below s₁ (mkF m 15 #[.val (.long jx), .second, .val (.long jy), .second, .val (.long (jx + jy)), .second] [(.long (0 : Int64)), (.long ((jx ^^^ (jx + jy)) &&& (jy ^^^ (jx + jy))))]) _
    refine XS.lcmp X0.here hx rfl (hb hby d9_15) rfl ?_
    show own_S p e below s₁ (mkF m 16 #[.val (.long jx), .second, .val (.long jy), .second, .val (.long (jx + jy)), .second] [(.int (lcmpW ((jx ^^^ (jx + jy)) &&& (jy ^^^ (jx + jy))) (0 : Int64)))]) _
    refine XS.ifYes X0.here hx rfl (pc0 := 16) (pc' := 29) rfl (hb hby d9_16) rfl ((if0 _ _).trans (flt (own_lc_ge (own_addx hjx hjy hxy) : ¬ ((lcmpW ((jx ^^^ (jx + jy)) &&& (jy ^^^ (jx + jy))) (0 : Int64)) < (0 : Int32)))).2.1) (by decide) (by decide) ?_
    show own_S p e below s₁ (mkF m 29 #[.val (.long jx), .second, .val (.long jy), .second, .val (.long (jx + jy)), .second] []) _
    refine XS.lload X0.here hx rfl (hb hby d9_29) rfl ?_
    exact kt
  obtain ⟨fs, hr, hrun, hended, hW, hsame⟩ := X0.leave (v := some (.long (jx + jy))) (fun h => by rw [Bd.returns] at h; cases h)
  refine ⟨_, _, pre0 _ (r1 _ ?_), hrun, hended, _, _, rfl, ?_, ⟨_, rfl⟩, hW, hsame.mono (by decide) (by decide)⟩
  · exact retOut X0 hx Bd.returns rfl (Or.inr (Or.inl ⟨rfl, rfl, _, rfl⟩)) (hb hby d9_31) hr
  · show Q_addX Z jx jy h0 n0 _ s₁.heap _
    rw [e0]
    exact ⟨rfl, N0, rfl⟩

theorem d6_0 : decode jdk_2316_method_58_code 0 = .ok (.aload_n 0, 1) := by decide +kernel
theorem d6_1 : decode jdk_2316_method_58_code 1 = .ok (.getfield 221, 3) := by decide +kernel
theorem d6_4 : decode jdk_2316_method_58_code 4 = .ok (.lstore_n 1, 1) := by decide +kernel
theorem d6_5 : decode jdk_2316_method_58_code 5 = .ok (.aload_n 0, 1) := by decide +kernel
theorem d6_6 : decode jdk_2316_method_58_code 6 = .ok (.getfield 224, 3) := by decide +kernel
theorem d6_9 : decode jdk_2316_method_58_code 9 = .ok (.i2l, 1) := by decide +kernel
theorem d6_10 : decode jdk_2316_method_58_code 10 = .ok (.lstore_n 3, 1) := by decide +kernel
theorem d6_11 : decode jdk_2316_method_58_code 11 = .ok (.lload_n 1, 1) := by decide +kernel
theorem d6_12 : decode jdk_2316_method_58_code 12 = .ok (.lconst 0, 1) := by decide +kernel
theorem d6_13 : decode jdk_2316_method_58_code 13 = .ok (.lcmp, 1) := by decide +kernel
theorem d6_14 : decode jdk_2316_method_58_code 14 = .ok (.ifCond .ge 13, 3) := by decide +kernel
theorem d6_27 : decode jdk_2316_method_58_code 27 = .ok (.lload_n 1, 1) := by decide +kernel
theorem d6_28 : decode jdk_2316_method_58_code 28 = .ok (.ldc2_w 16, 3) := by decide +kernel
theorem d6_31 : decode jdk_2316_method_58_code 31 = .ok (.invokestatic 289, 3) := by decide +kernel
theorem pd_3 : parseMethodDescriptor "(JJ)J" = some ⟨[.long, .long], some .long⟩ := by decide +kernel
theorem d6_34 : decode jdk_2316_method_58_code 34 = .ok (.lstore 5, 2) := by decide +kernel
theorem d6_36 : decode jdk_2316_method_58_code 36 = .ok (.lload 5, 2) := by decide +kernel
theorem d6_38 : decode jdk_2316_method_58_code 38 = .ok (.lload_n 3, 1) := by decide +kernel
theorem d6_39 : decode jdk_2316_method_58_code 39 = .ok (.invokestatic 22, 3) := by decide +kernel
theorem d6_42 : decode jdk_2316_method_58_code 42 = .ok (.lstore 5, 2) := by decide +kernel
theorem d6_44 : decode jdk_2316_method_58_code 44 = .ok (.lload 5, 2) := by decide +kernel
theorem d6_46 : decode jdk_2316_method_58_code 46 = .ok (.lreturn, 1) := by decide +kernel
theorem ef_toNanos (m : MethodId) (a : Addr) : entryFrame m #[(.ref a)] 7 = mkF m 0 #[.val (.ref a), .unset, .unset, .unset, .unset, .unset, .unset] [] := by first | (simp [entryFrame, mkF, argsToLocals, Value.category]; done) | rfl
def Q_toNanos (Z : State) (a : Addr) (js : Int64) (pn : Int32) (h0 : Heap) (n0 : Nat) (v : Option Value) (h : Heap) (L : List Loc) : Prop := v = some (.long ((js * (1000000000 : Int64)) + (pn.toInt64))) ∧ Fr n0 L ∧ h = h0
set_option maxRecDepth 65536 in
set_option maxHeartbeats 40000000 in
theorem rm_toNanos (l : Launch) (Z : State) (a0 : Array Value) (hw : ∀ d ∈ tables_1, d.before a0 Z = true) (ws : List Jvm.Cond) (a : Addr) (js : Int64) (pn : Int32) (h0 : Heap) (n0 : Nat) (O0 : Old Z n0 h0) (F_a_seconds : Fld Z h0 a "java/time/Duration" "seconds" "J" (.long js)) (F_a_nanos : Fld Z h0 a "java/time/Duration" "nanos" "I" (.int pn)) (hjs : 0 ≤ js.toInt) (hpn : 0 ≤ pn.toInt) (hsum : js.toInt * 1000000000 + pn.toInt ≤ 9223372036854775807) :
    MetFree l (⟨"java/time/Duration", "toNanos", "()J"⟩ : MethodName) (head1 (Jvm.Cond.code (⟨"java/time/Duration", "toNanos", "()J"⟩ : MethodName) jdk_2316_method_58_code 7 (some .long) :: ws) ({ frames := 2, cells := 0, slots := 0, locals := 34 } : Room)) (fun aa_ U => aa_ = #[(.ref a)] ∧ Z.Warmed39 U.vm ∧ U.heap = h0) (fun _ _ _ _ _ => True) (fun _ U o U' => ∃ v L, o = .returned v ∧ Q_toNanos Z a js pn h0 n0 v U'.heap L ∧ FrameEnd U o U' L ({ frames := 2, cells := 0, slots := 0, locals := 34 } : Room).cells ({ frames := 2, cells := 0, slots := 0, locals := 34 } : Room).slots) := by
  refine MetFree.of_bodySF (plainFor_of_name pn_Duration) hisR ?_
  intro p e s m args below meth c s₁ Bd hml0 hP hK
  obtain ⟨rfl, hZ, hh⟩ := hP
  have hx := Bd.exec
  have hby := Bd.bytes
  have hml : c.maxLocals = 7 := hml0
  have hown : s.vm.findClass "java/time/Duration" = some m.cls := findClass_of_methodNamed Bd.named
  have hnm := (name_of_methodNamed Bd.named Bd.method).1
  have X0 : Stand p l e ({ frames := 2, cells := 0, slots := 0, locals := 34 } : Room) s m #[(.ref a)] below meth c s₁ [] 0 0 := Stand.of_body Bd
  have e0 : s₁.heap = h0 := by rw [← hh, Bd.state]; rfl
  have N0 := Fr.nil n0
  have pre0 : ∀ t, Steps p.tables e below (s₁.setTop (mkF m 0 #[.val (.ref a), .unset, .unset, .unset, .unset, .unset, .unset] [])) t → Steps p.tables e below (s₁.setTop (entryFrame m #[(.ref a)] 7)) t := fun t k => castTop (ef_toNanos m a) k
  have r0 : own_R p e below s₁ (mkF m 0 #[.val (.ref a), .unset, .unset, .unset, .unset, .unset, .unset] []) s₁ (mkF m 0 #[.val (.ref a), .unset, .unset, .unset, .unset, .unset, .unset] []) := own_R.refl
  have r1 : own_R p e below _ _ s₁ (mkF m 1 #[.val (.ref a), .unset, .unset, .unset, .unset, .unset, .unset] [(.ref a)]) := r0.trans fun z_ kt => by
    show own_S p e below s₁ (mkF m 0 #[.val (.ref a), .unset, .unset, .unset, .unset, .unset, .unset] []) _
    refine XS.aloadN X0.here hx rfl (hb hby d6_0) rfl rfl ?_
    exact kt
  obtain ⟨T2, X2, e2, st2⟩ := getF X0 hx hZ hown (host := "") (Or.inl (hw _ (own_g (i := 45) rfl))) Via.refl e0 F_a_seconds (g := (mkF m 1 #[.val (.ref a), .unset, .unset, .unset, .unset, .unset, .unset] [(.ref a)])) rfl rfl (hb hby d6_1)
  have r2 : own_R p e below _ _ T2 (mkF m 4 #[.val (.ref a), .unset, .unset, .unset, .unset, .unset, .unset] [(.long js)]) := r1.trans fun z_ kt => st2 _ kt
  have r3 : own_R p e below _ _ T2 (mkF m 6 #[.val (.ref a), .val (.long js), .second, .unset, .unset, .unset, .unset] [(.ref a)]) := r2.trans fun z_ kt => by
    show own_S p e below T2 (mkF m 4 #[.val (.ref a), .unset, .unset, .unset, .unset, .unset, .unset] [(.long js)]) _
    refine XS.lstoreN X2.here hx rfl (hb hby d6_4) rfl (l' := #[.val (.ref a), .val (.long js), .second, .unset, .unset, .unset, .unset]) rfl ?_
    show own_S p e below T2 (mkF m 5 #[.val (.ref a), .val (.long js), .second, .unset, .unset, .unset, .unset] []) _
    refine XS.aloadN X2.here hx rfl (hb hby d6_5) rfl rfl ?_
    exact kt
  obtain ⟨T4, X4, e4, st4⟩ := getF X2 hx hZ hown (host := "") (Or.inl (hw _ (own_g (i := 47) rfl))) Via.refl e2 F_a_nanos (g := (mkF m 6 #[.val (.ref a), .val (.long js), .second, .unset, .unset, .unset, .unset] [(.ref a)])) rfl rfl (hb hby d6_6)
  have r4 : own_R p e below _ _ T4 (mkF m 9 #[.val (.ref a), .val (.long js), .second, .unset, .unset, .unset, .unset] [(.int pn)]) := r3.trans fun z_ kt => st4 _ kt
  have r5 : own_R p e below _ _ T4 (mkF m 31 #[.val (.ref a), .val (.long js), .second, .val (.long (pn.toInt64)), .second, .unset, .unset] [(.long (1000000000 : Int64)), (.long js)]) := r4.trans fun z_ kt => by
    show own_S p e below T4 (mkF m 9 #[.val (.ref a), .val (.long js), .second, .unset, .unset, .unset, .unset] [(.int pn)]) _
    refine XS.i2l X4.here hx rfl (hb hby d6_9) rfl ?_
    show own_S p e below T4 (mkF m 10 #[.val (.ref a), .val (.long js), .second, .unset, .unset, .unset, .unset] [(.long (pn.toInt64))]) _
    refine XS.lstoreN X4.here hx rfl (hb hby d6_10) rfl (l' := #[.val (.ref a), .val (.long js), .second, .val (.long (pn.toInt64)), .second, .unset, .unset]) rfl ?_
    show own_S p e below T4 (mkF m 11 #[.val (.ref a), .val (.long js), .second, .val (.long (pn.toInt64)), .second, .unset, .unset] []) _
    refine XS.lloadN X4.here hx rfl (hb hby d6_11) rfl ?_
    show own_S p e below T4 (mkF m 12 #[.val (.ref a), .val (.long js), .second, .val (.long (pn.toInt64)), .second, .unset, .unset] [(.long js)]) _
    refine XS.lconst X4.here hx rfl (hb hby d6_12) ?_
    show own_S p e below T4 (mkF m 13 #[.val (.ref a), .val (.long js), .second, .val (.long (pn.toInt64)), .second, .unset, .unset] [(.long (0 : Int64)), (.long js)]) _
    refine XS.lcmp X4.here hx rfl (hb hby d6_13) rfl ?_
    show own_S p e below T4 (mkF m 14 #[.val (.ref a), .val (.long js), .second, .val (.long (pn.toInt64)), .second, .unset, .unset] [(.int (lcmpW js (0 : Int64)))]) _
    refine XS.ifYes X4.here hx rfl (pc0 := 14) (pc' := 27) rfl (hb hby d6_14) rfl ((if0 _ _).trans (flt (own_lc_ge hjs : ¬ ((lcmpW js (0 : Int64)) < (0 : Int32)))).2.1) (by decide) (by decide) ?_
    show own_S p e below T4 (mkF m 27 #[.val (.ref a), .val (.long js), .second, .val (.long (pn.toInt64)), .second, .unset, .unset] []) _
    refine XS.lloadN X4.here hx rfl (hb hby d6_27) rfl ?_
    show own_S p e below T4 (mkF m 28 #[.val (.ref a), .val (.long js), .second, .val (.long (pn.toInt64)), .second, .unset, .unset] [(.long js)]) _
    refine X4.ldc2Long hx hown (mvT hZ (hw _ (own_g (i := 35) rfl))) (g := (mkF m 28 #[.val (.ref a), .val (.long js), .second, .val (.long (pn.toInt64)), .second, .unset, .unset] [(.long js)])) rfl (hb hby d6_28) _ ?_
    exact kt
  obtain ⟨_, _, ⟨T6, L6, cc6, n6⟩, -, X6, ⟨Lc6, hQ6, l6, y6, z6⟩, st6⟩ := Jvm.LawKit.callS X4 hx (y := (⟨"java/lang/Math", "multiplyExact", "(JJ)J"⟩ : MethodName)) hown (mvT hZ (hw _ (own_g (i := 49) rfl))) (mvT hZ (hw _ (own_g (i := 50) rfl))) (mvT hZ (hw _ (own_g (i := 51) rfl))) (mvT hZ (hw _ (own_g (i := 52) rfl))) (by decide) (backOf (W := 0) (rm_mulX l Z a0 hw [] (js) h0 n0 O0 (hjs) (own_le1 hpn hsum)) hZ (hw _ (own_g (i := 52) rfl)) (hw _ (own_g (i := 51) rfl)) (by decide) (by decide)) (g := (mkF m 31 #[.val (.ref a), .val (.long js), .second, .val (.long (pn.toInt64)), .second, .unset, .unset] [(.long (1000000000 : Int64)), (.long js)])) rfl (by rw [hml]; rfl) (argsL := [(.long js), (.long (1000000000 : Int64))]) (rest := []) (lenOf pd_3 rfl) rfl (by show 2 * 0 + _ ≤ _; exact Nat.le_of_eq rfl) (hb hby d6_31) (fun _ _ => ⟨rfl, e4, (by decide : 0 + 0 ≤ _), (by decide : 0 + 0 ≤ _)⟩)
  dsimp only [Pt.U, Pt.locs, Pt.cells, Pt.slots] at X6 l6 y6 z6 st6 hQ6
  subst l6 y6 z6
  obtain ⟨rfl, Nq6, eq6⟩ := hQ6
  have N6 := Fr.app N0 Nq6
  have r6 : own_R p e below _ _ T6 (mkF m 34 #[.val (.ref a), .val (.long js), .second, .val (.long (pn.toInt64)), .second, .unset, .unset] [(.long (js * (1000000000 : Int64)))]) := r5.trans fun z_ kt => st6 _ kt
  have e6 : T6.heap = h0 := eq6
  have r7 : own_R p e below _ _ T6 (mkF m 39 #[.val (.ref a), .val (.long js), .second, .val (.long (pn.toInt64)), .second, .val (.long (js * (1000000000 : Int64))), .second] [(.long (pn.toInt64)), (.long (js * (1000000000 : Int64)))]) := r6.trans fun z_ kt => by
    show own_S p e below T6 (mkF m 34 #[.val (.ref a), .val (.long js), .second, .val (.long (pn.toInt64)), .second, .unset, .unset] [(.long (js * (1000000000 : Int64)))]) _
    refine XS.lstore X6.here hx rfl (hb hby d6_34) rfl (l' := #[.val (.ref a), .val (.long js), .second, .val (.long (pn.toInt64)), .second, .val (.long (js * (1000000000 : Int64))), .second]) rfl ?_
    show own_S p e below T6 (mkF m 36 #[.val (.ref a), .val (.long js), .second, .val (.long (pn.toInt64)), .second, .val (.long (js * (1000000000 : Int64))), .second] []) _
    refine XS.lload X6.here hx rfl (hb hby d6_36) rfl ?_
    show own_S p e below T6 (mkF m 38 #[.val (.ref a), .val (.long js), .second, .val (.long (pn.toInt64)), .second, .val (.long (js * (1000000000 : Int64))), .second] [(.long (js * (1000000000 : Int64)))]) _
    refine XS.lloadN X6.here hx rfl (hb hby d6_38) rfl ?_
    exact kt
  obtain ⟨_, _, ⟨T8, L8, cc8, n8⟩, -, X8, ⟨Lc8, hQ8, l8, y8, z8⟩, st8⟩ := Jvm.LawKit.callS X6 hx (y := (⟨"java/lang/Math", "addExact", "(JJ)J"⟩ : MethodName)) hown (mvT hZ (hw _ (own_g (i := 56) rfl))) (mvT hZ (hw _ (own_g (i := 57) rfl))) (mvT hZ (hw _ (own_g (i := 51) rfl))) (mvT hZ (hw _ (own_g (i := 58) rfl))) (by decide) (backOf (W := 0) (rm_addX l Z a0 hw [] ((js * (1000000000 : Int64))) ((pn.toInt64)) h0 n0 O0 (own_mul_nn hjs (own_le1 hpn hsum)) (own_i2l_nn hpn) (own_sum_le hjs hpn hsum)) hZ (hw _ (own_g (i := 58) rfl)) (hw _ (own_g (i := 51) rfl)) (by decide) (by decide)) (g := (mkF m 39 #[.val (.ref a), .val (.long js), .second, .val (.long (pn.toInt64)), .second, .val (.long (js * (1000000000 : Int64))), .second] [(.long (pn.toInt64)), (.long (js * (1000000000 : Int64)))])) rfl (by rw [hml]; rfl) (argsL := [(.long (js * (1000000000 : Int64))), (.long (pn.toInt64))]) (rest := []) (lenOf pd_3 rfl) rfl (by show 2 * 0 + _ ≤ _; exact Nat.le_of_eq rfl) (hb hby d6_39) (fun _ _ => ⟨rfl, e6, (by decide : 0 + 0 ≤ _), (by decide : 0 + 0 ≤ _)⟩)
  dsimp only [Pt.U, Pt.locs, Pt.cells, Pt.slots] at X8 l8 y8 z8 st8 hQ8
  subst l8 y8 z8
  obtain ⟨rfl, Nq8, eq8⟩ := hQ8
  have N8 := Fr.app N6 Nq8
  have r8 : own_R p e below _ _ T8 (mkF m 42 #[.val (.ref a), .val (.long js), .second, .val (.long (pn.toInt64)), .second, .val (.long (js * (1000000000 : Int64))), .second] [(.long ((js * (1000000000 : Int64)) + (pn.toInt64)))]) := r7.trans fun z_ kt => st8 _ kt
  have e8 : T8.heap = h0 := eq8
  have r9 : own_R p e below _ _ T8 (mkF m 46 #[.val (.ref a), .val (.long js), .second, .val (.long (pn.toInt64)), .second, .val (.long ((js * (1000000000 : Int64)) + (pn.toInt64))), .second] [(.long ((js * (1000000000 : Int64)) + (pn.toInt64)))]) := r8.trans fun z_ kt => by
    show own_S p e below T8 (mkF m 42 #[.val (.ref a), .val (.long js), .second, .val (.long (pn.toInt64)), .second, .val (.long (js * (1000000000 : Int64))), .second] [(.long ((js * (1000000000 : Int64)) + (pn.toInt64)))]) _
    refine XS.lstore X8.here hx rfl (hb hby d6_42) rfl (l' := #[.val (.ref a), .val (.long js), .second, .val (.long (pn.toInt64)), .second, .val (.long ((js * (1000000000 : Int64)) + (pn.toInt64))), .second]) rfl ?_
    show own_S p e below T8 (mkF m 44 #[.val (.ref a), .val (.long js), .second, .val (.long (pn.toInt64)), .second, .val (.long ((js * (1000000000 : Int64)) + (pn.toInt64))), .second] []) _
    refine XS.lload X8.here hx rfl (hb hby d6_44) rfl ?_
    exact kt
  obtain ⟨fs, hr, hrun, hended, hW, hsame⟩ := X8.leave (v := some (.long ((js * (1000000000 : Int64)) + (pn.toInt64)))) (fun h => by rw [Bd.returns] at h; cases h)
  refine ⟨_, _, pre0 _ (r9 _ ?_), hrun, hended, _, _, rfl, ?_, ⟨_, rfl⟩, hW, hsame.mono (by decide) (by decide)⟩
  · exact retOut X8 hx Bd.returns rfl (Or.inr (Or.inl ⟨rfl, rfl, _, rfl⟩)) (hb hby d6_46) hr
  · show Q_toNanos Z a js pn h0 n0 _ T8.heap _
    rw [e8]
    exact ⟨rfl, N8, rfl⟩

theorem d3_0 : decode prog_7_method_8_code 0 = .ok (.aload_n 0, 1) := by decide +kernel
theorem d3_1 : decode prog_7_method_8_code 1 = .ok (.getfield 7, 3) := by decide +kernel
theorem d3_4 : decode prog_7_method_8_code 4 = .ok (.lconst 0, 1) := by decide +kernel
theorem d3_5 : decode prog_7_method_8_code 5 = .ok (.lcmp, 1) := by decide +kernel
theorem d3_6 : decode prog_7_method_8_code 6 = .ok (.ifCond .ne 9, 3) := by decide +kernel
theorem d3_9 : decode prog_7_method_8_code 9 = .ok (.getstatic 43, 3) := by decide +kernel
theorem d3_12 : decode prog_7_method_8_code 12 = .ok (.goto 15, 3) := by decide +kernel
theorem d3_27 : decode prog_7_method_8_code 27 = .ok (.areturn, 1) := by decide +kernel
theorem d3_15 : decode prog_7_method_8_code 15 = .ok (.aload_n 0, 1) := by decide +kernel
theorem d3_16 : decode prog_7_method_8_code 16 = .ok (.getfield 22, 3) := by decide +kernel
theorem d3_19 : decode prog_7_method_8_code 19 = .ok (.aload_n 0, 1) := by decide +kernel
theorem d3_20 : decode prog_7_method_8_code 20 = .ok (.getfield 7, 3) := by decide +kernel
theorem d3_23 : decode prog_7_method_8_code 23 = .ok (.ldiv, 1) := by decide +kernel
theorem d3_24 : decode prog_7_method_8_code 24 = .ok (.invokestatic 37, 3) := by decide +kernel
theorem pd_4 : parseMethodDescriptor "(J)Ljava/time/Duration;" = some ⟨[.long], some (.object "java/time/Duration")⟩ := by decide +kernel
theorem ef_meanWait (m : MethodId) (a : Addr) : entryFrame m #[(.ref a)] 1 = mkF m 0 #[.val (.ref a)] [] := by first | (simp [entryFrame, mkF, argsToLocals, Value.category]; done) | rfl
def Q_meanWait (Z : State) (a : Addr) (s_ZERO : Addr) (ja : Int64) (jt : Int64) (h0 : Heap) (n0 : Nat) (v : Option Value) (h : Heap) (L : List Loc) : Prop := ∃ (b : Addr) (jq : Int64), v = some (.ref b) ∧ Fr n0 L ∧ Keep h0 h [] ∧ (Exa Z h b "java/time/Duration") ∧ (Fld Z h b "java/time/Duration" "seconds" "J" (.long (jq / (1000000000 : Int64)))) ∧ (Fld Z h b "java/time/Duration" "nanos" "I" (.int ((jq - (jq / (1000000000 : Int64)) * (1000000000 : Int64)).toInt32))) ∧ ((ja = (0 : Int64) ∧ jq = (0 : Int64)) ∨ (¬ (ja = (0 : Int64)) ∧ jq = jt / ja))
set_option maxRecDepth 65536 in
set_option maxHeartbeats 40000000 in
theorem rm_meanWait (l : Launch) (Z : State) (a0 : Array Value) (hw : ∀ d ∈ tables_1, d.before a0 Z = true) (ws : List Jvm.Cond) (a : Addr) (s_ZERO : Addr) (ja : Int64) (jt : Int64) (h0 : Heap) (n0 : Nat) (O0 : Old Z n0 h0) (S_Duration_ZERO : Sta Z Z.heap "java/time/Duration" "ZERO" "Ljava/time/Duration;" (.ref s_ZERO)) (OE_s_ZERO : Exa Z Z.heap s_ZERO "java/time/Duration") (OF_s_ZERO_seconds : Fld Z Z.heap s_ZERO "java/time/Duration" "seconds" "J" (.long (0 : Int64))) (OF_s_ZERO_nanos : Fld Z Z.heap s_ZERO "java/time/Duration" "nanos" "I" (.int (0 : Int32))) (F_a_acquireAttempts : Fld Z h0 a "com/example/kubera/kubera/LockMetrics" "acquireAttempts" "J" (.long ja)) (F_a_totalWaitNanos : Fld Z h0 a "com/example/kubera/kubera/LockMetrics" "totalWaitNanos" "J" (.long jt)) (hja : 0 ≤ ja.toInt) (hjt : 0 ≤ jt.toInt) :
    MetFree l (⟨"com/example/kubera/kubera/LockMetrics", "meanWait", "()Ljava/time/Duration;"⟩ : MethodName) (head1 (Jvm.Cond.code (⟨"com/example/kubera/kubera/LockMetrics", "meanWait", "()Ljava/time/Duration;"⟩ : MethodName) prog_7_method_8_code 1 (some (.object "java/time/Duration")) :: ws) ({ frames := 4, cells := 1, slots := 2, locals := 58 } : Room)) (fun aa_ U => aa_ = #[(.ref a)] ∧ Z.Warmed39 U.vm ∧ U.heap = h0) (fun _ _ _ _ _ => True) (fun _ U o U' => ∃ v L, o = .returned v ∧ Q_meanWait Z a s_ZERO ja jt h0 n0 v U'.heap L ∧ FrameEnd U o U' L ({ frames := 4, cells := 1, slots := 2, locals := 58 } : Room).cells ({ frames := 4, cells := 1, slots := 2, locals := 58 } : Room).slots) := by
  refine MetFree.of_bodySF (plainFor_of_name pn_LockMetrics) hisR ?_
  intro p e s m args below meth c s₁ Bd hml0 hP hK
  obtain ⟨rfl, hZ, hh⟩ := hP
  have hx := Bd.exec
  have hby := Bd.bytes
  have hml : c.maxLocals = 1 := hml0
  have hown : s.vm.findClass "com/example/kubera/kubera/LockMetrics" = some m.cls := findClass_of_methodNamed Bd.named
  have hnm := (name_of_methodNamed Bd.named Bd.method).1
  have X0 : Stand p l e ({ frames := 4, cells := 1, slots := 2, locals := 58 } : Room) s m #[(.ref a)] below meth c s₁ [] 0 0 := Stand.of_body Bd
  have e0 : s₁.heap = h0 := by rw [← hh, Bd.state]; rfl
  have N0 := Fr.nil n0
  have K0 : Keep h0 h0 [] := Keep.refl h0 _
  have pre0 : ∀ t, Steps p.tables e below (s₁.setTop (mkF m 0 #[.val (.ref a)] [])) t → Steps p.tables e below (s₁.setTop (entryFrame m #[(.ref a)] 1)) t := fun t k => castTop (ef_meanWait m a) k
  have r0 : own_R p e below s₁ (mkF m 0 #[.val (.ref a)] []) s₁ (mkF m 0 #[.val (.ref a)] []) := own_R.refl
  have r1 : own_R p e below _ _ s₁ (mkF m 1 #[.val (.ref a)] [(.ref a)]) := r0.trans fun z_ kt => by
    show own_S p e below s₁ (mkF m 0 #[.val (.ref a)] []) _
    refine XS.aloadN X0.here hx rfl (hb hby d3_0) rfl rfl ?_
    exact kt
  obtain ⟨T2, X2, e2, st2⟩ := getF X0 hx hZ hown (host := "") (Or.inl (hw _ (own_g (i := 10) rfl))) Via.refl e0 F_a_acquireAttempts (g := (mkF m 1 #[.val (.ref a)] [(.ref a)])) rfl rfl (hb hby d3_1)
  have r2 : own_R p e below _ _ T2 (mkF m 4 #[.val (.ref a)] [(.long ja)]) := r1.trans fun z_ kt => st2 _ kt
  have r3 : own_R p e below _ _ T2 (mkF m 6 #[.val (.ref a)] [(.int (lcmpW ja (0 : Int64)))]) := r2.trans fun z_ kt => by
    show own_S p e below T2 (mkF m 4 #[.val (.ref a)] [(.long ja)]) _
    refine XS.lconst X2.here hx rfl (hb hby d3_4) ?_
    show own_S p e below T2 (mkF m 5 #[.val (.ref a)] [(.long (0 : Int64)), (.long ja)]) _
    refine XS.lcmp X2.here hx rfl (hb hby d3_5) rfl ?_
    exact kt
  by_cases hc6_4 : (lcmpW ja (0 : Int64)) = (0 : Int32)
  · skip
    have r5 : own_R p e below _ _ T2 (mkF m 9 #[.val (.ref a)] []) := r3.trans fun z_ kt => by
      show own_S p e below T2 (mkF m 6 #[.val (.ref a)] [(.int (lcmpW ja (0 : Int64)))]) _
      refine XS.ifNo X2.here hx rfl (hb hby d3_6) rfl ((if0 _ _).trans (teq (hc6_4 : (lcmpW ja (0 : Int64)) = (0 : Int32))).2) ?_
      exact kt
    obtain ⟨T6, X6, e6, st6⟩ := getS2 X2 hx hZ hown (host := "") (Or.inl (hw _ (own_g (i := 67) rfl))) Via.refl e2 (S_Duration_ZERO.ext O0.2) (g := (mkF m 9 #[.val (.ref a)] [])) rfl (hb hby d3_9)
    have r6 : own_R p e below _ _ T6 (mkF m 12 #[.val (.ref a)] [(.ref s_ZERO)]) := r5.trans fun z_ kt => st6 _ kt
    have r7 : own_R p e below _ _ T6 (mkF m 27 #[.val (.ref a)] [(.ref s_ZERO)]) := r6.trans fun z_ kt => by
      show own_S p e below T6 (mkF m 12 #[.val (.ref a)] [(.ref s_ZERO)]) _
      refine XS.goto X6.here hx rfl (pc0 := 12) (pc' := 27) rfl (hb hby d3_12) (by decide) (by decide) ?_
      exact kt
    obtain ⟨fs, hr, hrun, hended, hW, hsame⟩ := X6.leave (v := some (.ref s_ZERO)) (fun h => by rw [Bd.returns] at h; cases h)
    refine ⟨_, _, pre0 _ (r7 _ ?_), hrun, hended, _, _, rfl, ?_, ⟨_, rfl⟩, hW, hsame.mono (by decide) (by decide)⟩
    · exact retOut X6 hx Bd.returns rfl (Or.inr (Or.inr (Or.inr (Or.inr ⟨rfl, rfl, rfl⟩)))) (hb hby d3_27) hr
    · show Q_meanWait Z a s_ZERO ja jt h0 n0 _ T6.heap _
      rw [e6]
      exact ⟨s_ZERO, (0 : Int64), rfl, N0, K0, (OE_s_ZERO.ext O0.2), (by rw [own_zdiv]; exact (OF_s_ZERO_seconds.ext O0.2)), (by rw [own_zrem]; exact (OF_s_ZERO_nanos.ext O0.2)), Or.inl ⟨own_lc_eq' hc6_4, rfl⟩⟩
  · skip
    have r8 : own_R p e below _ _ T2 (mkF m 16 #[.val (.ref a)] [(.ref a)]) := r3.trans fun z_ kt => by
      show own_S p e below T2 (mkF m 6 #[.val (.ref a)] [(.int (lcmpW ja (0 : Int64)))]) _
      refine XS.ifYes X2.here hx rfl (pc0 := 6) (pc' := 15) rfl (hb hby d3_6) rfl ((if0 _ _).trans (feq (hc6_4 : ¬ ((lcmpW ja (0 : Int64)) = (0 : Int32)))).2) (by decide) (by decide) ?_
      show own_S p e below T2 (mkF m 15 #[.val (.ref a)] []) _
      refine XS.aloadN X2.here hx rfl (hb hby d3_15) rfl rfl ?_
      exact kt
    obtain ⟨T9, X9, e9, st9⟩ := getF X2 hx hZ hown (host := "") (Or.inl (hw _ (own_g (i := 18) rfl))) Via.refl e2 F_a_totalWaitNanos (g := (mkF m 16 #[.val (.ref a)] [(.ref a)])) rfl rfl (hb hby d3_16)
    have r9 : own_R p e below _ _ T9 (mkF m 19 #[.val (.ref a)] [(.long jt)]) := r8.trans fun z_ kt => st9 _ kt
    have r10 : own_R p e below _ _ T9 (mkF m 20 #[.val (.ref a)] [(.ref a), (.long jt)]) := r9.trans fun z_ kt => by
      show own_S p e below T9 (mkF m 19 #[.val (.ref a)] [(.long jt)]) _
      refine XS.aloadN X9.here hx rfl (hb hby d3_19) rfl rfl ?_
      exact kt
    obtain ⟨T11, X11, e11, st11⟩ := getF X9 hx hZ hown (host := "") (Or.inl (hw _ (own_g (i := 10) rfl))) Via.refl e9 F_a_acquireAttempts (g := (mkF m 20 #[.val (.ref a)] [(.ref a), (.long jt)])) rfl rfl (hb hby d3_20)
    have r11 : own_R p e below _ _ T11 (mkF m 23 #[.val (.ref a)] [(.long ja), (.long jt)]) := r10.trans fun z_ kt => st11 _ kt
    have r12 : own_R p e below _ _ T11 (mkF m 24 #[.val (.ref a)] [(.long (jt / ja))]) := r11.trans fun z_ kt => by
      show own_S p e below T11 (mkF m 23 #[.val (.ref a)] [(.long ja), (.long jt)]) _
      refine XS.ldiv X11.here hx rfl (hb hby d3_23) rfl (own_lc_ne' hc6_4) ?_
      exact kt
    obtain ⟨_, _, ⟨T13, L13, cc13, n13⟩, -, X13, ⟨Lc13, hQ13, l13, y13, z13⟩, st13⟩ := Jvm.LawKit.callS X11 hx (y := (⟨"java/time/Duration", "ofNanos", "(J)Ljava/time/Duration;"⟩ : MethodName)) hown (mvT hZ (hw _ (own_g (i := 31) rfl))) (mvT hZ (hw _ (own_g (i := 32) rfl))) (mvT hZ (hw _ (own_g (i := 33) rfl))) (mvT hZ (hw _ (own_g (i := 34) rfl))) (by decide) (backOf (W := 0) (rm_ofNanos l Z a0 hw [] ((jt / ja)) (s_ZERO) h0 n0 O0 (S_Duration_ZERO) (OE_s_ZERO) (OF_s_ZERO_seconds) (OF_s_ZERO_nanos) (own_div_nn hjt hja (own_lc_ne' hc6_4))) hZ (hw _ (own_g (i := 34) rfl)) (hw _ (own_g (i := 33) rfl)) (by decide) (by decide)) (g := (mkF m 24 #[.val (.ref a)] [(.long (jt / ja))])) rfl (by rw [hml]; rfl) (argsL := [(.long (jt / ja))]) (rest := []) (lenOf pd_4 rfl) rfl (by show 2 * 0 + _ ≤ _; exact Nat.le_of_eq rfl) (hb hby d3_24) (fun _ _ => ⟨rfl, e11, (by decide : 0 + 1 ≤ _), (by decide : 0 + 2 ≤ _)⟩)
    dsimp only [Pt.U, Pt.locs, Pt.cells, Pt.slots] at X13 l13 y13 z13 st13 hQ13
    subst l13 y13 z13
    obtain ⟨h13, e13⟩ : ∃ z, T13.heap = z := ⟨_, rfl⟩
    rw [e13] at hQ13
    obtain ⟨b_13, rfl, Nq13, Kq13, p13_0, p13_1, p13_2⟩ := hQ13
    have N13 := Fr.app N0 Nq13
    have r13 : own_R p e below _ _ T13 (mkF m 27 #[.val (.ref a)] [(.ref b_13)]) := r12.trans fun z_ kt => st13 _ kt
    have O13 := O0.keep Kq13 all0
    have K13 := K0.trans Kq13 all0
    obtain ⟨fs, hr, hrun, hended, hW, hsame⟩ := X13.leave (v := some (.ref b_13)) (fun h => by rw [Bd.returns] at h; cases h)
    refine ⟨_, _, pre0 _ (r13 _ ?_), hrun, hended, _, _, rfl, ?_, ⟨_, rfl⟩, hW, hsame.mono (by decide) (by decide)⟩
    · exact retOut X13 hx Bd.returns rfl (Or.inr (Or.inr (Or.inr (Or.inr ⟨rfl, rfl, rfl⟩)))) (hb hby d3_27) hr
    · show Q_meanWait Z a s_ZERO ja jt h0 n0 _ T13.heap _
      rw [e13]
      exact ⟨b_13, (jt / ja), rfl, N13, K13, p13_0, p13_1, p13_2, Or.inr ⟨own_lc_ne' hc6_4, rfl⟩⟩

theorem pd_5 : parseMethodDescriptor "(JJJJJJJJ)V" = some ⟨[.long, .long, .long, .long, .long, .long, .long, .long], none⟩ := by decide +kernel
theorem pd_6 : parseMethodDescriptor "()Ljava/time/Duration;" = some ⟨[], some (.object "java/time/Duration")⟩ := by decide +kernel
theorem pd_7 : parseMethodDescriptor "()J" = some ⟨[], some .long⟩ := by decide +kernel
theorem pn_LockMetricsMeanWaitPinLaw : plainName "com/example/kubera/kubera/LockMetricsMeanWaitPinLaw" = true := by first | (simp [plainName, overriddenIn]; done) | decide +kernel
theorem ef_law (m : MethodId) (ja0 : Int64) (jt0 : Int64) (jx : Int64) (jy : Int64) (pk : Int32) : entryFrame m #[(.long ja0), (.long jt0), (.long jx), (.long jy), (.int pk)] maxLocals = mkF m 0 #[.val (.long ja0), .second, .val (.long jt0), .second, .val (.long jx), .second, .val (.long jy), .second, .val (.int pk), .unset, .unset, .unset, .unset, .unset, .unset, .unset, .unset, .unset, .unset] [] := by first | (simp [entryFrame, mkF, argsToLocals, Value.category, maxLocals]; done) | rfl
def Q_law (Z : State) (ja0 : Int64) (jt0 : Int64) (jx : Int64) (jy : Int64) (pk : Int32) (s_ZERO : Addr) (h0 : Heap) (n0 : Nat) (v : Option Value) (h : Heap) (L : List Loc) : Prop := v = some (.int (1 : Int32)) ∧ Fr n0 L
set_option maxRecDepth 65536 in
set_option maxHeartbeats 40000000 in
theorem rm_law (l : Launch) (Z : State) (a0 : Array Value) (hw : ∀ d ∈ tables_1, d.before a0 Z = true) (ws : List Jvm.Cond) (ja0 : Int64) (jt0 : Int64) (jx : Int64) (jy : Int64) (pk : Int32) (s_ZERO : Addr) (h0 : Heap) (n0 : Nat) (O0 : Old Z n0 h0) (S_Duration_ZERO : Sta Z Z.heap "java/time/Duration" "ZERO" "Ljava/time/Duration;" (.ref s_ZERO)) (OE_s_ZERO : Exa Z Z.heap s_ZERO "java/time/Duration") (OF_s_ZERO_seconds : Fld Z Z.heap s_ZERO "java/time/Duration" "seconds" "J" (.long (0 : Int64))) (OF_s_ZERO_nanos : Fld Z Z.heap s_ZERO "java/time/Duration" "nanos" "I" (.int (0 : Int32))) :
    MetFree l x (head1 (Jvm.Cond.code x code maxLocals ret :: ws) room_1) (fun aa_ U => aa_ = #[(.long ja0), (.long jt0), (.long jx), (.long jy), (.int pk)] ∧ Z.Warmed39 U.vm ∧ U.heap = h0) (fun _ _ _ _ _ => True) (fun _ U o U' => ∃ v L, o = .returned v ∧ Q_law Z ja0 jt0 jx jy pk s_ZERO h0 n0 v U'.heap L ∧ FrameEnd U o U' L room_1.cells room_1.slots) := by
  refine MetFree.of_bodySF (plainFor_of_name pn_LockMetricsMeanWaitPinLaw) hisR ?_
  intro p e s m args below meth c s₁ Bd hml0 hP hK
  obtain ⟨rfl, hZ, hh⟩ := hP
  have hx := Bd.exec
  have hby := Bd.bytes
  have hml : c.maxLocals = 19 := hml0
  have hown : s.vm.findClass "com/example/kubera/kubera/LockMetricsMeanWaitPinLaw" = some m.cls := findClass_of_methodNamed Bd.named
  have hnm := (name_of_methodNamed Bd.named Bd.method).1
  have X0 : Stand p l e room_1 s m #[(.long ja0), (.long jt0), (.long jx), (.long jy), (.int pk)] below meth c s₁ [] 0 0 := Stand.of_body Bd
  have e0 : s₁.heap = h0 := by rw [← hh, Bd.state]; rfl
  have N0 := Fr.nil n0
  have pre0 : ∀ t, Steps p.tables e below (s₁.setTop (mkF m 0 #[.val (.long ja0), .second, .val (.long jt0), .second, .val (.long jx), .second, .val (.long jy), .second, .val (.int pk), .unset, .unset, .unset, .unset, .unset, .unset, .unset, .unset, .unset, .unset] [])) t → Steps p.tables e below (s₁.setTop (entryFrame m #[(.long ja0), (.long jt0), (.long jx), (.long jy), (.int pk)] maxLocals)) t := fun t k => castTop (ef_law m ja0 jt0 jx jy pk) k
  have r0 : own_R p e below s₁ (mkF m 0 #[.val (.long ja0), .second, .val (.long jt0), .second, .val (.long jx), .second, .val (.long jy), .second, .val (.int pk), .unset, .unset, .unset, .unset, .unset, .unset, .unset, .unset, .unset, .unset] []) s₁ (mkF m 0 #[.val (.long ja0), .second, .val (.long jt0), .second, .val (.long jx), .second, .val (.long jy), .second, .val (.int pk), .unset, .unset, .unset, .unset, .unset, .unset, .unset, .unset, .unset, .unset] []) := own_R.refl
  have r1 : own_R p e below _ _ s₁ (mkF m 7 #[.val (.long ja0), .second, .val (.long jt0), .second, .val (.long jx), .second, .val (.long jy), .second, .val (.int pk), .val (.long (jt0 &&& (9223372036854775807 : Int64))), .second, .unset, .unset, .unset, .unset, .unset, .unset, .unset, .unset] []) := r0.trans fun z_ kt => by
    show own_S p e below s₁ (mkF m 0 #[.val (.long ja0), .second, .val (.long jt0), .second, .val (.long jx), .second, .val (.long jy), .second, .val (.int pk), .unset, .unset, .unset, .unset, .unset, .unset, .unset, .unset, .unset, .unset] []) _
    refine XS.lloadN X0.here hx rfl (hb hby at_0) rfl ?_
    show own_S p e below s₁ (mkF m 1 #[.val (.long ja0), .second, .val (.long jt0), .second, .val (.long jx), .second, .val (.long jy), .second, .val (.int pk), .unset, .unset, .unset, .unset, .unset, .unset, .unset, .unset, .unset, .unset] [(.long jt0)]) _
    refine X0.ldc2Long hx hown (mvT hZ (hw _ (own_g (i := 0) rfl))) (g := (mkF m 1 #[.val (.long ja0), .second, .val (.long jt0), .second, .val (.long jx), .second, .val (.long jy), .second, .val (.int pk), .unset, .unset, .unset, .unset, .unset, .unset, .unset, .unset, .unset, .unset] [(.long jt0)])) rfl (hb hby at_1) _ ?_
    show own_S p e below s₁ (mkF m 4 #[.val (.long ja0), .second, .val (.long jt0), .second, .val (.long jx), .second, .val (.long jy), .second, .val (.int pk), .unset, .unset, .unset, .unset, .unset, .unset, .unset, .unset, .unset, .unset] [(.long (9223372036854775807 : Int64)), (.long jt0)]) _
    refine XS.land X0.here hx rfl (hb hby at_4) rfl ?_
    show own_S p e below s₁ (mkF m 5 #[.val (.long ja0), .second, .val (.long jt0), .second, .val (.long jx), .second, .val (.long jy), .second, .val (.int pk), .unset, .unset, .unset, .unset, .unset, .unset, .unset, .unset, .unset, .unset] [(.long (jt0 &&& (9223372036854775807 : Int64)))]) _
    refine XS.lstore X0.here hx rfl (hb hby at_5) rfl (l' := #[.val (.long ja0), .second, .val (.long jt0), .second, .val (.long jx), .second, .val (.long jy), .second, .val (.int pk), .val (.long (jt0 &&& (9223372036854775807 : Int64))), .second, .unset, .unset, .unset, .unset, .unset, .unset, .unset, .unset]) rfl ?_
    exact kt
  obtain ⟨jt, h_jt⟩ : ∃ z, z = (jt0 &&& (9223372036854775807 : Int64)) := ⟨_, rfl⟩
  rw [← h_jt] at r1
  have hjt : 0 ≤ jt.toInt := h_jt ▸ own_mask_nn jt0
  have r2 : own_R p e below _ _ s₁ (mkF m 15 #[.val (.long ja0), .second, .val (.long jt0), .second, .val (.long jx), .second, .val (.long jy), .second, .val (.int pk), .val (.long jt), .second, .unset, .unset, .val (.int (pk &&& (3 : Int32))), .unset, .unset, .unset, .unset, .unset] [(.int (pk &&& (3 : Int32)))]) := r1.trans fun z_ kt => by
    show own_S p e below s₁ (mkF m 7 #[.val (.long ja0), .second, .val (.long jt0), .second, .val (.long jx), .second, .val (.long jy), .second, .val (.int pk), .val (.long jt), .second, .unset, .unset, .unset, .unset, .unset, .unset, .unset, .unset] []) _
    refine XS.iload X0.here hx rfl (hb hby at_7) rfl ?_
    show own_S p e below s₁ (mkF m 9 #[.val (.long ja0), .second, .val (.long jt0), .second, .val (.long jx), .second, .val (.long jy), .second, .val (.int pk), .val (.long jt), .second, .unset, .unset, .unset, .unset, .unset, .unset, .unset, .unset] [(.int pk)]) _
    refine XS.iconst X0.here hx rfl (hb hby at_9) ?_
    show own_S p e below s₁ (mkF m 10 #[.val (.long ja0), .second, .val (.long jt0), .second, .val (.long jx), .second, .val (.long jy), .second, .val (.int pk), .val (.long jt), .second, .unset, .unset, .unset, .unset, .unset, .unset, .unset, .unset] [(.int (3 : Int32)), (.int pk)]) _
    refine XS.iand X0.here hx rfl (hb hby at_10) rfl ?_
    show own_S p e below s₁ (mkF m 11 #[.val (.long ja0), .second, .val (.long jt0), .second, .val (.long jx), .second, .val (.long jy), .second, .val (.int pk), .val (.long jt), .second, .unset, .unset, .unset, .unset, .unset, .unset, .unset, .unset] [(.int (pk &&& (3 : Int32)))]) _
    refine XS.istore X0.here hx rfl (hb hby at_11) rfl (l' := #[.val (.long ja0), .second, .val (.long jt0), .second, .val (.long jx), .second, .val (.long jy), .second, .val (.int pk), .val (.long jt), .second, .unset, .unset, .val (.int (pk &&& (3 : Int32))), .unset, .unset, .unset, .unset, .unset]) rfl ?_
    show own_S p e below s₁ (mkF m 13 #[.val (.long ja0), .second, .val (.long jt0), .second, .val (.long jx), .second, .val (.long jy), .second, .val (.int pk), .val (.long jt), .second, .unset, .unset, .val (.int (pk &&& (3 : Int32))), .unset, .unset, .unset, .unset, .unset] []) _
    refine XS.iload X0.here hx rfl (hb hby at_13) rfl ?_
    exact kt
  obtain ⟨ja, h_ja, r3⟩ : ∃ ja : Int64, (0 ≤ ja.toInt) ∧ own_R p e below s₁ (mkF m 0 #[.val (.long ja0), .second, .val (.long jt0), .second, .val (.long jx), .second, .val (.long jy), .second, .val (.int pk), .unset, .unset, .unset, .unset, .unset, .unset, .unset, .unset, .unset, .unset] []) s₁ (mkF m 47 #[.val (.long ja0), .second, .val (.long jt0), .second, .val (.long jx), .second, .val (.long jy), .second, .val (.int pk), .val (.long jt), .second, .val (.long ja), .second, .val (.int (pk &&& (3 : Int32))), .unset, .unset, .unset, .unset, .unset] []) := by
    by_cases hc15_4 : (pk &&& (3 : Int32)) = (0 : Int32)
    · skip
      have r5 : own_R p e below _ _ s₁ (mkF m 47 #[.val (.long ja0), .second, .val (.long jt0), .second, .val (.long jx), .second, .val (.long jy), .second, .val (.int pk), .val (.long jt), .second, .val (.long (0 : Int64)), .second, .val (.int (pk &&& (3 : Int32))), .unset, .unset, .unset, .unset, .unset] []) := r2.trans fun z_ kt => by
        show own_S p e below s₁ (mkF m 15 #[.val (.long ja0), .second, .val (.long jt0), .second, .val (.long jx), .second, .val (.long jy), .second, .val (.int pk), .val (.long jt), .second, .unset, .unset, .val (.int (pk &&& (3 : Int32))), .unset, .unset, .unset, .unset, .unset] [(.int (pk &&& (3 : Int32)))]) _
        refine XS.ifNo X0.here hx rfl (hb hby at_15) rfl ((if0 _ _).trans (teq (hc15_4 : (pk &&& (3 : Int32)) = (0 : Int32))).2) ?_
        show own_S p e below s₁ (mkF m 18 #[.val (.long ja0), .second, .val (.long jt0), .second, .val (.long jx), .second, .val (.long jy), .second, .val (.int pk), .val (.long jt), .second, .unset, .unset, .val (.int (pk &&& (3 : Int32))), .unset, .unset, .unset, .unset, .unset] []) _
        refine XS.lconst X0.here hx rfl (hb hby at_18) ?_
        show own_S p e below s₁ (mkF m 19 #[.val (.long ja0), .second, .val (.long jt0), .second, .val (.long jx), .second, .val (.long jy), .second, .val (.int pk), .val (.long jt), .second, .unset, .unset, .val (.int (pk &&& (3 : Int32))), .unset, .unset, .unset, .unset, .unset] [(.long (0 : Int64))]) _
        refine XS.lstore X0.here hx rfl (hb hby at_19) rfl (l' := #[.val (.long ja0), .second, .val (.long jt0), .second, .val (.long jx), .second, .val (.long jy), .second, .val (.int pk), .val (.long jt), .second, .val (.long (0 : Int64)), .second, .val (.int (pk &&& (3 : Int32))), .unset, .unset, .unset, .unset, .unset]) rfl ?_
        show own_S p e below s₁ (mkF m 21 #[.val (.long ja0), .second, .val (.long jt0), .second, .val (.long jx), .second, .val (.long jy), .second, .val (.int pk), .val (.long jt), .second, .val (.long (0 : Int64)), .second, .val (.int (pk &&& (3 : Int32))), .unset, .unset, .unset, .unset, .unset] []) _
        refine XS.goto X0.here hx rfl (pc0 := 21) (pc' := 47) rfl (hb hby at_21) (by decide) (by decide) ?_
        exact kt
      exact ⟨(0 : Int64), (by decide), r5⟩
    · skip
      have r6 : own_R p e below _ _ s₁ (mkF m 27 #[.val (.long ja0), .second, .val (.long jt0), .second, .val (.long jx), .second, .val (.long jy), .second, .val (.int pk), .val (.long jt), .second, .unset, .unset, .val (.int (pk &&& (3 : Int32))), .unset, .unset, .unset, .unset, .unset] [(.int (1 : Int32)), (.int (pk &&& (3 : Int32)))]) := r2.trans fun z_ kt => by
        show own_S p e below s₁ (mkF m 15 #[.val (.long ja0), .second, .val (.long jt0), .second, .val (.long jx), .second, .val (.long jy), .second, .val (.int pk), .val (.long jt), .second, .unset, .unset, .val (.int (pk &&& (3 : Int32))), .unset, .unset, .unset, .unset, .unset] [(.int (pk &&& (3 : Int32)))]) _
        refine XS.ifYes X0.here hx rfl (pc0 := 15) (pc' := 24) rfl (hb hby at_15) rfl ((if0 _ _).trans (feq (hc15_4 : ¬ ((pk &&& (3 : Int32)) = (0 : Int32)))).2) (by decide) (by decide) ?_
        show own_S p e below s₁ (mkF m 24 #[.val (.long ja0), .second, .val (.long jt0), .second, .val (.long jx), .second, .val (.long jy), .second, .val (.int pk), .val (.long jt), .second, .unset, .unset, .val (.int (pk &&& (3 : Int32))), .unset, .unset, .unset, .unset, .unset] []) _
        refine XS.iload X0.here hx rfl (hb hby at_24) rfl ?_
        show own_S p e below s₁ (mkF m 26 #[.val (.long ja0), .second, .val (.long jt0), .second, .val (.long jx), .second, .val (.long jy), .second, .val (.int pk), .val (.long jt), .second, .unset, .unset, .val (.int (pk &&& (3 : Int32))), .unset, .unset, .unset, .unset, .unset] [(.int (pk &&& (3 : Int32)))]) _
        refine XS.iconst X0.here hx rfl (hb hby at_26) ?_
        exact kt
      by_cases hc27_7 : (pk &&& (3 : Int32)) = (1 : Int32)
      · skip
        have r8 : own_R p e below _ _ s₁ (mkF m 47 #[.val (.long ja0), .second, .val (.long jt0), .second, .val (.long jx), .second, .val (.long jy), .second, .val (.int pk), .val (.long jt), .second, .val (.long (ja0 &&& (15 : Int64))), .second, .val (.int (pk &&& (3 : Int32))), .unset, .unset, .unset, .unset, .unset] []) := r6.trans fun z_ kt => by
          show own_S p e below s₁ (mkF m 27 #[.val (.long ja0), .second, .val (.long jt0), .second, .val (.long jx), .second, .val (.long jy), .second, .val (.int pk), .val (.long jt), .second, .unset, .unset, .val (.int (pk &&& (3 : Int32))), .unset, .unset, .unset, .unset, .unset] [(.int (1 : Int32)), (.int (pk &&& (3 : Int32)))]) _
          refine XS.icmpNo X0.here hx rfl (hb hby at_27) rfl (teq (hc27_7 : (pk &&& (3 : Int32)) = (1 : Int32))).2 ?_
          show own_S p e below s₁ (mkF m 30 #[.val (.long ja0), .second, .val (.long jt0), .second, .val (.long jx), .second, .val (.long jy), .second, .val (.int pk), .val (.long jt), .second, .unset, .unset, .val (.int (pk &&& (3 : Int32))), .unset, .unset, .unset, .unset, .unset] []) _
          refine XS.lloadN X0.here hx rfl (hb hby at_30) rfl ?_
          show own_S p e below s₁ (mkF m 31 #[.val (.long ja0), .second, .val (.long jt0), .second, .val (.long jx), .second, .val (.long jy), .second, .val (.int pk), .val (.long jt), .second, .unset, .unset, .val (.int (pk &&& (3 : Int32))), .unset, .unset, .unset, .unset, .unset] [(.long ja0)]) _
          refine X0.ldc2Long hx hown (mvT hZ (hw _ (own_g (i := 59) rfl))) (g := (mkF m 31 #[.val (.long ja0), .second, .val (.long jt0), .second, .val (.long jx), .second, .val (.long jy), .second, .val (.int pk), .val (.long jt), .second, .unset, .unset, .val (.int (pk &&& (3 : Int32))), .unset, .unset, .unset, .unset, .unset] [(.long ja0)])) rfl (hb hby at_31) _ ?_
          show own_S p e below s₁ (mkF m 34 #[.val (.long ja0), .second, .val (.long jt0), .second, .val (.long jx), .second, .val (.long jy), .second, .val (.int pk), .val (.long jt), .second, .unset, .unset, .val (.int (pk &&& (3 : Int32))), .unset, .unset, .unset, .unset, .unset] [(.long (15 : Int64)), (.long ja0)]) _
          refine XS.land X0.here hx rfl (hb hby at_34) rfl ?_
          show own_S p e below s₁ (mkF m 35 #[.val (.long ja0), .second, .val (.long jt0), .second, .val (.long jx), .second, .val (.long jy), .second, .val (.int pk), .val (.long jt), .second, .unset, .unset, .val (.int (pk &&& (3 : Int32))), .unset, .unset, .unset, .unset, .unset] [(.long (ja0 &&& (15 : Int64)))]) _
          refine XS.lstore X0.here hx rfl (hb hby at_35) rfl (l' := #[.val (.long ja0), .second, .val (.long jt0), .second, .val (.long jx), .second, .val (.long jy), .second, .val (.int pk), .val (.long jt), .second, .val (.long (ja0 &&& (15 : Int64))), .second, .val (.int (pk &&& (3 : Int32))), .unset, .unset, .unset, .unset, .unset]) rfl ?_
          show own_S p e below s₁ (mkF m 37 #[.val (.long ja0), .second, .val (.long jt0), .second, .val (.long jx), .second, .val (.long jy), .second, .val (.int pk), .val (.long jt), .second, .val (.long (ja0 &&& (15 : Int64))), .second, .val (.int (pk &&& (3 : Int32))), .unset, .unset, .unset, .unset, .unset] []) _
          refine XS.goto X0.here hx rfl (pc0 := 37) (pc' := 47) rfl (hb hby at_37) (by decide) (by decide) ?_
          exact kt
        exact ⟨(ja0 &&& (15 : Int64)), own_mask15_nn _, r8⟩
      · skip
        have r9 : own_R p e below _ _ s₁ (mkF m 47 #[.val (.long ja0), .second, .val (.long jt0), .second, .val (.long jx), .second, .val (.long jy), .second, .val (.int pk), .val (.long jt), .second, .val (.long (ja0 &&& (9223372036854775807 : Int64))), .second, .val (.int (pk &&& (3 : Int32))), .unset, .unset, .unset, .unset, .unset] []) := r6.trans fun z_ kt => by
          show own_S p e below s₁ (mkF m 27 #[.val (.long ja0), .second, .val (.long jt0), .second, .val (.long jx), .second, .val (.long jy), .second, .val (.int pk), .val (.long jt), .second, .unset, .unset, .val (.int (pk &&& (3 : Int32))), .unset, .unset, .unset, .unset, .unset] [(.int (1 : Int32)), (.int (pk &&& (3 : Int32)))]) _
          refine XS.icmpYes X0.here hx rfl (pc0 := 27) (pc' := 40) rfl (hb hby at_27) rfl (feq (hc27_7 : ¬ ((pk &&& (3 : Int32)) = (1 : Int32)))).2 (by decide) (by decide) ?_
          show own_S p e below s₁ (mkF m 40 #[.val (.long ja0), .second, .val (.long jt0), .second, .val (.long jx), .second, .val (.long jy), .second, .val (.int pk), .val (.long jt), .second, .unset, .unset, .val (.int (pk &&& (3 : Int32))), .unset, .unset, .unset, .unset, .unset] []) _
          refine XS.lloadN X0.here hx rfl (hb hby at_40) rfl ?_
          show own_S p e below s₁ (mkF m 41 #[.val (.long ja0), .second, .val (.long jt0), .second, .val (.long jx), .second, .val (.long jy), .second, .val (.int pk), .val (.long jt), .second, .unset, .unset, .val (.int (pk &&& (3 : Int32))), .unset, .unset, .unset, .unset, .unset] [(.long ja0)]) _
          refine X0.ldc2Long hx hown (mvT hZ (hw _ (own_g (i := 0) rfl))) (g := (mkF m 41 #[.val (.long ja0), .second, .val (.long jt0), .second, .val (.long jx), .second, .val (.long jy), .second, .val (.int pk), .val (.long jt), .second, .unset, .unset, .val (.int (pk &&& (3 : Int32))), .unset, .unset, .unset, .unset, .unset] [(.long ja0)])) rfl (hb hby at_41) _ ?_
          show own_S p e below s₁ (mkF m 44 #[.val (.long ja0), .second, .val (.long jt0), .second, .val (.long jx), .second, .val (.long jy), .second, .val (.int pk), .val (.long jt), .second, .unset, .unset, .val (.int (pk &&& (3 : Int32))), .unset, .unset, .unset, .unset, .unset] [(.long (9223372036854775807 : Int64)), (.long ja0)]) _
          refine XS.land X0.here hx rfl (hb hby at_44) rfl ?_
          show own_S p e below s₁ (mkF m 45 #[.val (.long ja0), .second, .val (.long jt0), .second, .val (.long jx), .second, .val (.long jy), .second, .val (.int pk), .val (.long jt), .second, .unset, .unset, .val (.int (pk &&& (3 : Int32))), .unset, .unset, .unset, .unset, .unset] [(.long (ja0 &&& (9223372036854775807 : Int64)))]) _
          refine XS.lstore X0.here hx rfl (hb hby at_45) rfl (l' := #[.val (.long ja0), .second, .val (.long jt0), .second, .val (.long jx), .second, .val (.long jy), .second, .val (.int pk), .val (.long jt), .second, .val (.long (ja0 &&& (9223372036854775807 : Int64))), .second, .val (.int (pk &&& (3 : Int32))), .unset, .unset, .unset, .unset, .unset]) rfl ?_
          exact kt
        exact ⟨(ja0 &&& (9223372036854775807 : Int64)), own_mask_nn _, r9⟩
  obtain ⟨T10, h10, X10, e10, E10, A10, D10, -, st10⟩ := newO X0 hx hZ hown (hw _ (own_g (i := 1) rfl)) (hw _ (own_g (i := 2) rfl)) (hw _ (own_g (i := 3) rfl)) e0 (g := (mkF m 47 #[.val (.long ja0), .second, .val (.long jt0), .second, .val (.long jx), .second, .val (.long jy), .second, .val (.int pk), .val (.long jt), .second, .val (.long ja), .second, .val (.int (pk &&& (3 : Int32))), .unset, .unset, .unset, .unset, .unset] [])) rfl (hb hby at_47) (by decide) (by decide)
  obtain ⟨b10, g10⟩ : ∃ z, z = h0.size := ⟨_, rfl⟩
  rw [← g10] at A10 D10 st10
  have r10 : own_R p e below _ _ T10 (mkF m 50 #[.val (.long ja0), .second, .val (.long jt0), .second, .val (.long jx), .second, .val (.long jy), .second, .val (.int pk), .val (.long jt), .second, .val (.long ja), .second, .val (.int (pk &&& (3 : Int32))), .unset, .unset, .unset, .unset, .unset] [(.ref b10)]) := r3.trans fun z_ kt => st10 _ kt
  have g_b10 : n0 ≤ b10 := Nat.le_trans (own_old_size O0) (Nat.le_of_eq g10.symm)
  have O10 := O0.ext E10
  have F10_11 := D10 (Or.inr (hw _ (own_g (i := 11) rfl))) (ty := .long) (by decide)
  have F10_13 := D10 (Or.inr (hw _ (own_g (i := 13) rfl))) (ty := .long) (by decide)
  have F10_15 := D10 (Or.inr (hw _ (own_g (i := 15) rfl))) (ty := .long) (by decide)
  have F10_17 := D10 (Or.inr (hw _ (own_g (i := 17) rfl))) (ty := .long) (by decide)
  have F10_19 := D10 (Or.inr (hw _ (own_g (i := 19) rfl))) (ty := .long) (by decide)
  have F10_21 := D10 (Or.inr (hw _ (own_g (i := 21) rfl))) (ty := .long) (by decide)
  have F10_23 := D10 (Or.inr (hw _ (own_g (i := 23) rfl))) (ty := .long) (by decide)
  have F10_25 := D10 (Or.inr (hw _ (own_g (i := 25) rfl))) (ty := .long) (by decide)
  have r11 : own_R p e below _ _ T10 (mkF m 78 #[.val (.long ja0), .second, .val (.long jt0), .second, .val (.long jx), .second, .val (.long jy), .second, .val (.int pk), .val (.long jt), .second, .val (.long ja), .second, .val (.int (pk &&& (3 : Int32))), .unset, .unset, .unset, .unset, .unset] [(.long (jx + (pk.toInt64))), (.long (jy - jx)), (.long (pk.toInt64)), (.long jt), (.long (jx ^^^ jy)), (.long jy), (.long jx), (.long ja), (.ref b10), (.ref b10)]) := r10.trans fun z_ kt => by
    show own_S p e below T10 (mkF m 50 #[.val (.long ja0), .second, .val (.long jt0), .second, .val (.long jx), .second, .val (.long jy), .second, .val (.int pk), .val (.long jt), .second, .val (.long ja), .second, .val (.int (pk &&& (3 : Int32))), .unset, .unset, .unset, .unset, .unset] [(.ref b10)]) _
    refine XS.dup X10.here hx rfl (hb hby at_50) rfl rfl ?_
    show own_S p e below T10 (mkF m 51 #[.val (.long ja0), .second, .val (.long jt0), .second, .val (.long jx), .second, .val (.long jy), .second, .val (.int pk), .val (.long jt), .second, .val (.long ja), .second, .val (.int (pk &&& (3 : Int32))), .unset, .unset, .unset, .unset, .unset] [(.ref b10), (.ref b10)]) _
    refine XS.lload X10.here hx rfl (hb hby at_51) rfl ?_
    show own_S p e below T10 (mkF m 53 #[.val (.long ja0), .second, .val (.long jt0), .second, .val (.long jx), .second, .val (.long jy), .second, .val (.int pk), .val (.long jt), .second, .val (.long ja), .second, .val (.int (pk &&& (3 : Int32))), .unset, .unset, .unset, .unset, .unset] [(.long ja), (.ref b10), (.ref b10)]) _
    refine XS.lload X10.here hx rfl (hb hby at_53) rfl ?_
    show own_S p e below T10 (mkF m 55 #[.val (.long ja0), .second, .val (.long jt0), .second, .val (.long jx), .second, .val (.long jy), .second, .val (.int pk), .val (.long jt), .second, .val (.long ja), .second, .val (.int (pk &&& (3 : Int32))), .unset, .unset, .unset, .unset, .unset] [(.long jx), (.long ja), (.ref b10), (.ref b10)]) _
    refine XS.lload X10.here hx rfl (hb hby at_55) rfl ?_
    show own_S p e below T10 (mkF m 57 #[.val (.long ja0), .second, .val (.long jt0), .second, .val (.long jx), .second, .val (.long jy), .second, .val (.int pk), .val (.long jt), .second, .val (.long ja), .second, .val (.int (pk &&& (3 : Int32))), .unset, .unset, .unset, .unset, .unset] [(.long jy), (.long jx), (.long ja), (.ref b10), (.ref b10)]) _
    refine XS.lload X10.here hx rfl (hb hby at_57) rfl ?_
    show own_S p e below T10 (mkF m 59 #[.val (.long ja0), .second, .val (.long jt0), .second, .val (.long jx), .second, .val (.long jy), .second, .val (.int pk), .val (.long jt), .second, .val (.long ja), .second, .val (.int (pk &&& (3 : Int32))), .unset, .unset, .unset, .unset, .unset] [(.long jx), (.long jy), (.long jx), (.long ja), (.ref b10), (.ref b10)]) _
    refine XS.lload X10.here hx rfl (hb hby at_59) rfl ?_
    show own_S p e below T10 (mkF m 61 #[.val (.long ja0), .second, .val (.long jt0), .second, .val (.long jx), .second, .val (.long jy), .second, .val (.int pk), .val (.long jt), .second, .val (.long ja), .second, .val (.int (pk &&& (3 : Int32))), .unset, .unset, .unset, .unset, .unset] [(.long jy), (.long jx), (.long jy), (.long jx), (.long ja), (.ref b10), (.ref b10)]) _
    refine XS.lxor X10.here hx rfl (hb hby at_61) rfl ?_
    show own_S p e below T10 (mkF m 62 #[.val (.long ja0), .second, .val (.long jt0), .second, .val (.long jx), .second, .val (.long jy), .second, .val (.int pk), .val (.long jt), .second, .val (.long ja), .second, .val (.int (pk &&& (3 : Int32))), .unset, .unset, .unset, .unset, .unset] [(.long (jx ^^^ jy)), (.long jy), (.long jx), (.long ja), (.ref b10), (.ref b10)]) _
    refine XS.lload X10.here hx rfl (hb hby at_62) rfl ?_
    show own_S p e below T10 (mkF m 64 #[.val (.long ja0), .second, .val (.long jt0), .second, .val (.long jx), .second, .val (.long jy), .second, .val (.int pk), .val (.long jt), .second, .val (.long ja), .second, .val (.int (pk &&& (3 : Int32))), .unset, .unset, .unset, .unset, .unset] [(.long jt), (.long (jx ^^^ jy)), (.long jy), (.long jx), (.long ja), (.ref b10), (.ref b10)]) _
    refine XS.iload X10.here hx rfl (hb hby at_64) rfl ?_
    show own_S p e below T10 (mkF m 66 #[.val (.long ja0), .second, .val (.long jt0), .second, .val (.long jx), .second, .val (.long jy), .second, .val (.int pk), .val (.long jt), .second, .val (.long ja), .second, .val (.int (pk &&& (3 : Int32))), .unset, .unset, .unset, .unset, .unset] [(.int pk), (.long jt), (.long (jx ^^^ jy)), (.long jy), (.long jx), (.long ja), (.ref b10), (.ref b10)]) _
    refine XS.i2l X10.here hx rfl (hb hby at_66) rfl ?_
    show own_S p e below T10 (mkF m 67 #[.val (.long ja0), .second, .val (.long jt0), .second, .val (.long jx), .second, .val (.long jy), .second, .val (.int pk), .val (.long jt), .second, .val (.long ja), .second, .val (.int (pk &&& (3 : Int32))), .unset, .unset, .unset, .unset, .unset] [(.long (pk.toInt64)), (.long jt), (.long (jx ^^^ jy)), (.long jy), (.long jx), (.long ja), (.ref b10), (.ref b10)]) _
    refine XS.lload X10.here hx rfl (hb hby at_67) rfl ?_
    show own_S p e below T10 (mkF m 69 #[.val (.long ja0), .second, .val (.long jt0), .second, .val (.long jx), .second, .val (.long jy), .second, .val (.int pk), .val (.long jt), .second, .val (.long ja), .second, .val (.int (pk &&& (3 : Int32))), .unset, .unset, .unset, .unset, .unset] [(.long jy), (.long (pk.toInt64)), (.long jt), (.long (jx ^^^ jy)), (.long jy), (.long jx), (.long ja), (.ref b10), (.ref b10)]) _
    refine XS.lload X10.here hx rfl (hb hby at_69) rfl ?_
    show own_S p e below T10 (mkF m 71 #[.val (.long ja0), .second, .val (.long jt0), .second, .val (.long jx), .second, .val (.long jy), .second, .val (.int pk), .val (.long jt), .second, .val (.long ja), .second, .val (.int (pk &&& (3 : Int32))), .unset, .unset, .unset, .unset, .unset] [(.long jx), (.long jy), (.long (pk.toInt64)), (.long jt), (.long (jx ^^^ jy)), (.long jy), (.long jx), (.long ja), (.ref b10), (.ref b10)]) _
    refine XS.lsub X10.here hx rfl (hb hby at_71) rfl ?_
    show own_S p e below T10 (mkF m 72 #[.val (.long ja0), .second, .val (.long jt0), .second, .val (.long jx), .second, .val (.long jy), .second, .val (.int pk), .val (.long jt), .second, .val (.long ja), .second, .val (.int (pk &&& (3 : Int32))), .unset, .unset, .unset, .unset, .unset] [(.long (jy - jx)), (.long (pk.toInt64)), (.long jt), (.long (jx ^^^ jy)), (.long jy), (.long jx), (.long ja), (.ref b10), (.ref b10)]) _
    refine XS.lload X10.here hx rfl (hb hby at_72) rfl ?_
    show own_S p e below T10 (mkF m 74 #[.val (.long ja0), .second, .val (.long jt0), .second, .val (.long jx), .second, .val (.long jy), .second, .val (.int pk), .val (.long jt), .second, .val (.long ja), .second, .val (.int (pk &&& (3 : Int32))), .unset, .unset, .unset, .unset, .unset] [(.long jx), (.long (jy - jx)), (.long (pk.toInt64)), (.long jt), (.long (jx ^^^ jy)), (.long jy), (.long jx), (.long ja), (.ref b10), (.ref b10)]) _
    refine XS.iload X10.here hx rfl (hb hby at_74) rfl ?_
    show own_S p e below T10 (mkF m 76 #[.val (.long ja0), .second, .val (.long jt0), .second, .val (.long jx), .second, .val (.long jy), .second, .val (.int pk), .val (.long jt), .second, .val (.long ja), .second, .val (.int (pk &&& (3 : Int32))), .unset, .unset, .unset, .unset, .unset] [(.int pk), (.long jx), (.long (jy - jx)), (.long (pk.toInt64)), (.long jt), (.long (jx ^^^ jy)), (.long jy), (.long jx), (.long ja), (.ref b10), (.ref b10)]) _
    refine XS.i2l X10.here hx rfl (hb hby at_76) rfl ?_
    show own_S p e below T10 (mkF m 77 #[.val (.long ja0), .second, .val (.long jt0), .second, .val (.long jx), .second, .val (.long jy), .second, .val (.int pk), .val (.long jt), .second, .val (.long ja), .second, .val (.int (pk &&& (3 : Int32))), .unset, .unset, .unset, .unset, .unset] [(.long (pk.toInt64)), (.long jx), (.long (jy - jx)), (.long (pk.toInt64)), (.long jt), (.long (jx ^^^ jy)), (.long jy), (.long jx), (.long ja), (.ref b10), (.ref b10)]) _
    refine XS.ladd X10.here hx rfl (hb hby at_77) rfl ?_
    exact kt
  obtain ⟨_, _, ⟨T12, L12, cc12, n12⟩, -, X12, ⟨Lc12, hQ12, l12, y12, z12⟩, st12⟩ := X10.specialBack hx (y := (⟨"com/example/kubera/kubera/LockMetrics", "<init>", "(JJJJJJJJ)V"⟩ : MethodName)) rfl hown (mvT hZ (hw _ (own_g (i := 4) rfl))) (mvT hZ (hw _ (own_g (i := 5) rfl))) (mvT hZ (hw _ (own_g (i := 6) rfl))) (by decide) (backOf (W := 1) (rm_lmInit l Z a0 hw [] (b10) (ja) (jx) (jy) ((jx ^^^ jy)) (jt) ((pk.toInt64)) ((jy - jx)) ((jx + (pk.toInt64))) ((.long (0 : Int64))) ((.long (0 : Int64))) ((.long (0 : Int64))) ((.long (0 : Int64))) ((.long (0 : Int64))) ((.long (0 : Int64))) ((.long (0 : Int64))) ((.long (0 : Int64))) h10 n0 O10 (A10) (g_b10) (F10_11) (F10_13) (F10_15) (F10_17) (F10_19) (F10_21) (F10_23) (F10_25)) hZ (hw _ (own_g (i := 6) rfl)) (hw _ (own_g (i := 3) rfl)) (by decide) (by decide)) (g := (mkF m 78 #[.val (.long ja0), .second, .val (.long jt0), .second, .val (.long jx), .second, .val (.long jy), .second, .val (.int pk), .val (.long jt), .second, .val (.long ja), .second, .val (.int (pk &&& (3 : Int32))), .unset, .unset, .unset, .unset, .unset] [(.long (jx + (pk.toInt64))), (.long (jy - jx)), (.long (pk.toInt64)), (.long jt), (.long (jx ^^^ jy)), (.long jy), (.long jx), (.long ja), (.ref b10), (.ref b10)])) rfl (by rw [hml]; rfl) (Steps.refl _) (a := b10) (argsL := [(.long ja), (.long jx), (.long jy), (.long (jx ^^^ jy)), (.long jt), (.long (pk.toInt64)), (.long (jy - jx)), (.long (jx + (pk.toInt64)))]) (rest := [(.ref b10)]) (lenOf pd_5 rfl) rfl (by show 2 * 0 + _ ≤ _; exact Nat.le_of_eq rfl) (hb hby at_78) (fun _ _ => ⟨rfl, e10, (by decide : 1 + 0 ≤ _), (by decide : 8 + 0 ≤ _)⟩)
  dsimp only [Pt.U, Pt.locs, Pt.cells, Pt.slots] at X12 l12 y12 z12 st12 hQ12
  subst l12 y12 z12
  obtain ⟨h12, e12⟩ : ∃ z, T12.heap = z := ⟨_, rfl⟩
  rw [e12] at hQ12
  obtain ⟨rfl, Nq12, Kq12, p12_0, p12_1⟩ := hQ12
  have N12 := Fr.app N0 Nq12
  have r12 : own_R p e below _ _ T12 (mkF m 81 #[.val (.long ja0), .second, .val (.long jt0), .second, .val (.long jx), .second, .val (.long jy), .second, .val (.int pk), .val (.long jt), .second, .val (.long ja), .second, .val (.int (pk &&& (3 : Int32))), .unset, .unset, .unset, .unset, .unset] [(.ref b10)]) := r11.trans fun z_ kt => st12.trans kt
  have O12 := O10.keep Kq12 (allS g_b10 all0)
  have f13 := (A10.keep Kq12)
  have r14 : own_R p e below _ _ T12 (mkF m 85 #[.val (.long ja0), .second, .val (.long jt0), .second, .val (.long jx), .second, .val (.long jy), .second, .val (.int pk), .val (.long jt), .second, .val (.long ja), .second, .val (.int (pk &&& (3 : Int32))), .val (.ref b10), .unset, .unset, .unset, .unset] [(.ref b10)]) := r12.trans fun z_ kt => by
    show own_S p e below T12 (mkF m 81 #[.val (.long ja0), .second, .val (.long jt0), .second, .val (.long jx), .second, .val (.long jy), .second, .val (.int pk), .val (.long jt), .second, .val (.long ja), .second, .val (.int (pk &&& (3 : Int32))), .unset, .unset, .unset, .unset, .unset] [(.ref b10)]) _
    refine XS.astore X12.here hx rfl (hb hby at_81) rfl rfl (l' := #[.val (.long ja0), .second, .val (.long jt0), .second, .val (.long jx), .second, .val (.long jy), .second, .val (.int pk), .val (.long jt), .second, .val (.long ja), .second, .val (.int (pk &&& (3 : Int32))), .val (.ref b10), .unset, .unset, .unset, .unset]) rfl ?_
    show own_S p e below T12 (mkF m 83 #[.val (.long ja0), .second, .val (.long jt0), .second, .val (.long jx), .second, .val (.long jy), .second, .val (.int pk), .val (.long jt), .second, .val (.long ja), .second, .val (.int (pk &&& (3 : Int32))), .val (.ref b10), .unset, .unset, .unset, .unset] []) _
    refine XS.aload X12.here hx rfl (hb hby at_83) rfl rfl ?_
    exact kt
  obtain ⟨cq15, kq15, q15a, q15b, q15c⟩ := isOf hZ e12 f13
  obtain ⟨_, _, ⟨T15, L15, cc15, n15⟩, -, X15, ⟨Lc15, hQ15, l15, y15, z15⟩, st15⟩ := X12.virtualBack hx (y := (⟨"com/example/kubera/kubera/LockMetrics", "meanWait", "()Ljava/time/Duration;"⟩ : MethodName)) (z := (⟨"com/example/kubera/kubera/LockMetrics", "meanWait", "()Ljava/time/Duration;"⟩ : MethodName)) hown (mvT hZ (hw _ (own_g (i := 26) rfl))) (mvT hZ (hw _ (own_g (i := 27) rfl))) (notFace_of_selects (args := #[]) (mvT hZ (hw _ (own_g (i := 29) rfl)))) (mvT hZ (hw _ (own_g (i := 29) rfl))) (mvT hZ (hw _ (own_g (i := 28) rfl))) (by decide) (backOf (W := 0) (rm_meanWait l Z a0 hw [] (b10) (s_ZERO) (ja) (jt) h12 n0 O12 (S_Duration_ZERO) (OE_s_ZERO) (OF_s_ZERO_seconds) (OF_s_ZERO_nanos) (p12_0) (p12_1) (h_ja) (hjt)) hZ (hw _ (own_g (i := 30) rfl)) (hw _ (own_g (i := 3) rfl)) (by decide) (by decide)) q15a q15c (g := (mkF m 85 #[.val (.long ja0), .second, .val (.long jt0), .second, .val (.long jx), .second, .val (.long jy), .second, .val (.int pk), .val (.long jt), .second, .val (.long ja), .second, .val (.int (pk &&& (3 : Int32))), .val (.ref b10), .unset, .unset, .unset, .unset] [(.ref b10)])) rfl (by rw [hml]; rfl) (Steps.refl _) (argsL := []) (rest := []) (lenOf pd_6 rfl) rfl (by show 2 * 0 + _ ≤ _; exact Nat.le_of_eq rfl) (hb hby at_85) (fun _ _ => ⟨rfl, e12, (by decide : 1 + 1 ≤ _), (by decide : 8 + 2 ≤ _)⟩)
  dsimp only [Pt.U, Pt.locs, Pt.cells, Pt.slots] at X15 l15 y15 z15 st15 hQ15
  subst l15 y15 z15
  obtain ⟨h15, e15⟩ : ∃ z, T15.heap = z := ⟨_, rfl⟩
  rw [e15] at hQ15
  obtain ⟨b_m, jq_m, rfl, Nq15, Kq15, p15_0, p15_1, p15_2, p15_3⟩ := hQ15
  have N15 := Fr.app N12 Nq15
  have r15 : own_R p e below _ _ T15 (mkF m 88 #[.val (.long ja0), .second, .val (.long jt0), .second, .val (.long jx), .second, .val (.long jy), .second, .val (.int pk), .val (.long jt), .second, .val (.long ja), .second, .val (.int (pk &&& (3 : Int32))), .val (.ref b10), .unset, .unset, .unset, .unset] [(.ref b_m)]) := r14.trans fun z_ kt => st15.trans kt
  have O15 := O12.keep Kq15 all0
  have hjq0 : 0 ≤ jq_m.toInt := own_jq h_ja hjt p15_3
  obtain ⟨cq16, kq16, q16a, q16b, q16c⟩ := isOf hZ e15 p15_0
  obtain ⟨_, _, ⟨T16, L16, cc16, n16⟩, -, X16, ⟨Lc16, hQ16, l16, y16, z16⟩, st16⟩ := X15.virtualBack hx (y := (⟨"java/time/Duration", "toNanos", "()J"⟩ : MethodName)) (z := (⟨"java/time/Duration", "toNanos", "()J"⟩ : MethodName)) hown (mvT hZ (hw _ (own_g (i := 40) rfl))) (mvT hZ (hw _ (own_g (i := 41) rfl))) (notFace_of_selects (args := #[]) (mvT hZ (hw _ (own_g (i := 43) rfl)))) (mvT hZ (hw _ (own_g (i := 43) rfl))) (mvT hZ (hw _ (own_g (i := 42) rfl))) (by decide) (backOf (W := 0) (rm_toNanos l Z a0 hw [] (b_m) ((jq_m / (1000000000 : Int64))) (((jq_m - (jq_m / (1000000000 : Int64)) * (1000000000 : Int64)).toInt32)) h15 n0 O15 (p15_1) (p15_2) (own_sec_nn hjq0) (own_nan_nn hjq0) (own_nan_sum hjq0)) hZ (hw _ (own_g (i := 44) rfl)) (hw _ (own_g (i := 33) rfl)) (by decide) (by decide)) q16a q16c (g := (mkF m 88 #[.val (.long ja0), .second, .val (.long jt0), .second, .val (.long jx), .second, .val (.long jy), .second, .val (.int pk), .val (.long jt), .second, .val (.long ja), .second, .val (.int (pk &&& (3 : Int32))), .val (.ref b10), .unset, .unset, .unset, .unset] [(.ref b_m)])) rfl (by rw [hml]; rfl) (Steps.refl _) (argsL := []) (rest := []) (lenOf pd_7 rfl) rfl (by show 2 * 0 + _ ≤ _; exact Nat.le_of_eq rfl) (hb hby at_88) (fun _ _ => ⟨rfl, e15, (by decide : 2 + 0 ≤ _), (by decide : 10 + 0 ≤ _)⟩)
  dsimp only [Pt.U, Pt.locs, Pt.cells, Pt.slots] at X16 l16 y16 z16 st16 hQ16
  subst l16 y16 z16
  obtain ⟨rfl, Nq16, eq16⟩ := hQ16
  have N16 := Fr.app N15 Nq16
  have r16 : own_R p e below _ _ T16 (mkF m 91 #[.val (.long ja0), .second, .val (.long jt0), .second, .val (.long jx), .second, .val (.long jy), .second, .val (.int pk), .val (.long jt), .second, .val (.long ja), .second, .val (.int (pk &&& (3 : Int32))), .val (.ref b10), .unset, .unset, .unset, .unset] [(.long (((jq_m / (1000000000 : Int64)) * (1000000000 : Int64)) + (((jq_m - (jq_m / (1000000000 : Int64)) * (1000000000 : Int64)).toInt32).toInt64)))]) := r15.trans fun z_ kt => st16.trans kt
  have e16 : T16.heap = h15 := eq16
  rw [own_back hjq0] at r16
  have r17 : own_R p e below _ _ T16 (mkF m 97 #[.val (.long ja0), .second, .val (.long jt0), .second, .val (.long jx), .second, .val (.long jy), .second, .val (.int pk), .val (.long jt), .second, .val (.long ja), .second, .val (.int (pk &&& (3 : Int32))), .val (.ref b10), .val (.long jq_m), .second, .unset, .unset] [(.int (lcmpW ja (0 : Int64)))]) := r16.trans fun z_ kt => by
    show own_S p e below T16 (mkF m 91 #[.val (.long ja0), .second, .val (.long jt0), .second, .val (.long jx), .second, .val (.long jy), .second, .val (.int pk), .val (.long jt), .second, .val (.long ja), .second, .val (.int (pk &&& (3 : Int32))), .val (.ref b10), .unset, .unset, .unset, .unset] [(.long jq_m)]) _
    refine XS.lstore X16.here hx rfl (hb hby at_91) rfl (l' := #[.val (.long ja0), .second, .val (.long jt0), .second, .val (.long jx), .second, .val (.long jy), .second, .val (.int pk), .val (.long jt), .second, .val (.long ja), .second, .val (.int (pk &&& (3 : Int32))), .val (.ref b10), .val (.long jq_m), .second, .unset, .unset]) rfl ?_
    show own_S p e below T16 (mkF m 93 #[.val (.long ja0), .second, .val (.long jt0), .second, .val (.long jx), .second, .val (.long jy), .second, .val (.int pk), .val (.long jt), .second, .val (.long ja), .second, .val (.int (pk &&& (3 : Int32))), .val (.ref b10), .val (.long jq_m), .second, .unset, .unset] []) _
    refine XS.lload X16.here hx rfl (hb hby at_93) rfl ?_
    show own_S p e below T16 (mkF m 95 #[.val (.long ja0), .second, .val (.long jt0), .second, .val (.long jx), .second, .val (.long jy), .second, .val (.int pk), .val (.long jt), .second, .val (.long ja), .second, .val (.int (pk &&& (3 : Int32))), .val (.ref b10), .val (.long jq_m), .second, .unset, .unset] [(.long ja)]) _
    refine XS.lconst X16.here hx rfl (hb hby at_95) ?_
    show own_S p e below T16 (mkF m 96 #[.val (.long ja0), .second, .val (.long jt0), .second, .val (.long jx), .second, .val (.long jy), .second, .val (.int pk), .val (.long jt), .second, .val (.long ja), .second, .val (.int (pk &&& (3 : Int32))), .val (.ref b10), .val (.long jq_m), .second, .unset, .unset] [(.long (0 : Int64)), (.long ja)]) _
    refine XS.lcmp X16.here hx rfl (hb hby at_96) rfl ?_
    exact kt
  by_cases hc97_18 : (lcmpW ja (0 : Int64)) = (0 : Int32)
  · skip
    have hE := own_E0 h_ja hjt hc97_18 p15_3
    have r19 : own_R p e below _ _ T16 (mkF m 112 #[.val (.long ja0), .second, .val (.long jt0), .second, .val (.long jx), .second, .val (.long jy), .second, .val (.int pk), .val (.long jt), .second, .val (.long ja), .second, .val (.int (pk &&& (3 : Int32))), .val (.ref b10), .val (.long jq_m), .second, .unset, .unset] [(.int (1 : Int32))]) := r17.trans fun z_ kt => by
      show own_S p e below T16 (mkF m 97 #[.val (.long ja0), .second, .val (.long jt0), .second, .val (.long jx), .second, .val (.long jy), .second, .val (.int pk), .val (.long jt), .second, .val (.long ja), .second, .val (.int (pk &&& (3 : Int32))), .val (.ref b10), .val (.long jq_m), .second, .unset, .unset] [(.int (lcmpW ja (0 : Int64)))]) _
      refine XS.ifNo X16.here hx rfl (hb hby at_97) rfl ((if0 _ _).trans (teq (hc97_18 : (lcmpW ja (0 : Int64)) = (0 : Int32))).2) ?_
      show own_S p e below T16 (mkF m 100 #[.val (.long ja0), .second, .val (.long jt0), .second, .val (.long jx), .second, .val (.long jy), .second, .val (.int pk), .val (.long jt), .second, .val (.long ja), .second, .val (.int (pk &&& (3 : Int32))), .val (.ref b10), .val (.long jq_m), .second, .unset, .unset] []) _
      refine XS.lload X16.here hx rfl (hb hby at_100) rfl ?_
      show own_S p e below T16 (mkF m 102 #[.val (.long ja0), .second, .val (.long jt0), .second, .val (.long jx), .second, .val (.long jy), .second, .val (.int pk), .val (.long jt), .second, .val (.long ja), .second, .val (.int (pk &&& (3 : Int32))), .val (.ref b10), .val (.long jq_m), .second, .unset, .unset] [(.long jq_m)]) _
      refine XS.lconst X16.here hx rfl (hb hby at_102) ?_
      show own_S p e below T16 (mkF m 103 #[.val (.long ja0), .second, .val (.long jt0), .second, .val (.long jx), .second, .val (.long jy), .second, .val (.int pk), .val (.long jt), .second, .val (.long ja), .second, .val (.int (pk &&& (3 : Int32))), .val (.ref b10), .val (.long jq_m), .second, .unset, .unset] [(.long (0 : Int64)), (.long jq_m)]) _
      refine XS.lcmp X16.here hx rfl (hb hby at_103) rfl ?_
      show own_S p e below T16 (mkF m 104 #[.val (.long ja0), .second, .val (.long jt0), .second, .val (.long jx), .second, .val (.long jy), .second, .val (.int pk), .val (.long jt), .second, .val (.long ja), .second, .val (.int (pk &&& (3 : Int32))), .val (.ref b10), .val (.long jq_m), .second, .unset, .unset] [(.int (lcmpW jq_m (0 : Int64)))]) _
      refine XS.ifNo X16.here hx rfl (hb hby at_104) rfl ((if0 _ _).trans (teq (hE : (lcmpW jq_m (0 : Int64)) = (0 : Int32))).2) ?_
      show own_S p e below T16 (mkF m 107 #[.val (.long ja0), .second, .val (.long jt0), .second, .val (.long jx), .second, .val (.long jy), .second, .val (.int pk), .val (.long jt), .second, .val (.long ja), .second, .val (.int (pk &&& (3 : Int32))), .val (.ref b10), .val (.long jq_m), .second, .unset, .unset] []) _
      refine XS.iconst X16.here hx rfl (hb hby at_107) ?_
      show own_S p e below T16 (mkF m 108 #[.val (.long ja0), .second, .val (.long jt0), .second, .val (.long jx), .second, .val (.long jy), .second, .val (.int pk), .val (.long jt), .second, .val (.long ja), .second, .val (.int (pk &&& (3 : Int32))), .val (.ref b10), .val (.long jq_m), .second, .unset, .unset] [(.int (1 : Int32))]) _
      refine XS.goto X16.here hx rfl (pc0 := 108) (pc' := 112) rfl (hb hby at_108) (by decide) (by decide) ?_
      exact kt
    obtain ⟨fs, hr, hrun, hended, hW, hsame⟩ := X16.leave (v := some (.int (1 : Int32))) (fun h => by rw [Bd.returns] at h; cases h)
    refine ⟨_, _, pre0 _ (r19 _ ?_), hrun, hended, _, _, rfl, ?_, ⟨_, rfl⟩, hW, hsame.mono (by decide) (by decide)⟩
    · exact retN X16 hx (t := .boolean) Bd.returns (by simp) (hb hby at_112) hr
    · show Q_law Z ja0 jt0 jx jy pk s_ZERO h0 n0 _ T16.heap _
      rw [e16]
      exact ⟨rfl, N16⟩
  · skip
    have hE := own_E1 h_ja hjt hc97_18 p15_3
    have r20 : own_R p e below _ _ T16 (mkF m 174 #[.val (.long ja0), .second, .val (.long jt0), .second, .val (.long jx), .second, .val (.long jy), .second, .val (.int pk), .val (.long jt), .second, .val (.long ja), .second, .val (.int (pk &&& (3 : Int32))), .val (.ref b10), .val (.long jq_m), .second, .val (.long (jt - (jq_m * ja))), .second] [(.int (1 : Int32))]) := r17.trans fun z_ kt => by
      show own_S p e below T16 (mkF m 97 #[.val (.long ja0), .second, .val (.long jt0), .second, .val (.long jx), .second, .val (.long jy), .second, .val (.int pk), .val (.long jt), .second, .val (.long ja), .second, .val (.int (pk &&& (3 : Int32))), .val (.ref b10), .val (.long jq_m), .second, .unset, .unset] [(.int (lcmpW ja (0 : Int64)))]) _
      refine XS.ifYes X16.here hx rfl (pc0 := 97) (pc' := 113) rfl (hb hby at_97) rfl ((if0 _ _).trans (feq (hc97_18 : ¬ ((lcmpW ja (0 : Int64)) = (0 : Int32)))).2) (by decide) (by decide) ?_
      show own_S p e below T16 (mkF m 113 #[.val (.long ja0), .second, .val (.long jt0), .second, .val (.long jx), .second, .val (.long jy), .second, .val (.int pk), .val (.long jt), .second, .val (.long ja), .second, .val (.int (pk &&& (3 : Int32))), .val (.ref b10), .val (.long jq_m), .second, .unset, .unset] []) _
      refine XS.lload X16.here hx rfl (hb hby at_113) rfl ?_
      show own_S p e below T16 (mkF m 115 #[.val (.long ja0), .second, .val (.long jt0), .second, .val (.long jx), .second, .val (.long jy), .second, .val (.int pk), .val (.long jt), .second, .val (.long ja), .second, .val (.int (pk &&& (3 : Int32))), .val (.ref b10), .val (.long jq_m), .second, .unset, .unset] [(.long jq_m)]) _
      refine XS.lconst X16.here hx rfl (hb hby at_115) ?_
      show own_S p e below T16 (mkF m 116 #[.val (.long ja0), .second, .val (.long jt0), .second, .val (.long jx), .second, .val (.long jy), .second, .val (.int pk), .val (.long jt), .second, .val (.long ja), .second, .val (.int (pk &&& (3 : Int32))), .val (.ref b10), .val (.long jq_m), .second, .unset, .unset] [(.long (0 : Int64)), (.long jq_m)]) _
      refine XS.lcmp X16.here hx rfl (hb hby at_116) rfl ?_
      show own_S p e below T16 (mkF m 117 #[.val (.long ja0), .second, .val (.long jt0), .second, .val (.long jx), .second, .val (.long jy), .second, .val (.int pk), .val (.long jt), .second, .val (.long ja), .second, .val (.int (pk &&& (3 : Int32))), .val (.ref b10), .val (.long jq_m), .second, .unset, .unset] [(.int (lcmpW jq_m (0 : Int64)))]) _
      refine XS.ifNo X16.here hx rfl (hb hby at_117) rfl ((if0 _ _).trans (flt (hE.1 : ¬ ((lcmpW jq_m (0 : Int64)) < (0 : Int32)))).1) ?_
      show own_S p e below T16 (mkF m 120 #[.val (.long ja0), .second, .val (.long jt0), .second, .val (.long jx), .second, .val (.long jy), .second, .val (.int pk), .val (.long jt), .second, .val (.long ja), .second, .val (.int (pk &&& (3 : Int32))), .val (.ref b10), .val (.long jq_m), .second, .unset, .unset] []) _
      refine XS.lload X16.here hx rfl (hb hby at_120) rfl ?_
      show own_S p e below T16 (mkF m 122 #[.val (.long ja0), .second, .val (.long jt0), .second, .val (.long jx), .second, .val (.long jy), .second, .val (.int pk), .val (.long jt), .second, .val (.long ja), .second, .val (.int (pk &&& (3 : Int32))), .val (.ref b10), .val (.long jq_m), .second, .unset, .unset] [(.long jq_m)]) _
      refine XS.lload X16.here hx rfl (hb hby at_122) rfl ?_
      show own_S p e below T16 (mkF m 124 #[.val (.long ja0), .second, .val (.long jt0), .second, .val (.long jx), .second, .val (.long jy), .second, .val (.int pk), .val (.long jt), .second, .val (.long ja), .second, .val (.int (pk &&& (3 : Int32))), .val (.ref b10), .val (.long jq_m), .second, .unset, .unset] [(.long jt), (.long jq_m)]) _
      refine XS.lcmp X16.here hx rfl (hb hby at_124) rfl ?_
      show own_S p e below T16 (mkF m 125 #[.val (.long ja0), .second, .val (.long jt0), .second, .val (.long jx), .second, .val (.long jy), .second, .val (.int pk), .val (.long jt), .second, .val (.long ja), .second, .val (.int (pk &&& (3 : Int32))), .val (.ref b10), .val (.long jq_m), .second, .unset, .unset] [(.int (lcmpW jq_m jt))]) _
      refine XS.ifYes X16.here hx rfl (pc0 := 125) (pc' := 130) rfl (hb hby at_125) rfl ((if0 _ _).trans (flt (hE.2.1 : ¬ ((0 : Int32) < (lcmpW jq_m jt)))).2.2.2) (by decide) (by decide) ?_
      show own_S p e below T16 (mkF m 130 #[.val (.long ja0), .second, .val (.long jt0), .second, .val (.long jx), .second, .val (.long jy), .second, .val (.int pk), .val (.long jt), .second, .val (.long ja), .second, .val (.int (pk &&& (3 : Int32))), .val (.ref b10), .val (.long jq_m), .second, .unset, .unset] []) _
      refine XS.lload X16.here hx rfl (hb hby at_130) rfl ?_
      show own_S p e below T16 (mkF m 132 #[.val (.long ja0), .second, .val (.long jt0), .second, .val (.long jx), .second, .val (.long jy), .second, .val (.int pk), .val (.long jt), .second, .val (.long ja), .second, .val (.int (pk &&& (3 : Int32))), .val (.ref b10), .val (.long jq_m), .second, .unset, .unset] [(.long jq_m)]) _
      refine X16.ldc2Long hx hown (mvT hZ (hw _ (own_g (i := 0) rfl))) (g := (mkF m 132 #[.val (.long ja0), .second, .val (.long jt0), .second, .val (.long jx), .second, .val (.long jy), .second, .val (.int pk), .val (.long jt), .second, .val (.long ja), .second, .val (.int (pk &&& (3 : Int32))), .val (.ref b10), .val (.long jq_m), .second, .unset, .unset] [(.long jq_m)])) rfl (hb hby at_132) _ ?_
      show own_S p e below T16 (mkF m 135 #[.val (.long ja0), .second, .val (.long jt0), .second, .val (.long jx), .second, .val (.long jy), .second, .val (.int pk), .val (.long jt), .second, .val (.long ja), .second, .val (.int (pk &&& (3 : Int32))), .val (.ref b10), .val (.long jq_m), .second, .unset, .unset] [(.long (9223372036854775807 : Int64)), (.long jq_m)]) _
      refine XS.lload X16.here hx rfl (hb hby at_135) rfl ?_
      show own_S p e below T16 (mkF m 137 #[.val (.long ja0), .second, .val (.long jt0), .second, .val (.long jx), .second, .val (.long jy), .second, .val (.int pk), .val (.long jt), .second, .val (.long ja), .second, .val (.int (pk &&& (3 : Int32))), .val (.ref b10), .val (.long jq_m), .second, .unset, .unset] [(.long ja), (.long (9223372036854775807 : Int64)), (.long jq_m)]) _
      refine XS.ldiv X16.here hx rfl (hb hby at_137) rfl (own_lc_ne' hc97_18) ?_
      show own_S p e below T16 (mkF m 138 #[.val (.long ja0), .second, .val (.long jt0), .second, .val (.long jx), .second, .val (.long jy), .second, .val (.int pk), .val (.long jt), .second, .val (.long ja), .second, .val (.int (pk &&& (3 : Int32))), .val (.ref b10), .val (.long jq_m), .second, .unset, .unset] [(.long ((9223372036854775807 : Int64) / ja)), (.long jq_m)]) _
      refine XS.lcmp X16.here hx rfl (hb hby at_138) rfl ?_
      show own_S p e below T16 (mkF m 139 #[.val (.long ja0), .second, .val (.long jt0), .second, .val (.long jx), .second, .val (.long jy), .second, .val (.int pk), .val (.long jt), .second, .val (.long ja), .second, .val (.int (pk &&& (3 : Int32))), .val (.ref b10), .val (.long jq_m), .second, .unset, .unset] [(.int (lcmpW jq_m ((9223372036854775807 : Int64) / ja)))]) _
      refine XS.ifYes X16.here hx rfl (pc0 := 139) (pc' := 144) rfl (hb hby at_139) rfl ((if0 _ _).trans (flt (hE.2.2.1 : ¬ ((0 : Int32) < (lcmpW jq_m ((9223372036854775807 : Int64) / ja))))).2.2.2) (by decide) (by decide) ?_
      show own_S p e below T16 (mkF m 144 #[.val (.long ja0), .second, .val (.long jt0), .second, .val (.long jx), .second, .val (.long jy), .second, .val (.int pk), .val (.long jt), .second, .val (.long ja), .second, .val (.int (pk &&& (3 : Int32))), .val (.ref b10), .val (.long jq_m), .second, .unset, .unset] []) _
      refine XS.lload X16.here hx rfl (hb hby at_144) rfl ?_
      show own_S p e below T16 (mkF m 146 #[.val (.long ja0), .second, .val (.long jt0), .second, .val (.long jx), .second, .val (.long jy), .second, .val (.int pk), .val (.long jt), .second, .val (.long ja), .second, .val (.int (pk &&& (3 : Int32))), .val (.ref b10), .val (.long jq_m), .second, .unset, .unset] [(.long jt)]) _
      refine XS.lload X16.here hx rfl (hb hby at_146) rfl ?_
      show own_S p e below T16 (mkF m 148 #[.val (.long ja0), .second, .val (.long jt0), .second, .val (.long jx), .second, .val (.long jy), .second, .val (.int pk), .val (.long jt), .second, .val (.long ja), .second, .val (.int (pk &&& (3 : Int32))), .val (.ref b10), .val (.long jq_m), .second, .unset, .unset] [(.long jq_m), (.long jt)]) _
      refine XS.lload X16.here hx rfl (hb hby at_148) rfl ?_
      show own_S p e below T16 (mkF m 150 #[.val (.long ja0), .second, .val (.long jt0), .second, .val (.long jx), .second, .val (.long jy), .second, .val (.int pk), .val (.long jt), .second, .val (.long ja), .second, .val (.int (pk &&& (3 : Int32))), .val (.ref b10), .val (.long jq_m), .second, .unset, .unset] [(.long ja), (.long jq_m), (.long jt)]) _
      refine XS.lmul X16.here hx rfl (hb hby at_150) rfl ?_
      show own_S p e below T16 (mkF m 151 #[.val (.long ja0), .second, .val (.long jt0), .second, .val (.long jx), .second, .val (.long jy), .second, .val (.int pk), .val (.long jt), .second, .val (.long ja), .second, .val (.int (pk &&& (3 : Int32))), .val (.ref b10), .val (.long jq_m), .second, .unset, .unset] [(.long (jq_m * ja)), (.long jt)]) _
      refine XS.lsub X16.here hx rfl (hb hby at_151) rfl ?_
      show own_S p e below T16 (mkF m 152 #[.val (.long ja0), .second, .val (.long jt0), .second, .val (.long jx), .second, .val (.long jy), .second, .val (.int pk), .val (.long jt), .second, .val (.long ja), .second, .val (.int (pk &&& (3 : Int32))), .val (.ref b10), .val (.long jq_m), .second, .unset, .unset] [(.long (jt - (jq_m * ja)))]) _
      refine XS.lstore X16.here hx rfl (hb hby at_152) rfl (l' := #[.val (.long ja0), .second, .val (.long jt0), .second, .val (.long jx), .second, .val (.long jy), .second, .val (.int pk), .val (.long jt), .second, .val (.long ja), .second, .val (.int (pk &&& (3 : Int32))), .val (.ref b10), .val (.long jq_m), .second, .val (.long (jt - (jq_m * ja))), .second]) rfl ?_
      show own_S p e below T16 (mkF m 154 #[.val (.long ja0), .second, .val (.long jt0), .second, .val (.long jx), .second, .val (.long jy), .second, .val (.int pk), .val (.long jt), .second, .val (.long ja), .second, .val (.int (pk &&& (3 : Int32))), .val (.ref b10), .val (.long jq_m), .second, .val (.long (jt - (jq_m * ja))), .second] []) _
      refine XS.lload X16.here hx rfl (hb hby at_154) rfl ?_
      show own_S p e below T16 (mkF m 156 #[.val (.long ja0), .second, .val (.long jt0), .second, .val (.long jx), .second, .val (.long jy), .second, .val (.int pk), .val (.long jt), .second, .val (.long ja), .second, .val (.int (pk &&& (3 : Int32))), .val (.ref b10), .val (.long jq_m), .second, .val (.long (jt - (jq_m * ja))), .second] [(.long (jt - (jq_m * ja)))]) _
      refine XS.lconst X16.here hx rfl (hb hby at_156) ?_
      show own_S p e below T16 (mkF m 157 #[.val (.long ja0), .second, .val (.long jt0), .second, .val (.long jx), .second, .val (.long jy), .second, .val (.int pk), .val (.long jt), .second, .val (.long ja), .second, .val (.int (pk &&& (3 : Int32))), .val (.ref b10), .val (.long jq_m), .second, .val (.long (jt - (jq_m * ja))), .second] [(.long (0 : Int64)), (.long (jt - (jq_m * ja)))]) _
      refine XS.lcmp X16.here hx rfl (hb hby at_157) rfl ?_
      show own_S p e below T16 (mkF m 158 #[.val (.long ja0), .second, .val (.long jt0), .second, .val (.long jx), .second, .val (.long jy), .second, .val (.int pk), .val (.long jt), .second, .val (.long ja), .second, .val (.int (pk &&& (3 : Int32))), .val (.ref b10), .val (.long jq_m), .second, .val (.long (jt - (jq_m * ja))), .second] [(.int (lcmpW (jt - (jq_m * ja)) (0 : Int64)))]) _
      refine XS.ifNo X16.here hx rfl (hb hby at_158) rfl ((if0 _ _).trans (flt (hE.2.2.2.1 : ¬ ((lcmpW (jt - (jq_m * ja)) (0 : Int64)) < (0 : Int32)))).1) ?_
      show own_S p e below T16 (mkF m 161 #[.val (.long ja0), .second, .val (.long jt0), .second, .val (.long jx), .second, .val (.long jy), .second, .val (.int pk), .val (.long jt), .second, .val (.long ja), .second, .val (.int (pk &&& (3 : Int32))), .val (.ref b10), .val (.long jq_m), .second, .val (.long (jt - (jq_m * ja))), .second] []) _
      refine XS.lload X16.here hx rfl (hb hby at_161) rfl ?_
      show own_S p e below T16 (mkF m 163 #[.val (.long ja0), .second, .val (.long jt0), .second, .val (.long jx), .second, .val (.long jy), .second, .val (.int pk), .val (.long jt), .second, .val (.long ja), .second, .val (.int (pk &&& (3 : Int32))), .val (.ref b10), .val (.long jq_m), .second, .val (.long (jt - (jq_m * ja))), .second] [(.long (jt - (jq_m * ja)))]) _
      refine XS.lload X16.here hx rfl (hb hby at_163) rfl ?_
      show own_S p e below T16 (mkF m 165 #[.val (.long ja0), .second, .val (.long jt0), .second, .val (.long jx), .second, .val (.long jy), .second, .val (.int pk), .val (.long jt), .second, .val (.long ja), .second, .val (.int (pk &&& (3 : Int32))), .val (.ref b10), .val (.long jq_m), .second, .val (.long (jt - (jq_m * ja))), .second] [(.long ja), (.long (jt - (jq_m * ja)))]) _
      refine XS.lcmp X16.here hx rfl (hb hby at_165) rfl ?_
      show own_S p e below T16 (mkF m 166 #[.val (.long ja0), .second, .val (.long jt0), .second, .val (.long jx), .second, .val (.long jy), .second, .val (.int pk), .val (.long jt), .second, .val (.long ja), .second, .val (.int (pk &&& (3 : Int32))), .val (.ref b10), .val (.long jq_m), .second, .val (.long (jt - (jq_m * ja))), .second] [(.int (lcmpW (jt - (jq_m * ja)) ja))]) _
      refine XS.ifNo X16.here hx rfl (hb hby at_166) rfl ((if0 _ _).trans (tlt (hE.2.2.2.2 : (lcmpW (jt - (jq_m * ja)) ja) < (0 : Int32))).2.1) ?_
      show own_S p e below T16 (mkF m 169 #[.val (.long ja0), .second, .val (.long jt0), .second, .val (.long jx), .second, .val (.long jy), .second, .val (.int pk), .val (.long jt), .second, .val (.long ja), .second, .val (.int (pk &&& (3 : Int32))), .val (.ref b10), .val (.long jq_m), .second, .val (.long (jt - (jq_m * ja))), .second] []) _
      refine XS.iconst X16.here hx rfl (hb hby at_169) ?_
      show own_S p e below T16 (mkF m 170 #[.val (.long ja0), .second, .val (.long jt0), .second, .val (.long jx), .second, .val (.long jy), .second, .val (.int pk), .val (.long jt), .second, .val (.long ja), .second, .val (.int (pk &&& (3 : Int32))), .val (.ref b10), .val (.long jq_m), .second, .val (.long (jt - (jq_m * ja))), .second] [(.int (1 : Int32))]) _
      refine XS.goto X16.here hx rfl (pc0 := 170) (pc' := 174) rfl (hb hby at_170) (by decide) (by decide) ?_
      exact kt
    obtain ⟨fs, hr, hrun, hended, hW, hsame⟩ := X16.leave (v := some (.int (1 : Int32))) (fun h => by rw [Bd.returns] at h; cases h)
    refine ⟨_, _, pre0 _ (r20 _ ?_), hrun, hended, _, _, rfl, ?_, ⟨_, rfl⟩, hW, hsame.mono (by decide) (by decide)⟩
    · exact retN X16 hx (t := .boolean) Bd.returns (by simp) (hb hby at_174) hr
    · show Q_law Z ja0 jt0 jx jy pk s_ZERO h0 n0 _ T16.heap _
      rw [e16]
      exact ⟨rfl, N16⟩

set_option maxRecDepth 65536 in
set_option maxHeartbeats 40000000 in
theorem comes_1 {Post : Tables → Env → Array Value → State → Outcome → State → Prop} (hpost : ∀ tb e args s v u, (limb_1_1.after args s (.returned v) u = true ∧ limb_1_2.after args s (.returned v) u = true ∧ True) → FrameEnd s (.returned v) u (Jvm.fieldLocs frame_1_writes args s ++ Jvm.arrayLocs frame_1_arrays args s ++ Jvm.staticLocs frame_1_statics s) 16 128 → Post tb e args s (.returned v) u) :
    ArmFor flags0 classFile x code maxLocals ret World_1 tables_1 room_1 Calls_1 rest_1 Pre_1 Post := by
  intro l hfl _ _ p e ha hc hk s m args below hf hA hF happ hP
  obtain ⟨hcalls, hrest, hpre⟩ := hP
  obtain ⟨-, -, -, hnamed, -, -, -, hat⟩ := (Spec.applies_iff hf).mp happ
  obtain ⟨hg, hn⟩ := and_e (Cond.before_iff.mp (show (Jvm.Cond.and given_1 narrow_1).before args s = true from hpre))
  obtain ⟨u1a, u1b⟩ := and_e hg
  obtain ⟨u2a, u2b⟩ := and_e u1b
  obtain ⟨u3a, u3b⟩ := and_e u2b
  obtain ⟨u4a, u4b⟩ := and_e u3b
  obtain ⟨u5a, u5b⟩ := and_e u4b
  obtain ⟨w0, w1, w2, w3, w4, rfl⟩ : ∃ w0 w1 w2 w3 w4 : Value, args = #[w0, w1, w2, w3, w4] := by
    have hs : args.size = 5 := by simpa [Cond.value, given_1] using u1a
    obtain ⟨L⟩ := args
    match L, hs with
    | [w0, w1, w2, w3, w4], _ => exact ⟨w0, w1, w2, w3, w4, rfl⟩
  have hw := fun d (hd : d ∈ tables_1) => atoms_spec (ws := Jvm.Cond.code x code maxLocals ret :: tables_1) hat d (List.mem_cons_of_mem _ hd)
  have hfit : Fit s := fun {y c} hc i hi => by
    obtain ⟨ha, rfl⟩ := Array.getElem?_eq_some_iff.mp hc
    have q := List.all_eq_true.mp ((Array.all_eq_true_iff_forall_mem.mp hF) _ (Array.getElem_mem ha)) i (List.mem_range.mpr hi)
    simpa [Array.getElem?_eq_getElem hi] using q
  obtain ⟨hsets, hown0⟩ := atoms_of _ (rest_1_c_eq ▸ (show rest_1_c.before _ s = true from hrest))
  have hr0 := Cond.before_iff.mp hown0
  obtain ⟨i0, ei0⟩ := isL_v u2a
  obtain rfl : w0 = (.long i0) := Option.some.inj ei0
  obtain ⟨i1, ei1⟩ := isL_v u3a
  obtain rfl : w1 = (.long i1) := Option.some.inj ei1
  obtain ⟨i2, ei2⟩ := isL_v u4a
  obtain rfl : w2 = (.long i2) := Option.some.inj ei2
  obtain ⟨i3, ei3⟩ := isL_v u5a
  obtain rfl : w3 = (.long i3) := Option.some.inj ei3
  obtain ⟨i4, ei4⟩ := is_v u5b
  obtain rfl : w4 = (.int i4) := Option.some.inj ei4
  obtain ⟨s_ZERO, ev⟩ := exa_v (Cond.before_iff.mp (hsets _ (List.mem_of_getElem? (i := 2) rfl)))
  have OE := Exa.start ev (Cond.before_iff.mp (hsets _ (List.mem_of_getElem? (i := 2) rfl)))
  have SZ := Sta.start ev (Or.inl (hsets _ (List.mem_of_getElem? (i := 1) rfl)))
  have F1 : Fld s s.heap s_ZERO "java/time/Duration" "seconds" "J" (.long (0 : Int64)) := own_eq_fldJ ev (Cond.before_iff.mp (hsets _ (List.mem_of_getElem? (i := 3) rfl)))
  have F2 : Fld s s.heap s_ZERO "java/time/Duration" "nanos" "I" (.int (0 : Int32)) := own_eq_fld ev (Cond.before_iff.mp (hsets _ (List.mem_of_getElem? (i := 4) rfl)))
  obtain ⟨n, o, h1, h2, h3, _, L, rfl, ⟨rfl, N⟩, hq⟩ := rm_law l s _ hw tables_1 i0 i1 i2 i3 i4 s_ZERO s.heap s.heap.size (Old.start s) (SZ) (OE) (F1) (F2) p e ha hc hk s m _ below hf ((Spec.applies_iff_loose hf).mp happ).1 ⟨rfl, State.Warmed39.refl s, rfl⟩ trivial
  refine ⟨n, _, h1, h2, h3, hpost _ _ _ _ _ _ ⟨Cond.after_iff.mpr rfl, Cond.after_iff.mpr (eq_i res_at (Term.int_eval (1)) rfl), trivial⟩ ⟨hq.1, hq.2.1, (hq.2.2.sift fun y hy => Or.inr (N y hy)).mono (by decide) (by decide)⟩⟩
theorem main_1_1 : Claimed_1_1 := comes_1 fun _ _ _ _ _ _ h hF => ⟨h.1, hF⟩
theorem main_1_2 : Claimed_1_2 := comes_1 fun _ _ _ _ _ _ h hF => ⟨h.2.1, hF⟩

end Jvm.Pilot.@@N@@
namespace Jvm.Pilot.@@N@@
open Jvm Jvm.ClassFile Sem Op Lib Jvm.Free Jvm.Stand Jvm.Pilot.@@N@@.Jvm.D
/-! MADE BY PROGRAM (witnessworld.py) out of the Statement's table words and the real class files: 13 classes; the members and pool entries that the words name. The judged class is class 1, her method 1. -/
namespace start1
open Jvm.ClassFile
def u (s : String) : CpInfo := .utf8 (stringToUtf16 s)
/-- a pool by its gaps: so many unusable entries, then the entry; so many at the end -/
def gap : Nat → List CpInfo → List CpInfo
  | 0, r => r
  | n + 1, r => .unusable :: gap n r
def poolList (es : List (Nat × CpInfo)) (last : Nat) : List CpInfo := es.foldr (fun e r => gap e.1 (e.2 :: r)) (gap last [])
def pool (es : List (Nat × CpInfo)) (last : Nat) : Array CpInfo := ⟨poolList es last⟩
def fileOf (pool : Array CpInfo) (this : Nat) (attrs : Array Attribute := #[]) (ms : Array MethodInfo := #[]) (fl : Nat := 33) (sup : Nat := 0) (ifs : Array Nat := #[]) (fds : Array FieldInfo := #[]) : ClassFile where
  minorVersion := 0
  majorVersion := 65
  constantPool := pool
  accessFlags := fl
  thisClass := this
  superClass := sup
  interfaces := ifs
  fields := fds
  methods := ms
  attributes := attrs
def plain (name : String) (sup : Option ClassId) : Class where
  name := name
  kind := .ordinary
  loader := none
  accessFlags := 33
  super := sup
  interfaces := #[]
  cf := none
  fields := #[]
  methods := #[]
  instanceTypes := #[]
  staticTypes := #[]
  resolved := #[]
  callSites := []
  init := .initialized
  statics := none
  mirror := none

def pool0 : Array CpInfo := pool [(5, u "<init>"), (0, u "()V"), (1, .class_ 10), (1, u "java/lang/Object")] 113

def k0c0 : Code := { maxStack := 0, maxLocals := 1, code := object_method_1_code, exceptionTable := #[], attributes := #[] }
def k0m0 : Method := { name := "<init>", desc := "()V", sig := { parameters := [], returnType := none }, accessFlags := 1, code := some k0c0 }
/-- java/lang/Object -/
def k0 : Class := { plain "java/lang/Object" none with
  accessFlags := 33
  interfaces := #[]
  cf := some (fileOf pool0 8 #[] #[{ accessFlags := 1, nameIndex := 5, descriptorIndex := 6, attributes := #[] }] 33 0 #[] #[])
  fields := #[]
  methods := #[k0m0]
  instanceTypes := #[]
  staticTypes := #[]
  resolved := Array.replicate 124 none
  statics := none }

def pool1 : Array CpInfo := pool [(2, .class_ 4), (1, u "java/lang/Object"), (0, u "<init>"), (0, u "()V"), (2, .long 9223372036854775807), (1, .long 15), (1, .class_ 14), (0, u "com/example/kubera/kubera/LockMetrics"), (0, .methodref 13 16), (0, .nameAndType 5 17), (0, u "(JJJJJJJJ)V"), (0, .methodref 13 19), (0, .nameAndType 20 21), (0, u "meanWait"), (0, u "()Ljava/time/Duration;"), (0, .methodref 23 24), (0, .class_ 25), (0, .nameAndType 26 27), (0, u "java/time/Duration"), (0, u "toNanos"), (0, u "()J"), (0, .class_ 29), (0, u "com/example/kubera/kubera/LockMetricsMeanWaitPinLaw"), (2, u "law"), (0, u "(JJJJI)Z")] 3

def k1m0 : Method := { name := "<init>", desc := "()V", sig := { parameters := [], returnType := none }, accessFlags := 1, code := none }
def k1c1 : Code := { maxStack := 20, maxLocals := 19, code := code, exceptionTable := #[], attributes := #[] }
def k1m1 : Method := { name := "law", desc := "(JJJJI)Z", sig := { parameters := [.long, .long, .long, .long, .int], returnType := some .boolean }, accessFlags := 9, code := some k1c1 }
/-- com/example/kubera/kubera/LockMetricsMeanWaitPinLaw -/
def k1 : Class := { plain "com/example/kubera/kubera/LockMetricsMeanWaitPinLaw" (some 0) with
  accessFlags := 49
  interfaces := #[]
  cf := some (fileOf pool1 28 #[] #[{ accessFlags := 1, nameIndex := 5, descriptorIndex := 6, attributes := #[] }, { accessFlags := 9, nameIndex := 32, descriptorIndex := 33, attributes := #[] }] 49 2 #[] #[])
  fields := #[]
  methods := #[k1m0, k1m1]
  instanceTypes := #[]
  staticTypes := #[]
  resolved := Array.replicate 37 none
  statics := none }

def pool2 : Array CpInfo := pool [(1, .methodref 2 3), (0, .class_ 4), (0, .nameAndType 5 6), (0, u "java/lang/Object"), (0, u "<init>"), (0, u "()V"), (0, .fieldref 8 9), (0, .class_ 10), (0, .nameAndType 11 12), (0, u "com/example/kubera/kubera/LockMetrics"), (0, u "acquireAttempts"), (0, u "J"), (0, .fieldref 8 14), (0, .nameAndType 15 12), (0, u "acquireGrants"), (0, .fieldref 8 17), (0, .nameAndType 18 12), (0, u "acquireRefusals"), (0, .fieldref 8 20), (0, .nameAndType 21 12), (0, u "acquireErrors"), (0, .fieldref 8 23), (0, .nameAndType 24 12), (0, u "totalWaitNanos"), (0, .fieldref 8 26), (0, .nameAndType 27 12), (0, u "renewals"), (0, .fieldref 8 29), (0, .nameAndType 30 12), (0, u "renewalFailures"), (0, .fieldref 8 32), (0, .nameAndType 33 12), (0, u "leasesLostWhileHeld"), (2, u "(JJJJJJJJ)V"), (0, .methodref 38 39), (0, .class_ 40), (0, .nameAndType 41 42), (0, u "java/time/Duration"), (0, u "ofNanos"), (0, u "(J)Ljava/time/Duration;"), (0, .fieldref 38 44), (0, .nameAndType 45 46), (0, u "ZERO"), (0, u "Ljava/time/Duration;"), (13, u "()Ljava/time/Duration;"), (14, u "meanWait")] 21

def k2c0 : Code := { maxStack := 3, maxLocals := 17, code := prog_7_method_1_code, exceptionTable := #[], attributes := #[] }
def k2m0 : Method := { name := "<init>", desc := "(JJJJJJJJ)V", sig := { parameters := [.long, .long, .long, .long, .long, .long, .long, .long], returnType := none }, accessFlags := 0, code := some k2c0 }
def k2c1 : Code := { maxStack := 4, maxLocals := 1, code := prog_7_method_8_code, exceptionTable := #[], attributes := #[] }
def k2m1 : Method := { name := "meanWait", desc := "()Ljava/time/Duration;", sig := { parameters := [], returnType := some (.object "java/time/Duration") }, accessFlags := 1, code := some k2c1 }
/-- com/example/kubera/kubera/LockMetrics -/
def k2 : Class := { plain "com/example/kubera/kubera/LockMetrics" (some 0) with
  accessFlags := 33
  interfaces := #[]
  cf := some (fileOf pool2 8 #[] #[{ accessFlags := 0, nameIndex := 5, descriptorIndex := 36, attributes := #[] }, { accessFlags := 1, nameIndex := 75, descriptorIndex := 60, attributes := #[] }] 33 2 #[] #[{ accessFlags := 18, nameIndex := 11, descriptorIndex := 12, attributes := #[] }, { accessFlags := 18, nameIndex := 15, descriptorIndex := 12, attributes := #[] }, { accessFlags := 18, nameIndex := 18, descriptorIndex := 12, attributes := #[] }, { accessFlags := 18, nameIndex := 21, descriptorIndex := 12, attributes := #[] }, { accessFlags := 18, nameIndex := 24, descriptorIndex := 12, attributes := #[] }, { accessFlags := 18, nameIndex := 27, descriptorIndex := 12, attributes := #[] }, { accessFlags := 18, nameIndex := 30, descriptorIndex := 12, attributes := #[] }, { accessFlags := 18, nameIndex := 33, descriptorIndex := 12, attributes := #[] }])
  fields := #[{ name := "acquireAttempts", type := .long, accessFlags := 18, slot := 0, constantValue := 0 }, { name := "acquireGrants", type := .long, accessFlags := 18, slot := 1, constantValue := 0 }, { name := "acquireRefusals", type := .long, accessFlags := 18, slot := 2, constantValue := 0 }, { name := "acquireErrors", type := .long, accessFlags := 18, slot := 3, constantValue := 0 }, { name := "totalWaitNanos", type := .long, accessFlags := 18, slot := 4, constantValue := 0 }, { name := "renewals", type := .long, accessFlags := 18, slot := 5, constantValue := 0 }, { name := "renewalFailures", type := .long, accessFlags := 18, slot := 6, constantValue := 0 }, { name := "leasesLostWhileHeld", type := .long, accessFlags := 18, slot := 7, constantValue := 0 }]
  methods := #[k2m0, k2m1]
  instanceTypes := #[.long, .long, .long, .long, .long, .long, .long, .long]
  staticTypes := #[]
  resolved := Array.replicate 97 none
  statics := none }

def pool3 : Array CpInfo := pool [(1, .class_ 2), (0, u "java/time/temporal/TemporalAmount"), (0, .class_ 4), (0, u "java/lang/Object")] 11

/-- java/time/temporal/TemporalAmount -/
def k3 : Class := { plain "java/time/temporal/TemporalAmount" (some 0) with
  accessFlags := 1537
  interfaces := #[]
  cf := some (fileOf pool3 1 #[] #[] 1537 3 #[] #[])
  fields := #[]
  methods := #[]
  instanceTypes := #[]
  staticTypes := #[]
  resolved := Array.replicate 16 none
  statics := none }

def pool4 : Array CpInfo := pool [(1, .class_ 2), (0, u "java/lang/Comparable"), (0, .class_ 4), (0, u "java/lang/Object")] 7

/-- java/lang/Comparable -/
def k4 : Class := { plain "java/lang/Comparable" (some 0) with
  accessFlags := 1537
  interfaces := #[]
  cf := some (fileOf pool4 1 #[] #[] 1537 3 #[] #[])
  fields := #[]
  methods := #[]
  instanceTypes := #[]
  staticTypes := #[]
  resolved := Array.replicate 12 none
  statics := none }

def pool5 : Array CpInfo := pool [(1, .class_ 2), (0, u "java/io/Serializable"), (0, .class_ 4), (0, u "java/lang/Object")] 2

/-- java/io/Serializable -/
def k5 : Class := { plain "java/io/Serializable" (some 0) with
  accessFlags := 1537
  interfaces := #[]
  cf := some (fileOf pool5 1 #[] #[] 1537 3 #[] #[])
  fields := #[]
  methods := #[]
  instanceTypes := #[]
  staticTypes := #[]
  resolved := Array.replicate 7 none
  statics := none }

def pool6 : Array CpInfo := pool [(5, .class_ 7), (1, u "java/lang/Math"), (0, u "multiplyExact"), (1, .methodref 11 12), (0, .class_ 13), (0, .nameAndType 14 15), (0, u "java/time/Duration"), (0, u "create"), (0, u "(JI)Ljava/time/Duration;"), (0, .long 1000000000), (4, u "(JJ)J"), (0, .methodref 5 23), (0, .nameAndType 24 21), (0, u "addExact"), (7, .fieldref 11 33), (0, .nameAndType 34 35), (0, u "ZERO"), (0, u "Ljava/time/Duration;"), (13, .class_ 51), (1, u "java/time/temporal/TemporalAmount"), (27, .class_ 81), (1, u "java/time/Duration$Lazy"), (35, u "seconds"), (21, u "<init>"), (17, .nameAndType 139 158), (0, u "()V"), (39, u "ofNanos"), (0, u "(J)Ljava/time/Duration;"), (15, .methodref 11 216), (0, .nameAndType 139 217), (0, u "(JI)V"), (0, .methodref 219 157), (0, .class_ 220), (0, u "java/lang/Object"), (0, .fieldref 11 222), (0, .nameAndType 117 223), (0, u "J"), (0, .fieldref 11 225), (0, .nameAndType 226 227), (0, u "nanos"), (0, u "I"), (11, .class_ 241), (1, u "java/time/Duration$DurationUnits"), (9, u "()J"), (17, .class_ 271), (1, u "java/time/Duration$1"), (17, .methodref 5 290), (0, .nameAndType 8 21), (72, u "BI_NANOS_PER_SECOND"), (0, u "Ljava/math/BigInteger;"), (46, u "toNanos"), (73, .class_ 486), (0, u "java/lang/Comparable"), (0, .class_ 488), (0, u "java/io/Serializable"), (0, u "serialVersionUID")] 166

def k6c0 : Code := { maxStack := 4, maxLocals := 5, code := jdk_2316_method_7_code, exceptionTable := #[], attributes := #[] }
def k6m0 : Method := { name := "ofNanos", desc := "(J)Ljava/time/Duration;", sig := { parameters := [.long], returnType := some (.object "java/time/Duration") }, accessFlags := 9, code := some k6c0 }
def k6c1 : Code := { maxStack := 5, maxLocals := 3, code := jdk_2316_method_16_code, exceptionTable := #[], attributes := #[] }
def k6m1 : Method := { name := "create", desc := "(JI)Ljava/time/Duration;", sig := { parameters := [.long, .int], returnType := some (.object "java/time/Duration") }, accessFlags := 10, code := some k6c1 }
def k6c2 : Code := { maxStack := 3, maxLocals := 4, code := jdk_2316_method_17_code, exceptionTable := #[], attributes := #[] }
def k6m2 : Method := { name := "<init>", desc := "(JI)V", sig := { parameters := [.long, .int], returnType := none }, accessFlags := 2, code := some k6c2 }
def k6c3 : Code := { maxStack := 4, maxLocals := 7, code := jdk_2316_method_58_code, exceptionTable := #[], attributes := #[] }
def k6m3 : Method := { name := "toNanos", desc := "()J", sig := { parameters := [], returnType := some .long }, accessFlags := 1, code := some k6c3 }
/-- java/time/Duration -/
def k6 : Class := { plain "java/time/Duration" (some 0) with
  accessFlags := 49
  interfaces := #[3, 4, 5]
  cf := some (fileOf pool6 11 #[.nestMembers #[269, 239, 79]] #[{ accessFlags := 9, nameIndex := 198, descriptorIndex := 199, attributes := #[] }, { accessFlags := 10, nameIndex := 14, descriptorIndex := 15, attributes := #[] }, { accessFlags := 2, nameIndex := 139, descriptorIndex := 217, attributes := #[] }, { accessFlags := 1, nameIndex := 411, descriptorIndex := 251, attributes := #[] }] 49 219 #[49, 485, 487] #[{ accessFlags := 25, nameIndex := 34, descriptorIndex := 35, attributes := #[] }, { accessFlags := 26, nameIndex := 489, descriptorIndex := 223, attributes := #[] }, { accessFlags := 26, nameIndex := 363, descriptorIndex := 364, attributes := #[] }, { accessFlags := 18, nameIndex := 117, descriptorIndex := 223, attributes := #[] }, { accessFlags := 18, nameIndex := 226, descriptorIndex := 227, attributes := #[] }])
  fields := #[{ name := "ZERO", type := (.object "java/time/Duration"), accessFlags := 25, slot := 0, constantValue := 0 }, { name := "serialVersionUID", type := .long, accessFlags := 26, slot := 1, constantValue := 0 }, { name := "BI_NANOS_PER_SECOND", type := (.object "java/math/BigInteger"), accessFlags := 26, slot := 2, constantValue := 0 }, { name := "seconds", type := .long, accessFlags := 18, slot := 0, constantValue := 0 }, { name := "nanos", type := .int, accessFlags := 18, slot := 1, constantValue := 0 }]
  methods := #[k6m0, k6m1, k6m2, k6m3]
  instanceTypes := #[.long, .int]
  staticTypes := #[(.object "java/time/Duration"), .long, (.object "java/math/BigInteger")]
  resolved := Array.replicate 656 none
  statics := some 0 }

def pool7 : Array CpInfo := pool [(1, .class_ 2), (0, u "java/lang/Math"), (1, .class_ 6), (1, u "java/lang/Object"), (0, u "<init>"), (0, u "()V"), (89, .class_ 100), (1, u "java/lang/Math$RandomNumberGeneratorHolder"), (19, u "multiplyExact"), (0, u "(JJ)J"), (0, .methodref 1 123), (0, .nameAndType 124 125), (0, u "abs"), (0, u "(J)J"), (2, .long 9223372036854775808), (43, u "negativeZeroFloatBits"), (0, u "J"), (2, u "negativeZeroDoubleBits"), (68, u "$assertionsDisabled"), (0, u "Z"), (91, u "twoToTheDoubleScaleDown"), (0, u "D"), (4, u "twoToTheDoubleScaleUp"), (9, u "E"), (3, u "PI"), (2, u "TAU"), (2, u "DEGREES_TO_RADIANS"), (0, u "RADIANS_TO_DEGREES"), (27, u "addExact")] 66

def k7m0 : Method := { name := "<init>", desc := "()V", sig := { parameters := [], returnType := none }, accessFlags := 2, code := none }
def k7c1 : Code := { maxStack := 6, maxLocals := 6, code := jdk_29_method_25_code, exceptionTable := #[], attributes := #[] }
def k7m1 : Method := { name := "addExact", desc := "(JJ)J", sig := { parameters := [.long, .long], returnType := some .long }, accessFlags := 9, code := some k7c1 }
def k7c2 : Code := { maxStack := 4, maxLocals := 10, code := jdk_29_method_30_code, exceptionTable := #[], attributes := #[] }
def k7m2 : Method := { name := "multiplyExact", desc := "(JJ)J", sig := { parameters := [.long, .long], returnType := some .long }, accessFlags := 9, code := some k7c2 }
def k7c3 : Code := { maxStack := 4, maxLocals := 2, code := jdk_29_method_61_code, exceptionTable := #[], attributes := #[] }
def k7m3 : Method := { name := "abs", desc := "(J)J", sig := { parameters := [.long], returnType := some .long }, accessFlags := 9, code := some k7c3 }
/-- java/lang/Math -/
def k7 : Class := { plain "java/lang/Math" (some 0) with
  accessFlags := 49
  interfaces := #[]
  cf := some (fileOf pool7 1 #[.nestMembers #[98]] #[{ accessFlags := 2, nameIndex := 7, descriptorIndex := 8, attributes := #[] }, { accessFlags := 9, nameIndex := 393, descriptorIndex := 121, attributes := #[] }, { accessFlags := 9, nameIndex := 120, descriptorIndex := 121, attributes := #[] }, { accessFlags := 9, nameIndex := 124, descriptorIndex := 125, attributes := #[] }] 49 4 #[] #[{ accessFlags := 25, nameIndex := 354, descriptorIndex := 339, attributes := #[] }, { accessFlags := 25, nameIndex := 358, descriptorIndex := 339, attributes := #[] }, { accessFlags := 25, nameIndex := 361, descriptorIndex := 339, attributes := #[] }, { accessFlags := 26, nameIndex := 364, descriptorIndex := 339, attributes := #[] }, { accessFlags := 26, nameIndex := 365, descriptorIndex := 339, attributes := #[] }, { accessFlags := 26, nameIndex := 172, descriptorIndex := 173, attributes := #[] }, { accessFlags := 26, nameIndex := 176, descriptorIndex := 173, attributes := #[] }, { accessFlags := 8, nameIndex := 344, descriptorIndex := 339, attributes := #[] }, { accessFlags := 8, nameIndex := 338, descriptorIndex := 339, attributes := #[] }, { accessFlags := 4120, nameIndex := 245, descriptorIndex := 246, attributes := #[] }])
  fields := #[{ name := "E", type := .double, accessFlags := 25, slot := 0, constantValue := 0 }, { name := "PI", type := .double, accessFlags := 25, slot := 1, constantValue := 0 }, { name := "TAU", type := .double, accessFlags := 25, slot := 2, constantValue := 0 }, { name := "DEGREES_TO_RADIANS", type := .double, accessFlags := 26, slot := 3, constantValue := 0 }, { name := "RADIANS_TO_DEGREES", type := .double, accessFlags := 26, slot := 4, constantValue := 0 }, { name := "negativeZeroFloatBits", type := .long, accessFlags := 26, slot := 5, constantValue := 0 }, { name := "negativeZeroDoubleBits", type := .long, accessFlags := 26, slot := 6, constantValue := 0 }, { name := "twoToTheDoubleScaleUp", type := .double, accessFlags := 8, slot := 7, constantValue := 0 }, { name := "twoToTheDoubleScaleDown", type := .double, accessFlags := 8, slot := 8, constantValue := 0 }, { name := "$assertionsDisabled", type := .boolean, accessFlags := 4120, slot := 9, constantValue := 0 }]
  methods := #[k7m0, k7m1, k7m2, k7m3]
  instanceTypes := #[]
  staticTypes := #[.double, .double, .double, .double, .double, .long, .long, .double, .double, .boolean]
  resolved := Array.replicate 460 none
  statics := none }

def pool8 : Array CpInfo := pool [(1, u "java/lang/Cloneable"), (0, .class_ 1), (0, u "java/lang/Object"), (0, .class_ 3)] 3

/-- java/lang/Cloneable -/
def k8 : Class := { plain "java/lang/Cloneable" (some 0) with
  accessFlags := 1537
  interfaces := #[]
  cf := some (fileOf pool8 2 #[] #[] 1537 4 #[] #[])
  fields := #[]
  methods := #[]
  instanceTypes := #[]
  staticTypes := #[]
  resolved := Array.replicate 8 none
  statics := none }

/-- the primitive byte -/
def k9 : Class := { plain "byte" none with kind := .primitive 'B', accessFlags := 0x411 }
/-- [B -/
def k10 : Class := { plain "[B" (some 0) with kind := .array 9 .byte, interfaces := #[8, 5], accessFlags := 1041 }

/-- the primitive int -/
def k11 : Class := { plain "int" none with kind := .primitive 'I', accessFlags := 0x411 }
/-- [I -/
def k12 : Class := { plain "[I" (some 0) with kind := .array 11 .int, interfaces := #[8, 5], accessFlags := 1041 }

def heap : Heap := #[{ cls := 6, slots := #[.ref 1, .long 0, .null], vm := .statics 6 },
  { cls := 6, slots := #[.long 0, .int 0], vm := .none }]
def classes : Array Class := #[k0, k1, k2, k3, k4, k5, k6, k7, k8, k9, k10, k11, k12]
def interned : List (Array UInt16 × Addr) := []
def slotsUsed : Nat := 5
def theMethod : MethodId := ⟨1, 1⟩
def args0 : Array Value := #[.long 7, .long 100, .long 3, .long 4, .int 2]
def aboutOver (below : List Frame) : State where
  vm := { classes := classes, interned := interned.toArray }
  heap := heap
  slotsUsed := slotsUsed
  threads := #[{ frames := .invoking theMethod args0 :: below }]
def below0 : List Frame := [.native { method := ⟨0, 0⟩, args := #[] }]
def about1 : State := aboutOver below0
def p0 : Program := .bare "" "" ""
def e0 : Env := launch0.env 0 0 0
theorem w_frames : about1.frames = Frame.invoking theMethod args0 :: below0 := rfl
set_option maxRecDepth 65536 in
theorem w_args : argsFit about1.vm theMethod args0 = true := by decide +kernel
set_option maxRecDepth 65536 in
theorem w_heap : heapFits about1 = true := by decide +kernel
set_option maxRecDepth 65536 in
theorem w_runnable : about1.curStatus? = some .runnable := by decide +kernel
set_option maxRecDepth 65536 in
theorem w_alone : about1.alone = true := by decide +kernel
set_option maxRecDepth 65536 in
theorem w_named : about1.methodNamed? x = some theMethod := by decide +kernel
set_option maxRecDepth 65536 in
theorem w_hears : about1.hears theMethod below0 = true := by decide +kernel
set_option maxRecDepth 65536 in
theorem w_ripe : about1.ripe theMethod args0 below0 = true := by decide +kernel
theorem w_running : about1.status = .running := rfl
set_option maxRecDepth 65536 in
theorem w_room : about1.hasRoom e0.platform room_1 = true :=
  launch0.hasRoom_least _ room_1 (by decide +kernel) (by decide +kernel) (by decide +kernel) (by decide +kernel) (by decide +kernel) (by decide +kernel)
theorem allAtoms_all (ts : List Jvm.Cond) (a : Array Jvm.Value) (st : Jvm.State) : (allAtoms ts).before a st = ts.all (fun c => c.before a st) := by
  induction ts with
  | nil => rfl
  | cons c t ih =>
    show (Jvm.Cond.and c (allAtoms t)).before a st = _
    rw [Jvm.Cond.before_and, ih, List.all_cons]
def words1 : List Jvm.Cond := Jvm.Cond.code x code maxLocals ret :: tables_1
/-- a 'code' word, met by the world's own term for the bytes: nothing is compared byte by byte -/
theorem code_word {y : MethodName} {bytes : ByteArray} {mx : Nat} {rt : Option FieldType} {a : Array Value} {s : State} {m : MethodId} {meth : Method} {c : Code} (h1 : s.methodNamed? y = some m) (h2 : s.vm.method? m = some meth) (h3 : meth.code = some c) (h4 : c.code = bytes)
    (h5 : (c.maxLocals == mx && c.exceptionTable.isEmpty && decide (c.maxStack ≤ mostOperands) && decide (meth.sig.returnType = rt) && !meth.locks && decide (parseMethodDescriptor y.desc = some meth.sig)) = true) : (Jvm.Cond.code y bytes mx rt).before a s = true := by
  simp only [Bool.and_eq_true, beq_iff_eq, Bool.not_eq_true', decide_eq_true_eq] at h5
  obtain ⟨⟨⟨⟨⟨g1, g2⟩, g3⟩, g4⟩, g5⟩, g6⟩ := h5
  simp [Cond.before, Cond.holds, Cond.value, h1, h2, h3, h4, g1, g2, g3, g4, g5, g6]
def isCode : Jvm.Cond → Bool
  | .code _ _ _ _ => true
  | _ => false
theorem all_split {L : List Jvm.Cond} {P : Jvm.Cond → Bool} (h1 : L.all (fun c => isCode c || P c) = true) (h2 : ∀ c ∈ L.filter isCode, P c = true) : L.all P = true := by
  refine List.all_eq_true.mpr fun c hc => ?_
  have h := List.all_eq_true.mp h1 c hc
  rcases Bool.eq_false_or_eq_true (isCode c) with hi | hi
  · exact h2 c (List.mem_filter.mpr ⟨hc, hi⟩)
  · simpa [hi] using h
set_option maxRecDepth 65536 in
theorem w_c0 : (Jvm.Cond.code x code maxLocals ret).before args0 about1 = true := code_word (m := ⟨1, 1⟩) (meth := k1m1) (c := k1c1) (by decide +kernel) rfl rfl rfl (by decide +kernel)
set_option maxRecDepth 65536 in
theorem w_c1 : (Jvm.Cond.code ({ cls := "com/example/kubera/kubera/LockMetrics", name := "<init>", desc := "(JJJJJJJJ)V" } : Jvm.MethodName) prog_7_method_1_code (17 : Nat) (Option.none : Option Jvm.ClassFile.FieldType)).before args0 about1 = true := code_word (m := ⟨2, 0⟩) (meth := k2m0) (c := k2c0) (by decide +kernel) rfl rfl rfl (by decide +kernel)
set_option maxRecDepth 65536 in
theorem w_c2 : (Jvm.Cond.code ({ cls := "java/lang/Object", name := "<init>", desc := "()V" } : Jvm.MethodName) object_method_1_code (1 : Nat) (Option.none : Option Jvm.ClassFile.FieldType)).before args0 about1 = true := code_word (m := ⟨0, 0⟩) (meth := k0m0) (c := k0c0) (by decide +kernel) rfl rfl rfl (by decide +kernel)
set_option maxRecDepth 65536 in
theorem w_c3 : (Jvm.Cond.code ({ cls := "com/example/kubera/kubera/LockMetrics", name := "meanWait", desc := "()Ljava/time/Duration;" } : Jvm.MethodName) prog_7_method_8_code (1 : Nat) (Option.some (Jvm.ClassFile.FieldType.object "java/time/Duration"))).before args0 about1 = true := code_word (m := ⟨2, 1⟩) (meth := k2m1) (c := k2c1) (by decide +kernel) rfl rfl rfl (by decide +kernel)
set_option maxRecDepth 65536 in
theorem w_c4 : (Jvm.Cond.code ({ cls := "java/time/Duration", name := "ofNanos", desc := "(J)Ljava/time/Duration;" } : Jvm.MethodName) jdk_2316_method_7_code (5 : Nat) (Option.some (Jvm.ClassFile.FieldType.object "java/time/Duration"))).before args0 about1 = true := code_word (m := ⟨6, 0⟩) (meth := k6m0) (c := k6c0) (by decide +kernel) rfl rfl rfl (by decide +kernel)
set_option maxRecDepth 65536 in
theorem w_c5 : (Jvm.Cond.code ({ cls := "java/time/Duration", name := "create", desc := "(JI)Ljava/time/Duration;" } : Jvm.MethodName) jdk_2316_method_16_code (3 : Nat) (Option.some (Jvm.ClassFile.FieldType.object "java/time/Duration"))).before args0 about1 = true := code_word (m := ⟨6, 1⟩) (meth := k6m1) (c := k6c1) (by decide +kernel) rfl rfl rfl (by decide +kernel)
set_option maxRecDepth 65536 in
theorem w_c6 : (Jvm.Cond.code ({ cls := "java/time/Duration", name := "toNanos", desc := "()J" } : Jvm.MethodName) jdk_2316_method_58_code (7 : Nat) (Option.some Jvm.ClassFile.FieldType.long)).before args0 about1 = true := code_word (m := ⟨6, 3⟩) (meth := k6m3) (c := k6c3) (by decide +kernel) rfl rfl rfl (by decide +kernel)
set_option maxRecDepth 65536 in
theorem w_c7 : (Jvm.Cond.code ({ cls := "java/lang/Math", name := "multiplyExact", desc := "(JJ)J" } : Jvm.MethodName) jdk_29_method_30_code (10 : Nat) (Option.some Jvm.ClassFile.FieldType.long)).before args0 about1 = true := code_word (m := ⟨7, 2⟩) (meth := k7m2) (c := k7c2) (by decide +kernel) rfl rfl rfl (by decide +kernel)
set_option maxRecDepth 65536 in
theorem w_c8 : (Jvm.Cond.code ({ cls := "java/lang/Math", name := "abs", desc := "(J)J" } : Jvm.MethodName) jdk_29_method_61_code (2 : Nat) (Option.some Jvm.ClassFile.FieldType.long)).before args0 about1 = true := code_word (m := ⟨7, 3⟩) (meth := k7m3) (c := k7c3) (by decide +kernel) rfl rfl rfl (by decide +kernel)
set_option maxRecDepth 65536 in
theorem w_c9 : (Jvm.Cond.code ({ cls := "java/lang/Math", name := "addExact", desc := "(JJ)J" } : Jvm.MethodName) jdk_29_method_25_code (6 : Nat) (Option.some Jvm.ClassFile.FieldType.long)).before args0 about1 = true := code_word (m := ⟨7, 1⟩) (meth := k7m1) (c := k7c1) (by decide +kernel) rfl rfl rfl (by decide +kernel)
set_option maxRecDepth 65536 in
theorem w_c10 : (Jvm.Cond.code ({ cls := "java/time/Duration", name := "<init>", desc := "(JI)V" } : Jvm.MethodName) jdk_2316_method_17_code (4 : Nat) (Option.none : Option Jvm.ClassFile.FieldType)).before args0 about1 = true := code_word (m := ⟨6, 2⟩) (meth := k6m2) (c := k6c2) (by decide +kernel) rfl rfl rfl (by decide +kernel)
def codes1 : List Jvm.Cond := [Jvm.Cond.code x code maxLocals ret, Jvm.Cond.code ({ cls := "com/example/kubera/kubera/LockMetrics", name := "<init>", desc := "(JJJJJJJJ)V" } : Jvm.MethodName) prog_7_method_1_code (17 : Nat) (Option.none : Option Jvm.ClassFile.FieldType), Jvm.Cond.code ({ cls := "java/lang/Object", name := "<init>", desc := "()V" } : Jvm.MethodName) object_method_1_code (1 : Nat) (Option.none : Option Jvm.ClassFile.FieldType), Jvm.Cond.code ({ cls := "com/example/kubera/kubera/LockMetrics", name := "meanWait", desc := "()Ljava/time/Duration;" } : Jvm.MethodName) prog_7_method_8_code (1 : Nat) (Option.some (Jvm.ClassFile.FieldType.object "java/time/Duration")), Jvm.Cond.code ({ cls := "java/time/Duration", name := "ofNanos", desc := "(J)Ljava/time/Duration;" } : Jvm.MethodName) jdk_2316_method_7_code (5 : Nat) (Option.some (Jvm.ClassFile.FieldType.object "java/time/Duration")), Jvm.Cond.code ({ cls := "java/time/Duration", name := "create", desc := "(JI)Ljava/time/Duration;" } : Jvm.MethodName) jdk_2316_method_16_code (3 : Nat) (Option.some (Jvm.ClassFile.FieldType.object "java/time/Duration")), Jvm.Cond.code ({ cls := "java/time/Duration", name := "toNanos", desc := "()J" } : Jvm.MethodName) jdk_2316_method_58_code (7 : Nat) (Option.some Jvm.ClassFile.FieldType.long), Jvm.Cond.code ({ cls := "java/lang/Math", name := "multiplyExact", desc := "(JJ)J" } : Jvm.MethodName) jdk_29_method_30_code (10 : Nat) (Option.some Jvm.ClassFile.FieldType.long), Jvm.Cond.code ({ cls := "java/lang/Math", name := "abs", desc := "(J)J" } : Jvm.MethodName) jdk_29_method_61_code (2 : Nat) (Option.some Jvm.ClassFile.FieldType.long), Jvm.Cond.code ({ cls := "java/lang/Math", name := "addExact", desc := "(JJ)J" } : Jvm.MethodName) jdk_29_method_25_code (6 : Nat) (Option.some Jvm.ClassFile.FieldType.long), Jvm.Cond.code ({ cls := "java/time/Duration", name := "<init>", desc := "(JI)V" } : Jvm.MethodName) jdk_2316_method_17_code (4 : Nat) (Option.none : Option Jvm.ClassFile.FieldType)]
set_option maxRecDepth 65536 in
theorem codes_eq : words1.filter isCode = codes1 := rfl
theorem w_codes : ∀ c ∈ words1.filter isCode, c.before args0 about1 = true := by
  rw [codes_eq]
  intro c hc
  simp only [codes1, List.mem_cons, List.not_mem_nil, or_false] at hc
  rcases hc with rfl | rfl | rfl | rfl | rfl | rfl | rfl | rfl | rfl | rfl | rfl
  · exact w_c0
  · exact w_c1
  · exact w_c2
  · exact w_c3
  · exact w_c4
  · exact w_c5
  · exact w_c6
  · exact w_c7
  · exact w_c8
  · exact w_c9
  · exact w_c10
set_option maxRecDepth 65536 in
theorem w_t1 : (words1.take 24).all (fun c => isCode c || c.before args0 about1) = true := by decide +kernel
set_option maxRecDepth 65536 in
theorem w_t2 : ((words1.drop 24).take 24).all (fun c => isCode c || c.before args0 about1) = true := by decide +kernel
set_option maxRecDepth 65536 in
theorem w_t3 : ((words1.drop 24).drop 24).all (fun c => isCode c || c.before args0 about1) = true := by decide +kernel
theorem w_tables : (allAtoms (Jvm.Cond.code x code maxLocals ret :: tables_1)).before args0 about1 = true := by
  rw [allAtoms_all]
  show words1.all (fun c => c.before args0 about1) = true
  refine all_split ?_ w_codes
  rw [← List.take_append_drop 24 words1, List.all_append, w_t1, ← List.take_append_drop 24 (words1.drop 24), List.all_append, w_t2, w_t3]
  rfl
set_option maxRecDepth 65536 in
theorem w_rest : rest_1_c.before args0 about1 = true := by decide +kernel
set_option maxRecDepth 65536 in
theorem w_case : (Jvm.Cond.and given_1 narrow_1).before args0 about1 = true := by decide +kernel
theorem w_applies : (headSpec (Jvm.Cond.code x code maxLocals ret :: tables_1) room_1).applies x e0.platform about1 = true :=
  (Spec.applies_iff w_frames).mpr ⟨w_running, w_runnable, w_alone, w_named, w_hears, w_ripe, w_room, w_tables⟩
theorem atStart : AtStart classFile x code maxLocals ret World_1 tables_1 room_1 Calls_1 rest_1 Pre_1 launch0 p0 e0 about1 theMethod args0 below0 :=
  ⟨lists_1, trivial, launch0.admits_env _ _ _, launch0.least_env, fairChoices_fair.cas, fairChoices_fair.clock, w_frames, w_args, w_heap, w_applies, trivial, w_rest, w_case⟩
end start1
theorem witness_1 : WitnessClaimed_1 := ⟨start1.p0, start1.e0, start1.about1, start1.theMethod, start1.args0, start1.below0, start1.atStart⟩
end Jvm.Pilot.@@N@@
