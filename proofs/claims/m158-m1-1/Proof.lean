import JvmDerived
import JvmDerived.Pilot.@@N@@Statement
import JvmDerived.Pilot.@@N@@Code
set_option linter.unusedVariables false
set_option linter.unusedSimpArgs false
namespace Jvm.Pilot.@@N@@
open Jvm Jvm.ClassFile Sem Op Lib Jvm.Free Jvm.Stand Jvm.LawKit Jvm.RoadKit Bundle Jvm.Pilot.@@N@@.Jvm.D
/-- from the state T with the top frame g the run comes to T' with g' -/
def own_R (p : Program) (e : Env) (below : List Frame) (T : State) (g : JFrame) (T' : State) (g' : JFrame) : Prop := ∀ t, Steps p.tables e below (T'.setTop g') t → Steps p.tables e below (T.setTop g) t
abbrev own_S (p : Program) (e : Env) (below : List Frame) (T : State) (g : JFrame) (t : State) : Prop := Steps p.tables e below (T.setTop g) t
theorem own_R.refl {p : Program} {e : Env} {below : List Frame} {T : State} {g : JFrame} : own_R p e below T g T g := fun _ k => k
theorem own_R.trans {p : Program} {e : Env} {below : List Frame} {T T' T'' : State} {g g' g'' : JFrame} (h : own_R p e below T g T' g') (h' : own_R p e below T' g' T'' g'') : own_R p e below T g T'' g'' := fun t k => h t (h' t k)
theorem own_ne_arv {Z : State} {h : Heap} {a b : Addr} {C : String} {k : Nat} {kk : ClassId} {ty : FieldType} {z : Int32} {vs : List Value} {dv : Value} {a0 : Array Value} (E : Exa Z h a C) (wi : (Jvm.Cond.instantiable C k).before a0 Z = true) (V : Arv Z h b kk ty z vs dv) : a ≠ b := by
  obtain ⟨c, A, -⟩ := V
  exact ne_arr E wi A
theorem own_fe {a b x : Addr} {n : Nat} (h : b = a ∨ n ≤ b) (h1 : x ≠ a) (h2 : x < n) : x ≠ b := fun q => h.elim (fun e => h1 (q.trans e)) (fun e => Nat.not_lt.mpr e (q ▸ h2))
theorem own_feg {a b : Addr} {n k : Nat} (h : b = a ∨ n ≤ b) (h1 : k ≤ a) (h2 : k ≤ n) : k ≤ b := h.elim (fun e => e ▸ h1) (Nat.le_trans h2)
theorem own_g {α : Type} {L : List α} {i : Nat} {d : α} (h : L[i]? = some d) : d ∈ L := List.mem_of_getElem? h
theorem own_few {a b : Addr} {ws : List Addr} {n k : Nat} (h : b = a ∨ n ≤ b) (hm : a ∈ ws) (hk : k ≤ n) : b ∈ ws ∨ k ≤ b := h.elim (fun e => Or.inl (e ▸ hm)) (fun e => Or.inr (Nat.le_trans hk e))
theorem own_lt1 (vs : List Value) (d : Value) : vs.length < (vs ++ List.replicate 1 d).length := by simp
theorem own_app {Z : State} {h : Heap} {b : Addr} {k : ClassId} {ty : FieldType} {z : Int32} {vs : List Value} {v d : Value} (F : Arv Z h b k ty z ((vs ++ List.replicate 1 d).set vs.length v) d) : Arv Z h b k ty z (vs ++ [v]) d := by
  have e : (vs ++ List.replicate 1 d).set vs.length v = vs ++ [v] := by simp
  rw [e] at F
  exact F
theorem own_selp {Z s : State} {a0 args : Array Value} {y : MethodName} {n : Nat} (hZ : Z.Warmed39 s.vm) (wi : (Jvm.Cond.instantiable y.cls n).before a0 Z = true) (wp : (Jvm.Cond.privateMethod y).before a0 Z = true) (wm : (Jvm.Cond.instanceMethod y).before a0 Z = true) (hy : y.cls ≠ "java/lang/invoke/MethodHandle" ∧ y.cls ≠ "java/lang/invoke/VarHandle") : (Jvm.Cond.selects y.cls y y).before args s = true := by
  have wi' : (Jvm.Cond.instantiable y.cls n).before args s = true := mvT hZ wi
  obtain ⟨c, k, h1, h2, -, h4, -⟩ := Cond.instantiable_spec wi'
  have h5 : k.isInterface = false := by
    cases hi : k.isInterface with
    | false => rfl
    | true => simp [hi] at h4
  exact Jvm.Stand.selects_self_of_private h1 h2 h5 (Cond.privateMethod_at (mvP hZ wp (args := #[]))) (mvT hZ wm) hy
theorem own_old_size {Z : State} {n0 : Nat} {h : Heap} (O : Old Z n0 h) : n0 ≤ h.size := O.1 ▸ O.2.1

theorem own_eq_fld {s : State} {args : Array Value} {t : Jvm.Term} {a : Addr} {C n d : String} {k : Int32} (ev : t.eval args s none [] s = some (.ref a)) (h : (Jvm.Cond.eq (Jvm.Term.field t C n d) (Jvm.Term.int k)).value args s none s [] = some true) : Fld s s.heap a C n d (.int k) := by
  apply Fld.start
  have q := fld_at (C := C) (n := n) (dd := d) ev
  rw [← q]
  cases hv : (Jvm.Term.field t C n d).eval args s none [] s with
  | none => simp [Cond.value, hv] at h
  | some v => cases v <;> simp_all [Cond.value, Term.eval]

theorem own_eq_val {s : State} {args : Array Value} {t u : Jvm.Term} {y : Addr} (ev : u.eval args s none [] s = some (.ref y)) (h : (Jvm.Cond.eq t u).value args s none s [] = some true) : t.eval args s none [] s = some (.ref y) := by
  cases hv : t.eval args s none [] s with
  | none => simp [Cond.value, hv] at h
  | some v => cases v <;> simp_all [Cond.value]
theorem own_eq_ref {s : State} {args : Array Value} {t u : Jvm.Term} {a y : Addr} {C n d : String} (ev : t.eval args s none [] s = some (.ref a)) (eu : u.eval args s none [] s = some (.ref y)) (h : (Jvm.Cond.eq (Jvm.Term.field t C n d) u).value args s none s [] = some true) : Fld s s.heap a C n d (.ref y) := by
  apply Fld.start
  rw [← fld_at (C := C) (n := n) (dd := d) ev]
  exact own_eq_val eu h
theorem own_eq_null {s : State} {args : Array Value} {t : Jvm.Term} {a : Addr} {C n d : String} (ev : t.eval args s none [] s = some (.ref a)) (h : (Jvm.Cond.eq (Jvm.Term.field t C n d) Jvm.Term.null).value args s none s [] = some true) : Fld s s.heap a C n d .null := by
  apply Fld.start
  rw [← fld_at (C := C) (n := n) (dd := d) ev]
  exact null_v h
theorem own_len {s : State} {args : Array Value} {t : Jvm.Term} {a : Addr} {cl : Cell} {ty : FieldType} {n : Int32} (ev : t.eval args s none [] s = some (.ref a)) (A : Arr s s.heap a cl ty) (h : (Jvm.Cond.eq (Jvm.Term.length t) (Jvm.Term.int n)).value args s none s [] = some true) : cl.slots.size < 2 ^ 31 ∧ cl.slots.size.toInt32 = n := by
  have ha : s.arrayAt? a = some cl := A.fin (Vm.Alike.refl _)
  by_cases hl : cl.slots.size < 2 ^ 31
  · have e := len_f (args := args) (first := s) (o := none) (idx := []) ev ha hl
    refine ⟨hl, ?_⟩
    simp only [Cond.value, e, Term.int_eval] at h
    simpa using h
  · exfalso
    have e : (Jvm.Term.length t).eval args s none [] s = none := by simp [Term.eval, ev, ha]; omega
    simp only [Cond.value, e] at h
    cases h
theorem own_elem {s : State} {args : Array Value} {t u : Jvm.Term} {a y : Addr} {cl : Cell} {ty : FieldType} {j : Int32} (ev : t.eval args s none [] s = some (.ref a)) (eu : u.eval args s none [] s = some (.ref y)) (A : Arr s s.heap a cl ty) (hj : ¬ j < 0) (h : (Jvm.Cond.eq (Jvm.Term.elem t (Jvm.Term.int j)) u).value args s none s [] = some true) : cl.slots[j.toNatClampNeg]? = some (.ref y) := by
  have ha : s.arrayAt? a = some cl := A.fin (Vm.Alike.refl _)
  have e := elem_f (args := args) (first := s) (o := none) (idx := []) (a := Jvm.Term.int j) ev rfl ha hj
  rw [← e]
  exact own_eq_val eu h

def own_LL (n : Int32) (ys es : List Addr) : Prop := 0 ≤ n.toInt ∧ n.toInt ≤ 3 ∧ ys = es.take n.toInt.toNat
def own_at (es : List Value) (j : Int32) (y : Addr) : Prop := ¬ j < 0 ∧ j < (6 : Int32) ∧ es.getD j.toNatClampNeg .null = .ref y
theorem own_i0 : (0 : Int32).toInt = 0 := by decide
theorem own_j0 : (0 : Int64).toInt = 0 := by decide
theorem own_j1 : (1 : Int64).toInt = 1 := by decide
theorem own_eqI {x : Int32} {n : Int} {k : Int32} (h : x.toInt = n) (hk : k.toInt = n) : x = k := Int32.toInt_inj.mp (h.trans hk.symm)
theorem own_ltI {x y : Int32} (h : x.toInt < y.toInt) : x < y := Int32.lt_iff_toInt_lt.mpr h
theorem own_iLt {x y : Int32} (h : x < y) : x.toInt < y.toInt := Int32.lt_iff_toInt_lt.mp h
theorem own_nltI {x y : Int32} (h : y.toInt ≤ x.toInt) : ¬ x < y := fun q => by have := own_iLt q; omega
theorem own_iNlt {x y : Int32} (h : ¬ x < y) : y.toInt ≤ x.toInt := by
  rw [Int32.lt_iff_toInt_lt] at h; omega
theorem own_nn {pc : Int32} (h : (0 : Int32) < pc) : ¬ pc < 0 := by
  have := own_iLt h; have := own_i0; exact own_nltI (by omega)
theorem own_le6 {pc : Int32} (h : (0 : Int32) < pc ∧ pc.toInt ≤ 6) : pc.toNatClampNeg ≤ 6 := by
  simp only [Int32.toNatClampNeg]; omega
theorem own_lt_ne {x y : Int32} (h : x < y) : ¬ (x = y) := fun q => by rw [q] at h; exact Int32.lt_irrefl h
theorem own_nneg {ps : Int32} {vs : List Value} (hl : ps.toInt = vs.length) : ¬ ps < 0 := by
  have := own_i0; exact own_nltI (by omega)
theorem own_clamp {ps : Int32} {n : Nat} (hl : ps.toInt = n) : ps.toNatClampNeg = n := by
  simp only [Int32.toNatClampNeg]; omega
theorem own_lt3 {z j : Int32} (h : (3 : Int32) < z) (h2 : j.toInt ≤ 3) : j < z := by
  have := own_iLt h; have e : (3 : Int32).toInt = 3 := by decide
  exact own_ltI (by omega)
theorem own_zne {zk : Int32} (h : 1024 ≤ zk.toInt) : (zk.toInt64) ≠ (0 : Int64) := fun q => by
  have := congrArg Int64.toInt q
  rw [c_i2l, own_j0] at this
  omega
/-- j % zk, where j is small -/
theorem own_rem {j : Int64} {zk : Int32} (hj : 0 ≤ j.toInt ∧ j.toInt ≤ 6) (hz : 1024 ≤ zk.toInt) : ((j - (j / (zk.toInt64)) * (zk.toInt64)).toInt32).toInt = j.toInt := by
  have h1 := (c_lrem j zk.toInt64 zk.toInt (c_i2l zk)).1 hj.1
  have h2 := c_l2i (j - (j / (zk.toInt64)) * (zk.toInt64))
  have h3 := rng32 ((j - (j / (zk.toInt64)) * (zk.toInt64)).toInt32)
  have h4 : j.toInt % zk.toInt = j.toInt := Int.emod_eq_of_lt hj.1 (by omega)
  rw [h1, h4] at h2
  omega
theorem own_ixG {j : Int64} {zk : Int32} {n : Nat} (h : j.toInt = n) (hn : n ≤ 6) (hz : 1024 ≤ zk.toInt) :
    (¬ ((j - (j / (zk.toInt64)) * (zk.toInt64)).toInt32) < 0 ∧ ((j - (j / (zk.toInt64)) * (zk.toInt64)).toInt32) < zk) ∧ ((j - (j / (zk.toInt64)) * (zk.toInt64)).toInt32).toNatClampNeg = n := by
  have r := own_rem (j := j) (zk := zk) (by omega) hz
  have := own_i0
  exact ⟨⟨own_nltI (by omega), own_ltI (by omega)⟩, own_clamp (by omega)⟩
theorem own_add1 {j : Int64} {n : Nat} (h : j.toInt = n) (hn : n ≤ 100) : (j + (1 : Int64)).toInt = (n + 1 : Nat) := by
  have h1 := c_ladd j (1 : Int64)
  have h2 := rng64 (j + (1 : Int64))
  rw [own_j1] at h1
  omega
theorem own_ixA0 {jc : Int64} {zk : Int32} {vs : List Value} (hvl : jc.toInt = vs.length) (hjc : vs.length ≤ 3 ∧ 1024 ≤ zk.toInt) :
    (¬ ((jc - (jc / (zk.toInt64)) * (zk.toInt64)).toInt32) < 0 ∧ ((jc - (jc / (zk.toInt64)) * (zk.toInt64)).toInt32) < zk) ∧ ((jc - (jc / (zk.toInt64)) * (zk.toInt64)).toInt32).toNatClampNeg = vs.length := own_ixG hvl (by omega) hjc.2
theorem own_ixA1 {jc : Int64} {zk : Int32} {vs : List Value} {v0 : Value} (hvl : jc.toInt = vs.length) (hjc : vs.length ≤ 3 ∧ 1024 ≤ zk.toInt) :
    (¬ (((jc + (1 : Int64)) - ((jc + (1 : Int64)) / (zk.toInt64)) * (zk.toInt64)).toInt32) < 0 ∧ (((jc + (1 : Int64)) - ((jc + (1 : Int64)) / (zk.toInt64)) * (zk.toInt64)).toInt32) < zk) ∧ (((jc + (1 : Int64)) - ((jc + (1 : Int64)) / (zk.toInt64)) * (zk.toInt64)).toInt32).toNatClampNeg = (vs ++ [v0]).length :=
  own_ixG (by rw [own_add1 hvl (by omega)]; simp) (by simp; omega) hjc.2
theorem own_ixA2 {jc : Int64} {zk : Int32} {vs : List Value} {v0 v1 : Value} (hvl : jc.toInt = vs.length) (hjc : vs.length ≤ 3 ∧ 1024 ≤ zk.toInt) :
    (¬ ((((jc + (1 : Int64)) + (1 : Int64)) - (((jc + (1 : Int64)) + (1 : Int64)) / (zk.toInt64)) * (zk.toInt64)).toInt32) < 0 ∧ ((((jc + (1 : Int64)) + (1 : Int64)) - (((jc + (1 : Int64)) + (1 : Int64)) / (zk.toInt64)) * (zk.toInt64)).toInt32) < zk) ∧ ((((jc + (1 : Int64)) + (1 : Int64)) - (((jc + (1 : Int64)) + (1 : Int64)) / (zk.toInt64)) * (zk.toInt64)).toInt32).toNatClampNeg = ((vs ++ [v0]) ++ [v1]).length :=
  own_ixG (by rw [own_add1 (own_add1 hvl (by omega)) (by omega)]; simp <;> omega) (by simp; omega) hjc.2
section
variable {Z : State} {h : Heap} {b : Addr} {k : ClassId} {ty : FieldType} {z : Int32} {vs : List Value} {d : Value} {y0 y1 y2 : Addr} {jc : Int64} {zk : Int32}
theorem own_assoc0 (F : Arv Z h b k ty z vs d) : Arv Z h b k ty z (vs ++ ([] : List Addr).map Value.ref) d := by simpa using F
theorem own_assoc1 (F : Arv Z h b k ty z (vs ++ [(.ref y0)]) d) : Arv Z h b k ty z (vs ++ [y0].map Value.ref) d := F
theorem own_assoc2 (F : Arv Z h b k ty z ((vs ++ [(.ref y0)]) ++ [(.ref y1)]) d) : Arv Z h b k ty z (vs ++ [y0, y1].map Value.ref) d := by simpa using F
theorem own_assoc3 (F : Arv Z h b k ty z (((vs ++ [(.ref y0)]) ++ [(.ref y1)]) ++ [(.ref y2)]) d) : Arv Z h b k ty z (vs ++ [y0, y1, y2].map Value.ref) d := by simpa using F
theorem own_cnt0 (hvl : jc.toInt = vs.length) (hjc : vs.length ≤ 3 ∧ 1024 ≤ zk.toInt) : jc.toInt = (vs ++ ([] : List Addr).map Value.ref).length := by simpa using hvl
theorem own_cnt1 (hvl : jc.toInt = vs.length) (hjc : vs.length ≤ 3 ∧ 1024 ≤ zk.toInt) : (jc + (1 : Int64)).toInt = (vs ++ [y0].map Value.ref).length := by
  rw [own_add1 hvl (by omega)]; simp
theorem own_cnt2 (hvl : jc.toInt = vs.length) (hjc : vs.length ≤ 3 ∧ 1024 ≤ zk.toInt) : ((jc + (1 : Int64)) + (1 : Int64)).toInt = (vs ++ [y0, y1].map Value.ref).length := by
  rw [own_add1 (own_add1 hvl (by omega)) (by omega)]; simp <;> omega
theorem own_cnt3 (hvl : jc.toInt = vs.length) (hjc : vs.length ≤ 3 ∧ 1024 ≤ zk.toInt) : (((jc + (1 : Int64)) + (1 : Int64)) + (1 : Int64)).toInt = (vs ++ [y0, y1, y2].map Value.ref).length := by
  rw [own_add1 (own_add1 (own_add1 hvl (by omega)) (by omega)) (by omega)]; simp <;> omega
end
theorem own_old {jc : Int64} {zk : Int32} (h : 0 ≤ jc.toInt ∧ jc.toInt ≤ 6 ∧ 1024 ≤ zk.toInt) : ¬ (lcmpW (0 : Int64) (jc - (zk.toInt64)) < (0 : Int32)) := by
  rw [lw_lt, Int64.lt_iff_toInt_lt]
  have h1 := c_lsub jc zk.toInt64
  have h2 := rng64 (jc - (zk.toInt64))
  have h3 := rng32 zk
  rw [c_i2l] at h1
  have := own_j0
  omega
theorem own_hold {jc : Int64} {zk pm : Int32} {vs : List Value} {hi : Int} (hvl : jc.toInt = vs.length) (hk : vs.length ≤ 6 ∧ 1024 ≤ zk.toInt ∧ pm.toInt ≤ hi ∧ 2 * zk.toInt ≤ hi ∧ hi ≤ 8191) : 0 ≤ jc.toInt ∧ jc.toInt ≤ 6 ∧ 1024 ≤ zk.toInt := by omega
theorem own_hold2 {jc : Int64} {zk : Int32} {vs : List Value} (hvl : jc.toInt = vs.length) (hk : vs.length ≤ 6 ∧ 1024 ≤ zk.toInt) : 0 ≤ jc.toInt ∧ jc.toInt ≤ 6 ∧ 1024 ≤ zk.toInt := by omega
theorem own_mx (a b : Int64) : ∃ r : Int64, (lcmpW a b < (0 : Int32) ∧ r = b) ∨ (¬ (lcmpW a b < (0 : Int32)) ∧ r = a) := by
  by_cases q : lcmpW a b < (0 : Int32)
  · exact ⟨b, Or.inl ⟨q, rfl⟩⟩
  · exact ⟨a, Or.inr ⟨q, rfl⟩⟩
theorem own_newlen {zk pm nl : Int32} {vs : List Value} {hi : Int} {jm : Int64} (hk : vs.length ≤ 6 ∧ 1024 ≤ zk.toInt ∧ pm.toInt ≤ hi ∧ 2 * zk.toInt ≤ hi ∧ hi ≤ 8191) (h6 : zk < pm) (hjm : (lcmpW (pm.toInt64) ((2 : Int64) * (zk.toInt64)) < (0 : Int32) ∧ jm = ((2 : Int64) * (zk.toInt64))) ∨ (¬ (lcmpW (pm.toInt64) ((2 : Int64) * (zk.toInt64)) < (0 : Int32)) ∧ jm = (pm.toInt64))) (hnl : nl = jm.toInt32) :
    (¬ ((0 : Int32) < lcmpW jm (2147483639 : Int64)) ∧ nl.toInt ≤ hi) ∧ ¬ nl < 0 ∧ nl.toNatClampNeg ≤ 8191 ∧ 1024 ≤ nl.toInt := by
  have a1 := own_iLt h6
  have a2 := c_lmul (2 : Int64) zk.toInt64
  have a3 := rng64 ((2 : Int64) * zk.toInt64)
  have e2 : (2 : Int64).toInt = 2 := by decide
  rw [c_i2l, e2] at a2
  have v : 1024 ≤ jm.toInt ∧ jm.toInt ≤ hi := by
    rcases hjm with ⟨-, rfl⟩ | ⟨-, rfl⟩
    · omega
    · rw [c_i2l]; omega
  have b1 := c_l2i jm
  have b2 := rng32 jm.toInt32
  rw [← hnl] at b1 b2
  have b3 : nl.toInt = jm.toInt := by omega
  have e4 : (2147483639 : Int64).toInt = 2147483639 := by decide
  have := own_i0
  refine ⟨⟨?_, by omega⟩, own_nltI (by omega), ?_, by omega⟩
  · rw [lw_gt, Int64.lt_iff_toInt_lt]; omega
  · simp only [Int32.toNatClampNeg]; omega
theorem own_turn {i jc : Int64} {vs : List Value} {n : Nat} (hvl : jc.toInt = vs.length) (h : lcmpW i jc < (0 : Int32)) (hn : i.toInt = n := by decide) : n < vs.length := by
  rw [lw_lt, Int64.lt_iff_toInt_lt] at h
  omega
theorem own_six {zk pm : Int32} {jc : Int64} {vs : List Value} {hi : Int} (hvl : jc.toInt = vs.length) (hk : vs.length ≤ 6 ∧ 1024 ≤ zk.toInt ∧ pm.toInt ≤ hi ∧ 2 * zk.toInt ≤ hi ∧ hi ≤ 8191) : ¬ (lcmpW (6 : Int64) jc < (0 : Int32)) := fun h => by
  rw [lw_lt, Int64.lt_iff_toInt_lt] at h
  have e : (6 : Int64).toInt = 6 := by decide
  omega
theorem own_ixl {i : Int64} {k z : Int32} (h : 1024 ≤ z.toInt) (h1 : 0 ≤ i.toInt ∧ i.toInt ≤ 6) (h2 : k.toInt = i.toInt) : ((i - (i / (z.toInt64)) * (z.toInt64)).toInt32) = k := Int32.toInt_inj.mp (by rw [own_rem h1 h, h2])
theorem own_lt_of {z j : Int32} (h : 1024 ≤ z.toInt) (hj : j.toInt ≤ 6) : j < z := own_ltI (by omega)
theorem own_hk0 {zk pm : Int32} {vs : List Value} {hi : Int} (hk : vs.length ≤ 6 ∧ 1024 ≤ zk.toInt ∧ pm.toInt ≤ hi ∧ 2 * zk.toInt ≤ hi ∧ hi ≤ 8191) : 1024 ≤ zk.toInt ∧ zk.toInt ≤ hi := by omega
theorem own_vsG {vs ws : List Value} (hl : vs.length = ws.length) (h : ∀ i, i < ws.length → vs.getD i .null = ws.getD i .null) : vs = ws := by
  apply List.ext_getElem hl
  intro i h1 h2
  have q := h i h2
  rw [List.getD_eq_getElem?_getD, List.getD_eq_getElem?_getD, List.getElem?_eq_getElem h1, List.getElem?_eq_getElem h2] at q
  exact q
theorem own_leneq {i jc : Int64} {vs : List Value} {n : Nat} (hvl : jc.toInt = vs.length) (h : ¬ (lcmpW i jc < (0 : Int32))) (h2 : n ≤ vs.length) (hn : i.toInt = n := by decide) : vs.length = n := by
  rw [lw_lt, Int64.lt_iff_toInt_lt] at h
  omega
theorem own_lcge {x : Int64} (h : 0 ≤ x.toInt) : ¬ (lcmpW x (0 : Int64) < (0 : Int32)) := by
  rw [lw_lt, Int64.lt_iff_toInt_lt]
  have := own_j0
  omega
def own_D (vs : List Value) (jc jf : Int64) (pd : Int32) : Prop := jc.toInt = vs.length ∧ vs.length ≤ 6 ∧ 0 ≤ jf.toInt ∧ jf.toInt ≤ jc.toInt ∧ pd.toInt = jc.toInt - jf.toInt
theorem own_pd {vs : List Value} {jc jf : Int64} {pd zk : Int32} (hvl : jc.toInt = vs.length) (hk : vs.length ≤ 6 ∧ 1024 ≤ zk.toInt) (hjf : 0 ≤ jf.toInt ∧ jf.toInt ≤ jc.toInt) (hpd : pd = ((jc - jf).toInt32)) : own_D vs jc jf pd := by
  have h1 := c_lsub jc jf
  have h2 := rng64 (jc - jf)
  have h3 := c_l2i (jc - jf)
  have h4 := rng32 ((jc - jf).toInt32)
  rw [← hpd] at h3 h4
  exact ⟨hvl, hk.1, hjf.1, hjf.2, by omega⟩
theorem own_pd1 {vs : List Value} {jc jf : Int64} {pd : Int32} (hD : own_D vs jc jf pd) (hz : ¬ pd = (0 : Int32)) : (0 : Int32) < pd ∧ pd.toInt ≤ 6 := by
  obtain ⟨d1, d2, d3, d4, d5⟩ := hD
  have : pd.toInt ≠ 0 := fun q => hz (own_eqI q own_i0)
  have := own_i0
  exact ⟨own_ltI (by omega), by omega⟩
theorem own_e0 {vs : List Value} {jc jf : Int64} (hD : own_D vs jc jf (0 : Int32)) : ¬ (lcmpW jf jc < (0 : Int32)) := fun h => by
  obtain ⟨d1, d2, d3, d4, d5⟩ := hD
  rw [lw_lt, Int64.lt_iff_toInt_lt] at h
  have := own_i0
  omega
theorem own_first {vs : List Value} {jc jf : Int64} {pd : Int32} (hD : own_D vs jc jf pd) (hz : ¬ pd = (0 : Int32)) : lcmpW jf jc < (0 : Int32) := by
  obtain ⟨d1, d2, d3, d4, d5⟩ := hD
  have : pd.toInt ≠ 0 := fun q => hz (own_eqI q own_i0)
  rw [lw_lt, Int64.lt_iff_toInt_lt]
  omega
/-- jf + n -/
def own_nx (jf : Int64) : Nat → Int64
  | 0 => jf
  | n + 1 => own_nx jf n + (1 : Int64)
theorem own_nxv {jf : Int64} (h : 0 ≤ jf.toInt ∧ jf.toInt ≤ 6) : ∀ n, n ≤ 10 → (own_nx jf n).toInt = jf.toInt + n
  | 0, _ => by simp [own_nx]
  | n + 1, hn => by
    have ih := own_nxv h n (by omega)
    have h1 := c_ladd (own_nx jf n) (1 : Int64)
    have h2 := rng64 (own_nx jf n + (1 : Int64))
    rw [own_j1] at h1
    show (own_nx jf n + (1 : Int64)).toInt = _
    omega
theorem own_tG {vs : List Value} {jc jf : Int64} {pd : Int32} {n : Nat} (hn : n ≤ 6) (hD : own_D vs jc jf pd) (h : lcmpW (own_nx jf n) jc < (0 : Int32)) : jf.toInt.toNat + n < vs.length ∧ (n : Int) < pd.toInt := by
  obtain ⟨d1, d2, d3, d4, d5⟩ := hD
  rw [lw_lt, Int64.lt_iff_toInt_lt, own_nxv (by omega) n (by omega)] at h
  omega
theorem own_e6 {vs : List Value} {jc jf : Int64} {pd : Int32} (hD : own_D vs jc jf pd) : ¬ (lcmpW (own_nx jf 6) jc < (0 : Int32)) := fun h => by
  have := own_tG (by decide) hD h
  obtain ⟨d1, d2, d3, d4, d5⟩ := hD
  omega
theorem own_sxG {vs : List Value} {jc jf : Int64} {zk : Int32} {n : Nat} (hvl : jc.toInt = vs.length) (hk : vs.length ≤ 6 ∧ 1024 ≤ zk.toInt) (hjf : 0 ≤ jf.toInt ∧ jf.toInt ≤ jc.toInt) (hn : n ≤ 6) (h : jf.toInt.toNat + n < vs.length) :
    (¬ ((own_nx jf n - (own_nx jf n / (zk.toInt64)) * (zk.toInt64)).toInt32) < 0 ∧ ((own_nx jf n - (own_nx jf n / (zk.toInt64)) * (zk.toInt64)).toInt32) < zk) ∧ ((own_nx jf n - (own_nx jf n / (zk.toInt64)) * (zk.toInt64)).toInt32).toNatClampNeg = jf.toInt.toNat + n :=
  own_ixG (by rw [own_nxv (by omega) n (by omega)]; omega) (by omega) hk.2
theorem own_ltp {x : Int32} {pd : Int32} {n : Int} (h : n < pd.toInt) (e : x.toInt = n) : x < pd := own_ltI (by omega)
theorem own_lenD {vs : List Value} {jc jf : Int64} {pd : Int32} {n : Nat} (hD : own_D vs jc jf pd) (hn : n ≤ 6) (h : ¬ (lcmpW (own_nx jf n) jc < (0 : Int32))) (h2 : (n : Int) ≤ pd.toInt) : (vs.drop jf.toInt.toNat).length = n ∧ pd.toInt = n := by
  obtain ⟨d1, d2, d3, d4, d5⟩ := hD
  rw [lw_lt, Int64.lt_iff_toInt_lt, own_nxv (by omega) n (by omega)] at h
  rw [List.length_drop]
  omega
theorem own_getDrop {vs : List Value} {a i : Nat} : (vs.drop a).getD i .null = vs.getD (a + i) .null := by
  simp [List.getD_eq_getElem?_getD, List.getElem?_drop]
theorem own_byte (x : Int32) : ¬ ((255 : Int32) < ((x &&& (255 : Int32)).toUInt32.toUInt16.toUInt32.toInt32)) := by
  rw [i2c_mask]
  have h := (c_and x (255 : Int32) (by decide)).2
  exact own_nltI h
theorem own_n4 {n x : Int32} (h : n = (x &&& (3 : Int32))) : 0 ≤ n.toInt ∧ n.toInt ≤ 3 := by
  have q := c_and x (3 : Int32) (by decide)
  have e : (3 : Int32).toInt = 3 := by decide
  rw [← h, e] at q
  exact q
section
variable {n : Int32}
theorem own_k0 (hn : 0 ≤ n.toInt ∧ n.toInt ≤ 3) (h0 : ¬ ((0 : Int32) < n)) : n = (0 : Int32) := by
  have := own_iNlt h0; have := own_i0; exact own_eqI (n := 0) (by omega) (by decide)
theorem own_k1 (hn : 0 ≤ n.toInt ∧ n.toInt ≤ 3) (h0 : (0 : Int32) < n) (h1 : ¬ ((1 : Int32) < n)) : n = (1 : Int32) := by
  have := own_iLt h0; have := own_iNlt h1; have := own_i0; have : (1 : Int32).toInt = 1 := by decide
  exact own_eqI (n := 1) (by omega) (by decide)
theorem own_k2 (hn : 0 ≤ n.toInt ∧ n.toInt ≤ 3) (h0 : (0 : Int32) < n) (h1 : (1 : Int32) < n) (h2 : ¬ ((2 : Int32) < n)) : n = (2 : Int32) := by
  have := own_iLt h1; have := own_iNlt h2; have : (1 : Int32).toInt = 1 := by decide
  have : (2 : Int32).toInt = 2 := by decide
  exact own_eqI (n := 2) (by omega) (by decide)
theorem own_k3 (hn : 0 ≤ n.toInt ∧ n.toInt ≤ 3) (h0 : (0 : Int32) < n) (h1 : (1 : Int32) < n) (h2 : (2 : Int32) < n) : n = (3 : Int32) := by
  have := own_iLt h2; have : (2 : Int32).toInt = 2 := by decide
  exact own_eqI (n := 3) (by omega) (by decide)
theorem own_noadd {a b : Int32} (h : ¬ (a < n)) (hab : a.toInt ≤ b.toInt) : ¬ (b < n) := own_nltI (by have := own_iNlt h; omega)
end
theorem own_hr {n : Int32} {ys : List Addr} {e0 e1 e2 : Addr} (h : own_LL n ys [e0, e1, e2]) : (n = (0 : Int32) ∧ ys = []) ∨ (∃ y0, n = (1 : Int32) ∧ ys = [y0]) ∨ (∃ y0 y1, n = (2 : Int32) ∧ ys = [y0, y1]) ∨ (∃ y0 y1 y2, n = (3 : Int32) ∧ ys = [y0, y1, y2]) := by
  obtain ⟨h1, h2, h3⟩ := h
  have : n.toInt = 0 ∨ n.toInt = 1 ∨ n.toInt = 2 ∨ n.toInt = 3 := by omega
  rcases this with q | q | q | q <;> rw [q] at h3
  · exact Or.inl ⟨own_eqI q (by decide), h3⟩
  · exact Or.inr (Or.inl ⟨e0, own_eqI q (by decide), h3⟩)
  · exact Or.inr (Or.inr (Or.inl ⟨e0, e1, own_eqI q (by decide), h3⟩))
  · exact Or.inr (Or.inr (Or.inr ⟨e0, e1, e2, own_eqI q (by decide), h3⟩))
theorem own_hE {Z : State} {h : Heap} {C : String} {n : Int32} {ys : List Addr} {e0 e1 e2 : Addr} (hl : own_LL n ys [e0, e1, e2]) (E0 : Exa Z h e0 C) (E1 : Exa Z h e1 C) (E2 : Exa Z h e2 C) : (ys.all fun _ => true) = true ∧ ∀ y ∈ ys, Exa Z h y C := by
  refine ⟨by simp, fun y hy => ?_⟩
  rw [hl.2.2] at hy
  have hm := List.mem_of_mem_take hy
  simp only [List.mem_cons, List.not_mem_nil, or_false] at hm
  rcases hm with rfl | rfl | rfl
  · exact E0
  · exact E1
  · exact E2
theorem own_ylen {n : Int32} {ys : List Addr} {e0 e1 e2 : Addr} (hl : own_LL n ys [e0, e1, e2]) : (ys.length : Int) = n.toInt := by
  obtain ⟨h1, h2, h3⟩ := hl
  have e : ([e0, e1, e2] : List Addr).length = 3 := rfl
  rw [h3, List.length_take, e]
  omega
theorem own_len3 {n : Int32} {ys : List Addr} {e0 e1 e2 : Addr} (hl : own_LL n ys [e0, e1, e2]) : (([] : List Value) ++ ys.map Value.ref).length ≤ 3 := by
  have := own_ylen hl
  have := hl.2.1
  simp
  omega
theorem own_hst1 {Z : State} {h : Heap} {C : String} {n : Int32} {ys : List Addr} {e0 e1 e2 : Addr} (hl : own_LL n ys [e0, e1, e2]) (E0 : Exa Z h e0 C) (E1 : Exa Z h e1 C) (E2 : Exa Z h e2 C) : ((([] : List Value) ++ ys.map Value.ref).all fun _ => true) = true ∧ ∀ i, i < (([] : List Value) ++ ys.map Value.ref).length → ∃ y : Addr, (([] : List Value) ++ ys.map Value.ref).getD i .null = .ref y ∧ Exa Z h y C := by
  refine ⟨by simp, fun i hi => ?_⟩
  have hi' : i < ys.length := by simpa using hi
  refine ⟨ys[i], by simp [List.getD_eq_getElem?_getD, hi'], (own_hE hl E0 E1 E2).2 _ (List.getElem_mem hi')⟩
theorem own_hst2 {Z : State} {h : Heap} {C : String} {n n' : Int32} {ys ys' : List Addr} {e0 e1 e2 e3 e4 e5 : Addr} (hl : own_LL n ys [e0, e1, e2]) (hl' : own_LL n' ys' [e3, e4, e5]) (E0 : Exa Z h e0 C) (E1 : Exa Z h e1 C) (E2 : Exa Z h e2 C) (E3 : Exa Z h e3 C) (E4 : Exa Z h e4 C) (E5 : Exa Z h e5 C) :
    (((([] : List Value) ++ ys.map Value.ref) ++ ys'.map Value.ref).all fun _ => true) = true ∧ ∀ i, i < ((([] : List Value) ++ ys.map Value.ref) ++ ys'.map Value.ref).length → ∃ y : Addr, ((([] : List Value) ++ ys.map Value.ref) ++ ys'.map Value.ref).getD i .null = .ref y ∧ Exa Z h y C := by
  have e : ((([] : List Value) ++ ys.map Value.ref) ++ ys'.map Value.ref) = (ys ++ ys').map Value.ref := by simp
  rw [e]
  refine ⟨by simp, fun i hi => ?_⟩
  have hi' : i < (ys ++ ys').length := by simpa using hi
  refine ⟨(ys ++ ys')[i], by rw [List.getD_eq_getElem?_getD, List.getElem?_map, List.getElem?_eq_getElem hi']; rfl, ?_⟩
  have hm := List.getElem_mem hi'
  rw [List.mem_append] at hm
  rcases hm with hm | hm
  · exact (own_hE hl E0 E1 E2).2 _ hm
  · exact (own_hE hl' E3 E4 E5).2 _ hm
theorem own_kk1 {n p1 : Int32} {ys : List Addr} {e0 e1 e2 : Addr} (hl : own_LL n ys [e0, e1, e2]) : (([] : List Value) ++ ys.map Value.ref).length ≤ 6 ∧ 1024 ≤ (1024 : Int32).toInt ∧ (p1 % (4096 : Int32)).toInt ≤ 4095 ∧ 2 * (1024 : Int32).toInt ≤ (4095 : Int) ∧ (4095 : Int) ≤ 8191 := by
  have h1 := own_len3 hl
  have h2 := c_irem p1 (4096 : Int32) 4096 (by decide)
  refine ⟨by omega, by decide, ?_, by decide, by decide⟩
  by_cases q : 0 ≤ p1.toInt
  · rw [h2.1 q]; omega
  · rw [h2.2 (by omega)]; omega
theorem own_len6 {n n' : Int32} {ys ys' : List Addr} {e0 e1 e2 e3 e4 e5 : Addr} (hl : own_LL n ys [e0, e1, e2]) (hl' : own_LL n' ys' [e3, e4, e5]) : ((((([] : List Value) ++ ys.map Value.ref) ++ ys'.map Value.ref)).length : Int) = n.toInt + n'.toInt := by
  have h1 := own_ylen hl
  have h2 := own_ylen hl'
  simp
  omega
theorem own_kk2 {n n' p2 zk : Int32} {ys ys' : List Addr} {e0 e1 e2 e3 e4 e5 : Addr} (hl : own_LL n ys [e0, e1, e2]) (hl' : own_LL n' ys' [e3, e4, e5]) (hk : 1024 ≤ zk.toInt ∧ zk.toInt ≤ 4095) : ((([] : List Value) ++ ys.map Value.ref) ++ ys'.map Value.ref).length ≤ 6 ∧ 1024 ≤ zk.toInt ∧ (p2 % (8192 : Int32)).toInt ≤ 8191 ∧ 2 * zk.toInt ≤ (8191 : Int) ∧ (8191 : Int) ≤ 8191 := by
  have h1 := own_len6 hl hl'
  have h2 := c_irem p2 (8192 : Int32) 8192 (by decide)
  have h3 := hl.2.1
  have h4 := hl'.2.1
  refine ⟨by omega, hk.1, ?_, by omega, by decide⟩
  by_cases q : 0 ≤ p2.toInt
  · rw [h2.1 q]; omega
  · rw [h2.2 (by omega)]; omega
theorem own_kl {n n' zk : Int32} {ys ys' : List Addr} {e0 e1 e2 e3 e4 e5 : Addr} {hi : Int} (hl : own_LL n ys [e0, e1, e2]) (hl' : own_LL n' ys' [e3, e4, e5]) (hk : 1024 ≤ zk.toInt ∧ zk.toInt ≤ hi) : ((([] : List Value) ++ ys.map Value.ref) ++ ys'.map Value.ref).length ≤ 6 ∧ 1024 ≤ zk.toInt := by
  have h1 := own_len6 hl hl'
  have h3 := hl.2.1
  have h4 := hl'.2.1
  exact ⟨by omega, hk.1⟩
def own_T (n n' t : Int32) : Prop := t.toInt = n.toInt + n'.toInt ∧ (0 ≤ n.toInt ∧ n.toInt ≤ 3) ∧ 0 ≤ n'.toInt ∧ n'.toInt ≤ 3
theorem own_tot {n n' t : Int32} (h1 : 0 ≤ n.toInt ∧ n.toInt ≤ 3) (h2 : 0 ≤ n'.toInt ∧ n'.toInt ≤ 3) (h : t = (n + n')) : own_T n n' t := by
  have q1 := c_iadd n n'
  have q2 := rng32 (n + n')
  rw [← h] at q1 q2
  exact ⟨by omega, h1, h2⟩
theorem own_count {n n' t : Int32} {ys ys' : List Addr} {e0 e1 e2 e3 e4 e5 : Addr} {jc : Int64} (hvl : jc.toInt = ((([] : List Value) ++ ys.map Value.ref) ++ ys'.map Value.ref).length) (hl : own_LL n ys [e0, e1, e2]) (hl' : own_LL n' ys' [e3, e4, e5]) (hT : own_T n n' t) : lcmpW jc (t.toInt64) = (0 : Int32) ∧ ¬ ((0 : Int32) < lcmpW (jc - (0 : Int64)) (t.toInt64)) := by
  have h1 := own_len6 hl hl'
  have e : jc = t.toInt64 := Int64.toInt_inj.mp (by rw [c_i2l, hT.1]; omega)
  refine ⟨(lw_eq _ _).mpr e, ?_⟩
  rw [lw_gt, Int64.lt_iff_toInt_lt]
  have q1 := c_lsub jc (0 : Int64)
  have q2 := rng64 (jc - (0 : Int64))
  rw [own_j0, e] at q1
  rw [e] at q2 ⊢
  have := rng64 t.toInt64
  omega
theorem own_cnn {jc : Int64} {n : Nat} (h : jc.toInt = n) : (0 : Int64).toInt ≤ jc.toInt := by rw [own_j0]; omega
theorem own_t1 {n n' t : Int32} (hT : own_T n n' t) : (t + (1 : Int32)) ≠ (0 : Int32) := fun q => by
  have q1 := c_iadd t (1 : Int32)
  have e : (1 : Int32).toInt = 1 := by decide
  rw [q, e, own_i0] at q1
  have := hT.1; have := hT.2.1; have := hT.2.2
  omega
theorem own_from {n n' t x r : Int32} (hT : own_T n n' t) (h : r = ((x &&& (255 : Int32)) % (t + (1 : Int32)))) : 0 ≤ r.toInt ∧ r.toInt ≤ t.toInt := by
  have q1 := c_iadd t (1 : Int32)
  have e : (1 : Int32).toInt = 1 := by decide
  have q2 := rng32 (t + (1 : Int32))
  rw [e] at q1
  have := hT.1; have := hT.2.1; have := hT.2.2
  have q3 : (t + (1 : Int32)).toInt = t.toInt + 1 := by omega
  have q4 := (c_iremV (x &&& (255 : Int32)) (t + (1 : Int32))).1 (c_and x (255 : Int32) (by decide)).1 (by omega)
  rw [← h] at q4
  omega
theorem own_most {w x : Int32} (h : w = (x &&& (7 : Int32))) : 0 ≤ w.toInt ∧ w.toInt ≤ 7 := by
  have q := c_and x (7 : Int32) (by decide)
  have e : (7 : Int32).toInt = 7 := by decide
  rw [← h, e] at q
  exact q
theorem own_jf {t r : Int32} {jc : Int64} {P : Prop} (hC : lcmpW jc (t.toInt64) = (0 : Int32) ∧ P) (hF : 0 ≤ r.toInt ∧ r.toInt ≤ t.toInt) : 0 ≤ (r.toInt64).toInt ∧ (r.toInt64).toInt ≤ jc.toInt := by
  have e := (lw_eq _ _).mp hC.1
  rw [e, c_i2l, c_i2l]
  exact hF
theorem own_restv {n n' t r : Int32} {jc : Int64} {P : Prop} (hC : lcmpW jc (t.toInt64) = (0 : Int32) ∧ P) (hT : own_T n n' t) (hF : 0 ≤ r.toInt ∧ r.toInt ≤ t.toInt) : (jc - (r.toInt64)).toInt = t.toInt - r.toInt ∧ (t - r).toInt = t.toInt - r.toInt := by
  have e := (lw_eq _ _).mp hC.1
  have q1 := c_lsub jc r.toInt64
  have q2 := rng64 (jc - r.toInt64)
  have q3 := c_isub t r
  have q4 := rng32 (t - r)
  rw [c_i2l] at q1
  have q5 : jc.toInt = t.toInt := by rw [e, c_i2l]
  have := hT.1; have := hT.2.1; have := hT.2.2
  omega
theorem own_rest1 {n n' t r w : Int32} {jc : Int64} {P : Prop} (hC : lcmpW jc (t.toInt64) = (0 : Int32) ∧ P) (hT : own_T n n' t) (hF : 0 ≤ r.toInt ∧ r.toInt ≤ t.toInt) (hW : 0 ≤ w.toInt ∧ w.toInt ≤ 7) (hno : (0 : Int32) < lcmpW (jc - (r.toInt64)) (w.toInt64)) : w < (t - r) := by
  have v := own_restv hC hT hF
  rw [lw_gt, Int64.lt_iff_toInt_lt, c_i2l] at hno
  exact own_ltI (by omega)
theorem own_rest0 {n n' t r w : Int32} {jc : Int64} {P : Prop} (hC : lcmpW jc (t.toInt64) = (0 : Int32) ∧ P) (hT : own_T n n' t) (hF : 0 ≤ r.toInt ∧ r.toInt ≤ t.toInt) (hW : 0 ≤ w.toInt ∧ w.toInt ≤ 7) (hno : ¬ ((0 : Int32) < lcmpW (jc - (r.toInt64)) (w.toInt64))) : ¬ (w < (t - r)) := by
  have v := own_restv hC hT hF
  rw [lw_gt, Int64.lt_iff_toInt_lt, c_i2l] at hno
  exact own_nltI (by omega)
theorem own_ofNat {j : Nat} (h : j ≤ 100) : (Int32.ofNat j).toInt = j := by rw [Int32.toInt_ofNat_of_lt (by omega)]
theorem own_matchG {Z : State} {h : Heap} {C : String} {n n' t f pl ps z : Int32} {jf : Int64} {ys ys' : List Addr} {e0 e1 e2 e3 e4 e5 : Addr} (hl : own_LL n ys [e0, e1, e2]) (hl' : own_LL n' ys' [e3, e4, e5]) (hT : own_T n n' t) (hf : 0 ≤ f.toInt ∧ f.toInt ≤ t.toInt) (hjf : jf.toInt = f.toInt) (hpl : pl.toInt = t.toInt - f.toInt)
    (hps : ps.toInt = (((([] : List Value) ++ ys.map Value.ref) ++ ys'.map Value.ref).drop jf.toInt.toNat).length ∧ ps.toInt ≤ z.toInt) (E0 : Exa Z h e0 C) (E1 : Exa Z h e1 C) (E2 : Exa Z h e2 C) (E3 : Exa Z h e3 C) (E4 : Exa Z h e4 C) (E5 : Exa Z h e5 C) :
    pl = ps ∧ (0 ≤ pl.toInt ∧ pl.toInt ≤ 6 ∧ pl.toInt ≤ z.toInt) ∧ ∀ j : Nat, (j : Int) < pl.toInt → ∃ y : Addr, (((([] : List Value) ++ ys.map Value.ref) ++ ys'.map Value.ref).drop jf.toInt.toNat).getD j .null = .ref y ∧ Exa Z h y C ∧
      (((f + Int32.ofNat j) < n ∧ own_at [(.ref e0), (.ref e1), (.ref e2), (.ref e3), (.ref e4), (.ref e5)] ((f + Int32.ofNat j)) y) ∨ (¬ ((f + Int32.ofNat j) < n) ∧ own_at [(.ref e0), (.ref e1), (.ref e2), (.ref e3), (.ref e4), (.ref e5)] (((3 : Int32) + (f + Int32.ofNat j)) - n) y)) := by
  have t1 := hT.1; have t2 := hT.2.1; have t3 := hT.2.2
  have l6 := own_len6 hl hl'
  have hsz : pl.toInt = ps.toInt := by rw [hps.1, List.length_drop]; omega
  refine ⟨Int32.toInt_inj.mp hsz, ⟨by omega, by omega, by omega⟩, fun j hj => ?_⟩
  have e : ((([] : List Value) ++ ys.map Value.ref) ++ ys'.map Value.ref) = (ys ++ ys').map Value.ref := by simp
  have y1 := own_ylen hl
  have y2 := own_ylen hl'
  rw [e, own_getDrop]
  obtain ⟨i, hi⟩ : ∃ i : Nat, i = jf.toInt.toNat + j := ⟨_, rfl⟩
  rw [← hi]
  have hi' : (i : Int) = f.toInt + j := by omega
  have hlt : i < (ys ++ ys').length := by rw [List.length_append]; omega
  have c1 := c_iadd f (Int32.ofNat j)
  have c2 := rng32 (f + Int32.ofNat j)
  rw [own_ofNat (by omega)] at c1
  have c3 : (f + Int32.ofNat j).toInt = i := by omega
  refine ⟨(ys ++ ys')[i], by rw [List.getD_eq_getElem?_getD, List.getElem?_map, List.getElem?_eq_getElem hlt]; rfl, ?_, ?_⟩
  · have hm := List.getElem_mem hlt
    rw [List.mem_append] at hm
    rcases hm with hm | hm
    · exact (own_hE hl E0 E1 E2).2 _ hm
    · exact (own_hE hl' E3 E4 E5).2 _ hm
  · have z0 := own_i0
    have e6 : (6 : Int32).toInt = 6 := by decide
    by_cases q : (i : Int) < n.toInt
    · refine Or.inl ⟨own_ltI (by omega), own_nltI (by omega), own_ltI (by omega), ?_⟩
      rw [own_clamp c3]
      have hil : i < ys.length := by omega
      have g : (ys ++ ys')[i]? = [e0, e1, e2][i]? := by
        rw [List.getElem?_append_left hil, hl.2.2, List.getElem?_take, if_pos (by omega)]
      rw [List.getElem?_eq_getElem hlt] at g
      have : i = 0 ∨ i = 1 ∨ i = 2 := by omega
      rcases this with w | w | w <;> subst w <;> simp at g <;> simp [g]
    · have d1 := c_iadd (3 : Int32) (f + Int32.ofNat j)
      have d2 := rng32 ((3 : Int32) + (f + Int32.ofNat j))
      have d3 := c_isub ((3 : Int32) + (f + Int32.ofNat j)) n
      have d4 := rng32 (((3 : Int32) + (f + Int32.ofNat j)) - n)
      have e3' : (3 : Int32).toInt = 3 := by decide
      rw [e3'] at d1
      obtain ⟨k, hk⟩ : ∃ k : Nat, (k : Int) = i - n.toInt := ⟨((i : Int) - n.toInt).toNat, by omega⟩
      have d5 : (((3 : Int32) + (f + Int32.ofNat j)) - n).toInt = (3 + k : Nat) := by omega
      refine Or.inr ⟨own_nltI (by omega), own_nltI (by omega), own_ltI (by omega), ?_⟩
      rw [own_clamp d5]
      have g : (ys ++ ys')[i]? = [e3, e4, e5][k]? := by
        rw [List.getElem?_append_right (by omega), show i - ys.length = k by omega, hl'.2.2, List.getElem?_take, if_pos (by omega)]
      rw [List.getElem?_eq_getElem hlt] at g
      have : k = 0 ∨ k = 1 ∨ k = 2 := by omega
      rcases this with w | w | w <;> subst w <;> simp at g <;> simp [g]
theorem own_f0 {n n' t : Int32} (hT : own_T n n' t) : 0 ≤ (0 : Int32).toInt ∧ (0 : Int32).toInt ≤ t.toInt := by
  have := hT.1; have := hT.2.1; have := hT.2.2; have := own_i0; omega
theorem own_pl0 (t : Int32) : t.toInt = t.toInt - (0 : Int32).toInt := by have := own_i0; omega
theorem own_pl2 {n n' t f : Int32} (hT : own_T n n' t) (hF : 0 ≤ f.toInt ∧ f.toInt ≤ t.toInt) : (t - f).toInt = t.toInt - f.toInt := by
  have := c_isub t f; have := rng32 (t - f); have := hT.1; have := hT.2.1; have := hT.2.2; omega
theorem own_e0j {pf pn1 : Int32} {es : List Value} {y : Addr} (h : ((pf + Int32.ofNat 0) < pn1 ∧ own_at es ((pf + Int32.ofNat 0)) y) ∨ (¬ ((pf + Int32.ofNat 0) < pn1) ∧ own_at es (((3 : Int32) + (pf + Int32.ofNat 0)) - pn1) y)) : (pf < pn1 ∧ own_at es (pf) y) ∨ (¬ (pf < pn1) ∧ own_at es (((3 : Int32) + pf) - pn1) y) := by
  have e : pf + Int32.ofNat 0 = pf := Int32.add_zero pf
  rw [e] at h
  exact h
theorem own_on {x pl : Int32} {n : Int} (h : x < pl) (e : x.toInt = n := by decide) : n < pl.toInt := by have := own_iLt h; omega
theorem own_off {x y pl : Int32} (h : ¬ (x < pl)) (e : x.toInt ≤ y.toInt) : ¬ (y < pl) := own_nltI (by have := own_iNlt h; omega)
theorem own_jz {x pl z : Int32} (hpl : 0 ≤ pl.toInt ∧ pl.toInt ≤ 6 ∧ pl.toInt ≤ z.toInt) (h : x < pl) : x < z := own_ltI (by have := own_iLt h; omega)
theorem own_notz {s : State} {args : Array Value} {t : Jvm.Term} {x k : Int32} (ev : t.eval args s none [] s = some (.int x)) (h : (Jvm.Cond.not (Jvm.Cond.eq t (Jvm.Term.int k))).value args s none s [] = some true) : ¬ (x = k) := by
  have q := not_v h
  simp [Cond.value, ev, Term.eval] at q
  exact q
theorem own_arr {s : State} {args : Array Value} {t : Jvm.Term} {a : Addr} {ty : FieldType} {n : Int32} {dv : Value} (hf : Fit s) (ev : t.eval args s none [] s = some (.ref a)) (hA : (Jvm.Cond.arrayOf t ty).value args s none s [] = some true) (hL : (Jvm.Cond.eq (Jvm.Term.length t) (Jvm.Term.int n)).value args s none s [] = some true) (hn : ¬ n < 0 := by decide) : ∃ k vs, Arv s s.heap a k ty n vs dv := by
  obtain ⟨cl, A⟩ := Arr.start ev hA
  obtain ⟨L1, L2⟩ := own_len ev A hL
  have hs : cl.slots.size = n.toNatClampNeg := by
    rw [← L2, Int32.toNatClampNeg, len_toInt L1]
    rfl
  have key : ∀ i, i < cl.slots.size → ∃ v, cl.slots[i]? = some v ∧ fits ty v = true := fun i hi => by
    obtain ⟨v, v1, v2⟩ := elem_fit (j := i.toInt32) hf A (idx_in hi L1)
    have e : i.toInt32.toNatClampNeg = i := by rw [Int32.toNatClampNeg, len_toInt (by omega)]; rfl
    rw [e] at v1
    exact ⟨v, v1, v2⟩
  have gd : ∀ i, i < cl.slots.size → cl.slots[i]? = some (cl.slots.toList.getD i dv) := fun i hi => by
    obtain ⟨v, v1, -⟩ := key i hi
    rw [List.getD_eq_getElem?_getD, Array.getElem?_toList, v1]
    rfl
  refine ⟨cl.cls, cl.slots.toList, cl, A, rfl, hs, hn, gd, fun i hi => ?_⟩
  obtain ⟨v, v1, v2⟩ := key i hi
  have q := gd i hi
  rw [v1] at q
  rw [← Option.some.inj q]
  exact v2
theorem own_arr0 {s : State} {args : Array Value} {t : Jvm.Term} {a : Addr} {ty : FieldType} (hf : Fit s) (ev : t.eval args s none [] s = some (.ref a)) (hA : (Jvm.Cond.arrayOf t ty).value args s none s [] = some true) (hL : (Jvm.Cond.eq (Jvm.Term.length t) (Jvm.Term.int (0 : Int32))).value args s none s [] = some true) {dv : Value} : ∃ k, Arv s s.heap a k ty (0 : Int32) [] dv := by
  obtain ⟨k, vs, cl, A, q1, S, M, H, G⟩ := own_arr (dv := dv) hf ev hA hL
  have z : ∀ i, ¬ i < cl.slots.size := fun i hi => by rw [S] at hi; exact absurd hi (Nat.not_lt_zero _)
  exact ⟨k, cl, A, q1, S, M, fun i hi => absurd hi (z i), fun i hi => absurd hi (z i)⟩

theorem d2_0 : decode jdk_43_method_3_code 0 = .ok (.iload_n 0, 1) := by decide +kernel
theorem d2_1 : decode jdk_43_method_3_code 1 = .ok (.sipush 255, 3) := by decide +kernel
theorem d2_4 : decode jdk_43_method_3_code 4 = .ok (.if_icmp .gt 7, 3) := by decide +kernel
theorem d2_7 : decode jdk_43_method_3_code 7 = .ok (.iconst 1, 1) := by decide +kernel
theorem d2_8 : decode jdk_43_method_3_code 8 = .ok (.goto 4, 3) := by decide +kernel
theorem d2_12 : decode jdk_43_method_3_code 12 = .ok (.ireturn, 1) := by decide +kernel
theorem pn_StringLatin1 : plainName "java/lang/StringLatin1" = true := by first | (simp [plainName, overriddenIn]; done) | decide +kernel
theorem ef_canEnc (m : MethodId) (pc : Int32) : entryFrame m #[(.int pc)] 1 = mkF m 0 #[.val (.int pc)] [] := by first | (simp [entryFrame, mkF, argsToLocals, Value.category]; done) | rfl
def Q_canEnc (Z : State) (pc : Int32) (h0 : Heap) (n0 : Nat) (v_ : Option Value) (h_ : Heap) (L_ : List Loc) : Prop := v_ = some (.int (1 : Int32)) ∧ Fr n0 L_ ∧ h_ = h0
set_option maxRecDepth 65536 in
set_option maxHeartbeats 40000000 in
theorem rm_canEnc (l : Launch) (Z : State) (a0 : Array Value) (hw : ∀ d ∈ tables_1, d.before a0 Z = true) (ws : List Jvm.Cond) (pc : Int32) (h0 : Heap) (n0 : Nat) (O0 : Old Z n0 h0) (hpc : ¬ ((255 : Int32) < pc)) :
    MetFree l (⟨"java/lang/StringLatin1", "canEncode", "(C)Z"⟩ : MethodName) (head1 (Jvm.Cond.code (⟨"java/lang/StringLatin1", "canEncode", "(C)Z"⟩ : MethodName) jdk_43_method_3_code 1 (some .boolean) :: ws) ({ frames := 0, cells := 0, slots := 0, locals := 0 } : Room)) (fun aa_ U_ => aa_ = #[(.int pc)] ∧ Z.Warmed39 U_.vm ∧ U_.heap = h0) (fun _ _ _ _ _ => True) (fun _ U_ o_ U_' => ∃ v_ L_, o_ = .returned v_ ∧ Q_canEnc Z pc h0 n0 v_ U_'.heap L_ ∧ FrameEnd U_ o_ U_' L_ ({ frames := 0, cells := 0, slots := 0, locals := 0 } : Room).cells ({ frames := 0, cells := 0, slots := 0, locals := 0 } : Room).slots) := by
  refine MetFree.of_bodySF (plainFor_of_name pn_StringLatin1) hisR ?_
  intro p e s m args below meth c s₁ Bd hml0 hP hK
  obtain ⟨rfl, hZ, hh⟩ := hP
  have hx := Bd.exec
  have hby := Bd.bytes
  have hml : c.maxLocals = 1 := hml0
  have hown : s.vm.findClass "java/lang/StringLatin1" = some m.cls := findClass_of_methodNamed Bd.named
  have hnm := (name_of_methodNamed Bd.named Bd.method).1
  have X0 : Stand p l e ({ frames := 0, cells := 0, slots := 0, locals := 0 } : Room) s m #[(.int pc)] below meth c s₁ [] 0 0 := Stand.of_body Bd
  have e0 : s₁.heap = h0 := by rw [← hh, Bd.state]; rfl
  have N0 := Fr.nil n0
  have pre0 : ∀ z_, Steps p.tables e below (s₁.setTop (mkF m 0 #[.val (.int pc)] [])) z_ → Steps p.tables e below (s₁.setTop (entryFrame m #[(.int pc)] 1)) z_ := fun z_ k_ => castTop (ef_canEnc m pc) k_
  have r0 : own_R p e below s₁ (mkF m 0 #[.val (.int pc)] []) s₁ (mkF m 0 #[.val (.int pc)] []) := own_R.refl
  have r1 : own_R p e below _ _ s₁ (mkF m 12 #[.val (.int pc)] [(.int (1 : Int32))]) := r0.trans fun z_ kt => by
    refine XS.iloadN X0.here hx rfl (hb hby d2_0) rfl ?_
    refine XS.sipush X0.here hx rfl (hb hby d2_1) ?_
    refine XS.icmpNo X0.here hx rfl (hb hby d2_4) rfl (flt (hpc : ¬ ((255 : Int32) < pc))).2.2.1 ?_
    refine XS.iconst X0.here hx rfl (hb hby d2_7) ?_
    refine XS.goto X0.here hx rfl (pc0 := 8) (pc' := 12) rfl (hb hby d2_8) (by decide) (by decide) ?_
    exact kt
  obtain ⟨fs_, hr_, hrun_, hended_, hW_, hsame_⟩ := X0.leave (v := some (.int (1 : Int32))) (fun h => by rw [Bd.returns] at h; cases h)
  refine ⟨_, _, pre0 _ (r1 _ ?_), hrun_, hended_, _, _, rfl, ?_, ⟨_, rfl⟩, hW_, hsame_.mono (by decide) (by decide)⟩
  · exact retN X0 hx (t := .boolean) Bd.returns (by simp) (hb hby d2_12) hr_
  · show Q_canEnc Z pc h0 n0 _ s₁.heap _
    rw [e0]
    exact ⟨rfl, N0, rfl⟩

theorem d3_0 : decode jdk_43_method_46_code 0 = .ok (.iconst 1, 1) := by decide +kernel
theorem d3_1 : decode jdk_43_method_46_code 1 = .ok (.newarray .byte, 2) := by decide +kernel
theorem d3_3 : decode jdk_43_method_46_code 3 = .ok (.dup, 1) := by decide +kernel
theorem d3_4 : decode jdk_43_method_46_code 4 = .ok (.iconst 0, 1) := by decide +kernel
theorem d3_5 : decode jdk_43_method_46_code 5 = .ok (.iload_n 0, 1) := by decide +kernel
theorem d3_6 : decode jdk_43_method_46_code 6 = .ok (.i2b, 1) := by decide +kernel
theorem d3_7 : decode jdk_43_method_46_code 7 = .ok (.bastore, 1) := by decide +kernel
theorem d3_8 : decode jdk_43_method_46_code 8 = .ok (.areturn, 1) := by decide +kernel
theorem ef_toBytes (m : MethodId) (pc : Int32) : entryFrame m #[(.int pc)] 1 = mkF m 0 #[.val (.int pc)] [] := by first | (simp [entryFrame, mkF, argsToLocals, Value.category]; done) | rfl
def Q_toBytes (Z : State) (pc : Int32) (h0 : Heap) (n0 : Nat) (v_ : Option Value) (h_ : Heap) (L_ : List Loc) : Prop := ∃ (b : Addr), v_ = some (.ref b) ∧ Fr n0 L_ ∧ Keep h0 h_ [] ∧ (h0.size ≤ b)
set_option maxRecDepth 65536 in
set_option maxHeartbeats 40000000 in
theorem rm_toBytes (l : Launch) (Z : State) (a0 : Array Value) (hw : ∀ d ∈ tables_1, d.before a0 Z = true) (ws : List Jvm.Cond) (pc : Int32) (h0 : Heap) (n0 : Nat) (O0 : Old Z n0 h0) :
    MetFree l (⟨"java/lang/StringLatin1", "toBytes", "(C)[B"⟩ : MethodName) (head1 (Jvm.Cond.code (⟨"java/lang/StringLatin1", "toBytes", "(C)[B"⟩ : MethodName) jdk_43_method_46_code 1 (some (.array .byte)) :: ws) ({ frames := 0, cells := 1, slots := 1, locals := 0 } : Room)) (fun aa_ U_ => aa_ = #[(.int pc)] ∧ Z.Warmed39 U_.vm ∧ U_.heap = h0) (fun _ _ _ _ _ => True) (fun _ U_ o_ U_' => ∃ v_ L_, o_ = .returned v_ ∧ Q_toBytes Z pc h0 n0 v_ U_'.heap L_ ∧ FrameEnd U_ o_ U_' L_ ({ frames := 0, cells := 1, slots := 1, locals := 0 } : Room).cells ({ frames := 0, cells := 1, slots := 1, locals := 0 } : Room).slots) := by
  refine MetFree.of_bodySF (plainFor_of_name pn_StringLatin1) hisR ?_
  intro p e s m args below meth c s₁ Bd hml0 hP hK
  obtain ⟨rfl, hZ, hh⟩ := hP
  have hx := Bd.exec
  have hby := Bd.bytes
  have hml : c.maxLocals = 1 := hml0
  have hown : s.vm.findClass "java/lang/StringLatin1" = some m.cls := findClass_of_methodNamed Bd.named
  have hnm := (name_of_methodNamed Bd.named Bd.method).1
  have X0 : Stand p l e ({ frames := 0, cells := 1, slots := 1, locals := 0 } : Room) s m #[(.int pc)] below meth c s₁ [] 0 0 := Stand.of_body Bd
  have e0 : s₁.heap = h0 := by rw [← hh, Bd.state]; rfl
  have N0 := Fr.nil n0
  have K0 : Keep h0 h0 [] := Keep.refl h0 _
  have pre0 : ∀ z_, Steps p.tables e below (s₁.setTop (mkF m 0 #[.val (.int pc)] [])) z_ → Steps p.tables e below (s₁.setTop (entryFrame m #[(.int pc)] 1)) z_ := fun z_ k_ => castTop (ef_toBytes m pc) k_
  have r0 : own_R p e below s₁ (mkF m 0 #[.val (.int pc)] []) s₁ (mkF m 0 #[.val (.int pc)] []) := own_R.refl
  have r1 : own_R p e below _ _ s₁ (mkF m 1 #[.val (.int pc)] [(.int (1 : Int32))]) := r0.trans fun z_ kt => by
    refine XS.iconst X0.here hx rfl (hb hby d3_0) ?_
    exact kt
  obtain ⟨T2, h2, k2, X2, e2, E2, A2, st2⟩ := newP X0 hx hZ (hw _ (own_g (i := 16) rfl)) e0 (g := (mkF m 1 #[.val (.int pc)] [(.int (1 : Int32))])) rfl (hb hby d3_1) rfl (by decide) (cap := 1) (by decide) (by decide) (by decide) (by decide)
  obtain ⟨b2, g2⟩ : ∃ z, z = h0.size := ⟨_, rfl⟩
  rw [← g2] at A2 st2
  have r2 : own_R p e below _ _ T2 (mkF m 3 #[.val (.int pc)] [(.ref b2)]) := r1.trans fun z_ kt => st2 _ kt
  have g_b2 : n0 ≤ b2 := Nat.le_trans (own_old_size O0) (Nat.le_of_eq g2.symm)
  have sz_b2 : h0.size ≤ b2 := Nat.le_trans K0.1 (Nat.le_of_eq g2.symm)
  have O2 := O0.ext E2
  have K2 := K0.ext E2
  have V2 : Arv Z h2 b2 k2 .byte (1 : Int32) [(.int (0 : Int32))] (.int (0 : Int32)) := (Arv.new A2 (by decide)).pad (pad_rep [] (.int (0 : Int32)) 1)
  obtain ⟨cl3, Ar3, q3, S3, M3, H3, G3⟩ := id V2
  have hin3 : ¬ ((0 : Int32) < 0 ∨ cl3.slots.size ≤ ((0 : Int32)).toNatClampNeg) := inb_of S3 ⟨by decide, by decide⟩
  have r4 : own_R p e below _ _ T2 (mkF m 7 #[.val (.int pc)] [(.int (pc.toInt8.toInt32)), (.int (0 : Int32)), (.ref b2), (.ref b2)]) := r2.trans fun z_ kt => by
    refine XS.dup X2.here hx rfl (hb hby d3_3) rfl rfl ?_
    refine XS.iconst X2.here hx rfl (hb hby d3_4) ?_
    refine XS.iloadN X2.here hx rfl (hb hby d3_5) rfl ?_
    refine XS.i2b X2.here hx rfl (hb hby d3_6) rfl ?_
    exact kt
  obtain ⟨T5, h5, X5, e5, W5, st5⟩ := stB X2 hx hZ e2 Ar3 (j := (0 : Int32)) hin3 (g := (mkF m 7 #[.val (.int pc)] [(.int (pc.toInt8.toInt32)), (.int (0 : Int32)), (.ref b2), (.ref b2)])) rfl rfl (hb hby d3_7)
  have r5 : own_R p e below _ _ T5 (mkF m 8 #[.val (.int pc)] [(.ref b2)]) := r4.trans fun z_ kt => st5 _ kt
  have N5 := Fr.snoc X5 N0 g_b2
  have O5 := O2.wr W5 g_b2
  have K5 := K2.wr W5 (Or.inr sz_b2)
  have V5 : Arv Z h5 b2 k2 .byte (1 : Int32) [(.int (nar .byte (pc.toInt8.toInt32)))] (.int (0 : Int32)) := Arv.set Ar3 q3 S3 M3 H3 G3 (fits_nar_byte _) W5 0 rfl (Nat.le_of_ble_eq_true rfl)
  obtain ⟨fs_, hr_, hrun_, hended_, hW_, hsame_⟩ := X5.leave (v := some (.ref b2)) (fun h => by rw [Bd.returns] at h; cases h)
  refine ⟨_, _, pre0 _ (r5 _ ?_), hrun_, hended_, _, _, rfl, ?_, ⟨_, rfl⟩, hW_, hsame_.mono (by decide) (by decide)⟩
  · exact retOut X5 hx Bd.returns rfl (Or.inr (Or.inr (Or.inr (Or.inr ⟨rfl, rfl, rfl⟩)))) (hb hby d3_8) hr_
  · show Q_toBytes Z pc h0 n0 _ T5.heap _
    rw [e5]
    exact ⟨b2, rfl, N5, K5, sz_b2⟩

theorem d4_0 : decode jdk_42_method_151_code 0 = .ok (.aload_n 0, 1) := by decide +kernel
theorem d4_1 : decode jdk_42_method_151_code 1 = .ok (.invokespecial 1, 3) := by decide +kernel
theorem d4_4 : decode jdk_42_method_151_code 4 = .ok (.aload_n 0, 1) := by decide +kernel
theorem d4_5 : decode jdk_42_method_151_code 5 = .ok (.aload_n 1, 1) := by decide +kernel
theorem d4_6 : decode jdk_42_method_151_code 6 = .ok (.putfield 9, 3) := by decide +kernel
theorem d4_9 : decode jdk_42_method_151_code 9 = .ok (.aload_n 0, 1) := by decide +kernel
theorem d4_10 : decode jdk_42_method_151_code 10 = .ok (.iload_n 2, 1) := by decide +kernel
theorem d4_11 : decode jdk_42_method_151_code 11 = .ok (.putfield 15, 3) := by decide +kernel
theorem d4_14 : decode jdk_42_method_151_code 14 = .ok (.return_, 1) := by decide +kernel
theorem pn_String : plainName "java/lang/String" = true := by first | (simp [plainName, overriddenIn]; done) | decide +kernel
theorem ef_stInit (m : MethodId) (a : Addr) (b : Addr) : entryFrame m #[(.ref a), (.ref b), (.int (0 : Int32))] 3 = mkF m 0 #[.val (.ref a), .val (.ref b), .val (.int (0 : Int32))] [] := by first | (simp [entryFrame, mkF, argsToLocals, Value.category]; done) | rfl
def Q_stInit (Z : State) (a : Addr) (b : Addr) (u1 : Value) (u2 : Value) (h0 : Heap) (n0 : Nat) (v_ : Option Value) (h_ : Heap) (L_ : List Loc) : Prop := v_ = none ∧ Fr n0 L_ ∧ Keep h0 h_ [a]
set_option maxRecDepth 65536 in
set_option maxHeartbeats 40000000 in
theorem rm_stInit (l : Launch) (Z : State) (a0 : Array Value) (hw : ∀ d ∈ tables_1, d.before a0 Z = true) (ws : List Jvm.Cond) (a : Addr) (b : Addr) (u1 : Value) (u2 : Value) (h0 : Heap) (n0 : Nat) (O0 : Old Z n0 h0) (E_a : Exa Z h0 a "java/lang/String") (g_a : n0 ≤ a) (F_a_value : Fld Z h0 a "java/lang/String" "value" "[B" u1) (F_a_coder : Fld Z h0 a "java/lang/String" "coder" "B" u2) :
    MetFree l (⟨"java/lang/String", "<init>", "([BB)V"⟩ : MethodName) (head1 (Jvm.Cond.code (⟨"java/lang/String", "<init>", "([BB)V"⟩ : MethodName) jdk_42_method_151_code 3 none :: ws) ({ frames := 1, cells := 0, slots := 0, locals := 12 } : Room)) (fun aa_ U_ => aa_ = #[(.ref a), (.ref b), (.int (0 : Int32))] ∧ Z.Warmed39 U_.vm ∧ U_.heap = h0) (fun _ _ _ _ _ => True) (fun _ U_ o_ U_' => ∃ v_ L_, o_ = .returned v_ ∧ Q_stInit Z a b u1 u2 h0 n0 v_ U_'.heap L_ ∧ FrameEnd U_ o_ U_' L_ ({ frames := 1, cells := 0, slots := 0, locals := 12 } : Room).cells ({ frames := 1, cells := 0, slots := 0, locals := 12 } : Room).slots) := by
  refine MetFree.of_bodySF (plainFor_of_name pn_String) hisR ?_
  intro p e s m args below meth c s₁ Bd hml0 hP hK
  obtain ⟨rfl, hZ, hh⟩ := hP
  have hx := Bd.exec
  have hby := Bd.bytes
  have hml : c.maxLocals = 3 := hml0
  have hown : s.vm.findClass "java/lang/String" = some m.cls := findClass_of_methodNamed Bd.named
  have hnm := (name_of_methodNamed Bd.named Bd.method).1
  have X0 : Stand p l e ({ frames := 1, cells := 0, slots := 0, locals := 12 } : Room) s m #[(.ref a), (.ref b), (.int (0 : Int32))] below meth c s₁ [] 0 0 := Stand.of_body Bd
  have e0 : s₁.heap = h0 := by rw [← hh, Bd.state]; rfl
  have N0 := Fr.nil n0
  have K0 : Keep h0 h0 [a] := Keep.refl h0 _
  have pre0 : ∀ z_, Steps p.tables e below (s₁.setTop (mkF m 0 #[.val (.ref a), .val (.ref b), .val (.int (0 : Int32))] [])) z_ → Steps p.tables e below (s₁.setTop (entryFrame m #[(.ref a), (.ref b), (.int (0 : Int32))] 3)) z_ := fun z_ k_ => castTop (ef_stInit m a b) k_
  have r0 : own_R p e below s₁ (mkF m 0 #[.val (.ref a), .val (.ref b), .val (.int (0 : Int32))] []) s₁ (mkF m 0 #[.val (.ref a), .val (.ref b), .val (.int (0 : Int32))] []) := own_R.refl
  have r1 : own_R p e below _ _ s₁ (mkF m 1 #[.val (.ref a), .val (.ref b), .val (.int (0 : Int32))] [(.ref a)]) := r0.trans fun z_ kt => by
    refine XS.aloadN X0.here hx rfl (hb hby d4_0) rfl rfl ?_
    exact kt
  obtain ⟨T2, X2, e2, st2⟩ := initO X0 hx hZ hown (hw _ (own_g (i := 21) rfl)) (hw _ (own_g (i := 22) rfl)) (hw _ (own_g (i := 23) rfl)) e0 (g := (mkF m 1 #[.val (.ref a), .val (.ref b), .val (.int (0 : Int32))] [(.ref a)])) rfl (by rw [hml]; rfl) rfl (hb hby d4_1) (by decide) (W := 0) (by show 2 * 0 + _ ≤ _; exact Nat.le_of_eq rfl) (by decide)
  have r2 : own_R p e below _ _ T2 (mkF m 4 #[.val (.ref a), .val (.ref b), .val (.int (0 : Int32))] []) := r1.trans fun z_ kt => st2 _ kt
  have r3 : own_R p e below _ _ T2 (mkF m 6 #[.val (.ref a), .val (.ref b), .val (.int (0 : Int32))] [(.ref b), (.ref a)]) := r2.trans fun z_ kt => by
    refine XS.aloadN X2.here hx rfl (hb hby d4_4) rfl rfl ?_
    refine XS.aloadN X2.here hx rfl (hb hby d4_5) rfl rfl ?_
    exact kt
  obtain ⟨T4, h4, X4, e4, W4, st4⟩ := putF X2 hx hZ hown (host := "") (Or.inl (hw _ (own_g (i := 24) rfl))) Via.refl e2 F_a_value E_a (Or.inr ⟨(hw _ (own_g (i := 25) rfl)), rfl, hnm⟩) (hw _ (own_g (i := 12) rfl)) (ty := (.array .byte)) (v := (.ref b)) (by decide) rfl rfl (g := (mkF m 6 #[.val (.ref a), .val (.ref b), .val (.int (0 : Int32))] [(.ref b), (.ref a)])) rfl rfl (hb hby d4_6)
  have r4 : own_R p e below _ _ T4 (mkF m 9 #[.val (.ref a), .val (.ref b), .val (.int (0 : Int32))] []) := r3.trans fun z_ kt => st4 _ kt
  have N4 := Fr.snoc X4 N0 g_a
  have O4 := O0.wr W4 g_a
  have K4 := K0.wr W4 (Or.inl (List.mem_of_getElem? (i := 0) rfl))
  have F4 := F_a_value.same W4
  have f5 := (F_a_coder.other W4 (Or.inr (slot_ne (Or.inr (hw _ (own_g (i := 27) rfl))) (Or.inr (hw _ (own_g (i := 25) rfl))) (by decide) (t := .byte) (t' := (.array .byte)) (by decide) (by decide))))
  have f6 := (E_a.wr W4)
  have r7 : own_R p e below _ _ T4 (mkF m 11 #[.val (.ref a), .val (.ref b), .val (.int (0 : Int32))] [(.int (0 : Int32)), (.ref a)]) := r4.trans fun z_ kt => by
    refine XS.aloadN X4.here hx rfl (hb hby d4_9) rfl rfl ?_
    refine XS.iloadN X4.here hx rfl (hb hby d4_10) rfl ?_
    exact kt
  obtain ⟨T8, h8, X8, e8, W8, st8⟩ := putF X4 hx hZ hown (host := "") (Or.inl (hw _ (own_g (i := 26) rfl))) Via.refl e4 f5 f6 (Or.inr ⟨(hw _ (own_g (i := 27) rfl)), rfl, hnm⟩) (hw _ (own_g (i := 12) rfl)) (ty := .byte) (v := (.int (0 : Int32))) (by decide) rfl rfl (g := (mkF m 11 #[.val (.ref a), .val (.ref b), .val (.int (0 : Int32))] [(.int (0 : Int32)), (.ref a)])) rfl rfl (hb hby d4_11)
  have r8 : own_R p e below _ _ T8 (mkF m 14 #[.val (.ref a), .val (.ref b), .val (.int (0 : Int32))] []) := r7.trans fun z_ kt => st8 _ kt
  have N8 := Fr.snoc X8 N4 g_a
  have O8 := O4.wr W8 g_a
  have K8 := K4.wr W8 (Or.inl (List.mem_of_getElem? (i := 0) rfl))
  have F8 := f5.same W8
  obtain ⟨fs_, hr_, hrun_, hended_, hW_, hsame_⟩ := X8.leave (v := none) (fun _ => rfl)
  refine ⟨_, _, pre0 _ (r8 _ ?_), hrun_, hended_, _, _, rfl, ?_, ⟨_, rfl⟩, hW_, hsame_.mono (by decide) (by decide)⟩
  · exact X8.returnOut hx Bd.returns (hb hby d4_14) hr_
  · show Q_stInit Z a b u1 u2 h0 n0 _ T8.heap _
    rw [e8]
    exact ⟨rfl, N8, K8⟩

theorem d1_0 : decode jdk_42_method_139_code 0 = .ok (.getstatic 38, 3) := by decide +kernel
theorem d1_3 : decode jdk_42_method_139_code 3 = .ok (.ifCond .eq 23, 3) := by decide +kernel
theorem d1_6 : decode jdk_42_method_139_code 6 = .ok (.iload_n 0, 1) := by decide +kernel
theorem d1_7 : decode jdk_42_method_139_code 7 = .ok (.invokestatic 1015, 3) := by decide +kernel
theorem pd_0 : parseMethodDescriptor "(C)Z" = some ⟨[.char], some .boolean⟩ := by decide +kernel
theorem d1_10 : decode jdk_42_method_139_code 10 = .ok (.ifCond .eq 16, 3) := by decide +kernel
theorem d1_13 : decode jdk_42_method_139_code 13 = .ok (.new 10, 3) := by decide +kernel
theorem d1_16 : decode jdk_42_method_139_code 16 = .ok (.dup, 1) := by decide +kernel
theorem d1_17 : decode jdk_42_method_139_code 17 = .ok (.iload_n 0, 1) := by decide +kernel
theorem d1_18 : decode jdk_42_method_139_code 18 = .ok (.invokestatic 1018, 3) := by decide +kernel
theorem pd_1 : parseMethodDescriptor "(C)[B" = some ⟨[.char], some (.array .byte)⟩ := by decide +kernel
theorem d1_21 : decode jdk_42_method_139_code 21 = .ok (.iconst 0, 1) := by decide +kernel
theorem d1_22 : decode jdk_42_method_139_code 22 = .ok (.invokespecial 209, 3) := by decide +kernel
theorem pd_2 : parseMethodDescriptor "([BB)V" = some ⟨[(.array .byte), .byte], none⟩ := by decide +kernel
theorem d1_25 : decode jdk_42_method_139_code 25 = .ok (.areturn, 1) := by decide +kernel
theorem ef_valueOf (m : MethodId) (pc : Int32) : entryFrame m #[(.int pc)] 1 = mkF m 0 #[.val (.int pc)] [] := by first | (simp [entryFrame, mkF, argsToLocals, Value.category]; done) | rfl
def Q_valueOf (Z : State) (pc : Int32) (pcs : Int32) (h0 : Heap) (n0 : Nat) (v_ : Option Value) (h_ : Heap) (L_ : List Loc) : Prop := ∃ (b : Addr), v_ = some (.ref b) ∧ Fr n0 L_ ∧ Keep h0 h_ [] ∧ (h0.size ≤ b) ∧ (Exa Z h_ b "java/lang/String")
set_option maxRecDepth 65536 in
set_option maxHeartbeats 40000000 in
theorem rm_valueOf (l : Launch) (Z : State) (a0 : Array Value) (hw : ∀ d ∈ tables_1, d.before a0 Z = true) (ws : List Jvm.Cond) (pc : Int32) (pcs : Int32) (h0 : Heap) (n0 : Nat) (O0 : Old Z n0 h0) (S_String_COMPACT_STRINGS : Sta Z Z.heap "java/lang/String" "COMPACT_STRINGS" "Z" (.int pcs)) (hcs : ¬ (pcs = (0 : Int32))) (hpc : ¬ ((255 : Int32) < pc)) :
    MetFree l (⟨"java/lang/String", "valueOf", "(C)Ljava/lang/String;"⟩ : MethodName) (head1 (Jvm.Cond.code (⟨"java/lang/String", "valueOf", "(C)Ljava/lang/String;"⟩ : MethodName) jdk_42_method_139_code 1 (some (.object "java/lang/String")) :: ws) ({ frames := 2, cells := 2, slots := 5, locals := 27 } : Room)) (fun aa_ U_ => aa_ = #[(.int pc)] ∧ Z.Warmed39 U_.vm ∧ U_.heap = h0) (fun _ _ _ _ _ => True) (fun _ U_ o_ U_' => ∃ v_ L_, o_ = .returned v_ ∧ Q_valueOf Z pc pcs h0 n0 v_ U_'.heap L_ ∧ FrameEnd U_ o_ U_' L_ ({ frames := 2, cells := 2, slots := 5, locals := 27 } : Room).cells ({ frames := 2, cells := 2, slots := 5, locals := 27 } : Room).slots) := by
  refine MetFree.of_bodySF (plainFor_of_name pn_String) hisR ?_
  intro p e s m args below meth c s₁ Bd hml0 hP hK
  obtain ⟨rfl, hZ, hh⟩ := hP
  have hx := Bd.exec
  have hby := Bd.bytes
  have hml : c.maxLocals = 1 := hml0
  have hown : s.vm.findClass "java/lang/String" = some m.cls := findClass_of_methodNamed Bd.named
  have hnm := (name_of_methodNamed Bd.named Bd.method).1
  have X0 : Stand p l e ({ frames := 2, cells := 2, slots := 5, locals := 27 } : Room) s m #[(.int pc)] below meth c s₁ [] 0 0 := Stand.of_body Bd
  have e0 : s₁.heap = h0 := by rw [← hh, Bd.state]; rfl
  have N0 := Fr.nil n0
  have K0 : Keep h0 h0 [] := Keep.refl h0 _
  have pre0 : ∀ z_, Steps p.tables e below (s₁.setTop (mkF m 0 #[.val (.int pc)] [])) z_ → Steps p.tables e below (s₁.setTop (entryFrame m #[(.int pc)] 1)) z_ := fun z_ k_ => castTop (ef_valueOf m pc) k_
  have r0 : own_R p e below s₁ (mkF m 0 #[.val (.int pc)] []) s₁ (mkF m 0 #[.val (.int pc)] []) := own_R.refl
  obtain ⟨T1, X1, e1, st1⟩ := getS2 X0 hx hZ hown (host := "") (Or.inl (hw _ (own_g (i := 6) rfl))) Via.refl e0 (S_String_COMPACT_STRINGS.ext O0.2) (g := (mkF m 0 #[.val (.int pc)] [])) rfl (hb hby d1_0)
  have r1 : own_R p e below _ _ T1 (mkF m 3 #[.val (.int pc)] [(.int pcs)]) := r0.trans fun z_ kt => st1 _ kt
  have r2 : own_R p e below _ _ T1 (mkF m 7 #[.val (.int pc)] [(.int pc)]) := r1.trans fun z_ kt => by
    refine XS.ifNo X1.here hx rfl (hb hby d1_3) rfl ((if0 _ _).trans (feq (hcs : ¬ (pcs = (0 : Int32)))).1) ?_
    refine XS.iloadN X1.here hx rfl (hb hby d1_6) rfl ?_
    exact kt
  obtain ⟨_, _, ⟨T3, L3, cc3, n3⟩, -, X3, ⟨Lc3, hQ3, l3, y3, z3⟩, st3⟩ := Jvm.LawKit.callS X1 hx (y := (⟨"java/lang/StringLatin1", "canEncode", "(C)Z"⟩ : MethodName)) hown (mvT hZ (hw _ (own_g (i := 7) rfl))) (mvT hZ (hw _ (own_g (i := 8) rfl))) (mvT hZ (hw _ (own_g (i := 9) rfl))) (mvT hZ (hw _ (own_g (i := 10) rfl))) (by decide) (backOf (W := 0) (rm_canEnc l Z a0 hw [] (pc) h0 n0 O0 (hpc)) hZ (hw _ (own_g (i := 10) rfl)) (hw _ (own_g (i := 9) rfl)) (by decide) (by decide)) (g := (mkF m 7 #[.val (.int pc)] [(.int pc)])) rfl (by rw [hml]; rfl) (argsL := [(.int pc)]) (rest := []) (lenOf pd_0 rfl) rfl (by show 2 * 0 + _ ≤ _; exact Nat.le_of_eq rfl) (hb hby d1_7) (fun _ _ => ⟨rfl, e1, (by decide : 0 + 0 ≤ _), (by decide : 0 + 0 ≤ _)⟩)
  dsimp only [Pt.U, Pt.locs, Pt.cells, Pt.slots] at X3 l3 y3 z3 st3 hQ3
  subst l3 y3 z3
  obtain ⟨rfl, Nq3, eq3⟩ := hQ3
  have N3 := Fr.app N0 Nq3
  have r3 : own_R p e below _ _ T3 (mkF m 10 #[.val (.int pc)] [(.int (1 : Int32))]) := r2.trans fun z_ kt => st3 _ kt
  have e3 : T3.heap = h0 := eq3
  have r4 : own_R p e below _ _ T3 (mkF m 13 #[.val (.int pc)] []) := r3.trans fun z_ kt => by
    refine XS.ifNo X3.here hx rfl (hb hby d1_10) rfl ((if0 _ _).trans (feq (by decide : ¬ ((1 : Int32) = (0 : Int32)))).1) ?_
    exact kt
  obtain ⟨T5, h5, X5, e5, E5, A5, D5, -, st5⟩ := newO X3 hx hZ hown (hw _ (own_g (i := 11) rfl)) (hw _ (own_g (i := 12) rfl)) (hw _ (own_g (i := 4) rfl)) e3 (g := (mkF m 13 #[.val (.int pc)] [])) rfl (hb hby d1_13) (by decide) (by decide)
  obtain ⟨b5, g5⟩ : ∃ z, z = h0.size := ⟨_, rfl⟩
  rw [← g5] at A5 D5 st5
  have r5 : own_R p e below _ _ T5 (mkF m 16 #[.val (.int pc)] [(.ref b5)]) := r4.trans fun z_ kt => st5 _ kt
  have g_b5 : n0 ≤ b5 := Nat.le_trans (own_old_size O0) (Nat.le_of_eq g5.symm)
  have sz_b5 : h0.size ≤ b5 := Nat.le_trans K0.1 (Nat.le_of_eq g5.symm)
  have O5 := O0.ext E5
  have K5 := K0.ext E5
  have F5_25 := D5 (Or.inr (hw _ (own_g (i := 25) rfl))) (ty := (.array .byte)) (by decide)
  have F5_27 := D5 (Or.inr (hw _ (own_g (i := 27) rfl))) (ty := .byte) (by decide)
  have r6 : own_R p e below _ _ T5 (mkF m 18 #[.val (.int pc)] [(.int pc), (.ref b5), (.ref b5)]) := r5.trans fun z_ kt => by
    refine XS.dup X5.here hx rfl (hb hby d1_16) rfl rfl ?_
    refine XS.iloadN X5.here hx rfl (hb hby d1_17) rfl ?_
    exact kt
  obtain ⟨_, _, ⟨T7, L7, cc7, n7⟩, -, X7, ⟨Lc7, hQ7, l7, y7, z7⟩, st7⟩ := Jvm.LawKit.callS X5 hx (y := (⟨"java/lang/StringLatin1", "toBytes", "(C)[B"⟩ : MethodName)) hown (mvT hZ (hw _ (own_g (i := 13) rfl))) (mvT hZ (hw _ (own_g (i := 14) rfl))) (mvT hZ (hw _ (own_g (i := 9) rfl))) (mvT hZ (hw _ (own_g (i := 15) rfl))) (by decide) (backOf (W := 2) (rm_toBytes l Z a0 hw [] (pc) h5 n0 O5 ) hZ (hw _ (own_g (i := 15) rfl)) (hw _ (own_g (i := 9) rfl)) (by decide) (by decide)) (g := (mkF m 18 #[.val (.int pc)] [(.int pc), (.ref b5), (.ref b5)])) rfl (by rw [hml]; rfl) (argsL := [(.int pc)]) (rest := [(.ref b5), (.ref b5)]) (lenOf pd_1 rfl) rfl (by show 2 * 0 + _ ≤ _; exact Nat.le_of_eq rfl) (hb hby d1_18) (fun _ _ => ⟨rfl, e5, (by decide : 1 + 1 ≤ _), (by decide : 4 + 1 ≤ _)⟩)
  dsimp only [Pt.U, Pt.locs, Pt.cells, Pt.slots] at X7 l7 y7 z7 st7 hQ7
  subst l7 y7 z7
  obtain ⟨h7, e7⟩ : ∃ z, T7.heap = z := ⟨_, rfl⟩
  rw [e7] at hQ7
  obtain ⟨b_7, rfl, Nq7, Kq7, p7_0⟩ := hQ7
  have N7 := Fr.app N3 Nq7
  have r7 : own_R p e below _ _ T7 (mkF m 21 #[.val (.int pc)] [(.ref b_7), (.ref b5), (.ref b5)]) := r6.trans fun z_ kt => st7 _ kt
  have ne_b5_b_7 : b5 ≠ b_7 := Nat.ne_of_lt (Nat.lt_of_lt_of_le A5.lt p7_0)
  have g_b_7 : n0 ≤ b_7 := Nat.le_trans (own_old_size O5) p7_0
  have sz_b_7 : h0.size ≤ b_7 := Nat.le_trans K5.1 p7_0
  have O7 := O5.keep Kq7 all0
  have K7 := K5.trans Kq7 all0
  have r8 : own_R p e below _ _ T7 (mkF m 22 #[.val (.int pc)] [(.int (0 : Int32)), (.ref b_7), (.ref b5), (.ref b5)]) := r7.trans fun z_ kt => by
    refine XS.iconst X7.here hx rfl (hb hby d1_21) ?_
    exact kt
  have f9 := (A5.keep Kq7)
  have f10 := (F5_25.keep Kq7 nin0)
  have f11 := (F5_27.keep Kq7 nin0)
  obtain ⟨_, _, ⟨T12, L12, cc12, n12⟩, -, X12, ⟨Lc12, hQ12, l12, y12, z12⟩, st12⟩ := X7.specialBack hx (y := (⟨"java/lang/String", "<init>", "([BB)V"⟩ : MethodName)) rfl hown (mvT hZ (hw _ (own_g (i := 17) rfl))) (mvT hZ (hw _ (own_g (i := 18) rfl))) (mvT hZ (hw _ (own_g (i := 20) rfl))) (by decide) (backOf (W := 1) (rm_stInit l Z a0 hw [] (b5) (b_7) (.null) ((.int (0 : Int32))) h7 n0 O7 (f9) (g_b5) (f10) (f11)) hZ (hw _ (own_g (i := 20) rfl)) (hw _ (own_g (i := 4) rfl)) (by decide) (by decide)) (g := (mkF m 22 #[.val (.int pc)] [(.int (0 : Int32)), (.ref b_7), (.ref b5), (.ref b5)])) rfl (by rw [hml]; rfl) (Steps.refl _) (a := b5) (argsL := [(.ref b_7), (.int (0 : Int32))]) (rest := [(.ref b5)]) (lenOf pd_2 rfl) rfl (by show 2 * 0 + _ ≤ _; exact Nat.le_of_eq rfl) (hb hby d1_22) (fun _ _ => ⟨rfl, e7, (by decide : 2 + 0 ≤ _), (by decide : 5 + 0 ≤ _)⟩)
  dsimp only [Pt.U, Pt.locs, Pt.cells, Pt.slots] at X12 l12 y12 z12 st12 hQ12
  subst l12 y12 z12
  obtain ⟨h12, e12⟩ : ∃ z, T12.heap = z := ⟨_, rfl⟩
  rw [e12] at hQ12
  obtain ⟨rfl, Nq12, Kq12⟩ := hQ12
  have N12 := Fr.app N7 Nq12
  have r12 : own_R p e below _ _ T12 (mkF m 25 #[.val (.int pc)] [(.ref b5)]) := r8.trans fun z_ kt => st12.trans kt
  have O12 := O7.keep Kq12 (allS g_b5 all0)
  have K12 := K7.trans Kq12 (allS (Or.inr sz_b5) all0)
  have f13 := (f9.keep Kq12)
  obtain ⟨fs_, hr_, hrun_, hended_, hW_, hsame_⟩ := X12.leave (v := some (.ref b5)) (fun h => by rw [Bd.returns] at h; cases h)
  refine ⟨_, _, pre0 _ (r12 _ ?_), hrun_, hended_, _, _, rfl, ?_, ⟨_, rfl⟩, hW_, hsame_.mono (by decide) (by decide)⟩
  · exact retOut X12 hx Bd.returns rfl (Or.inr (Or.inr (Or.inr (Or.inr ⟨rfl, rfl, rfl⟩)))) (hb hby d1_25) hr_
  · show Q_valueOf Z pc pcs h0 n0 _ T12.heap _
    rw [e12]
    exact ⟨b5, rfl, N12, K12, sz_b5, f13⟩

theorem d8_0 : decode jdk_22_method_1_code 0 = .ok (.aload_n 0, 1) := by decide +kernel
theorem d8_1 : decode jdk_22_method_1_code 1 = .ok (.invokespecial 1, 3) := by decide +kernel
theorem d8_4 : decode jdk_22_method_1_code 4 = .ok (.return_, 1) := by decide +kernel
theorem pn_AbstractCollection : plainName "java/util/AbstractCollection" = true := by first | (simp [plainName, overriddenIn]; done) | decide +kernel
theorem ef_abcInit (m : MethodId) (a : Addr) : entryFrame m #[(.ref a)] 1 = mkF m 0 #[.val (.ref a)] [] := by first | (simp [entryFrame, mkF, argsToLocals, Value.category]; done) | rfl
def Q_abcInit (Z : State) (a : Addr) (h0 : Heap) (n0 : Nat) (v_ : Option Value) (h_ : Heap) (L_ : List Loc) : Prop := v_ = none ∧ Fr n0 L_ ∧ h_ = h0
set_option maxRecDepth 65536 in
set_option maxHeartbeats 40000000 in
theorem rm_abcInit (l : Launch) (Z : State) (a0 : Array Value) (hw : ∀ d ∈ tables_1, d.before a0 Z = true) (ws : List Jvm.Cond) (a : Addr) (h0 : Heap) (n0 : Nat) (O0 : Old Z n0 h0) :
    MetFree l (⟨"java/util/AbstractCollection", "<init>", "()V"⟩ : MethodName) (head1 (Jvm.Cond.code (⟨"java/util/AbstractCollection", "<init>", "()V"⟩ : MethodName) jdk_22_method_1_code 1 none :: ws) ({ frames := 1, cells := 0, slots := 0, locals := 12 } : Room)) (fun aa_ U_ => aa_ = #[(.ref a)] ∧ Z.Warmed39 U_.vm ∧ U_.heap = h0) (fun _ _ _ _ _ => True) (fun _ U_ o_ U_' => ∃ v_ L_, o_ = .returned v_ ∧ Q_abcInit Z a h0 n0 v_ U_'.heap L_ ∧ FrameEnd U_ o_ U_' L_ ({ frames := 1, cells := 0, slots := 0, locals := 12 } : Room).cells ({ frames := 1, cells := 0, slots := 0, locals := 12 } : Room).slots) := by
  refine MetFree.of_bodySF (plainFor_of_name pn_AbstractCollection) hisR ?_
  intro p e s m args below meth c s₁ Bd hml0 hP hK
  obtain ⟨rfl, hZ, hh⟩ := hP
  have hx := Bd.exec
  have hby := Bd.bytes
  have hml : c.maxLocals = 1 := hml0
  have hown : s.vm.findClass "java/util/AbstractCollection" = some m.cls := findClass_of_methodNamed Bd.named
  have hnm := (name_of_methodNamed Bd.named Bd.method).1
  have X0 : Stand p l e ({ frames := 1, cells := 0, slots := 0, locals := 12 } : Room) s m #[(.ref a)] below meth c s₁ [] 0 0 := Stand.of_body Bd
  have e0 : s₁.heap = h0 := by rw [← hh, Bd.state]; rfl
  have N0 := Fr.nil n0
  have pre0 : ∀ z_, Steps p.tables e below (s₁.setTop (mkF m 0 #[.val (.ref a)] [])) z_ → Steps p.tables e below (s₁.setTop (entryFrame m #[(.ref a)] 1)) z_ := fun z_ k_ => castTop (ef_abcInit m a) k_
  have r0 : own_R p e below s₁ (mkF m 0 #[.val (.ref a)] []) s₁ (mkF m 0 #[.val (.ref a)] []) := own_R.refl
  have r1 : own_R p e below _ _ s₁ (mkF m 1 #[.val (.ref a)] [(.ref a)]) := r0.trans fun z_ kt => by
    refine XS.aloadN X0.here hx rfl (hb hby d8_0) rfl rfl ?_
    exact kt
  obtain ⟨T2, X2, e2, st2⟩ := initO X0 hx hZ hown (hw _ (own_g (i := 46) rfl)) (hw _ (own_g (i := 22) rfl)) (hw _ (own_g (i := 23) rfl)) e0 (g := (mkF m 1 #[.val (.ref a)] [(.ref a)])) rfl (by rw [hml]; rfl) rfl (hb hby d8_1) (by decide) (W := 0) (by show 2 * 0 + _ ≤ _; exact Nat.le_of_eq rfl) (by decide)
  have r2 : own_R p e below _ _ T2 (mkF m 4 #[.val (.ref a)] []) := r1.trans fun z_ kt => st2 _ kt
  obtain ⟨fs_, hr_, hrun_, hended_, hW_, hsame_⟩ := X2.leave (v := none) (fun _ => rfl)
  refine ⟨_, _, pre0 _ (r2 _ ?_), hrun_, hended_, _, _, rfl, ?_, ⟨_, rfl⟩, hW_, hsame_.mono (by decide) (by decide)⟩
  · exact X2.returnOut hx Bd.returns (hb hby d8_4) hr_
  · show Q_abcInit Z a h0 n0 _ T2.heap _
    rw [e2]
    exact ⟨rfl, N0, rfl⟩

theorem d7_0 : decode jdk_39_method_1_code 0 = .ok (.aload_n 0, 1) := by decide +kernel
theorem d7_1 : decode jdk_39_method_1_code 1 = .ok (.invokespecial 1, 3) := by decide +kernel
theorem pd_3 : parseMethodDescriptor "()V" = some ⟨[], none⟩ := by decide +kernel
theorem d7_4 : decode jdk_39_method_1_code 4 = .ok (.aload_n 0, 1) := by decide +kernel
theorem d7_5 : decode jdk_39_method_1_code 5 = .ok (.iconst 0, 1) := by decide +kernel
theorem d7_6 : decode jdk_39_method_1_code 6 = .ok (.putfield 7, 3) := by decide +kernel
theorem d7_9 : decode jdk_39_method_1_code 9 = .ok (.return_, 1) := by decide +kernel
theorem pn_AbstractList : plainName "java/util/AbstractList" = true := by first | (simp [plainName, overriddenIn]; done) | decide +kernel
theorem ef_ablInit (m : MethodId) (a : Addr) : entryFrame m #[(.ref a)] 1 = mkF m 0 #[.val (.ref a)] [] := by first | (simp [entryFrame, mkF, argsToLocals, Value.category]; done) | rfl
def Q_ablInit (Z : State) (a : Addr) (u1 : Value) (h0 : Heap) (n0 : Nat) (v_ : Option Value) (h_ : Heap) (L_ : List Loc) : Prop := v_ = none ∧ Fr n0 L_ ∧ Keep h0 h_ [a] ∧ (Fld Z h_ a "java/util/AbstractList" "modCount" "I" (.int (0 : Int32)))
set_option maxRecDepth 65536 in
set_option maxHeartbeats 40000000 in
theorem rm_ablInit (l : Launch) (Z : State) (a0 : Array Value) (hw : ∀ d ∈ tables_1, d.before a0 Z = true) (ws : List Jvm.Cond) (a : Addr) (u1 : Value) (h0 : Heap) (n0 : Nat) (O0 : Old Z n0 h0) (E_a : Exa Z h0 a "java/util/ArrayList") (g_a : n0 ≤ a) (F_a_modCount : Fld Z h0 a "java/util/AbstractList" "modCount" "I" u1) :
    MetFree l (⟨"java/util/AbstractList", "<init>", "()V"⟩ : MethodName) (head1 (Jvm.Cond.code (⟨"java/util/AbstractList", "<init>", "()V"⟩ : MethodName) jdk_39_method_1_code 1 none :: ws) ({ frames := 2, cells := 0, slots := 0, locals := 24 } : Room)) (fun aa_ U_ => aa_ = #[(.ref a)] ∧ Z.Warmed39 U_.vm ∧ U_.heap = h0) (fun _ _ _ _ _ => True) (fun _ U_ o_ U_' => ∃ v_ L_, o_ = .returned v_ ∧ Q_ablInit Z a u1 h0 n0 v_ U_'.heap L_ ∧ FrameEnd U_ o_ U_' L_ ({ frames := 2, cells := 0, slots := 0, locals := 24 } : Room).cells ({ frames := 2, cells := 0, slots := 0, locals := 24 } : Room).slots) := by
  refine MetFree.of_bodySF (plainFor_of_name pn_AbstractList) hisR ?_
  intro p e s m args below meth c s₁ Bd hml0 hP hK
  obtain ⟨rfl, hZ, hh⟩ := hP
  have hx := Bd.exec
  have hby := Bd.bytes
  have hml : c.maxLocals = 1 := hml0
  have hown : s.vm.findClass "java/util/AbstractList" = some m.cls := findClass_of_methodNamed Bd.named
  have hnm := (name_of_methodNamed Bd.named Bd.method).1
  have X0 : Stand p l e ({ frames := 2, cells := 0, slots := 0, locals := 24 } : Room) s m #[(.ref a)] below meth c s₁ [] 0 0 := Stand.of_body Bd
  have e0 : s₁.heap = h0 := by rw [← hh, Bd.state]; rfl
  have N0 := Fr.nil n0
  have K0 : Keep h0 h0 [a] := Keep.refl h0 _
  have pre0 : ∀ z_, Steps p.tables e below (s₁.setTop (mkF m 0 #[.val (.ref a)] [])) z_ → Steps p.tables e below (s₁.setTop (entryFrame m #[(.ref a)] 1)) z_ := fun z_ k_ => castTop (ef_ablInit m a) k_
  have r0 : own_R p e below s₁ (mkF m 0 #[.val (.ref a)] []) s₁ (mkF m 0 #[.val (.ref a)] []) := own_R.refl
  have r1 : own_R p e below _ _ s₁ (mkF m 1 #[.val (.ref a)] [(.ref a)]) := r0.trans fun z_ kt => by
    refine XS.aloadN X0.here hx rfl (hb hby d7_0) rfl rfl ?_
    exact kt
  obtain ⟨_, _, ⟨T2, L2, cc2, n2⟩, -, X2, ⟨Lc2, hQ2, l2, y2, z2⟩, st2⟩ := X0.specialBack hx (y := (⟨"java/util/AbstractCollection", "<init>", "()V"⟩ : MethodName)) rfl hown (mvT hZ (hw _ (own_g (i := 40) rfl))) (mvT hZ (hw _ (own_g (i := 41) rfl))) (mvT hZ (hw _ (own_g (i := 45) rfl))) (by decide) (backOf (W := 0) (rm_abcInit l Z a0 hw [] (a) h0 n0 O0 ) hZ (hw _ (own_g (i := 45) rfl)) (hw _ (own_g (i := 44) rfl)) (by decide) (by decide)) (g := (mkF m 1 #[.val (.ref a)] [(.ref a)])) rfl (by rw [hml]; rfl) (Steps.refl _) (a := a) (argsL := []) (rest := []) (lenOf pd_3 rfl) rfl (by show 2 * 0 + _ ≤ _; exact Nat.le_of_eq rfl) (hb hby d7_1) (fun _ _ => ⟨rfl, e0, (by decide : 0 + 0 ≤ _), (by decide : 0 + 0 ≤ _)⟩)
  dsimp only [Pt.U, Pt.locs, Pt.cells, Pt.slots] at X2 l2 y2 z2 st2 hQ2
  subst l2 y2 z2
  obtain ⟨rfl, Nq2, eq2⟩ := hQ2
  have N2 := Fr.app N0 Nq2
  have r2 : own_R p e below _ _ T2 (mkF m 4 #[.val (.ref a)] []) := r1.trans fun z_ kt => st2.trans kt
  have e2 : T2.heap = h0 := eq2
  have r3 : own_R p e below _ _ T2 (mkF m 6 #[.val (.ref a)] [(.int (0 : Int32)), (.ref a)]) := r2.trans fun z_ kt => by
    refine XS.aloadN X2.here hx rfl (hb hby d7_4) rfl rfl ?_
    refine XS.iconst X2.here hx rfl (hb hby d7_5) ?_
    exact kt
  obtain ⟨T4, h4, X4, e4, W4, st4⟩ := putF X2 hx hZ hown (host := "") (Or.inl (hw _ (own_g (i := 47) rfl))) Via.refl e2 F_a_modCount E_a (Or.inl (hw _ (own_g (i := 48) rfl))) (hw _ (own_g (i := 29) rfl)) (ty := .int) (v := (.int (0 : Int32))) (by decide) rfl rfl (g := (mkF m 6 #[.val (.ref a)] [(.int (0 : Int32)), (.ref a)])) rfl rfl (hb hby d7_6)
  have r4 : own_R p e below _ _ T4 (mkF m 9 #[.val (.ref a)] []) := r3.trans fun z_ kt => st4 _ kt
  have N4 := Fr.snoc X4 N2 g_a
  have O4 := O0.wr W4 g_a
  have K4 := K0.wr W4 (Or.inl (List.mem_of_getElem? (i := 0) rfl))
  have F4 := F_a_modCount.same W4
  obtain ⟨fs_, hr_, hrun_, hended_, hW_, hsame_⟩ := X4.leave (v := none) (fun _ => rfl)
  refine ⟨_, _, pre0 _ (r4 _ ?_), hrun_, hended_, _, _, rfl, ?_, ⟨_, rfl⟩, hW_, hsame_.mono (by decide) (by decide)⟩
  · exact X4.returnOut hx Bd.returns (hb hby d7_9) hr_
  · show Q_ablInit Z a u1 h0 n0 _ T4.heap _
    rw [e4]
    exact ⟨rfl, N4, K4, F4⟩

theorem ef_ablInit2 (m : MethodId) (a : Addr) : entryFrame m #[(.ref a)] 1 = mkF m 0 #[.val (.ref a)] [] := by first | (simp [entryFrame, mkF, argsToLocals, Value.category]; done) | rfl
def Q_ablInit2 (Z : State) (a : Addr) (u1 : Value) (u2 : Value) (pz : Int32) (h0 : Heap) (n0 : Nat) (v_ : Option Value) (h_ : Heap) (L_ : List Loc) : Prop := v_ = none ∧ Fr n0 L_ ∧ Keep h0 h_ [a] ∧ (Fld Z h_ a "java/util/AbstractList" "modCount" "I" (.int (0 : Int32))) ∧ (Fld Z h_ a "java/util/ArrayList" "elementData" "[Ljava/lang/Object;" u2) ∧ (Fld Z h_ a "java/util/ArrayList" "size" "I" (.int pz))
set_option maxRecDepth 65536 in
set_option maxHeartbeats 40000000 in
theorem rm_ablInit2 (l : Launch) (Z : State) (a0 : Array Value) (hw : ∀ d ∈ tables_1, d.before a0 Z = true) (ws : List Jvm.Cond) (a : Addr) (u1 : Value) (u2 : Value) (pz : Int32) (h0 : Heap) (n0 : Nat) (O0 : Old Z n0 h0) (E_a : Exa Z h0 a "java/util/ArrayList") (g_a : n0 ≤ a) (F_a_modCount : Fld Z h0 a "java/util/AbstractList" "modCount" "I" u1) (F_a_elementData : Fld Z h0 a "java/util/ArrayList" "elementData" "[Ljava/lang/Object;" u2) (F_a_size : Fld Z h0 a "java/util/ArrayList" "size" "I" (.int pz)) :
    MetFree l (⟨"java/util/AbstractList", "<init>", "()V"⟩ : MethodName) (head1 (Jvm.Cond.code (⟨"java/util/AbstractList", "<init>", "()V"⟩ : MethodName) jdk_39_method_1_code 1 none :: ws) ({ frames := 2, cells := 0, slots := 0, locals := 24 } : Room)) (fun aa_ U_ => aa_ = #[(.ref a)] ∧ Z.Warmed39 U_.vm ∧ U_.heap = h0) (fun _ _ _ _ _ => True) (fun _ U_ o_ U_' => ∃ v_ L_, o_ = .returned v_ ∧ Q_ablInit2 Z a u1 u2 pz h0 n0 v_ U_'.heap L_ ∧ FrameEnd U_ o_ U_' L_ ({ frames := 2, cells := 0, slots := 0, locals := 24 } : Room).cells ({ frames := 2, cells := 0, slots := 0, locals := 24 } : Room).slots) := by
  refine MetFree.of_bodySF (plainFor_of_name pn_AbstractList) hisR ?_
  intro p e s m args below meth c s₁ Bd hml0 hP hK
  obtain ⟨rfl, hZ, hh⟩ := hP
  have hx := Bd.exec
  have hby := Bd.bytes
  have hml : c.maxLocals = 1 := hml0
  have hown : s.vm.findClass "java/util/AbstractList" = some m.cls := findClass_of_methodNamed Bd.named
  have hnm := (name_of_methodNamed Bd.named Bd.method).1
  have X0 : Stand p l e ({ frames := 2, cells := 0, slots := 0, locals := 24 } : Room) s m #[(.ref a)] below meth c s₁ [] 0 0 := Stand.of_body Bd
  have e0 : s₁.heap = h0 := by rw [← hh, Bd.state]; rfl
  have N0 := Fr.nil n0
  have K0 : Keep h0 h0 [a] := Keep.refl h0 _
  have pre0 : ∀ z_, Steps p.tables e below (s₁.setTop (mkF m 0 #[.val (.ref a)] [])) z_ → Steps p.tables e below (s₁.setTop (entryFrame m #[(.ref a)] 1)) z_ := fun z_ k_ => castTop (ef_ablInit2 m a) k_
  have r0 : own_R p e below s₁ (mkF m 0 #[.val (.ref a)] []) s₁ (mkF m 0 #[.val (.ref a)] []) := own_R.refl
  have r1 : own_R p e below _ _ s₁ (mkF m 1 #[.val (.ref a)] [(.ref a)]) := r0.trans fun z_ kt => by
    refine XS.aloadN X0.here hx rfl (hb hby d7_0) rfl rfl ?_
    exact kt
  obtain ⟨_, _, ⟨T2, L2, cc2, n2⟩, -, X2, ⟨Lc2, hQ2, l2, y2, z2⟩, st2⟩ := X0.specialBack hx (y := (⟨"java/util/AbstractCollection", "<init>", "()V"⟩ : MethodName)) rfl hown (mvT hZ (hw _ (own_g (i := 40) rfl))) (mvT hZ (hw _ (own_g (i := 41) rfl))) (mvT hZ (hw _ (own_g (i := 45) rfl))) (by decide) (backOf (W := 0) (rm_abcInit l Z a0 hw [] (a) h0 n0 O0 ) hZ (hw _ (own_g (i := 45) rfl)) (hw _ (own_g (i := 44) rfl)) (by decide) (by decide)) (g := (mkF m 1 #[.val (.ref a)] [(.ref a)])) rfl (by rw [hml]; rfl) (Steps.refl _) (a := a) (argsL := []) (rest := []) (lenOf pd_3 rfl) rfl (by show 2 * 0 + _ ≤ _; exact Nat.le_of_eq rfl) (hb hby d7_1) (fun _ _ => ⟨rfl, e0, (by decide : 0 + 0 ≤ _), (by decide : 0 + 0 ≤ _)⟩)
  dsimp only [Pt.U, Pt.locs, Pt.cells, Pt.slots] at X2 l2 y2 z2 st2 hQ2
  subst l2 y2 z2
  obtain ⟨rfl, Nq2, eq2⟩ := hQ2
  have N2 := Fr.app N0 Nq2
  have r2 : own_R p e below _ _ T2 (mkF m 4 #[.val (.ref a)] []) := r1.trans fun z_ kt => st2.trans kt
  have e2 : T2.heap = h0 := eq2
  have r3 : own_R p e below _ _ T2 (mkF m 6 #[.val (.ref a)] [(.int (0 : Int32)), (.ref a)]) := r2.trans fun z_ kt => by
    refine XS.aloadN X2.here hx rfl (hb hby d7_4) rfl rfl ?_
    refine XS.iconst X2.here hx rfl (hb hby d7_5) ?_
    exact kt
  obtain ⟨T4, h4, X4, e4, W4, st4⟩ := putF X2 hx hZ hown (host := "") (Or.inl (hw _ (own_g (i := 47) rfl))) Via.refl e2 F_a_modCount E_a (Or.inl (hw _ (own_g (i := 48) rfl))) (hw _ (own_g (i := 29) rfl)) (ty := .int) (v := (.int (0 : Int32))) (by decide) rfl rfl (g := (mkF m 6 #[.val (.ref a)] [(.int (0 : Int32)), (.ref a)])) rfl rfl (hb hby d7_6)
  have r4 : own_R p e below _ _ T4 (mkF m 9 #[.val (.ref a)] []) := r3.trans fun z_ kt => st4 _ kt
  have N4 := Fr.snoc X4 N2 g_a
  have O4 := O0.wr W4 g_a
  have K4 := K0.wr W4 (Or.inl (List.mem_of_getElem? (i := 0) rfl))
  have F4 := F_a_modCount.same W4
  have f5 := (F_a_elementData.other W4 (Or.inr (slot_ne (Or.inl (hw _ (own_g (i := 51) rfl))) (Or.inl (hw _ (own_g (i := 48) rfl))) (by decide) (t := (.array (.object "java/lang/Object"))) (t' := .int) (by decide) (by decide))))
  have f6 := (F_a_size.other W4 (Or.inr (slot_ne (Or.inl (hw _ (own_g (i := 104) rfl))) (Or.inl (hw _ (own_g (i := 48) rfl))) (by decide) (t := .int) (t' := .int) (by decide) (by decide))))
  obtain ⟨fs_, hr_, hrun_, hended_, hW_, hsame_⟩ := X4.leave (v := none) (fun _ => rfl)
  refine ⟨_, _, pre0 _ (r4 _ ?_), hrun_, hended_, _, _, rfl, ?_, ⟨_, rfl⟩, hW_, hsame_.mono (by decide) (by decide)⟩
  · exact X4.returnOut hx Bd.returns (hb hby d7_9) hr_
  · show Q_ablInit2 Z a u1 u2 pz h0 n0 _ T4.heap _
    rw [e4]
    exact ⟨rfl, N4, K4, F4, f5, f6⟩

theorem d6_0 : decode jdk_38_method_2_code 0 = .ok (.aload_n 0, 1) := by decide +kernel
theorem d6_1 : decode jdk_38_method_2_code 1 = .ok (.invokespecial 1, 3) := by decide +kernel
theorem d6_4 : decode jdk_38_method_2_code 4 = .ok (.aload_n 0, 1) := by decide +kernel
theorem d6_5 : decode jdk_38_method_2_code 5 = .ok (.getstatic 39, 3) := by decide +kernel
theorem d6_8 : decode jdk_38_method_2_code 8 = .ok (.putfield 9, 3) := by decide +kernel
theorem d6_11 : decode jdk_38_method_2_code 11 = .ok (.return_, 1) := by decide +kernel
theorem pn_ArrayList : plainName "java/util/ArrayList" = true := by first | (simp [plainName, overriddenIn]; done) | decide +kernel
theorem ef_alInit0 (m : MethodId) (a : Addr) : entryFrame m #[(.ref a)] 1 = mkF m 0 #[.val (.ref a)] [] := by first | (simp [entryFrame, mkF, argsToLocals, Value.category]; done) | rfl
def Q_alInit0 (Z : State) (a : Addr) (u1 : Value) (u2 : Value) (s_DE : Addr) (h0 : Heap) (n0 : Nat) (v_ : Option Value) (h_ : Heap) (L_ : List Loc) : Prop := v_ = none ∧ Fr n0 L_ ∧ Keep h0 h_ [a] ∧ (Fld Z h_ a "java/util/AbstractList" "modCount" "I" (.int (0 : Int32))) ∧ (Fld Z h_ a "java/util/ArrayList" "elementData" "[Ljava/lang/Object;" (.ref s_DE)) ∧ (Fld Z h_ a "java/util/ArrayList" "size" "I" (.int (0 : Int32)))
set_option maxRecDepth 65536 in
set_option maxHeartbeats 40000000 in
theorem rm_alInit0 (l : Launch) (Z : State) (a0 : Array Value) (hw : ∀ d ∈ tables_1, d.before a0 Z = true) (ws : List Jvm.Cond) (a : Addr) (u1 : Value) (u2 : Value) (s_DE : Addr) (h0 : Heap) (n0 : Nat) (O0 : Old Z n0 h0) (E_a : Exa Z h0 a "java/util/ArrayList") (g_a : n0 ≤ a) (F_a_modCount : Fld Z h0 a "java/util/AbstractList" "modCount" "I" u1) (F_a_elementData : Fld Z h0 a "java/util/ArrayList" "elementData" "[Ljava/lang/Object;" u2) (F_a_size : Fld Z h0 a "java/util/ArrayList" "size" "I" (.int (0 : Int32))) (S_ArrayList_DEFAULTCAPACITY_EMPTY_ELEMENTDATA : Sta Z Z.heap "java/util/ArrayList" "DEFAULTCAPACITY_EMPTY_ELEMENTDATA" "[Ljava/lang/Object;" (.ref s_DE)) :
    MetFree l (⟨"java/util/ArrayList", "<init>", "()V"⟩ : MethodName) (head1 (Jvm.Cond.code (⟨"java/util/ArrayList", "<init>", "()V"⟩ : MethodName) jdk_38_method_2_code 1 none :: ws) ({ frames := 3, cells := 0, slots := 0, locals := 36 } : Room)) (fun aa_ U_ => aa_ = #[(.ref a)] ∧ Z.Warmed39 U_.vm ∧ U_.heap = h0) (fun _ _ _ _ _ => True) (fun _ U_ o_ U_' => ∃ v_ L_, o_ = .returned v_ ∧ Q_alInit0 Z a u1 u2 s_DE h0 n0 v_ U_'.heap L_ ∧ FrameEnd U_ o_ U_' L_ ({ frames := 3, cells := 0, slots := 0, locals := 36 } : Room).cells ({ frames := 3, cells := 0, slots := 0, locals := 36 } : Room).slots) := by
  refine MetFree.of_bodySF (plainFor_of_name pn_ArrayList) hisR ?_
  intro p e s m args below meth c s₁ Bd hml0 hP hK
  obtain ⟨rfl, hZ, hh⟩ := hP
  have hx := Bd.exec
  have hby := Bd.bytes
  have hml : c.maxLocals = 1 := hml0
  have hown : s.vm.findClass "java/util/ArrayList" = some m.cls := findClass_of_methodNamed Bd.named
  have hnm := (name_of_methodNamed Bd.named Bd.method).1
  have X0 : Stand p l e ({ frames := 3, cells := 0, slots := 0, locals := 36 } : Room) s m #[(.ref a)] below meth c s₁ [] 0 0 := Stand.of_body Bd
  have e0 : s₁.heap = h0 := by rw [← hh, Bd.state]; rfl
  have N0 := Fr.nil n0
  have K0 : Keep h0 h0 [a] := Keep.refl h0 _
  have pre0 : ∀ z_, Steps p.tables e below (s₁.setTop (mkF m 0 #[.val (.ref a)] [])) z_ → Steps p.tables e below (s₁.setTop (entryFrame m #[(.ref a)] 1)) z_ := fun z_ k_ => castTop (ef_alInit0 m a) k_
  have r0 : own_R p e below s₁ (mkF m 0 #[.val (.ref a)] []) s₁ (mkF m 0 #[.val (.ref a)] []) := own_R.refl
  have r1 : own_R p e below _ _ s₁ (mkF m 1 #[.val (.ref a)] [(.ref a)]) := r0.trans fun z_ kt => by
    refine XS.aloadN X0.here hx rfl (hb hby d6_0) rfl rfl ?_
    exact kt
  obtain ⟨_, _, ⟨T2, L2, cc2, n2⟩, -, X2, ⟨Lc2, hQ2, l2, y2, z2⟩, st2⟩ := X0.specialBack hx (y := (⟨"java/util/AbstractList", "<init>", "()V"⟩ : MethodName)) rfl hown (mvT hZ (hw _ (own_g (i := 34) rfl))) (mvT hZ (hw _ (own_g (i := 35) rfl))) (mvT hZ (hw _ (own_g (i := 39) rfl))) (by decide) (backOf (W := 0) (rm_ablInit2 l Z a0 hw [] (a) (u1) (u2) ((0 : Int32)) h0 n0 O0 (E_a) (g_a) (F_a_modCount) (F_a_elementData) (F_a_size)) hZ (hw _ (own_g (i := 39) rfl)) (hw _ (own_g (i := 38) rfl)) (by decide) (by decide)) (g := (mkF m 1 #[.val (.ref a)] [(.ref a)])) rfl (by rw [hml]; rfl) (Steps.refl _) (a := a) (argsL := []) (rest := []) (lenOf pd_3 rfl) rfl (by show 2 * 0 + _ ≤ _; exact Nat.le_of_eq rfl) (hb hby d6_1) (fun _ _ => ⟨rfl, e0, (by decide : 0 + 0 ≤ _), (by decide : 0 + 0 ≤ _)⟩)
  dsimp only [Pt.U, Pt.locs, Pt.cells, Pt.slots] at X2 l2 y2 z2 st2 hQ2
  subst l2 y2 z2
  obtain ⟨h2, e2⟩ : ∃ z, T2.heap = z := ⟨_, rfl⟩
  rw [e2] at hQ2
  obtain ⟨rfl, Nq2, Kq2, p2_0, p2_1, p2_2⟩ := hQ2
  have N2 := Fr.app N0 Nq2
  have r2 : own_R p e below _ _ T2 (mkF m 4 #[.val (.ref a)] []) := r1.trans fun z_ kt => st2.trans kt
  have O2 := O0.keep Kq2 (allS g_a all0)
  have K2 := K0.trans Kq2 (allS (Or.inl (List.mem_of_getElem? (i := 0) rfl)) all0)
  have r3 : own_R p e below _ _ T2 (mkF m 5 #[.val (.ref a)] [(.ref a)]) := r2.trans fun z_ kt => by
    refine XS.aloadN X2.here hx rfl (hb hby d6_4) rfl rfl ?_
    exact kt
  obtain ⟨T4, X4, e4, st4⟩ := getS2 X2 hx hZ hown (host := "") (Or.inl (hw _ (own_g (i := 49) rfl))) Via.refl e2 (S_ArrayList_DEFAULTCAPACITY_EMPTY_ELEMENTDATA.ext O2.2) (g := (mkF m 5 #[.val (.ref a)] [(.ref a)])) rfl (hb hby d6_5)
  have r4 : own_R p e below _ _ T4 (mkF m 8 #[.val (.ref a)] [(.ref s_DE), (.ref a)]) := r3.trans fun z_ kt => st4 _ kt
  have f5 := (E_a.keep Kq2)
  obtain ⟨T6, h6, X6, e6, W6, st6⟩ := putF X4 hx hZ hown (host := "") (Or.inl (hw _ (own_g (i := 50) rfl))) Via.refl e4 p2_1 f5 (Or.inl (hw _ (own_g (i := 51) rfl))) (hw _ (own_g (i := 29) rfl)) (ty := (.array (.object "java/lang/Object"))) (v := (.ref s_DE)) (by decide) rfl rfl (g := (mkF m 8 #[.val (.ref a)] [(.ref s_DE), (.ref a)])) rfl rfl (hb hby d6_8)
  have r6 : own_R p e below _ _ T6 (mkF m 11 #[.val (.ref a)] []) := r4.trans fun z_ kt => st6 _ kt
  have N6 := Fr.snoc X6 N2 g_a
  have O6 := O2.wr W6 g_a
  have K6 := K2.wr W6 (Or.inl (List.mem_of_getElem? (i := 0) rfl))
  have F6 := p2_1.same W6
  have f7 := (p2_0.other W6 (Or.inr (slot_ne (Or.inl (hw _ (own_g (i := 48) rfl))) (Or.inl (hw _ (own_g (i := 51) rfl))) (by decide) (t := .int) (t' := (.array (.object "java/lang/Object"))) (by decide) (by decide))))
  have f8 := (p2_2.other W6 (Or.inr (slot_ne (Or.inl (hw _ (own_g (i := 104) rfl))) (Or.inl (hw _ (own_g (i := 51) rfl))) (by decide) (t := .int) (t' := (.array (.object "java/lang/Object"))) (by decide) (by decide))))
  obtain ⟨fs_, hr_, hrun_, hended_, hW_, hsame_⟩ := X6.leave (v := none) (fun _ => rfl)
  refine ⟨_, _, pre0 _ (r6 _ ?_), hrun_, hended_, _, _, rfl, ?_, ⟨_, rfl⟩, hW_, hsame_.mono (by decide) (by decide)⟩
  · exact X6.returnOut hx Bd.returns (hb hby d6_11) hr_
  · show Q_alInit0 Z a u1 u2 s_DE h0 n0 _ T6.heap _
    rw [e6]
    exact ⟨rfl, N6, K6, f7, F6, f8⟩

theorem d19_0 : decode jdk_38_method_1_code 0 = .ok (.aload_n 0, 1) := by decide +kernel
theorem d19_1 : decode jdk_38_method_1_code 1 = .ok (.invokespecial 1, 3) := by decide +kernel
theorem d19_4 : decode jdk_38_method_1_code 4 = .ok (.iload_n 1, 1) := by decide +kernel
theorem d19_5 : decode jdk_38_method_1_code 5 = .ok (.ifCond .le 14, 3) := by decide +kernel
theorem d19_19 : decode jdk_38_method_1_code 19 = .ok (.iload_n 1, 1) := by decide +kernel
theorem d19_20 : decode jdk_38_method_1_code 20 = .ok (.ifCond .ne 13, 3) := by decide +kernel
theorem d19_23 : decode jdk_38_method_1_code 23 = .ok (.aload_n 0, 1) := by decide +kernel
theorem d19_24 : decode jdk_38_method_1_code 24 = .ok (.getstatic 15, 3) := by decide +kernel
theorem d19_27 : decode jdk_38_method_1_code 27 = .ok (.putfield 9, 3) := by decide +kernel
theorem d19_30 : decode jdk_38_method_1_code 30 = .ok (.goto 30, 3) := by decide +kernel
theorem d19_60 : decode jdk_38_method_1_code 60 = .ok (.return_, 1) := by decide +kernel
theorem ef_alInitZ (m : MethodId) (a : Addr) : entryFrame m #[(.ref a), (.int (0 : Int32))] 2 = mkF m 0 #[.val (.ref a), .val (.int (0 : Int32))] [] := by first | (simp [entryFrame, mkF, argsToLocals, Value.category]; done) | rfl
def Q_alInitZ (Z : State) (a : Addr) (u1 : Value) (u2 : Value) (s_EE : Addr) (h0 : Heap) (n0 : Nat) (v_ : Option Value) (h_ : Heap) (L_ : List Loc) : Prop := v_ = none ∧ Fr n0 L_ ∧ Keep h0 h_ [a] ∧ (Fld Z h_ a "java/util/AbstractList" "modCount" "I" (.int (0 : Int32))) ∧ (Fld Z h_ a "java/util/ArrayList" "elementData" "[Ljava/lang/Object;" (.ref s_EE)) ∧ (Fld Z h_ a "java/util/ArrayList" "size" "I" (.int (0 : Int32)))
set_option maxRecDepth 65536 in
set_option maxHeartbeats 40000000 in
theorem rm_alInitZ (l : Launch) (Z : State) (a0 : Array Value) (hw : ∀ d ∈ tables_1, d.before a0 Z = true) (ws : List Jvm.Cond) (a : Addr) (u1 : Value) (u2 : Value) (s_EE : Addr) (h0 : Heap) (n0 : Nat) (O0 : Old Z n0 h0) (E_a : Exa Z h0 a "java/util/ArrayList") (g_a : n0 ≤ a) (F_a_modCount : Fld Z h0 a "java/util/AbstractList" "modCount" "I" u1) (F_a_elementData : Fld Z h0 a "java/util/ArrayList" "elementData" "[Ljava/lang/Object;" u2) (F_a_size : Fld Z h0 a "java/util/ArrayList" "size" "I" (.int (0 : Int32))) (S_ArrayList_EMPTY_ELEMENTDATA : Sta Z Z.heap "java/util/ArrayList" "EMPTY_ELEMENTDATA" "[Ljava/lang/Object;" (.ref s_EE)) :
    MetFree l (⟨"java/util/ArrayList", "<init>", "(I)V"⟩ : MethodName) (head1 (Jvm.Cond.code (⟨"java/util/ArrayList", "<init>", "(I)V"⟩ : MethodName) jdk_38_method_1_code 2 none :: ws) ({ frames := 3, cells := 0, slots := 0, locals := 36 } : Room)) (fun aa_ U_ => aa_ = #[(.ref a), (.int (0 : Int32))] ∧ Z.Warmed39 U_.vm ∧ U_.heap = h0) (fun _ _ _ _ _ => True) (fun _ U_ o_ U_' => ∃ v_ L_, o_ = .returned v_ ∧ Q_alInitZ Z a u1 u2 s_EE h0 n0 v_ U_'.heap L_ ∧ FrameEnd U_ o_ U_' L_ ({ frames := 3, cells := 0, slots := 0, locals := 36 } : Room).cells ({ frames := 3, cells := 0, slots := 0, locals := 36 } : Room).slots) := by
  refine MetFree.of_bodySF (plainFor_of_name pn_ArrayList) hisR ?_
  intro p e s m args below meth c s₁ Bd hml0 hP hK
  obtain ⟨rfl, hZ, hh⟩ := hP
  have hx := Bd.exec
  have hby := Bd.bytes
  have hml : c.maxLocals = 2 := hml0
  have hown : s.vm.findClass "java/util/ArrayList" = some m.cls := findClass_of_methodNamed Bd.named
  have hnm := (name_of_methodNamed Bd.named Bd.method).1
  have X0 : Stand p l e ({ frames := 3, cells := 0, slots := 0, locals := 36 } : Room) s m #[(.ref a), (.int (0 : Int32))] below meth c s₁ [] 0 0 := Stand.of_body Bd
  have e0 : s₁.heap = h0 := by rw [← hh, Bd.state]; rfl
  have N0 := Fr.nil n0
  have K0 : Keep h0 h0 [a] := Keep.refl h0 _
  have pre0 : ∀ z_, Steps p.tables e below (s₁.setTop (mkF m 0 #[.val (.ref a), .val (.int (0 : Int32))] [])) z_ → Steps p.tables e below (s₁.setTop (entryFrame m #[(.ref a), (.int (0 : Int32))] 2)) z_ := fun z_ k_ => castTop (ef_alInitZ m a) k_
  have r0 : own_R p e below s₁ (mkF m 0 #[.val (.ref a), .val (.int (0 : Int32))] []) s₁ (mkF m 0 #[.val (.ref a), .val (.int (0 : Int32))] []) := own_R.refl
  have r1 : own_R p e below _ _ s₁ (mkF m 1 #[.val (.ref a), .val (.int (0 : Int32))] [(.ref a)]) := r0.trans fun z_ kt => by
    refine XS.aloadN X0.here hx rfl (hb hby d19_0) rfl rfl ?_
    exact kt
  obtain ⟨_, _, ⟨T2, L2, cc2, n2⟩, -, X2, ⟨Lc2, hQ2, l2, y2, z2⟩, st2⟩ := X0.specialBack hx (y := (⟨"java/util/AbstractList", "<init>", "()V"⟩ : MethodName)) rfl hown (mvT hZ (hw _ (own_g (i := 34) rfl))) (mvT hZ (hw _ (own_g (i := 35) rfl))) (mvT hZ (hw _ (own_g (i := 39) rfl))) (by decide) (backOf (W := 0) (rm_ablInit2 l Z a0 hw [] (a) (u1) (u2) ((0 : Int32)) h0 n0 O0 (E_a) (g_a) (F_a_modCount) (F_a_elementData) (F_a_size)) hZ (hw _ (own_g (i := 39) rfl)) (hw _ (own_g (i := 38) rfl)) (by decide) (by decide)) (g := (mkF m 1 #[.val (.ref a), .val (.int (0 : Int32))] [(.ref a)])) rfl (by rw [hml]; rfl) (Steps.refl _) (a := a) (argsL := []) (rest := []) (lenOf pd_3 rfl) rfl (by show 2 * 0 + _ ≤ _; exact Nat.le_of_eq rfl) (hb hby d19_1) (fun _ _ => ⟨rfl, e0, (by decide : 0 + 0 ≤ _), (by decide : 0 + 0 ≤ _)⟩)
  dsimp only [Pt.U, Pt.locs, Pt.cells, Pt.slots] at X2 l2 y2 z2 st2 hQ2
  subst l2 y2 z2
  obtain ⟨h2, e2⟩ : ∃ z, T2.heap = z := ⟨_, rfl⟩
  rw [e2] at hQ2
  obtain ⟨rfl, Nq2, Kq2, p2_0, p2_1, p2_2⟩ := hQ2
  have N2 := Fr.app N0 Nq2
  have r2 : own_R p e below _ _ T2 (mkF m 4 #[.val (.ref a), .val (.int (0 : Int32))] []) := r1.trans fun z_ kt => st2.trans kt
  have O2 := O0.keep Kq2 (allS g_a all0)
  have K2 := K0.trans Kq2 (allS (Or.inl (List.mem_of_getElem? (i := 0) rfl)) all0)
  have r3 : own_R p e below _ _ T2 (mkF m 24 #[.val (.ref a), .val (.int (0 : Int32))] [(.ref a)]) := r2.trans fun z_ kt => by
    refine XS.iloadN X2.here hx rfl (hb hby d19_4) rfl ?_
    refine XS.ifYes X2.here hx rfl (pc0 := 5) (pc' := 19) rfl (hb hby d19_5) rfl ((if0 _ _).trans (flt (by decide : ¬ ((0 : Int32) < (0 : Int32)))).2.2.2) (by decide) (by decide) ?_
    refine XS.iloadN X2.here hx rfl (hb hby d19_19) rfl ?_
    refine XS.ifNo X2.here hx rfl (hb hby d19_20) rfl ((if0 _ _).trans (teq (by decide : (0 : Int32) = (0 : Int32))).2) ?_
    refine XS.aloadN X2.here hx rfl (hb hby d19_23) rfl rfl ?_
    exact kt
  obtain ⟨T4, X4, e4, st4⟩ := getS2 X2 hx hZ hown (host := "") (Or.inl (hw _ (own_g (i := 136) rfl))) Via.refl e2 (S_ArrayList_EMPTY_ELEMENTDATA.ext O2.2) (g := (mkF m 24 #[.val (.ref a), .val (.int (0 : Int32))] [(.ref a)])) rfl (hb hby d19_24)
  have r4 : own_R p e below _ _ T4 (mkF m 27 #[.val (.ref a), .val (.int (0 : Int32))] [(.ref s_EE), (.ref a)]) := r3.trans fun z_ kt => st4 _ kt
  have f5 := (E_a.keep Kq2)
  obtain ⟨T6, h6, X6, e6, W6, st6⟩ := putF X4 hx hZ hown (host := "") (Or.inl (hw _ (own_g (i := 50) rfl))) Via.refl e4 p2_1 f5 (Or.inl (hw _ (own_g (i := 51) rfl))) (hw _ (own_g (i := 29) rfl)) (ty := (.array (.object "java/lang/Object"))) (v := (.ref s_EE)) (by decide) rfl rfl (g := (mkF m 27 #[.val (.ref a), .val (.int (0 : Int32))] [(.ref s_EE), (.ref a)])) rfl rfl (hb hby d19_27)
  have r6 : own_R p e below _ _ T6 (mkF m 30 #[.val (.ref a), .val (.int (0 : Int32))] []) := r4.trans fun z_ kt => st6 _ kt
  have N6 := Fr.snoc X6 N2 g_a
  have O6 := O2.wr W6 g_a
  have K6 := K2.wr W6 (Or.inl (List.mem_of_getElem? (i := 0) rfl))
  have F6 := p2_1.same W6
  have r7 : own_R p e below _ _ T6 (mkF m 60 #[.val (.ref a), .val (.int (0 : Int32))] []) := r6.trans fun z_ kt => by
    refine XS.goto X6.here hx rfl (pc0 := 30) (pc' := 60) rfl (hb hby d19_30) (by decide) (by decide) ?_
    exact kt
  have f8 := (p2_0.other W6 (Or.inr (slot_ne (Or.inl (hw _ (own_g (i := 48) rfl))) (Or.inl (hw _ (own_g (i := 51) rfl))) (by decide) (t := .int) (t' := (.array (.object "java/lang/Object"))) (by decide) (by decide))))
  have f9 := (p2_2.other W6 (Or.inr (slot_ne (Or.inl (hw _ (own_g (i := 104) rfl))) (Or.inl (hw _ (own_g (i := 51) rfl))) (by decide) (t := .int) (t' := (.array (.object "java/lang/Object"))) (by decide) (by decide))))
  obtain ⟨fs_, hr_, hrun_, hended_, hW_, hsame_⟩ := X6.leave (v := none) (fun _ => rfl)
  refine ⟨_, _, pre0 _ (r7 _ ?_), hrun_, hended_, _, _, rfl, ?_, ⟨_, rfl⟩, hW_, hsame_.mono (by decide) (by decide)⟩
  · exact X6.returnOut hx Bd.returns (hb hby d19_60) hr_
  · show Q_alInitZ Z a u1 u2 s_EE h0 n0 _ T6.heap _
    rw [e6]
    exact ⟨rfl, N6, K6, f8, F6, f9⟩

theorem d19_8 : decode jdk_38_method_1_code 8 = .ok (.aload_n 0, 1) := by decide +kernel
theorem d19_9 : decode jdk_38_method_1_code 9 = .ok (.iload_n 1, 1) := by decide +kernel
theorem d19_10 : decode jdk_38_method_1_code 10 = .ok (.anewarray 7, 3) := by decide +kernel
theorem d19_13 : decode jdk_38_method_1_code 13 = .ok (.putfield 9, 3) := by decide +kernel
theorem d19_16 : decode jdk_38_method_1_code 16 = .ok (.goto 44, 3) := by decide +kernel
theorem ef_alInitP (m : MethodId) (a : Addr) (pc : Int32) : entryFrame m #[(.ref a), (.int pc)] 2 = mkF m 0 #[.val (.ref a), .val (.int pc)] [] := by first | (simp [entryFrame, mkF, argsToLocals, Value.category]; done) | rfl
def Q_alInitP (Z : State) (a : Addr) (pc : Int32) (u1 : Value) (u2 : Value) (h0 : Heap) (n0 : Nat) (v_ : Option Value) (h_ : Heap) (L_ : List Loc) : Prop := ∃ (arr : Addr) (ka : ClassId), v_ = none ∧ Fr n0 L_ ∧ Keep h0 h_ [a] ∧ (h0.size ≤ arr) ∧ (Fld Z h_ a "java/util/AbstractList" "modCount" "I" (.int (0 : Int32))) ∧ (Fld Z h_ a "java/util/ArrayList" "elementData" "[Ljava/lang/Object;" (.ref arr)) ∧ (Fld Z h_ a "java/util/ArrayList" "size" "I" (.int (0 : Int32))) ∧ (Arv Z h_ arr ka (.object "java/lang/Object") pc [] .null) ∧ (Ovr Z ka "java/lang/Object")
set_option maxRecDepth 65536 in
set_option maxHeartbeats 40000000 in
theorem rm_alInitP (l : Launch) (Z : State) (a0 : Array Value) (hw : ∀ d ∈ tables_1, d.before a0 Z = true) (ws : List Jvm.Cond) (a : Addr) (pc : Int32) (u1 : Value) (u2 : Value) (h0 : Heap) (n0 : Nat) (O0 : Old Z n0 h0) (E_a : Exa Z h0 a "java/util/ArrayList") (g_a : n0 ≤ a) (F_a_modCount : Fld Z h0 a "java/util/AbstractList" "modCount" "I" u1) (F_a_elementData : Fld Z h0 a "java/util/ArrayList" "elementData" "[Ljava/lang/Object;" u2) (F_a_size : Fld Z h0 a "java/util/ArrayList" "size" "I" (.int (0 : Int32))) (hpc : (0 : Int32) < pc ∧ pc.toInt ≤ 6) :
    MetFree l (⟨"java/util/ArrayList", "<init>", "(I)V"⟩ : MethodName) (head1 (Jvm.Cond.code (⟨"java/util/ArrayList", "<init>", "(I)V"⟩ : MethodName) jdk_38_method_1_code 2 none :: ws) ({ frames := 3, cells := 1, slots := 6, locals := 36 } : Room)) (fun aa_ U_ => aa_ = #[(.ref a), (.int pc)] ∧ Z.Warmed39 U_.vm ∧ U_.heap = h0) (fun _ _ _ _ _ => True) (fun _ U_ o_ U_' => ∃ v_ L_, o_ = .returned v_ ∧ Q_alInitP Z a pc u1 u2 h0 n0 v_ U_'.heap L_ ∧ FrameEnd U_ o_ U_' L_ ({ frames := 3, cells := 1, slots := 6, locals := 36 } : Room).cells ({ frames := 3, cells := 1, slots := 6, locals := 36 } : Room).slots) := by
  refine MetFree.of_bodySF (plainFor_of_name pn_ArrayList) hisR ?_
  intro p e s m args below meth c s₁ Bd hml0 hP hK
  obtain ⟨rfl, hZ, hh⟩ := hP
  have hx := Bd.exec
  have hby := Bd.bytes
  have hml : c.maxLocals = 2 := hml0
  have hown : s.vm.findClass "java/util/ArrayList" = some m.cls := findClass_of_methodNamed Bd.named
  have hnm := (name_of_methodNamed Bd.named Bd.method).1
  have X0 : Stand p l e ({ frames := 3, cells := 1, slots := 6, locals := 36 } : Room) s m #[(.ref a), (.int pc)] below meth c s₁ [] 0 0 := Stand.of_body Bd
  have e0 : s₁.heap = h0 := by rw [← hh, Bd.state]; rfl
  have N0 := Fr.nil n0
  have K0 : Keep h0 h0 [a] := Keep.refl h0 _
  have pre0 : ∀ z_, Steps p.tables e below (s₁.setTop (mkF m 0 #[.val (.ref a), .val (.int pc)] [])) z_ → Steps p.tables e below (s₁.setTop (entryFrame m #[(.ref a), (.int pc)] 2)) z_ := fun z_ k_ => castTop (ef_alInitP m a pc) k_
  have r0 : own_R p e below s₁ (mkF m 0 #[.val (.ref a), .val (.int pc)] []) s₁ (mkF m 0 #[.val (.ref a), .val (.int pc)] []) := own_R.refl
  have r1 : own_R p e below _ _ s₁ (mkF m 1 #[.val (.ref a), .val (.int pc)] [(.ref a)]) := r0.trans fun z_ kt => by
    refine XS.aloadN X0.here hx rfl (hb hby d19_0) rfl rfl ?_
    exact kt
  obtain ⟨_, _, ⟨T2, L2, cc2, n2⟩, -, X2, ⟨Lc2, hQ2, l2, y2, z2⟩, st2⟩ := X0.specialBack hx (y := (⟨"java/util/AbstractList", "<init>", "()V"⟩ : MethodName)) rfl hown (mvT hZ (hw _ (own_g (i := 34) rfl))) (mvT hZ (hw _ (own_g (i := 35) rfl))) (mvT hZ (hw _ (own_g (i := 39) rfl))) (by decide) (backOf (W := 0) (rm_ablInit2 l Z a0 hw [] (a) (u1) (u2) ((0 : Int32)) h0 n0 O0 (E_a) (g_a) (F_a_modCount) (F_a_elementData) (F_a_size)) hZ (hw _ (own_g (i := 39) rfl)) (hw _ (own_g (i := 38) rfl)) (by decide) (by decide)) (g := (mkF m 1 #[.val (.ref a), .val (.int pc)] [(.ref a)])) rfl (by rw [hml]; rfl) (Steps.refl _) (a := a) (argsL := []) (rest := []) (lenOf pd_3 rfl) rfl (by show 2 * 0 + _ ≤ _; exact Nat.le_of_eq rfl) (hb hby d19_1) (fun _ _ => ⟨rfl, e0, (by decide : 0 + 0 ≤ _), (by decide : 0 + 0 ≤ _)⟩)
  dsimp only [Pt.U, Pt.locs, Pt.cells, Pt.slots] at X2 l2 y2 z2 st2 hQ2
  subst l2 y2 z2
  obtain ⟨h2, e2⟩ : ∃ z, T2.heap = z := ⟨_, rfl⟩
  rw [e2] at hQ2
  obtain ⟨rfl, Nq2, Kq2, p2_0, p2_1, p2_2⟩ := hQ2
  have N2 := Fr.app N0 Nq2
  have r2 : own_R p e below _ _ T2 (mkF m 4 #[.val (.ref a), .val (.int pc)] []) := r1.trans fun z_ kt => st2.trans kt
  have O2 := O0.keep Kq2 (allS g_a all0)
  have K2 := K0.trans Kq2 (allS (Or.inl (List.mem_of_getElem? (i := 0) rfl)) all0)
  have r3 : own_R p e below _ _ T2 (mkF m 10 #[.val (.ref a), .val (.int pc)] [(.int pc), (.ref a)]) := r2.trans fun z_ kt => by
    refine XS.iloadN X2.here hx rfl (hb hby d19_4) rfl ?_
    refine XS.ifNo X2.here hx rfl (hb hby d19_5) rfl ((if0 _ _).trans (tlt (hpc.1 : (0 : Int32) < pc)).2.2.2) ?_
    refine XS.aloadN X2.here hx rfl (hb hby d19_8) rfl rfl ?_
    refine XS.iloadN X2.here hx rfl (hb hby d19_9) rfl ?_
    exact kt
  obtain ⟨T4, h4, k4, X4, e4, E4, A4, Ov4, st4⟩ := newR X2 hx hZ hown (hw _ (own_g (i := 175) rfl)) (hw _ (own_g (i := 176) rfl)) e2 (g := (mkF m 10 #[.val (.ref a), .val (.int pc)] [(.int pc), (.ref a)])) rfl (hb hby d19_10) rfl (own_nn hpc.1) (cap := 6) (own_le6 hpc) (by decide) (by decide) (by decide)
  obtain ⟨b4, g4⟩ : ∃ z, z = h2.size := ⟨_, rfl⟩
  rw [← g4] at A4 st4
  have r4 : own_R p e below _ _ T4 (mkF m 13 #[.val (.ref a), .val (.int pc)] [(.ref b4), (.ref a)]) := r3.trans fun z_ kt => st4 _ kt
  have f5 := (E_a.keep Kq2)
  have ne_a_b4 : a ≠ b4 := Nat.ne_of_lt (Nat.lt_of_lt_of_le f5.lt (Nat.le_of_eq g4.symm))
  have g_b4 : n0 ≤ b4 := Nat.le_trans (own_old_size O2) (Nat.le_of_eq g4.symm)
  have sz_b4 : h0.size ≤ b4 := Nat.le_trans K2.1 (Nat.le_of_eq g4.symm)
  have O4 := O2.ext E4
  have K4 := K2.ext E4
  have V4 : Arv Z h4 b4 k4 (.object "java/lang/Object") pc [] .null := Arv.new A4 (own_nn hpc.1)
  have f6 := (p2_1.ext E4)
  have f7 := (f5.ext E4)
  obtain ⟨T8, h8, X8, e8, W8, st8⟩ := putF X4 hx hZ hown (host := "") (Or.inl (hw _ (own_g (i := 50) rfl))) Via.refl e4 f6 f7 (Or.inl (hw _ (own_g (i := 51) rfl))) (hw _ (own_g (i := 29) rfl)) (ty := (.array (.object "java/lang/Object"))) (v := (.ref b4)) (by decide) rfl rfl (g := (mkF m 13 #[.val (.ref a), .val (.int pc)] [(.ref b4), (.ref a)])) rfl rfl (hb hby d19_13)
  have r8 : own_R p e below _ _ T8 (mkF m 16 #[.val (.ref a), .val (.int pc)] []) := r4.trans fun z_ kt => st8 _ kt
  have N8 := Fr.snoc X8 N2 g_a
  have O8 := O4.wr W8 g_a
  have K8 := K4.wr W8 (Or.inl (List.mem_of_getElem? (i := 0) rfl))
  have F8 := f6.same W8
  have r9 : own_R p e below _ _ T8 (mkF m 60 #[.val (.ref a), .val (.int pc)] []) := r8.trans fun z_ kt => by
    refine XS.goto X8.here hx rfl (pc0 := 16) (pc' := 60) rfl (hb hby d19_16) (by decide) (by decide) ?_
    exact kt
  have f10 := ((p2_0.ext E4).other W8 (Or.inr (slot_ne (Or.inl (hw _ (own_g (i := 48) rfl))) (Or.inl (hw _ (own_g (i := 51) rfl))) (by decide) (t := .int) (t' := (.array (.object "java/lang/Object"))) (by decide) (by decide))))
  have f11 := ((p2_2.ext E4).other W8 (Or.inr (slot_ne (Or.inl (hw _ (own_g (i := 104) rfl))) (Or.inl (hw _ (own_g (i := 51) rfl))) (by decide) (t := .int) (t' := (.array (.object "java/lang/Object"))) (by decide) (by decide))))
  have f12 := (V4.other W8 (Ne.symm ne_a_b4))
  obtain ⟨fs_, hr_, hrun_, hended_, hW_, hsame_⟩ := X8.leave (v := none) (fun _ => rfl)
  refine ⟨_, _, pre0 _ (r9 _ ?_), hrun_, hended_, _, _, rfl, ?_, ⟨_, rfl⟩, hW_, hsame_.mono (by decide) (by decide)⟩
  · exact X8.returnOut hx Bd.returns (hb hby d19_60) hr_
  · show Q_alInitP Z a pc u1 u2 h0 n0 _ T8.heap _
    rw [e8]
    exact ⟨b4, k4, rfl, N8, K8, sz_b4, f10, F8, f11, f12, Ov4⟩

theorem d26_0 : decode jdk_29_method_65_code 0 = .ok (.iload_n 0, 1) := by decide +kernel
theorem d26_1 : decode jdk_29_method_65_code 1 = .ok (.iload_n 1, 1) := by decide +kernel
theorem d26_2 : decode jdk_29_method_65_code 2 = .ok (.if_icmp .lt 7, 3) := by decide +kernel
theorem d26_9 : decode jdk_29_method_65_code 9 = .ok (.iload_n 1, 1) := by decide +kernel
theorem d26_10 : decode jdk_29_method_65_code 10 = .ok (.ireturn, 1) := by decide +kernel
theorem d26_5 : decode jdk_29_method_65_code 5 = .ok (.iload_n 0, 1) := by decide +kernel
theorem d26_6 : decode jdk_29_method_65_code 6 = .ok (.goto 4, 3) := by decide +kernel
theorem ef_maxI (m : MethodId) (px : Int32) (py : Int32) : entryFrame m #[(.int px), (.int py)] 2 = mkF m 0 #[.val (.int px), .val (.int py)] [] := by first | (simp [entryFrame, mkF, argsToLocals, Value.category]; done) | rfl
def Q_maxI (Z : State) (px : Int32) (py : Int32) (r : Int32) (h0 : Heap) (n0 : Nat) (v_ : Option Value) (h_ : Heap) (L_ : List Loc) : Prop := v_ = some (.int r) ∧ Fr n0 L_ ∧ h_ = h0
set_option maxRecDepth 65536 in
set_option maxHeartbeats 40000000 in
theorem rm_maxI (l : Launch) (Z : State) (a0 : Array Value) (hw : ∀ d ∈ tables_1, d.before a0 Z = true) (ws : List Jvm.Cond) (px : Int32) (py : Int32) (r : Int32) (h0 : Heap) (n0 : Nat) (O0 : Old Z n0 h0) (hr0 : (px < py ∧ r = py) ∨ (¬ (px < py) ∧ r = px)) :
    MetFree l (⟨"java/lang/Math", "max", "(II)I"⟩ : MethodName) (head1 (Jvm.Cond.code (⟨"java/lang/Math", "max", "(II)I"⟩ : MethodName) jdk_29_method_65_code 2 (some .int) :: ws) ({ frames := 0, cells := 0, slots := 0, locals := 0 } : Room)) (fun aa_ U_ => aa_ = #[(.int px), (.int py)] ∧ Z.Warmed39 U_.vm ∧ U_.heap = h0) (fun _ _ _ _ _ => True) (fun _ U_ o_ U_' => ∃ v_ L_, o_ = .returned v_ ∧ Q_maxI Z px py r h0 n0 v_ U_'.heap L_ ∧ FrameEnd U_ o_ U_' L_ ({ frames := 0, cells := 0, slots := 0, locals := 0 } : Room).cells ({ frames := 0, cells := 0, slots := 0, locals := 0 } : Room).slots) := by
  refine MetFree.of_bodySF (Jvm.Free.JP.mathPlain rfl (by decide +kernel)) hisR ?_
  intro p e s m args below meth c s₁ Bd hml0 hP hK
  obtain ⟨rfl, hZ, hh⟩ := hP
  have hx := Bd.exec
  have hby := Bd.bytes
  have hml : c.maxLocals = 2 := hml0
  have hown : s.vm.findClass "java/lang/Math" = some m.cls := findClass_of_methodNamed Bd.named
  have hnm := (name_of_methodNamed Bd.named Bd.method).1
  have X0 : Stand p l e ({ frames := 0, cells := 0, slots := 0, locals := 0 } : Room) s m #[(.int px), (.int py)] below meth c s₁ [] 0 0 := Stand.of_body Bd
  have e0 : s₁.heap = h0 := by rw [← hh, Bd.state]; rfl
  have N0 := Fr.nil n0
  have pre0 : ∀ z_, Steps p.tables e below (s₁.setTop (mkF m 0 #[.val (.int px), .val (.int py)] [])) z_ → Steps p.tables e below (s₁.setTop (entryFrame m #[(.int px), (.int py)] 2)) z_ := fun z_ k_ => castTop (ef_maxI m px py) k_
  have r0 : own_R p e below s₁ (mkF m 0 #[.val (.int px), .val (.int py)] []) s₁ (mkF m 0 #[.val (.int px), .val (.int py)] []) := own_R.refl
  rcases hr0 with ⟨q1, qr⟩ | ⟨q1, qr⟩
  · skip
    have r1 : own_R p e below _ _ s₁ (mkF m 10 #[.val (.int px), .val (.int py)] [(.int py)]) := r0.trans fun z_ kt => by
      refine XS.iloadN X0.here hx rfl (hb hby d26_0) rfl ?_
      refine XS.iloadN X0.here hx rfl (hb hby d26_1) rfl ?_
      refine XS.icmpYes X0.here hx rfl (pc0 := 2) (pc' := 9) rfl (hb hby d26_2) rfl (tlt (q1 : px < py)).1 (by decide) (by decide) ?_
      refine XS.iloadN X0.here hx rfl (hb hby d26_9) rfl ?_
      exact kt
    obtain ⟨fs_, hr_, hrun_, hended_, hW_, hsame_⟩ := X0.leave (v := some (.int py)) (fun h => by rw [Bd.returns] at h; cases h)
    refine ⟨_, _, pre0 _ (r1 _ ?_), hrun_, hended_, _, _, rfl, ?_, ⟨_, rfl⟩, hW_, hsame_.mono (by decide) (by decide)⟩
    · exact retOut X0 hx Bd.returns rfl (Or.inl ⟨rfl, Or.inl rfl, _, rfl⟩) (hb hby d26_10) hr_
    · show Q_maxI Z px py r h0 n0 _ s₁.heap _
      rw [e0]
      exact ⟨by rw [qr], N0, rfl⟩
  · skip
    have r2 : own_R p e below _ _ s₁ (mkF m 10 #[.val (.int px), .val (.int py)] [(.int px)]) := r0.trans fun z_ kt => by
      refine XS.iloadN X0.here hx rfl (hb hby d26_0) rfl ?_
      refine XS.iloadN X0.here hx rfl (hb hby d26_1) rfl ?_
      refine XS.icmpNo X0.here hx rfl (hb hby d26_2) rfl (flt (q1 : ¬ (px < py))).1 ?_
      refine XS.iloadN X0.here hx rfl (hb hby d26_5) rfl ?_
      refine XS.goto X0.here hx rfl (pc0 := 6) (pc' := 10) rfl (hb hby d26_6) (by decide) (by decide) ?_
      exact kt
    obtain ⟨fs_, hr_, hrun_, hended_, hW_, hsame_⟩ := X0.leave (v := some (.int px)) (fun h => by rw [Bd.returns] at h; cases h)
    refine ⟨_, _, pre0 _ (r2 _ ?_), hrun_, hended_, _, _, rfl, ?_, ⟨_, rfl⟩, hW_, hsame_.mono (by decide) (by decide)⟩
    · exact retOut X0 hx Bd.returns rfl (Or.inl ⟨rfl, Or.inl rfl, _, rfl⟩) (hb hby d26_10) hr_
    · show Q_maxI Z px py r h0 n0 _ s₁.heap _
      rw [e0]
      exact ⟨by rw [qr], N0, rfl⟩

theorem d18_0 : decode jdk_29_method_66_code 0 = .ok (.lload_n 0, 1) := by decide +kernel
theorem d18_1 : decode jdk_29_method_66_code 1 = .ok (.lload_n 2, 1) := by decide +kernel
theorem d18_2 : decode jdk_29_method_66_code 2 = .ok (.lcmp, 1) := by decide +kernel
theorem d18_3 : decode jdk_29_method_66_code 3 = .ok (.ifCond .lt 7, 3) := by decide +kernel
theorem d18_10 : decode jdk_29_method_66_code 10 = .ok (.lload_n 2, 1) := by decide +kernel
theorem d18_11 : decode jdk_29_method_66_code 11 = .ok (.lreturn, 1) := by decide +kernel
theorem d18_6 : decode jdk_29_method_66_code 6 = .ok (.lload_n 0, 1) := by decide +kernel
theorem d18_7 : decode jdk_29_method_66_code 7 = .ok (.goto 4, 3) := by decide +kernel
theorem ef_maxJ (m : MethodId) (px : Int64) (py : Int64) : entryFrame m #[(.long px), (.long py)] 4 = mkF m 0 #[.val (.long px), .second, .val (.long py), .second] [] := by first | (simp [entryFrame, mkF, argsToLocals, Value.category]; done) | rfl
def Q_maxJ (Z : State) (px : Int64) (py : Int64) (r : Int64) (h0 : Heap) (n0 : Nat) (v_ : Option Value) (h_ : Heap) (L_ : List Loc) : Prop := v_ = some (.long r) ∧ Fr n0 L_ ∧ h_ = h0
set_option maxRecDepth 65536 in
set_option maxHeartbeats 40000000 in
theorem rm_maxJ (l : Launch) (Z : State) (a0 : Array Value) (hw : ∀ d ∈ tables_1, d.before a0 Z = true) (ws : List Jvm.Cond) (px : Int64) (py : Int64) (r : Int64) (h0 : Heap) (n0 : Nat) (O0 : Old Z n0 h0) (hr0 : (lcmpW px py < (0 : Int32) ∧ r = py) ∨ (¬ (lcmpW px py < (0 : Int32)) ∧ r = px)) :
    MetFree l (⟨"java/lang/Math", "max", "(JJ)J"⟩ : MethodName) (head1 (Jvm.Cond.code (⟨"java/lang/Math", "max", "(JJ)J"⟩ : MethodName) jdk_29_method_66_code 4 (some .long) :: ws) ({ frames := 0, cells := 0, slots := 0, locals := 0 } : Room)) (fun aa_ U_ => aa_ = #[(.long px), (.long py)] ∧ Z.Warmed39 U_.vm ∧ U_.heap = h0) (fun _ _ _ _ _ => True) (fun _ U_ o_ U_' => ∃ v_ L_, o_ = .returned v_ ∧ Q_maxJ Z px py r h0 n0 v_ U_'.heap L_ ∧ FrameEnd U_ o_ U_' L_ ({ frames := 0, cells := 0, slots := 0, locals := 0 } : Room).cells ({ frames := 0, cells := 0, slots := 0, locals := 0 } : Room).slots) := by
  refine MetFree.of_bodySF (Jvm.Free.JP.mathPlain rfl (by decide +kernel)) hisR ?_
  intro p e s m args below meth c s₁ Bd hml0 hP hK
  obtain ⟨rfl, hZ, hh⟩ := hP
  have hx := Bd.exec
  have hby := Bd.bytes
  have hml : c.maxLocals = 4 := hml0
  have hown : s.vm.findClass "java/lang/Math" = some m.cls := findClass_of_methodNamed Bd.named
  have hnm := (name_of_methodNamed Bd.named Bd.method).1
  have X0 : Stand p l e ({ frames := 0, cells := 0, slots := 0, locals := 0 } : Room) s m #[(.long px), (.long py)] below meth c s₁ [] 0 0 := Stand.of_body Bd
  have e0 : s₁.heap = h0 := by rw [← hh, Bd.state]; rfl
  have N0 := Fr.nil n0
  have pre0 : ∀ z_, Steps p.tables e below (s₁.setTop (mkF m 0 #[.val (.long px), .second, .val (.long py), .second] [])) z_ → Steps p.tables e below (s₁.setTop (entryFrame m #[(.long px), (.long py)] 4)) z_ := fun z_ k_ => castTop (ef_maxJ m px py) k_
  have r0 : own_R p e below s₁ (mkF m 0 #[.val (.long px), .second, .val (.long py), .second] []) s₁ (mkF m 0 #[.val (.long px), .second, .val (.long py), .second] []) := own_R.refl
  rcases hr0 with ⟨q1, qr⟩ | ⟨q1, qr⟩
  · skip
    have r1 : own_R p e below _ _ s₁ (mkF m 11 #[.val (.long px), .second, .val (.long py), .second] [(.long py)]) := r0.trans fun z_ kt => by
      refine XS.lloadN X0.here hx rfl (hb hby d18_0) rfl ?_
      refine XS.lloadN X0.here hx rfl (hb hby d18_1) rfl ?_
      refine XS.lcmp X0.here hx rfl (hb hby d18_2) rfl ?_
      refine XS.ifYes X0.here hx rfl (pc0 := 3) (pc' := 10) rfl (hb hby d18_3) rfl ((if0 _ _).trans (tlt (q1 : (lcmpW px py) < (0 : Int32))).1) (by decide) (by decide) ?_
      refine XS.lloadN X0.here hx rfl (hb hby d18_10) rfl ?_
      exact kt
    obtain ⟨fs_, hr_, hrun_, hended_, hW_, hsame_⟩ := X0.leave (v := some (.long py)) (fun h => by rw [Bd.returns] at h; cases h)
    refine ⟨_, _, pre0 _ (r1 _ ?_), hrun_, hended_, _, _, rfl, ?_, ⟨_, rfl⟩, hW_, hsame_.mono (by decide) (by decide)⟩
    · exact retOut X0 hx Bd.returns rfl (Or.inr (Or.inl ⟨rfl, rfl, _, rfl⟩)) (hb hby d18_11) hr_
    · show Q_maxJ Z px py r h0 n0 _ s₁.heap _
      rw [e0]
      exact ⟨by rw [qr], N0, rfl⟩
  · skip
    have r2 : own_R p e below _ _ s₁ (mkF m 11 #[.val (.long px), .second, .val (.long py), .second] [(.long px)]) := r0.trans fun z_ kt => by
      refine XS.lloadN X0.here hx rfl (hb hby d18_0) rfl ?_
      refine XS.lloadN X0.here hx rfl (hb hby d18_1) rfl ?_
      refine XS.lcmp X0.here hx rfl (hb hby d18_2) rfl ?_
      refine XS.ifNo X0.here hx rfl (hb hby d18_3) rfl ((if0 _ _).trans (flt (q1 : ¬ ((lcmpW px py) < (0 : Int32)))).1) ?_
      refine XS.lloadN X0.here hx rfl (hb hby d18_6) rfl ?_
      refine XS.goto X0.here hx rfl (pc0 := 7) (pc' := 11) rfl (hb hby d18_7) (by decide) (by decide) ?_
      exact kt
    obtain ⟨fs_, hr_, hrun_, hended_, hW_, hsame_⟩ := X0.leave (v := some (.long px)) (fun h => by rw [Bd.returns] at h; cases h)
    refine ⟨_, _, pre0 _ (r2 _ ?_), hrun_, hended_, _, _, rfl, ?_, ⟨_, rfl⟩, hW_, hsame_.mono (by decide) (by decide)⟩
    · exact retOut X0 hx Bd.returns rfl (Or.inr (Or.inl ⟨rfl, rfl, _, rfl⟩)) (hb hby d18_11) hr_
    · show Q_maxJ Z px py r h0 n0 _ s₁.heap _
      rw [e0]
      exact ⟨by rw [qr], N0, rfl⟩

theorem d35_0 : decode jdk_29_method_70_code 0 = .ok (.lload_n 0, 1) := by decide +kernel
theorem d35_1 : decode jdk_29_method_70_code 1 = .ok (.lload_n 2, 1) := by decide +kernel
theorem d35_2 : decode jdk_29_method_70_code 2 = .ok (.lcmp, 1) := by decide +kernel
theorem d35_3 : decode jdk_29_method_70_code 3 = .ok (.ifCond .gt 7, 3) := by decide +kernel
theorem d35_10 : decode jdk_29_method_70_code 10 = .ok (.lload_n 2, 1) := by decide +kernel
theorem d35_11 : decode jdk_29_method_70_code 11 = .ok (.lreturn, 1) := by decide +kernel
theorem d35_6 : decode jdk_29_method_70_code 6 = .ok (.lload_n 0, 1) := by decide +kernel
theorem d35_7 : decode jdk_29_method_70_code 7 = .ok (.goto 4, 3) := by decide +kernel
theorem ef_minJ (m : MethodId) (px : Int64) (py : Int64) : entryFrame m #[(.long px), (.long py)] 4 = mkF m 0 #[.val (.long px), .second, .val (.long py), .second] [] := by first | (simp [entryFrame, mkF, argsToLocals, Value.category]; done) | rfl
def Q_minJ (Z : State) (px : Int64) (py : Int64) (r : Int64) (h0 : Heap) (n0 : Nat) (v_ : Option Value) (h_ : Heap) (L_ : List Loc) : Prop := v_ = some (.long r) ∧ Fr n0 L_ ∧ h_ = h0
set_option maxRecDepth 65536 in
set_option maxHeartbeats 40000000 in
theorem rm_minJ (l : Launch) (Z : State) (a0 : Array Value) (hw : ∀ d ∈ tables_1, d.before a0 Z = true) (ws : List Jvm.Cond) (px : Int64) (py : Int64) (r : Int64) (h0 : Heap) (n0 : Nat) (O0 : Old Z n0 h0) (hr0 : ((0 : Int32) < lcmpW px py ∧ r = py) ∨ (¬ ((0 : Int32) < lcmpW px py) ∧ r = px)) :
    MetFree l (⟨"java/lang/Math", "min", "(JJ)J"⟩ : MethodName) (head1 (Jvm.Cond.code (⟨"java/lang/Math", "min", "(JJ)J"⟩ : MethodName) jdk_29_method_70_code 4 (some .long) :: ws) ({ frames := 0, cells := 0, slots := 0, locals := 0 } : Room)) (fun aa_ U_ => aa_ = #[(.long px), (.long py)] ∧ Z.Warmed39 U_.vm ∧ U_.heap = h0) (fun _ _ _ _ _ => True) (fun _ U_ o_ U_' => ∃ v_ L_, o_ = .returned v_ ∧ Q_minJ Z px py r h0 n0 v_ U_'.heap L_ ∧ FrameEnd U_ o_ U_' L_ ({ frames := 0, cells := 0, slots := 0, locals := 0 } : Room).cells ({ frames := 0, cells := 0, slots := 0, locals := 0 } : Room).slots) := by
  refine MetFree.of_bodySF (Jvm.Free.JP.mathPlain rfl (by decide +kernel)) hisR ?_
  intro p e s m args below meth c s₁ Bd hml0 hP hK
  obtain ⟨rfl, hZ, hh⟩ := hP
  have hx := Bd.exec
  have hby := Bd.bytes
  have hml : c.maxLocals = 4 := hml0
  have hown : s.vm.findClass "java/lang/Math" = some m.cls := findClass_of_methodNamed Bd.named
  have hnm := (name_of_methodNamed Bd.named Bd.method).1
  have X0 : Stand p l e ({ frames := 0, cells := 0, slots := 0, locals := 0 } : Room) s m #[(.long px), (.long py)] below meth c s₁ [] 0 0 := Stand.of_body Bd
  have e0 : s₁.heap = h0 := by rw [← hh, Bd.state]; rfl
  have N0 := Fr.nil n0
  have pre0 : ∀ z_, Steps p.tables e below (s₁.setTop (mkF m 0 #[.val (.long px), .second, .val (.long py), .second] [])) z_ → Steps p.tables e below (s₁.setTop (entryFrame m #[(.long px), (.long py)] 4)) z_ := fun z_ k_ => castTop (ef_minJ m px py) k_
  have r0 : own_R p e below s₁ (mkF m 0 #[.val (.long px), .second, .val (.long py), .second] []) s₁ (mkF m 0 #[.val (.long px), .second, .val (.long py), .second] []) := own_R.refl
  rcases hr0 with ⟨q1, qr⟩ | ⟨q1, qr⟩
  · skip
    have r1 : own_R p e below _ _ s₁ (mkF m 11 #[.val (.long px), .second, .val (.long py), .second] [(.long py)]) := r0.trans fun z_ kt => by
      refine XS.lloadN X0.here hx rfl (hb hby d35_0) rfl ?_
      refine XS.lloadN X0.here hx rfl (hb hby d35_1) rfl ?_
      refine XS.lcmp X0.here hx rfl (hb hby d35_2) rfl ?_
      refine XS.ifYes X0.here hx rfl (pc0 := 3) (pc' := 10) rfl (hb hby d35_3) rfl ((if0 _ _).trans (tlt (q1 : (0 : Int32) < (lcmpW px py))).2.2.1) (by decide) (by decide) ?_
      refine XS.lloadN X0.here hx rfl (hb hby d35_10) rfl ?_
      exact kt
    obtain ⟨fs_, hr_, hrun_, hended_, hW_, hsame_⟩ := X0.leave (v := some (.long py)) (fun h => by rw [Bd.returns] at h; cases h)
    refine ⟨_, _, pre0 _ (r1 _ ?_), hrun_, hended_, _, _, rfl, ?_, ⟨_, rfl⟩, hW_, hsame_.mono (by decide) (by decide)⟩
    · exact retOut X0 hx Bd.returns rfl (Or.inr (Or.inl ⟨rfl, rfl, _, rfl⟩)) (hb hby d35_11) hr_
    · show Q_minJ Z px py r h0 n0 _ s₁.heap _
      rw [e0]
      exact ⟨by rw [qr], N0, rfl⟩
  · skip
    have r2 : own_R p e below _ _ s₁ (mkF m 11 #[.val (.long px), .second, .val (.long py), .second] [(.long px)]) := r0.trans fun z_ kt => by
      refine XS.lloadN X0.here hx rfl (hb hby d35_0) rfl ?_
      refine XS.lloadN X0.here hx rfl (hb hby d35_1) rfl ?_
      refine XS.lcmp X0.here hx rfl (hb hby d35_2) rfl ?_
      refine XS.ifNo X0.here hx rfl (hb hby d35_3) rfl ((if0 _ _).trans (flt (q1 : ¬ ((0 : Int32) < (lcmpW px py)))).2.2.1) ?_
      refine XS.lloadN X0.here hx rfl (hb hby d35_6) rfl ?_
      refine XS.goto X0.here hx rfl (pc0 := 7) (pc' := 11) rfl (hb hby d35_7) (by decide) (by decide) ?_
      exact kt
    obtain ⟨fs_, hr_, hrun_, hended_, hW_, hsame_⟩ := X0.leave (v := some (.long px)) (fun h => by rw [Bd.returns] at h; cases h)
    refine ⟨_, _, pre0 _ (r2 _ ?_), hrun_, hended_, _, _, rfl, ?_, ⟨_, rfl⟩, hW_, hsame_.mono (by decide) (by decide)⟩
    · exact retOut X0 hx Bd.returns rfl (Or.inr (Or.inl ⟨rfl, rfl, _, rfl⟩)) (hb hby d35_11) hr_
    · show Q_minJ Z px py r h0 n0 _ s₁.heap _
      rw [e0]
      exact ⟨by rw [qr], N0, rfl⟩

theorem d25_0 : decode jdk_38_method_6_code 0 = .ok (.aload_n 0, 1) := by decide +kernel
theorem d25_1 : decode jdk_38_method_6_code 1 = .ok (.getfield 9, 3) := by decide +kernel
theorem d25_4 : decode jdk_38_method_6_code 4 = .ok (.arraylength, 1) := by decide +kernel
theorem d25_5 : decode jdk_38_method_6_code 5 = .ok (.istore_n 2, 1) := by decide +kernel
theorem d25_6 : decode jdk_38_method_6_code 6 = .ok (.iload_n 2, 1) := by decide +kernel
theorem d25_7 : decode jdk_38_method_6_code 7 = .ok (.ifCond .gt 13, 3) := by decide +kernel
theorem d25_10 : decode jdk_38_method_6_code 10 = .ok (.aload_n 0, 1) := by decide +kernel
theorem d25_11 : decode jdk_38_method_6_code 11 = .ok (.getfield 9, 3) := by decide +kernel
theorem d25_14 : decode jdk_38_method_6_code 14 = .ok (.getstatic 39, 3) := by decide +kernel
theorem d25_17 : decode jdk_38_method_6_code 17 = .ok (.if_acmp .eq 28, 3) := by decide +kernel
theorem d25_45 : decode jdk_38_method_6_code 45 = .ok (.aload_n 0, 1) := by decide +kernel
theorem d25_46 : decode jdk_38_method_6_code 46 = .ok (.bipush 10, 2) := by decide +kernel
theorem d25_48 : decode jdk_38_method_6_code 48 = .ok (.iload_n 1, 1) := by decide +kernel
theorem d25_49 : decode jdk_38_method_6_code 49 = .ok (.invokestatic 79, 3) := by decide +kernel
theorem pd_4 : parseMethodDescriptor "(II)I" = some ⟨[.int, .int], some .int⟩ := by decide +kernel
theorem d25_52 : decode jdk_38_method_6_code 52 = .ok (.anewarray 7, 3) := by decide +kernel
theorem d25_55 : decode jdk_38_method_6_code 55 = .ok (.dup_x1, 1) := by decide +kernel
theorem d25_56 : decode jdk_38_method_6_code 56 = .ok (.putfield 9, 3) := by decide +kernel
theorem d25_59 : decode jdk_38_method_6_code 59 = .ok (.areturn, 1) := by decide +kernel
theorem ef_growI (m : MethodId) (a : Addr) : entryFrame m #[(.ref a), (.int (1 : Int32))] 4 = mkF m 0 #[.val (.ref a), .val (.int (1 : Int32)), .unset, .unset] [] := by first | (simp [entryFrame, mkF, argsToLocals, Value.category]; done) | rfl
def Q_growI (Z : State) (a : Addr) (s_DE : Addr) (kd : ClassId) (pm : Int32) (h0 : Heap) (n0 : Nat) (v_ : Option Value) (h_ : Heap) (L_ : List Loc) : Prop := ∃ (arr : Addr) (ka : ClassId), v_ = some (.ref arr) ∧ Fr n0 L_ ∧ Keep h0 h_ [a] ∧ (h0.size ≤ arr) ∧ (Fld Z h_ a "java/util/ArrayList" "elementData" "[Ljava/lang/Object;" (.ref arr)) ∧ (Fld Z h_ a "java/util/ArrayList" "size" "I" (.int (0 : Int32))) ∧ (Fld Z h_ a "java/util/AbstractList" "modCount" "I" (.int pm)) ∧ (Arv Z h_ arr ka (.object "java/lang/Object") (10 : Int32) [] .null) ∧ (Ovr Z ka "java/lang/Object")
set_option maxRecDepth 65536 in
set_option maxHeartbeats 40000000 in
theorem rm_growI (l : Launch) (Z : State) (a0 : Array Value) (hw : ∀ d ∈ tables_1, d.before a0 Z = true) (ws : List Jvm.Cond) (a : Addr) (s_DE : Addr) (kd : ClassId) (pm : Int32) (h0 : Heap) (n0 : Nat) (O0 : Old Z n0 h0) (E_a : Exa Z h0 a "java/util/ArrayList") (g_a : n0 ≤ a) (F_a_elementData : Fld Z h0 a "java/util/ArrayList" "elementData" "[Ljava/lang/Object;" (.ref s_DE)) (F_a_size : Fld Z h0 a "java/util/ArrayList" "size" "I" (.int (0 : Int32))) (F_a_modCount : Fld Z h0 a "java/util/AbstractList" "modCount" "I" (.int pm)) (S_ArrayList_DEFAULTCAPACITY_EMPTY_ELEMENTDATA : Sta Z Z.heap "java/util/ArrayList" "DEFAULTCAPACITY_EMPTY_ELEMENTDATA" "[Ljava/lang/Object;" (.ref s_DE)) (OV_s_DE : Arv Z Z.heap s_DE kd (.object "java/lang/Object") (0 : Int32) [] .null) :
    MetFree l (⟨"java/util/ArrayList", "grow", "(I)[Ljava/lang/Object;"⟩ : MethodName) (head1 (Jvm.Cond.code (⟨"java/util/ArrayList", "grow", "(I)[Ljava/lang/Object;"⟩ : MethodName) jdk_38_method_6_code 4 (some (.array (.object "java/lang/Object"))) :: ws) ({ frames := 1, cells := 1, slots := 10, locals := 14 } : Room)) (fun aa_ U_ => aa_ = #[(.ref a), (.int (1 : Int32))] ∧ Z.Warmed39 U_.vm ∧ U_.heap = h0) (fun _ _ _ _ _ => True) (fun _ U_ o_ U_' => ∃ v_ L_, o_ = .returned v_ ∧ Q_growI Z a s_DE kd pm h0 n0 v_ U_'.heap L_ ∧ FrameEnd U_ o_ U_' L_ ({ frames := 1, cells := 1, slots := 10, locals := 14 } : Room).cells ({ frames := 1, cells := 1, slots := 10, locals := 14 } : Room).slots) := by
  refine MetFree.of_bodySF (plainFor_of_name pn_ArrayList) hisR ?_
  intro p e s m args below meth c s₁ Bd hml0 hP hK
  obtain ⟨rfl, hZ, hh⟩ := hP
  have hx := Bd.exec
  have hby := Bd.bytes
  have hml : c.maxLocals = 4 := hml0
  have hown : s.vm.findClass "java/util/ArrayList" = some m.cls := findClass_of_methodNamed Bd.named
  have hnm := (name_of_methodNamed Bd.named Bd.method).1
  have X0 : Stand p l e ({ frames := 1, cells := 1, slots := 10, locals := 14 } : Room) s m #[(.ref a), (.int (1 : Int32))] below meth c s₁ [] 0 0 := Stand.of_body Bd
  have e0 : s₁.heap = h0 := by rw [← hh, Bd.state]; rfl
  have N0 := Fr.nil n0
  have K0 : Keep h0 h0 [a] := Keep.refl h0 _
  have pre0 : ∀ z_, Steps p.tables e below (s₁.setTop (mkF m 0 #[.val (.ref a), .val (.int (1 : Int32)), .unset, .unset] [])) z_ → Steps p.tables e below (s₁.setTop (entryFrame m #[(.ref a), (.int (1 : Int32))] 4)) z_ := fun z_ k_ => castTop (ef_growI m a) k_
  have r0 : own_R p e below s₁ (mkF m 0 #[.val (.ref a), .val (.int (1 : Int32)), .unset, .unset] []) s₁ (mkF m 0 #[.val (.ref a), .val (.int (1 : Int32)), .unset, .unset] []) := own_R.refl
  have r1 : own_R p e below _ _ s₁ (mkF m 1 #[.val (.ref a), .val (.int (1 : Int32)), .unset, .unset] [(.ref a)]) := r0.trans fun z_ kt => by
    refine XS.aloadN X0.here hx rfl (hb hby d25_0) rfl rfl ?_
    exact kt
  obtain ⟨T2, X2, e2, st2⟩ := getF X0 hx hZ hown (host := "") (Or.inl (hw _ (own_g (i := 50) rfl))) Via.refl e0 F_a_elementData (g := (mkF m 1 #[.val (.ref a), .val (.int (1 : Int32)), .unset, .unset] [(.ref a)])) rfl rfl (hb hby d25_1)
  have r2 : own_R p e below _ _ T2 (mkF m 4 #[.val (.ref a), .val (.int (1 : Int32)), .unset, .unset] [(.ref s_DE)]) := r1.trans fun z_ kt => st2 _ kt
  obtain ⟨cl3, Ar3, q3, S3, M3, H3, G3⟩ := id (OV_s_DE.ext O0.2)
  have r4 : own_R p e below _ _ T2 (mkF m 11 #[.val (.ref a), .val (.int (1 : Int32)), .val (.int (0 : Int32)), .unset] [(.ref a)]) := r2.trans fun z_ kt => by
    refine X2.arraylength hx (by rw [e2]; exact Ar3.1) (State.isArrayOf_alike hZ.alike Ar3.2.1) (g := (mkF m 4 #[.val (.ref a), .val (.int (1 : Int32)), .unset, .unset] [(.ref s_DE)])) rfl rfl (hb hby d25_4) _ ?_
    rw [len_of S3 M3]
    refine XS.istoreN X2.here hx rfl (hb hby d25_5) rfl (l' := #[.val (.ref a), .val (.int (1 : Int32)), .val (.int (0 : Int32)), .unset]) rfl ?_
    refine XS.iloadN X2.here hx rfl (hb hby d25_6) rfl ?_
    refine XS.ifNo X2.here hx rfl (hb hby d25_7) rfl ((if0 _ _).trans (flt (by decide : ¬ ((0 : Int32) < (0 : Int32)))).2.2.1) ?_
    refine XS.aloadN X2.here hx rfl (hb hby d25_10) rfl rfl ?_
    exact kt
  obtain ⟨T5, X5, e5, st5⟩ := getF X2 hx hZ hown (host := "") (Or.inl (hw _ (own_g (i := 50) rfl))) Via.refl e2 F_a_elementData (g := (mkF m 11 #[.val (.ref a), .val (.int (1 : Int32)), .val (.int (0 : Int32)), .unset] [(.ref a)])) rfl rfl (hb hby d25_11)
  have r5 : own_R p e below _ _ T5 (mkF m 14 #[.val (.ref a), .val (.int (1 : Int32)), .val (.int (0 : Int32)), .unset] [(.ref s_DE)]) := r4.trans fun z_ kt => st5 _ kt
  obtain ⟨T6, X6, e6, st6⟩ := getS2 X5 hx hZ hown (host := "") (Or.inl (hw _ (own_g (i := 49) rfl))) Via.refl e5 (S_ArrayList_DEFAULTCAPACITY_EMPTY_ELEMENTDATA.ext O0.2) (g := (mkF m 14 #[.val (.ref a), .val (.int (1 : Int32)), .val (.int (0 : Int32)), .unset] [(.ref s_DE)])) rfl (hb hby d25_14)
  have r6 : own_R p e below _ _ T6 (mkF m 17 #[.val (.ref a), .val (.int (1 : Int32)), .val (.int (0 : Int32)), .unset] [(.ref s_DE), (.ref s_DE)]) := r5.trans fun z_ kt => st6 _ kt
  have r7 : own_R p e below _ _ T6 (mkF m 49 #[.val (.ref a), .val (.int (1 : Int32)), .val (.int (0 : Int32)), .unset] [(.int (1 : Int32)), (.int (10 : Int32)), (.ref a)]) := r6.trans fun z_ kt => by
    refine Jvm.RoadKit.acmp (g := (mkF m 17 #[.val (.ref a), .val (.int (1 : Int32)), .val (.int (0 : Int32)), .unset] [(.ref s_DE), (.ref s_DE)])) X6 hx rfl rfl rfl (pc0 := 17) (pc' := 45) (same := true) rfl (hb hby d25_17) rfl (decide_eq_true rfl) (by decide) (by decide) ?_
    refine XS.aloadN X6.here hx rfl (hb hby d25_45) rfl rfl ?_
    refine XS.bipush X6.here hx rfl (hb hby d25_46) ?_
    refine XS.iloadN X6.here hx rfl (hb hby d25_48) rfl ?_
    exact kt
  obtain ⟨_, _, ⟨T8, L8, cc8, n8⟩, -, X8, ⟨Lc8, hQ8, l8, y8, z8⟩, st8⟩ := Jvm.LawKit.callS X6 hx (y := (⟨"java/lang/Math", "max", "(II)I"⟩ : MethodName)) hown (mvT hZ (hw _ (own_g (i := 172) rfl))) (mvT hZ (hw _ (own_g (i := 173) rfl))) (mvT hZ (hw _ (own_g (i := 130) rfl))) (mvT hZ (hw _ (own_g (i := 174) rfl))) (by decide) (backOf (W := 1) (rm_maxI l Z a0 hw [] ((10 : Int32)) ((1 : Int32)) ((10 : Int32)) h0 n0 O0 (Or.inr ⟨by decide, rfl⟩)) hZ (hw _ (own_g (i := 174) rfl)) (hw _ (own_g (i := 130) rfl)) (by decide) (by decide)) (g := (mkF m 49 #[.val (.ref a), .val (.int (1 : Int32)), .val (.int (0 : Int32)), .unset] [(.int (1 : Int32)), (.int (10 : Int32)), (.ref a)])) rfl (by rw [hml]; rfl) (argsL := [(.int (10 : Int32)), (.int (1 : Int32))]) (rest := [(.ref a)]) (lenOf pd_4 rfl) rfl (by show 2 * 0 + _ ≤ _; exact Nat.le_of_eq rfl) (hb hby d25_49) (fun _ _ => ⟨rfl, e6, (by decide : 0 + 0 ≤ _), (by decide : 0 + 0 ≤ _)⟩)
  dsimp only [Pt.U, Pt.locs, Pt.cells, Pt.slots] at X8 l8 y8 z8 st8 hQ8
  subst l8 y8 z8
  obtain ⟨rfl, Nq8, eq8⟩ := hQ8
  have N8 := Fr.app N0 Nq8
  have r8 : own_R p e below _ _ T8 (mkF m 52 #[.val (.ref a), .val (.int (1 : Int32)), .val (.int (0 : Int32)), .unset] [(.int (10 : Int32)), (.ref a)]) := r7.trans fun z_ kt => st8 _ kt
  have e8 : T8.heap = h0 := eq8
  obtain ⟨T9, h9, k9, X9, e9, E9, A9, Ov9, st9⟩ := newR X8 hx hZ hown (hw _ (own_g (i := 175) rfl)) (hw _ (own_g (i := 176) rfl)) e8 (g := (mkF m 52 #[.val (.ref a), .val (.int (1 : Int32)), .val (.int (0 : Int32)), .unset] [(.int (10 : Int32)), (.ref a)])) rfl (hb hby d25_52) rfl (by decide) (cap := 10) (by decide) (by decide) (by decide) (by decide)
  obtain ⟨b9, g9⟩ : ∃ z, z = h0.size := ⟨_, rfl⟩
  rw [← g9] at A9 st9
  have r9 : own_R p e below _ _ T9 (mkF m 55 #[.val (.ref a), .val (.int (1 : Int32)), .val (.int (0 : Int32)), .unset] [(.ref b9), (.ref a)]) := r8.trans fun z_ kt => st9 _ kt
  have ne_a_b9 : a ≠ b9 := Nat.ne_of_lt (Nat.lt_of_lt_of_le E_a.lt (Nat.le_of_eq g9.symm))
  have g_b9 : n0 ≤ b9 := Nat.le_trans (own_old_size O0) (Nat.le_of_eq g9.symm)
  have sz_b9 : h0.size ≤ b9 := Nat.le_trans K0.1 (Nat.le_of_eq g9.symm)
  have O9 := O0.ext E9
  have K9 := K0.ext E9
  have V9 : Arv Z h9 b9 k9 (.object "java/lang/Object") (10 : Int32) [] .null := Arv.new A9 (by decide)
  have f10 := (F_a_elementData.ext E9)
  have f11 := (E_a.ext E9)
  have r12 : own_R p e below _ _ T9 (mkF m 56 #[.val (.ref a), .val (.int (1 : Int32)), .val (.int (0 : Int32)), .unset] [(.ref b9), (.ref a), (.ref b9)]) := r9.trans fun z_ kt => by
    refine XS.dupX1 X9.here hx rfl (hb hby d25_55) rfl rfl rfl ?_
    exact kt
  obtain ⟨T13, h13, X13, e13, W13, st13⟩ := putF X9 hx hZ hown (host := "") (Or.inl (hw _ (own_g (i := 50) rfl))) Via.refl e9 f10 f11 (Or.inl (hw _ (own_g (i := 51) rfl))) (hw _ (own_g (i := 29) rfl)) (ty := (.array (.object "java/lang/Object"))) (v := (.ref b9)) (by decide) rfl rfl (g := (mkF m 56 #[.val (.ref a), .val (.int (1 : Int32)), .val (.int (0 : Int32)), .unset] [(.ref b9), (.ref a), (.ref b9)])) rfl rfl (hb hby d25_56)
  have r13 : own_R p e below _ _ T13 (mkF m 59 #[.val (.ref a), .val (.int (1 : Int32)), .val (.int (0 : Int32)), .unset] [(.ref b9)]) := r12.trans fun z_ kt => st13 _ kt
  have N13 := Fr.snoc X13 N8 g_a
  have O13 := O9.wr W13 g_a
  have K13 := K9.wr W13 (Or.inl (List.mem_of_getElem? (i := 0) rfl))
  have F13 := f10.same W13
  have f14 := ((F_a_size.ext E9).other W13 (Or.inr (slot_ne (Or.inl (hw _ (own_g (i := 104) rfl))) (Or.inl (hw _ (own_g (i := 51) rfl))) (by decide) (t := .int) (t' := (.array (.object "java/lang/Object"))) (by decide) (by decide))))
  have f15 := ((F_a_modCount.ext E9).other W13 (Or.inr (slot_ne (Or.inl (hw _ (own_g (i := 48) rfl))) (Or.inl (hw _ (own_g (i := 51) rfl))) (by decide) (t := .int) (t' := (.array (.object "java/lang/Object"))) (by decide) (by decide))))
  have f16 := (V9.other W13 (Ne.symm ne_a_b9))
  obtain ⟨fs_, hr_, hrun_, hended_, hW_, hsame_⟩ := X13.leave (v := some (.ref b9)) (fun h => by rw [Bd.returns] at h; cases h)
  refine ⟨_, _, pre0 _ (r13 _ ?_), hrun_, hended_, _, _, rfl, ?_, ⟨_, rfl⟩, hW_, hsame_.mono (by decide) (by decide)⟩
  · exact retOut X13 hx Bd.returns rfl (Or.inr (Or.inr (Or.inr (Or.inr ⟨rfl, rfl, rfl⟩)))) (hb hby d25_59) hr_
  · show Q_growI Z a s_DE kd pm h0 n0 _ T13.heap _
    rw [e13]
    exact ⟨b9, k9, rfl, N13, K13, sz_b9, F13, f14, f15, f16, Ov9⟩

theorem d24_0 : decode jdk_38_method_7_code 0 = .ok (.aload_n 0, 1) := by decide +kernel
theorem d24_1 : decode jdk_38_method_7_code 1 = .ok (.aload_n 0, 1) := by decide +kernel
theorem d24_2 : decode jdk_38_method_7_code 2 = .ok (.getfield 48, 3) := by decide +kernel
theorem d24_5 : decode jdk_38_method_7_code 5 = .ok (.iconst 1, 1) := by decide +kernel
theorem d24_6 : decode jdk_38_method_7_code 6 = .ok (.iadd, 1) := by decide +kernel
theorem d24_7 : decode jdk_38_method_7_code 7 = .ok (.invokevirtual 69, 3) := by decide +kernel
theorem pd_5 : parseMethodDescriptor "(I)[Ljava/lang/Object;" = some ⟨[.int], some (.array (.object "java/lang/Object"))⟩ := by decide +kernel
theorem d24_10 : decode jdk_38_method_7_code 10 = .ok (.areturn, 1) := by decide +kernel
theorem ef_grow0 (m : MethodId) (a : Addr) : entryFrame m #[(.ref a)] 1 = mkF m 0 #[.val (.ref a)] [] := by first | (simp [entryFrame, mkF, argsToLocals, Value.category]; done) | rfl
def Q_grow0 (Z : State) (a : Addr) (s_DE : Addr) (kd : ClassId) (pm : Int32) (h0 : Heap) (n0 : Nat) (v_ : Option Value) (h_ : Heap) (L_ : List Loc) : Prop := ∃ (arr : Addr) (ka : ClassId), v_ = some (.ref arr) ∧ Fr n0 L_ ∧ Keep h0 h_ [a] ∧ (h0.size ≤ arr) ∧ (Fld Z h_ a "java/util/ArrayList" "elementData" "[Ljava/lang/Object;" (.ref arr)) ∧ (Fld Z h_ a "java/util/ArrayList" "size" "I" (.int (0 : Int32))) ∧ (Fld Z h_ a "java/util/AbstractList" "modCount" "I" (.int pm)) ∧ (Arv Z h_ arr ka (.object "java/lang/Object") (10 : Int32) [] .null) ∧ (Ovr Z ka "java/lang/Object")
set_option maxRecDepth 65536 in
set_option maxHeartbeats 40000000 in
theorem rm_grow0 (l : Launch) (Z : State) (a0 : Array Value) (hw : ∀ d ∈ tables_1, d.before a0 Z = true) (ws : List Jvm.Cond) (a : Addr) (s_DE : Addr) (kd : ClassId) (pm : Int32) (h0 : Heap) (n0 : Nat) (O0 : Old Z n0 h0) (E_a : Exa Z h0 a "java/util/ArrayList") (g_a : n0 ≤ a) (F_a_elementData : Fld Z h0 a "java/util/ArrayList" "elementData" "[Ljava/lang/Object;" (.ref s_DE)) (F_a_size : Fld Z h0 a "java/util/ArrayList" "size" "I" (.int (0 : Int32))) (F_a_modCount : Fld Z h0 a "java/util/AbstractList" "modCount" "I" (.int pm)) (S_ArrayList_DEFAULTCAPACITY_EMPTY_ELEMENTDATA : Sta Z Z.heap "java/util/ArrayList" "DEFAULTCAPACITY_EMPTY_ELEMENTDATA" "[Ljava/lang/Object;" (.ref s_DE)) (OV_s_DE : Arv Z Z.heap s_DE kd (.object "java/lang/Object") (0 : Int32) [] .null) :
    MetFree l (⟨"java/util/ArrayList", "grow", "()[Ljava/lang/Object;"⟩ : MethodName) (head1 (Jvm.Cond.code (⟨"java/util/ArrayList", "grow", "()[Ljava/lang/Object;"⟩ : MethodName) jdk_38_method_7_code 1 (some (.array (.object "java/lang/Object"))) :: ws) ({ frames := 2, cells := 1, slots := 10, locals := 29 } : Room)) (fun aa_ U_ => aa_ = #[(.ref a)] ∧ Z.Warmed39 U_.vm ∧ U_.heap = h0) (fun _ _ _ _ _ => True) (fun _ U_ o_ U_' => ∃ v_ L_, o_ = .returned v_ ∧ Q_grow0 Z a s_DE kd pm h0 n0 v_ U_'.heap L_ ∧ FrameEnd U_ o_ U_' L_ ({ frames := 2, cells := 1, slots := 10, locals := 29 } : Room).cells ({ frames := 2, cells := 1, slots := 10, locals := 29 } : Room).slots) := by
  refine MetFree.of_bodySF (plainFor_of_name pn_ArrayList) hisR ?_
  intro p e s m args below meth c s₁ Bd hml0 hP hK
  obtain ⟨rfl, hZ, hh⟩ := hP
  have hx := Bd.exec
  have hby := Bd.bytes
  have hml : c.maxLocals = 1 := hml0
  have hown : s.vm.findClass "java/util/ArrayList" = some m.cls := findClass_of_methodNamed Bd.named
  have hnm := (name_of_methodNamed Bd.named Bd.method).1
  have X0 : Stand p l e ({ frames := 2, cells := 1, slots := 10, locals := 29 } : Room) s m #[(.ref a)] below meth c s₁ [] 0 0 := Stand.of_body Bd
  have e0 : s₁.heap = h0 := by rw [← hh, Bd.state]; rfl
  have N0 := Fr.nil n0
  have K0 : Keep h0 h0 [a] := Keep.refl h0 _
  have pre0 : ∀ z_, Steps p.tables e below (s₁.setTop (mkF m 0 #[.val (.ref a)] [])) z_ → Steps p.tables e below (s₁.setTop (entryFrame m #[(.ref a)] 1)) z_ := fun z_ k_ => castTop (ef_grow0 m a) k_
  have r0 : own_R p e below s₁ (mkF m 0 #[.val (.ref a)] []) s₁ (mkF m 0 #[.val (.ref a)] []) := own_R.refl
  have r1 : own_R p e below _ _ s₁ (mkF m 2 #[.val (.ref a)] [(.ref a), (.ref a)]) := r0.trans fun z_ kt => by
    refine XS.aloadN X0.here hx rfl (hb hby d24_0) rfl rfl ?_
    refine XS.aloadN X0.here hx rfl (hb hby d24_1) rfl rfl ?_
    exact kt
  obtain ⟨T2, X2, e2, st2⟩ := getF X0 hx hZ hown (host := "") (Or.inl (hw _ (own_g (i := 150) rfl))) Via.refl e0 F_a_size (g := (mkF m 2 #[.val (.ref a)] [(.ref a), (.ref a)])) rfl rfl (hb hby d24_2)
  have r2 : own_R p e below _ _ T2 (mkF m 5 #[.val (.ref a)] [(.int (0 : Int32)), (.ref a)]) := r1.trans fun z_ kt => st2 _ kt
  have r3 : own_R p e below _ _ T2 (mkF m 7 #[.val (.ref a)] [(.int (1 : Int32)), (.ref a)]) := r2.trans fun z_ kt => by
    refine XS.iconst X2.here hx rfl (hb hby d24_5) ?_
    refine XS.iadd X2.here hx rfl (hb hby d24_6) rfl ?_
    exact kt
  obtain ⟨cq4, q4, q4'⟩ := E_a.cell
  obtain ⟨_, _, ⟨T4, L4, cc4, n4⟩, -, X4, ⟨Lc4, hQ4, l4, y4, z4⟩, st4⟩ := X2.privateBack hx (y := (⟨"java/util/ArrayList", "grow", "(I)[Ljava/lang/Object;"⟩ : MethodName)) hown (mvT hZ (hw _ (own_g (i := 167) rfl))) (mvT hZ (hw _ (own_g (i := 168) rfl))) (mvT hZ (hw _ (own_g (i := 170) rfl))) (Cond.privateMethod_at (mvP hZ (hw _ (own_g (i := 169) rfl)) (args := #[]))) (mvT hZ (hw _ (own_g (i := 171) rfl))) (by decide) (backOf (W := 0) (rm_growI l Z a0 hw [] (a) (s_DE) (kd) (pm) h0 n0 O0 (E_a) (g_a) (F_a_elementData) (F_a_size) (F_a_modCount) (S_ArrayList_DEFAULTCAPACITY_EMPTY_ELEMENTDATA) (OV_s_DE)) hZ (hw _ (own_g (i := 171) rfl)) (hw _ (own_g (i := 30) rfl)) (by decide) (by decide)) (g := (mkF m 7 #[.val (.ref a)] [(.int (1 : Int32)), (.ref a)])) rfl (by rw [hml]; rfl) (Steps.refl _) (a := a) (by rw [e2]; exact q4) q4' (argsL := [(.int (1 : Int32))]) (rest := []) (lenOf pd_5 rfl) rfl (by show 2 * 0 + _ ≤ _; exact Nat.le_of_eq rfl) (hb hby d24_7) (fun _ _ => ⟨rfl, e2, (by decide : 0 + 1 ≤ _), (by decide : 0 + 10 ≤ _)⟩)
  dsimp only [Pt.U, Pt.locs, Pt.cells, Pt.slots] at X4 l4 y4 z4 st4 hQ4
  subst l4 y4 z4
  obtain ⟨h4, e4⟩ : ∃ z, T4.heap = z := ⟨_, rfl⟩
  rw [e4] at hQ4
  obtain ⟨arr_4, ka_4, rfl, Nq4, Kq4, p4_0, p4_1, p4_2, p4_3, p4_4, p4_5⟩ := hQ4
  have N4 := Fr.app N0 Nq4
  have r4 : own_R p e below _ _ T4 (mkF m 10 #[.val (.ref a)] [(.ref arr_4)]) := r3.trans fun z_ kt => st4.trans kt
  have ne_a_arr_4 : a ≠ arr_4 := Nat.ne_of_lt (Nat.lt_of_lt_of_le E_a.lt p4_0)
  have g_arr_4 : n0 ≤ arr_4 := Nat.le_trans (own_old_size O0) p4_0
  have sz_arr_4 : h0.size ≤ arr_4 := Nat.le_trans K0.1 p4_0
  have O4 := O0.keep Kq4 (allS g_a all0)
  have K4 := K0.trans Kq4 (allS (Or.inl (List.mem_of_getElem? (i := 0) rfl)) all0)
  obtain ⟨fs_, hr_, hrun_, hended_, hW_, hsame_⟩ := X4.leave (v := some (.ref arr_4)) (fun h => by rw [Bd.returns] at h; cases h)
  refine ⟨_, _, pre0 _ (r4 _ ?_), hrun_, hended_, _, _, rfl, ?_, ⟨_, rfl⟩, hW_, hsame_.mono (by decide) (by decide)⟩
  · exact retOut X4 hx Bd.returns rfl (Or.inr (Or.inr (Or.inr (Or.inr ⟨rfl, rfl, rfl⟩)))) (hb hby d24_10) hr_
  · show Q_grow0 Z a s_DE kd pm h0 n0 _ T4.heap _
    rw [e4]
    exact ⟨arr_4, ka_4, rfl, N4, K4, sz_arr_4, p4_1, p4_2, p4_3, p4_4, p4_5⟩

theorem d23_0 : decode jdk_38_method_24_code 0 = .ok (.iload_n 3, 1) := by decide +kernel
theorem d23_1 : decode jdk_38_method_24_code 1 = .ok (.aload_n 2, 1) := by decide +kernel
theorem d23_2 : decode jdk_38_method_24_code 2 = .ok (.arraylength, 1) := by decide +kernel
theorem d23_3 : decode jdk_38_method_24_code 3 = .ok (.if_icmp .ne 8, 3) := by decide +kernel
theorem d23_6 : decode jdk_38_method_24_code 6 = .ok (.aload_n 0, 1) := by decide +kernel
theorem d23_7 : decode jdk_38_method_24_code 7 = .ok (.invokevirtual 129, 3) := by decide +kernel
theorem pd_6 : parseMethodDescriptor "()[Ljava/lang/Object;" = some ⟨[], some (.array (.object "java/lang/Object"))⟩ := by decide +kernel
theorem d23_10 : decode jdk_38_method_24_code 10 = .ok (.astore_n 2, 1) := by decide +kernel
theorem d23_11 : decode jdk_38_method_24_code 11 = .ok (.aload_n 2, 1) := by decide +kernel
theorem d23_12 : decode jdk_38_method_24_code 12 = .ok (.iload_n 3, 1) := by decide +kernel
theorem d23_13 : decode jdk_38_method_24_code 13 = .ok (.aload_n 1, 1) := by decide +kernel
theorem d23_14 : decode jdk_38_method_24_code 14 = .ok (.aastore, 1) := by decide +kernel
theorem d23_15 : decode jdk_38_method_24_code 15 = .ok (.aload_n 0, 1) := by decide +kernel
theorem d23_16 : decode jdk_38_method_24_code 16 = .ok (.iload_n 3, 1) := by decide +kernel
theorem d23_17 : decode jdk_38_method_24_code 17 = .ok (.iconst 1, 1) := by decide +kernel
theorem d23_18 : decode jdk_38_method_24_code 18 = .ok (.iadd, 1) := by decide +kernel
theorem d23_19 : decode jdk_38_method_24_code 19 = .ok (.putfield 48, 3) := by decide +kernel
theorem d23_22 : decode jdk_38_method_24_code 22 = .ok (.return_, 1) := by decide +kernel
theorem ef_add3G (m : MethodId) (a : Addr) (el : Addr) (s_DE : Addr) : entryFrame m #[(.ref a), (.ref el), (.ref s_DE), (.int (0 : Int32))] 4 = mkF m 0 #[.val (.ref a), .val (.ref el), .val (.ref s_DE), .val (.int (0 : Int32))] [] := by first | (simp [entryFrame, mkF, argsToLocals, Value.category]; done) | rfl
def Q_add3G (Z : State) (a : Addr) (el : Addr) (s_DE : Addr) (kd : ClassId) (pm : Int32) (h0 : Heap) (n0 : Nat) (v_ : Option Value) (h_ : Heap) (L_ : List Loc) : Prop := ∃ (arr : Addr) (ka : ClassId), v_ = none ∧ Fr n0 L_ ∧ Keep h0 h_ [a] ∧ (h0.size ≤ arr) ∧ (Fld Z h_ a "java/util/ArrayList" "elementData" "[Ljava/lang/Object;" (.ref arr)) ∧ (Fld Z h_ a "java/util/ArrayList" "size" "I" (.int (1 : Int32))) ∧ (Arv Z h_ arr ka (.object "java/lang/Object") (10 : Int32) [(.ref el)] .null) ∧ (Ovr Z ka "java/lang/Object") ∧ (Fld Z h_ a "java/util/AbstractList" "modCount" "I" (.int pm))
set_option maxRecDepth 65536 in
set_option maxHeartbeats 40000000 in
theorem rm_add3G (l : Launch) (Z : State) (a0 : Array Value) (hw : ∀ d ∈ tables_1, d.before a0 Z = true) (ws : List Jvm.Cond) (a : Addr) (el : Addr) (s_DE : Addr) (kd : ClassId) (pm : Int32) (h0 : Heap) (n0 : Nat) (O0 : Old Z n0 h0) (E_a : Exa Z h0 a "java/util/ArrayList") (g_a : n0 ≤ a) (F_a_elementData : Fld Z h0 a "java/util/ArrayList" "elementData" "[Ljava/lang/Object;" (.ref s_DE)) (F_a_size : Fld Z h0 a "java/util/ArrayList" "size" "I" (.int (0 : Int32))) (F_a_modCount : Fld Z h0 a "java/util/AbstractList" "modCount" "I" (.int pm)) (S_ArrayList_DEFAULTCAPACITY_EMPTY_ELEMENTDATA : Sta Z Z.heap "java/util/ArrayList" "DEFAULTCAPACITY_EMPTY_ELEMENTDATA" "[Ljava/lang/Object;" (.ref s_DE)) (OV_s_DE : Arv Z Z.heap s_DE kd (.object "java/lang/Object") (0 : Int32) [] .null) (E_el : Exa Z h0 el "java/lang/String") :
    MetFree l (⟨"java/util/ArrayList", "add", "(Ljava/lang/Object;[Ljava/lang/Object;I)V"⟩ : MethodName) (head1 (Jvm.Cond.code (⟨"java/util/ArrayList", "add", "(Ljava/lang/Object;[Ljava/lang/Object;I)V"⟩ : MethodName) jdk_38_method_24_code 4 none :: ws) ({ frames := 3, cells := 1, slots := 10, locals := 41 } : Room)) (fun aa_ U_ => aa_ = #[(.ref a), (.ref el), (.ref s_DE), (.int (0 : Int32))] ∧ Z.Warmed39 U_.vm ∧ U_.heap = h0) (fun _ _ _ _ _ => True) (fun _ U_ o_ U_' => ∃ v_ L_, o_ = .returned v_ ∧ Q_add3G Z a el s_DE kd pm h0 n0 v_ U_'.heap L_ ∧ FrameEnd U_ o_ U_' L_ ({ frames := 3, cells := 1, slots := 10, locals := 41 } : Room).cells ({ frames := 3, cells := 1, slots := 10, locals := 41 } : Room).slots) := by
  refine MetFree.of_bodySF (plainFor_of_name pn_ArrayList) hisR ?_
  intro p e s m args below meth c s₁ Bd hml0 hP hK
  obtain ⟨rfl, hZ, hh⟩ := hP
  have hx := Bd.exec
  have hby := Bd.bytes
  have hml : c.maxLocals = 4 := hml0
  have hown : s.vm.findClass "java/util/ArrayList" = some m.cls := findClass_of_methodNamed Bd.named
  have hnm := (name_of_methodNamed Bd.named Bd.method).1
  have X0 : Stand p l e ({ frames := 3, cells := 1, slots := 10, locals := 41 } : Room) s m #[(.ref a), (.ref el), (.ref s_DE), (.int (0 : Int32))] below meth c s₁ [] 0 0 := Stand.of_body Bd
  have e0 : s₁.heap = h0 := by rw [← hh, Bd.state]; rfl
  have N0 := Fr.nil n0
  have K0 : Keep h0 h0 [a] := Keep.refl h0 _
  have pre0 : ∀ z_, Steps p.tables e below (s₁.setTop (mkF m 0 #[.val (.ref a), .val (.ref el), .val (.ref s_DE), .val (.int (0 : Int32))] [])) z_ → Steps p.tables e below (s₁.setTop (entryFrame m #[(.ref a), (.ref el), (.ref s_DE), (.int (0 : Int32))] 4)) z_ := fun z_ k_ => castTop (ef_add3G m a el s_DE) k_
  have r0 : own_R p e below s₁ (mkF m 0 #[.val (.ref a), .val (.ref el), .val (.ref s_DE), .val (.int (0 : Int32))] []) s₁ (mkF m 0 #[.val (.ref a), .val (.ref el), .val (.ref s_DE), .val (.int (0 : Int32))] []) := own_R.refl
  have ne_a_el : a ≠ el := (ne_exa E_a E_el (by decide))
  have r2 : own_R p e below _ _ s₁ (mkF m 2 #[.val (.ref a), .val (.ref el), .val (.ref s_DE), .val (.int (0 : Int32))] [(.ref s_DE), (.int (0 : Int32))]) := r0.trans fun z_ kt => by
    refine XS.iloadN X0.here hx rfl (hb hby d23_0) rfl ?_
    refine XS.aloadN X0.here hx rfl (hb hby d23_1) rfl rfl ?_
    exact kt
  obtain ⟨cl1, Ar1, q1, S1, M1, H1, G1⟩ := id (OV_s_DE.ext O0.2)
  have r3 : own_R p e below _ _ s₁ (mkF m 7 #[.val (.ref a), .val (.ref el), .val (.ref s_DE), .val (.int (0 : Int32))] [(.ref a)]) := r2.trans fun z_ kt => by
    refine X0.arraylength hx (by rw [e0]; exact Ar1.1) (State.isArrayOf_alike hZ.alike Ar1.2.1) (g := (mkF m 2 #[.val (.ref a), .val (.ref el), .val (.ref s_DE), .val (.int (0 : Int32))] [(.ref s_DE), (.int (0 : Int32))])) rfl rfl (hb hby d23_2) _ ?_
    rw [len_of S1 M1]
    refine XS.icmpNo X0.here hx rfl (hb hby d23_3) rfl (teq (by decide : (0 : Int32) = (0 : Int32))).2 ?_
    refine XS.aloadN X0.here hx rfl (hb hby d23_6) rfl rfl ?_
    exact kt
  obtain ⟨cq4, q4, q4'⟩ := E_a.cell
  obtain ⟨_, _, ⟨T4, L4, cc4, n4⟩, -, X4, ⟨Lc4, hQ4, l4, y4, z4⟩, st4⟩ := X0.privateBack hx (y := (⟨"java/util/ArrayList", "grow", "()[Ljava/lang/Object;"⟩ : MethodName)) hown (mvT hZ (hw _ (own_g (i := 162) rfl))) (mvT hZ (hw _ (own_g (i := 163) rfl))) (mvT hZ (hw _ (own_g (i := 165) rfl))) (Cond.privateMethod_at (mvP hZ (hw _ (own_g (i := 164) rfl)) (args := #[]))) (mvT hZ (hw _ (own_g (i := 166) rfl))) (by decide) (backOf (W := 0) (rm_grow0 l Z a0 hw [] (a) (s_DE) (kd) (pm) h0 n0 O0 (E_a) (g_a) (F_a_elementData) (F_a_size) (F_a_modCount) (S_ArrayList_DEFAULTCAPACITY_EMPTY_ELEMENTDATA) (OV_s_DE)) hZ (hw _ (own_g (i := 166) rfl)) (hw _ (own_g (i := 30) rfl)) (by decide) (by decide)) (g := (mkF m 7 #[.val (.ref a), .val (.ref el), .val (.ref s_DE), .val (.int (0 : Int32))] [(.ref a)])) rfl (by rw [hml]; rfl) (Steps.refl _) (a := a) (by rw [e0]; exact q4) q4' (argsL := []) (rest := []) (lenOf pd_6 rfl) rfl (by show 2 * 0 + _ ≤ _; exact Nat.le_of_eq rfl) (hb hby d23_7) (fun _ _ => ⟨rfl, e0, (by decide : 0 + 1 ≤ _), (by decide : 0 + 10 ≤ _)⟩)
  dsimp only [Pt.U, Pt.locs, Pt.cells, Pt.slots] at X4 l4 y4 z4 st4 hQ4
  subst l4 y4 z4
  obtain ⟨h4, e4⟩ : ∃ z, T4.heap = z := ⟨_, rfl⟩
  rw [e4] at hQ4
  obtain ⟨arr_4, ka_4, rfl, Nq4, Kq4, p4_0, p4_1, p4_2, p4_3, p4_4, p4_5⟩ := hQ4
  have N4 := Fr.app N0 Nq4
  have r4 : own_R p e below _ _ T4 (mkF m 10 #[.val (.ref a), .val (.ref el), .val (.ref s_DE), .val (.int (0 : Int32))] [(.ref arr_4)]) := r3.trans fun z_ kt => st4.trans kt
  have ne_a_arr_4 : a ≠ arr_4 := Nat.ne_of_lt (Nat.lt_of_lt_of_le E_a.lt p4_0)
  have ne_el_arr_4 : el ≠ arr_4 := Nat.ne_of_lt (Nat.lt_of_lt_of_le E_el.lt p4_0)
  have g_arr_4 : n0 ≤ arr_4 := Nat.le_trans (own_old_size O0) p4_0
  have sz_arr_4 : h0.size ≤ arr_4 := Nat.le_trans K0.1 p4_0
  have O4 := O0.keep Kq4 (allS g_a all0)
  have K4 := K0.trans Kq4 (allS (Or.inl (List.mem_of_getElem? (i := 0) rfl)) all0)
  have Vp5 : Arv Z h4 arr_4 ka_4 (.object "java/lang/Object") (10 : Int32) [.null] .null := p4_4.pad (pad_rep [] .null 1)
  obtain ⟨cl5, Ar5, q5, S5, M5, H5, G5⟩ := id Vp5
  have hin5 : ¬ ((0 : Int32) < 0 ∨ cl5.slots.size ≤ ((0 : Int32)).toNatClampNeg) := inb_of S5 ⟨by decide, by decide⟩
  have f6 := (E_el.keep Kq4)
  have r7 : own_R p e below _ _ T4 (mkF m 14 #[.val (.ref a), .val (.ref el), .val (.ref arr_4), .val (.int (0 : Int32))] [(.ref el), (.int (0 : Int32)), (.ref arr_4)]) := r4.trans fun z_ kt => by
    refine XS.astoreN X4.here hx rfl (hb hby d23_10) rfl rfl (l' := #[.val (.ref a), .val (.ref el), .val (.ref arr_4), .val (.int (0 : Int32))]) rfl ?_
    refine XS.aloadN X4.here hx rfl (hb hby d23_11) rfl rfl ?_
    refine XS.iloadN X4.here hx rfl (hb hby d23_12) rfl ?_
    refine XS.aloadN X4.here hx rfl (hb hby d23_13) rfl rfl ?_
    exact kt
  obtain ⟨T8, h8, X8, e8, W8, st8⟩ := stR X4 hx hZ e4 Ar5 (j := (0 : Int32)) hin5 rfl (Sto.ofV Ar5 q5 p4_5 (Ins.of_exa f6 (hw _ (own_g (i := 177) rfl)))) (g := (mkF m 14 #[.val (.ref a), .val (.ref el), .val (.ref arr_4), .val (.int (0 : Int32))] [(.ref el), (.int (0 : Int32)), (.ref arr_4)])) rfl rfl (hb hby d23_14)
  have r8 : own_R p e below _ _ T8 (mkF m 15 #[.val (.ref a), .val (.ref el), .val (.ref arr_4), .val (.int (0 : Int32))] []) := r7.trans fun z_ kt => st8 _ kt
  have N8 := Fr.snoc X8 N4 g_arr_4
  have O8 := O4.wr W8 g_arr_4
  have K8 := K4.wr W8 (Or.inr sz_arr_4)
  have V8 : Arv Z h8 arr_4 ka_4 (.object "java/lang/Object") (10 : Int32) [(.ref el)] .null := Arv.set Ar5 q5 S5 M5 H5 G5 rfl W8 0 rfl (Nat.le_of_ble_eq_true rfl)
  have f9 := (p4_2.other W8 (Or.inl ne_a_arr_4))
  have f10 := ((E_a.keep Kq4).wr W8)
  have r11 : own_R p e below _ _ T8 (mkF m 19 #[.val (.ref a), .val (.ref el), .val (.ref arr_4), .val (.int (0 : Int32))] [(.int (1 : Int32)), (.ref a)]) := r8.trans fun z_ kt => by
    refine XS.aloadN X8.here hx rfl (hb hby d23_15) rfl rfl ?_
    refine XS.iloadN X8.here hx rfl (hb hby d23_16) rfl ?_
    refine XS.iconst X8.here hx rfl (hb hby d23_17) ?_
    refine XS.iadd X8.here hx rfl (hb hby d23_18) rfl ?_
    exact kt
  obtain ⟨T12, h12, X12, e12, W12, st12⟩ := putF X8 hx hZ hown (host := "") (Or.inl (hw _ (own_g (i := 150) rfl))) Via.refl e8 f9 f10 (Or.inl (hw _ (own_g (i := 104) rfl))) (hw _ (own_g (i := 29) rfl)) (ty := .int) (v := (.int (1 : Int32))) (by decide) rfl rfl (g := (mkF m 19 #[.val (.ref a), .val (.ref el), .val (.ref arr_4), .val (.int (0 : Int32))] [(.int (1 : Int32)), (.ref a)])) rfl rfl (hb hby d23_19)
  have r12 : own_R p e below _ _ T12 (mkF m 22 #[.val (.ref a), .val (.ref el), .val (.ref arr_4), .val (.int (0 : Int32))] []) := r11.trans fun z_ kt => st12 _ kt
  have N12 := Fr.snoc X12 N8 g_a
  have O12 := O8.wr W12 g_a
  have K12 := K8.wr W12 (Or.inl (List.mem_of_getElem? (i := 0) rfl))
  have F12 := f9.same W12
  have f13 := ((p4_1.other W8 (Or.inl ne_a_arr_4)).other W12 (Or.inr (slot_ne (Or.inl (hw _ (own_g (i := 51) rfl))) (Or.inl (hw _ (own_g (i := 104) rfl))) (by decide) (t := (.array (.object "java/lang/Object"))) (t' := .int) (by decide) (by decide))))
  have f14 := (V8.other W12 (Ne.symm ne_a_arr_4))
  have f15 := ((p4_3.other W8 (Or.inl ne_a_arr_4)).other W12 (Or.inr (slot_ne (Or.inl (hw _ (own_g (i := 48) rfl))) (Or.inl (hw _ (own_g (i := 104) rfl))) (by decide) (t := .int) (t' := .int) (by decide) (by decide))))
  obtain ⟨fs_, hr_, hrun_, hended_, hW_, hsame_⟩ := X12.leave (v := none) (fun _ => rfl)
  refine ⟨_, _, pre0 _ (r12 _ ?_), hrun_, hended_, _, _, rfl, ?_, ⟨_, rfl⟩, hW_, hsame_.mono (by decide) (by decide)⟩
  · exact X12.returnOut hx Bd.returns (hb hby d23_22) hr_
  · show Q_add3G Z a el s_DE kd pm h0 n0 _ T12.heap _
    rw [e12]
    exact ⟨arr_4, ka_4, rfl, N12, K12, sz_arr_4, f13, F12, f14, p4_5, f15⟩

theorem ef_add3N (m : MethodId) (a : Addr) (el : Addr) (arr : Addr) (ps : Int32) : entryFrame m #[(.ref a), (.ref el), (.ref arr), (.int ps)] 4 = mkF m 0 #[.val (.ref a), .val (.ref el), .val (.ref arr), .val (.int ps)] [] := by first | (simp [entryFrame, mkF, argsToLocals, Value.category]; done) | rfl
def Q_add3N (Z : State) (a : Addr) (el : Addr) (arr : Addr) (ps : Int32) (ka : ClassId) (z : Int32) (vs : List Value) (pm : Int32) (h0 : Heap) (n0 : Nat) (v_ : Option Value) (h_ : Heap) (L_ : List Loc) : Prop := v_ = none ∧ Fr n0 L_ ∧ Keep h0 h_ [a, arr] ∧ (Fld Z h_ a "java/util/ArrayList" "elementData" "[Ljava/lang/Object;" (.ref arr)) ∧ (Fld Z h_ a "java/util/ArrayList" "size" "I" (.int (ps + (1 : Int32)))) ∧ (Arv Z h_ arr ka (.object "java/lang/Object") z (vs ++ [(.ref el)]) .null) ∧ (Fld Z h_ a "java/util/AbstractList" "modCount" "I" (.int pm))
set_option maxRecDepth 65536 in
set_option maxHeartbeats 40000000 in
theorem rm_add3N (l : Launch) (Z : State) (a0 : Array Value) (hw : ∀ d ∈ tables_1, d.before a0 Z = true) (ws : List Jvm.Cond) (a : Addr) (el : Addr) (arr : Addr) (ps : Int32) (ka : ClassId) (z : Int32) (vs : List Value) (pm : Int32) (h0 : Heap) (n0 : Nat) (O0 : Old Z n0 h0) (E_a : Exa Z h0 a "java/util/ArrayList") (g_a : n0 ≤ a) (F_a_elementData : Fld Z h0 a "java/util/ArrayList" "elementData" "[Ljava/lang/Object;" (.ref arr)) (F_a_size : Fld Z h0 a "java/util/ArrayList" "size" "I" (.int ps)) (F_a_modCount : Fld Z h0 a "java/util/AbstractList" "modCount" "I" (.int pm)) (V_arr : Arv Z h0 arr ka (.object "java/lang/Object") z vs .null) (g_arr : n0 ≤ arr) (Ov_ka : Ovr Z ka "java/lang/Object") (E_el : Exa Z h0 el "java/lang/String") (hl : ps.toInt = vs.length) (hlt : ps < z) :
    MetFree l (⟨"java/util/ArrayList", "add", "(Ljava/lang/Object;[Ljava/lang/Object;I)V"⟩ : MethodName) (head1 (Jvm.Cond.code (⟨"java/util/ArrayList", "add", "(Ljava/lang/Object;[Ljava/lang/Object;I)V"⟩ : MethodName) jdk_38_method_24_code 4 none :: ws) ({ frames := 0, cells := 0, slots := 0, locals := 0 } : Room)) (fun aa_ U_ => aa_ = #[(.ref a), (.ref el), (.ref arr), (.int ps)] ∧ Z.Warmed39 U_.vm ∧ U_.heap = h0) (fun _ _ _ _ _ => True) (fun _ U_ o_ U_' => ∃ v_ L_, o_ = .returned v_ ∧ Q_add3N Z a el arr ps ka z vs pm h0 n0 v_ U_'.heap L_ ∧ FrameEnd U_ o_ U_' L_ ({ frames := 0, cells := 0, slots := 0, locals := 0 } : Room).cells ({ frames := 0, cells := 0, slots := 0, locals := 0 } : Room).slots) := by
  refine MetFree.of_bodySF (plainFor_of_name pn_ArrayList) hisR ?_
  intro p e s m args below meth c s₁ Bd hml0 hP hK
  obtain ⟨rfl, hZ, hh⟩ := hP
  have hx := Bd.exec
  have hby := Bd.bytes
  have hml : c.maxLocals = 4 := hml0
  have hown : s.vm.findClass "java/util/ArrayList" = some m.cls := findClass_of_methodNamed Bd.named
  have hnm := (name_of_methodNamed Bd.named Bd.method).1
  have X0 : Stand p l e ({ frames := 0, cells := 0, slots := 0, locals := 0 } : Room) s m #[(.ref a), (.ref el), (.ref arr), (.int ps)] below meth c s₁ [] 0 0 := Stand.of_body Bd
  have e0 : s₁.heap = h0 := by rw [← hh, Bd.state]; rfl
  have N0 := Fr.nil n0
  have K0 : Keep h0 h0 [a, arr] := Keep.refl h0 _
  have pre0 : ∀ z_, Steps p.tables e below (s₁.setTop (mkF m 0 #[.val (.ref a), .val (.ref el), .val (.ref arr), .val (.int ps)] [])) z_ → Steps p.tables e below (s₁.setTop (entryFrame m #[(.ref a), (.ref el), (.ref arr), (.int ps)] 4)) z_ := fun z_ k_ => castTop (ef_add3N m a el arr ps) k_
  have r0 : own_R p e below s₁ (mkF m 0 #[.val (.ref a), .val (.ref el), .val (.ref arr), .val (.int ps)] []) s₁ (mkF m 0 #[.val (.ref a), .val (.ref el), .val (.ref arr), .val (.int ps)] []) := own_R.refl
  have ne_a_arr : a ≠ arr := (own_ne_arv E_a (hw _ (own_g (i := 29) rfl)) V_arr)
  have ne_a_el : a ≠ el := (ne_exa E_a E_el (by decide))
  have ne_arr_el : arr ≠ el := (Ne.symm (own_ne_arv E_el (hw _ (own_g (i := 12) rfl)) V_arr))
  have r2 : own_R p e below _ _ s₁ (mkF m 2 #[.val (.ref a), .val (.ref el), .val (.ref arr), .val (.int ps)] [(.ref arr), (.int ps)]) := r0.trans fun z_ kt => by
    refine XS.iloadN X0.here hx rfl (hb hby d23_0) rfl ?_
    refine XS.aloadN X0.here hx rfl (hb hby d23_1) rfl rfl ?_
    exact kt
  obtain ⟨cl1, Ar1, q1, S1, M1, H1, G1⟩ := id V_arr
  have Vp3 := V_arr.pad (pad_rep (vs : List Value) .null 1)
  obtain ⟨cl3, Ar3, q3, S3, M3, H3, G3⟩ := Vp3
  have hin3 : ¬ (ps < 0 ∨ cl3.slots.size ≤ (ps).toNatClampNeg) := inb_of S3 ⟨own_nneg hl, hlt⟩
  have r4 : own_R p e below _ _ s₁ (mkF m 14 #[.val (.ref a), .val (.ref el), .val (.ref arr), .val (.int ps)] [(.ref el), (.int ps), (.ref arr)]) := r2.trans fun z_ kt => by
    refine X0.arraylength hx (by rw [e0]; exact Ar1.1) (State.isArrayOf_alike hZ.alike Ar1.2.1) (g := (mkF m 2 #[.val (.ref a), .val (.ref el), .val (.ref arr), .val (.int ps)] [(.ref arr), (.int ps)])) rfl rfl (hb hby d23_2) _ ?_
    rw [len_of S1 M1]
    refine XS.icmpYes X0.here hx rfl (pc0 := 3) (pc' := 11) rfl (hb hby d23_3) rfl (feq (own_lt_ne hlt : ¬ (ps = z))).2 (by decide) (by decide) ?_
    refine XS.aloadN X0.here hx rfl (hb hby d23_11) rfl rfl ?_
    refine XS.iloadN X0.here hx rfl (hb hby d23_12) rfl ?_
    refine XS.aloadN X0.here hx rfl (hb hby d23_13) rfl rfl ?_
    exact kt
  obtain ⟨T5, h5, X5, e5, W5, st5⟩ := stR X0 hx hZ e0 Ar3 (j := ps) hin3 rfl (Sto.ofV Ar3 q3 Ov_ka (Ins.of_exa E_el (hw _ (own_g (i := 177) rfl)))) (g := (mkF m 14 #[.val (.ref a), .val (.ref el), .val (.ref arr), .val (.int ps)] [(.ref el), (.int ps), (.ref arr)])) rfl rfl (hb hby d23_14)
  have r5 : own_R p e below _ _ T5 (mkF m 15 #[.val (.ref a), .val (.ref el), .val (.ref arr), .val (.int ps)] []) := r4.trans fun z_ kt => st5 _ kt
  have N5 := Fr.snoc X5 N0 g_arr
  have O5 := O0.wr W5 g_arr
  have K5 := K0.wr W5 (Or.inl (List.mem_of_getElem? (i := 1) rfl))
  have V5 : Arv Z h5 arr ka (.object "java/lang/Object") z (vs ++ [(.ref el)]) .null := own_app (Arv.set Ar3 q3 S3 M3 H3 G3 rfl W5 (vs : List Value).length (own_clamp hl) (own_lt1 _ _))
  have f6 := (F_a_size.other W5 (Or.inl ne_a_arr))
  have f7 := (E_a.wr W5)
  have r8 : own_R p e below _ _ T5 (mkF m 19 #[.val (.ref a), .val (.ref el), .val (.ref arr), .val (.int ps)] [(.int (ps + (1 : Int32))), (.ref a)]) := r5.trans fun z_ kt => by
    refine XS.aloadN X5.here hx rfl (hb hby d23_15) rfl rfl ?_
    refine XS.iloadN X5.here hx rfl (hb hby d23_16) rfl ?_
    refine XS.iconst X5.here hx rfl (hb hby d23_17) ?_
    refine XS.iadd X5.here hx rfl (hb hby d23_18) rfl ?_
    exact kt
  obtain ⟨T9, h9, X9, e9, W9, st9⟩ := putF X5 hx hZ hown (host := "") (Or.inl (hw _ (own_g (i := 150) rfl))) Via.refl e5 f6 f7 (Or.inl (hw _ (own_g (i := 104) rfl))) (hw _ (own_g (i := 29) rfl)) (ty := .int) (v := (.int (ps + (1 : Int32)))) (by decide) rfl rfl (g := (mkF m 19 #[.val (.ref a), .val (.ref el), .val (.ref arr), .val (.int ps)] [(.int (ps + (1 : Int32))), (.ref a)])) rfl rfl (hb hby d23_19)
  have r9 : own_R p e below _ _ T9 (mkF m 22 #[.val (.ref a), .val (.ref el), .val (.ref arr), .val (.int ps)] []) := r8.trans fun z_ kt => st9 _ kt
  have N9 := Fr.snoc X9 N5 g_a
  have O9 := O5.wr W9 g_a
  have K9 := K5.wr W9 (Or.inl (List.mem_of_getElem? (i := 0) rfl))
  have F9 := f6.same W9
  have f10 := ((F_a_elementData.other W5 (Or.inl ne_a_arr)).other W9 (Or.inr (slot_ne (Or.inl (hw _ (own_g (i := 51) rfl))) (Or.inl (hw _ (own_g (i := 104) rfl))) (by decide) (t := (.array (.object "java/lang/Object"))) (t' := .int) (by decide) (by decide))))
  have f11 := (V5.other W9 (Ne.symm ne_a_arr))
  have f12 := ((F_a_modCount.other W5 (Or.inl ne_a_arr)).other W9 (Or.inr (slot_ne (Or.inl (hw _ (own_g (i := 48) rfl))) (Or.inl (hw _ (own_g (i := 104) rfl))) (by decide) (t := .int) (t' := .int) (by decide) (by decide))))
  obtain ⟨fs_, hr_, hrun_, hended_, hW_, hsame_⟩ := X9.leave (v := none) (fun _ => rfl)
  refine ⟨_, _, pre0 _ (r9 _ ?_), hrun_, hended_, _, _, rfl, ?_, ⟨_, rfl⟩, hW_, hsame_.mono (by decide) (by decide)⟩
  · exact X9.returnOut hx Bd.returns (hb hby d23_22) hr_
  · show Q_add3N Z a el arr ps ka z vs pm h0 n0 _ T9.heap _
    rw [e9]
    exact ⟨rfl, N9, K9, f10, F9, f11, f12⟩

theorem d22_0 : decode jdk_38_method_25_code 0 = .ok (.aload_n 0, 1) := by decide +kernel
theorem d22_1 : decode jdk_38_method_25_code 1 = .ok (.dup, 1) := by decide +kernel
theorem d22_2 : decode jdk_38_method_25_code 2 = .ok (.getfield 63, 3) := by decide +kernel
theorem d22_5 : decode jdk_38_method_25_code 5 = .ok (.iconst 1, 1) := by decide +kernel
theorem d22_6 : decode jdk_38_method_25_code 6 = .ok (.iadd, 1) := by decide +kernel
theorem d22_7 : decode jdk_38_method_25_code 7 = .ok (.putfield 63, 3) := by decide +kernel
theorem d22_10 : decode jdk_38_method_25_code 10 = .ok (.aload_n 0, 1) := by decide +kernel
theorem d22_11 : decode jdk_38_method_25_code 11 = .ok (.aload_n 1, 1) := by decide +kernel
theorem d22_12 : decode jdk_38_method_25_code 12 = .ok (.aload_n 0, 1) := by decide +kernel
theorem d22_13 : decode jdk_38_method_25_code 13 = .ok (.getfield 9, 3) := by decide +kernel
theorem d22_16 : decode jdk_38_method_25_code 16 = .ok (.aload_n 0, 1) := by decide +kernel
theorem d22_17 : decode jdk_38_method_25_code 17 = .ok (.getfield 48, 3) := by decide +kernel
theorem d22_20 : decode jdk_38_method_25_code 20 = .ok (.invokevirtual 131, 3) := by decide +kernel
theorem pd_7 : parseMethodDescriptor "(Ljava/lang/Object;[Ljava/lang/Object;I)V" = some ⟨[(.object "java/lang/Object"), (.array (.object "java/lang/Object")), .int], none⟩ := by decide +kernel
theorem d22_23 : decode jdk_38_method_25_code 23 = .ok (.iconst 1, 1) := by decide +kernel
theorem d22_24 : decode jdk_38_method_25_code 24 = .ok (.ireturn, 1) := by decide +kernel
theorem ef_addG (m : MethodId) (a : Addr) (el : Addr) : entryFrame m #[(.ref a), (.ref el)] 2 = mkF m 0 #[.val (.ref a), .val (.ref el)] [] := by first | (simp [entryFrame, mkF, argsToLocals, Value.category]; done) | rfl
def Q_addG (Z : State) (a : Addr) (el : Addr) (s_DE : Addr) (kd : ClassId) (pm : Int32) (h0 : Heap) (n0 : Nat) (v_ : Option Value) (h_ : Heap) (L_ : List Loc) : Prop := ∃ (arr : Addr) (ka : ClassId), v_ = some (.int (1 : Int32)) ∧ Fr n0 L_ ∧ Keep h0 h_ [a] ∧ (h0.size ≤ arr) ∧ (Fld Z h_ a "java/util/ArrayList" "elementData" "[Ljava/lang/Object;" (.ref arr)) ∧ (Fld Z h_ a "java/util/ArrayList" "size" "I" (.int (1 : Int32))) ∧ (Arv Z h_ arr ka (.object "java/lang/Object") (10 : Int32) [(.ref el)] .null) ∧ (Ovr Z ka "java/lang/Object") ∧ (Fld Z h_ a "java/util/AbstractList" "modCount" "I" (.int (pm + (1 : Int32))))
set_option maxRecDepth 65536 in
set_option maxHeartbeats 40000000 in
theorem rm_addG (l : Launch) (Z : State) (a0 : Array Value) (hw : ∀ d ∈ tables_1, d.before a0 Z = true) (ws : List Jvm.Cond) (a : Addr) (el : Addr) (s_DE : Addr) (kd : ClassId) (pm : Int32) (h0 : Heap) (n0 : Nat) (O0 : Old Z n0 h0) (E_a : Exa Z h0 a "java/util/ArrayList") (g_a : n0 ≤ a) (F_a_elementData : Fld Z h0 a "java/util/ArrayList" "elementData" "[Ljava/lang/Object;" (.ref s_DE)) (F_a_size : Fld Z h0 a "java/util/ArrayList" "size" "I" (.int (0 : Int32))) (F_a_modCount : Fld Z h0 a "java/util/AbstractList" "modCount" "I" (.int pm)) (S_ArrayList_DEFAULTCAPACITY_EMPTY_ELEMENTDATA : Sta Z Z.heap "java/util/ArrayList" "DEFAULTCAPACITY_EMPTY_ELEMENTDATA" "[Ljava/lang/Object;" (.ref s_DE)) (OV_s_DE : Arv Z Z.heap s_DE kd (.object "java/lang/Object") (0 : Int32) [] .null) (E_el : Exa Z h0 el "java/lang/String") :
    MetFree l (⟨"java/util/ArrayList", "add", "(Ljava/lang/Object;)Z"⟩ : MethodName) (head1 (Jvm.Cond.code (⟨"java/util/ArrayList", "add", "(Ljava/lang/Object;)Z"⟩ : MethodName) jdk_38_method_25_code 2 (some .boolean) :: ws) ({ frames := 4, cells := 1, slots := 10, locals := 56 } : Room)) (fun aa_ U_ => aa_ = #[(.ref a), (.ref el)] ∧ Z.Warmed39 U_.vm ∧ U_.heap = h0) (fun _ _ _ _ _ => True) (fun _ U_ o_ U_' => ∃ v_ L_, o_ = .returned v_ ∧ Q_addG Z a el s_DE kd pm h0 n0 v_ U_'.heap L_ ∧ FrameEnd U_ o_ U_' L_ ({ frames := 4, cells := 1, slots := 10, locals := 56 } : Room).cells ({ frames := 4, cells := 1, slots := 10, locals := 56 } : Room).slots) := by
  refine MetFree.of_bodySF (plainFor_of_name pn_ArrayList) hisR ?_
  intro p e s m args below meth c s₁ Bd hml0 hP hK
  obtain ⟨rfl, hZ, hh⟩ := hP
  have hx := Bd.exec
  have hby := Bd.bytes
  have hml : c.maxLocals = 2 := hml0
  have hown : s.vm.findClass "java/util/ArrayList" = some m.cls := findClass_of_methodNamed Bd.named
  have hnm := (name_of_methodNamed Bd.named Bd.method).1
  have X0 : Stand p l e ({ frames := 4, cells := 1, slots := 10, locals := 56 } : Room) s m #[(.ref a), (.ref el)] below meth c s₁ [] 0 0 := Stand.of_body Bd
  have e0 : s₁.heap = h0 := by rw [← hh, Bd.state]; rfl
  have N0 := Fr.nil n0
  have K0 : Keep h0 h0 [a] := Keep.refl h0 _
  have pre0 : ∀ z_, Steps p.tables e below (s₁.setTop (mkF m 0 #[.val (.ref a), .val (.ref el)] [])) z_ → Steps p.tables e below (s₁.setTop (entryFrame m #[(.ref a), (.ref el)] 2)) z_ := fun z_ k_ => castTop (ef_addG m a el) k_
  have r0 : own_R p e below s₁ (mkF m 0 #[.val (.ref a), .val (.ref el)] []) s₁ (mkF m 0 #[.val (.ref a), .val (.ref el)] []) := own_R.refl
  have ne_a_el : a ≠ el := (ne_exa E_a E_el (by decide))
  have r1 : own_R p e below _ _ s₁ (mkF m 2 #[.val (.ref a), .val (.ref el)] [(.ref a), (.ref a)]) := r0.trans fun z_ kt => by
    refine XS.aloadN X0.here hx rfl (hb hby d22_0) rfl rfl ?_
    refine XS.dup X0.here hx rfl (hb hby d22_1) rfl rfl ?_
    exact kt
  obtain ⟨T2, X2, e2, st2⟩ := getF X0 hx hZ hown (host := "") (Or.inl (hw _ (own_g (i := 156) rfl))) (Via.of (hw _ (own_g (i := 89) rfl))) e0 F_a_modCount (g := (mkF m 2 #[.val (.ref a), .val (.ref el)] [(.ref a), (.ref a)])) rfl rfl (hb hby d22_2)
  have r2 : own_R p e below _ _ T2 (mkF m 5 #[.val (.ref a), .val (.ref el)] [(.int pm), (.ref a)]) := r1.trans fun z_ kt => st2 _ kt
  have r3 : own_R p e below _ _ T2 (mkF m 7 #[.val (.ref a), .val (.ref el)] [(.int (pm + (1 : Int32))), (.ref a)]) := r2.trans fun z_ kt => by
    refine XS.iconst X2.here hx rfl (hb hby d22_5) ?_
    refine XS.iadd X2.here hx rfl (hb hby d22_6) rfl ?_
    exact kt
  obtain ⟨T4, h4, X4, e4, W4, st4⟩ := putF X2 hx hZ hown (host := "") (Or.inl (hw _ (own_g (i := 156) rfl))) (Via.of (hw _ (own_g (i := 89) rfl))) e2 F_a_modCount E_a (Or.inl (hw _ (own_g (i := 48) rfl))) (hw _ (own_g (i := 29) rfl)) (ty := .int) (v := (.int (pm + (1 : Int32)))) (by decide) rfl rfl (g := (mkF m 7 #[.val (.ref a), .val (.ref el)] [(.int (pm + (1 : Int32))), (.ref a)])) rfl rfl (hb hby d22_7)
  have r4 : own_R p e below _ _ T4 (mkF m 10 #[.val (.ref a), .val (.ref el)] []) := r3.trans fun z_ kt => st4 _ kt
  have N4 := Fr.snoc X4 N0 g_a
  have O4 := O0.wr W4 g_a
  have K4 := K0.wr W4 (Or.inl (List.mem_of_getElem? (i := 0) rfl))
  have F4 := F_a_modCount.same W4
  have f5 := (F_a_elementData.other W4 (Or.inr (slot_ne (Or.inl (hw _ (own_g (i := 51) rfl))) (Or.inl (hw _ (own_g (i := 48) rfl))) (by decide) (t := (.array (.object "java/lang/Object"))) (t' := .int) (by decide) (by decide))))
  have r6 : own_R p e below _ _ T4 (mkF m 13 #[.val (.ref a), .val (.ref el)] [(.ref a), (.ref el), (.ref a)]) := r4.trans fun z_ kt => by
    refine XS.aloadN X4.here hx rfl (hb hby d22_10) rfl rfl ?_
    refine XS.aloadN X4.here hx rfl (hb hby d22_11) rfl rfl ?_
    refine XS.aloadN X4.here hx rfl (hb hby d22_12) rfl rfl ?_
    exact kt
  obtain ⟨T7, X7, e7, st7⟩ := getF X4 hx hZ hown (host := "") (Or.inl (hw _ (own_g (i := 50) rfl))) Via.refl e4 f5 (g := (mkF m 13 #[.val (.ref a), .val (.ref el)] [(.ref a), (.ref el), (.ref a)])) rfl rfl (hb hby d22_13)
  have r7 : own_R p e below _ _ T7 (mkF m 16 #[.val (.ref a), .val (.ref el)] [(.ref s_DE), (.ref el), (.ref a)]) := r6.trans fun z_ kt => st7 _ kt
  have f8 := (F_a_size.other W4 (Or.inr (slot_ne (Or.inl (hw _ (own_g (i := 104) rfl))) (Or.inl (hw _ (own_g (i := 48) rfl))) (by decide) (t := .int) (t' := .int) (by decide) (by decide))))
  have r9 : own_R p e below _ _ T7 (mkF m 17 #[.val (.ref a), .val (.ref el)] [(.ref a), (.ref s_DE), (.ref el), (.ref a)]) := r7.trans fun z_ kt => by
    refine XS.aloadN X7.here hx rfl (hb hby d22_16) rfl rfl ?_
    exact kt
  obtain ⟨T10, X10, e10, st10⟩ := getF X7 hx hZ hown (host := "") (Or.inl (hw _ (own_g (i := 150) rfl))) Via.refl e7 f8 (g := (mkF m 17 #[.val (.ref a), .val (.ref el)] [(.ref a), (.ref s_DE), (.ref el), (.ref a)])) rfl rfl (hb hby d22_17)
  have r10 : own_R p e below _ _ T10 (mkF m 20 #[.val (.ref a), .val (.ref el)] [(.int (0 : Int32)), (.ref s_DE), (.ref el), (.ref a)]) := r9.trans fun z_ kt => st10 _ kt
  have f11 := (E_a.wr W4)
  have f12 := (E_el.wr W4)
  obtain ⟨cq13, q13, q13'⟩ := f11.cell
  obtain ⟨_, _, ⟨T13, L13, cc13, n13⟩, -, X13, ⟨Lc13, hQ13, l13, y13, z13⟩, st13⟩ := X10.privateBack hx (y := (⟨"java/util/ArrayList", "add", "(Ljava/lang/Object;[Ljava/lang/Object;I)V"⟩ : MethodName)) hown (mvT hZ (hw _ (own_g (i := 157) rfl))) (mvT hZ (hw _ (own_g (i := 158) rfl))) (mvT hZ (hw _ (own_g (i := 160) rfl))) (Cond.privateMethod_at (mvP hZ (hw _ (own_g (i := 159) rfl)) (args := #[]))) (mvT hZ (hw _ (own_g (i := 161) rfl))) (by decide) (backOf (W := 0) (rm_add3G l Z a0 hw [] (a) (el) (s_DE) (kd) ((pm + (1 : Int32))) h4 n0 O4 (f11) (g_a) (f5) (f8) (F4) (S_ArrayList_DEFAULTCAPACITY_EMPTY_ELEMENTDATA) (OV_s_DE) (f12)) hZ (hw _ (own_g (i := 161) rfl)) (hw _ (own_g (i := 30) rfl)) (by decide) (by decide)) (g := (mkF m 20 #[.val (.ref a), .val (.ref el)] [(.int (0 : Int32)), (.ref s_DE), (.ref el), (.ref a)])) rfl (by rw [hml]; rfl) (Steps.refl _) (a := a) (by rw [e10]; exact q13) q13' (argsL := [(.ref el), (.ref s_DE), (.int (0 : Int32))]) (rest := []) (lenOf pd_7 rfl) rfl (by show 2 * 0 + _ ≤ _; exact Nat.le_of_eq rfl) (hb hby d22_20) (fun _ _ => ⟨rfl, e10, (by decide : 0 + 1 ≤ _), (by decide : 0 + 10 ≤ _)⟩)
  dsimp only [Pt.U, Pt.locs, Pt.cells, Pt.slots] at X13 l13 y13 z13 st13 hQ13
  subst l13 y13 z13
  obtain ⟨h13, e13⟩ : ∃ z, T13.heap = z := ⟨_, rfl⟩
  rw [e13] at hQ13
  obtain ⟨arr_13, ka_13, rfl, Nq13, Kq13, p13_0, p13_1, p13_2, p13_3, p13_4, p13_5⟩ := hQ13
  have N13 := Fr.app N4 Nq13
  have r13 : own_R p e below _ _ T13 (mkF m 23 #[.val (.ref a), .val (.ref el)] []) := r10.trans fun z_ kt => st13.trans kt
  have ne_a_arr_13 : a ≠ arr_13 := Nat.ne_of_lt (Nat.lt_of_lt_of_le f11.lt p13_0)
  have ne_el_arr_13 : el ≠ arr_13 := Nat.ne_of_lt (Nat.lt_of_lt_of_le f12.lt p13_0)
  have g_arr_13 : n0 ≤ arr_13 := Nat.le_trans (own_old_size O4) p13_0
  have sz_arr_13 : h0.size ≤ arr_13 := Nat.le_trans K4.1 p13_0
  have O13 := O4.keep Kq13 (allS g_a all0)
  have K13 := K4.trans Kq13 (allS (Or.inl (List.mem_of_getElem? (i := 0) rfl)) all0)
  have r14 : own_R p e below _ _ T13 (mkF m 24 #[.val (.ref a), .val (.ref el)] [(.int (1 : Int32))]) := r13.trans fun z_ kt => by
    refine XS.iconst X13.here hx rfl (hb hby d22_23) ?_
    exact kt
  obtain ⟨fs_, hr_, hrun_, hended_, hW_, hsame_⟩ := X13.leave (v := some (.int (1 : Int32))) (fun h => by rw [Bd.returns] at h; cases h)
  refine ⟨_, _, pre0 _ (r14 _ ?_), hrun_, hended_, _, _, rfl, ?_, ⟨_, rfl⟩, hW_, hsame_.mono (by decide) (by decide)⟩
  · exact retN X13 hx (t := .boolean) Bd.returns (by simp) (hb hby d22_24) hr_
  · show Q_addG Z a el s_DE kd pm h0 n0 _ T13.heap _
    rw [e13]
    exact ⟨arr_13, ka_13, rfl, N13, K13, sz_arr_13, p13_1, p13_2, p13_3, p13_4, p13_5⟩

theorem ef_addN (m : MethodId) (a : Addr) (el : Addr) : entryFrame m #[(.ref a), (.ref el)] 2 = mkF m 0 #[.val (.ref a), .val (.ref el)] [] := by first | (simp [entryFrame, mkF, argsToLocals, Value.category]; done) | rfl
def Q_addN (Z : State) (a : Addr) (el : Addr) (arr : Addr) (ps : Int32) (ka : ClassId) (z : Int32) (vs : List Value) (pm : Int32) (h0 : Heap) (n0 : Nat) (v_ : Option Value) (h_ : Heap) (L_ : List Loc) : Prop := v_ = some (.int (1 : Int32)) ∧ Fr n0 L_ ∧ Keep h0 h_ [a, arr] ∧ (Fld Z h_ a "java/util/ArrayList" "elementData" "[Ljava/lang/Object;" (.ref arr)) ∧ (Fld Z h_ a "java/util/ArrayList" "size" "I" (.int (ps + (1 : Int32)))) ∧ (Arv Z h_ arr ka (.object "java/lang/Object") z (vs ++ [(.ref el)]) .null) ∧ (Fld Z h_ a "java/util/AbstractList" "modCount" "I" (.int (pm + (1 : Int32))))
set_option maxRecDepth 65536 in
set_option maxHeartbeats 40000000 in
theorem rm_addN (l : Launch) (Z : State) (a0 : Array Value) (hw : ∀ d ∈ tables_1, d.before a0 Z = true) (ws : List Jvm.Cond) (a : Addr) (el : Addr) (arr : Addr) (ps : Int32) (ka : ClassId) (z : Int32) (vs : List Value) (pm : Int32) (h0 : Heap) (n0 : Nat) (O0 : Old Z n0 h0) (E_a : Exa Z h0 a "java/util/ArrayList") (g_a : n0 ≤ a) (F_a_elementData : Fld Z h0 a "java/util/ArrayList" "elementData" "[Ljava/lang/Object;" (.ref arr)) (F_a_size : Fld Z h0 a "java/util/ArrayList" "size" "I" (.int ps)) (F_a_modCount : Fld Z h0 a "java/util/AbstractList" "modCount" "I" (.int pm)) (V_arr : Arv Z h0 arr ka (.object "java/lang/Object") z vs .null) (g_arr : n0 ≤ arr) (Ov_ka : Ovr Z ka "java/lang/Object") (E_el : Exa Z h0 el "java/lang/String") (hl : ps.toInt = vs.length) (hlt : ps < z) :
    MetFree l (⟨"java/util/ArrayList", "add", "(Ljava/lang/Object;)Z"⟩ : MethodName) (head1 (Jvm.Cond.code (⟨"java/util/ArrayList", "add", "(Ljava/lang/Object;)Z"⟩ : MethodName) jdk_38_method_25_code 2 (some .boolean) :: ws) ({ frames := 1, cells := 0, slots := 0, locals := 15 } : Room)) (fun aa_ U_ => aa_ = #[(.ref a), (.ref el)] ∧ Z.Warmed39 U_.vm ∧ U_.heap = h0) (fun _ _ _ _ _ => True) (fun _ U_ o_ U_' => ∃ v_ L_, o_ = .returned v_ ∧ Q_addN Z a el arr ps ka z vs pm h0 n0 v_ U_'.heap L_ ∧ FrameEnd U_ o_ U_' L_ ({ frames := 1, cells := 0, slots := 0, locals := 15 } : Room).cells ({ frames := 1, cells := 0, slots := 0, locals := 15 } : Room).slots) := by
  refine MetFree.of_bodySF (plainFor_of_name pn_ArrayList) hisR ?_
  intro p e s m args below meth c s₁ Bd hml0 hP hK
  obtain ⟨rfl, hZ, hh⟩ := hP
  have hx := Bd.exec
  have hby := Bd.bytes
  have hml : c.maxLocals = 2 := hml0
  have hown : s.vm.findClass "java/util/ArrayList" = some m.cls := findClass_of_methodNamed Bd.named
  have hnm := (name_of_methodNamed Bd.named Bd.method).1
  have X0 : Stand p l e ({ frames := 1, cells := 0, slots := 0, locals := 15 } : Room) s m #[(.ref a), (.ref el)] below meth c s₁ [] 0 0 := Stand.of_body Bd
  have e0 : s₁.heap = h0 := by rw [← hh, Bd.state]; rfl
  have N0 := Fr.nil n0
  have K0 : Keep h0 h0 [a, arr] := Keep.refl h0 _
  have pre0 : ∀ z_, Steps p.tables e below (s₁.setTop (mkF m 0 #[.val (.ref a), .val (.ref el)] [])) z_ → Steps p.tables e below (s₁.setTop (entryFrame m #[(.ref a), (.ref el)] 2)) z_ := fun z_ k_ => castTop (ef_addN m a el) k_
  have r0 : own_R p e below s₁ (mkF m 0 #[.val (.ref a), .val (.ref el)] []) s₁ (mkF m 0 #[.val (.ref a), .val (.ref el)] []) := own_R.refl
  have ne_a_arr : a ≠ arr := (own_ne_arv E_a (hw _ (own_g (i := 29) rfl)) V_arr)
  have ne_a_el : a ≠ el := (ne_exa E_a E_el (by decide))
  have ne_arr_el : arr ≠ el := (Ne.symm (own_ne_arv E_el (hw _ (own_g (i := 12) rfl)) V_arr))
  have r1 : own_R p e below _ _ s₁ (mkF m 2 #[.val (.ref a), .val (.ref el)] [(.ref a), (.ref a)]) := r0.trans fun z_ kt => by
    refine XS.aloadN X0.here hx rfl (hb hby d22_0) rfl rfl ?_
    refine XS.dup X0.here hx rfl (hb hby d22_1) rfl rfl ?_
    exact kt
  obtain ⟨T2, X2, e2, st2⟩ := getF X0 hx hZ hown (host := "") (Or.inl (hw _ (own_g (i := 156) rfl))) (Via.of (hw _ (own_g (i := 89) rfl))) e0 F_a_modCount (g := (mkF m 2 #[.val (.ref a), .val (.ref el)] [(.ref a), (.ref a)])) rfl rfl (hb hby d22_2)
  have r2 : own_R p e below _ _ T2 (mkF m 5 #[.val (.ref a), .val (.ref el)] [(.int pm), (.ref a)]) := r1.trans fun z_ kt => st2 _ kt
  have r3 : own_R p e below _ _ T2 (mkF m 7 #[.val (.ref a), .val (.ref el)] [(.int (pm + (1 : Int32))), (.ref a)]) := r2.trans fun z_ kt => by
    refine XS.iconst X2.here hx rfl (hb hby d22_5) ?_
    refine XS.iadd X2.here hx rfl (hb hby d22_6) rfl ?_
    exact kt
  obtain ⟨T4, h4, X4, e4, W4, st4⟩ := putF X2 hx hZ hown (host := "") (Or.inl (hw _ (own_g (i := 156) rfl))) (Via.of (hw _ (own_g (i := 89) rfl))) e2 F_a_modCount E_a (Or.inl (hw _ (own_g (i := 48) rfl))) (hw _ (own_g (i := 29) rfl)) (ty := .int) (v := (.int (pm + (1 : Int32)))) (by decide) rfl rfl (g := (mkF m 7 #[.val (.ref a), .val (.ref el)] [(.int (pm + (1 : Int32))), (.ref a)])) rfl rfl (hb hby d22_7)
  have r4 : own_R p e below _ _ T4 (mkF m 10 #[.val (.ref a), .val (.ref el)] []) := r3.trans fun z_ kt => st4 _ kt
  have N4 := Fr.snoc X4 N0 g_a
  have O4 := O0.wr W4 g_a
  have K4 := K0.wr W4 (Or.inl (List.mem_of_getElem? (i := 0) rfl))
  have F4 := F_a_modCount.same W4
  have f5 := (F_a_elementData.other W4 (Or.inr (slot_ne (Or.inl (hw _ (own_g (i := 51) rfl))) (Or.inl (hw _ (own_g (i := 48) rfl))) (by decide) (t := (.array (.object "java/lang/Object"))) (t' := .int) (by decide) (by decide))))
  have r6 : own_R p e below _ _ T4 (mkF m 13 #[.val (.ref a), .val (.ref el)] [(.ref a), (.ref el), (.ref a)]) := r4.trans fun z_ kt => by
    refine XS.aloadN X4.here hx rfl (hb hby d22_10) rfl rfl ?_
    refine XS.aloadN X4.here hx rfl (hb hby d22_11) rfl rfl ?_
    refine XS.aloadN X4.here hx rfl (hb hby d22_12) rfl rfl ?_
    exact kt
  obtain ⟨T7, X7, e7, st7⟩ := getF X4 hx hZ hown (host := "") (Or.inl (hw _ (own_g (i := 50) rfl))) Via.refl e4 f5 (g := (mkF m 13 #[.val (.ref a), .val (.ref el)] [(.ref a), (.ref el), (.ref a)])) rfl rfl (hb hby d22_13)
  have r7 : own_R p e below _ _ T7 (mkF m 16 #[.val (.ref a), .val (.ref el)] [(.ref arr), (.ref el), (.ref a)]) := r6.trans fun z_ kt => st7 _ kt
  have f8 := (F_a_size.other W4 (Or.inr (slot_ne (Or.inl (hw _ (own_g (i := 104) rfl))) (Or.inl (hw _ (own_g (i := 48) rfl))) (by decide) (t := .int) (t' := .int) (by decide) (by decide))))
  have r9 : own_R p e below _ _ T7 (mkF m 17 #[.val (.ref a), .val (.ref el)] [(.ref a), (.ref arr), (.ref el), (.ref a)]) := r7.trans fun z_ kt => by
    refine XS.aloadN X7.here hx rfl (hb hby d22_16) rfl rfl ?_
    exact kt
  obtain ⟨T10, X10, e10, st10⟩ := getF X7 hx hZ hown (host := "") (Or.inl (hw _ (own_g (i := 150) rfl))) Via.refl e7 f8 (g := (mkF m 17 #[.val (.ref a), .val (.ref el)] [(.ref a), (.ref arr), (.ref el), (.ref a)])) rfl rfl (hb hby d22_17)
  have r10 : own_R p e below _ _ T10 (mkF m 20 #[.val (.ref a), .val (.ref el)] [(.int ps), (.ref arr), (.ref el), (.ref a)]) := r9.trans fun z_ kt => st10 _ kt
  have f11 := (E_a.wr W4)
  have f12 := (V_arr.other W4 (Ne.symm ne_a_arr))
  have f13 := (E_el.wr W4)
  obtain ⟨cq14, q14, q14'⟩ := f11.cell
  obtain ⟨_, _, ⟨T14, L14, cc14, n14⟩, -, X14, ⟨Lc14, hQ14, l14, y14, z14⟩, st14⟩ := X10.privateBack hx (y := (⟨"java/util/ArrayList", "add", "(Ljava/lang/Object;[Ljava/lang/Object;I)V"⟩ : MethodName)) hown (mvT hZ (hw _ (own_g (i := 157) rfl))) (mvT hZ (hw _ (own_g (i := 158) rfl))) (mvT hZ (hw _ (own_g (i := 160) rfl))) (Cond.privateMethod_at (mvP hZ (hw _ (own_g (i := 159) rfl)) (args := #[]))) (mvT hZ (hw _ (own_g (i := 161) rfl))) (by decide) (backOf (W := 0) (rm_add3N l Z a0 hw [] (a) (el) (arr) (ps) (ka) (z) (vs) ((pm + (1 : Int32))) h4 n0 O4 (f11) (g_a) (f5) (f8) (F4) (f12) (g_arr) (Ov_ka) (f13) (hl) (hlt)) hZ (hw _ (own_g (i := 161) rfl)) (hw _ (own_g (i := 30) rfl)) (by decide) (by decide)) (g := (mkF m 20 #[.val (.ref a), .val (.ref el)] [(.int ps), (.ref arr), (.ref el), (.ref a)])) rfl (by rw [hml]; rfl) (Steps.refl _) (a := a) (by rw [e10]; exact q14) q14' (argsL := [(.ref el), (.ref arr), (.int ps)]) (rest := []) (lenOf pd_7 rfl) rfl (by show 2 * 0 + _ ≤ _; exact Nat.le_of_eq rfl) (hb hby d22_20) (fun _ _ => ⟨rfl, e10, (by decide : 0 + 0 ≤ _), (by decide : 0 + 0 ≤ _)⟩)
  dsimp only [Pt.U, Pt.locs, Pt.cells, Pt.slots] at X14 l14 y14 z14 st14 hQ14
  subst l14 y14 z14
  obtain ⟨h14, e14⟩ : ∃ z, T14.heap = z := ⟨_, rfl⟩
  rw [e14] at hQ14
  obtain ⟨rfl, Nq14, Kq14, p14_0, p14_1, p14_2, p14_3⟩ := hQ14
  have N14 := Fr.app N4 Nq14
  have r14 : own_R p e below _ _ T14 (mkF m 23 #[.val (.ref a), .val (.ref el)] []) := r10.trans fun z_ kt => st14.trans kt
  have O14 := O4.keep Kq14 (allS g_a (allS g_arr all0))
  have K14 := K4.trans Kq14 (allS (Or.inl (List.mem_of_getElem? (i := 0) rfl)) (allS (Or.inl (List.mem_of_getElem? (i := 1) rfl)) all0))
  have r15 : own_R p e below _ _ T14 (mkF m 24 #[.val (.ref a), .val (.ref el)] [(.int (1 : Int32))]) := r14.trans fun z_ kt => by
    refine XS.iconst X14.here hx rfl (hb hby d22_23) ?_
    exact kt
  obtain ⟨fs_, hr_, hrun_, hended_, hW_, hsame_⟩ := X14.leave (v := some (.int (1 : Int32))) (fun h => by rw [Bd.returns] at h; cases h)
  refine ⟨_, _, pre0 _ (r15 _ ?_), hrun_, hended_, _, _, rfl, ?_, ⟨_, rfl⟩, hW_, hsame_.mono (by decide) (by decide)⟩
  · exact retN X14 hx (t := .boolean) Bd.returns (by simp) (hb hby d22_24) hr_
  · show Q_addN Z a el arr ps ka z vs pm h0 n0 _ T14.heap _
    rw [e14]
    exact ⟨rfl, N14, K14, p14_0, p14_1, p14_2, p14_3⟩

theorem d12_0 : decode jdk_49_method_1_code 0 = .ok (.aload_n 0, 1) := by decide +kernel
theorem d12_1 : decode jdk_49_method_1_code 1 = .ok (.aload_n 1, 1) := by decide +kernel
theorem d12_2 : decode jdk_49_method_1_code 2 = .ok (.putfield 1, 3) := by decide +kernel
theorem d12_5 : decode jdk_49_method_1_code 5 = .ok (.aload_n 0, 1) := by decide +kernel
theorem d12_6 : decode jdk_49_method_1_code 6 = .ok (.invokespecial 7, 3) := by decide +kernel
theorem d12_9 : decode jdk_49_method_1_code 9 = .ok (.aload_n 0, 1) := by decide +kernel
theorem d12_10 : decode jdk_49_method_1_code 10 = .ok (.iconst (-1), 1) := by decide +kernel
theorem d12_11 : decode jdk_49_method_1_code 11 = .ok (.putfield 13, 3) := by decide +kernel
theorem d12_14 : decode jdk_49_method_1_code 14 = .ok (.aload_n 0, 1) := by decide +kernel
theorem d12_15 : decode jdk_49_method_1_code 15 = .ok (.aload_n 0, 1) := by decide +kernel
theorem d12_16 : decode jdk_49_method_1_code 16 = .ok (.getfield 1, 3) := by decide +kernel
theorem d12_19 : decode jdk_49_method_1_code 19 = .ok (.getfield 17, 3) := by decide +kernel
theorem d12_22 : decode jdk_49_method_1_code 22 = .ok (.putfield 22, 3) := by decide +kernel
theorem d12_25 : decode jdk_49_method_1_code 25 = .ok (.return_, 1) := by decide +kernel
theorem pn_ArrayList_Itr : plainName "java/util/ArrayList$Itr" = true := by first | (simp [plainName, overriddenIn]; done) | decide +kernel
theorem ef_itInit (m : MethodId) (a : Addr) (l_ : Addr) : entryFrame m #[(.ref a), (.ref l_)] 2 = mkF m 0 #[.val (.ref a), .val (.ref l_)] [] := by first | (simp [entryFrame, mkF, argsToLocals, Value.category]; done) | rfl
def Q_itInit (Z : State) (a : Addr) (l_ : Addr) (u1 : Value) (u2 : Value) (u3 : Value) (pm : Int32) (h0 : Heap) (n0 : Nat) (v_ : Option Value) (h_ : Heap) (L_ : List Loc) : Prop := v_ = none ∧ Fr n0 L_ ∧ Keep h0 h_ [a] ∧ (Fld Z h_ a "java/util/ArrayList$Itr" "this$0" "Ljava/util/ArrayList;" (.ref l_)) ∧ (Fld Z h_ a "java/util/ArrayList$Itr" "expectedModCount" "I" (.int pm)) ∧ (Fld Z h_ a "java/util/ArrayList$Itr" "cursor" "I" (.int (0 : Int32))) ∧ (Fld Z h_ a "java/util/ArrayList$Itr" "lastRet" "I" (.int (-1 : Int32)))
set_option maxRecDepth 65536 in
set_option maxHeartbeats 40000000 in
theorem rm_itInit (l : Launch) (Z : State) (a0 : Array Value) (hw : ∀ d ∈ tables_1, d.before a0 Z = true) (ws : List Jvm.Cond) (a : Addr) (l_ : Addr) (u1 : Value) (u2 : Value) (u3 : Value) (pm : Int32) (h0 : Heap) (n0 : Nat) (O0 : Old Z n0 h0) (E_a : Exa Z h0 a "java/util/ArrayList$Itr") (g_a : n0 ≤ a) (F_a_this_0 : Fld Z h0 a "java/util/ArrayList$Itr" "this$0" "Ljava/util/ArrayList;" u1) (F_a_lastRet : Fld Z h0 a "java/util/ArrayList$Itr" "lastRet" "I" u2) (F_a_expectedModCount : Fld Z h0 a "java/util/ArrayList$Itr" "expectedModCount" "I" u3) (F_a_cursor : Fld Z h0 a "java/util/ArrayList$Itr" "cursor" "I" (.int (0 : Int32))) (F_l__modCount : Fld Z h0 l_ "java/util/AbstractList" "modCount" "I" (.int pm)) (E_l_ : Exa Z h0 l_ "java/util/ArrayList") :
    MetFree l (⟨"java/util/ArrayList$Itr", "<init>", "(Ljava/util/ArrayList;)V"⟩ : MethodName) (head1 (Jvm.Cond.code (⟨"java/util/ArrayList$Itr", "<init>", "(Ljava/util/ArrayList;)V"⟩ : MethodName) jdk_49_method_1_code 2 none :: ws) ({ frames := 1, cells := 0, slots := 0, locals := 12 } : Room)) (fun aa_ U_ => aa_ = #[(.ref a), (.ref l_)] ∧ Z.Warmed39 U_.vm ∧ U_.heap = h0) (fun _ _ _ _ _ => True) (fun _ U_ o_ U_' => ∃ v_ L_, o_ = .returned v_ ∧ Q_itInit Z a l_ u1 u2 u3 pm h0 n0 v_ U_'.heap L_ ∧ FrameEnd U_ o_ U_' L_ ({ frames := 1, cells := 0, slots := 0, locals := 12 } : Room).cells ({ frames := 1, cells := 0, slots := 0, locals := 12 } : Room).slots) := by
  refine MetFree.of_bodySF (plainFor_of_name pn_ArrayList_Itr) hisR ?_
  intro p e s m args below meth c s₁ Bd hml0 hP hK
  obtain ⟨rfl, hZ, hh⟩ := hP
  have hx := Bd.exec
  have hby := Bd.bytes
  have hml : c.maxLocals = 2 := hml0
  have hown : s.vm.findClass "java/util/ArrayList$Itr" = some m.cls := findClass_of_methodNamed Bd.named
  have hnm := (name_of_methodNamed Bd.named Bd.method).1
  have X0 : Stand p l e ({ frames := 1, cells := 0, slots := 0, locals := 12 } : Room) s m #[(.ref a), (.ref l_)] below meth c s₁ [] 0 0 := Stand.of_body Bd
  have e0 : s₁.heap = h0 := by rw [← hh, Bd.state]; rfl
  have N0 := Fr.nil n0
  have K0 : Keep h0 h0 [a] := Keep.refl h0 _
  have pre0 : ∀ z_, Steps p.tables e below (s₁.setTop (mkF m 0 #[.val (.ref a), .val (.ref l_)] [])) z_ → Steps p.tables e below (s₁.setTop (entryFrame m #[(.ref a), (.ref l_)] 2)) z_ := fun z_ k_ => castTop (ef_itInit m a l_) k_
  have r0 : own_R p e below s₁ (mkF m 0 #[.val (.ref a), .val (.ref l_)] []) s₁ (mkF m 0 #[.val (.ref a), .val (.ref l_)] []) := own_R.refl
  have ne_a_l_ : a ≠ l_ := (ne_exa E_a E_l_ (by decide))
  have r1 : own_R p e below _ _ s₁ (mkF m 2 #[.val (.ref a), .val (.ref l_)] [(.ref l_), (.ref a)]) := r0.trans fun z_ kt => by
    refine XS.aloadN X0.here hx rfl (hb hby d12_0) rfl rfl ?_
    refine XS.aloadN X0.here hx rfl (hb hby d12_1) rfl rfl ?_
    exact kt
  obtain ⟨T2, h2, X2, e2, W2, st2⟩ := putF X0 hx hZ hown (host := "") (Or.inl (hw _ (own_g (i := 83) rfl))) Via.refl e0 F_a_this_0 E_a (Or.inr ⟨(hw _ (own_g (i := 84) rfl)), rfl, hnm⟩) (hw _ (own_g (i := 77) rfl)) (ty := (.object "java/util/ArrayList")) (v := (.ref l_)) (by decide) rfl rfl (g := (mkF m 2 #[.val (.ref a), .val (.ref l_)] [(.ref l_), (.ref a)])) rfl rfl (hb hby d12_2)
  have r2 : own_R p e below _ _ T2 (mkF m 5 #[.val (.ref a), .val (.ref l_)] []) := r1.trans fun z_ kt => st2 _ kt
  have N2 := Fr.snoc X2 N0 g_a
  have O2 := O0.wr W2 g_a
  have K2 := K0.wr W2 (Or.inl (List.mem_of_getElem? (i := 0) rfl))
  have F2 := F_a_this_0.same W2
  have r3 : own_R p e below _ _ T2 (mkF m 6 #[.val (.ref a), .val (.ref l_)] [(.ref a)]) := r2.trans fun z_ kt => by
    refine XS.aloadN X2.here hx rfl (hb hby d12_5) rfl rfl ?_
    exact kt
  obtain ⟨T4, X4, e4, st4⟩ := initO X2 hx hZ hown (hw _ (own_g (i := 85) rfl)) (hw _ (own_g (i := 22) rfl)) (hw _ (own_g (i := 23) rfl)) e2 (g := (mkF m 6 #[.val (.ref a), .val (.ref l_)] [(.ref a)])) rfl (by rw [hml]; rfl) rfl (hb hby d12_6) (by decide) (W := 0) (by show 2 * 0 + _ ≤ _; exact Nat.le_of_eq rfl) (by decide)
  have r4 : own_R p e below _ _ T4 (mkF m 9 #[.val (.ref a), .val (.ref l_)] []) := r3.trans fun z_ kt => st4 _ kt
  have f5 := (F_a_lastRet.other W2 (Or.inr (slot_ne (Or.inl (hw _ (own_g (i := 87) rfl))) (Or.inr (hw _ (own_g (i := 84) rfl))) (by decide) (t := .int) (t' := (.object "java/util/ArrayList")) (by decide) (by decide))))
  have f6 := (E_a.wr W2)
  have r7 : own_R p e below _ _ T4 (mkF m 11 #[.val (.ref a), .val (.ref l_)] [(.int (-1 : Int32)), (.ref a)]) := r4.trans fun z_ kt => by
    refine XS.aloadN X4.here hx rfl (hb hby d12_9) rfl rfl ?_
    refine XS.iconst X4.here hx rfl (hb hby d12_10) ?_
    exact kt
  obtain ⟨T8, h8, X8, e8, W8, st8⟩ := putF X4 hx hZ hown (host := "") (Or.inl (hw _ (own_g (i := 86) rfl))) Via.refl e4 f5 f6 (Or.inl (hw _ (own_g (i := 87) rfl))) (hw _ (own_g (i := 77) rfl)) (ty := .int) (v := (.int (-1 : Int32))) (by decide) rfl rfl (g := (mkF m 11 #[.val (.ref a), .val (.ref l_)] [(.int (-1 : Int32)), (.ref a)])) rfl rfl (hb hby d12_11)
  have r8 : own_R p e below _ _ T8 (mkF m 14 #[.val (.ref a), .val (.ref l_)] []) := r7.trans fun z_ kt => st8 _ kt
  have N8 := Fr.snoc X8 N2 g_a
  have O8 := O2.wr W8 g_a
  have K8 := K2.wr W8 (Or.inl (List.mem_of_getElem? (i := 0) rfl))
  have F8 := f5.same W8
  have f9 := (F2.other W8 (Or.inr (slot_ne (Or.inr (hw _ (own_g (i := 84) rfl))) (Or.inl (hw _ (own_g (i := 87) rfl))) (by decide) (t := (.object "java/util/ArrayList")) (t' := .int) (by decide) (by decide))))
  have r10 : own_R p e below _ _ T8 (mkF m 16 #[.val (.ref a), .val (.ref l_)] [(.ref a), (.ref a)]) := r8.trans fun z_ kt => by
    refine XS.aloadN X8.here hx rfl (hb hby d12_14) rfl rfl ?_
    refine XS.aloadN X8.here hx rfl (hb hby d12_15) rfl rfl ?_
    exact kt
  obtain ⟨T11, X11, e11, st11⟩ := getF X8 hx hZ hown (host := "") (Or.inl (hw _ (own_g (i := 83) rfl))) Via.refl e8 f9 (g := (mkF m 16 #[.val (.ref a), .val (.ref l_)] [(.ref a), (.ref a)])) rfl rfl (hb hby d12_16)
  have r11 : own_R p e below _ _ T11 (mkF m 19 #[.val (.ref a), .val (.ref l_)] [(.ref l_), (.ref a)]) := r10.trans fun z_ kt => st11 _ kt
  have f12 := ((F_l__modCount.other W2 (Or.inl (Ne.symm ne_a_l_))).other W8 (Or.inl (Ne.symm ne_a_l_)))
  obtain ⟨T13, X13, e13, st13⟩ := getF X11 hx hZ hown (host := "") (Or.inl (hw _ (own_g (i := 88) rfl))) (Via.of (hw _ (own_g (i := 89) rfl))) e11 f12 (g := (mkF m 19 #[.val (.ref a), .val (.ref l_)] [(.ref l_), (.ref a)])) rfl rfl (hb hby d12_19)
  have r13 : own_R p e below _ _ T13 (mkF m 22 #[.val (.ref a), .val (.ref l_)] [(.int pm), (.ref a)]) := r11.trans fun z_ kt => st13 _ kt
  have f14 := ((F_a_expectedModCount.other W2 (Or.inr (slot_ne (Or.inl (hw _ (own_g (i := 91) rfl))) (Or.inr (hw _ (own_g (i := 84) rfl))) (by decide) (t := .int) (t' := (.object "java/util/ArrayList")) (by decide) (by decide)))).other W8 (Or.inr (slot_ne (Or.inl (hw _ (own_g (i := 91) rfl))) (Or.inl (hw _ (own_g (i := 87) rfl))) (by decide) (t := .int) (t' := .int) (by decide) (by decide))))
  have f15 := (f6.wr W8)
  obtain ⟨T16, h16, X16, e16, W16, st16⟩ := putF X13 hx hZ hown (host := "") (Or.inl (hw _ (own_g (i := 90) rfl))) Via.refl e13 f14 f15 (Or.inl (hw _ (own_g (i := 91) rfl))) (hw _ (own_g (i := 77) rfl)) (ty := .int) (v := (.int pm)) (by decide) rfl rfl (g := (mkF m 22 #[.val (.ref a), .val (.ref l_)] [(.int pm), (.ref a)])) rfl rfl (hb hby d12_22)
  have r16 : own_R p e below _ _ T16 (mkF m 25 #[.val (.ref a), .val (.ref l_)] []) := r13.trans fun z_ kt => st16 _ kt
  have N16 := Fr.snoc X16 N8 g_a
  have O16 := O8.wr W16 g_a
  have K16 := K8.wr W16 (Or.inl (List.mem_of_getElem? (i := 0) rfl))
  have F16 := f14.same W16
  have f17 := (f9.other W16 (Or.inr (slot_ne (Or.inr (hw _ (own_g (i := 84) rfl))) (Or.inl (hw _ (own_g (i := 91) rfl))) (by decide) (t := (.object "java/util/ArrayList")) (t' := .int) (by decide) (by decide))))
  have f18 := (((F_a_cursor.other W2 (Or.inr (slot_ne (Or.inl (hw _ (own_g (i := 102) rfl))) (Or.inr (hw _ (own_g (i := 84) rfl))) (by decide) (t := .int) (t' := (.object "java/util/ArrayList")) (by decide) (by decide)))).other W8 (Or.inr (slot_ne (Or.inl (hw _ (own_g (i := 102) rfl))) (Or.inl (hw _ (own_g (i := 87) rfl))) (by decide) (t := .int) (t' := .int) (by decide) (by decide)))).other W16 (Or.inr (slot_ne (Or.inl (hw _ (own_g (i := 102) rfl))) (Or.inl (hw _ (own_g (i := 91) rfl))) (by decide) (t := .int) (t' := .int) (by decide) (by decide))))
  have f19 := (F8.other W16 (Or.inr (slot_ne (Or.inl (hw _ (own_g (i := 87) rfl))) (Or.inl (hw _ (own_g (i := 91) rfl))) (by decide) (t := .int) (t' := .int) (by decide) (by decide))))
  obtain ⟨fs_, hr_, hrun_, hended_, hW_, hsame_⟩ := X16.leave (v := none) (fun _ => rfl)
  refine ⟨_, _, pre0 _ (r16 _ ?_), hrun_, hended_, _, _, rfl, ?_, ⟨_, rfl⟩, hW_, hsame_.mono (by decide) (by decide)⟩
  · exact X16.returnOut hx Bd.returns (hb hby d12_25) hr_
  · show Q_itInit Z a l_ u1 u2 u3 pm h0 n0 _ T16.heap _
    rw [e16]
    exact ⟨rfl, N16, K16, f17, F16, f18, f19⟩

theorem d11_0 : decode jdk_38_method_55_code 0 = .ok (.new 267, 3) := by decide +kernel
theorem d11_3 : decode jdk_38_method_55_code 3 = .ok (.dup, 1) := by decide +kernel
theorem d11_4 : decode jdk_38_method_55_code 4 = .ok (.aload_n 0, 1) := by decide +kernel
theorem d11_5 : decode jdk_38_method_55_code 5 = .ok (.invokespecial 269, 3) := by decide +kernel
theorem pd_8 : parseMethodDescriptor "(Ljava/util/ArrayList;)V" = some ⟨[(.object "java/util/ArrayList")], none⟩ := by decide +kernel
theorem d11_8 : decode jdk_38_method_55_code 8 = .ok (.areturn, 1) := by decide +kernel
theorem ef_iter (m : MethodId) (l_ : Addr) : entryFrame m #[(.ref l_)] 1 = mkF m 0 #[.val (.ref l_)] [] := by first | (simp [entryFrame, mkF, argsToLocals, Value.category]; done) | rfl
def Q_iter (Z : State) (l_ : Addr) (pm : Int32) (h0 : Heap) (n0 : Nat) (v_ : Option Value) (h_ : Heap) (L_ : List Loc) : Prop := ∃ (b : Addr), v_ = some (.ref b) ∧ Fr n0 L_ ∧ Keep h0 h_ [] ∧ (h0.size ≤ b) ∧ (Exa Z h_ b "java/util/ArrayList$Itr") ∧ (Fld Z h_ b "java/util/ArrayList$Itr" "this$0" "Ljava/util/ArrayList;" (.ref l_)) ∧ (Fld Z h_ b "java/util/ArrayList$Itr" "expectedModCount" "I" (.int pm)) ∧ (Fld Z h_ b "java/util/ArrayList$Itr" "cursor" "I" (.int (0 : Int32))) ∧ (Fld Z h_ b "java/util/ArrayList$Itr" "lastRet" "I" (.int (-1 : Int32)))
set_option maxRecDepth 65536 in
set_option maxHeartbeats 40000000 in
theorem rm_iter (l : Launch) (Z : State) (a0 : Array Value) (hw : ∀ d ∈ tables_1, d.before a0 Z = true) (ws : List Jvm.Cond) (l_ : Addr) (pm : Int32) (h0 : Heap) (n0 : Nat) (O0 : Old Z n0 h0) (E_l_ : Exa Z h0 l_ "java/util/ArrayList") (F_l__modCount : Fld Z h0 l_ "java/util/AbstractList" "modCount" "I" (.int pm)) :
    MetFree l (⟨"java/util/ArrayList", "iterator", "()Ljava/util/Iterator;"⟩ : MethodName) (head1 (Jvm.Cond.code (⟨"java/util/ArrayList", "iterator", "()Ljava/util/Iterator;"⟩ : MethodName) jdk_38_method_55_code 1 (some (.object "java/util/Iterator")) :: ws) ({ frames := 2, cells := 1, slots := 4, locals := 26 } : Room)) (fun aa_ U_ => aa_ = #[(.ref l_)] ∧ Z.Warmed39 U_.vm ∧ U_.heap = h0) (fun _ _ _ _ _ => True) (fun _ U_ o_ U_' => ∃ v_ L_, o_ = .returned v_ ∧ Q_iter Z l_ pm h0 n0 v_ U_'.heap L_ ∧ FrameEnd U_ o_ U_' L_ ({ frames := 2, cells := 1, slots := 4, locals := 26 } : Room).cells ({ frames := 2, cells := 1, slots := 4, locals := 26 } : Room).slots) := by
  refine MetFree.of_bodySF (plainFor_of_name pn_ArrayList) hisR ?_
  intro p e s m args below meth c s₁ Bd hml0 hP hK
  obtain ⟨rfl, hZ, hh⟩ := hP
  have hx := Bd.exec
  have hby := Bd.bytes
  have hml : c.maxLocals = 1 := hml0
  have hown : s.vm.findClass "java/util/ArrayList" = some m.cls := findClass_of_methodNamed Bd.named
  have hnm := (name_of_methodNamed Bd.named Bd.method).1
  have X0 : Stand p l e ({ frames := 2, cells := 1, slots := 4, locals := 26 } : Room) s m #[(.ref l_)] below meth c s₁ [] 0 0 := Stand.of_body Bd
  have e0 : s₁.heap = h0 := by rw [← hh, Bd.state]; rfl
  have N0 := Fr.nil n0
  have K0 : Keep h0 h0 [] := Keep.refl h0 _
  have pre0 : ∀ z_, Steps p.tables e below (s₁.setTop (mkF m 0 #[.val (.ref l_)] [])) z_ → Steps p.tables e below (s₁.setTop (entryFrame m #[(.ref l_)] 1)) z_ := fun z_ k_ => castTop (ef_iter m l_) k_
  have r0 : own_R p e below s₁ (mkF m 0 #[.val (.ref l_)] []) s₁ (mkF m 0 #[.val (.ref l_)] []) := own_R.refl
  obtain ⟨T1, h1, X1, e1, E1, A1, D1, -, st1⟩ := newO X0 hx hZ hown (hw _ (own_g (i := 76) rfl)) (hw _ (own_g (i := 77) rfl)) (hw _ (own_g (i := 78) rfl)) e0 (g := (mkF m 0 #[.val (.ref l_)] [])) rfl (hb hby d11_0) (by decide) (by decide)
  obtain ⟨b1, g1⟩ : ∃ z, z = h0.size := ⟨_, rfl⟩
  rw [← g1] at A1 D1 st1
  have r1 : own_R p e below _ _ T1 (mkF m 3 #[.val (.ref l_)] [(.ref b1)]) := r0.trans fun z_ kt => st1 _ kt
  have ne_l__b1 : l_ ≠ b1 := Nat.ne_of_lt (Nat.lt_of_lt_of_le E_l_.lt (Nat.le_of_eq g1.symm))
  have g_b1 : n0 ≤ b1 := Nat.le_trans (own_old_size O0) (Nat.le_of_eq g1.symm)
  have sz_b1 : h0.size ≤ b1 := Nat.le_trans K0.1 (Nat.le_of_eq g1.symm)
  have O1 := O0.ext E1
  have K1 := K0.ext E1
  have F1_84 := D1 (Or.inr (hw _ (own_g (i := 84) rfl))) (ty := (.object "java/util/ArrayList")) (by decide)
  have F1_87 := D1 (Or.inl (hw _ (own_g (i := 87) rfl))) (ty := .int) (by decide)
  have F1_91 := D1 (Or.inl (hw _ (own_g (i := 91) rfl))) (ty := .int) (by decide)
  have F1_102 := D1 (Or.inl (hw _ (own_g (i := 102) rfl))) (ty := .int) (by decide)
  have r2 : own_R p e below _ _ T1 (mkF m 5 #[.val (.ref l_)] [(.ref l_), (.ref b1), (.ref b1)]) := r1.trans fun z_ kt => by
    refine XS.dup X1.here hx rfl (hb hby d11_3) rfl rfl ?_
    refine XS.aloadN X1.here hx rfl (hb hby d11_4) rfl rfl ?_
    exact kt
  have f3 := (F_l__modCount.ext E1)
  have f4 := (E_l_.ext E1)
  obtain ⟨_, _, ⟨T5, L5, cc5, n5⟩, -, X5, ⟨Lc5, hQ5, l5, y5, z5⟩, st5⟩ := X1.specialBack hx (y := (⟨"java/util/ArrayList$Itr", "<init>", "(Ljava/util/ArrayList;)V"⟩ : MethodName)) rfl hown (mvT hZ (hw _ (own_g (i := 79) rfl))) (mvT hZ (hw _ (own_g (i := 80) rfl))) (mvT hZ (hw _ (own_g (i := 82) rfl))) (by decide) (backOf (W := 1) (rm_itInit l Z a0 hw [] (b1) (l_) (.null) ((.int (0 : Int32))) ((.int (0 : Int32))) (pm) h1 n0 O1 (A1) (g_b1) (F1_84) (F1_87) (F1_91) (F1_102) (f3) (f4)) hZ (hw _ (own_g (i := 82) rfl)) (hw _ (own_g (i := 78) rfl)) (by decide) (by decide)) (g := (mkF m 5 #[.val (.ref l_)] [(.ref l_), (.ref b1), (.ref b1)])) rfl (by rw [hml]; rfl) (Steps.refl _) (a := b1) (argsL := [(.ref l_)]) (rest := [(.ref b1)]) (lenOf pd_8 rfl) rfl (by show 2 * 0 + _ ≤ _; exact Nat.le_of_eq rfl) (hb hby d11_5) (fun _ _ => ⟨rfl, e1, (by decide : 1 + 0 ≤ _), (by decide : 4 + 0 ≤ _)⟩)
  dsimp only [Pt.U, Pt.locs, Pt.cells, Pt.slots] at X5 l5 y5 z5 st5 hQ5
  subst l5 y5 z5
  obtain ⟨h5, e5⟩ : ∃ z, T5.heap = z := ⟨_, rfl⟩
  rw [e5] at hQ5
  obtain ⟨rfl, Nq5, Kq5, p5_0, p5_1, p5_2, p5_3⟩ := hQ5
  have N5 := Fr.app N0 Nq5
  have r5 : own_R p e below _ _ T5 (mkF m 8 #[.val (.ref l_)] [(.ref b1)]) := r2.trans fun z_ kt => st5.trans kt
  have O5 := O1.keep Kq5 (allS g_b1 all0)
  have K5 := K1.trans Kq5 (allS (Or.inr sz_b1) all0)
  have f6 := (A1.keep Kq5)
  obtain ⟨fs_, hr_, hrun_, hended_, hW_, hsame_⟩ := X5.leave (v := some (.ref b1)) (fun h => by rw [Bd.returns] at h; cases h)
  refine ⟨_, _, pre0 _ (r5 _ ?_), hrun_, hended_, _, _, rfl, ?_, ⟨_, rfl⟩, hW_, hsame_.mono (by decide) (by decide)⟩
  · exact retOut X5 hx Bd.returns rfl (Or.inr (Or.inr (Or.inr (Or.inr ⟨rfl, rfl, rfl⟩)))) (hb hby d11_8) hr_
  · show Q_iter Z l_ pm h0 n0 _ T5.heap _
    rw [e5]
    exact ⟨b1, rfl, N5, K5, sz_b1, f6, p5_0, p5_1, p5_2, p5_3⟩

theorem d13_0 : decode jdk_49_method_2_code 0 = .ok (.aload_n 0, 1) := by decide +kernel
theorem d13_1 : decode jdk_49_method_2_code 1 = .ok (.getfield 25, 3) := by decide +kernel
theorem d13_4 : decode jdk_49_method_2_code 4 = .ok (.aload_n 0, 1) := by decide +kernel
theorem d13_5 : decode jdk_49_method_2_code 5 = .ok (.getfield 1, 3) := by decide +kernel
theorem d13_8 : decode jdk_49_method_2_code 8 = .ok (.getfield 28, 3) := by decide +kernel
theorem d13_11 : decode jdk_49_method_2_code 11 = .ok (.if_icmp .eq 7, 3) := by decide +kernel
theorem d13_18 : decode jdk_49_method_2_code 18 = .ok (.iconst 0, 1) := by decide +kernel
theorem d13_19 : decode jdk_49_method_2_code 19 = .ok (.ireturn, 1) := by decide +kernel
theorem d13_14 : decode jdk_49_method_2_code 14 = .ok (.iconst 1, 1) := by decide +kernel
theorem d13_15 : decode jdk_49_method_2_code 15 = .ok (.goto 4, 3) := by decide +kernel
theorem ef_hasNext (m : MethodId) (a : Addr) : entryFrame m #[(.ref a)] 1 = mkF m 0 #[.val (.ref a)] [] := by first | (simp [entryFrame, mkF, argsToLocals, Value.category]; done) | rfl
def Q_hasNext (Z : State) (a : Addr) (l_ : Addr) (pc : Int32) (ps : Int32) (r : Int32) (h0 : Heap) (n0 : Nat) (v_ : Option Value) (h_ : Heap) (L_ : List Loc) : Prop := v_ = some (.int r) ∧ Fr n0 L_ ∧ h_ = h0
set_option maxRecDepth 65536 in
set_option maxHeartbeats 40000000 in
theorem rm_hasNext (l : Launch) (Z : State) (a0 : Array Value) (hw : ∀ d ∈ tables_1, d.before a0 Z = true) (ws : List Jvm.Cond) (a : Addr) (l_ : Addr) (pc : Int32) (ps : Int32) (r : Int32) (h0 : Heap) (n0 : Nat) (O0 : Old Z n0 h0) (F_a_this_0 : Fld Z h0 a "java/util/ArrayList$Itr" "this$0" "Ljava/util/ArrayList;" (.ref l_)) (F_a_cursor : Fld Z h0 a "java/util/ArrayList$Itr" "cursor" "I" (.int pc)) (F_l__size : Fld Z h0 l_ "java/util/ArrayList" "size" "I" (.int ps)) (hr0 : (pc = ps ∧ r = (0 : Int32)) ∨ (¬ (pc = ps) ∧ r = (1 : Int32))) :
    MetFree l (⟨"java/util/ArrayList$Itr", "hasNext", "()Z"⟩ : MethodName) (head1 (Jvm.Cond.code (⟨"java/util/ArrayList$Itr", "hasNext", "()Z"⟩ : MethodName) jdk_49_method_2_code 1 (some .boolean) :: ws) ({ frames := 0, cells := 0, slots := 0, locals := 0 } : Room)) (fun aa_ U_ => aa_ = #[(.ref a)] ∧ Z.Warmed39 U_.vm ∧ U_.heap = h0) (fun _ _ _ _ _ => True) (fun _ U_ o_ U_' => ∃ v_ L_, o_ = .returned v_ ∧ Q_hasNext Z a l_ pc ps r h0 n0 v_ U_'.heap L_ ∧ FrameEnd U_ o_ U_' L_ ({ frames := 0, cells := 0, slots := 0, locals := 0 } : Room).cells ({ frames := 0, cells := 0, slots := 0, locals := 0 } : Room).slots) := by
  refine MetFree.of_bodySF (plainFor_of_name pn_ArrayList_Itr) hisR ?_
  intro p e s m args below meth c s₁ Bd hml0 hP hK
  obtain ⟨rfl, hZ, hh⟩ := hP
  have hx := Bd.exec
  have hby := Bd.bytes
  have hml : c.maxLocals = 1 := hml0
  have hown : s.vm.findClass "java/util/ArrayList$Itr" = some m.cls := findClass_of_methodNamed Bd.named
  have hnm := (name_of_methodNamed Bd.named Bd.method).1
  have X0 : Stand p l e ({ frames := 0, cells := 0, slots := 0, locals := 0 } : Room) s m #[(.ref a)] below meth c s₁ [] 0 0 := Stand.of_body Bd
  have e0 : s₁.heap = h0 := by rw [← hh, Bd.state]; rfl
  have N0 := Fr.nil n0
  have pre0 : ∀ z_, Steps p.tables e below (s₁.setTop (mkF m 0 #[.val (.ref a)] [])) z_ → Steps p.tables e below (s₁.setTop (entryFrame m #[(.ref a)] 1)) z_ := fun z_ k_ => castTop (ef_hasNext m a) k_
  have r0 : own_R p e below s₁ (mkF m 0 #[.val (.ref a)] []) s₁ (mkF m 0 #[.val (.ref a)] []) := own_R.refl
  rcases hr0 with ⟨q1, qr⟩ | ⟨q1, qr⟩
  · skip
    have r1 : own_R p e below _ _ s₁ (mkF m 1 #[.val (.ref a)] [(.ref a)]) := r0.trans fun z_ kt => by
      refine XS.aloadN X0.here hx rfl (hb hby d13_0) rfl rfl ?_
      exact kt
    obtain ⟨T2, X2, e2, st2⟩ := getF X0 hx hZ hown (host := "") (Or.inl (hw _ (own_g (i := 101) rfl))) Via.refl e0 F_a_cursor (g := (mkF m 1 #[.val (.ref a)] [(.ref a)])) rfl rfl (hb hby d13_1)
    have r2 : own_R p e below _ _ T2 (mkF m 4 #[.val (.ref a)] [(.int pc)]) := r1.trans fun z_ kt => st2 _ kt
    have r3 : own_R p e below _ _ T2 (mkF m 5 #[.val (.ref a)] [(.ref a), (.int pc)]) := r2.trans fun z_ kt => by
      refine XS.aloadN X2.here hx rfl (hb hby d13_4) rfl rfl ?_
      exact kt
    obtain ⟨T4, X4, e4, st4⟩ := getF X2 hx hZ hown (host := "") (Or.inl (hw _ (own_g (i := 83) rfl))) Via.refl e2 F_a_this_0 (g := (mkF m 5 #[.val (.ref a)] [(.ref a), (.int pc)])) rfl rfl (hb hby d13_5)
    have r4 : own_R p e below _ _ T4 (mkF m 8 #[.val (.ref a)] [(.ref l_), (.int pc)]) := r3.trans fun z_ kt => st4 _ kt
    obtain ⟨T5, X5, e5, st5⟩ := getF X4 hx hZ hown (Or.inr (hw _ (own_g (i := 103) rfl))) Via.refl e4 F_l__size (g := (mkF m 8 #[.val (.ref a)] [(.ref l_), (.int pc)])) rfl rfl (hb hby d13_8)
    have r5 : own_R p e below _ _ T5 (mkF m 11 #[.val (.ref a)] [(.int ps), (.int pc)]) := r4.trans fun z_ kt => st5 _ kt
    have r6 : own_R p e below _ _ T5 (mkF m 19 #[.val (.ref a)] [(.int (0 : Int32))]) := r5.trans fun z_ kt => by
      refine XS.icmpYes X5.here hx rfl (pc0 := 11) (pc' := 18) rfl (hb hby d13_11) rfl (teq (q1 : pc = ps)).1 (by decide) (by decide) ?_
      refine XS.iconst X5.here hx rfl (hb hby d13_18) ?_
      exact kt
    obtain ⟨fs_, hr_, hrun_, hended_, hW_, hsame_⟩ := X5.leave (v := some (.int (0 : Int32))) (fun h => by rw [Bd.returns] at h; cases h)
    refine ⟨_, _, pre0 _ (r6 _ ?_), hrun_, hended_, _, _, rfl, ?_, ⟨_, rfl⟩, hW_, hsame_.mono (by decide) (by decide)⟩
    · exact retN X5 hx (t := .boolean) Bd.returns (by simp) (hb hby d13_19) hr_
    · show Q_hasNext Z a l_ pc ps r h0 n0 _ T5.heap _
      rw [e5]
      exact ⟨by rw [qr], N0, rfl⟩
  · skip
    have r7 : own_R p e below _ _ s₁ (mkF m 1 #[.val (.ref a)] [(.ref a)]) := r0.trans fun z_ kt => by
      refine XS.aloadN X0.here hx rfl (hb hby d13_0) rfl rfl ?_
      exact kt
    obtain ⟨T8, X8, e8, st8⟩ := getF X0 hx hZ hown (host := "") (Or.inl (hw _ (own_g (i := 101) rfl))) Via.refl e0 F_a_cursor (g := (mkF m 1 #[.val (.ref a)] [(.ref a)])) rfl rfl (hb hby d13_1)
    have r8 : own_R p e below _ _ T8 (mkF m 4 #[.val (.ref a)] [(.int pc)]) := r7.trans fun z_ kt => st8 _ kt
    have r9 : own_R p e below _ _ T8 (mkF m 5 #[.val (.ref a)] [(.ref a), (.int pc)]) := r8.trans fun z_ kt => by
      refine XS.aloadN X8.here hx rfl (hb hby d13_4) rfl rfl ?_
      exact kt
    obtain ⟨T10, X10, e10, st10⟩ := getF X8 hx hZ hown (host := "") (Or.inl (hw _ (own_g (i := 83) rfl))) Via.refl e8 F_a_this_0 (g := (mkF m 5 #[.val (.ref a)] [(.ref a), (.int pc)])) rfl rfl (hb hby d13_5)
    have r10 : own_R p e below _ _ T10 (mkF m 8 #[.val (.ref a)] [(.ref l_), (.int pc)]) := r9.trans fun z_ kt => st10 _ kt
    obtain ⟨T11, X11, e11, st11⟩ := getF X10 hx hZ hown (Or.inr (hw _ (own_g (i := 103) rfl))) Via.refl e10 F_l__size (g := (mkF m 8 #[.val (.ref a)] [(.ref l_), (.int pc)])) rfl rfl (hb hby d13_8)
    have r11 : own_R p e below _ _ T11 (mkF m 11 #[.val (.ref a)] [(.int ps), (.int pc)]) := r10.trans fun z_ kt => st11 _ kt
    have r12 : own_R p e below _ _ T11 (mkF m 19 #[.val (.ref a)] [(.int (1 : Int32))]) := r11.trans fun z_ kt => by
      refine XS.icmpNo X11.here hx rfl (hb hby d13_11) rfl (feq (q1 : ¬ (pc = ps))).1 ?_
      refine XS.iconst X11.here hx rfl (hb hby d13_14) ?_
      refine XS.goto X11.here hx rfl (pc0 := 15) (pc' := 19) rfl (hb hby d13_15) (by decide) (by decide) ?_
      exact kt
    obtain ⟨fs_, hr_, hrun_, hended_, hW_, hsame_⟩ := X11.leave (v := some (.int (1 : Int32))) (fun h => by rw [Bd.returns] at h; cases h)
    refine ⟨_, _, pre0 _ (r12 _ ?_), hrun_, hended_, _, _, rfl, ?_, ⟨_, rfl⟩, hW_, hsame_.mono (by decide) (by decide)⟩
    · exact retN X11 hx (t := .boolean) Bd.returns (by simp) (hb hby d13_19) hr_
    · show Q_hasNext Z a l_ pc ps r h0 n0 _ T11.heap _
      rw [e11]
      exact ⟨by rw [qr], N0, rfl⟩

theorem d28_0 : decode jdk_49_method_6_code 0 = .ok (.aload_n 0, 1) := by decide +kernel
theorem d28_1 : decode jdk_49_method_6_code 1 = .ok (.getfield 1, 3) := by decide +kernel
theorem d28_4 : decode jdk_49_method_6_code 4 = .ok (.getfield 17, 3) := by decide +kernel
theorem d28_7 : decode jdk_49_method_6_code 7 = .ok (.aload_n 0, 1) := by decide +kernel
theorem d28_8 : decode jdk_49_method_6_code 8 = .ok (.getfield 22, 3) := by decide +kernel
theorem d28_11 : decode jdk_49_method_6_code 11 = .ok (.if_icmp .eq 11, 3) := by decide +kernel
theorem d28_22 : decode jdk_49_method_6_code 22 = .ok (.return_, 1) := by decide +kernel
theorem ef_chkMod (m : MethodId) (a : Addr) : entryFrame m #[(.ref a)] 1 = mkF m 0 #[.val (.ref a)] [] := by first | (simp [entryFrame, mkF, argsToLocals, Value.category]; done) | rfl
def Q_chkMod (Z : State) (a : Addr) (l_ : Addr) (pm : Int32) (h0 : Heap) (n0 : Nat) (v_ : Option Value) (h_ : Heap) (L_ : List Loc) : Prop := v_ = none ∧ Fr n0 L_ ∧ h_ = h0
set_option maxRecDepth 65536 in
set_option maxHeartbeats 40000000 in
theorem rm_chkMod (l : Launch) (Z : State) (a0 : Array Value) (hw : ∀ d ∈ tables_1, d.before a0 Z = true) (ws : List Jvm.Cond) (a : Addr) (l_ : Addr) (pm : Int32) (h0 : Heap) (n0 : Nat) (O0 : Old Z n0 h0) (F_a_this_0 : Fld Z h0 a "java/util/ArrayList$Itr" "this$0" "Ljava/util/ArrayList;" (.ref l_)) (F_a_expectedModCount : Fld Z h0 a "java/util/ArrayList$Itr" "expectedModCount" "I" (.int pm)) (F_l__modCount : Fld Z h0 l_ "java/util/AbstractList" "modCount" "I" (.int pm)) :
    MetFree l (⟨"java/util/ArrayList$Itr", "checkForComodification", "()V"⟩ : MethodName) (head1 (Jvm.Cond.code (⟨"java/util/ArrayList$Itr", "checkForComodification", "()V"⟩ : MethodName) jdk_49_method_6_code 1 none :: ws) ({ frames := 0, cells := 0, slots := 0, locals := 0 } : Room)) (fun aa_ U_ => aa_ = #[(.ref a)] ∧ Z.Warmed39 U_.vm ∧ U_.heap = h0) (fun _ _ _ _ _ => True) (fun _ U_ o_ U_' => ∃ v_ L_, o_ = .returned v_ ∧ Q_chkMod Z a l_ pm h0 n0 v_ U_'.heap L_ ∧ FrameEnd U_ o_ U_' L_ ({ frames := 0, cells := 0, slots := 0, locals := 0 } : Room).cells ({ frames := 0, cells := 0, slots := 0, locals := 0 } : Room).slots) := by
  refine MetFree.of_bodySF (plainFor_of_name pn_ArrayList_Itr) hisR ?_
  intro p e s m args below meth c s₁ Bd hml0 hP hK
  obtain ⟨rfl, hZ, hh⟩ := hP
  have hx := Bd.exec
  have hby := Bd.bytes
  have hml : c.maxLocals = 1 := hml0
  have hown : s.vm.findClass "java/util/ArrayList$Itr" = some m.cls := findClass_of_methodNamed Bd.named
  have hnm := (name_of_methodNamed Bd.named Bd.method).1
  have X0 : Stand p l e ({ frames := 0, cells := 0, slots := 0, locals := 0 } : Room) s m #[(.ref a)] below meth c s₁ [] 0 0 := Stand.of_body Bd
  have e0 : s₁.heap = h0 := by rw [← hh, Bd.state]; rfl
  have N0 := Fr.nil n0
  have pre0 : ∀ z_, Steps p.tables e below (s₁.setTop (mkF m 0 #[.val (.ref a)] [])) z_ → Steps p.tables e below (s₁.setTop (entryFrame m #[(.ref a)] 1)) z_ := fun z_ k_ => castTop (ef_chkMod m a) k_
  have r0 : own_R p e below s₁ (mkF m 0 #[.val (.ref a)] []) s₁ (mkF m 0 #[.val (.ref a)] []) := own_R.refl
  have r1 : own_R p e below _ _ s₁ (mkF m 1 #[.val (.ref a)] [(.ref a)]) := r0.trans fun z_ kt => by
    refine XS.aloadN X0.here hx rfl (hb hby d28_0) rfl rfl ?_
    exact kt
  obtain ⟨T2, X2, e2, st2⟩ := getF X0 hx hZ hown (host := "") (Or.inl (hw _ (own_g (i := 83) rfl))) Via.refl e0 F_a_this_0 (g := (mkF m 1 #[.val (.ref a)] [(.ref a)])) rfl rfl (hb hby d28_1)
  have r2 : own_R p e below _ _ T2 (mkF m 4 #[.val (.ref a)] [(.ref l_)]) := r1.trans fun z_ kt => st2 _ kt
  obtain ⟨T3, X3, e3, st3⟩ := getF X2 hx hZ hown (host := "") (Or.inl (hw _ (own_g (i := 88) rfl))) (Via.of (hw _ (own_g (i := 89) rfl))) e2 F_l__modCount (g := (mkF m 4 #[.val (.ref a)] [(.ref l_)])) rfl rfl (hb hby d28_4)
  have r3 : own_R p e below _ _ T3 (mkF m 7 #[.val (.ref a)] [(.int pm)]) := r2.trans fun z_ kt => st3 _ kt
  have r4 : own_R p e below _ _ T3 (mkF m 8 #[.val (.ref a)] [(.ref a), (.int pm)]) := r3.trans fun z_ kt => by
    refine XS.aloadN X3.here hx rfl (hb hby d28_7) rfl rfl ?_
    exact kt
  obtain ⟨T5, X5, e5, st5⟩ := getF X3 hx hZ hown (host := "") (Or.inl (hw _ (own_g (i := 90) rfl))) Via.refl e3 F_a_expectedModCount (g := (mkF m 8 #[.val (.ref a)] [(.ref a), (.int pm)])) rfl rfl (hb hby d28_8)
  have r5 : own_R p e below _ _ T5 (mkF m 11 #[.val (.ref a)] [(.int pm), (.int pm)]) := r4.trans fun z_ kt => st5 _ kt
  have r6 : own_R p e below _ _ T5 (mkF m 22 #[.val (.ref a)] []) := r5.trans fun z_ kt => by
    refine XS.icmpYes X5.here hx rfl (pc0 := 11) (pc' := 22) rfl (hb hby d28_11) rfl (teq (rfl : pm = pm)).1 (by decide) (by decide) ?_
    exact kt
  obtain ⟨fs_, hr_, hrun_, hended_, hW_, hsame_⟩ := X5.leave (v := none) (fun _ => rfl)
  refine ⟨_, _, pre0 _ (r6 _ ?_), hrun_, hended_, _, _, rfl, ?_, ⟨_, rfl⟩, hW_, hsame_.mono (by decide) (by decide)⟩
  · exact X5.returnOut hx Bd.returns (hb hby d28_22) hr_
  · show Q_chkMod Z a l_ pm h0 n0 _ T5.heap _
    rw [e5]
    exact ⟨rfl, N0, rfl⟩

theorem d27_0 : decode jdk_49_method_3_code 0 = .ok (.aload_n 0, 1) := by decide +kernel
theorem d27_1 : decode jdk_49_method_3_code 1 = .ok (.invokevirtual 31, 3) := by decide +kernel
theorem d27_4 : decode jdk_49_method_3_code 4 = .ok (.aload_n 0, 1) := by decide +kernel
theorem d27_5 : decode jdk_49_method_3_code 5 = .ok (.getfield 25, 3) := by decide +kernel
theorem d27_8 : decode jdk_49_method_3_code 8 = .ok (.istore_n 1, 1) := by decide +kernel
theorem d27_9 : decode jdk_49_method_3_code 9 = .ok (.iload_n 1, 1) := by decide +kernel
theorem d27_10 : decode jdk_49_method_3_code 10 = .ok (.aload_n 0, 1) := by decide +kernel
theorem d27_11 : decode jdk_49_method_3_code 11 = .ok (.getfield 1, 3) := by decide +kernel
theorem d27_14 : decode jdk_49_method_3_code 14 = .ok (.getfield 28, 3) := by decide +kernel
theorem d27_17 : decode jdk_49_method_3_code 17 = .ok (.if_icmp .lt 11, 3) := by decide +kernel
theorem d27_28 : decode jdk_49_method_3_code 28 = .ok (.aload_n 0, 1) := by decide +kernel
theorem d27_29 : decode jdk_49_method_3_code 29 = .ok (.getfield 1, 3) := by decide +kernel
theorem d27_32 : decode jdk_49_method_3_code 32 = .ok (.getfield 37, 3) := by decide +kernel
theorem d27_35 : decode jdk_49_method_3_code 35 = .ok (.astore_n 2, 1) := by decide +kernel
theorem d27_36 : decode jdk_49_method_3_code 36 = .ok (.iload_n 1, 1) := by decide +kernel
theorem d27_37 : decode jdk_49_method_3_code 37 = .ok (.aload_n 2, 1) := by decide +kernel
theorem d27_38 : decode jdk_49_method_3_code 38 = .ok (.arraylength, 1) := by decide +kernel
theorem d27_39 : decode jdk_49_method_3_code 39 = .ok (.if_icmp .lt 11, 3) := by decide +kernel
theorem d27_50 : decode jdk_49_method_3_code 50 = .ok (.aload_n 0, 1) := by decide +kernel
theorem d27_51 : decode jdk_49_method_3_code 51 = .ok (.iload_n 1, 1) := by decide +kernel
theorem d27_52 : decode jdk_49_method_3_code 52 = .ok (.iconst 1, 1) := by decide +kernel
theorem d27_53 : decode jdk_49_method_3_code 53 = .ok (.iadd, 1) := by decide +kernel
theorem d27_54 : decode jdk_49_method_3_code 54 = .ok (.putfield 25, 3) := by decide +kernel
theorem d27_57 : decode jdk_49_method_3_code 57 = .ok (.aload_n 2, 1) := by decide +kernel
theorem d27_58 : decode jdk_49_method_3_code 58 = .ok (.aload_n 0, 1) := by decide +kernel
theorem d27_59 : decode jdk_49_method_3_code 59 = .ok (.iload_n 1, 1) := by decide +kernel
theorem d27_60 : decode jdk_49_method_3_code 60 = .ok (.dup_x1, 1) := by decide +kernel
theorem d27_61 : decode jdk_49_method_3_code 61 = .ok (.putfield 13, 3) := by decide +kernel
theorem d27_64 : decode jdk_49_method_3_code 64 = .ok (.aaload, 1) := by decide +kernel
theorem d27_65 : decode jdk_49_method_3_code 65 = .ok (.areturn, 1) := by decide +kernel
theorem ef_next (m : MethodId) (a : Addr) : entryFrame m #[(.ref a)] 3 = mkF m 0 #[.val (.ref a), .unset, .unset] [] := by first | (simp [entryFrame, mkF, argsToLocals, Value.category]; done) | rfl
def Q_next (Z : State) (a : Addr) (l_ : Addr) (pm : Int32) (pc : Int32) (ps : Int32) (arr : Addr) (ka : ClassId) (z : Int32) (vs : List Value) (y : Addr) (pl : Int32) (h0 : Heap) (n0 : Nat) (v_ : Option Value) (h_ : Heap) (L_ : List Loc) : Prop := v_ = some (.ref y) ∧ Fr n0 L_ ∧ Keep h0 h_ [a] ∧ (Fld Z h_ a "java/util/ArrayList$Itr" "this$0" "Ljava/util/ArrayList;" (.ref l_)) ∧ (Fld Z h_ a "java/util/ArrayList$Itr" "expectedModCount" "I" (.int pm)) ∧ (Fld Z h_ a "java/util/ArrayList$Itr" "cursor" "I" (.int (pc + (1 : Int32)))) ∧ (Fld Z h_ a "java/util/ArrayList$Itr" "lastRet" "I" (.int pc))
set_option maxRecDepth 65536 in
set_option maxHeartbeats 40000000 in
theorem rm_next (l : Launch) (Z : State) (a0 : Array Value) (hw : ∀ d ∈ tables_1, d.before a0 Z = true) (ws : List Jvm.Cond) (a : Addr) (l_ : Addr) (pm : Int32) (pc : Int32) (ps : Int32) (arr : Addr) (ka : ClassId) (z : Int32) (vs : List Value) (y : Addr) (pl : Int32) (h0 : Heap) (n0 : Nat) (O0 : Old Z n0 h0) (E_a : Exa Z h0 a "java/util/ArrayList$Itr") (g_a : n0 ≤ a) (F_a_this_0 : Fld Z h0 a "java/util/ArrayList$Itr" "this$0" "Ljava/util/ArrayList;" (.ref l_)) (F_a_expectedModCount : Fld Z h0 a "java/util/ArrayList$Itr" "expectedModCount" "I" (.int pm)) (F_a_cursor : Fld Z h0 a "java/util/ArrayList$Itr" "cursor" "I" (.int pc)) (F_a_lastRet : Fld Z h0 a "java/util/ArrayList$Itr" "lastRet" "I" (.int pl)) (E_l_ : Exa Z h0 l_ "java/util/ArrayList") (F_l__modCount : Fld Z h0 l_ "java/util/AbstractList" "modCount" "I" (.int pm)) (F_l__size : Fld Z h0 l_ "java/util/ArrayList" "size" "I" (.int ps)) (F_l__elementData : Fld Z h0 l_ "java/util/ArrayList" "elementData" "[Ljava/lang/Object;" (.ref arr)) (V_arr : Arv Z h0 arr ka (.object "java/lang/Object") z vs .null) (h1 : pc < ps) (h2 : ¬ pc < 0 ∧ pc < z) (h3 : vs.getD pc.toNatClampNeg .null = .ref y) :
    MetFree l (⟨"java/util/ArrayList$Itr", "next", "()Ljava/lang/Object;"⟩ : MethodName) (head1 (Jvm.Cond.code (⟨"java/util/ArrayList$Itr", "next", "()Ljava/lang/Object;"⟩ : MethodName) jdk_49_method_3_code 3 (some (.object "java/lang/Object")) :: ws) ({ frames := 1, cells := 0, slots := 0, locals := 12 } : Room)) (fun aa_ U_ => aa_ = #[(.ref a)] ∧ Z.Warmed39 U_.vm ∧ U_.heap = h0) (fun _ _ _ _ _ => True) (fun _ U_ o_ U_' => ∃ v_ L_, o_ = .returned v_ ∧ Q_next Z a l_ pm pc ps arr ka z vs y pl h0 n0 v_ U_'.heap L_ ∧ FrameEnd U_ o_ U_' L_ ({ frames := 1, cells := 0, slots := 0, locals := 12 } : Room).cells ({ frames := 1, cells := 0, slots := 0, locals := 12 } : Room).slots) := by
  refine MetFree.of_bodySF (plainFor_of_name pn_ArrayList_Itr) hisR ?_
  intro p e s m args below meth c s₁ Bd hml0 hP hK
  obtain ⟨rfl, hZ, hh⟩ := hP
  have hx := Bd.exec
  have hby := Bd.bytes
  have hml : c.maxLocals = 3 := hml0
  have hown : s.vm.findClass "java/util/ArrayList$Itr" = some m.cls := findClass_of_methodNamed Bd.named
  have hnm := (name_of_methodNamed Bd.named Bd.method).1
  have X0 : Stand p l e ({ frames := 1, cells := 0, slots := 0, locals := 12 } : Room) s m #[(.ref a)] below meth c s₁ [] 0 0 := Stand.of_body Bd
  have e0 : s₁.heap = h0 := by rw [← hh, Bd.state]; rfl
  have N0 := Fr.nil n0
  have K0 : Keep h0 h0 [a] := Keep.refl h0 _
  have pre0 : ∀ z_, Steps p.tables e below (s₁.setTop (mkF m 0 #[.val (.ref a), .unset, .unset] [])) z_ → Steps p.tables e below (s₁.setTop (entryFrame m #[(.ref a)] 3)) z_ := fun z_ k_ => castTop (ef_next m a) k_
  have r0 : own_R p e below s₁ (mkF m 0 #[.val (.ref a), .unset, .unset] []) s₁ (mkF m 0 #[.val (.ref a), .unset, .unset] []) := own_R.refl
  have ne_a_l_ : a ≠ l_ := (ne_exa E_a E_l_ (by decide))
  have ne_a_arr : a ≠ arr := (own_ne_arv E_a (hw _ (own_g (i := 77) rfl)) V_arr)
  have ne_l__arr : l_ ≠ arr := (own_ne_arv E_l_ (hw _ (own_g (i := 29) rfl)) V_arr)
  have r1 : own_R p e below _ _ s₁ (mkF m 1 #[.val (.ref a), .unset, .unset] [(.ref a)]) := r0.trans fun z_ kt => by
    refine XS.aloadN X0.here hx rfl (hb hby d27_0) rfl rfl ?_
    exact kt
  obtain ⟨cq2, kq2, q2a, q2b, q2c⟩ := isOf hZ e0 E_a
  obtain ⟨_, _, ⟨T2, L2, cc2, n2⟩, -, X2, ⟨Lc2, hQ2, l2, y2, z2⟩, st2⟩ := X0.virtualBack hx (y := (⟨"java/util/ArrayList$Itr", "checkForComodification", "()V"⟩ : MethodName)) (z := (⟨"java/util/ArrayList$Itr", "checkForComodification", "()V"⟩ : MethodName)) hown (mvT hZ (hw _ (own_g (i := 186) rfl))) (mvT hZ (hw _ (own_g (i := 187) rfl))) (notFace_of_selects (args := #[]) (mvT hZ (hw _ (own_g (i := 189) rfl)))) (mvT hZ (hw _ (own_g (i := 189) rfl))) (mvT hZ (hw _ (own_g (i := 188) rfl))) (by decide) (backOf (W := 0) (rm_chkMod l Z a0 hw [] (a) (l_) (pm) h0 n0 O0 (F_a_this_0) (F_a_expectedModCount) (F_l__modCount)) hZ (hw _ (own_g (i := 190) rfl)) (hw _ (own_g (i := 78) rfl)) (by decide) (by decide)) q2a q2c (g := (mkF m 1 #[.val (.ref a), .unset, .unset] [(.ref a)])) rfl (by rw [hml]; rfl) (Steps.refl _) (argsL := []) (rest := []) (lenOf pd_3 rfl) rfl (by show 2 * 0 + _ ≤ _; exact Nat.le_of_eq rfl) (hb hby d27_1) (fun _ _ => ⟨rfl, e0, (by decide : 0 + 0 ≤ _), (by decide : 0 + 0 ≤ _)⟩)
  dsimp only [Pt.U, Pt.locs, Pt.cells, Pt.slots] at X2 l2 y2 z2 st2 hQ2
  subst l2 y2 z2
  obtain ⟨rfl, Nq2, eq2⟩ := hQ2
  have N2 := Fr.app N0 Nq2
  have r2 : own_R p e below _ _ T2 (mkF m 4 #[.val (.ref a), .unset, .unset] []) := r1.trans fun z_ kt => st2.trans kt
  have e2 : T2.heap = h0 := eq2
  have r3 : own_R p e below _ _ T2 (mkF m 5 #[.val (.ref a), .unset, .unset] [(.ref a)]) := r2.trans fun z_ kt => by
    refine XS.aloadN X2.here hx rfl (hb hby d27_4) rfl rfl ?_
    exact kt
  obtain ⟨T4, X4, e4, st4⟩ := getF X2 hx hZ hown (host := "") (Or.inl (hw _ (own_g (i := 101) rfl))) Via.refl e2 F_a_cursor (g := (mkF m 5 #[.val (.ref a), .unset, .unset] [(.ref a)])) rfl rfl (hb hby d27_5)
  have r4 : own_R p e below _ _ T4 (mkF m 8 #[.val (.ref a), .unset, .unset] [(.int pc)]) := r3.trans fun z_ kt => st4 _ kt
  have r5 : own_R p e below _ _ T4 (mkF m 11 #[.val (.ref a), .val (.int pc), .unset] [(.ref a), (.int pc)]) := r4.trans fun z_ kt => by
    refine XS.istoreN X4.here hx rfl (hb hby d27_8) rfl (l' := #[.val (.ref a), .val (.int pc), .unset]) rfl ?_
    refine XS.iloadN X4.here hx rfl (hb hby d27_9) rfl ?_
    refine XS.aloadN X4.here hx rfl (hb hby d27_10) rfl rfl ?_
    exact kt
  obtain ⟨T6, X6, e6, st6⟩ := getF X4 hx hZ hown (host := "") (Or.inl (hw _ (own_g (i := 83) rfl))) Via.refl e4 F_a_this_0 (g := (mkF m 11 #[.val (.ref a), .val (.int pc), .unset] [(.ref a), (.int pc)])) rfl rfl (hb hby d27_11)
  have r6 : own_R p e below _ _ T6 (mkF m 14 #[.val (.ref a), .val (.int pc), .unset] [(.ref l_), (.int pc)]) := r5.trans fun z_ kt => st6 _ kt
  obtain ⟨T7, X7, e7, st7⟩ := getF X6 hx hZ hown (Or.inr (hw _ (own_g (i := 103) rfl))) Via.refl e6 F_l__size (g := (mkF m 14 #[.val (.ref a), .val (.int pc), .unset] [(.ref l_), (.int pc)])) rfl rfl (hb hby d27_14)
  have r7 : own_R p e below _ _ T7 (mkF m 17 #[.val (.ref a), .val (.int pc), .unset] [(.int ps), (.int pc)]) := r6.trans fun z_ kt => st7 _ kt
  have r8 : own_R p e below _ _ T7 (mkF m 29 #[.val (.ref a), .val (.int pc), .unset] [(.ref a)]) := r7.trans fun z_ kt => by
    refine XS.icmpYes X7.here hx rfl (pc0 := 17) (pc' := 28) rfl (hb hby d27_17) rfl (tlt (h1 : pc < ps)).1 (by decide) (by decide) ?_
    refine XS.aloadN X7.here hx rfl (hb hby d27_28) rfl rfl ?_
    exact kt
  obtain ⟨T9, X9, e9, st9⟩ := getF X7 hx hZ hown (host := "") (Or.inl (hw _ (own_g (i := 83) rfl))) Via.refl e7 F_a_this_0 (g := (mkF m 29 #[.val (.ref a), .val (.int pc), .unset] [(.ref a)])) rfl rfl (hb hby d27_29)
  have r9 : own_R p e below _ _ T9 (mkF m 32 #[.val (.ref a), .val (.int pc), .unset] [(.ref l_)]) := r8.trans fun z_ kt => st9 _ kt
  obtain ⟨T10, X10, e10, st10⟩ := getF X9 hx hZ hown (host := "") (Or.inl (hw _ (own_g (i := 191) rfl))) Via.refl e9 F_l__elementData (g := (mkF m 32 #[.val (.ref a), .val (.int pc), .unset] [(.ref l_)])) rfl rfl (hb hby d27_32)
  have r10 : own_R p e below _ _ T10 (mkF m 35 #[.val (.ref a), .val (.int pc), .unset] [(.ref arr)]) := r9.trans fun z_ kt => st10 _ kt
  have r12 : own_R p e below _ _ T10 (mkF m 38 #[.val (.ref a), .val (.int pc), .val (.ref arr)] [(.ref arr), (.int pc)]) := r10.trans fun z_ kt => by
    refine XS.astoreN X10.here hx rfl (hb hby d27_35) rfl rfl (l' := #[.val (.ref a), .val (.int pc), .val (.ref arr)]) rfl ?_
    refine XS.iloadN X10.here hx rfl (hb hby d27_36) rfl ?_
    refine XS.aloadN X10.here hx rfl (hb hby d27_37) rfl rfl ?_
    exact kt
  obtain ⟨cl11, Ar11, q11, S11, M11, H11, G11⟩ := id V_arr
  have r13 : own_R p e below _ _ T10 (mkF m 54 #[.val (.ref a), .val (.int pc), .val (.ref arr)] [(.int (pc + (1 : Int32))), (.ref a)]) := r12.trans fun z_ kt => by
    refine X10.arraylength hx (by rw [e10]; exact Ar11.1) (State.isArrayOf_alike hZ.alike Ar11.2.1) (g := (mkF m 38 #[.val (.ref a), .val (.int pc), .val (.ref arr)] [(.ref arr), (.int pc)])) rfl rfl (hb hby d27_38) _ ?_
    rw [len_of S11 M11]
    refine XS.icmpYes X10.here hx rfl (pc0 := 39) (pc' := 50) rfl (hb hby d27_39) rfl (tlt (h2.2 : pc < z)).1 (by decide) (by decide) ?_
    refine XS.aloadN X10.here hx rfl (hb hby d27_50) rfl rfl ?_
    refine XS.iloadN X10.here hx rfl (hb hby d27_51) rfl ?_
    refine XS.iconst X10.here hx rfl (hb hby d27_52) ?_
    refine XS.iadd X10.here hx rfl (hb hby d27_53) rfl ?_
    exact kt
  obtain ⟨T14, h14, X14, e14, W14, st14⟩ := putF X10 hx hZ hown (host := "") (Or.inl (hw _ (own_g (i := 101) rfl))) Via.refl e10 F_a_cursor E_a (Or.inl (hw _ (own_g (i := 102) rfl))) (hw _ (own_g (i := 77) rfl)) (ty := .int) (v := (.int (pc + (1 : Int32)))) (by decide) rfl rfl (g := (mkF m 54 #[.val (.ref a), .val (.int pc), .val (.ref arr)] [(.int (pc + (1 : Int32))), (.ref a)])) rfl rfl (hb hby d27_54)
  have r14 : own_R p e below _ _ T14 (mkF m 57 #[.val (.ref a), .val (.int pc), .val (.ref arr)] []) := r13.trans fun z_ kt => st14 _ kt
  have N14 := Fr.snoc X14 N2 g_a
  have O14 := O0.wr W14 g_a
  have K14 := K0.wr W14 (Or.inl (List.mem_of_getElem? (i := 0) rfl))
  have F14 := F_a_cursor.same W14
  have f15 := (F_a_lastRet.other W14 (Or.inr (slot_ne (Or.inl (hw _ (own_g (i := 87) rfl))) (Or.inl (hw _ (own_g (i := 102) rfl))) (by decide) (t := .int) (t' := .int) (by decide) (by decide))))
  have f16 := (E_a.wr W14)
  have r17 : own_R p e below _ _ T14 (mkF m 61 #[.val (.ref a), .val (.int pc), .val (.ref arr)] [(.int pc), (.ref a), (.int pc), (.ref arr)]) := r14.trans fun z_ kt => by
    refine XS.aloadN X14.here hx rfl (hb hby d27_57) rfl rfl ?_
    refine XS.aloadN X14.here hx rfl (hb hby d27_58) rfl rfl ?_
    refine XS.iloadN X14.here hx rfl (hb hby d27_59) rfl ?_
    refine XS.dupX1 X14.here hx rfl (hb hby d27_60) rfl rfl rfl ?_
    exact kt
  obtain ⟨T18, h18, X18, e18, W18, st18⟩ := putF X14 hx hZ hown (host := "") (Or.inl (hw _ (own_g (i := 86) rfl))) Via.refl e14 f15 f16 (Or.inl (hw _ (own_g (i := 87) rfl))) (hw _ (own_g (i := 77) rfl)) (ty := .int) (v := (.int pc)) (by decide) rfl rfl (g := (mkF m 61 #[.val (.ref a), .val (.int pc), .val (.ref arr)] [(.int pc), (.ref a), (.int pc), (.ref arr)])) rfl rfl (hb hby d27_61)
  have r18 : own_R p e below _ _ T18 (mkF m 64 #[.val (.ref a), .val (.int pc), .val (.ref arr)] [(.int pc), (.ref arr)]) := r17.trans fun z_ kt => st18 _ kt
  have N18 := Fr.snoc X18 N14 g_a
  have O18 := O14.wr W18 g_a
  have K18 := K14.wr W18 (Or.inl (List.mem_of_getElem? (i := 0) rfl))
  have F18 := f15.same W18
  have f19 := ((V_arr.other W14 (Ne.symm ne_a_arr)).other W18 (Ne.symm ne_a_arr))
  obtain ⟨cl20, Ar20, q20, S20, M20, H20, G20⟩ := id f19
  have hin20 : ¬ (pc < 0 ∨ cl20.slots.size ≤ (pc).toNatClampNeg) := inb_of S20 h2
  have hat20 : cl20.slots[(pc).toNatClampNeg]? = some (.ref y) := Has.at H20 hin20 h3
  have r21 : own_R p e below _ _ T18 (mkF m 65 #[.val (.ref a), .val (.int pc), .val (.ref arr)] [(.ref y)]) := r18.trans fun z_ kt => by
    refine X18.aaload hx (j := pc) (v := (.ref y)) (by rw [e18]; exact Ar20.1) (State.isArrayOf_alike hZ.alike Ar20.2.1) rfl Ar20.2.2 hin20 hat20 (g := (mkF m 64 #[.val (.ref a), .val (.int pc), .val (.ref arr)] [(.int pc), (.ref arr)])) rfl rfl (hb hby d27_64) _ ?_
    exact kt
  have f22 := ((F_a_this_0.other W14 (Or.inr (slot_ne (Or.inr (hw _ (own_g (i := 84) rfl))) (Or.inl (hw _ (own_g (i := 102) rfl))) (by decide) (t := (.object "java/util/ArrayList")) (t' := .int) (by decide) (by decide)))).other W18 (Or.inr (slot_ne (Or.inr (hw _ (own_g (i := 84) rfl))) (Or.inl (hw _ (own_g (i := 87) rfl))) (by decide) (t := (.object "java/util/ArrayList")) (t' := .int) (by decide) (by decide))))
  have f23 := ((F_a_expectedModCount.other W14 (Or.inr (slot_ne (Or.inl (hw _ (own_g (i := 91) rfl))) (Or.inl (hw _ (own_g (i := 102) rfl))) (by decide) (t := .int) (t' := .int) (by decide) (by decide)))).other W18 (Or.inr (slot_ne (Or.inl (hw _ (own_g (i := 91) rfl))) (Or.inl (hw _ (own_g (i := 87) rfl))) (by decide) (t := .int) (t' := .int) (by decide) (by decide))))
  have f24 := (F14.other W18 (Or.inr (slot_ne (Or.inl (hw _ (own_g (i := 102) rfl))) (Or.inl (hw _ (own_g (i := 87) rfl))) (by decide) (t := .int) (t' := .int) (by decide) (by decide))))
  obtain ⟨fs_, hr_, hrun_, hended_, hW_, hsame_⟩ := X18.leave (v := some (.ref y)) (fun h => by rw [Bd.returns] at h; cases h)
  refine ⟨_, _, pre0 _ (r21 _ ?_), hrun_, hended_, _, _, rfl, ?_, ⟨_, rfl⟩, hW_, hsame_.mono (by decide) (by decide)⟩
  · exact retOut X18 hx Bd.returns rfl (Or.inr (Or.inr (Or.inr (Or.inr ⟨rfl, rfl, rfl⟩)))) (hb hby d27_65) hr_
  · show Q_next Z a l_ pm pc ps arr ka z vs y pl h0 n0 _ T18.heap _
    rw [e18]
    exact ⟨rfl, N18, K18, f22, f23, f24, F18⟩

theorem d9_0 : decode prog_14_method_1_code 0 = .ok (.aload_n 0, 1) := by decide +kernel
theorem d9_1 : decode prog_14_method_1_code 1 = .ok (.invokespecial 3, 3) := by decide +kernel
theorem d9_4 : decode prog_14_method_1_code 4 = .ok (.aload_n 0, 1) := by decide +kernel
theorem d9_5 : decode prog_14_method_1_code 5 = .ok (.sipush 1024, 3) := by decide +kernel
theorem d9_8 : decode prog_14_method_1_code 8 = .ok (.anewarray 11, 3) := by decide +kernel
theorem d9_11 : decode prog_14_method_1_code 11 = .ok (.putfield 13, 3) := by decide +kernel
theorem d9_14 : decode prog_14_method_1_code 14 = .ok (.return_, 1) := by decide +kernel
theorem pn_RecentChanges : plainName "com/example/kleinbasel/kleinbasel/content/RecentChanges" = true := by first | (simp [plainName, overriddenIn]; done) | decide +kernel
theorem ef_rcInit (m : MethodId) (a : Addr) : entryFrame m #[(.ref a)] 1 = mkF m 0 #[.val (.ref a)] [] := by first | (simp [entryFrame, mkF, argsToLocals, Value.category]; done) | rfl
def Q_rcInit (Z : State) (a : Addr) (u1 : Value) (h0 : Heap) (n0 : Nat) (v_ : Option Value) (h_ : Heap) (L_ : List Loc) : Prop := ∃ (kp : Addr) (kk : ClassId), v_ = none ∧ Fr n0 L_ ∧ Keep h0 h_ [a] ∧ (h0.size ≤ kp) ∧ (Fld Z h_ a "com/example/kleinbasel/kleinbasel/content/RecentChanges" "kept" "[Ljava/lang/String;" (.ref kp)) ∧ (Fld Z h_ a "com/example/kleinbasel/kleinbasel/content/RecentChanges" "count" "J" (.long (0 : Int64))) ∧ (Fld Z h_ a "com/example/kleinbasel/kleinbasel/content/RecentChanges" "forgottenOnGrowth" "J" (.long (0 : Int64))) ∧ (Arv Z h_ kp kk (.object "java/lang/String") (1024 : Int32) [] .null) ∧ (Ovr Z kk "java/lang/String")
set_option maxRecDepth 65536 in
set_option maxHeartbeats 40000000 in
theorem rm_rcInit (l : Launch) (Z : State) (a0 : Array Value) (hw : ∀ d ∈ tables_1, d.before a0 Z = true) (ws : List Jvm.Cond) (a : Addr) (u1 : Value) (h0 : Heap) (n0 : Nat) (O0 : Old Z n0 h0) (E_a : Exa Z h0 a "com/example/kleinbasel/kleinbasel/content/RecentChanges") (g_a : n0 ≤ a) (F_a_kept : Fld Z h0 a "com/example/kleinbasel/kleinbasel/content/RecentChanges" "kept" "[Ljava/lang/String;" u1) (F_a_count : Fld Z h0 a "com/example/kleinbasel/kleinbasel/content/RecentChanges" "count" "J" (.long (0 : Int64))) (F_a_forgottenOnGrowth : Fld Z h0 a "com/example/kleinbasel/kleinbasel/content/RecentChanges" "forgottenOnGrowth" "J" (.long (0 : Int64))) :
    MetFree l (⟨"com/example/kleinbasel/kleinbasel/content/RecentChanges", "<init>", "()V"⟩ : MethodName) (head1 (Jvm.Cond.code (⟨"com/example/kleinbasel/kleinbasel/content/RecentChanges", "<init>", "()V"⟩ : MethodName) prog_14_method_1_code 1 none :: ws) ({ frames := 1, cells := 1, slots := 1024, locals := 12 } : Room)) (fun aa_ U_ => aa_ = #[(.ref a)] ∧ Z.Warmed39 U_.vm ∧ U_.heap = h0) (fun _ _ _ _ _ => True) (fun _ U_ o_ U_' => ∃ v_ L_, o_ = .returned v_ ∧ Q_rcInit Z a u1 h0 n0 v_ U_'.heap L_ ∧ FrameEnd U_ o_ U_' L_ ({ frames := 1, cells := 1, slots := 1024, locals := 12 } : Room).cells ({ frames := 1, cells := 1, slots := 1024, locals := 12 } : Room).slots) := by
  refine MetFree.of_bodySF (plainFor_of_name pn_RecentChanges) hisR ?_
  intro p e s m args below meth c s₁ Bd hml0 hP hK
  obtain ⟨rfl, hZ, hh⟩ := hP
  have hx := Bd.exec
  have hby := Bd.bytes
  have hml : c.maxLocals = 1 := hml0
  have hown : s.vm.findClass "com/example/kleinbasel/kleinbasel/content/RecentChanges" = some m.cls := findClass_of_methodNamed Bd.named
  have hnm := (name_of_methodNamed Bd.named Bd.method).1
  have X0 : Stand p l e ({ frames := 1, cells := 1, slots := 1024, locals := 12 } : Room) s m #[(.ref a)] below meth c s₁ [] 0 0 := Stand.of_body Bd
  have e0 : s₁.heap = h0 := by rw [← hh, Bd.state]; rfl
  have N0 := Fr.nil n0
  have K0 : Keep h0 h0 [a] := Keep.refl h0 _
  have pre0 : ∀ z_, Steps p.tables e below (s₁.setTop (mkF m 0 #[.val (.ref a)] [])) z_ → Steps p.tables e below (s₁.setTop (entryFrame m #[(.ref a)] 1)) z_ := fun z_ k_ => castTop (ef_rcInit m a) k_
  have r0 : own_R p e below s₁ (mkF m 0 #[.val (.ref a)] []) s₁ (mkF m 0 #[.val (.ref a)] []) := own_R.refl
  have r1 : own_R p e below _ _ s₁ (mkF m 1 #[.val (.ref a)] [(.ref a)]) := r0.trans fun z_ kt => by
    refine XS.aloadN X0.here hx rfl (hb hby d9_0) rfl rfl ?_
    exact kt
  obtain ⟨T2, X2, e2, st2⟩ := initO X0 hx hZ hown (hw _ (own_g (i := 58) rfl)) (hw _ (own_g (i := 22) rfl)) (hw _ (own_g (i := 23) rfl)) e0 (g := (mkF m 1 #[.val (.ref a)] [(.ref a)])) rfl (by rw [hml]; rfl) rfl (hb hby d9_1) (by decide) (W := 0) (by show 2 * 0 + _ ≤ _; exact Nat.le_of_eq rfl) (by decide)
  have r2 : own_R p e below _ _ T2 (mkF m 4 #[.val (.ref a)] []) := r1.trans fun z_ kt => st2 _ kt
  have r3 : own_R p e below _ _ T2 (mkF m 8 #[.val (.ref a)] [(.int (1024 : Int32)), (.ref a)]) := r2.trans fun z_ kt => by
    refine XS.aloadN X2.here hx rfl (hb hby d9_4) rfl rfl ?_
    refine XS.sipush X2.here hx rfl (hb hby d9_5) ?_
    exact kt
  obtain ⟨T4, h4, k4, X4, e4, E4, A4, Ov4, st4⟩ := newR X2 hx hZ hown (hw _ (own_g (i := 59) rfl)) (hw _ (own_g (i := 1) rfl)) e2 (g := (mkF m 8 #[.val (.ref a)] [(.int (1024 : Int32)), (.ref a)])) rfl (hb hby d9_8) rfl (by decide) (cap := 1024) (by decide) (by decide) (by decide) (by decide)
  obtain ⟨b4, g4⟩ : ∃ z, z = h0.size := ⟨_, rfl⟩
  rw [← g4] at A4 st4
  have r4 : own_R p e below _ _ T4 (mkF m 11 #[.val (.ref a)] [(.ref b4), (.ref a)]) := r3.trans fun z_ kt => st4 _ kt
  have ne_a_b4 : a ≠ b4 := Nat.ne_of_lt (Nat.lt_of_lt_of_le E_a.lt (Nat.le_of_eq g4.symm))
  have g_b4 : n0 ≤ b4 := Nat.le_trans (own_old_size O0) (Nat.le_of_eq g4.symm)
  have sz_b4 : h0.size ≤ b4 := Nat.le_trans K0.1 (Nat.le_of_eq g4.symm)
  have O4 := O0.ext E4
  have K4 := K0.ext E4
  have V4 : Arv Z h4 b4 k4 (.object "java/lang/String") (1024 : Int32) [] .null := Arv.new A4 (by decide)
  have f5 := (F_a_kept.ext E4)
  have f6 := (E_a.ext E4)
  obtain ⟨T7, h7, X7, e7, W7, st7⟩ := putF X4 hx hZ hown (host := "") (Or.inl (hw _ (own_g (i := 60) rfl))) Via.refl e4 f5 f6 (Or.inl (hw _ (own_g (i := 61) rfl))) (hw _ (own_g (i := 53) rfl)) (ty := (.array (.object "java/lang/String"))) (v := (.ref b4)) (by decide) rfl rfl (g := (mkF m 11 #[.val (.ref a)] [(.ref b4), (.ref a)])) rfl rfl (hb hby d9_11)
  have r7 : own_R p e below _ _ T7 (mkF m 14 #[.val (.ref a)] []) := r4.trans fun z_ kt => st7 _ kt
  have N7 := Fr.snoc X7 N0 g_a
  have O7 := O4.wr W7 g_a
  have K7 := K4.wr W7 (Or.inl (List.mem_of_getElem? (i := 0) rfl))
  have F7 := f5.same W7
  have f8 := ((F_a_count.ext E4).other W7 (Or.inr (slot_ne (Or.inl (hw _ (own_g (i := 116) rfl))) (Or.inl (hw _ (own_g (i := 61) rfl))) (by decide) (t := .long) (t' := (.array (.object "java/lang/String"))) (by decide) (by decide))))
  have f9 := ((F_a_forgottenOnGrowth.ext E4).other W7 (Or.inr (slot_ne (Or.inl (hw _ (own_g (i := 127) rfl))) (Or.inl (hw _ (own_g (i := 61) rfl))) (by decide) (t := .long) (t' := (.array (.object "java/lang/String"))) (by decide) (by decide))))
  have f10 := (V4.other W7 (Ne.symm ne_a_b4))
  obtain ⟨fs_, hr_, hrun_, hended_, hW_, hsame_⟩ := X7.leave (v := none) (fun _ => rfl)
  refine ⟨_, _, pre0 _ (r7 _ ?_), hrun_, hended_, _, _, rfl, ?_, ⟨_, rfl⟩, hW_, hsame_.mono (by decide) (by decide)⟩
  · exact X7.returnOut hx Bd.returns (hb hby d9_14) hr_
  · show Q_rcInit Z a u1 h0 n0 _ T7.heap _
    rw [e7]
    exact ⟨b4, k4, rfl, N7, K7, sz_b4, F7, f8, f9, f10, Ov4⟩

theorem d10_0 : decode prog_14_method_4_code 0 = .ok (.aload_n 1, 1) := by decide +kernel
theorem d10_1 : decode prog_14_method_4_code 1 = .ok (.invokeinterface 41 1, 5) := by decide +kernel
theorem pd_9 : parseMethodDescriptor "()Ljava/util/Iterator;" = some ⟨[], some (.object "java/util/Iterator")⟩ := by decide +kernel
theorem d10_6 : decode prog_14_method_4_code 6 = .ok (.astore_n 2, 1) := by decide +kernel
theorem d10_7 : decode prog_14_method_4_code 7 = .ok (.aload_n 2, 1) := by decide +kernel
theorem d10_8 : decode prog_14_method_4_code 8 = .ok (.invokeinterface 47 1, 5) := by decide +kernel
theorem pd_10 : parseMethodDescriptor "()Z" = some ⟨[], some .boolean⟩ := by decide +kernel
theorem d10_13 : decode prog_14_method_4_code 13 = .ok (.ifCond .eq 44, 3) := by decide +kernel
theorem d10_57 : decode prog_14_method_4_code 57 = .ok (.return_, 1) := by decide +kernel
theorem d10_16 : decode prog_14_method_4_code 16 = .ok (.aload_n 2, 1) := by decide +kernel
theorem d10_17 : decode prog_14_method_4_code 17 = .ok (.invokeinterface 53 1, 5) := by decide +kernel
theorem pd_11 : parseMethodDescriptor "()Ljava/lang/Object;" = some ⟨[], some (.object "java/lang/Object")⟩ := by decide +kernel
theorem d10_22 : decode prog_14_method_4_code 22 = .ok (.checkcast 11, 3) := by decide +kernel
theorem d10_25 : decode prog_14_method_4_code 25 = .ok (.astore_n 3, 1) := by decide +kernel
theorem d10_26 : decode prog_14_method_4_code 26 = .ok (.aload_n 0, 1) := by decide +kernel
theorem d10_27 : decode prog_14_method_4_code 27 = .ok (.getfield 13, 3) := by decide +kernel
theorem d10_30 : decode prog_14_method_4_code 30 = .ok (.aload_n 0, 1) := by decide +kernel
theorem d10_31 : decode prog_14_method_4_code 31 = .ok (.getfield 17, 3) := by decide +kernel
theorem d10_34 : decode prog_14_method_4_code 34 = .ok (.aload_n 0, 1) := by decide +kernel
theorem d10_35 : decode prog_14_method_4_code 35 = .ok (.getfield 13, 3) := by decide +kernel
theorem d10_38 : decode prog_14_method_4_code 38 = .ok (.arraylength, 1) := by decide +kernel
theorem d10_39 : decode prog_14_method_4_code 39 = .ok (.i2l, 1) := by decide +kernel
theorem d10_40 : decode prog_14_method_4_code 40 = .ok (.lrem, 1) := by decide +kernel
theorem d10_41 : decode prog_14_method_4_code 41 = .ok (.l2i, 1) := by decide +kernel
theorem d10_42 : decode prog_14_method_4_code 42 = .ok (.aload_n 3, 1) := by decide +kernel
theorem d10_43 : decode prog_14_method_4_code 43 = .ok (.aastore, 1) := by decide +kernel
theorem d10_44 : decode prog_14_method_4_code 44 = .ok (.aload_n 0, 1) := by decide +kernel
theorem d10_45 : decode prog_14_method_4_code 45 = .ok (.dup, 1) := by decide +kernel
theorem d10_46 : decode prog_14_method_4_code 46 = .ok (.getfield 17, 3) := by decide +kernel
theorem d10_49 : decode prog_14_method_4_code 49 = .ok (.lconst 1, 1) := by decide +kernel
theorem d10_50 : decode prog_14_method_4_code 50 = .ok (.ladd, 1) := by decide +kernel
theorem d10_51 : decode prog_14_method_4_code 51 = .ok (.putfield 17, 3) := by decide +kernel
theorem d10_54 : decode prog_14_method_4_code 54 = .ok (.goto (-47), 3) := by decide +kernel
theorem ef_rcAdd (m : MethodId) (a : Addr) (l_ : Addr) : entryFrame m #[(.ref a), (.ref l_)] 4 = mkF m 0 #[.val (.ref a), .val (.ref l_), .unset, .unset] [] := by first | (simp [entryFrame, mkF, argsToLocals, Value.category]; done) | rfl
def Q_rcAdd (Z : State) (a : Addr) (l_ : Addr) (kp : Addr) (kk : ClassId) (jc : Int64) (zk : Int32) (vs : List Value) (arr : Addr) (ka : ClassId) (z : Int32) (ys : List Addr) (ps : Int32) (pm : Int32) (h0 : Heap) (n0 : Nat) (v_ : Option Value) (h_ : Heap) (L_ : List Loc) : Prop := ∃ (jc2 : Int64), v_ = none ∧ Fr n0 L_ ∧ Keep h0 h_ [a, kp] ∧ (Fld Z h_ a "com/example/kleinbasel/kleinbasel/content/RecentChanges" "kept" "[Ljava/lang/String;" (.ref kp)) ∧ (Fld Z h_ a "com/example/kleinbasel/kleinbasel/content/RecentChanges" "count" "J" (.long jc2)) ∧ (Fld Z h_ a "com/example/kleinbasel/kleinbasel/content/RecentChanges" "forgottenOnGrowth" "J" (.long (0 : Int64))) ∧ (Arv Z h_ kp kk (.object "java/lang/String") zk (vs ++ ys.map Value.ref) .null) ∧ (jc2.toInt = (vs ++ ys.map Value.ref).length)
set_option maxRecDepth 65536 in
set_option maxHeartbeats 40000000 in
theorem rm_rcAdd (l : Launch) (Z : State) (a0 : Array Value) (hw : ∀ d ∈ tables_1, d.before a0 Z = true) (ws : List Jvm.Cond) (a : Addr) (l_ : Addr) (kp : Addr) (kk : ClassId) (jc : Int64) (zk : Int32) (vs : List Value) (arr : Addr) (ka : ClassId) (z : Int32) (ys : List Addr) (ps : Int32) (pm : Int32) (h0 : Heap) (n0 : Nat) (O0 : Old Z n0 h0) (E_a : Exa Z h0 a "com/example/kleinbasel/kleinbasel/content/RecentChanges") (g_a : n0 ≤ a) (F_a_kept : Fld Z h0 a "com/example/kleinbasel/kleinbasel/content/RecentChanges" "kept" "[Ljava/lang/String;" (.ref kp)) (F_a_count : Fld Z h0 a "com/example/kleinbasel/kleinbasel/content/RecentChanges" "count" "J" (.long jc)) (F_a_forgottenOnGrowth : Fld Z h0 a "com/example/kleinbasel/kleinbasel/content/RecentChanges" "forgottenOnGrowth" "J" (.long (0 : Int64))) (V_kp : Arv Z h0 kp kk (.object "java/lang/String") zk vs .null) (g_kp : n0 ≤ kp) (Ov_kk : Ovr Z kk "java/lang/String") (hvl : jc.toInt = vs.length) (hjc : vs.length ≤ 3 ∧ 1024 ≤ zk.toInt) (E_l_ : Exa Z h0 l_ "java/util/ArrayList") (F_l__modCount : Fld Z h0 l_ "java/util/AbstractList" "modCount" "I" (.int pm)) (F_l__size : Fld Z h0 l_ "java/util/ArrayList" "size" "I" (.int ps)) (F_l__elementData : Fld Z h0 l_ "java/util/ArrayList" "elementData" "[Ljava/lang/Object;" (.ref arr)) (V_arr : Arv Z h0 arr ka (.object "java/lang/Object") z (ys.map Value.ref) .null) (hr0 : (ps = (0 : Int32) ∧ ys = []) ∨ (∃ y0, ps = (1 : Int32) ∧ ys = [y0]) ∨ (∃ y0 y1, ps = (2 : Int32) ∧ ys = [y0, y1]) ∨ (∃ y0 y1 y2, ps = (3 : Int32) ∧ ys = [y0, y1, y2])) (hz : ps = (0 : Int32) ∨ (3 : Int32) < z) (hE : ys.all (fun _ => true) = true ∧ ∀ y ∈ ys, Exa Z h0 y "java/lang/String") (ne_kp_arr : kp ≠ arr) :
    MetFree l (⟨"com/example/kleinbasel/kleinbasel/content/RecentChanges", "add", "(Ljava/util/Collection;)V"⟩ : MethodName) (head1 (Jvm.Cond.code (⟨"com/example/kleinbasel/kleinbasel/content/RecentChanges", "add", "(Ljava/util/Collection;)V"⟩ : MethodName) prog_14_method_4_code 4 none :: ws) ({ frames := 3, cells := 1, slots := 4, locals := 38 } : Room)) (fun aa_ U_ => aa_ = #[(.ref a), (.ref l_)] ∧ Z.Warmed39 U_.vm ∧ U_.heap = h0) (fun _ _ _ _ _ => True) (fun _ U_ o_ U_' => ∃ v_ L_, o_ = .returned v_ ∧ Q_rcAdd Z a l_ kp kk jc zk vs arr ka z ys ps pm h0 n0 v_ U_'.heap L_ ∧ FrameEnd U_ o_ U_' L_ ({ frames := 3, cells := 1, slots := 4, locals := 38 } : Room).cells ({ frames := 3, cells := 1, slots := 4, locals := 38 } : Room).slots) := by
  refine MetFree.of_bodySF (plainFor_of_name pn_RecentChanges) hisR ?_
  intro p e s m args below meth c s₁ Bd hml0 hP hK
  obtain ⟨rfl, hZ, hh⟩ := hP
  have hx := Bd.exec
  have hby := Bd.bytes
  have hml : c.maxLocals = 4 := hml0
  have hown : s.vm.findClass "com/example/kleinbasel/kleinbasel/content/RecentChanges" = some m.cls := findClass_of_methodNamed Bd.named
  have hnm := (name_of_methodNamed Bd.named Bd.method).1
  have X0 : Stand p l e ({ frames := 3, cells := 1, slots := 4, locals := 38 } : Room) s m #[(.ref a), (.ref l_)] below meth c s₁ [] 0 0 := Stand.of_body Bd
  have e0 : s₁.heap = h0 := by rw [← hh, Bd.state]; rfl
  have N0 := Fr.nil n0
  have K0 : Keep h0 h0 [a, kp] := Keep.refl h0 _
  have pre0 : ∀ z_, Steps p.tables e below (s₁.setTop (mkF m 0 #[.val (.ref a), .val (.ref l_), .unset, .unset] [])) z_ → Steps p.tables e below (s₁.setTop (entryFrame m #[(.ref a), (.ref l_)] 4)) z_ := fun z_ k_ => castTop (ef_rcAdd m a l_) k_
  have r0 : own_R p e below s₁ (mkF m 0 #[.val (.ref a), .val (.ref l_), .unset, .unset] []) s₁ (mkF m 0 #[.val (.ref a), .val (.ref l_), .unset, .unset] []) := own_R.refl
  have ne_a_kp : a ≠ kp := (own_ne_arv E_a (hw _ (own_g (i := 53) rfl)) V_kp)
  have ne_a_l_ : a ≠ l_ := (ne_exa E_a E_l_ (by decide))
  have ne_a_arr : a ≠ arr := (own_ne_arv E_a (hw _ (own_g (i := 53) rfl)) V_arr)
  have ne_kp_l_ : kp ≠ l_ := (Ne.symm (own_ne_arv E_l_ (hw _ (own_g (i := 29) rfl)) V_kp))
  have ne_l__arr : l_ ≠ arr := (own_ne_arv E_l_ (hw _ (own_g (i := 29) rfl)) V_arr)
  rcases hr0 with ⟨hp, hy⟩ | ⟨y0, hp, hy⟩ | ⟨y0, y1, hp, hy⟩ | ⟨y0, y1, y2, hp, hy⟩
  · skip
    rw [hp] at F_l__size hz
    rw [hy] at V_arr hE
    have V_arr' : Arv Z h0 arr ka (.object "java/lang/Object") z [] .null := V_arr
    have r1 : own_R p e below _ _ s₁ (mkF m 1 #[.val (.ref a), .val (.ref l_), .unset, .unset] [(.ref l_)]) := r0.trans fun z_ kt => by
      refine XS.aloadN X0.here hx rfl (hb hby d10_0) rfl rfl ?_
      exact kt
    obtain ⟨cq2, kq2, q2a, q2b, q2c⟩ := isOf hZ e0 E_l_
    obtain ⟨_, _, ⟨T2, L2, cc2, n2⟩, -, X2, ⟨Lc2, hQ2, l2, y2, z2⟩, st2⟩ := X0.interfaceBack hx (xi := (⟨"java/util/Collection", "iterator", "()Ljava/util/Iterator;"⟩ : MethodName)) (y := (⟨"java/util/ArrayList", "iterator", "()Ljava/util/Iterator;"⟩ : MethodName)) hown (mvT hZ (hw _ (own_g (i := 67) rfl))) (mvT hZ (hw _ (own_g (i := 68) rfl))) (mvT hZ (hw _ (own_g (i := 69) rfl))) (mvT hZ (hw _ (own_g (i := 70) rfl))) (mvT hZ (hw _ (own_g (i := 71) rfl))) (mvT hZ (hw _ (own_g (i := 72) rfl))) (mvT hZ (hw _ (own_g (i := 73) rfl))) (mvT hZ (hw _ (own_g (i := 74) rfl))) (by decide) (backOf (W := 0) (rm_iter l Z a0 hw [] (l_) (pm) h0 n0 O0 (E_l_) (F_l__modCount)) hZ (hw _ (own_g (i := 75) rfl)) (hw _ (own_g (i := 30) rfl)) (by decide) (by decide)) q2a q2b q2c (g := (mkF m 1 #[.val (.ref a), .val (.ref l_), .unset, .unset] [(.ref l_)])) rfl (by rw [hml]; rfl) (Steps.refl _) (argsL := []) (rest := []) (lenOf pd_9 rfl) rfl (by show 2 * 0 + _ ≤ _; exact Nat.le_of_eq rfl) (hb hby d10_1) (fun _ _ => ⟨rfl, e0, (by decide : 0 + 1 ≤ _), (by decide : 0 + 4 ≤ _)⟩)
    dsimp only [Pt.U, Pt.locs, Pt.cells, Pt.slots] at X2 l2 y2 z2 st2 hQ2
    subst l2 y2 z2
    obtain ⟨h2, e2⟩ : ∃ z, T2.heap = z := ⟨_, rfl⟩
    rw [e2] at hQ2
    obtain ⟨b_2, rfl, Nq2, Kq2, p2_0, p2_1, p2_2, p2_3, p2_4, p2_5⟩ := hQ2
    have N2 := Fr.app N0 Nq2
    have r2 : own_R p e below _ _ T2 (mkF m 6 #[.val (.ref a), .val (.ref l_), .unset, .unset] [(.ref b_2)]) := r1.trans fun z_ kt => st2.trans kt
    have ne_a_b_2 : a ≠ b_2 := Nat.ne_of_lt (Nat.lt_of_lt_of_le E_a.lt p2_0)
    have ne_kp_b_2 : kp ≠ b_2 := Nat.ne_of_lt (Nat.lt_of_lt_of_le V_kp.lt p2_0)
    have ne_l__b_2 : l_ ≠ b_2 := Nat.ne_of_lt (Nat.lt_of_lt_of_le E_l_.lt p2_0)
    have ne_arr_b_2 : arr ≠ b_2 := Nat.ne_of_lt (Nat.lt_of_lt_of_le V_arr'.lt p2_0)
    have g_b_2 : n0 ≤ b_2 := Nat.le_trans (own_old_size O0) p2_0
    have sz_b_2 : h0.size ≤ b_2 := Nat.le_trans K0.1 p2_0
    have O2 := O0.keep Kq2 all0
    have K2 := K0.trans Kq2 all0
    have r3 : own_R p e below _ _ T2 (mkF m 8 #[.val (.ref a), .val (.ref l_), .val (.ref b_2), .unset] [(.ref b_2)]) := r2.trans fun z_ kt => by
      refine XS.astoreN X2.here hx rfl (hb hby d10_6) rfl rfl (l' := #[.val (.ref a), .val (.ref l_), .val (.ref b_2), .unset]) rfl ?_
      refine XS.aloadN X2.here hx rfl (hb hby d10_7) rfl rfl ?_
      exact kt
    have f4 := (F_l__size.keep Kq2 nin0)
    obtain ⟨cq5, kq5, q5a, q5b, q5c⟩ := isOf hZ e2 p2_1
    obtain ⟨_, _, ⟨T5, L5, cc5, n5⟩, -, X5, ⟨Lc5, hQ5, l5, y5, z5⟩, st5⟩ := X2.interfaceBack hx (xi := (⟨"java/util/Iterator", "hasNext", "()Z"⟩ : MethodName)) (y := (⟨"java/util/ArrayList$Itr", "hasNext", "()Z"⟩ : MethodName)) hown (mvT hZ (hw _ (own_g (i := 92) rfl))) (mvT hZ (hw _ (own_g (i := 93) rfl))) (mvT hZ (hw _ (own_g (i := 94) rfl))) (mvT hZ (hw _ (own_g (i := 95) rfl))) (mvT hZ (hw _ (own_g (i := 96) rfl))) (mvT hZ (hw _ (own_g (i := 97) rfl))) (mvT hZ (hw _ (own_g (i := 98) rfl))) (mvT hZ (hw _ (own_g (i := 99) rfl))) (by decide) (backOf (W := 0) (rm_hasNext l Z a0 hw [] (b_2) (l_) ((0 : Int32)) ((0 : Int32)) ((0 : Int32)) h2 n0 O2 (p2_2) (p2_4) (f4) (Or.inl ⟨by decide, rfl⟩)) hZ (hw _ (own_g (i := 100) rfl)) (hw _ (own_g (i := 78) rfl)) (by decide) (by decide)) q5a q5b q5c (g := (mkF m 8 #[.val (.ref a), .val (.ref l_), .val (.ref b_2), .unset] [(.ref b_2)])) rfl (by rw [hml]; rfl) (Steps.refl _) (argsL := []) (rest := []) (lenOf pd_10 rfl) rfl (by show 2 * 0 + _ ≤ _; exact Nat.le_of_eq rfl) (hb hby d10_8) (fun _ _ => ⟨rfl, e2, (by decide : 1 + 0 ≤ _), (by decide : 4 + 0 ≤ _)⟩)
    dsimp only [Pt.U, Pt.locs, Pt.cells, Pt.slots] at X5 l5 y5 z5 st5 hQ5
    subst l5 y5 z5
    obtain ⟨rfl, Nq5, eq5⟩ := hQ5
    have N5 := Fr.app N2 Nq5
    have r5 : own_R p e below _ _ T5 (mkF m 13 #[.val (.ref a), .val (.ref l_), .val (.ref b_2), .unset] [(.int (0 : Int32))]) := r3.trans fun z_ kt => st5.trans kt
    have e5 : T5.heap = h2 := eq5
    have r6 : own_R p e below _ _ T5 (mkF m 57 #[.val (.ref a), .val (.ref l_), .val (.ref b_2), .unset] []) := r5.trans fun z_ kt => by
      refine XS.ifYes X5.here hx rfl (pc0 := 13) (pc' := 57) rfl (hb hby d10_13) rfl ((if0 _ _).trans (teq (by decide : (0 : Int32) = (0 : Int32))).1) (by decide) (by decide) ?_
      exact kt
    have f7 := (V_kp.keep Kq2 nin0)
    have f8 := (F_a_kept.keep Kq2 nin0)
    have f9 := (F_a_count.keep Kq2 nin0)
    have f10 := (F_a_forgottenOnGrowth.keep Kq2 nin0)
    obtain ⟨fs_, hr_, hrun_, hended_, hW_, hsame_⟩ := X5.leave (v := none) (fun _ => rfl)
    refine ⟨_, _, pre0 _ (r6 _ ?_), hrun_, hended_, _, _, rfl, ?_, ⟨_, rfl⟩, hW_, hsame_.mono (by decide) (by decide)⟩
    · exact X5.returnOut hx Bd.returns (hb hby d10_57) hr_
    · show Q_rcAdd Z a l_ kp kk jc zk vs arr ka z ys ps pm h0 n0 _ T5.heap _
      rw [e5]
      exact ⟨jc, rfl, N5, K2, f8, f9, f10, (by rw [hy]; exact own_assoc0 f7), by rw [hy]; exact own_cnt0 hvl hjc⟩
  · skip
    rw [hp] at F_l__size hz
    rw [hy] at V_arr hE
    have hz' := hz.resolve_left (by decide)
    have V_arr' : Arv Z h0 arr ka (.object "java/lang/Object") z [(.ref y0)] .null := V_arr
    have Ey0 := hE.2 y0 (by simp)
    have r11 : own_R p e below _ _ s₁ (mkF m 1 #[.val (.ref a), .val (.ref l_), .unset, .unset] [(.ref l_)]) := r0.trans fun z_ kt => by
      refine XS.aloadN X0.here hx rfl (hb hby d10_0) rfl rfl ?_
      exact kt
    obtain ⟨cq12, kq12, q12a, q12b, q12c⟩ := isOf hZ e0 E_l_
    obtain ⟨_, _, ⟨T12, L12, cc12, n12⟩, -, X12, ⟨Lc12, hQ12, l12, y12, z12⟩, st12⟩ := X0.interfaceBack hx (xi := (⟨"java/util/Collection", "iterator", "()Ljava/util/Iterator;"⟩ : MethodName)) (y := (⟨"java/util/ArrayList", "iterator", "()Ljava/util/Iterator;"⟩ : MethodName)) hown (mvT hZ (hw _ (own_g (i := 67) rfl))) (mvT hZ (hw _ (own_g (i := 68) rfl))) (mvT hZ (hw _ (own_g (i := 69) rfl))) (mvT hZ (hw _ (own_g (i := 70) rfl))) (mvT hZ (hw _ (own_g (i := 71) rfl))) (mvT hZ (hw _ (own_g (i := 72) rfl))) (mvT hZ (hw _ (own_g (i := 73) rfl))) (mvT hZ (hw _ (own_g (i := 74) rfl))) (by decide) (backOf (W := 0) (rm_iter l Z a0 hw [] (l_) (pm) h0 n0 O0 (E_l_) (F_l__modCount)) hZ (hw _ (own_g (i := 75) rfl)) (hw _ (own_g (i := 30) rfl)) (by decide) (by decide)) q12a q12b q12c (g := (mkF m 1 #[.val (.ref a), .val (.ref l_), .unset, .unset] [(.ref l_)])) rfl (by rw [hml]; rfl) (Steps.refl _) (argsL := []) (rest := []) (lenOf pd_9 rfl) rfl (by show 2 * 0 + _ ≤ _; exact Nat.le_of_eq rfl) (hb hby d10_1) (fun _ _ => ⟨rfl, e0, (by decide : 0 + 1 ≤ _), (by decide : 0 + 4 ≤ _)⟩)
    dsimp only [Pt.U, Pt.locs, Pt.cells, Pt.slots] at X12 l12 y12 z12 st12 hQ12
    subst l12 y12 z12
    obtain ⟨h12, e12⟩ : ∃ z, T12.heap = z := ⟨_, rfl⟩
    rw [e12] at hQ12
    obtain ⟨b_12, rfl, Nq12, Kq12, p12_0, p12_1, p12_2, p12_3, p12_4, p12_5⟩ := hQ12
    have N12 := Fr.app N0 Nq12
    have r12 : own_R p e below _ _ T12 (mkF m 6 #[.val (.ref a), .val (.ref l_), .unset, .unset] [(.ref b_12)]) := r11.trans fun z_ kt => st12.trans kt
    have ne_a_b_12 : a ≠ b_12 := Nat.ne_of_lt (Nat.lt_of_lt_of_le E_a.lt p12_0)
    have ne_kp_b_12 : kp ≠ b_12 := Nat.ne_of_lt (Nat.lt_of_lt_of_le V_kp.lt p12_0)
    have ne_l__b_12 : l_ ≠ b_12 := Nat.ne_of_lt (Nat.lt_of_lt_of_le E_l_.lt p12_0)
    have ne_arr_b_12 : arr ≠ b_12 := Nat.ne_of_lt (Nat.lt_of_lt_of_le V_arr'.lt p12_0)
    have ne_y0_b_12 : y0 ≠ b_12 := Nat.ne_of_lt (Nat.lt_of_lt_of_le Ey0.lt p12_0)
    have g_b_12 : n0 ≤ b_12 := Nat.le_trans (own_old_size O0) p12_0
    have sz_b_12 : h0.size ≤ b_12 := Nat.le_trans K0.1 p12_0
    have O12 := O0.keep Kq12 all0
    have K12 := K0.trans Kq12 all0
    have r13 : own_R p e below _ _ T12 (mkF m 8 #[.val (.ref a), .val (.ref l_), .val (.ref b_12), .unset] [(.ref b_12)]) := r12.trans fun z_ kt => by
      refine XS.astoreN X12.here hx rfl (hb hby d10_6) rfl rfl (l' := #[.val (.ref a), .val (.ref l_), .val (.ref b_12), .unset]) rfl ?_
      refine XS.aloadN X12.here hx rfl (hb hby d10_7) rfl rfl ?_
      exact kt
    have f14 := (F_l__size.keep Kq12 nin0)
    obtain ⟨cq15, kq15, q15a, q15b, q15c⟩ := isOf hZ e12 p12_1
    obtain ⟨_, _, ⟨T15, L15, cc15, n15⟩, -, X15, ⟨Lc15, hQ15, l15, y15, z15⟩, st15⟩ := X12.interfaceBack hx (xi := (⟨"java/util/Iterator", "hasNext", "()Z"⟩ : MethodName)) (y := (⟨"java/util/ArrayList$Itr", "hasNext", "()Z"⟩ : MethodName)) hown (mvT hZ (hw _ (own_g (i := 92) rfl))) (mvT hZ (hw _ (own_g (i := 93) rfl))) (mvT hZ (hw _ (own_g (i := 94) rfl))) (mvT hZ (hw _ (own_g (i := 95) rfl))) (mvT hZ (hw _ (own_g (i := 96) rfl))) (mvT hZ (hw _ (own_g (i := 97) rfl))) (mvT hZ (hw _ (own_g (i := 98) rfl))) (mvT hZ (hw _ (own_g (i := 99) rfl))) (by decide) (backOf (W := 0) (rm_hasNext l Z a0 hw [] (b_12) (l_) ((0 : Int32)) ((1 : Int32)) ((1 : Int32)) h12 n0 O12 (p12_2) (p12_4) (f14) (Or.inr ⟨by decide, rfl⟩)) hZ (hw _ (own_g (i := 100) rfl)) (hw _ (own_g (i := 78) rfl)) (by decide) (by decide)) q15a q15b q15c (g := (mkF m 8 #[.val (.ref a), .val (.ref l_), .val (.ref b_12), .unset] [(.ref b_12)])) rfl (by rw [hml]; rfl) (Steps.refl _) (argsL := []) (rest := []) (lenOf pd_10 rfl) rfl (by show 2 * 0 + _ ≤ _; exact Nat.le_of_eq rfl) (hb hby d10_8) (fun _ _ => ⟨rfl, e12, (by decide : 1 + 0 ≤ _), (by decide : 4 + 0 ≤ _)⟩)
    dsimp only [Pt.U, Pt.locs, Pt.cells, Pt.slots] at X15 l15 y15 z15 st15 hQ15
    subst l15 y15 z15
    obtain ⟨rfl, Nq15, eq15⟩ := hQ15
    have N15 := Fr.app N12 Nq15
    have r15 : own_R p e below _ _ T15 (mkF m 13 #[.val (.ref a), .val (.ref l_), .val (.ref b_12), .unset] [(.int (1 : Int32))]) := r13.trans fun z_ kt => st15.trans kt
    have e15 : T15.heap = h12 := eq15
    have r16 : own_R p e below _ _ T15 (mkF m 17 #[.val (.ref a), .val (.ref l_), .val (.ref b_12), .unset] [(.ref b_12)]) := r15.trans fun z_ kt => by
      refine XS.ifNo X15.here hx rfl (hb hby d10_13) rfl ((if0 _ _).trans (feq (by decide : ¬ ((1 : Int32) = (0 : Int32)))).1) ?_
      refine XS.aloadN X15.here hx rfl (hb hby d10_16) rfl rfl ?_
      exact kt
    have f17 := (E_l_.keep Kq12)
    have f18 := (F_l__modCount.keep Kq12 nin0)
    have f19 := (F_l__elementData.keep Kq12 nin0)
    have f20 := (V_arr'.keep Kq12 nin0)
    obtain ⟨cq21, kq21, q21a, q21b, q21c⟩ := isOf hZ e15 p12_1
    obtain ⟨_, _, ⟨T21, L21, cc21, n21⟩, -, X21, ⟨Lc21, hQ21, l21, y21, z21⟩, st21⟩ := X15.interfaceBack hx (xi := (⟨"java/util/Iterator", "next", "()Ljava/lang/Object;"⟩ : MethodName)) (y := (⟨"java/util/ArrayList$Itr", "next", "()Ljava/lang/Object;"⟩ : MethodName)) hown (mvT hZ (hw _ (own_g (i := 178) rfl))) (mvT hZ (hw _ (own_g (i := 179) rfl))) (mvT hZ (hw _ (own_g (i := 180) rfl))) (mvT hZ (hw _ (own_g (i := 181) rfl))) (mvT hZ (hw _ (own_g (i := 182) rfl))) (mvT hZ (hw _ (own_g (i := 183) rfl))) (mvT hZ (hw _ (own_g (i := 184) rfl))) (mvT hZ (hw _ (own_g (i := 99) rfl))) (by decide) (backOf (W := 0) (rm_next l Z a0 hw [] (b_12) (l_) (pm) ((0 : Int32)) ((1 : Int32)) (arr) (ka) (z) ([(.ref y0)]) (y0) ((-1 : Int32)) h12 n0 O12 (p12_1) (g_b_12) (p12_2) (p12_3) (p12_4) (p12_5) (f17) (f18) (f14) (f19) (f20) (by decide) (⟨by decide, own_lt3 hz' (by decide)⟩) (rfl)) hZ (hw _ (own_g (i := 185) rfl)) (hw _ (own_g (i := 78) rfl)) (by decide) (by decide)) q21a q21b q21c (g := (mkF m 17 #[.val (.ref a), .val (.ref l_), .val (.ref b_12), .unset] [(.ref b_12)])) rfl (by rw [hml]; rfl) (Steps.refl _) (argsL := []) (rest := []) (lenOf pd_11 rfl) rfl (by show 2 * 0 + _ ≤ _; exact Nat.le_of_eq rfl) (hb hby d10_17) (fun _ _ => ⟨rfl, e15, (by decide : 1 + 0 ≤ _), (by decide : 4 + 0 ≤ _)⟩)
    dsimp only [Pt.U, Pt.locs, Pt.cells, Pt.slots] at X21 l21 y21 z21 st21 hQ21
    subst l21 y21 z21
    obtain ⟨h21, e21⟩ : ∃ z, T21.heap = z := ⟨_, rfl⟩
    rw [e21] at hQ21
    obtain ⟨rfl, Nq21, Kq21, p21_0, p21_1, p21_2, p21_3⟩ := hQ21
    have N21 := Fr.app N15 Nq21
    have r21 : own_R p e below _ _ T21 (mkF m 22 #[.val (.ref a), .val (.ref l_), .val (.ref b_12), .unset] [(.ref y0)]) := r16.trans fun z_ kt => st21.trans kt
    have O21 := O12.keep Kq21 (allS g_b_12 all0)
    have K21 := K12.trans Kq21 (allS (Or.inr sz_b_12) all0)
    have f22 := ((Ey0.keep Kq12).keep Kq21)
    obtain ⟨T23, X23, e23, st23⟩ := castY X21 hx hZ hown (hw _ (own_g (i := 59) rfl)) e21 (Ins.self f22) (g := (mkF m 22 #[.val (.ref a), .val (.ref l_), .val (.ref b_12), .unset] [(.ref y0)])) rfl rfl (hb hby d10_22)
    have r23 : own_R p e below _ _ T23 (mkF m 25 #[.val (.ref a), .val (.ref l_), .val (.ref b_12), .unset] [(.ref y0)]) := r21.trans fun z_ kt => st23 _ kt
    have f24 := ((F_a_kept.keep Kq12 nin0).keep Kq21 (ninS ne_a_b_12 nin0))
    have r25 : own_R p e below _ _ T23 (mkF m 27 #[.val (.ref a), .val (.ref l_), .val (.ref b_12), .val (.ref y0)] [(.ref a)]) := r23.trans fun z_ kt => by
      refine XS.astoreN X23.here hx rfl (hb hby d10_25) rfl rfl (l' := #[.val (.ref a), .val (.ref l_), .val (.ref b_12), .val (.ref y0)]) rfl ?_
      refine XS.aloadN X23.here hx rfl (hb hby d10_26) rfl rfl ?_
      exact kt
    obtain ⟨T26, X26, e26, st26⟩ := getF X23 hx hZ hown (host := "") (Or.inl (hw _ (own_g (i := 60) rfl))) Via.refl e23 f24 (g := (mkF m 27 #[.val (.ref a), .val (.ref l_), .val (.ref b_12), .val (.ref y0)] [(.ref a)])) rfl rfl (hb hby d10_27)
    have r26 : own_R p e below _ _ T26 (mkF m 30 #[.val (.ref a), .val (.ref l_), .val (.ref b_12), .val (.ref y0)] [(.ref kp)]) := r25.trans fun z_ kt => st26 _ kt
    have f27 := ((F_a_count.keep Kq12 nin0).keep Kq21 (ninS ne_a_b_12 nin0))
    have r28 : own_R p e below _ _ T26 (mkF m 31 #[.val (.ref a), .val (.ref l_), .val (.ref b_12), .val (.ref y0)] [(.ref a), (.ref kp)]) := r26.trans fun z_ kt => by
      refine XS.aloadN X26.here hx rfl (hb hby d10_30) rfl rfl ?_
      exact kt
    obtain ⟨T29, X29, e29, st29⟩ := getF X26 hx hZ hown (host := "") (Or.inl (hw _ (own_g (i := 115) rfl))) Via.refl e26 f27 (g := (mkF m 31 #[.val (.ref a), .val (.ref l_), .val (.ref b_12), .val (.ref y0)] [(.ref a), (.ref kp)])) rfl rfl (hb hby d10_31)
    have r29 : own_R p e below _ _ T29 (mkF m 34 #[.val (.ref a), .val (.ref l_), .val (.ref b_12), .val (.ref y0)] [(.long jc), (.ref kp)]) := r28.trans fun z_ kt => st29 _ kt
    have r30 : own_R p e below _ _ T29 (mkF m 35 #[.val (.ref a), .val (.ref l_), .val (.ref b_12), .val (.ref y0)] [(.ref a), (.long jc), (.ref kp)]) := r29.trans fun z_ kt => by
      refine XS.aloadN X29.here hx rfl (hb hby d10_34) rfl rfl ?_
      exact kt
    obtain ⟨T31, X31, e31, st31⟩ := getF X29 hx hZ hown (host := "") (Or.inl (hw _ (own_g (i := 60) rfl))) Via.refl e29 f24 (g := (mkF m 35 #[.val (.ref a), .val (.ref l_), .val (.ref b_12), .val (.ref y0)] [(.ref a), (.long jc), (.ref kp)])) rfl rfl (hb hby d10_35)
    have r31 : own_R p e below _ _ T31 (mkF m 38 #[.val (.ref a), .val (.ref l_), .val (.ref b_12), .val (.ref y0)] [(.ref kp), (.long jc), (.ref kp)]) := r30.trans fun z_ kt => st31 _ kt
    have f32 := ((V_kp.keep Kq12 nin0).keep Kq21 (ninS ne_kp_b_12 nin0))
    obtain ⟨cl33, Ar33, q33, S33, M33, H33, G33⟩ := id f32
    have Vp34 := f32.pad (pad_rep (vs : List Value) .null 1)
    obtain ⟨cl34, Ar34, q34, S34, M34, H34, G34⟩ := Vp34
    have hin34 : ¬ (((jc - (jc / (zk.toInt64)) * (zk.toInt64)).toInt32) < 0 ∨ cl34.slots.size ≤ (((jc - (jc / (zk.toInt64)) * (zk.toInt64)).toInt32)).toNatClampNeg) := inb_of S34 (own_ixA0 hvl hjc).1
    have r35 : own_R p e below _ _ T31 (mkF m 43 #[.val (.ref a), .val (.ref l_), .val (.ref b_12), .val (.ref y0)] [(.ref y0), (.int ((jc - (jc / (zk.toInt64)) * (zk.toInt64)).toInt32)), (.ref kp)]) := r31.trans fun z_ kt => by
      refine X31.arraylength hx (by rw [e31]; exact Ar33.1) (State.isArrayOf_alike hZ.alike Ar33.2.1) (g := (mkF m 38 #[.val (.ref a), .val (.ref l_), .val (.ref b_12), .val (.ref y0)] [(.ref kp), (.long jc), (.ref kp)])) rfl rfl (hb hby d10_38) _ ?_
      rw [len_of S33 M33]
      refine XS.i2l X31.here hx rfl (hb hby d10_39) rfl ?_
      refine XS.lrem X31.here hx rfl (hb hby d10_40) rfl (own_zne hjc.2) ?_
      refine XS.l2i X31.here hx rfl (hb hby d10_41) rfl ?_
      refine XS.aloadN X31.here hx rfl (hb hby d10_42) rfl rfl ?_
      exact kt
    obtain ⟨T36, h36, X36, e36, W36, st36⟩ := stR X31 hx hZ e31 Ar34 (j := ((jc - (jc / (zk.toInt64)) * (zk.toInt64)).toInt32)) hin34 rfl (Sto.ofV Ar34 q34 Ov_kk (Ins.self f22)) (g := (mkF m 43 #[.val (.ref a), .val (.ref l_), .val (.ref b_12), .val (.ref y0)] [(.ref y0), (.int ((jc - (jc / (zk.toInt64)) * (zk.toInt64)).toInt32)), (.ref kp)])) rfl rfl (hb hby d10_43)
    have r36 : own_R p e below _ _ T36 (mkF m 44 #[.val (.ref a), .val (.ref l_), .val (.ref b_12), .val (.ref y0)] []) := r35.trans fun z_ kt => st36 _ kt
    have N36 := Fr.snoc X36 N21 g_kp
    have O36 := O21.wr W36 g_kp
    have K36 := K21.wr W36 (Or.inl (List.mem_of_getElem? (i := 1) rfl))
    have V36 : Arv Z h36 kp kk (.object "java/lang/String") zk (vs ++ [(.ref y0)]) .null := own_app (Arv.set Ar34 q34 S34 M34 H34 G34 rfl W36 (vs : List Value).length (own_ixA0 hvl hjc).2 (own_lt1 _ _))
    have f37 := (f27.other W36 (Or.inl ne_a_kp))
    have r38 : own_R p e below _ _ T36 (mkF m 46 #[.val (.ref a), .val (.ref l_), .val (.ref b_12), .val (.ref y0)] [(.ref a), (.ref a)]) := r36.trans fun z_ kt => by
      refine XS.aloadN X36.here hx rfl (hb hby d10_44) rfl rfl ?_
      refine XS.dup X36.here hx rfl (hb hby d10_45) rfl rfl ?_
      exact kt
    obtain ⟨T39, X39, e39, st39⟩ := getF X36 hx hZ hown (host := "") (Or.inl (hw _ (own_g (i := 115) rfl))) Via.refl e36 f37 (g := (mkF m 46 #[.val (.ref a), .val (.ref l_), .val (.ref b_12), .val (.ref y0)] [(.ref a), (.ref a)])) rfl rfl (hb hby d10_46)
    have r39 : own_R p e below _ _ T39 (mkF m 49 #[.val (.ref a), .val (.ref l_), .val (.ref b_12), .val (.ref y0)] [(.long jc), (.ref a)]) := r38.trans fun z_ kt => st39 _ kt
    have f40 := (((E_a.keep Kq12).keep Kq21).wr W36)
    have r41 : own_R p e below _ _ T39 (mkF m 51 #[.val (.ref a), .val (.ref l_), .val (.ref b_12), .val (.ref y0)] [(.long (jc + (1 : Int64))), (.ref a)]) := r39.trans fun z_ kt => by
      refine XS.lconst X39.here hx rfl (hb hby d10_49) ?_
      refine XS.ladd X39.here hx rfl (hb hby d10_50) rfl ?_
      exact kt
    obtain ⟨T42, h42, X42, e42, W42, st42⟩ := putF X39 hx hZ hown (host := "") (Or.inl (hw _ (own_g (i := 115) rfl))) Via.refl e39 f37 f40 (Or.inl (hw _ (own_g (i := 116) rfl))) (hw _ (own_g (i := 53) rfl)) (ty := .long) (v := (.long (jc + (1 : Int64)))) (by decide) rfl rfl (g := (mkF m 51 #[.val (.ref a), .val (.ref l_), .val (.ref b_12), .val (.ref y0)] [(.long (jc + (1 : Int64))), (.ref a)])) rfl rfl (hb hby d10_51)
    have r42 : own_R p e below _ _ T42 (mkF m 54 #[.val (.ref a), .val (.ref l_), .val (.ref b_12), .val (.ref y0)] []) := r41.trans fun z_ kt => st42 _ kt
    have N42 := Fr.snoc X42 N36 g_a
    have O42 := O36.wr W42 g_a
    have K42 := K36.wr W42 (Or.inl (List.mem_of_getElem? (i := 0) rfl))
    have F42 := f37.same W42
    have f43 := (((p12_1.keep Kq21).wr W36).wr W42)
    have r44 : own_R p e below _ _ T42 (mkF m 8 #[.val (.ref a), .val (.ref l_), .val (.ref b_12), .val (.ref y0)] [(.ref b_12)]) := r42.trans fun z_ kt => by
      refine XS.goto X42.here hx rfl (pc0 := 54) (pc' := 7) rfl (hb hby d10_54) (by decide) (by decide) ?_
      refine XS.aloadN X42.here hx rfl (hb hby d10_7) rfl rfl ?_
      exact kt
    have f45 := ((p21_0.other W36 (Or.inl (Ne.symm ne_kp_b_12))).other W42 (Or.inl (Ne.symm ne_a_b_12)))
    have f46 := ((p21_2.other W36 (Or.inl (Ne.symm ne_kp_b_12))).other W42 (Or.inl (Ne.symm ne_a_b_12)))
    have f47 := (((f14.keep Kq21 (ninS ne_l__b_12 nin0)).other W36 (Or.inl (Ne.symm ne_kp_l_))).other W42 (Or.inl (Ne.symm ne_a_l_)))
    obtain ⟨cq48, kq48, q48a, q48b, q48c⟩ := isOf hZ e42 f43
    obtain ⟨_, _, ⟨T48, L48, cc48, n48⟩, -, X48, ⟨Lc48, hQ48, l48, y48, z48⟩, st48⟩ := X42.interfaceBack hx (xi := (⟨"java/util/Iterator", "hasNext", "()Z"⟩ : MethodName)) (y := (⟨"java/util/ArrayList$Itr", "hasNext", "()Z"⟩ : MethodName)) hown (mvT hZ (hw _ (own_g (i := 92) rfl))) (mvT hZ (hw _ (own_g (i := 93) rfl))) (mvT hZ (hw _ (own_g (i := 94) rfl))) (mvT hZ (hw _ (own_g (i := 95) rfl))) (mvT hZ (hw _ (own_g (i := 96) rfl))) (mvT hZ (hw _ (own_g (i := 97) rfl))) (mvT hZ (hw _ (own_g (i := 98) rfl))) (mvT hZ (hw _ (own_g (i := 99) rfl))) (by decide) (backOf (W := 0) (rm_hasNext l Z a0 hw [] (b_12) (l_) (((0 : Int32) + (1 : Int32))) ((1 : Int32)) ((0 : Int32)) h42 n0 O42 (f45) (f46) (f47) (Or.inl ⟨by decide, rfl⟩)) hZ (hw _ (own_g (i := 100) rfl)) (hw _ (own_g (i := 78) rfl)) (by decide) (by decide)) q48a q48b q48c (g := (mkF m 8 #[.val (.ref a), .val (.ref l_), .val (.ref b_12), .val (.ref y0)] [(.ref b_12)])) rfl (by rw [hml]; rfl) (Steps.refl _) (argsL := []) (rest := []) (lenOf pd_10 rfl) rfl (by show 2 * 0 + _ ≤ _; exact Nat.le_of_eq rfl) (hb hby d10_8) (fun _ _ => ⟨rfl, e42, (by decide : 1 + 0 ≤ _), (by decide : 4 + 0 ≤ _)⟩)
    dsimp only [Pt.U, Pt.locs, Pt.cells, Pt.slots] at X48 l48 y48 z48 st48 hQ48
    subst l48 y48 z48
    obtain ⟨rfl, Nq48, eq48⟩ := hQ48
    have N48 := Fr.app N42 Nq48
    have r48 : own_R p e below _ _ T48 (mkF m 13 #[.val (.ref a), .val (.ref l_), .val (.ref b_12), .val (.ref y0)] [(.int (0 : Int32))]) := r44.trans fun z_ kt => st48.trans kt
    have e48 : T48.heap = h42 := eq48
    have r49 : own_R p e below _ _ T48 (mkF m 57 #[.val (.ref a), .val (.ref l_), .val (.ref b_12), .val (.ref y0)] []) := r48.trans fun z_ kt => by
      refine XS.ifYes X48.here hx rfl (pc0 := 13) (pc' := 57) rfl (hb hby d10_13) rfl ((if0 _ _).trans (teq (by decide : (0 : Int32) = (0 : Int32))).1) (by decide) (by decide) ?_
      exact kt
    have f50 := (V36.other W42 (Ne.symm ne_a_kp))
    have f51 := ((f24.other W36 (Or.inl ne_a_kp)).other W42 (Or.inr (slot_ne (Or.inl (hw _ (own_g (i := 61) rfl))) (Or.inl (hw _ (own_g (i := 116) rfl))) (by decide) (t := (.array (.object "java/lang/String"))) (t' := .long) (by decide) (by decide))))
    have f52 := ((((F_a_forgottenOnGrowth.keep Kq12 nin0).keep Kq21 (ninS ne_a_b_12 nin0)).other W36 (Or.inl ne_a_kp)).other W42 (Or.inr (slot_ne (Or.inl (hw _ (own_g (i := 127) rfl))) (Or.inl (hw _ (own_g (i := 116) rfl))) (by decide) (t := .long) (t' := .long) (by decide) (by decide))))
    obtain ⟨fs_, hr_, hrun_, hended_, hW_, hsame_⟩ := X48.leave (v := none) (fun _ => rfl)
    refine ⟨_, _, pre0 _ (r49 _ ?_), hrun_, hended_, _, _, rfl, ?_, ⟨_, rfl⟩, hW_, hsame_.mono (by decide) (by decide)⟩
    · exact X48.returnOut hx Bd.returns (hb hby d10_57) hr_
    · show Q_rcAdd Z a l_ kp kk jc zk vs arr ka z ys ps pm h0 n0 _ T48.heap _
      rw [e48]
      exact ⟨(jc + (1 : Int64)), rfl, N48, K42, f51, F42, f52, (by rw [hy]; exact own_assoc1 f50), by rw [hy]; exact own_cnt1 hvl hjc⟩
  · skip
    rw [hp] at F_l__size hz
    rw [hy] at V_arr hE
    have hz' := hz.resolve_left (by decide)
    have V_arr' : Arv Z h0 arr ka (.object "java/lang/Object") z [(.ref y0), (.ref y1)] .null := V_arr
    have Ey0 := hE.2 y0 (by simp)
    have Ey1 := hE.2 y1 (by simp)
    have r53 : own_R p e below _ _ s₁ (mkF m 1 #[.val (.ref a), .val (.ref l_), .unset, .unset] [(.ref l_)]) := r0.trans fun z_ kt => by
      refine XS.aloadN X0.here hx rfl (hb hby d10_0) rfl rfl ?_
      exact kt
    obtain ⟨cq54, kq54, q54a, q54b, q54c⟩ := isOf hZ e0 E_l_
    obtain ⟨_, _, ⟨T54, L54, cc54, n54⟩, -, X54, ⟨Lc54, hQ54, l54, y54, z54⟩, st54⟩ := X0.interfaceBack hx (xi := (⟨"java/util/Collection", "iterator", "()Ljava/util/Iterator;"⟩ : MethodName)) (y := (⟨"java/util/ArrayList", "iterator", "()Ljava/util/Iterator;"⟩ : MethodName)) hown (mvT hZ (hw _ (own_g (i := 67) rfl))) (mvT hZ (hw _ (own_g (i := 68) rfl))) (mvT hZ (hw _ (own_g (i := 69) rfl))) (mvT hZ (hw _ (own_g (i := 70) rfl))) (mvT hZ (hw _ (own_g (i := 71) rfl))) (mvT hZ (hw _ (own_g (i := 72) rfl))) (mvT hZ (hw _ (own_g (i := 73) rfl))) (mvT hZ (hw _ (own_g (i := 74) rfl))) (by decide) (backOf (W := 0) (rm_iter l Z a0 hw [] (l_) (pm) h0 n0 O0 (E_l_) (F_l__modCount)) hZ (hw _ (own_g (i := 75) rfl)) (hw _ (own_g (i := 30) rfl)) (by decide) (by decide)) q54a q54b q54c (g := (mkF m 1 #[.val (.ref a), .val (.ref l_), .unset, .unset] [(.ref l_)])) rfl (by rw [hml]; rfl) (Steps.refl _) (argsL := []) (rest := []) (lenOf pd_9 rfl) rfl (by show 2 * 0 + _ ≤ _; exact Nat.le_of_eq rfl) (hb hby d10_1) (fun _ _ => ⟨rfl, e0, (by decide : 0 + 1 ≤ _), (by decide : 0 + 4 ≤ _)⟩)
    dsimp only [Pt.U, Pt.locs, Pt.cells, Pt.slots] at X54 l54 y54 z54 st54 hQ54
    subst l54 y54 z54
    obtain ⟨h54, e54⟩ : ∃ z, T54.heap = z := ⟨_, rfl⟩
    rw [e54] at hQ54
    obtain ⟨b_54, rfl, Nq54, Kq54, p54_0, p54_1, p54_2, p54_3, p54_4, p54_5⟩ := hQ54
    have N54 := Fr.app N0 Nq54
    have r54 : own_R p e below _ _ T54 (mkF m 6 #[.val (.ref a), .val (.ref l_), .unset, .unset] [(.ref b_54)]) := r53.trans fun z_ kt => st54.trans kt
    have ne_a_b_54 : a ≠ b_54 := Nat.ne_of_lt (Nat.lt_of_lt_of_le E_a.lt p54_0)
    have ne_kp_b_54 : kp ≠ b_54 := Nat.ne_of_lt (Nat.lt_of_lt_of_le V_kp.lt p54_0)
    have ne_l__b_54 : l_ ≠ b_54 := Nat.ne_of_lt (Nat.lt_of_lt_of_le E_l_.lt p54_0)
    have ne_arr_b_54 : arr ≠ b_54 := Nat.ne_of_lt (Nat.lt_of_lt_of_le V_arr'.lt p54_0)
    have ne_y0_b_54 : y0 ≠ b_54 := Nat.ne_of_lt (Nat.lt_of_lt_of_le Ey0.lt p54_0)
    have ne_y1_b_54 : y1 ≠ b_54 := Nat.ne_of_lt (Nat.lt_of_lt_of_le Ey1.lt p54_0)
    have g_b_54 : n0 ≤ b_54 := Nat.le_trans (own_old_size O0) p54_0
    have sz_b_54 : h0.size ≤ b_54 := Nat.le_trans K0.1 p54_0
    have O54 := O0.keep Kq54 all0
    have K54 := K0.trans Kq54 all0
    have r55 : own_R p e below _ _ T54 (mkF m 8 #[.val (.ref a), .val (.ref l_), .val (.ref b_54), .unset] [(.ref b_54)]) := r54.trans fun z_ kt => by
      refine XS.astoreN X54.here hx rfl (hb hby d10_6) rfl rfl (l' := #[.val (.ref a), .val (.ref l_), .val (.ref b_54), .unset]) rfl ?_
      refine XS.aloadN X54.here hx rfl (hb hby d10_7) rfl rfl ?_
      exact kt
    have f56 := (F_l__size.keep Kq54 nin0)
    obtain ⟨cq57, kq57, q57a, q57b, q57c⟩ := isOf hZ e54 p54_1
    obtain ⟨_, _, ⟨T57, L57, cc57, n57⟩, -, X57, ⟨Lc57, hQ57, l57, y57, z57⟩, st57⟩ := X54.interfaceBack hx (xi := (⟨"java/util/Iterator", "hasNext", "()Z"⟩ : MethodName)) (y := (⟨"java/util/ArrayList$Itr", "hasNext", "()Z"⟩ : MethodName)) hown (mvT hZ (hw _ (own_g (i := 92) rfl))) (mvT hZ (hw _ (own_g (i := 93) rfl))) (mvT hZ (hw _ (own_g (i := 94) rfl))) (mvT hZ (hw _ (own_g (i := 95) rfl))) (mvT hZ (hw _ (own_g (i := 96) rfl))) (mvT hZ (hw _ (own_g (i := 97) rfl))) (mvT hZ (hw _ (own_g (i := 98) rfl))) (mvT hZ (hw _ (own_g (i := 99) rfl))) (by decide) (backOf (W := 0) (rm_hasNext l Z a0 hw [] (b_54) (l_) ((0 : Int32)) ((2 : Int32)) ((1 : Int32)) h54 n0 O54 (p54_2) (p54_4) (f56) (Or.inr ⟨by decide, rfl⟩)) hZ (hw _ (own_g (i := 100) rfl)) (hw _ (own_g (i := 78) rfl)) (by decide) (by decide)) q57a q57b q57c (g := (mkF m 8 #[.val (.ref a), .val (.ref l_), .val (.ref b_54), .unset] [(.ref b_54)])) rfl (by rw [hml]; rfl) (Steps.refl _) (argsL := []) (rest := []) (lenOf pd_10 rfl) rfl (by show 2 * 0 + _ ≤ _; exact Nat.le_of_eq rfl) (hb hby d10_8) (fun _ _ => ⟨rfl, e54, (by decide : 1 + 0 ≤ _), (by decide : 4 + 0 ≤ _)⟩)
    dsimp only [Pt.U, Pt.locs, Pt.cells, Pt.slots] at X57 l57 y57 z57 st57 hQ57
    subst l57 y57 z57
    obtain ⟨rfl, Nq57, eq57⟩ := hQ57
    have N57 := Fr.app N54 Nq57
    have r57 : own_R p e below _ _ T57 (mkF m 13 #[.val (.ref a), .val (.ref l_), .val (.ref b_54), .unset] [(.int (1 : Int32))]) := r55.trans fun z_ kt => st57.trans kt
    have e57 : T57.heap = h54 := eq57
    have r58 : own_R p e below _ _ T57 (mkF m 17 #[.val (.ref a), .val (.ref l_), .val (.ref b_54), .unset] [(.ref b_54)]) := r57.trans fun z_ kt => by
      refine XS.ifNo X57.here hx rfl (hb hby d10_13) rfl ((if0 _ _).trans (feq (by decide : ¬ ((1 : Int32) = (0 : Int32)))).1) ?_
      refine XS.aloadN X57.here hx rfl (hb hby d10_16) rfl rfl ?_
      exact kt
    have f59 := (E_l_.keep Kq54)
    have f60 := (F_l__modCount.keep Kq54 nin0)
    have f61 := (F_l__elementData.keep Kq54 nin0)
    have f62 := (V_arr'.keep Kq54 nin0)
    obtain ⟨cq63, kq63, q63a, q63b, q63c⟩ := isOf hZ e57 p54_1
    obtain ⟨_, _, ⟨T63, L63, cc63, n63⟩, -, X63, ⟨Lc63, hQ63, l63, y63, z63⟩, st63⟩ := X57.interfaceBack hx (xi := (⟨"java/util/Iterator", "next", "()Ljava/lang/Object;"⟩ : MethodName)) (y := (⟨"java/util/ArrayList$Itr", "next", "()Ljava/lang/Object;"⟩ : MethodName)) hown (mvT hZ (hw _ (own_g (i := 178) rfl))) (mvT hZ (hw _ (own_g (i := 179) rfl))) (mvT hZ (hw _ (own_g (i := 180) rfl))) (mvT hZ (hw _ (own_g (i := 181) rfl))) (mvT hZ (hw _ (own_g (i := 182) rfl))) (mvT hZ (hw _ (own_g (i := 183) rfl))) (mvT hZ (hw _ (own_g (i := 184) rfl))) (mvT hZ (hw _ (own_g (i := 99) rfl))) (by decide) (backOf (W := 0) (rm_next l Z a0 hw [] (b_54) (l_) (pm) ((0 : Int32)) ((2 : Int32)) (arr) (ka) (z) ([(.ref y0), (.ref y1)]) (y0) ((-1 : Int32)) h54 n0 O54 (p54_1) (g_b_54) (p54_2) (p54_3) (p54_4) (p54_5) (f59) (f60) (f56) (f61) (f62) (by decide) (⟨by decide, own_lt3 hz' (by decide)⟩) (rfl)) hZ (hw _ (own_g (i := 185) rfl)) (hw _ (own_g (i := 78) rfl)) (by decide) (by decide)) q63a q63b q63c (g := (mkF m 17 #[.val (.ref a), .val (.ref l_), .val (.ref b_54), .unset] [(.ref b_54)])) rfl (by rw [hml]; rfl) (Steps.refl _) (argsL := []) (rest := []) (lenOf pd_11 rfl) rfl (by show 2 * 0 + _ ≤ _; exact Nat.le_of_eq rfl) (hb hby d10_17) (fun _ _ => ⟨rfl, e57, (by decide : 1 + 0 ≤ _), (by decide : 4 + 0 ≤ _)⟩)
    dsimp only [Pt.U, Pt.locs, Pt.cells, Pt.slots] at X63 l63 y63 z63 st63 hQ63
    subst l63 y63 z63
    obtain ⟨h63, e63⟩ : ∃ z, T63.heap = z := ⟨_, rfl⟩
    rw [e63] at hQ63
    obtain ⟨rfl, Nq63, Kq63, p63_0, p63_1, p63_2, p63_3⟩ := hQ63
    have N63 := Fr.app N57 Nq63
    have r63 : own_R p e below _ _ T63 (mkF m 22 #[.val (.ref a), .val (.ref l_), .val (.ref b_54), .unset] [(.ref y0)]) := r58.trans fun z_ kt => st63.trans kt
    have O63 := O54.keep Kq63 (allS g_b_54 all0)
    have K63 := K54.trans Kq63 (allS (Or.inr sz_b_54) all0)
    have f64 := ((Ey0.keep Kq54).keep Kq63)
    obtain ⟨T65, X65, e65, st65⟩ := castY X63 hx hZ hown (hw _ (own_g (i := 59) rfl)) e63 (Ins.self f64) (g := (mkF m 22 #[.val (.ref a), .val (.ref l_), .val (.ref b_54), .unset] [(.ref y0)])) rfl rfl (hb hby d10_22)
    have r65 : own_R p e below _ _ T65 (mkF m 25 #[.val (.ref a), .val (.ref l_), .val (.ref b_54), .unset] [(.ref y0)]) := r63.trans fun z_ kt => st65 _ kt
    have f66 := ((F_a_kept.keep Kq54 nin0).keep Kq63 (ninS ne_a_b_54 nin0))
    have r67 : own_R p e below _ _ T65 (mkF m 27 #[.val (.ref a), .val (.ref l_), .val (.ref b_54), .val (.ref y0)] [(.ref a)]) := r65.trans fun z_ kt => by
      refine XS.astoreN X65.here hx rfl (hb hby d10_25) rfl rfl (l' := #[.val (.ref a), .val (.ref l_), .val (.ref b_54), .val (.ref y0)]) rfl ?_
      refine XS.aloadN X65.here hx rfl (hb hby d10_26) rfl rfl ?_
      exact kt
    obtain ⟨T68, X68, e68, st68⟩ := getF X65 hx hZ hown (host := "") (Or.inl (hw _ (own_g (i := 60) rfl))) Via.refl e65 f66 (g := (mkF m 27 #[.val (.ref a), .val (.ref l_), .val (.ref b_54), .val (.ref y0)] [(.ref a)])) rfl rfl (hb hby d10_27)
    have r68 : own_R p e below _ _ T68 (mkF m 30 #[.val (.ref a), .val (.ref l_), .val (.ref b_54), .val (.ref y0)] [(.ref kp)]) := r67.trans fun z_ kt => st68 _ kt
    have f69 := ((F_a_count.keep Kq54 nin0).keep Kq63 (ninS ne_a_b_54 nin0))
    have r70 : own_R p e below _ _ T68 (mkF m 31 #[.val (.ref a), .val (.ref l_), .val (.ref b_54), .val (.ref y0)] [(.ref a), (.ref kp)]) := r68.trans fun z_ kt => by
      refine XS.aloadN X68.here hx rfl (hb hby d10_30) rfl rfl ?_
      exact kt
    obtain ⟨T71, X71, e71, st71⟩ := getF X68 hx hZ hown (host := "") (Or.inl (hw _ (own_g (i := 115) rfl))) Via.refl e68 f69 (g := (mkF m 31 #[.val (.ref a), .val (.ref l_), .val (.ref b_54), .val (.ref y0)] [(.ref a), (.ref kp)])) rfl rfl (hb hby d10_31)
    have r71 : own_R p e below _ _ T71 (mkF m 34 #[.val (.ref a), .val (.ref l_), .val (.ref b_54), .val (.ref y0)] [(.long jc), (.ref kp)]) := r70.trans fun z_ kt => st71 _ kt
    have r72 : own_R p e below _ _ T71 (mkF m 35 #[.val (.ref a), .val (.ref l_), .val (.ref b_54), .val (.ref y0)] [(.ref a), (.long jc), (.ref kp)]) := r71.trans fun z_ kt => by
      refine XS.aloadN X71.here hx rfl (hb hby d10_34) rfl rfl ?_
      exact kt
    obtain ⟨T73, X73, e73, st73⟩ := getF X71 hx hZ hown (host := "") (Or.inl (hw _ (own_g (i := 60) rfl))) Via.refl e71 f66 (g := (mkF m 35 #[.val (.ref a), .val (.ref l_), .val (.ref b_54), .val (.ref y0)] [(.ref a), (.long jc), (.ref kp)])) rfl rfl (hb hby d10_35)
    have r73 : own_R p e below _ _ T73 (mkF m 38 #[.val (.ref a), .val (.ref l_), .val (.ref b_54), .val (.ref y0)] [(.ref kp), (.long jc), (.ref kp)]) := r72.trans fun z_ kt => st73 _ kt
    have f74 := ((V_kp.keep Kq54 nin0).keep Kq63 (ninS ne_kp_b_54 nin0))
    obtain ⟨cl75, Ar75, q75, S75, M75, H75, G75⟩ := id f74
    have Vp76 := f74.pad (pad_rep (vs : List Value) .null 1)
    obtain ⟨cl76, Ar76, q76, S76, M76, H76, G76⟩ := Vp76
    have hin76 : ¬ (((jc - (jc / (zk.toInt64)) * (zk.toInt64)).toInt32) < 0 ∨ cl76.slots.size ≤ (((jc - (jc / (zk.toInt64)) * (zk.toInt64)).toInt32)).toNatClampNeg) := inb_of S76 (own_ixA0 hvl hjc).1
    have r77 : own_R p e below _ _ T73 (mkF m 43 #[.val (.ref a), .val (.ref l_), .val (.ref b_54), .val (.ref y0)] [(.ref y0), (.int ((jc - (jc / (zk.toInt64)) * (zk.toInt64)).toInt32)), (.ref kp)]) := r73.trans fun z_ kt => by
      refine X73.arraylength hx (by rw [e73]; exact Ar75.1) (State.isArrayOf_alike hZ.alike Ar75.2.1) (g := (mkF m 38 #[.val (.ref a), .val (.ref l_), .val (.ref b_54), .val (.ref y0)] [(.ref kp), (.long jc), (.ref kp)])) rfl rfl (hb hby d10_38) _ ?_
      rw [len_of S75 M75]
      refine XS.i2l X73.here hx rfl (hb hby d10_39) rfl ?_
      refine XS.lrem X73.here hx rfl (hb hby d10_40) rfl (own_zne hjc.2) ?_
      refine XS.l2i X73.here hx rfl (hb hby d10_41) rfl ?_
      refine XS.aloadN X73.here hx rfl (hb hby d10_42) rfl rfl ?_
      exact kt
    obtain ⟨T78, h78, X78, e78, W78, st78⟩ := stR X73 hx hZ e73 Ar76 (j := ((jc - (jc / (zk.toInt64)) * (zk.toInt64)).toInt32)) hin76 rfl (Sto.ofV Ar76 q76 Ov_kk (Ins.self f64)) (g := (mkF m 43 #[.val (.ref a), .val (.ref l_), .val (.ref b_54), .val (.ref y0)] [(.ref y0), (.int ((jc - (jc / (zk.toInt64)) * (zk.toInt64)).toInt32)), (.ref kp)])) rfl rfl (hb hby d10_43)
    have r78 : own_R p e below _ _ T78 (mkF m 44 #[.val (.ref a), .val (.ref l_), .val (.ref b_54), .val (.ref y0)] []) := r77.trans fun z_ kt => st78 _ kt
    have N78 := Fr.snoc X78 N63 g_kp
    have O78 := O63.wr W78 g_kp
    have K78 := K63.wr W78 (Or.inl (List.mem_of_getElem? (i := 1) rfl))
    have V78 : Arv Z h78 kp kk (.object "java/lang/String") zk (vs ++ [(.ref y0)]) .null := own_app (Arv.set Ar76 q76 S76 M76 H76 G76 rfl W78 (vs : List Value).length (own_ixA0 hvl hjc).2 (own_lt1 _ _))
    have f79 := (f69.other W78 (Or.inl ne_a_kp))
    have r80 : own_R p e below _ _ T78 (mkF m 46 #[.val (.ref a), .val (.ref l_), .val (.ref b_54), .val (.ref y0)] [(.ref a), (.ref a)]) := r78.trans fun z_ kt => by
      refine XS.aloadN X78.here hx rfl (hb hby d10_44) rfl rfl ?_
      refine XS.dup X78.here hx rfl (hb hby d10_45) rfl rfl ?_
      exact kt
    obtain ⟨T81, X81, e81, st81⟩ := getF X78 hx hZ hown (host := "") (Or.inl (hw _ (own_g (i := 115) rfl))) Via.refl e78 f79 (g := (mkF m 46 #[.val (.ref a), .val (.ref l_), .val (.ref b_54), .val (.ref y0)] [(.ref a), (.ref a)])) rfl rfl (hb hby d10_46)
    have r81 : own_R p e below _ _ T81 (mkF m 49 #[.val (.ref a), .val (.ref l_), .val (.ref b_54), .val (.ref y0)] [(.long jc), (.ref a)]) := r80.trans fun z_ kt => st81 _ kt
    have f82 := (((E_a.keep Kq54).keep Kq63).wr W78)
    have r83 : own_R p e below _ _ T81 (mkF m 51 #[.val (.ref a), .val (.ref l_), .val (.ref b_54), .val (.ref y0)] [(.long (jc + (1 : Int64))), (.ref a)]) := r81.trans fun z_ kt => by
      refine XS.lconst X81.here hx rfl (hb hby d10_49) ?_
      refine XS.ladd X81.here hx rfl (hb hby d10_50) rfl ?_
      exact kt
    obtain ⟨T84, h84, X84, e84, W84, st84⟩ := putF X81 hx hZ hown (host := "") (Or.inl (hw _ (own_g (i := 115) rfl))) Via.refl e81 f79 f82 (Or.inl (hw _ (own_g (i := 116) rfl))) (hw _ (own_g (i := 53) rfl)) (ty := .long) (v := (.long (jc + (1 : Int64)))) (by decide) rfl rfl (g := (mkF m 51 #[.val (.ref a), .val (.ref l_), .val (.ref b_54), .val (.ref y0)] [(.long (jc + (1 : Int64))), (.ref a)])) rfl rfl (hb hby d10_51)
    have r84 : own_R p e below _ _ T84 (mkF m 54 #[.val (.ref a), .val (.ref l_), .val (.ref b_54), .val (.ref y0)] []) := r83.trans fun z_ kt => st84 _ kt
    have N84 := Fr.snoc X84 N78 g_a
    have O84 := O78.wr W84 g_a
    have K84 := K78.wr W84 (Or.inl (List.mem_of_getElem? (i := 0) rfl))
    have F84 := f79.same W84
    have f85 := (((p54_1.keep Kq63).wr W78).wr W84)
    have r86 : own_R p e below _ _ T84 (mkF m 8 #[.val (.ref a), .val (.ref l_), .val (.ref b_54), .val (.ref y0)] [(.ref b_54)]) := r84.trans fun z_ kt => by
      refine XS.goto X84.here hx rfl (pc0 := 54) (pc' := 7) rfl (hb hby d10_54) (by decide) (by decide) ?_
      refine XS.aloadN X84.here hx rfl (hb hby d10_7) rfl rfl ?_
      exact kt
    have f87 := ((p63_0.other W78 (Or.inl (Ne.symm ne_kp_b_54))).other W84 (Or.inl (Ne.symm ne_a_b_54)))
    have f88 := ((p63_2.other W78 (Or.inl (Ne.symm ne_kp_b_54))).other W84 (Or.inl (Ne.symm ne_a_b_54)))
    have f89 := (((f56.keep Kq63 (ninS ne_l__b_54 nin0)).other W78 (Or.inl (Ne.symm ne_kp_l_))).other W84 (Or.inl (Ne.symm ne_a_l_)))
    obtain ⟨cq90, kq90, q90a, q90b, q90c⟩ := isOf hZ e84 f85
    obtain ⟨_, _, ⟨T90, L90, cc90, n90⟩, -, X90, ⟨Lc90, hQ90, l90, y90, z90⟩, st90⟩ := X84.interfaceBack hx (xi := (⟨"java/util/Iterator", "hasNext", "()Z"⟩ : MethodName)) (y := (⟨"java/util/ArrayList$Itr", "hasNext", "()Z"⟩ : MethodName)) hown (mvT hZ (hw _ (own_g (i := 92) rfl))) (mvT hZ (hw _ (own_g (i := 93) rfl))) (mvT hZ (hw _ (own_g (i := 94) rfl))) (mvT hZ (hw _ (own_g (i := 95) rfl))) (mvT hZ (hw _ (own_g (i := 96) rfl))) (mvT hZ (hw _ (own_g (i := 97) rfl))) (mvT hZ (hw _ (own_g (i := 98) rfl))) (mvT hZ (hw _ (own_g (i := 99) rfl))) (by decide) (backOf (W := 0) (rm_hasNext l Z a0 hw [] (b_54) (l_) (((0 : Int32) + (1 : Int32))) ((2 : Int32)) ((1 : Int32)) h84 n0 O84 (f87) (f88) (f89) (Or.inr ⟨by decide, rfl⟩)) hZ (hw _ (own_g (i := 100) rfl)) (hw _ (own_g (i := 78) rfl)) (by decide) (by decide)) q90a q90b q90c (g := (mkF m 8 #[.val (.ref a), .val (.ref l_), .val (.ref b_54), .val (.ref y0)] [(.ref b_54)])) rfl (by rw [hml]; rfl) (Steps.refl _) (argsL := []) (rest := []) (lenOf pd_10 rfl) rfl (by show 2 * 0 + _ ≤ _; exact Nat.le_of_eq rfl) (hb hby d10_8) (fun _ _ => ⟨rfl, e84, (by decide : 1 + 0 ≤ _), (by decide : 4 + 0 ≤ _)⟩)
    dsimp only [Pt.U, Pt.locs, Pt.cells, Pt.slots] at X90 l90 y90 z90 st90 hQ90
    subst l90 y90 z90
    obtain ⟨rfl, Nq90, eq90⟩ := hQ90
    have N90 := Fr.app N84 Nq90
    have r90 : own_R p e below _ _ T90 (mkF m 13 #[.val (.ref a), .val (.ref l_), .val (.ref b_54), .val (.ref y0)] [(.int (1 : Int32))]) := r86.trans fun z_ kt => st90.trans kt
    have e90 : T90.heap = h84 := eq90
    have r91 : own_R p e below _ _ T90 (mkF m 17 #[.val (.ref a), .val (.ref l_), .val (.ref b_54), .val (.ref y0)] [(.ref b_54)]) := r90.trans fun z_ kt => by
      refine XS.ifNo X90.here hx rfl (hb hby d10_13) rfl ((if0 _ _).trans (feq (by decide : ¬ ((1 : Int32) = (0 : Int32)))).1) ?_
      refine XS.aloadN X90.here hx rfl (hb hby d10_16) rfl rfl ?_
      exact kt
    have f92 := ((p63_1.other W78 (Or.inl (Ne.symm ne_kp_b_54))).other W84 (Or.inl (Ne.symm ne_a_b_54)))
    have f93 := ((p63_3.other W78 (Or.inl (Ne.symm ne_kp_b_54))).other W84 (Or.inl (Ne.symm ne_a_b_54)))
    have f94 := (((f59.keep Kq63).wr W78).wr W84)
    have f95 := (((f60.keep Kq63 (ninS ne_l__b_54 nin0)).other W78 (Or.inl (Ne.symm ne_kp_l_))).other W84 (Or.inl (Ne.symm ne_a_l_)))
    have f96 := (((f61.keep Kq63 (ninS ne_l__b_54 nin0)).other W78 (Or.inl (Ne.symm ne_kp_l_))).other W84 (Or.inl (Ne.symm ne_a_l_)))
    have f97 := (((f62.keep Kq63 (ninS ne_arr_b_54 nin0)).other W78 (Ne.symm ne_kp_arr)).other W84 (Ne.symm ne_a_arr))
    obtain ⟨cq98, kq98, q98a, q98b, q98c⟩ := isOf hZ e90 f85
    obtain ⟨_, _, ⟨T98, L98, cc98, n98⟩, -, X98, ⟨Lc98, hQ98, l98, y98, z98⟩, st98⟩ := X90.interfaceBack hx (xi := (⟨"java/util/Iterator", "next", "()Ljava/lang/Object;"⟩ : MethodName)) (y := (⟨"java/util/ArrayList$Itr", "next", "()Ljava/lang/Object;"⟩ : MethodName)) hown (mvT hZ (hw _ (own_g (i := 178) rfl))) (mvT hZ (hw _ (own_g (i := 179) rfl))) (mvT hZ (hw _ (own_g (i := 180) rfl))) (mvT hZ (hw _ (own_g (i := 181) rfl))) (mvT hZ (hw _ (own_g (i := 182) rfl))) (mvT hZ (hw _ (own_g (i := 183) rfl))) (mvT hZ (hw _ (own_g (i := 184) rfl))) (mvT hZ (hw _ (own_g (i := 99) rfl))) (by decide) (backOf (W := 0) (rm_next l Z a0 hw [] (b_54) (l_) (pm) (((0 : Int32) + (1 : Int32))) ((2 : Int32)) (arr) (ka) (z) ([(.ref y0), (.ref y1)]) (y1) ((0 : Int32)) h84 n0 O84 (f85) (g_b_54) (f87) (f92) (f88) (f93) (f94) (f95) (f89) (f96) (f97) (by decide) (⟨by decide, own_lt3 hz' (by decide)⟩) (rfl)) hZ (hw _ (own_g (i := 185) rfl)) (hw _ (own_g (i := 78) rfl)) (by decide) (by decide)) q98a q98b q98c (g := (mkF m 17 #[.val (.ref a), .val (.ref l_), .val (.ref b_54), .val (.ref y0)] [(.ref b_54)])) rfl (by rw [hml]; rfl) (Steps.refl _) (argsL := []) (rest := []) (lenOf pd_11 rfl) rfl (by show 2 * 0 + _ ≤ _; exact Nat.le_of_eq rfl) (hb hby d10_17) (fun _ _ => ⟨rfl, e90, (by decide : 1 + 0 ≤ _), (by decide : 4 + 0 ≤ _)⟩)
    dsimp only [Pt.U, Pt.locs, Pt.cells, Pt.slots] at X98 l98 y98 z98 st98 hQ98
    subst l98 y98 z98
    obtain ⟨h98, e98⟩ : ∃ z, T98.heap = z := ⟨_, rfl⟩
    rw [e98] at hQ98
    obtain ⟨rfl, Nq98, Kq98, p98_0, p98_1, p98_2, p98_3⟩ := hQ98
    have N98 := Fr.app N90 Nq98
    have r98 : own_R p e below _ _ T98 (mkF m 22 #[.val (.ref a), .val (.ref l_), .val (.ref b_54), .val (.ref y0)] [(.ref y1)]) := r91.trans fun z_ kt => st98.trans kt
    have O98 := O84.keep Kq98 (allS g_b_54 all0)
    have K98 := K84.trans Kq98 (allS (Or.inr sz_b_54) all0)
    have f99 := (((((Ey1.keep Kq54).keep Kq63).wr W78).wr W84).keep Kq98)
    obtain ⟨T100, X100, e100, st100⟩ := castY X98 hx hZ hown (hw _ (own_g (i := 59) rfl)) e98 (Ins.self f99) (g := (mkF m 22 #[.val (.ref a), .val (.ref l_), .val (.ref b_54), .val (.ref y0)] [(.ref y1)])) rfl rfl (hb hby d10_22)
    have r100 : own_R p e below _ _ T100 (mkF m 25 #[.val (.ref a), .val (.ref l_), .val (.ref b_54), .val (.ref y0)] [(.ref y1)]) := r98.trans fun z_ kt => st100 _ kt
    have f101 := (((f66.other W78 (Or.inl ne_a_kp)).other W84 (Or.inr (slot_ne (Or.inl (hw _ (own_g (i := 61) rfl))) (Or.inl (hw _ (own_g (i := 116) rfl))) (by decide) (t := (.array (.object "java/lang/String"))) (t' := .long) (by decide) (by decide)))).keep Kq98 (ninS ne_a_b_54 nin0))
    have r102 : own_R p e below _ _ T100 (mkF m 27 #[.val (.ref a), .val (.ref l_), .val (.ref b_54), .val (.ref y1)] [(.ref a)]) := r100.trans fun z_ kt => by
      refine XS.astoreN X100.here hx rfl (hb hby d10_25) rfl rfl (l' := #[.val (.ref a), .val (.ref l_), .val (.ref b_54), .val (.ref y1)]) rfl ?_
      refine XS.aloadN X100.here hx rfl (hb hby d10_26) rfl rfl ?_
      exact kt
    obtain ⟨T103, X103, e103, st103⟩ := getF X100 hx hZ hown (host := "") (Or.inl (hw _ (own_g (i := 60) rfl))) Via.refl e100 f101 (g := (mkF m 27 #[.val (.ref a), .val (.ref l_), .val (.ref b_54), .val (.ref y1)] [(.ref a)])) rfl rfl (hb hby d10_27)
    have r103 : own_R p e below _ _ T103 (mkF m 30 #[.val (.ref a), .val (.ref l_), .val (.ref b_54), .val (.ref y1)] [(.ref kp)]) := r102.trans fun z_ kt => st103 _ kt
    have f104 := (F84.keep Kq98 (ninS ne_a_b_54 nin0))
    have r105 : own_R p e below _ _ T103 (mkF m 31 #[.val (.ref a), .val (.ref l_), .val (.ref b_54), .val (.ref y1)] [(.ref a), (.ref kp)]) := r103.trans fun z_ kt => by
      refine XS.aloadN X103.here hx rfl (hb hby d10_30) rfl rfl ?_
      exact kt
    obtain ⟨T106, X106, e106, st106⟩ := getF X103 hx hZ hown (host := "") (Or.inl (hw _ (own_g (i := 115) rfl))) Via.refl e103 f104 (g := (mkF m 31 #[.val (.ref a), .val (.ref l_), .val (.ref b_54), .val (.ref y1)] [(.ref a), (.ref kp)])) rfl rfl (hb hby d10_31)
    have r106 : own_R p e below _ _ T106 (mkF m 34 #[.val (.ref a), .val (.ref l_), .val (.ref b_54), .val (.ref y1)] [(.long (jc + (1 : Int64))), (.ref kp)]) := r105.trans fun z_ kt => st106 _ kt
    have r107 : own_R p e below _ _ T106 (mkF m 35 #[.val (.ref a), .val (.ref l_), .val (.ref b_54), .val (.ref y1)] [(.ref a), (.long (jc + (1 : Int64))), (.ref kp)]) := r106.trans fun z_ kt => by
      refine XS.aloadN X106.here hx rfl (hb hby d10_34) rfl rfl ?_
      exact kt
    obtain ⟨T108, X108, e108, st108⟩ := getF X106 hx hZ hown (host := "") (Or.inl (hw _ (own_g (i := 60) rfl))) Via.refl e106 f101 (g := (mkF m 35 #[.val (.ref a), .val (.ref l_), .val (.ref b_54), .val (.ref y1)] [(.ref a), (.long (jc + (1 : Int64))), (.ref kp)])) rfl rfl (hb hby d10_35)
    have r108 : own_R p e below _ _ T108 (mkF m 38 #[.val (.ref a), .val (.ref l_), .val (.ref b_54), .val (.ref y1)] [(.ref kp), (.long (jc + (1 : Int64))), (.ref kp)]) := r107.trans fun z_ kt => st108 _ kt
    have f109 := ((V78.other W84 (Ne.symm ne_a_kp)).keep Kq98 (ninS ne_kp_b_54 nin0))
    obtain ⟨cl110, Ar110, q110, S110, M110, H110, G110⟩ := id f109
    have Vp111 := f109.pad (pad_rep ((vs ++ [(.ref y0)]) : List Value) .null 1)
    obtain ⟨cl111, Ar111, q111, S111, M111, H111, G111⟩ := Vp111
    have hin111 : ¬ ((((jc + (1 : Int64)) - ((jc + (1 : Int64)) / (zk.toInt64)) * (zk.toInt64)).toInt32) < 0 ∨ cl111.slots.size ≤ ((((jc + (1 : Int64)) - ((jc + (1 : Int64)) / (zk.toInt64)) * (zk.toInt64)).toInt32)).toNatClampNeg) := inb_of S111 (own_ixA1 (v0 := .null) hvl hjc).1
    have r112 : own_R p e below _ _ T108 (mkF m 43 #[.val (.ref a), .val (.ref l_), .val (.ref b_54), .val (.ref y1)] [(.ref y1), (.int (((jc + (1 : Int64)) - ((jc + (1 : Int64)) / (zk.toInt64)) * (zk.toInt64)).toInt32)), (.ref kp)]) := r108.trans fun z_ kt => by
      refine X108.arraylength hx (by rw [e108]; exact Ar110.1) (State.isArrayOf_alike hZ.alike Ar110.2.1) (g := (mkF m 38 #[.val (.ref a), .val (.ref l_), .val (.ref b_54), .val (.ref y1)] [(.ref kp), (.long (jc + (1 : Int64))), (.ref kp)])) rfl rfl (hb hby d10_38) _ ?_
      rw [len_of S110 M110]
      refine XS.i2l X108.here hx rfl (hb hby d10_39) rfl ?_
      refine XS.lrem X108.here hx rfl (hb hby d10_40) rfl (own_zne hjc.2) ?_
      refine XS.l2i X108.here hx rfl (hb hby d10_41) rfl ?_
      refine XS.aloadN X108.here hx rfl (hb hby d10_42) rfl rfl ?_
      exact kt
    obtain ⟨T113, h113, X113, e113, W113, st113⟩ := stR X108 hx hZ e108 Ar111 (j := (((jc + (1 : Int64)) - ((jc + (1 : Int64)) / (zk.toInt64)) * (zk.toInt64)).toInt32)) hin111 rfl (Sto.ofV Ar111 q111 Ov_kk (Ins.self f99)) (g := (mkF m 43 #[.val (.ref a), .val (.ref l_), .val (.ref b_54), .val (.ref y1)] [(.ref y1), (.int (((jc + (1 : Int64)) - ((jc + (1 : Int64)) / (zk.toInt64)) * (zk.toInt64)).toInt32)), (.ref kp)])) rfl rfl (hb hby d10_43)
    have r113 : own_R p e below _ _ T113 (mkF m 44 #[.val (.ref a), .val (.ref l_), .val (.ref b_54), .val (.ref y1)] []) := r112.trans fun z_ kt => st113 _ kt
    have N113 := Fr.snoc X113 N98 g_kp
    have O113 := O98.wr W113 g_kp
    have K113 := K98.wr W113 (Or.inl (List.mem_of_getElem? (i := 1) rfl))
    have V113 : Arv Z h113 kp kk (.object "java/lang/String") zk ((vs ++ [(.ref y0)]) ++ [(.ref y1)]) .null := own_app (Arv.set Ar111 q111 S111 M111 H111 G111 rfl W113 ((vs ++ [(.ref y0)]) : List Value).length (own_ixA1 hvl hjc).2 (own_lt1 _ _))
    have f114 := (f104.other W113 (Or.inl ne_a_kp))
    have r115 : own_R p e below _ _ T113 (mkF m 46 #[.val (.ref a), .val (.ref l_), .val (.ref b_54), .val (.ref y1)] [(.ref a), (.ref a)]) := r113.trans fun z_ kt => by
      refine XS.aloadN X113.here hx rfl (hb hby d10_44) rfl rfl ?_
      refine XS.dup X113.here hx rfl (hb hby d10_45) rfl rfl ?_
      exact kt
    obtain ⟨T116, X116, e116, st116⟩ := getF X113 hx hZ hown (host := "") (Or.inl (hw _ (own_g (i := 115) rfl))) Via.refl e113 f114 (g := (mkF m 46 #[.val (.ref a), .val (.ref l_), .val (.ref b_54), .val (.ref y1)] [(.ref a), (.ref a)])) rfl rfl (hb hby d10_46)
    have r116 : own_R p e below _ _ T116 (mkF m 49 #[.val (.ref a), .val (.ref l_), .val (.ref b_54), .val (.ref y1)] [(.long (jc + (1 : Int64))), (.ref a)]) := r115.trans fun z_ kt => st116 _ kt
    have f117 := (((f82.wr W84).keep Kq98).wr W113)
    have r118 : own_R p e below _ _ T116 (mkF m 51 #[.val (.ref a), .val (.ref l_), .val (.ref b_54), .val (.ref y1)] [(.long ((jc + (1 : Int64)) + (1 : Int64))), (.ref a)]) := r116.trans fun z_ kt => by
      refine XS.lconst X116.here hx rfl (hb hby d10_49) ?_
      refine XS.ladd X116.here hx rfl (hb hby d10_50) rfl ?_
      exact kt
    obtain ⟨T119, h119, X119, e119, W119, st119⟩ := putF X116 hx hZ hown (host := "") (Or.inl (hw _ (own_g (i := 115) rfl))) Via.refl e116 f114 f117 (Or.inl (hw _ (own_g (i := 116) rfl))) (hw _ (own_g (i := 53) rfl)) (ty := .long) (v := (.long ((jc + (1 : Int64)) + (1 : Int64)))) (by decide) rfl rfl (g := (mkF m 51 #[.val (.ref a), .val (.ref l_), .val (.ref b_54), .val (.ref y1)] [(.long ((jc + (1 : Int64)) + (1 : Int64))), (.ref a)])) rfl rfl (hb hby d10_51)
    have r119 : own_R p e below _ _ T119 (mkF m 54 #[.val (.ref a), .val (.ref l_), .val (.ref b_54), .val (.ref y1)] []) := r118.trans fun z_ kt => st119 _ kt
    have N119 := Fr.snoc X119 N113 g_a
    have O119 := O113.wr W119 g_a
    have K119 := K113.wr W119 (Or.inl (List.mem_of_getElem? (i := 0) rfl))
    have F119 := f114.same W119
    have f120 := (((f85.keep Kq98).wr W113).wr W119)
    have r121 : own_R p e below _ _ T119 (mkF m 8 #[.val (.ref a), .val (.ref l_), .val (.ref b_54), .val (.ref y1)] [(.ref b_54)]) := r119.trans fun z_ kt => by
      refine XS.goto X119.here hx rfl (pc0 := 54) (pc' := 7) rfl (hb hby d10_54) (by decide) (by decide) ?_
      refine XS.aloadN X119.here hx rfl (hb hby d10_7) rfl rfl ?_
      exact kt
    have f122 := ((p98_0.other W113 (Or.inl (Ne.symm ne_kp_b_54))).other W119 (Or.inl (Ne.symm ne_a_b_54)))
    have f123 := ((p98_2.other W113 (Or.inl (Ne.symm ne_kp_b_54))).other W119 (Or.inl (Ne.symm ne_a_b_54)))
    have f124 := (((f89.keep Kq98 (ninS ne_l__b_54 nin0)).other W113 (Or.inl (Ne.symm ne_kp_l_))).other W119 (Or.inl (Ne.symm ne_a_l_)))
    obtain ⟨cq125, kq125, q125a, q125b, q125c⟩ := isOf hZ e119 f120
    obtain ⟨_, _, ⟨T125, L125, cc125, n125⟩, -, X125, ⟨Lc125, hQ125, l125, y125, z125⟩, st125⟩ := X119.interfaceBack hx (xi := (⟨"java/util/Iterator", "hasNext", "()Z"⟩ : MethodName)) (y := (⟨"java/util/ArrayList$Itr", "hasNext", "()Z"⟩ : MethodName)) hown (mvT hZ (hw _ (own_g (i := 92) rfl))) (mvT hZ (hw _ (own_g (i := 93) rfl))) (mvT hZ (hw _ (own_g (i := 94) rfl))) (mvT hZ (hw _ (own_g (i := 95) rfl))) (mvT hZ (hw _ (own_g (i := 96) rfl))) (mvT hZ (hw _ (own_g (i := 97) rfl))) (mvT hZ (hw _ (own_g (i := 98) rfl))) (mvT hZ (hw _ (own_g (i := 99) rfl))) (by decide) (backOf (W := 0) (rm_hasNext l Z a0 hw [] (b_54) (l_) ((((0 : Int32) + (1 : Int32)) + (1 : Int32))) ((2 : Int32)) ((0 : Int32)) h119 n0 O119 (f122) (f123) (f124) (Or.inl ⟨by decide, rfl⟩)) hZ (hw _ (own_g (i := 100) rfl)) (hw _ (own_g (i := 78) rfl)) (by decide) (by decide)) q125a q125b q125c (g := (mkF m 8 #[.val (.ref a), .val (.ref l_), .val (.ref b_54), .val (.ref y1)] [(.ref b_54)])) rfl (by rw [hml]; rfl) (Steps.refl _) (argsL := []) (rest := []) (lenOf pd_10 rfl) rfl (by show 2 * 0 + _ ≤ _; exact Nat.le_of_eq rfl) (hb hby d10_8) (fun _ _ => ⟨rfl, e119, (by decide : 1 + 0 ≤ _), (by decide : 4 + 0 ≤ _)⟩)
    dsimp only [Pt.U, Pt.locs, Pt.cells, Pt.slots] at X125 l125 y125 z125 st125 hQ125
    subst l125 y125 z125
    obtain ⟨rfl, Nq125, eq125⟩ := hQ125
    have N125 := Fr.app N119 Nq125
    have r125 : own_R p e below _ _ T125 (mkF m 13 #[.val (.ref a), .val (.ref l_), .val (.ref b_54), .val (.ref y1)] [(.int (0 : Int32))]) := r121.trans fun z_ kt => st125.trans kt
    have e125 : T125.heap = h119 := eq125
    have r126 : own_R p e below _ _ T125 (mkF m 57 #[.val (.ref a), .val (.ref l_), .val (.ref b_54), .val (.ref y1)] []) := r125.trans fun z_ kt => by
      refine XS.ifYes X125.here hx rfl (pc0 := 13) (pc' := 57) rfl (hb hby d10_13) rfl ((if0 _ _).trans (teq (by decide : (0 : Int32) = (0 : Int32))).1) (by decide) (by decide) ?_
      exact kt
    have f127 := (V113.other W119 (Ne.symm ne_a_kp))
    have f128 := ((f101.other W113 (Or.inl ne_a_kp)).other W119 (Or.inr (slot_ne (Or.inl (hw _ (own_g (i := 61) rfl))) (Or.inl (hw _ (own_g (i := 116) rfl))) (by decide) (t := (.array (.object "java/lang/String"))) (t' := .long) (by decide) (by decide))))
    have f129 := (((((((F_a_forgottenOnGrowth.keep Kq54 nin0).keep Kq63 (ninS ne_a_b_54 nin0)).other W78 (Or.inl ne_a_kp)).other W84 (Or.inr (slot_ne (Or.inl (hw _ (own_g (i := 127) rfl))) (Or.inl (hw _ (own_g (i := 116) rfl))) (by decide) (t := .long) (t' := .long) (by decide) (by decide)))).keep Kq98 (ninS ne_a_b_54 nin0)).other W113 (Or.inl ne_a_kp)).other W119 (Or.inr (slot_ne (Or.inl (hw _ (own_g (i := 127) rfl))) (Or.inl (hw _ (own_g (i := 116) rfl))) (by decide) (t := .long) (t' := .long) (by decide) (by decide))))
    obtain ⟨fs_, hr_, hrun_, hended_, hW_, hsame_⟩ := X125.leave (v := none) (fun _ => rfl)
    refine ⟨_, _, pre0 _ (r126 _ ?_), hrun_, hended_, _, _, rfl, ?_, ⟨_, rfl⟩, hW_, hsame_.mono (by decide) (by decide)⟩
    · exact X125.returnOut hx Bd.returns (hb hby d10_57) hr_
    · show Q_rcAdd Z a l_ kp kk jc zk vs arr ka z ys ps pm h0 n0 _ T125.heap _
      rw [e125]
      exact ⟨((jc + (1 : Int64)) + (1 : Int64)), rfl, N125, K119, f128, F119, f129, (by rw [hy]; exact own_assoc2 f127), by rw [hy]; exact own_cnt2 hvl hjc⟩
  · skip
    rw [hp] at F_l__size hz
    rw [hy] at V_arr hE
    have hz' := hz.resolve_left (by decide)
    have V_arr' : Arv Z h0 arr ka (.object "java/lang/Object") z [(.ref y0), (.ref y1), (.ref y2)] .null := V_arr
    have Ey0 := hE.2 y0 (by simp)
    have Ey1 := hE.2 y1 (by simp)
    have Ey2 := hE.2 y2 (by simp)
    have r130 : own_R p e below _ _ s₁ (mkF m 1 #[.val (.ref a), .val (.ref l_), .unset, .unset] [(.ref l_)]) := r0.trans fun z_ kt => by
      refine XS.aloadN X0.here hx rfl (hb hby d10_0) rfl rfl ?_
      exact kt
    obtain ⟨cq131, kq131, q131a, q131b, q131c⟩ := isOf hZ e0 E_l_
    obtain ⟨_, _, ⟨T131, L131, cc131, n131⟩, -, X131, ⟨Lc131, hQ131, l131, y131, z131⟩, st131⟩ := X0.interfaceBack hx (xi := (⟨"java/util/Collection", "iterator", "()Ljava/util/Iterator;"⟩ : MethodName)) (y := (⟨"java/util/ArrayList", "iterator", "()Ljava/util/Iterator;"⟩ : MethodName)) hown (mvT hZ (hw _ (own_g (i := 67) rfl))) (mvT hZ (hw _ (own_g (i := 68) rfl))) (mvT hZ (hw _ (own_g (i := 69) rfl))) (mvT hZ (hw _ (own_g (i := 70) rfl))) (mvT hZ (hw _ (own_g (i := 71) rfl))) (mvT hZ (hw _ (own_g (i := 72) rfl))) (mvT hZ (hw _ (own_g (i := 73) rfl))) (mvT hZ (hw _ (own_g (i := 74) rfl))) (by decide) (backOf (W := 0) (rm_iter l Z a0 hw [] (l_) (pm) h0 n0 O0 (E_l_) (F_l__modCount)) hZ (hw _ (own_g (i := 75) rfl)) (hw _ (own_g (i := 30) rfl)) (by decide) (by decide)) q131a q131b q131c (g := (mkF m 1 #[.val (.ref a), .val (.ref l_), .unset, .unset] [(.ref l_)])) rfl (by rw [hml]; rfl) (Steps.refl _) (argsL := []) (rest := []) (lenOf pd_9 rfl) rfl (by show 2 * 0 + _ ≤ _; exact Nat.le_of_eq rfl) (hb hby d10_1) (fun _ _ => ⟨rfl, e0, (by decide : 0 + 1 ≤ _), (by decide : 0 + 4 ≤ _)⟩)
    dsimp only [Pt.U, Pt.locs, Pt.cells, Pt.slots] at X131 l131 y131 z131 st131 hQ131
    subst l131 y131 z131
    obtain ⟨h131, e131⟩ : ∃ z, T131.heap = z := ⟨_, rfl⟩
    rw [e131] at hQ131
    obtain ⟨b_131, rfl, Nq131, Kq131, p131_0, p131_1, p131_2, p131_3, p131_4, p131_5⟩ := hQ131
    have N131 := Fr.app N0 Nq131
    have r131 : own_R p e below _ _ T131 (mkF m 6 #[.val (.ref a), .val (.ref l_), .unset, .unset] [(.ref b_131)]) := r130.trans fun z_ kt => st131.trans kt
    have ne_a_b_131 : a ≠ b_131 := Nat.ne_of_lt (Nat.lt_of_lt_of_le E_a.lt p131_0)
    have ne_kp_b_131 : kp ≠ b_131 := Nat.ne_of_lt (Nat.lt_of_lt_of_le V_kp.lt p131_0)
    have ne_l__b_131 : l_ ≠ b_131 := Nat.ne_of_lt (Nat.lt_of_lt_of_le E_l_.lt p131_0)
    have ne_arr_b_131 : arr ≠ b_131 := Nat.ne_of_lt (Nat.lt_of_lt_of_le V_arr'.lt p131_0)
    have ne_y0_b_131 : y0 ≠ b_131 := Nat.ne_of_lt (Nat.lt_of_lt_of_le Ey0.lt p131_0)
    have ne_y1_b_131 : y1 ≠ b_131 := Nat.ne_of_lt (Nat.lt_of_lt_of_le Ey1.lt p131_0)
    have ne_y2_b_131 : y2 ≠ b_131 := Nat.ne_of_lt (Nat.lt_of_lt_of_le Ey2.lt p131_0)
    have g_b_131 : n0 ≤ b_131 := Nat.le_trans (own_old_size O0) p131_0
    have sz_b_131 : h0.size ≤ b_131 := Nat.le_trans K0.1 p131_0
    have O131 := O0.keep Kq131 all0
    have K131 := K0.trans Kq131 all0
    have r132 : own_R p e below _ _ T131 (mkF m 8 #[.val (.ref a), .val (.ref l_), .val (.ref b_131), .unset] [(.ref b_131)]) := r131.trans fun z_ kt => by
      refine XS.astoreN X131.here hx rfl (hb hby d10_6) rfl rfl (l' := #[.val (.ref a), .val (.ref l_), .val (.ref b_131), .unset]) rfl ?_
      refine XS.aloadN X131.here hx rfl (hb hby d10_7) rfl rfl ?_
      exact kt
    have f133 := (F_l__size.keep Kq131 nin0)
    obtain ⟨cq134, kq134, q134a, q134b, q134c⟩ := isOf hZ e131 p131_1
    obtain ⟨_, _, ⟨T134, L134, cc134, n134⟩, -, X134, ⟨Lc134, hQ134, l134, y134, z134⟩, st134⟩ := X131.interfaceBack hx (xi := (⟨"java/util/Iterator", "hasNext", "()Z"⟩ : MethodName)) (y := (⟨"java/util/ArrayList$Itr", "hasNext", "()Z"⟩ : MethodName)) hown (mvT hZ (hw _ (own_g (i := 92) rfl))) (mvT hZ (hw _ (own_g (i := 93) rfl))) (mvT hZ (hw _ (own_g (i := 94) rfl))) (mvT hZ (hw _ (own_g (i := 95) rfl))) (mvT hZ (hw _ (own_g (i := 96) rfl))) (mvT hZ (hw _ (own_g (i := 97) rfl))) (mvT hZ (hw _ (own_g (i := 98) rfl))) (mvT hZ (hw _ (own_g (i := 99) rfl))) (by decide) (backOf (W := 0) (rm_hasNext l Z a0 hw [] (b_131) (l_) ((0 : Int32)) ((3 : Int32)) ((1 : Int32)) h131 n0 O131 (p131_2) (p131_4) (f133) (Or.inr ⟨by decide, rfl⟩)) hZ (hw _ (own_g (i := 100) rfl)) (hw _ (own_g (i := 78) rfl)) (by decide) (by decide)) q134a q134b q134c (g := (mkF m 8 #[.val (.ref a), .val (.ref l_), .val (.ref b_131), .unset] [(.ref b_131)])) rfl (by rw [hml]; rfl) (Steps.refl _) (argsL := []) (rest := []) (lenOf pd_10 rfl) rfl (by show 2 * 0 + _ ≤ _; exact Nat.le_of_eq rfl) (hb hby d10_8) (fun _ _ => ⟨rfl, e131, (by decide : 1 + 0 ≤ _), (by decide : 4 + 0 ≤ _)⟩)
    dsimp only [Pt.U, Pt.locs, Pt.cells, Pt.slots] at X134 l134 y134 z134 st134 hQ134
    subst l134 y134 z134
    obtain ⟨rfl, Nq134, eq134⟩ := hQ134
    have N134 := Fr.app N131 Nq134
    have r134 : own_R p e below _ _ T134 (mkF m 13 #[.val (.ref a), .val (.ref l_), .val (.ref b_131), .unset] [(.int (1 : Int32))]) := r132.trans fun z_ kt => st134.trans kt
    have e134 : T134.heap = h131 := eq134
    have r135 : own_R p e below _ _ T134 (mkF m 17 #[.val (.ref a), .val (.ref l_), .val (.ref b_131), .unset] [(.ref b_131)]) := r134.trans fun z_ kt => by
      refine XS.ifNo X134.here hx rfl (hb hby d10_13) rfl ((if0 _ _).trans (feq (by decide : ¬ ((1 : Int32) = (0 : Int32)))).1) ?_
      refine XS.aloadN X134.here hx rfl (hb hby d10_16) rfl rfl ?_
      exact kt
    have f136 := (E_l_.keep Kq131)
    have f137 := (F_l__modCount.keep Kq131 nin0)
    have f138 := (F_l__elementData.keep Kq131 nin0)
    have f139 := (V_arr'.keep Kq131 nin0)
    obtain ⟨cq140, kq140, q140a, q140b, q140c⟩ := isOf hZ e134 p131_1
    obtain ⟨_, _, ⟨T140, L140, cc140, n140⟩, -, X140, ⟨Lc140, hQ140, l140, y140, z140⟩, st140⟩ := X134.interfaceBack hx (xi := (⟨"java/util/Iterator", "next", "()Ljava/lang/Object;"⟩ : MethodName)) (y := (⟨"java/util/ArrayList$Itr", "next", "()Ljava/lang/Object;"⟩ : MethodName)) hown (mvT hZ (hw _ (own_g (i := 178) rfl))) (mvT hZ (hw _ (own_g (i := 179) rfl))) (mvT hZ (hw _ (own_g (i := 180) rfl))) (mvT hZ (hw _ (own_g (i := 181) rfl))) (mvT hZ (hw _ (own_g (i := 182) rfl))) (mvT hZ (hw _ (own_g (i := 183) rfl))) (mvT hZ (hw _ (own_g (i := 184) rfl))) (mvT hZ (hw _ (own_g (i := 99) rfl))) (by decide) (backOf (W := 0) (rm_next l Z a0 hw [] (b_131) (l_) (pm) ((0 : Int32)) ((3 : Int32)) (arr) (ka) (z) ([(.ref y0), (.ref y1), (.ref y2)]) (y0) ((-1 : Int32)) h131 n0 O131 (p131_1) (g_b_131) (p131_2) (p131_3) (p131_4) (p131_5) (f136) (f137) (f133) (f138) (f139) (by decide) (⟨by decide, own_lt3 hz' (by decide)⟩) (rfl)) hZ (hw _ (own_g (i := 185) rfl)) (hw _ (own_g (i := 78) rfl)) (by decide) (by decide)) q140a q140b q140c (g := (mkF m 17 #[.val (.ref a), .val (.ref l_), .val (.ref b_131), .unset] [(.ref b_131)])) rfl (by rw [hml]; rfl) (Steps.refl _) (argsL := []) (rest := []) (lenOf pd_11 rfl) rfl (by show 2 * 0 + _ ≤ _; exact Nat.le_of_eq rfl) (hb hby d10_17) (fun _ _ => ⟨rfl, e134, (by decide : 1 + 0 ≤ _), (by decide : 4 + 0 ≤ _)⟩)
    dsimp only [Pt.U, Pt.locs, Pt.cells, Pt.slots] at X140 l140 y140 z140 st140 hQ140
    subst l140 y140 z140
    obtain ⟨h140, e140⟩ : ∃ z, T140.heap = z := ⟨_, rfl⟩
    rw [e140] at hQ140
    obtain ⟨rfl, Nq140, Kq140, p140_0, p140_1, p140_2, p140_3⟩ := hQ140
    have N140 := Fr.app N134 Nq140
    have r140 : own_R p e below _ _ T140 (mkF m 22 #[.val (.ref a), .val (.ref l_), .val (.ref b_131), .unset] [(.ref y0)]) := r135.trans fun z_ kt => st140.trans kt
    have O140 := O131.keep Kq140 (allS g_b_131 all0)
    have K140 := K131.trans Kq140 (allS (Or.inr sz_b_131) all0)
    have f141 := ((Ey0.keep Kq131).keep Kq140)
    obtain ⟨T142, X142, e142, st142⟩ := castY X140 hx hZ hown (hw _ (own_g (i := 59) rfl)) e140 (Ins.self f141) (g := (mkF m 22 #[.val (.ref a), .val (.ref l_), .val (.ref b_131), .unset] [(.ref y0)])) rfl rfl (hb hby d10_22)
    have r142 : own_R p e below _ _ T142 (mkF m 25 #[.val (.ref a), .val (.ref l_), .val (.ref b_131), .unset] [(.ref y0)]) := r140.trans fun z_ kt => st142 _ kt
    have f143 := ((F_a_kept.keep Kq131 nin0).keep Kq140 (ninS ne_a_b_131 nin0))
    have r144 : own_R p e below _ _ T142 (mkF m 27 #[.val (.ref a), .val (.ref l_), .val (.ref b_131), .val (.ref y0)] [(.ref a)]) := r142.trans fun z_ kt => by
      refine XS.astoreN X142.here hx rfl (hb hby d10_25) rfl rfl (l' := #[.val (.ref a), .val (.ref l_), .val (.ref b_131), .val (.ref y0)]) rfl ?_
      refine XS.aloadN X142.here hx rfl (hb hby d10_26) rfl rfl ?_
      exact kt
    obtain ⟨T145, X145, e145, st145⟩ := getF X142 hx hZ hown (host := "") (Or.inl (hw _ (own_g (i := 60) rfl))) Via.refl e142 f143 (g := (mkF m 27 #[.val (.ref a), .val (.ref l_), .val (.ref b_131), .val (.ref y0)] [(.ref a)])) rfl rfl (hb hby d10_27)
    have r145 : own_R p e below _ _ T145 (mkF m 30 #[.val (.ref a), .val (.ref l_), .val (.ref b_131), .val (.ref y0)] [(.ref kp)]) := r144.trans fun z_ kt => st145 _ kt
    have f146 := ((F_a_count.keep Kq131 nin0).keep Kq140 (ninS ne_a_b_131 nin0))
    have r147 : own_R p e below _ _ T145 (mkF m 31 #[.val (.ref a), .val (.ref l_), .val (.ref b_131), .val (.ref y0)] [(.ref a), (.ref kp)]) := r145.trans fun z_ kt => by
      refine XS.aloadN X145.here hx rfl (hb hby d10_30) rfl rfl ?_
      exact kt
    obtain ⟨T148, X148, e148, st148⟩ := getF X145 hx hZ hown (host := "") (Or.inl (hw _ (own_g (i := 115) rfl))) Via.refl e145 f146 (g := (mkF m 31 #[.val (.ref a), .val (.ref l_), .val (.ref b_131), .val (.ref y0)] [(.ref a), (.ref kp)])) rfl rfl (hb hby d10_31)
    have r148 : own_R p e below _ _ T148 (mkF m 34 #[.val (.ref a), .val (.ref l_), .val (.ref b_131), .val (.ref y0)] [(.long jc), (.ref kp)]) := r147.trans fun z_ kt => st148 _ kt
    have r149 : own_R p e below _ _ T148 (mkF m 35 #[.val (.ref a), .val (.ref l_), .val (.ref b_131), .val (.ref y0)] [(.ref a), (.long jc), (.ref kp)]) := r148.trans fun z_ kt => by
      refine XS.aloadN X148.here hx rfl (hb hby d10_34) rfl rfl ?_
      exact kt
    obtain ⟨T150, X150, e150, st150⟩ := getF X148 hx hZ hown (host := "") (Or.inl (hw _ (own_g (i := 60) rfl))) Via.refl e148 f143 (g := (mkF m 35 #[.val (.ref a), .val (.ref l_), .val (.ref b_131), .val (.ref y0)] [(.ref a), (.long jc), (.ref kp)])) rfl rfl (hb hby d10_35)
    have r150 : own_R p e below _ _ T150 (mkF m 38 #[.val (.ref a), .val (.ref l_), .val (.ref b_131), .val (.ref y0)] [(.ref kp), (.long jc), (.ref kp)]) := r149.trans fun z_ kt => st150 _ kt
    have f151 := ((V_kp.keep Kq131 nin0).keep Kq140 (ninS ne_kp_b_131 nin0))
    obtain ⟨cl152, Ar152, q152, S152, M152, H152, G152⟩ := id f151
    have Vp153 := f151.pad (pad_rep (vs : List Value) .null 1)
    obtain ⟨cl153, Ar153, q153, S153, M153, H153, G153⟩ := Vp153
    have hin153 : ¬ (((jc - (jc / (zk.toInt64)) * (zk.toInt64)).toInt32) < 0 ∨ cl153.slots.size ≤ (((jc - (jc / (zk.toInt64)) * (zk.toInt64)).toInt32)).toNatClampNeg) := inb_of S153 (own_ixA0 hvl hjc).1
    have r154 : own_R p e below _ _ T150 (mkF m 43 #[.val (.ref a), .val (.ref l_), .val (.ref b_131), .val (.ref y0)] [(.ref y0), (.int ((jc - (jc / (zk.toInt64)) * (zk.toInt64)).toInt32)), (.ref kp)]) := r150.trans fun z_ kt => by
      refine X150.arraylength hx (by rw [e150]; exact Ar152.1) (State.isArrayOf_alike hZ.alike Ar152.2.1) (g := (mkF m 38 #[.val (.ref a), .val (.ref l_), .val (.ref b_131), .val (.ref y0)] [(.ref kp), (.long jc), (.ref kp)])) rfl rfl (hb hby d10_38) _ ?_
      rw [len_of S152 M152]
      refine XS.i2l X150.here hx rfl (hb hby d10_39) rfl ?_
      refine XS.lrem X150.here hx rfl (hb hby d10_40) rfl (own_zne hjc.2) ?_
      refine XS.l2i X150.here hx rfl (hb hby d10_41) rfl ?_
      refine XS.aloadN X150.here hx rfl (hb hby d10_42) rfl rfl ?_
      exact kt
    obtain ⟨T155, h155, X155, e155, W155, st155⟩ := stR X150 hx hZ e150 Ar153 (j := ((jc - (jc / (zk.toInt64)) * (zk.toInt64)).toInt32)) hin153 rfl (Sto.ofV Ar153 q153 Ov_kk (Ins.self f141)) (g := (mkF m 43 #[.val (.ref a), .val (.ref l_), .val (.ref b_131), .val (.ref y0)] [(.ref y0), (.int ((jc - (jc / (zk.toInt64)) * (zk.toInt64)).toInt32)), (.ref kp)])) rfl rfl (hb hby d10_43)
    have r155 : own_R p e below _ _ T155 (mkF m 44 #[.val (.ref a), .val (.ref l_), .val (.ref b_131), .val (.ref y0)] []) := r154.trans fun z_ kt => st155 _ kt
    have N155 := Fr.snoc X155 N140 g_kp
    have O155 := O140.wr W155 g_kp
    have K155 := K140.wr W155 (Or.inl (List.mem_of_getElem? (i := 1) rfl))
    have V155 : Arv Z h155 kp kk (.object "java/lang/String") zk (vs ++ [(.ref y0)]) .null := own_app (Arv.set Ar153 q153 S153 M153 H153 G153 rfl W155 (vs : List Value).length (own_ixA0 hvl hjc).2 (own_lt1 _ _))
    have f156 := (f146.other W155 (Or.inl ne_a_kp))
    have r157 : own_R p e below _ _ T155 (mkF m 46 #[.val (.ref a), .val (.ref l_), .val (.ref b_131), .val (.ref y0)] [(.ref a), (.ref a)]) := r155.trans fun z_ kt => by
      refine XS.aloadN X155.here hx rfl (hb hby d10_44) rfl rfl ?_
      refine XS.dup X155.here hx rfl (hb hby d10_45) rfl rfl ?_
      exact kt
    obtain ⟨T158, X158, e158, st158⟩ := getF X155 hx hZ hown (host := "") (Or.inl (hw _ (own_g (i := 115) rfl))) Via.refl e155 f156 (g := (mkF m 46 #[.val (.ref a), .val (.ref l_), .val (.ref b_131), .val (.ref y0)] [(.ref a), (.ref a)])) rfl rfl (hb hby d10_46)
    have r158 : own_R p e below _ _ T158 (mkF m 49 #[.val (.ref a), .val (.ref l_), .val (.ref b_131), .val (.ref y0)] [(.long jc), (.ref a)]) := r157.trans fun z_ kt => st158 _ kt
    have f159 := (((E_a.keep Kq131).keep Kq140).wr W155)
    have r160 : own_R p e below _ _ T158 (mkF m 51 #[.val (.ref a), .val (.ref l_), .val (.ref b_131), .val (.ref y0)] [(.long (jc + (1 : Int64))), (.ref a)]) := r158.trans fun z_ kt => by
      refine XS.lconst X158.here hx rfl (hb hby d10_49) ?_
      refine XS.ladd X158.here hx rfl (hb hby d10_50) rfl ?_
      exact kt
    obtain ⟨T161, h161, X161, e161, W161, st161⟩ := putF X158 hx hZ hown (host := "") (Or.inl (hw _ (own_g (i := 115) rfl))) Via.refl e158 f156 f159 (Or.inl (hw _ (own_g (i := 116) rfl))) (hw _ (own_g (i := 53) rfl)) (ty := .long) (v := (.long (jc + (1 : Int64)))) (by decide) rfl rfl (g := (mkF m 51 #[.val (.ref a), .val (.ref l_), .val (.ref b_131), .val (.ref y0)] [(.long (jc + (1 : Int64))), (.ref a)])) rfl rfl (hb hby d10_51)
    have r161 : own_R p e below _ _ T161 (mkF m 54 #[.val (.ref a), .val (.ref l_), .val (.ref b_131), .val (.ref y0)] []) := r160.trans fun z_ kt => st161 _ kt
    have N161 := Fr.snoc X161 N155 g_a
    have O161 := O155.wr W161 g_a
    have K161 := K155.wr W161 (Or.inl (List.mem_of_getElem? (i := 0) rfl))
    have F161 := f156.same W161
    have f162 := (((p131_1.keep Kq140).wr W155).wr W161)
    have r163 : own_R p e below _ _ T161 (mkF m 8 #[.val (.ref a), .val (.ref l_), .val (.ref b_131), .val (.ref y0)] [(.ref b_131)]) := r161.trans fun z_ kt => by
      refine XS.goto X161.here hx rfl (pc0 := 54) (pc' := 7) rfl (hb hby d10_54) (by decide) (by decide) ?_
      refine XS.aloadN X161.here hx rfl (hb hby d10_7) rfl rfl ?_
      exact kt
    have f164 := ((p140_0.other W155 (Or.inl (Ne.symm ne_kp_b_131))).other W161 (Or.inl (Ne.symm ne_a_b_131)))
    have f165 := ((p140_2.other W155 (Or.inl (Ne.symm ne_kp_b_131))).other W161 (Or.inl (Ne.symm ne_a_b_131)))
    have f166 := (((f133.keep Kq140 (ninS ne_l__b_131 nin0)).other W155 (Or.inl (Ne.symm ne_kp_l_))).other W161 (Or.inl (Ne.symm ne_a_l_)))
    obtain ⟨cq167, kq167, q167a, q167b, q167c⟩ := isOf hZ e161 f162
    obtain ⟨_, _, ⟨T167, L167, cc167, n167⟩, -, X167, ⟨Lc167, hQ167, l167, y167, z167⟩, st167⟩ := X161.interfaceBack hx (xi := (⟨"java/util/Iterator", "hasNext", "()Z"⟩ : MethodName)) (y := (⟨"java/util/ArrayList$Itr", "hasNext", "()Z"⟩ : MethodName)) hown (mvT hZ (hw _ (own_g (i := 92) rfl))) (mvT hZ (hw _ (own_g (i := 93) rfl))) (mvT hZ (hw _ (own_g (i := 94) rfl))) (mvT hZ (hw _ (own_g (i := 95) rfl))) (mvT hZ (hw _ (own_g (i := 96) rfl))) (mvT hZ (hw _ (own_g (i := 97) rfl))) (mvT hZ (hw _ (own_g (i := 98) rfl))) (mvT hZ (hw _ (own_g (i := 99) rfl))) (by decide) (backOf (W := 0) (rm_hasNext l Z a0 hw [] (b_131) (l_) (((0 : Int32) + (1 : Int32))) ((3 : Int32)) ((1 : Int32)) h161 n0 O161 (f164) (f165) (f166) (Or.inr ⟨by decide, rfl⟩)) hZ (hw _ (own_g (i := 100) rfl)) (hw _ (own_g (i := 78) rfl)) (by decide) (by decide)) q167a q167b q167c (g := (mkF m 8 #[.val (.ref a), .val (.ref l_), .val (.ref b_131), .val (.ref y0)] [(.ref b_131)])) rfl (by rw [hml]; rfl) (Steps.refl _) (argsL := []) (rest := []) (lenOf pd_10 rfl) rfl (by show 2 * 0 + _ ≤ _; exact Nat.le_of_eq rfl) (hb hby d10_8) (fun _ _ => ⟨rfl, e161, (by decide : 1 + 0 ≤ _), (by decide : 4 + 0 ≤ _)⟩)
    dsimp only [Pt.U, Pt.locs, Pt.cells, Pt.slots] at X167 l167 y167 z167 st167 hQ167
    subst l167 y167 z167
    obtain ⟨rfl, Nq167, eq167⟩ := hQ167
    have N167 := Fr.app N161 Nq167
    have r167 : own_R p e below _ _ T167 (mkF m 13 #[.val (.ref a), .val (.ref l_), .val (.ref b_131), .val (.ref y0)] [(.int (1 : Int32))]) := r163.trans fun z_ kt => st167.trans kt
    have e167 : T167.heap = h161 := eq167
    have r168 : own_R p e below _ _ T167 (mkF m 17 #[.val (.ref a), .val (.ref l_), .val (.ref b_131), .val (.ref y0)] [(.ref b_131)]) := r167.trans fun z_ kt => by
      refine XS.ifNo X167.here hx rfl (hb hby d10_13) rfl ((if0 _ _).trans (feq (by decide : ¬ ((1 : Int32) = (0 : Int32)))).1) ?_
      refine XS.aloadN X167.here hx rfl (hb hby d10_16) rfl rfl ?_
      exact kt
    have f169 := ((p140_1.other W155 (Or.inl (Ne.symm ne_kp_b_131))).other W161 (Or.inl (Ne.symm ne_a_b_131)))
    have f170 := ((p140_3.other W155 (Or.inl (Ne.symm ne_kp_b_131))).other W161 (Or.inl (Ne.symm ne_a_b_131)))
    have f171 := (((f136.keep Kq140).wr W155).wr W161)
    have f172 := (((f137.keep Kq140 (ninS ne_l__b_131 nin0)).other W155 (Or.inl (Ne.symm ne_kp_l_))).other W161 (Or.inl (Ne.symm ne_a_l_)))
    have f173 := (((f138.keep Kq140 (ninS ne_l__b_131 nin0)).other W155 (Or.inl (Ne.symm ne_kp_l_))).other W161 (Or.inl (Ne.symm ne_a_l_)))
    have f174 := (((f139.keep Kq140 (ninS ne_arr_b_131 nin0)).other W155 (Ne.symm ne_kp_arr)).other W161 (Ne.symm ne_a_arr))
    obtain ⟨cq175, kq175, q175a, q175b, q175c⟩ := isOf hZ e167 f162
    obtain ⟨_, _, ⟨T175, L175, cc175, n175⟩, -, X175, ⟨Lc175, hQ175, l175, y175, z175⟩, st175⟩ := X167.interfaceBack hx (xi := (⟨"java/util/Iterator", "next", "()Ljava/lang/Object;"⟩ : MethodName)) (y := (⟨"java/util/ArrayList$Itr", "next", "()Ljava/lang/Object;"⟩ : MethodName)) hown (mvT hZ (hw _ (own_g (i := 178) rfl))) (mvT hZ (hw _ (own_g (i := 179) rfl))) (mvT hZ (hw _ (own_g (i := 180) rfl))) (mvT hZ (hw _ (own_g (i := 181) rfl))) (mvT hZ (hw _ (own_g (i := 182) rfl))) (mvT hZ (hw _ (own_g (i := 183) rfl))) (mvT hZ (hw _ (own_g (i := 184) rfl))) (mvT hZ (hw _ (own_g (i := 99) rfl))) (by decide) (backOf (W := 0) (rm_next l Z a0 hw [] (b_131) (l_) (pm) (((0 : Int32) + (1 : Int32))) ((3 : Int32)) (arr) (ka) (z) ([(.ref y0), (.ref y1), (.ref y2)]) (y1) ((0 : Int32)) h161 n0 O161 (f162) (g_b_131) (f164) (f169) (f165) (f170) (f171) (f172) (f166) (f173) (f174) (by decide) (⟨by decide, own_lt3 hz' (by decide)⟩) (rfl)) hZ (hw _ (own_g (i := 185) rfl)) (hw _ (own_g (i := 78) rfl)) (by decide) (by decide)) q175a q175b q175c (g := (mkF m 17 #[.val (.ref a), .val (.ref l_), .val (.ref b_131), .val (.ref y0)] [(.ref b_131)])) rfl (by rw [hml]; rfl) (Steps.refl _) (argsL := []) (rest := []) (lenOf pd_11 rfl) rfl (by show 2 * 0 + _ ≤ _; exact Nat.le_of_eq rfl) (hb hby d10_17) (fun _ _ => ⟨rfl, e167, (by decide : 1 + 0 ≤ _), (by decide : 4 + 0 ≤ _)⟩)
    dsimp only [Pt.U, Pt.locs, Pt.cells, Pt.slots] at X175 l175 y175 z175 st175 hQ175
    subst l175 y175 z175
    obtain ⟨h175, e175⟩ : ∃ z, T175.heap = z := ⟨_, rfl⟩
    rw [e175] at hQ175
    obtain ⟨rfl, Nq175, Kq175, p175_0, p175_1, p175_2, p175_3⟩ := hQ175
    have N175 := Fr.app N167 Nq175
    have r175 : own_R p e below _ _ T175 (mkF m 22 #[.val (.ref a), .val (.ref l_), .val (.ref b_131), .val (.ref y0)] [(.ref y1)]) := r168.trans fun z_ kt => st175.trans kt
    have O175 := O161.keep Kq175 (allS g_b_131 all0)
    have K175 := K161.trans Kq175 (allS (Or.inr sz_b_131) all0)
    have f176 := (((((Ey1.keep Kq131).keep Kq140).wr W155).wr W161).keep Kq175)
    obtain ⟨T177, X177, e177, st177⟩ := castY X175 hx hZ hown (hw _ (own_g (i := 59) rfl)) e175 (Ins.self f176) (g := (mkF m 22 #[.val (.ref a), .val (.ref l_), .val (.ref b_131), .val (.ref y0)] [(.ref y1)])) rfl rfl (hb hby d10_22)
    have r177 : own_R p e below _ _ T177 (mkF m 25 #[.val (.ref a), .val (.ref l_), .val (.ref b_131), .val (.ref y0)] [(.ref y1)]) := r175.trans fun z_ kt => st177 _ kt
    have f178 := (((f143.other W155 (Or.inl ne_a_kp)).other W161 (Or.inr (slot_ne (Or.inl (hw _ (own_g (i := 61) rfl))) (Or.inl (hw _ (own_g (i := 116) rfl))) (by decide) (t := (.array (.object "java/lang/String"))) (t' := .long) (by decide) (by decide)))).keep Kq175 (ninS ne_a_b_131 nin0))
    have r179 : own_R p e below _ _ T177 (mkF m 27 #[.val (.ref a), .val (.ref l_), .val (.ref b_131), .val (.ref y1)] [(.ref a)]) := r177.trans fun z_ kt => by
      refine XS.astoreN X177.here hx rfl (hb hby d10_25) rfl rfl (l' := #[.val (.ref a), .val (.ref l_), .val (.ref b_131), .val (.ref y1)]) rfl ?_
      refine XS.aloadN X177.here hx rfl (hb hby d10_26) rfl rfl ?_
      exact kt
    obtain ⟨T180, X180, e180, st180⟩ := getF X177 hx hZ hown (host := "") (Or.inl (hw _ (own_g (i := 60) rfl))) Via.refl e177 f178 (g := (mkF m 27 #[.val (.ref a), .val (.ref l_), .val (.ref b_131), .val (.ref y1)] [(.ref a)])) rfl rfl (hb hby d10_27)
    have r180 : own_R p e below _ _ T180 (mkF m 30 #[.val (.ref a), .val (.ref l_), .val (.ref b_131), .val (.ref y1)] [(.ref kp)]) := r179.trans fun z_ kt => st180 _ kt
    have f181 := (F161.keep Kq175 (ninS ne_a_b_131 nin0))
    have r182 : own_R p e below _ _ T180 (mkF m 31 #[.val (.ref a), .val (.ref l_), .val (.ref b_131), .val (.ref y1)] [(.ref a), (.ref kp)]) := r180.trans fun z_ kt => by
      refine XS.aloadN X180.here hx rfl (hb hby d10_30) rfl rfl ?_
      exact kt
    obtain ⟨T183, X183, e183, st183⟩ := getF X180 hx hZ hown (host := "") (Or.inl (hw _ (own_g (i := 115) rfl))) Via.refl e180 f181 (g := (mkF m 31 #[.val (.ref a), .val (.ref l_), .val (.ref b_131), .val (.ref y1)] [(.ref a), (.ref kp)])) rfl rfl (hb hby d10_31)
    have r183 : own_R p e below _ _ T183 (mkF m 34 #[.val (.ref a), .val (.ref l_), .val (.ref b_131), .val (.ref y1)] [(.long (jc + (1 : Int64))), (.ref kp)]) := r182.trans fun z_ kt => st183 _ kt
    have r184 : own_R p e below _ _ T183 (mkF m 35 #[.val (.ref a), .val (.ref l_), .val (.ref b_131), .val (.ref y1)] [(.ref a), (.long (jc + (1 : Int64))), (.ref kp)]) := r183.trans fun z_ kt => by
      refine XS.aloadN X183.here hx rfl (hb hby d10_34) rfl rfl ?_
      exact kt
    obtain ⟨T185, X185, e185, st185⟩ := getF X183 hx hZ hown (host := "") (Or.inl (hw _ (own_g (i := 60) rfl))) Via.refl e183 f178 (g := (mkF m 35 #[.val (.ref a), .val (.ref l_), .val (.ref b_131), .val (.ref y1)] [(.ref a), (.long (jc + (1 : Int64))), (.ref kp)])) rfl rfl (hb hby d10_35)
    have r185 : own_R p e below _ _ T185 (mkF m 38 #[.val (.ref a), .val (.ref l_), .val (.ref b_131), .val (.ref y1)] [(.ref kp), (.long (jc + (1 : Int64))), (.ref kp)]) := r184.trans fun z_ kt => st185 _ kt
    have f186 := ((V155.other W161 (Ne.symm ne_a_kp)).keep Kq175 (ninS ne_kp_b_131 nin0))
    obtain ⟨cl187, Ar187, q187, S187, M187, H187, G187⟩ := id f186
    have Vp188 := f186.pad (pad_rep ((vs ++ [(.ref y0)]) : List Value) .null 1)
    obtain ⟨cl188, Ar188, q188, S188, M188, H188, G188⟩ := Vp188
    have hin188 : ¬ ((((jc + (1 : Int64)) - ((jc + (1 : Int64)) / (zk.toInt64)) * (zk.toInt64)).toInt32) < 0 ∨ cl188.slots.size ≤ ((((jc + (1 : Int64)) - ((jc + (1 : Int64)) / (zk.toInt64)) * (zk.toInt64)).toInt32)).toNatClampNeg) := inb_of S188 (own_ixA1 (v0 := .null) hvl hjc).1
    have r189 : own_R p e below _ _ T185 (mkF m 43 #[.val (.ref a), .val (.ref l_), .val (.ref b_131), .val (.ref y1)] [(.ref y1), (.int (((jc + (1 : Int64)) - ((jc + (1 : Int64)) / (zk.toInt64)) * (zk.toInt64)).toInt32)), (.ref kp)]) := r185.trans fun z_ kt => by
      refine X185.arraylength hx (by rw [e185]; exact Ar187.1) (State.isArrayOf_alike hZ.alike Ar187.2.1) (g := (mkF m 38 #[.val (.ref a), .val (.ref l_), .val (.ref b_131), .val (.ref y1)] [(.ref kp), (.long (jc + (1 : Int64))), (.ref kp)])) rfl rfl (hb hby d10_38) _ ?_
      rw [len_of S187 M187]
      refine XS.i2l X185.here hx rfl (hb hby d10_39) rfl ?_
      refine XS.lrem X185.here hx rfl (hb hby d10_40) rfl (own_zne hjc.2) ?_
      refine XS.l2i X185.here hx rfl (hb hby d10_41) rfl ?_
      refine XS.aloadN X185.here hx rfl (hb hby d10_42) rfl rfl ?_
      exact kt
    obtain ⟨T190, h190, X190, e190, W190, st190⟩ := stR X185 hx hZ e185 Ar188 (j := (((jc + (1 : Int64)) - ((jc + (1 : Int64)) / (zk.toInt64)) * (zk.toInt64)).toInt32)) hin188 rfl (Sto.ofV Ar188 q188 Ov_kk (Ins.self f176)) (g := (mkF m 43 #[.val (.ref a), .val (.ref l_), .val (.ref b_131), .val (.ref y1)] [(.ref y1), (.int (((jc + (1 : Int64)) - ((jc + (1 : Int64)) / (zk.toInt64)) * (zk.toInt64)).toInt32)), (.ref kp)])) rfl rfl (hb hby d10_43)
    have r190 : own_R p e below _ _ T190 (mkF m 44 #[.val (.ref a), .val (.ref l_), .val (.ref b_131), .val (.ref y1)] []) := r189.trans fun z_ kt => st190 _ kt
    have N190 := Fr.snoc X190 N175 g_kp
    have O190 := O175.wr W190 g_kp
    have K190 := K175.wr W190 (Or.inl (List.mem_of_getElem? (i := 1) rfl))
    have V190 : Arv Z h190 kp kk (.object "java/lang/String") zk ((vs ++ [(.ref y0)]) ++ [(.ref y1)]) .null := own_app (Arv.set Ar188 q188 S188 M188 H188 G188 rfl W190 ((vs ++ [(.ref y0)]) : List Value).length (own_ixA1 hvl hjc).2 (own_lt1 _ _))
    have f191 := (f181.other W190 (Or.inl ne_a_kp))
    have r192 : own_R p e below _ _ T190 (mkF m 46 #[.val (.ref a), .val (.ref l_), .val (.ref b_131), .val (.ref y1)] [(.ref a), (.ref a)]) := r190.trans fun z_ kt => by
      refine XS.aloadN X190.here hx rfl (hb hby d10_44) rfl rfl ?_
      refine XS.dup X190.here hx rfl (hb hby d10_45) rfl rfl ?_
      exact kt
    obtain ⟨T193, X193, e193, st193⟩ := getF X190 hx hZ hown (host := "") (Or.inl (hw _ (own_g (i := 115) rfl))) Via.refl e190 f191 (g := (mkF m 46 #[.val (.ref a), .val (.ref l_), .val (.ref b_131), .val (.ref y1)] [(.ref a), (.ref a)])) rfl rfl (hb hby d10_46)
    have r193 : own_R p e below _ _ T193 (mkF m 49 #[.val (.ref a), .val (.ref l_), .val (.ref b_131), .val (.ref y1)] [(.long (jc + (1 : Int64))), (.ref a)]) := r192.trans fun z_ kt => st193 _ kt
    have f194 := (((f159.wr W161).keep Kq175).wr W190)
    have r195 : own_R p e below _ _ T193 (mkF m 51 #[.val (.ref a), .val (.ref l_), .val (.ref b_131), .val (.ref y1)] [(.long ((jc + (1 : Int64)) + (1 : Int64))), (.ref a)]) := r193.trans fun z_ kt => by
      refine XS.lconst X193.here hx rfl (hb hby d10_49) ?_
      refine XS.ladd X193.here hx rfl (hb hby d10_50) rfl ?_
      exact kt
    obtain ⟨T196, h196, X196, e196, W196, st196⟩ := putF X193 hx hZ hown (host := "") (Or.inl (hw _ (own_g (i := 115) rfl))) Via.refl e193 f191 f194 (Or.inl (hw _ (own_g (i := 116) rfl))) (hw _ (own_g (i := 53) rfl)) (ty := .long) (v := (.long ((jc + (1 : Int64)) + (1 : Int64)))) (by decide) rfl rfl (g := (mkF m 51 #[.val (.ref a), .val (.ref l_), .val (.ref b_131), .val (.ref y1)] [(.long ((jc + (1 : Int64)) + (1 : Int64))), (.ref a)])) rfl rfl (hb hby d10_51)
    have r196 : own_R p e below _ _ T196 (mkF m 54 #[.val (.ref a), .val (.ref l_), .val (.ref b_131), .val (.ref y1)] []) := r195.trans fun z_ kt => st196 _ kt
    have N196 := Fr.snoc X196 N190 g_a
    have O196 := O190.wr W196 g_a
    have K196 := K190.wr W196 (Or.inl (List.mem_of_getElem? (i := 0) rfl))
    have F196 := f191.same W196
    have f197 := (((f162.keep Kq175).wr W190).wr W196)
    have r198 : own_R p e below _ _ T196 (mkF m 8 #[.val (.ref a), .val (.ref l_), .val (.ref b_131), .val (.ref y1)] [(.ref b_131)]) := r196.trans fun z_ kt => by
      refine XS.goto X196.here hx rfl (pc0 := 54) (pc' := 7) rfl (hb hby d10_54) (by decide) (by decide) ?_
      refine XS.aloadN X196.here hx rfl (hb hby d10_7) rfl rfl ?_
      exact kt
    have f199 := ((p175_0.other W190 (Or.inl (Ne.symm ne_kp_b_131))).other W196 (Or.inl (Ne.symm ne_a_b_131)))
    have f200 := ((p175_2.other W190 (Or.inl (Ne.symm ne_kp_b_131))).other W196 (Or.inl (Ne.symm ne_a_b_131)))
    have f201 := (((f166.keep Kq175 (ninS ne_l__b_131 nin0)).other W190 (Or.inl (Ne.symm ne_kp_l_))).other W196 (Or.inl (Ne.symm ne_a_l_)))
    obtain ⟨cq202, kq202, q202a, q202b, q202c⟩ := isOf hZ e196 f197
    obtain ⟨_, _, ⟨T202, L202, cc202, n202⟩, -, X202, ⟨Lc202, hQ202, l202, y202, z202⟩, st202⟩ := X196.interfaceBack hx (xi := (⟨"java/util/Iterator", "hasNext", "()Z"⟩ : MethodName)) (y := (⟨"java/util/ArrayList$Itr", "hasNext", "()Z"⟩ : MethodName)) hown (mvT hZ (hw _ (own_g (i := 92) rfl))) (mvT hZ (hw _ (own_g (i := 93) rfl))) (mvT hZ (hw _ (own_g (i := 94) rfl))) (mvT hZ (hw _ (own_g (i := 95) rfl))) (mvT hZ (hw _ (own_g (i := 96) rfl))) (mvT hZ (hw _ (own_g (i := 97) rfl))) (mvT hZ (hw _ (own_g (i := 98) rfl))) (mvT hZ (hw _ (own_g (i := 99) rfl))) (by decide) (backOf (W := 0) (rm_hasNext l Z a0 hw [] (b_131) (l_) ((((0 : Int32) + (1 : Int32)) + (1 : Int32))) ((3 : Int32)) ((1 : Int32)) h196 n0 O196 (f199) (f200) (f201) (Or.inr ⟨by decide, rfl⟩)) hZ (hw _ (own_g (i := 100) rfl)) (hw _ (own_g (i := 78) rfl)) (by decide) (by decide)) q202a q202b q202c (g := (mkF m 8 #[.val (.ref a), .val (.ref l_), .val (.ref b_131), .val (.ref y1)] [(.ref b_131)])) rfl (by rw [hml]; rfl) (Steps.refl _) (argsL := []) (rest := []) (lenOf pd_10 rfl) rfl (by show 2 * 0 + _ ≤ _; exact Nat.le_of_eq rfl) (hb hby d10_8) (fun _ _ => ⟨rfl, e196, (by decide : 1 + 0 ≤ _), (by decide : 4 + 0 ≤ _)⟩)
    dsimp only [Pt.U, Pt.locs, Pt.cells, Pt.slots] at X202 l202 y202 z202 st202 hQ202
    subst l202 y202 z202
    obtain ⟨rfl, Nq202, eq202⟩ := hQ202
    have N202 := Fr.app N196 Nq202
    have r202 : own_R p e below _ _ T202 (mkF m 13 #[.val (.ref a), .val (.ref l_), .val (.ref b_131), .val (.ref y1)] [(.int (1 : Int32))]) := r198.trans fun z_ kt => st202.trans kt
    have e202 : T202.heap = h196 := eq202
    have r203 : own_R p e below _ _ T202 (mkF m 17 #[.val (.ref a), .val (.ref l_), .val (.ref b_131), .val (.ref y1)] [(.ref b_131)]) := r202.trans fun z_ kt => by
      refine XS.ifNo X202.here hx rfl (hb hby d10_13) rfl ((if0 _ _).trans (feq (by decide : ¬ ((1 : Int32) = (0 : Int32)))).1) ?_
      refine XS.aloadN X202.here hx rfl (hb hby d10_16) rfl rfl ?_
      exact kt
    have f204 := ((p175_1.other W190 (Or.inl (Ne.symm ne_kp_b_131))).other W196 (Or.inl (Ne.symm ne_a_b_131)))
    have f205 := ((p175_3.other W190 (Or.inl (Ne.symm ne_kp_b_131))).other W196 (Or.inl (Ne.symm ne_a_b_131)))
    have f206 := (((f171.keep Kq175).wr W190).wr W196)
    have f207 := (((f172.keep Kq175 (ninS ne_l__b_131 nin0)).other W190 (Or.inl (Ne.symm ne_kp_l_))).other W196 (Or.inl (Ne.symm ne_a_l_)))
    have f208 := (((f173.keep Kq175 (ninS ne_l__b_131 nin0)).other W190 (Or.inl (Ne.symm ne_kp_l_))).other W196 (Or.inl (Ne.symm ne_a_l_)))
    have f209 := (((f174.keep Kq175 (ninS ne_arr_b_131 nin0)).other W190 (Ne.symm ne_kp_arr)).other W196 (Ne.symm ne_a_arr))
    obtain ⟨cq210, kq210, q210a, q210b, q210c⟩ := isOf hZ e202 f197
    obtain ⟨_, _, ⟨T210, L210, cc210, n210⟩, -, X210, ⟨Lc210, hQ210, l210, y210, z210⟩, st210⟩ := X202.interfaceBack hx (xi := (⟨"java/util/Iterator", "next", "()Ljava/lang/Object;"⟩ : MethodName)) (y := (⟨"java/util/ArrayList$Itr", "next", "()Ljava/lang/Object;"⟩ : MethodName)) hown (mvT hZ (hw _ (own_g (i := 178) rfl))) (mvT hZ (hw _ (own_g (i := 179) rfl))) (mvT hZ (hw _ (own_g (i := 180) rfl))) (mvT hZ (hw _ (own_g (i := 181) rfl))) (mvT hZ (hw _ (own_g (i := 182) rfl))) (mvT hZ (hw _ (own_g (i := 183) rfl))) (mvT hZ (hw _ (own_g (i := 184) rfl))) (mvT hZ (hw _ (own_g (i := 99) rfl))) (by decide) (backOf (W := 0) (rm_next l Z a0 hw [] (b_131) (l_) (pm) ((((0 : Int32) + (1 : Int32)) + (1 : Int32))) ((3 : Int32)) (arr) (ka) (z) ([(.ref y0), (.ref y1), (.ref y2)]) (y2) (((0 : Int32) + (1 : Int32))) h196 n0 O196 (f197) (g_b_131) (f199) (f204) (f200) (f205) (f206) (f207) (f201) (f208) (f209) (by decide) (⟨by decide, own_lt3 hz' (by decide)⟩) (rfl)) hZ (hw _ (own_g (i := 185) rfl)) (hw _ (own_g (i := 78) rfl)) (by decide) (by decide)) q210a q210b q210c (g := (mkF m 17 #[.val (.ref a), .val (.ref l_), .val (.ref b_131), .val (.ref y1)] [(.ref b_131)])) rfl (by rw [hml]; rfl) (Steps.refl _) (argsL := []) (rest := []) (lenOf pd_11 rfl) rfl (by show 2 * 0 + _ ≤ _; exact Nat.le_of_eq rfl) (hb hby d10_17) (fun _ _ => ⟨rfl, e202, (by decide : 1 + 0 ≤ _), (by decide : 4 + 0 ≤ _)⟩)
    dsimp only [Pt.U, Pt.locs, Pt.cells, Pt.slots] at X210 l210 y210 z210 st210 hQ210
    subst l210 y210 z210
    obtain ⟨h210, e210⟩ : ∃ z, T210.heap = z := ⟨_, rfl⟩
    rw [e210] at hQ210
    obtain ⟨rfl, Nq210, Kq210, p210_0, p210_1, p210_2, p210_3⟩ := hQ210
    have N210 := Fr.app N202 Nq210
    have r210 : own_R p e below _ _ T210 (mkF m 22 #[.val (.ref a), .val (.ref l_), .val (.ref b_131), .val (.ref y1)] [(.ref y2)]) := r203.trans fun z_ kt => st210.trans kt
    have O210 := O196.keep Kq210 (allS g_b_131 all0)
    have K210 := K196.trans Kq210 (allS (Or.inr sz_b_131) all0)
    have f211 := ((((((((Ey2.keep Kq131).keep Kq140).wr W155).wr W161).keep Kq175).wr W190).wr W196).keep Kq210)
    obtain ⟨T212, X212, e212, st212⟩ := castY X210 hx hZ hown (hw _ (own_g (i := 59) rfl)) e210 (Ins.self f211) (g := (mkF m 22 #[.val (.ref a), .val (.ref l_), .val (.ref b_131), .val (.ref y1)] [(.ref y2)])) rfl rfl (hb hby d10_22)
    have r212 : own_R p e below _ _ T212 (mkF m 25 #[.val (.ref a), .val (.ref l_), .val (.ref b_131), .val (.ref y1)] [(.ref y2)]) := r210.trans fun z_ kt => st212 _ kt
    have f213 := (((f178.other W190 (Or.inl ne_a_kp)).other W196 (Or.inr (slot_ne (Or.inl (hw _ (own_g (i := 61) rfl))) (Or.inl (hw _ (own_g (i := 116) rfl))) (by decide) (t := (.array (.object "java/lang/String"))) (t' := .long) (by decide) (by decide)))).keep Kq210 (ninS ne_a_b_131 nin0))
    have r214 : own_R p e below _ _ T212 (mkF m 27 #[.val (.ref a), .val (.ref l_), .val (.ref b_131), .val (.ref y2)] [(.ref a)]) := r212.trans fun z_ kt => by
      refine XS.astoreN X212.here hx rfl (hb hby d10_25) rfl rfl (l' := #[.val (.ref a), .val (.ref l_), .val (.ref b_131), .val (.ref y2)]) rfl ?_
      refine XS.aloadN X212.here hx rfl (hb hby d10_26) rfl rfl ?_
      exact kt
    obtain ⟨T215, X215, e215, st215⟩ := getF X212 hx hZ hown (host := "") (Or.inl (hw _ (own_g (i := 60) rfl))) Via.refl e212 f213 (g := (mkF m 27 #[.val (.ref a), .val (.ref l_), .val (.ref b_131), .val (.ref y2)] [(.ref a)])) rfl rfl (hb hby d10_27)
    have r215 : own_R p e below _ _ T215 (mkF m 30 #[.val (.ref a), .val (.ref l_), .val (.ref b_131), .val (.ref y2)] [(.ref kp)]) := r214.trans fun z_ kt => st215 _ kt
    have f216 := (F196.keep Kq210 (ninS ne_a_b_131 nin0))
    have r217 : own_R p e below _ _ T215 (mkF m 31 #[.val (.ref a), .val (.ref l_), .val (.ref b_131), .val (.ref y2)] [(.ref a), (.ref kp)]) := r215.trans fun z_ kt => by
      refine XS.aloadN X215.here hx rfl (hb hby d10_30) rfl rfl ?_
      exact kt
    obtain ⟨T218, X218, e218, st218⟩ := getF X215 hx hZ hown (host := "") (Or.inl (hw _ (own_g (i := 115) rfl))) Via.refl e215 f216 (g := (mkF m 31 #[.val (.ref a), .val (.ref l_), .val (.ref b_131), .val (.ref y2)] [(.ref a), (.ref kp)])) rfl rfl (hb hby d10_31)
    have r218 : own_R p e below _ _ T218 (mkF m 34 #[.val (.ref a), .val (.ref l_), .val (.ref b_131), .val (.ref y2)] [(.long ((jc + (1 : Int64)) + (1 : Int64))), (.ref kp)]) := r217.trans fun z_ kt => st218 _ kt
    have r219 : own_R p e below _ _ T218 (mkF m 35 #[.val (.ref a), .val (.ref l_), .val (.ref b_131), .val (.ref y2)] [(.ref a), (.long ((jc + (1 : Int64)) + (1 : Int64))), (.ref kp)]) := r218.trans fun z_ kt => by
      refine XS.aloadN X218.here hx rfl (hb hby d10_34) rfl rfl ?_
      exact kt
    obtain ⟨T220, X220, e220, st220⟩ := getF X218 hx hZ hown (host := "") (Or.inl (hw _ (own_g (i := 60) rfl))) Via.refl e218 f213 (g := (mkF m 35 #[.val (.ref a), .val (.ref l_), .val (.ref b_131), .val (.ref y2)] [(.ref a), (.long ((jc + (1 : Int64)) + (1 : Int64))), (.ref kp)])) rfl rfl (hb hby d10_35)
    have r220 : own_R p e below _ _ T220 (mkF m 38 #[.val (.ref a), .val (.ref l_), .val (.ref b_131), .val (.ref y2)] [(.ref kp), (.long ((jc + (1 : Int64)) + (1 : Int64))), (.ref kp)]) := r219.trans fun z_ kt => st220 _ kt
    have f221 := ((V190.other W196 (Ne.symm ne_a_kp)).keep Kq210 (ninS ne_kp_b_131 nin0))
    obtain ⟨cl222, Ar222, q222, S222, M222, H222, G222⟩ := id f221
    have Vp223 := f221.pad (pad_rep (((vs ++ [(.ref y0)]) ++ [(.ref y1)]) : List Value) .null 1)
    obtain ⟨cl223, Ar223, q223, S223, M223, H223, G223⟩ := Vp223
    have hin223 : ¬ (((((jc + (1 : Int64)) + (1 : Int64)) - (((jc + (1 : Int64)) + (1 : Int64)) / (zk.toInt64)) * (zk.toInt64)).toInt32) < 0 ∨ cl223.slots.size ≤ (((((jc + (1 : Int64)) + (1 : Int64)) - (((jc + (1 : Int64)) + (1 : Int64)) / (zk.toInt64)) * (zk.toInt64)).toInt32)).toNatClampNeg) := inb_of S223 (own_ixA2 (v0 := .null) (v1 := .null) hvl hjc).1
    have r224 : own_R p e below _ _ T220 (mkF m 43 #[.val (.ref a), .val (.ref l_), .val (.ref b_131), .val (.ref y2)] [(.ref y2), (.int ((((jc + (1 : Int64)) + (1 : Int64)) - (((jc + (1 : Int64)) + (1 : Int64)) / (zk.toInt64)) * (zk.toInt64)).toInt32)), (.ref kp)]) := r220.trans fun z_ kt => by
      refine X220.arraylength hx (by rw [e220]; exact Ar222.1) (State.isArrayOf_alike hZ.alike Ar222.2.1) (g := (mkF m 38 #[.val (.ref a), .val (.ref l_), .val (.ref b_131), .val (.ref y2)] [(.ref kp), (.long ((jc + (1 : Int64)) + (1 : Int64))), (.ref kp)])) rfl rfl (hb hby d10_38) _ ?_
      rw [len_of S222 M222]
      refine XS.i2l X220.here hx rfl (hb hby d10_39) rfl ?_
      refine XS.lrem X220.here hx rfl (hb hby d10_40) rfl (own_zne hjc.2) ?_
      refine XS.l2i X220.here hx rfl (hb hby d10_41) rfl ?_
      refine XS.aloadN X220.here hx rfl (hb hby d10_42) rfl rfl ?_
      exact kt
    obtain ⟨T225, h225, X225, e225, W225, st225⟩ := stR X220 hx hZ e220 Ar223 (j := ((((jc + (1 : Int64)) + (1 : Int64)) - (((jc + (1 : Int64)) + (1 : Int64)) / (zk.toInt64)) * (zk.toInt64)).toInt32)) hin223 rfl (Sto.ofV Ar223 q223 Ov_kk (Ins.self f211)) (g := (mkF m 43 #[.val (.ref a), .val (.ref l_), .val (.ref b_131), .val (.ref y2)] [(.ref y2), (.int ((((jc + (1 : Int64)) + (1 : Int64)) - (((jc + (1 : Int64)) + (1 : Int64)) / (zk.toInt64)) * (zk.toInt64)).toInt32)), (.ref kp)])) rfl rfl (hb hby d10_43)
    have r225 : own_R p e below _ _ T225 (mkF m 44 #[.val (.ref a), .val (.ref l_), .val (.ref b_131), .val (.ref y2)] []) := r224.trans fun z_ kt => st225 _ kt
    have N225 := Fr.snoc X225 N210 g_kp
    have O225 := O210.wr W225 g_kp
    have K225 := K210.wr W225 (Or.inl (List.mem_of_getElem? (i := 1) rfl))
    have V225 : Arv Z h225 kp kk (.object "java/lang/String") zk (((vs ++ [(.ref y0)]) ++ [(.ref y1)]) ++ [(.ref y2)]) .null := own_app (Arv.set Ar223 q223 S223 M223 H223 G223 rfl W225 (((vs ++ [(.ref y0)]) ++ [(.ref y1)]) : List Value).length (own_ixA2 hvl hjc).2 (own_lt1 _ _))
    have f226 := (f216.other W225 (Or.inl ne_a_kp))
    have r227 : own_R p e below _ _ T225 (mkF m 46 #[.val (.ref a), .val (.ref l_), .val (.ref b_131), .val (.ref y2)] [(.ref a), (.ref a)]) := r225.trans fun z_ kt => by
      refine XS.aloadN X225.here hx rfl (hb hby d10_44) rfl rfl ?_
      refine XS.dup X225.here hx rfl (hb hby d10_45) rfl rfl ?_
      exact kt
    obtain ⟨T228, X228, e228, st228⟩ := getF X225 hx hZ hown (host := "") (Or.inl (hw _ (own_g (i := 115) rfl))) Via.refl e225 f226 (g := (mkF m 46 #[.val (.ref a), .val (.ref l_), .val (.ref b_131), .val (.ref y2)] [(.ref a), (.ref a)])) rfl rfl (hb hby d10_46)
    have r228 : own_R p e below _ _ T228 (mkF m 49 #[.val (.ref a), .val (.ref l_), .val (.ref b_131), .val (.ref y2)] [(.long ((jc + (1 : Int64)) + (1 : Int64))), (.ref a)]) := r227.trans fun z_ kt => st228 _ kt
    have f229 := (((f194.wr W196).keep Kq210).wr W225)
    have r230 : own_R p e below _ _ T228 (mkF m 51 #[.val (.ref a), .val (.ref l_), .val (.ref b_131), .val (.ref y2)] [(.long (((jc + (1 : Int64)) + (1 : Int64)) + (1 : Int64))), (.ref a)]) := r228.trans fun z_ kt => by
      refine XS.lconst X228.here hx rfl (hb hby d10_49) ?_
      refine XS.ladd X228.here hx rfl (hb hby d10_50) rfl ?_
      exact kt
    obtain ⟨T231, h231, X231, e231, W231, st231⟩ := putF X228 hx hZ hown (host := "") (Or.inl (hw _ (own_g (i := 115) rfl))) Via.refl e228 f226 f229 (Or.inl (hw _ (own_g (i := 116) rfl))) (hw _ (own_g (i := 53) rfl)) (ty := .long) (v := (.long (((jc + (1 : Int64)) + (1 : Int64)) + (1 : Int64)))) (by decide) rfl rfl (g := (mkF m 51 #[.val (.ref a), .val (.ref l_), .val (.ref b_131), .val (.ref y2)] [(.long (((jc + (1 : Int64)) + (1 : Int64)) + (1 : Int64))), (.ref a)])) rfl rfl (hb hby d10_51)
    have r231 : own_R p e below _ _ T231 (mkF m 54 #[.val (.ref a), .val (.ref l_), .val (.ref b_131), .val (.ref y2)] []) := r230.trans fun z_ kt => st231 _ kt
    have N231 := Fr.snoc X231 N225 g_a
    have O231 := O225.wr W231 g_a
    have K231 := K225.wr W231 (Or.inl (List.mem_of_getElem? (i := 0) rfl))
    have F231 := f226.same W231
    have f232 := (((f197.keep Kq210).wr W225).wr W231)
    have r233 : own_R p e below _ _ T231 (mkF m 8 #[.val (.ref a), .val (.ref l_), .val (.ref b_131), .val (.ref y2)] [(.ref b_131)]) := r231.trans fun z_ kt => by
      refine XS.goto X231.here hx rfl (pc0 := 54) (pc' := 7) rfl (hb hby d10_54) (by decide) (by decide) ?_
      refine XS.aloadN X231.here hx rfl (hb hby d10_7) rfl rfl ?_
      exact kt
    have f234 := ((p210_0.other W225 (Or.inl (Ne.symm ne_kp_b_131))).other W231 (Or.inl (Ne.symm ne_a_b_131)))
    have f235 := ((p210_2.other W225 (Or.inl (Ne.symm ne_kp_b_131))).other W231 (Or.inl (Ne.symm ne_a_b_131)))
    have f236 := (((f201.keep Kq210 (ninS ne_l__b_131 nin0)).other W225 (Or.inl (Ne.symm ne_kp_l_))).other W231 (Or.inl (Ne.symm ne_a_l_)))
    obtain ⟨cq237, kq237, q237a, q237b, q237c⟩ := isOf hZ e231 f232
    obtain ⟨_, _, ⟨T237, L237, cc237, n237⟩, -, X237, ⟨Lc237, hQ237, l237, y237, z237⟩, st237⟩ := X231.interfaceBack hx (xi := (⟨"java/util/Iterator", "hasNext", "()Z"⟩ : MethodName)) (y := (⟨"java/util/ArrayList$Itr", "hasNext", "()Z"⟩ : MethodName)) hown (mvT hZ (hw _ (own_g (i := 92) rfl))) (mvT hZ (hw _ (own_g (i := 93) rfl))) (mvT hZ (hw _ (own_g (i := 94) rfl))) (mvT hZ (hw _ (own_g (i := 95) rfl))) (mvT hZ (hw _ (own_g (i := 96) rfl))) (mvT hZ (hw _ (own_g (i := 97) rfl))) (mvT hZ (hw _ (own_g (i := 98) rfl))) (mvT hZ (hw _ (own_g (i := 99) rfl))) (by decide) (backOf (W := 0) (rm_hasNext l Z a0 hw [] (b_131) (l_) (((((0 : Int32) + (1 : Int32)) + (1 : Int32)) + (1 : Int32))) ((3 : Int32)) ((0 : Int32)) h231 n0 O231 (f234) (f235) (f236) (Or.inl ⟨by decide, rfl⟩)) hZ (hw _ (own_g (i := 100) rfl)) (hw _ (own_g (i := 78) rfl)) (by decide) (by decide)) q237a q237b q237c (g := (mkF m 8 #[.val (.ref a), .val (.ref l_), .val (.ref b_131), .val (.ref y2)] [(.ref b_131)])) rfl (by rw [hml]; rfl) (Steps.refl _) (argsL := []) (rest := []) (lenOf pd_10 rfl) rfl (by show 2 * 0 + _ ≤ _; exact Nat.le_of_eq rfl) (hb hby d10_8) (fun _ _ => ⟨rfl, e231, (by decide : 1 + 0 ≤ _), (by decide : 4 + 0 ≤ _)⟩)
    dsimp only [Pt.U, Pt.locs, Pt.cells, Pt.slots] at X237 l237 y237 z237 st237 hQ237
    subst l237 y237 z237
    obtain ⟨rfl, Nq237, eq237⟩ := hQ237
    have N237 := Fr.app N231 Nq237
    have r237 : own_R p e below _ _ T237 (mkF m 13 #[.val (.ref a), .val (.ref l_), .val (.ref b_131), .val (.ref y2)] [(.int (0 : Int32))]) := r233.trans fun z_ kt => st237.trans kt
    have e237 : T237.heap = h231 := eq237
    have r238 : own_R p e below _ _ T237 (mkF m 57 #[.val (.ref a), .val (.ref l_), .val (.ref b_131), .val (.ref y2)] []) := r237.trans fun z_ kt => by
      refine XS.ifYes X237.here hx rfl (pc0 := 13) (pc' := 57) rfl (hb hby d10_13) rfl ((if0 _ _).trans (teq (by decide : (0 : Int32) = (0 : Int32))).1) (by decide) (by decide) ?_
      exact kt
    have f239 := (V225.other W231 (Ne.symm ne_a_kp))
    have f240 := ((f213.other W225 (Or.inl ne_a_kp)).other W231 (Or.inr (slot_ne (Or.inl (hw _ (own_g (i := 61) rfl))) (Or.inl (hw _ (own_g (i := 116) rfl))) (by decide) (t := (.array (.object "java/lang/String"))) (t' := .long) (by decide) (by decide))))
    have f241 := ((((((((((F_a_forgottenOnGrowth.keep Kq131 nin0).keep Kq140 (ninS ne_a_b_131 nin0)).other W155 (Or.inl ne_a_kp)).other W161 (Or.inr (slot_ne (Or.inl (hw _ (own_g (i := 127) rfl))) (Or.inl (hw _ (own_g (i := 116) rfl))) (by decide) (t := .long) (t' := .long) (by decide) (by decide)))).keep Kq175 (ninS ne_a_b_131 nin0)).other W190 (Or.inl ne_a_kp)).other W196 (Or.inr (slot_ne (Or.inl (hw _ (own_g (i := 127) rfl))) (Or.inl (hw _ (own_g (i := 116) rfl))) (by decide) (t := .long) (t' := .long) (by decide) (by decide)))).keep Kq210 (ninS ne_a_b_131 nin0)).other W225 (Or.inl ne_a_kp)).other W231 (Or.inr (slot_ne (Or.inl (hw _ (own_g (i := 127) rfl))) (Or.inl (hw _ (own_g (i := 116) rfl))) (by decide) (t := .long) (t' := .long) (by decide) (by decide))))
    obtain ⟨fs_, hr_, hrun_, hended_, hW_, hsame_⟩ := X237.leave (v := none) (fun _ => rfl)
    refine ⟨_, _, pre0 _ (r238 _ ?_), hrun_, hended_, _, _, rfl, ?_, ⟨_, rfl⟩, hW_, hsame_.mono (by decide) (by decide)⟩
    · exact X237.returnOut hx Bd.returns (hb hby d10_57) hr_
    · show Q_rcAdd Z a l_ kp kk jc zk vs arr ka z ys ps pm h0 n0 _ T237.heap _
      rw [e237]
      exact ⟨(((jc + (1 : Int64)) + (1 : Int64)) + (1 : Int64)), rfl, N237, K231, f240, F231, f241, (by rw [hy]; exact own_assoc3 f239), by rw [hy]; exact own_cnt3 hvl hjc⟩

theorem d17_0 : decode prog_14_method_6_code 0 = .ok (.aload_n 0, 1) := by decide +kernel
theorem d17_1 : decode prog_14_method_6_code 1 = .ok (.getfield 38, 3) := by decide +kernel
theorem d17_4 : decode prog_14_method_6_code 4 = .ok (.aload_n 0, 1) := by decide +kernel
theorem d17_5 : decode prog_14_method_6_code 5 = .ok (.getfield 17, 3) := by decide +kernel
theorem d17_8 : decode prog_14_method_6_code 8 = .ok (.aload_n 0, 1) := by decide +kernel
theorem d17_9 : decode prog_14_method_6_code 9 = .ok (.getfield 13, 3) := by decide +kernel
theorem d17_12 : decode prog_14_method_6_code 12 = .ok (.arraylength, 1) := by decide +kernel
theorem d17_13 : decode prog_14_method_6_code 13 = .ok (.i2l, 1) := by decide +kernel
theorem d17_14 : decode prog_14_method_6_code 14 = .ok (.lsub, 1) := by decide +kernel
theorem d17_15 : decode prog_14_method_6_code 15 = .ok (.invokestatic 27, 3) := by decide +kernel
theorem pd_12 : parseMethodDescriptor "(JJ)J" = some ⟨[.long, .long], some .long⟩ := by decide +kernel
theorem d17_18 : decode prog_14_method_6_code 18 = .ok (.lreturn, 1) := by decide +kernel
theorem ef_oldest (m : MethodId) (a : Addr) : entryFrame m #[(.ref a)] 1 = mkF m 0 #[.val (.ref a)] [] := by first | (simp [entryFrame, mkF, argsToLocals, Value.category]; done) | rfl
def Q_oldest (Z : State) (a : Addr) (kp : Addr) (kk : ClassId) (jc : Int64) (zk : Int32) (vs : List Value) (h0 : Heap) (n0 : Nat) (v_ : Option Value) (h_ : Heap) (L_ : List Loc) : Prop := v_ = some (.long (0 : Int64)) ∧ Fr n0 L_ ∧ h_ = h0
set_option maxRecDepth 65536 in
set_option maxHeartbeats 40000000 in
theorem rm_oldest (l : Launch) (Z : State) (a0 : Array Value) (hw : ∀ d ∈ tables_1, d.before a0 Z = true) (ws : List Jvm.Cond) (a : Addr) (kp : Addr) (kk : ClassId) (jc : Int64) (zk : Int32) (vs : List Value) (h0 : Heap) (n0 : Nat) (O0 : Old Z n0 h0) (F_a_kept : Fld Z h0 a "com/example/kleinbasel/kleinbasel/content/RecentChanges" "kept" "[Ljava/lang/String;" (.ref kp)) (F_a_count : Fld Z h0 a "com/example/kleinbasel/kleinbasel/content/RecentChanges" "count" "J" (.long jc)) (F_a_forgottenOnGrowth : Fld Z h0 a "com/example/kleinbasel/kleinbasel/content/RecentChanges" "forgottenOnGrowth" "J" (.long (0 : Int64))) (V_kp : Arv Z h0 kp kk (.object "java/lang/String") zk vs .null) (hold : 0 ≤ jc.toInt ∧ jc.toInt ≤ 6 ∧ 1024 ≤ zk.toInt) :
    MetFree l (⟨"com/example/kleinbasel/kleinbasel/content/RecentChanges", "oldestKept", "()J"⟩ : MethodName) (head1 (Jvm.Cond.code (⟨"com/example/kleinbasel/kleinbasel/content/RecentChanges", "oldestKept", "()J"⟩ : MethodName) prog_14_method_6_code 1 (some .long) :: ws) ({ frames := 1, cells := 0, slots := 0, locals := 15 } : Room)) (fun aa_ U_ => aa_ = #[(.ref a)] ∧ Z.Warmed39 U_.vm ∧ U_.heap = h0) (fun _ _ _ _ _ => True) (fun _ U_ o_ U_' => ∃ v_ L_, o_ = .returned v_ ∧ Q_oldest Z a kp kk jc zk vs h0 n0 v_ U_'.heap L_ ∧ FrameEnd U_ o_ U_' L_ ({ frames := 1, cells := 0, slots := 0, locals := 15 } : Room).cells ({ frames := 1, cells := 0, slots := 0, locals := 15 } : Room).slots) := by
  refine MetFree.of_bodySF (plainFor_of_name pn_RecentChanges) hisR ?_
  intro p e s m args below meth c s₁ Bd hml0 hP hK
  obtain ⟨rfl, hZ, hh⟩ := hP
  have hx := Bd.exec
  have hby := Bd.bytes
  have hml : c.maxLocals = 1 := hml0
  have hown : s.vm.findClass "com/example/kleinbasel/kleinbasel/content/RecentChanges" = some m.cls := findClass_of_methodNamed Bd.named
  have hnm := (name_of_methodNamed Bd.named Bd.method).1
  have X0 : Stand p l e ({ frames := 1, cells := 0, slots := 0, locals := 15 } : Room) s m #[(.ref a)] below meth c s₁ [] 0 0 := Stand.of_body Bd
  have e0 : s₁.heap = h0 := by rw [← hh, Bd.state]; rfl
  have N0 := Fr.nil n0
  have pre0 : ∀ z_, Steps p.tables e below (s₁.setTop (mkF m 0 #[.val (.ref a)] [])) z_ → Steps p.tables e below (s₁.setTop (entryFrame m #[(.ref a)] 1)) z_ := fun z_ k_ => castTop (ef_oldest m a) k_
  have r0 : own_R p e below s₁ (mkF m 0 #[.val (.ref a)] []) s₁ (mkF m 0 #[.val (.ref a)] []) := own_R.refl
  have r1 : own_R p e below _ _ s₁ (mkF m 1 #[.val (.ref a)] [(.ref a)]) := r0.trans fun z_ kt => by
    refine XS.aloadN X0.here hx rfl (hb hby d17_0) rfl rfl ?_
    exact kt
  obtain ⟨T2, X2, e2, st2⟩ := getF X0 hx hZ hown (host := "") (Or.inl (hw _ (own_g (i := 126) rfl))) Via.refl e0 F_a_forgottenOnGrowth (g := (mkF m 1 #[.val (.ref a)] [(.ref a)])) rfl rfl (hb hby d17_1)
  have r2 : own_R p e below _ _ T2 (mkF m 4 #[.val (.ref a)] [(.long (0 : Int64))]) := r1.trans fun z_ kt => st2 _ kt
  have r3 : own_R p e below _ _ T2 (mkF m 5 #[.val (.ref a)] [(.ref a), (.long (0 : Int64))]) := r2.trans fun z_ kt => by
    refine XS.aloadN X2.here hx rfl (hb hby d17_4) rfl rfl ?_
    exact kt
  obtain ⟨T4, X4, e4, st4⟩ := getF X2 hx hZ hown (host := "") (Or.inl (hw _ (own_g (i := 115) rfl))) Via.refl e2 F_a_count (g := (mkF m 5 #[.val (.ref a)] [(.ref a), (.long (0 : Int64))])) rfl rfl (hb hby d17_5)
  have r4 : own_R p e below _ _ T4 (mkF m 8 #[.val (.ref a)] [(.long jc), (.long (0 : Int64))]) := r3.trans fun z_ kt => st4 _ kt
  have r5 : own_R p e below _ _ T4 (mkF m 9 #[.val (.ref a)] [(.ref a), (.long jc), (.long (0 : Int64))]) := r4.trans fun z_ kt => by
    refine XS.aloadN X4.here hx rfl (hb hby d17_8) rfl rfl ?_
    exact kt
  obtain ⟨T6, X6, e6, st6⟩ := getF X4 hx hZ hown (host := "") (Or.inl (hw _ (own_g (i := 60) rfl))) Via.refl e4 F_a_kept (g := (mkF m 9 #[.val (.ref a)] [(.ref a), (.long jc), (.long (0 : Int64))])) rfl rfl (hb hby d17_9)
  have r6 : own_R p e below _ _ T6 (mkF m 12 #[.val (.ref a)] [(.ref kp), (.long jc), (.long (0 : Int64))]) := r5.trans fun z_ kt => st6 _ kt
  obtain ⟨cl7, Ar7, q7, S7, M7, H7, G7⟩ := id V_kp
  have r8 : own_R p e below _ _ T6 (mkF m 15 #[.val (.ref a)] [(.long (jc - (zk.toInt64))), (.long (0 : Int64))]) := r6.trans fun z_ kt => by
    refine X6.arraylength hx (by rw [e6]; exact Ar7.1) (State.isArrayOf_alike hZ.alike Ar7.2.1) (g := (mkF m 12 #[.val (.ref a)] [(.ref kp), (.long jc), (.long (0 : Int64))])) rfl rfl (hb hby d17_12) _ ?_
    rw [len_of S7 M7]
    refine XS.i2l X6.here hx rfl (hb hby d17_13) rfl ?_
    refine XS.lsub X6.here hx rfl (hb hby d17_14) rfl ?_
    exact kt
  obtain ⟨_, _, ⟨T9, L9, cc9, n9⟩, -, X9, ⟨Lc9, hQ9, l9, y9, z9⟩, st9⟩ := Jvm.LawKit.callS X6 hx (y := (⟨"java/lang/Math", "max", "(JJ)J"⟩ : MethodName)) hown (mvT hZ (hw _ (own_g (i := 128) rfl))) (mvT hZ (hw _ (own_g (i := 129) rfl))) (mvT hZ (hw _ (own_g (i := 130) rfl))) (mvT hZ (hw _ (own_g (i := 131) rfl))) (by decide) (backOf (W := 0) (rm_maxJ l Z a0 hw [] ((0 : Int64)) ((jc - (zk.toInt64))) ((0 : Int64)) h0 n0 O0 (Or.inr ⟨own_old hold, rfl⟩)) hZ (hw _ (own_g (i := 131) rfl)) (hw _ (own_g (i := 130) rfl)) (by decide) (by decide)) (g := (mkF m 15 #[.val (.ref a)] [(.long (jc - (zk.toInt64))), (.long (0 : Int64))])) rfl (by rw [hml]; rfl) (argsL := [(.long (0 : Int64)), (.long (jc - (zk.toInt64)))]) (rest := []) (lenOf pd_12 rfl) rfl (by show 2 * 0 + _ ≤ _; exact Nat.le_of_eq rfl) (hb hby d17_15) (fun _ _ => ⟨rfl, e6, (by decide : 0 + 0 ≤ _), (by decide : 0 + 0 ≤ _)⟩)
  dsimp only [Pt.U, Pt.locs, Pt.cells, Pt.slots] at X9 l9 y9 z9 st9 hQ9
  subst l9 y9 z9
  obtain ⟨rfl, Nq9, eq9⟩ := hQ9
  have N9 := Fr.app N0 Nq9
  have r9 : own_R p e below _ _ T9 (mkF m 18 #[.val (.ref a)] [(.long (0 : Int64))]) := r8.trans fun z_ kt => st9 _ kt
  have e9 : T9.heap = h0 := eq9
  obtain ⟨fs_, hr_, hrun_, hended_, hW_, hsame_⟩ := X9.leave (v := some (.long (0 : Int64))) (fun h => by rw [Bd.returns] at h; cases h)
  refine ⟨_, _, pre0 _ (r9 _ ?_), hrun_, hended_, _, _, rfl, ?_, ⟨_, rfl⟩, hW_, hsame_.mono (by decide) (by decide)⟩
  · exact retOut X9 hx Bd.returns rfl (Or.inr (Or.inl ⟨rfl, rfl, _, rfl⟩)) (hb hby d17_18) hr_
  · show Q_oldest Z a kp kk jc zk vs h0 n0 _ T9.heap _
    rw [e9]
    exact ⟨rfl, N9, rfl⟩

theorem d14_0 : decode prog_14_method_3_code 0 = .ok (.iload_n 1, 1) := by decide +kernel
theorem d14_1 : decode prog_14_method_3_code 1 = .ok (.aload_n 0, 1) := by decide +kernel
theorem d14_2 : decode prog_14_method_3_code 2 = .ok (.getfield 13, 3) := by decide +kernel
theorem d14_5 : decode prog_14_method_3_code 5 = .ok (.arraylength, 1) := by decide +kernel
theorem d14_6 : decode prog_14_method_3_code 6 = .ok (.if_icmp .le 94, 3) := by decide +kernel
theorem d14_9 : decode prog_14_method_3_code 9 = .ok (.aload_n 0, 1) := by decide +kernel
theorem d14_10 : decode prog_14_method_3_code 10 = .ok (.invokevirtual 21, 3) := by decide +kernel
theorem pd_13 : parseMethodDescriptor "()J" = some ⟨[], some .long⟩ := by decide +kernel
theorem d14_13 : decode prog_14_method_3_code 13 = .ok (.lstore_n 2, 1) := by decide +kernel
theorem d14_14 : decode prog_14_method_3_code 14 = .ok (.iload_n 1, 1) := by decide +kernel
theorem d14_15 : decode prog_14_method_3_code 15 = .ok (.i2l, 1) := by decide +kernel
theorem d14_16 : decode prog_14_method_3_code 16 = .ok (.ldc2_w 25, 3) := by decide +kernel
theorem d14_19 : decode prog_14_method_3_code 19 = .ok (.aload_n 0, 1) := by decide +kernel
theorem d14_20 : decode prog_14_method_3_code 20 = .ok (.getfield 13, 3) := by decide +kernel
theorem d14_23 : decode prog_14_method_3_code 23 = .ok (.arraylength, 1) := by decide +kernel
theorem d14_24 : decode prog_14_method_3_code 24 = .ok (.i2l, 1) := by decide +kernel
theorem d14_25 : decode prog_14_method_3_code 25 = .ok (.lmul, 1) := by decide +kernel
theorem d14_26 : decode prog_14_method_3_code 26 = .ok (.invokestatic 27, 3) := by decide +kernel
theorem d14_29 : decode prog_14_method_3_code 29 = .ok (.ldc2_w 33, 3) := by decide +kernel
theorem d14_32 : decode prog_14_method_3_code 32 = .ok (.invokestatic 35, 3) := by decide +kernel
theorem d14_35 : decode prog_14_method_3_code 35 = .ok (.l2i, 1) := by decide +kernel
theorem d14_36 : decode prog_14_method_3_code 36 = .ok (.anewarray 11, 3) := by decide +kernel
theorem d14_39 : decode prog_14_method_3_code 39 = .ok (.astore 4, 2) := by decide +kernel
theorem d14_41 : decode prog_14_method_3_code 41 = .ok (.lload_n 2, 1) := by decide +kernel
theorem d14_42 : decode prog_14_method_3_code 42 = .ok (.lstore 5, 2) := by decide +kernel
theorem d14_44 : decode prog_14_method_3_code 44 = .ok (.lload 5, 2) := by decide +kernel
theorem d14_46 : decode prog_14_method_3_code 46 = .ok (.aload_n 0, 1) := by decide +kernel
theorem d14_47 : decode prog_14_method_3_code 47 = .ok (.getfield 17, 3) := by decide +kernel
theorem d14_50 : decode prog_14_method_3_code 50 = .ok (.lcmp, 1) := by decide +kernel
theorem d14_51 : decode prog_14_method_3_code 51 = .ok (.ifCond .ge 38, 3) := by decide +kernel
theorem d14_54 : decode prog_14_method_3_code 54 = .ok (.aload 4, 2) := by decide +kernel
theorem d14_56 : decode prog_14_method_3_code 56 = .ok (.lload 5, 2) := by decide +kernel
theorem d14_58 : decode prog_14_method_3_code 58 = .ok (.aload 4, 2) := by decide +kernel
theorem d14_60 : decode prog_14_method_3_code 60 = .ok (.arraylength, 1) := by decide +kernel
theorem d14_61 : decode prog_14_method_3_code 61 = .ok (.i2l, 1) := by decide +kernel
theorem d14_62 : decode prog_14_method_3_code 62 = .ok (.lrem, 1) := by decide +kernel
theorem d14_63 : decode prog_14_method_3_code 63 = .ok (.l2i, 1) := by decide +kernel
theorem d14_64 : decode prog_14_method_3_code 64 = .ok (.aload_n 0, 1) := by decide +kernel
theorem d14_65 : decode prog_14_method_3_code 65 = .ok (.getfield 13, 3) := by decide +kernel
theorem d14_68 : decode prog_14_method_3_code 68 = .ok (.lload 5, 2) := by decide +kernel
theorem d14_70 : decode prog_14_method_3_code 70 = .ok (.aload_n 0, 1) := by decide +kernel
theorem d14_71 : decode prog_14_method_3_code 71 = .ok (.getfield 13, 3) := by decide +kernel
theorem d14_74 : decode prog_14_method_3_code 74 = .ok (.arraylength, 1) := by decide +kernel
theorem d14_75 : decode prog_14_method_3_code 75 = .ok (.i2l, 1) := by decide +kernel
theorem d14_76 : decode prog_14_method_3_code 76 = .ok (.lrem, 1) := by decide +kernel
theorem d14_77 : decode prog_14_method_3_code 77 = .ok (.l2i, 1) := by decide +kernel
theorem d14_78 : decode prog_14_method_3_code 78 = .ok (.aaload, 1) := by decide +kernel
theorem d14_79 : decode prog_14_method_3_code 79 = .ok (.aastore, 1) := by decide +kernel
theorem d14_80 : decode prog_14_method_3_code 80 = .ok (.lload 5, 2) := by decide +kernel
theorem d14_82 : decode prog_14_method_3_code 82 = .ok (.lconst 1, 1) := by decide +kernel
theorem d14_83 : decode prog_14_method_3_code 83 = .ok (.ladd, 1) := by decide +kernel
theorem d14_84 : decode prog_14_method_3_code 84 = .ok (.lstore 5, 2) := by decide +kernel
theorem d14_86 : decode prog_14_method_3_code 86 = .ok (.goto (-42), 3) := by decide +kernel
theorem d14_89 : decode prog_14_method_3_code 89 = .ok (.aload_n 0, 1) := by decide +kernel
theorem d14_90 : decode prog_14_method_3_code 90 = .ok (.aload 4, 2) := by decide +kernel
theorem d14_92 : decode prog_14_method_3_code 92 = .ok (.putfield 13, 3) := by decide +kernel
theorem d14_95 : decode prog_14_method_3_code 95 = .ok (.aload_n 0, 1) := by decide +kernel
theorem d14_96 : decode prog_14_method_3_code 96 = .ok (.lload_n 2, 1) := by decide +kernel
theorem d14_97 : decode prog_14_method_3_code 97 = .ok (.putfield 38, 3) := by decide +kernel
theorem d14_100 : decode prog_14_method_3_code 100 = .ok (.return_, 1) := by decide +kernel
theorem ef_keep (m : MethodId) (a : Addr) (pm : Int32) : entryFrame m #[(.ref a), (.int pm)] 7 = mkF m 0 #[.val (.ref a), .val (.int pm), .unset, .unset, .unset, .unset, .unset] [] := by first | (simp [entryFrame, mkF, argsToLocals, Value.category]; done) | rfl
def Q_keep (Z : State) (a : Addr) (pm : Int32) (kp : Addr) (kk : ClassId) (jc : Int64) (zk : Int32) (vs : List Value) (hi : Int) (h0 : Heap) (n0 : Nat) (v_ : Option Value) (h_ : Heap) (L_ : List Loc) : Prop := ∃ (kp2 : Addr) (kk2 : ClassId) (zk2 : Int32), v_ = none ∧ Fr n0 L_ ∧ Keep h0 h_ [a] ∧ (kp2 = kp ∨ h0.size ≤ kp2) ∧ (Fld Z h_ a "com/example/kleinbasel/kleinbasel/content/RecentChanges" "kept" "[Ljava/lang/String;" (.ref kp2)) ∧ (Fld Z h_ a "com/example/kleinbasel/kleinbasel/content/RecentChanges" "count" "J" (.long jc)) ∧ (Fld Z h_ a "com/example/kleinbasel/kleinbasel/content/RecentChanges" "forgottenOnGrowth" "J" (.long (0 : Int64))) ∧ (Arv Z h_ kp2 kk2 (.object "java/lang/String") zk2 vs .null) ∧ (Ovr Z kk2 "java/lang/String") ∧ (1024 ≤ zk2.toInt ∧ zk2.toInt ≤ hi)
set_option maxRecDepth 65536 in
set_option maxHeartbeats 40000000 in
theorem rm_keep (l : Launch) (Z : State) (a0 : Array Value) (hw : ∀ d ∈ tables_1, d.before a0 Z = true) (ws : List Jvm.Cond) (a : Addr) (pm : Int32) (kp : Addr) (kk : ClassId) (jc : Int64) (zk : Int32) (vs : List Value) (hi : Int) (h0 : Heap) (n0 : Nat) (O0 : Old Z n0 h0) (E_a : Exa Z h0 a "com/example/kleinbasel/kleinbasel/content/RecentChanges") (g_a : n0 ≤ a) (F_a_kept : Fld Z h0 a "com/example/kleinbasel/kleinbasel/content/RecentChanges" "kept" "[Ljava/lang/String;" (.ref kp)) (F_a_count : Fld Z h0 a "com/example/kleinbasel/kleinbasel/content/RecentChanges" "count" "J" (.long jc)) (F_a_forgottenOnGrowth : Fld Z h0 a "com/example/kleinbasel/kleinbasel/content/RecentChanges" "forgottenOnGrowth" "J" (.long (0 : Int64))) (V_kp : Arv Z h0 kp kk (.object "java/lang/String") zk vs .null) (g_kp : n0 ≤ kp) (Ov_kk : Ovr Z kk "java/lang/String") (hvl : jc.toInt = vs.length) (hk : vs.length ≤ 6 ∧ 1024 ≤ zk.toInt ∧ pm.toInt ≤ hi ∧ 2 * zk.toInt ≤ hi ∧ hi ≤ 8191) (hst : vs.all (fun _ => true) = true ∧ ∀ i, i < vs.length → ∃ y : Addr, vs.getD i .null = .ref y ∧ Exa Z h0 y "java/lang/String") :
    MetFree l (⟨"com/example/kleinbasel/kleinbasel/content/RecentChanges", "keepAtLeast", "(I)V"⟩ : MethodName) (head1 (Jvm.Cond.code (⟨"com/example/kleinbasel/kleinbasel/content/RecentChanges", "keepAtLeast", "(I)V"⟩ : MethodName) prog_14_method_3_code 7 none :: ws) ({ frames := 2, cells := 1, slots := 8191, locals := 27 } : Room)) (fun aa_ U_ => aa_ = #[(.ref a), (.int pm)] ∧ Z.Warmed39 U_.vm ∧ U_.heap = h0) (fun _ _ _ _ _ => True) (fun _ U_ o_ U_' => ∃ v_ L_, o_ = .returned v_ ∧ Q_keep Z a pm kp kk jc zk vs hi h0 n0 v_ U_'.heap L_ ∧ FrameEnd U_ o_ U_' L_ ({ frames := 2, cells := 1, slots := 8191, locals := 27 } : Room).cells ({ frames := 2, cells := 1, slots := 8191, locals := 27 } : Room).slots) := by
  refine MetFree.of_bodySF (plainFor_of_name pn_RecentChanges) hisR ?_
  intro p e s m args below meth c s₁ Bd hml0 hP hK
  obtain ⟨rfl, hZ, hh⟩ := hP
  have hx := Bd.exec
  have hby := Bd.bytes
  have hml : c.maxLocals = 7 := hml0
  have hown : s.vm.findClass "com/example/kleinbasel/kleinbasel/content/RecentChanges" = some m.cls := findClass_of_methodNamed Bd.named
  have hnm := (name_of_methodNamed Bd.named Bd.method).1
  have X0 : Stand p l e ({ frames := 2, cells := 1, slots := 8191, locals := 27 } : Room) s m #[(.ref a), (.int pm)] below meth c s₁ [] 0 0 := Stand.of_body Bd
  have e0 : s₁.heap = h0 := by rw [← hh, Bd.state]; rfl
  have N0 := Fr.nil n0
  have K0 : Keep h0 h0 [a] := Keep.refl h0 _
  have pre0 : ∀ z_, Steps p.tables e below (s₁.setTop (mkF m 0 #[.val (.ref a), .val (.int pm), .unset, .unset, .unset, .unset, .unset] [])) z_ → Steps p.tables e below (s₁.setTop (entryFrame m #[(.ref a), (.int pm)] 7)) z_ := fun z_ k_ => castTop (ef_keep m a pm) k_
  have r0 : own_R p e below s₁ (mkF m 0 #[.val (.ref a), .val (.int pm), .unset, .unset, .unset, .unset, .unset] []) s₁ (mkF m 0 #[.val (.ref a), .val (.int pm), .unset, .unset, .unset, .unset, .unset] []) := own_R.refl
  have ne_a_kp : a ≠ kp := (own_ne_arv E_a (hw _ (own_g (i := 53) rfl)) V_kp)
  have r1 : own_R p e below _ _ s₁ (mkF m 2 #[.val (.ref a), .val (.int pm), .unset, .unset, .unset, .unset, .unset] [(.ref a), (.int pm)]) := r0.trans fun z_ kt => by
    refine XS.iloadN X0.here hx rfl (hb hby d14_0) rfl ?_
    refine XS.aloadN X0.here hx rfl (hb hby d14_1) rfl rfl ?_
    exact kt
  obtain ⟨T2, X2, e2, st2⟩ := getF X0 hx hZ hown (host := "") (Or.inl (hw _ (own_g (i := 60) rfl))) Via.refl e0 F_a_kept (g := (mkF m 2 #[.val (.ref a), .val (.int pm), .unset, .unset, .unset, .unset, .unset] [(.ref a), (.int pm)])) rfl rfl (hb hby d14_2)
  have r2 : own_R p e below _ _ T2 (mkF m 5 #[.val (.ref a), .val (.int pm), .unset, .unset, .unset, .unset, .unset] [(.ref kp), (.int pm)]) := r1.trans fun z_ kt => st2 _ kt
  obtain ⟨cl3, Ar3, q3, S3, M3, H3, G3⟩ := id V_kp
  have r4 : own_R p e below _ _ T2 (mkF m 6 #[.val (.ref a), .val (.int pm), .unset, .unset, .unset, .unset, .unset] [(.int zk), (.int pm)]) := r2.trans fun z_ kt => by
    refine X2.arraylength hx (by rw [e2]; exact Ar3.1) (State.isArrayOf_alike hZ.alike Ar3.2.1) (g := (mkF m 5 #[.val (.ref a), .val (.int pm), .unset, .unset, .unset, .unset, .unset] [(.ref kp), (.int pm)])) rfl rfl (hb hby d14_5) _ ?_
    rw [len_of S3 M3]
    exact kt
  by_cases hc6_5 : zk < pm
  · skip
    have r6 : own_R p e below _ _ T2 (mkF m 10 #[.val (.ref a), .val (.int pm), .unset, .unset, .unset, .unset, .unset] [(.ref a)]) := r4.trans fun z_ kt => by
      refine XS.icmpNo X2.here hx rfl (hb hby d14_6) rfl (tlt (hc6_5 : zk < pm)).2.2.2 ?_
      refine XS.aloadN X2.here hx rfl (hb hby d14_9) rfl rfl ?_
      exact kt
    obtain ⟨cq7, q7, q7'⟩ := E_a.cell
    obtain ⟨_, _, ⟨T7, L7, cc7, n7⟩, -, X7, ⟨Lc7, hQ7, l7, y7, z7⟩, st7⟩ := X2.privateBack hx (y := (⟨"com/example/kleinbasel/kleinbasel/content/RecentChanges", "oldestKept", "()J"⟩ : MethodName)) hown (mvT hZ (hw _ (own_g (i := 122) rfl))) (mvT hZ (hw _ (own_g (i := 123) rfl))) (own_selp hZ (hw _ (own_g (i := 53) rfl)) (hw _ (own_g (i := 124) rfl)) (hw _ (own_g (i := 123) rfl)) (by decide)) (Cond.privateMethod_at (mvP hZ (hw _ (own_g (i := 124) rfl)) (args := #[]))) (mvT hZ (hw _ (own_g (i := 125) rfl))) (by decide) (backOf (W := 0) (rm_oldest l Z a0 hw [] (a) (kp) (kk) (jc) (zk) (vs) h0 n0 O0 (F_a_kept) (F_a_count) (F_a_forgottenOnGrowth) (V_kp) (own_hold hvl hk)) hZ (hw _ (own_g (i := 125) rfl)) (hw _ (own_g (i := 54) rfl)) (by decide) (by decide)) (g := (mkF m 10 #[.val (.ref a), .val (.int pm), .unset, .unset, .unset, .unset, .unset] [(.ref a)])) rfl (by rw [hml]; rfl) (Steps.refl _) (a := a) (by rw [e2]; exact q7) q7' (argsL := []) (rest := []) (lenOf pd_13 rfl) rfl (by show 2 * 0 + _ ≤ _; exact Nat.le_of_eq rfl) (hb hby d14_10) (fun _ _ => ⟨rfl, e2, (by decide : 0 + 0 ≤ _), (by decide : 0 + 0 ≤ _)⟩)
    dsimp only [Pt.U, Pt.locs, Pt.cells, Pt.slots] at X7 l7 y7 z7 st7 hQ7
    subst l7 y7 z7
    obtain ⟨rfl, Nq7, eq7⟩ := hQ7
    have N7 := Fr.app N0 Nq7
    have r7 : own_R p e below _ _ T7 (mkF m 13 #[.val (.ref a), .val (.int pm), .unset, .unset, .unset, .unset, .unset] [(.long (0 : Int64))]) := r6.trans fun z_ kt => st7.trans kt
    have e7 : T7.heap = h0 := eq7
    have r8 : own_R p e below _ _ T7 (mkF m 20 #[.val (.ref a), .val (.int pm), .val (.long (0 : Int64)), .second, .unset, .unset, .unset] [(.ref a), (.long (2 : Int64)), (.long (pm.toInt64))]) := r7.trans fun z_ kt => by
      refine XS.lstoreN X7.here hx rfl (hb hby d14_13) rfl (l' := #[.val (.ref a), .val (.int pm), .val (.long (0 : Int64)), .second, .unset, .unset, .unset]) rfl ?_
      refine XS.iloadN X7.here hx rfl (hb hby d14_14) rfl ?_
      refine XS.i2l X7.here hx rfl (hb hby d14_15) rfl ?_
      refine X7.ldc2Long hx hown (mvT hZ (hw _ (own_g (i := 227) rfl))) (g := (mkF m 16 #[.val (.ref a), .val (.int pm), .val (.long (0 : Int64)), .second, .unset, .unset, .unset] [(.long (pm.toInt64))])) rfl (hb hby d14_16) _ ?_
      refine XS.aloadN X7.here hx rfl (hb hby d14_19) rfl rfl ?_
      exact kt
    obtain ⟨T9, X9, e9, st9⟩ := getF X7 hx hZ hown (host := "") (Or.inl (hw _ (own_g (i := 60) rfl))) Via.refl e7 F_a_kept (g := (mkF m 20 #[.val (.ref a), .val (.int pm), .val (.long (0 : Int64)), .second, .unset, .unset, .unset] [(.ref a), (.long (2 : Int64)), (.long (pm.toInt64))])) rfl rfl (hb hby d14_20)
    have r9 : own_R p e below _ _ T9 (mkF m 23 #[.val (.ref a), .val (.int pm), .val (.long (0 : Int64)), .second, .unset, .unset, .unset] [(.ref kp), (.long (2 : Int64)), (.long (pm.toInt64))]) := r8.trans fun z_ kt => st9 _ kt
    obtain ⟨cl10, Ar10, q10, S10, M10, H10, G10⟩ := id V_kp
    obtain ⟨jm, hjm⟩ := own_mx (pm.toInt64) ((2 : Int64) * (zk.toInt64))
    have r11 : own_R p e below _ _ T9 (mkF m 26 #[.val (.ref a), .val (.int pm), .val (.long (0 : Int64)), .second, .unset, .unset, .unset] [(.long ((2 : Int64) * (zk.toInt64))), (.long (pm.toInt64))]) := r9.trans fun z_ kt => by
      refine X9.arraylength hx (by rw [e9]; exact Ar10.1) (State.isArrayOf_alike hZ.alike Ar10.2.1) (g := (mkF m 23 #[.val (.ref a), .val (.int pm), .val (.long (0 : Int64)), .second, .unset, .unset, .unset] [(.ref kp), (.long (2 : Int64)), (.long (pm.toInt64))])) rfl rfl (hb hby d14_23) _ ?_
      rw [len_of S10 M10]
      refine XS.i2l X9.here hx rfl (hb hby d14_24) rfl ?_
      refine XS.lmul X9.here hx rfl (hb hby d14_25) rfl ?_
      exact kt
    obtain ⟨_, _, ⟨T12, L12, cc12, n12⟩, -, X12, ⟨Lc12, hQ12, l12, y12, z12⟩, st12⟩ := Jvm.LawKit.callS X9 hx (y := (⟨"java/lang/Math", "max", "(JJ)J"⟩ : MethodName)) hown (mvT hZ (hw _ (own_g (i := 128) rfl))) (mvT hZ (hw _ (own_g (i := 129) rfl))) (mvT hZ (hw _ (own_g (i := 130) rfl))) (mvT hZ (hw _ (own_g (i := 131) rfl))) (by decide) (backOf (W := 0) (rm_maxJ l Z a0 hw [] ((pm.toInt64)) (((2 : Int64) * (zk.toInt64))) (jm) h0 n0 O0 (hjm)) hZ (hw _ (own_g (i := 131) rfl)) (hw _ (own_g (i := 130) rfl)) (by decide) (by decide)) (g := (mkF m 26 #[.val (.ref a), .val (.int pm), .val (.long (0 : Int64)), .second, .unset, .unset, .unset] [(.long ((2 : Int64) * (zk.toInt64))), (.long (pm.toInt64))])) rfl (by rw [hml]; rfl) (argsL := [(.long (pm.toInt64)), (.long ((2 : Int64) * (zk.toInt64)))]) (rest := []) (lenOf pd_12 rfl) rfl (by show 2 * 0 + _ ≤ _; exact Nat.le_of_eq rfl) (hb hby d14_26) (fun _ _ => ⟨rfl, e9, (by decide : 0 + 0 ≤ _), (by decide : 0 + 0 ≤ _)⟩)
    dsimp only [Pt.U, Pt.locs, Pt.cells, Pt.slots] at X12 l12 y12 z12 st12 hQ12
    subst l12 y12 z12
    obtain ⟨rfl, Nq12, eq12⟩ := hQ12
    have N12 := Fr.app N7 Nq12
    have r12 : own_R p e below _ _ T12 (mkF m 29 #[.val (.ref a), .val (.int pm), .val (.long (0 : Int64)), .second, .unset, .unset, .unset] [(.long jm)]) := r11.trans fun z_ kt => st12 _ kt
    have e12 : T12.heap = h0 := eq12
    obtain ⟨nl, hnl⟩ : ∃ z : Int32, z = jm.toInt32 := ⟨_, rfl⟩
    have hN := own_newlen hk hc6_5 hjm hnl
    have r13 : own_R p e below _ _ T12 (mkF m 32 #[.val (.ref a), .val (.int pm), .val (.long (0 : Int64)), .second, .unset, .unset, .unset] [(.long (2147483639 : Int64)), (.long jm)]) := r12.trans fun z_ kt => by
      refine X12.ldc2Long hx hown (mvT hZ (hw _ (own_g (i := 228) rfl))) (g := (mkF m 29 #[.val (.ref a), .val (.int pm), .val (.long (0 : Int64)), .second, .unset, .unset, .unset] [(.long jm)])) rfl (hb hby d14_29) _ ?_
      exact kt
    obtain ⟨_, _, ⟨T14, L14, cc14, n14⟩, -, X14, ⟨Lc14, hQ14, l14, y14, z14⟩, st14⟩ := Jvm.LawKit.callS X12 hx (y := (⟨"java/lang/Math", "min", "(JJ)J"⟩ : MethodName)) hown (mvT hZ (hw _ (own_g (i := 229) rfl))) (mvT hZ (hw _ (own_g (i := 230) rfl))) (mvT hZ (hw _ (own_g (i := 130) rfl))) (mvT hZ (hw _ (own_g (i := 231) rfl))) (by decide) (backOf (W := 0) (rm_minJ l Z a0 hw [] (jm) ((2147483639 : Int64)) (jm) h0 n0 O0 (Or.inr ⟨hN.1.1, rfl⟩)) hZ (hw _ (own_g (i := 231) rfl)) (hw _ (own_g (i := 130) rfl)) (by decide) (by decide)) (g := (mkF m 32 #[.val (.ref a), .val (.int pm), .val (.long (0 : Int64)), .second, .unset, .unset, .unset] [(.long (2147483639 : Int64)), (.long jm)])) rfl (by rw [hml]; rfl) (argsL := [(.long jm), (.long (2147483639 : Int64))]) (rest := []) (lenOf pd_12 rfl) rfl (by show 2 * 0 + _ ≤ _; exact Nat.le_of_eq rfl) (hb hby d14_32) (fun _ _ => ⟨rfl, e12, (by decide : 0 + 0 ≤ _), (by decide : 0 + 0 ≤ _)⟩)
    dsimp only [Pt.U, Pt.locs, Pt.cells, Pt.slots] at X14 l14 y14 z14 st14 hQ14
    subst l14 y14 z14
    obtain ⟨rfl, Nq14, eq14⟩ := hQ14
    have N14 := Fr.app N12 Nq14
    have r14 : own_R p e below _ _ T14 (mkF m 35 #[.val (.ref a), .val (.int pm), .val (.long (0 : Int64)), .second, .unset, .unset, .unset] [(.long jm)]) := r13.trans fun z_ kt => st14 _ kt
    have e14 : T14.heap = h0 := eq14
    have r15 : own_R p e below _ _ T14 (mkF m 36 #[.val (.ref a), .val (.int pm), .val (.long (0 : Int64)), .second, .unset, .unset, .unset] [(.int (jm.toInt32))]) := r14.trans fun z_ kt => by
      refine XS.l2i X14.here hx rfl (hb hby d14_35) rfl ?_
      exact kt
    rw [← hnl] at r15
    obtain ⟨T16, h16, k16, X16, e16, E16, A16, Ov16, st16⟩ := newR X14 hx hZ hown (hw _ (own_g (i := 59) rfl)) (hw _ (own_g (i := 1) rfl)) e14 (g := (mkF m 36 #[.val (.ref a), .val (.int pm), .val (.long (0 : Int64)), .second, .unset, .unset, .unset] [(.int nl)])) rfl (hb hby d14_36) rfl hN.2.1 (cap := 8191) hN.2.2.1 (by decide) (by decide) (by decide)
    obtain ⟨b16, g16⟩ : ∃ z, z = h0.size := ⟨_, rfl⟩
    rw [← g16] at A16 st16
    have r16 : own_R p e below _ _ T16 (mkF m 39 #[.val (.ref a), .val (.int pm), .val (.long (0 : Int64)), .second, .unset, .unset, .unset] [(.ref b16)]) := r15.trans fun z_ kt => st16 _ kt
    have ne_a_b16 : a ≠ b16 := Nat.ne_of_lt (Nat.lt_of_lt_of_le E_a.lt (Nat.le_of_eq g16.symm))
    have ne_kp_b16 : kp ≠ b16 := Nat.ne_of_lt (Nat.lt_of_lt_of_le V_kp.lt (Nat.le_of_eq g16.symm))
    have g_b16 : n0 ≤ b16 := Nat.le_trans (own_old_size O0) (Nat.le_of_eq g16.symm)
    have sz_b16 : h0.size ≤ b16 := Nat.le_trans K0.1 (Nat.le_of_eq g16.symm)
    have O16 := O0.ext E16
    have K16 := K0.ext E16
    have V16 : Arv Z h16 b16 k16 (.object "java/lang/String") nl [] .null := Arv.new A16 hN.2.1
    have f17 := (F_a_count.ext E16)
    have r18 : own_R p e below _ _ T16 (mkF m 47 #[.val (.ref a), .val (.int pm), .val (.long (0 : Int64)), .second, .val (.ref b16), .val (.long (0 : Int64)), .second] [(.ref a), (.long (0 : Int64))]) := r16.trans fun z_ kt => by
      refine XS.astore X16.here hx rfl (hb hby d14_39) rfl rfl (l' := #[.val (.ref a), .val (.int pm), .val (.long (0 : Int64)), .second, .val (.ref b16), .unset, .unset]) rfl ?_
      refine XS.lloadN X16.here hx rfl (hb hby d14_41) rfl ?_
      refine XS.lstore X16.here hx rfl (hb hby d14_42) rfl (l' := #[.val (.ref a), .val (.int pm), .val (.long (0 : Int64)), .second, .val (.ref b16), .val (.long (0 : Int64)), .second]) rfl ?_
      refine XS.lload X16.here hx rfl (hb hby d14_44) rfl ?_
      refine XS.aloadN X16.here hx rfl (hb hby d14_46) rfl rfl ?_
      exact kt
    obtain ⟨T19, X19, e19, st19⟩ := getF X16 hx hZ hown (host := "") (Or.inl (hw _ (own_g (i := 115) rfl))) Via.refl e16 f17 (g := (mkF m 47 #[.val (.ref a), .val (.int pm), .val (.long (0 : Int64)), .second, .val (.ref b16), .val (.long (0 : Int64)), .second] [(.ref a), (.long (0 : Int64))])) rfl rfl (hb hby d14_47)
    have r19 : own_R p e below _ _ T19 (mkF m 50 #[.val (.ref a), .val (.int pm), .val (.long (0 : Int64)), .second, .val (.ref b16), .val (.long (0 : Int64)), .second] [(.long jc), (.long (0 : Int64))]) := r18.trans fun z_ kt => st19 _ kt
    have r20 : own_R p e below _ _ T19 (mkF m 51 #[.val (.ref a), .val (.int pm), .val (.long (0 : Int64)), .second, .val (.ref b16), .val (.long (0 : Int64)), .second] [(.int (lcmpW (0 : Int64) jc))]) := r19.trans fun z_ kt => by
      refine XS.lcmp X19.here hx rfl (hb hby d14_50) rfl ?_
      exact kt
    by_cases hc51_21 : (lcmpW (0 : Int64) jc) < (0 : Int32)
    · skip
      have hi0 : 0 < vs.length := own_turn hvl hc51_21
      have r23 : own_R p e below _ _ T19 (mkF m 60 #[.val (.ref a), .val (.int pm), .val (.long (0 : Int64)), .second, .val (.ref b16), .val (.long (0 : Int64)), .second] [(.ref b16), (.long (0 : Int64)), (.ref b16)]) := r20.trans fun z_ kt => by
        refine XS.ifNo X19.here hx rfl (hb hby d14_51) rfl ((if0 _ _).trans (tlt (hc51_21 : (lcmpW (0 : Int64) jc) < (0 : Int32))).2.1) ?_
        refine XS.aload X19.here hx rfl (hb hby d14_54) rfl rfl ?_
        refine XS.lload X19.here hx rfl (hb hby d14_56) rfl ?_
        refine XS.aload X19.here hx rfl (hb hby d14_58) rfl rfl ?_
        exact kt
      obtain ⟨cl22, Ar22, q22, S22, M22, H22, G22⟩ := id V16
      have r24 : own_R p e below _ _ T19 (mkF m 64 #[.val (.ref a), .val (.int pm), .val (.long (0 : Int64)), .second, .val (.ref b16), .val (.long (0 : Int64)), .second] [(.int (((0 : Int64) - ((0 : Int64) / (nl.toInt64)) * (nl.toInt64)).toInt32)), (.ref b16)]) := r23.trans fun z_ kt => by
        refine X19.arraylength hx (by rw [e19]; exact Ar22.1) (State.isArrayOf_alike hZ.alike Ar22.2.1) (g := (mkF m 60 #[.val (.ref a), .val (.int pm), .val (.long (0 : Int64)), .second, .val (.ref b16), .val (.long (0 : Int64)), .second] [(.ref b16), (.long (0 : Int64)), (.ref b16)])) rfl rfl (hb hby d14_60) _ ?_
        rw [len_of S22 M22]
        refine XS.i2l X19.here hx rfl (hb hby d14_61) rfl ?_
        refine XS.lrem X19.here hx rfl (hb hby d14_62) rfl (own_zne hN.2.2.2) ?_
        refine XS.l2i X19.here hx rfl (hb hby d14_63) rfl ?_
        exact kt
      rw [show (((0 : Int64) - ((0 : Int64) / (nl.toInt64)) * (nl.toInt64)).toInt32) = (0 : Int32) from own_ixl hN.2.2.2 (by decide) (by decide)] at r24
      have f25 := (F_a_kept.ext E16)
      have r26 : own_R p e below _ _ T19 (mkF m 65 #[.val (.ref a), .val (.int pm), .val (.long (0 : Int64)), .second, .val (.ref b16), .val (.long (0 : Int64)), .second] [(.ref a), (.int (0 : Int32)), (.ref b16)]) := r24.trans fun z_ kt => by
        refine XS.aloadN X19.here hx rfl (hb hby d14_64) rfl rfl ?_
        exact kt
      obtain ⟨T27, X27, e27, st27⟩ := getF X19 hx hZ hown (host := "") (Or.inl (hw _ (own_g (i := 60) rfl))) Via.refl e19 f25 (g := (mkF m 65 #[.val (.ref a), .val (.int pm), .val (.long (0 : Int64)), .second, .val (.ref b16), .val (.long (0 : Int64)), .second] [(.ref a), (.int (0 : Int32)), (.ref b16)])) rfl rfl (hb hby d14_65)
      have r27 : own_R p e below _ _ T27 (mkF m 68 #[.val (.ref a), .val (.int pm), .val (.long (0 : Int64)), .second, .val (.ref b16), .val (.long (0 : Int64)), .second] [(.ref kp), (.int (0 : Int32)), (.ref b16)]) := r26.trans fun z_ kt => st27 _ kt
      have r28 : own_R p e below _ _ T27 (mkF m 71 #[.val (.ref a), .val (.int pm), .val (.long (0 : Int64)), .second, .val (.ref b16), .val (.long (0 : Int64)), .second] [(.ref a), (.long (0 : Int64)), (.ref kp), (.int (0 : Int32)), (.ref b16)]) := r27.trans fun z_ kt => by
        refine XS.lload X27.here hx rfl (hb hby d14_68) rfl ?_
        refine XS.aloadN X27.here hx rfl (hb hby d14_70) rfl rfl ?_
        exact kt
      obtain ⟨T29, X29, e29, st29⟩ := getF X27 hx hZ hown (host := "") (Or.inl (hw _ (own_g (i := 60) rfl))) Via.refl e27 f25 (g := (mkF m 71 #[.val (.ref a), .val (.int pm), .val (.long (0 : Int64)), .second, .val (.ref b16), .val (.long (0 : Int64)), .second] [(.ref a), (.long (0 : Int64)), (.ref kp), (.int (0 : Int32)), (.ref b16)])) rfl rfl (hb hby d14_71)
      have r29 : own_R p e below _ _ T29 (mkF m 74 #[.val (.ref a), .val (.int pm), .val (.long (0 : Int64)), .second, .val (.ref b16), .val (.long (0 : Int64)), .second] [(.ref kp), (.long (0 : Int64)), (.ref kp), (.int (0 : Int32)), (.ref b16)]) := r28.trans fun z_ kt => st29 _ kt
      have f30 := (V_kp.ext E16)
      obtain ⟨cl31, Ar31, q31, S31, M31, H31, G31⟩ := id f30
      have r32 : own_R p e below _ _ T29 (mkF m 78 #[.val (.ref a), .val (.int pm), .val (.long (0 : Int64)), .second, .val (.ref b16), .val (.long (0 : Int64)), .second] [(.int (((0 : Int64) - ((0 : Int64) / (zk.toInt64)) * (zk.toInt64)).toInt32)), (.ref kp), (.int (0 : Int32)), (.ref b16)]) := r29.trans fun z_ kt => by
        refine X29.arraylength hx (by rw [e29]; exact Ar31.1) (State.isArrayOf_alike hZ.alike Ar31.2.1) (g := (mkF m 74 #[.val (.ref a), .val (.int pm), .val (.long (0 : Int64)), .second, .val (.ref b16), .val (.long (0 : Int64)), .second] [(.ref kp), (.long (0 : Int64)), (.ref kp), (.int (0 : Int32)), (.ref b16)])) rfl rfl (hb hby d14_74) _ ?_
        rw [len_of S31 M31]
        refine XS.i2l X29.here hx rfl (hb hby d14_75) rfl ?_
        refine XS.lrem X29.here hx rfl (hb hby d14_76) rfl (own_zne hk.2.1) ?_
        refine XS.l2i X29.here hx rfl (hb hby d14_77) rfl ?_
        exact kt
      rw [show (((0 : Int64) - ((0 : Int64) / (zk.toInt64)) * (zk.toInt64)).toInt32) = (0 : Int32) from own_ixl hk.2.1 (by decide) (by decide)] at r32
      obtain ⟨cl33, Ar33, q33, S33, M33, H33, G33⟩ := id f30
      obtain ⟨y0, hy0, Ey0⟩ := hst.2 0 hi0
      have Eyn0 := Ey0
      have hin33 : ¬ ((0 : Int32) < 0 ∨ cl33.slots.size ≤ ((0 : Int32)).toNatClampNeg) := inb_of S33 ⟨by decide, own_lt_of hk.2.1 (by decide)⟩
      have hat33 : cl33.slots[((0 : Int32)).toNatClampNeg]? = some (.ref y0) := Has.at H33 hin33 hy0
      have Vp34 : Arv Z h16 b16 k16 (.object "java/lang/String") nl [.null] .null := V16.pad (pad_rep [] .null 1)
      obtain ⟨cl34, Ar34, q34, S34, M34, H34, G34⟩ := id Vp34
      have hin34 : ¬ ((0 : Int32) < 0 ∨ cl34.slots.size ≤ ((0 : Int32)).toNatClampNeg) := inb_of S34 ⟨by decide, own_lt_of hN.2.2.2 (by decide)⟩
      have f35 := (Ey0.ext E16)
      have r36 : own_R p e below _ _ T29 (mkF m 79 #[.val (.ref a), .val (.int pm), .val (.long (0 : Int64)), .second, .val (.ref b16), .val (.long (0 : Int64)), .second] [(.ref y0), (.int (0 : Int32)), (.ref b16)]) := r32.trans fun z_ kt => by
        refine X29.aaload hx (j := (0 : Int32)) (v := (.ref y0)) (by rw [e29]; exact Ar33.1) (State.isArrayOf_alike hZ.alike Ar33.2.1) rfl Ar33.2.2 hin33 hat33 (g := (mkF m 78 #[.val (.ref a), .val (.int pm), .val (.long (0 : Int64)), .second, .val (.ref b16), .val (.long (0 : Int64)), .second] [(.int (0 : Int32)), (.ref kp), (.int (0 : Int32)), (.ref b16)])) rfl rfl (hb hby d14_78) _ ?_
        exact kt
      obtain ⟨T37, h37, X37, e37, W37, st37⟩ := stR X29 hx hZ e29 Ar34 (j := (0 : Int32)) hin34 rfl (Sto.ofV Ar34 q34 Ov16 (Ins.self f35)) (g := (mkF m 79 #[.val (.ref a), .val (.int pm), .val (.long (0 : Int64)), .second, .val (.ref b16), .val (.long (0 : Int64)), .second] [(.ref y0), (.int (0 : Int32)), (.ref b16)])) rfl rfl (hb hby d14_79)
      have r37 : own_R p e below _ _ T37 (mkF m 80 #[.val (.ref a), .val (.int pm), .val (.long (0 : Int64)), .second, .val (.ref b16), .val (.long (0 : Int64)), .second] []) := r36.trans fun z_ kt => st37 _ kt
      have N37 := Fr.snoc X37 N14 g_b16
      have O37 := O16.wr W37 g_b16
      have K37 := K16.wr W37 (Or.inr sz_b16)
      have V37 : Arv Z h37 b16 k16 (.object "java/lang/String") nl [(.ref y0)] .null := Arv.set Ar34 q34 S34 M34 H34 G34 rfl W37 0 rfl (Nat.le_of_ble_eq_true rfl)
      have f38 := (f17.other W37 (Or.inl ne_a_b16))
      have r39 : own_R p e below _ _ T37 (mkF m 47 #[.val (.ref a), .val (.int pm), .val (.long (0 : Int64)), .second, .val (.ref b16), .val (.long (1 : Int64)), .second] [(.ref a), (.long (1 : Int64))]) := r37.trans fun z_ kt => by
        refine XS.lload X37.here hx rfl (hb hby d14_80) rfl ?_
        refine XS.lconst X37.here hx rfl (hb hby d14_82) ?_
        refine XS.ladd X37.here hx rfl (hb hby d14_83) rfl ?_
        refine XS.lstore X37.here hx rfl (hb hby d14_84) rfl (l' := #[.val (.ref a), .val (.int pm), .val (.long (0 : Int64)), .second, .val (.ref b16), .val (.long (1 : Int64)), .second]) rfl ?_
        refine XS.goto X37.here hx rfl (pc0 := 86) (pc' := 44) rfl (hb hby d14_86) (by decide) (by decide) ?_
        refine XS.lload X37.here hx rfl (hb hby d14_44) rfl ?_
        refine XS.aloadN X37.here hx rfl (hb hby d14_46) rfl rfl ?_
        exact kt
      obtain ⟨T40, X40, e40, st40⟩ := getF X37 hx hZ hown (host := "") (Or.inl (hw _ (own_g (i := 115) rfl))) Via.refl e37 f38 (g := (mkF m 47 #[.val (.ref a), .val (.int pm), .val (.long (0 : Int64)), .second, .val (.ref b16), .val (.long (1 : Int64)), .second] [(.ref a), (.long (1 : Int64))])) rfl rfl (hb hby d14_47)
      have r40 : own_R p e below _ _ T40 (mkF m 50 #[.val (.ref a), .val (.int pm), .val (.long (0 : Int64)), .second, .val (.ref b16), .val (.long (1 : Int64)), .second] [(.long jc), (.long (1 : Int64))]) := r39.trans fun z_ kt => st40 _ kt
      have r41 : own_R p e below _ _ T40 (mkF m 51 #[.val (.ref a), .val (.int pm), .val (.long (0 : Int64)), .second, .val (.ref b16), .val (.long (1 : Int64)), .second] [(.int (lcmpW (1 : Int64) jc))]) := r40.trans fun z_ kt => by
        refine XS.lcmp X40.here hx rfl (hb hby d14_50) rfl ?_
        exact kt
      by_cases hc51_42 : (lcmpW (1 : Int64) jc) < (0 : Int32)
      · skip
        have hi1 : 1 < vs.length := own_turn hvl hc51_42
        have r44 : own_R p e below _ _ T40 (mkF m 60 #[.val (.ref a), .val (.int pm), .val (.long (0 : Int64)), .second, .val (.ref b16), .val (.long (1 : Int64)), .second] [(.ref b16), (.long (1 : Int64)), (.ref b16)]) := r41.trans fun z_ kt => by
          refine XS.ifNo X40.here hx rfl (hb hby d14_51) rfl ((if0 _ _).trans (tlt (hc51_42 : (lcmpW (1 : Int64) jc) < (0 : Int32))).2.1) ?_
          refine XS.aload X40.here hx rfl (hb hby d14_54) rfl rfl ?_
          refine XS.lload X40.here hx rfl (hb hby d14_56) rfl ?_
          refine XS.aload X40.here hx rfl (hb hby d14_58) rfl rfl ?_
          exact kt
        obtain ⟨cl43, Ar43, q43, S43, M43, H43, G43⟩ := id V37
        have r45 : own_R p e below _ _ T40 (mkF m 64 #[.val (.ref a), .val (.int pm), .val (.long (0 : Int64)), .second, .val (.ref b16), .val (.long (1 : Int64)), .second] [(.int (((1 : Int64) - ((1 : Int64) / (nl.toInt64)) * (nl.toInt64)).toInt32)), (.ref b16)]) := r44.trans fun z_ kt => by
          refine X40.arraylength hx (by rw [e40]; exact Ar43.1) (State.isArrayOf_alike hZ.alike Ar43.2.1) (g := (mkF m 60 #[.val (.ref a), .val (.int pm), .val (.long (0 : Int64)), .second, .val (.ref b16), .val (.long (1 : Int64)), .second] [(.ref b16), (.long (1 : Int64)), (.ref b16)])) rfl rfl (hb hby d14_60) _ ?_
          rw [len_of S43 M43]
          refine XS.i2l X40.here hx rfl (hb hby d14_61) rfl ?_
          refine XS.lrem X40.here hx rfl (hb hby d14_62) rfl (own_zne hN.2.2.2) ?_
          refine XS.l2i X40.here hx rfl (hb hby d14_63) rfl ?_
          exact kt
        rw [show (((1 : Int64) - ((1 : Int64) / (nl.toInt64)) * (nl.toInt64)).toInt32) = (1 : Int32) from own_ixl hN.2.2.2 (by decide) (by decide)] at r45
        have f46 := (f25.other W37 (Or.inl ne_a_b16))
        have r47 : own_R p e below _ _ T40 (mkF m 65 #[.val (.ref a), .val (.int pm), .val (.long (0 : Int64)), .second, .val (.ref b16), .val (.long (1 : Int64)), .second] [(.ref a), (.int (1 : Int32)), (.ref b16)]) := r45.trans fun z_ kt => by
          refine XS.aloadN X40.here hx rfl (hb hby d14_64) rfl rfl ?_
          exact kt
        obtain ⟨T48, X48, e48, st48⟩ := getF X40 hx hZ hown (host := "") (Or.inl (hw _ (own_g (i := 60) rfl))) Via.refl e40 f46 (g := (mkF m 65 #[.val (.ref a), .val (.int pm), .val (.long (0 : Int64)), .second, .val (.ref b16), .val (.long (1 : Int64)), .second] [(.ref a), (.int (1 : Int32)), (.ref b16)])) rfl rfl (hb hby d14_65)
        have r48 : own_R p e below _ _ T48 (mkF m 68 #[.val (.ref a), .val (.int pm), .val (.long (0 : Int64)), .second, .val (.ref b16), .val (.long (1 : Int64)), .second] [(.ref kp), (.int (1 : Int32)), (.ref b16)]) := r47.trans fun z_ kt => st48 _ kt
        have r49 : own_R p e below _ _ T48 (mkF m 71 #[.val (.ref a), .val (.int pm), .val (.long (0 : Int64)), .second, .val (.ref b16), .val (.long (1 : Int64)), .second] [(.ref a), (.long (1 : Int64)), (.ref kp), (.int (1 : Int32)), (.ref b16)]) := r48.trans fun z_ kt => by
          refine XS.lload X48.here hx rfl (hb hby d14_68) rfl ?_
          refine XS.aloadN X48.here hx rfl (hb hby d14_70) rfl rfl ?_
          exact kt
        obtain ⟨T50, X50, e50, st50⟩ := getF X48 hx hZ hown (host := "") (Or.inl (hw _ (own_g (i := 60) rfl))) Via.refl e48 f46 (g := (mkF m 71 #[.val (.ref a), .val (.int pm), .val (.long (0 : Int64)), .second, .val (.ref b16), .val (.long (1 : Int64)), .second] [(.ref a), (.long (1 : Int64)), (.ref kp), (.int (1 : Int32)), (.ref b16)])) rfl rfl (hb hby d14_71)
        have r50 : own_R p e below _ _ T50 (mkF m 74 #[.val (.ref a), .val (.int pm), .val (.long (0 : Int64)), .second, .val (.ref b16), .val (.long (1 : Int64)), .second] [(.ref kp), (.long (1 : Int64)), (.ref kp), (.int (1 : Int32)), (.ref b16)]) := r49.trans fun z_ kt => st50 _ kt
        have f51 := (f30.other W37 ne_kp_b16)
        obtain ⟨cl52, Ar52, q52, S52, M52, H52, G52⟩ := id f51
        have r53 : own_R p e below _ _ T50 (mkF m 78 #[.val (.ref a), .val (.int pm), .val (.long (0 : Int64)), .second, .val (.ref b16), .val (.long (1 : Int64)), .second] [(.int (((1 : Int64) - ((1 : Int64) / (zk.toInt64)) * (zk.toInt64)).toInt32)), (.ref kp), (.int (1 : Int32)), (.ref b16)]) := r50.trans fun z_ kt => by
          refine X50.arraylength hx (by rw [e50]; exact Ar52.1) (State.isArrayOf_alike hZ.alike Ar52.2.1) (g := (mkF m 74 #[.val (.ref a), .val (.int pm), .val (.long (0 : Int64)), .second, .val (.ref b16), .val (.long (1 : Int64)), .second] [(.ref kp), (.long (1 : Int64)), (.ref kp), (.int (1 : Int32)), (.ref b16)])) rfl rfl (hb hby d14_74) _ ?_
          rw [len_of S52 M52]
          refine XS.i2l X50.here hx rfl (hb hby d14_75) rfl ?_
          refine XS.lrem X50.here hx rfl (hb hby d14_76) rfl (own_zne hk.2.1) ?_
          refine XS.l2i X50.here hx rfl (hb hby d14_77) rfl ?_
          exact kt
        rw [show (((1 : Int64) - ((1 : Int64) / (zk.toInt64)) * (zk.toInt64)).toInt32) = (1 : Int32) from own_ixl hk.2.1 (by decide) (by decide)] at r53
        obtain ⟨cl54, Ar54, q54, S54, M54, H54, G54⟩ := id f51
        obtain ⟨y1, hy1, Ey1⟩ := hst.2 1 hi1
        have Eyn1 := Ey1
        have hin54 : ¬ ((1 : Int32) < 0 ∨ cl54.slots.size ≤ ((1 : Int32)).toNatClampNeg) := inb_of S54 ⟨by decide, own_lt_of hk.2.1 (by decide)⟩
        have hat54 : cl54.slots[((1 : Int32)).toNatClampNeg]? = some (.ref y1) := Has.at H54 hin54 hy1
        have Vp55 : Arv Z h37 b16 k16 (.object "java/lang/String") nl [(.ref y0), .null] .null := V37.pad (pad_rep [(.ref y0)] .null 1)
        obtain ⟨cl55, Ar55, q55, S55, M55, H55, G55⟩ := id Vp55
        have hin55 : ¬ ((1 : Int32) < 0 ∨ cl55.slots.size ≤ ((1 : Int32)).toNatClampNeg) := inb_of S55 ⟨by decide, own_lt_of hN.2.2.2 (by decide)⟩
        have f56 := ((Ey1.ext E16).wr W37)
        have r57 : own_R p e below _ _ T50 (mkF m 79 #[.val (.ref a), .val (.int pm), .val (.long (0 : Int64)), .second, .val (.ref b16), .val (.long (1 : Int64)), .second] [(.ref y1), (.int (1 : Int32)), (.ref b16)]) := r53.trans fun z_ kt => by
          refine X50.aaload hx (j := (1 : Int32)) (v := (.ref y1)) (by rw [e50]; exact Ar54.1) (State.isArrayOf_alike hZ.alike Ar54.2.1) rfl Ar54.2.2 hin54 hat54 (g := (mkF m 78 #[.val (.ref a), .val (.int pm), .val (.long (0 : Int64)), .second, .val (.ref b16), .val (.long (1 : Int64)), .second] [(.int (1 : Int32)), (.ref kp), (.int (1 : Int32)), (.ref b16)])) rfl rfl (hb hby d14_78) _ ?_
          exact kt
        obtain ⟨T58, h58, X58, e58, W58, st58⟩ := stR X50 hx hZ e50 Ar55 (j := (1 : Int32)) hin55 rfl (Sto.ofV Ar55 q55 Ov16 (Ins.self f56)) (g := (mkF m 79 #[.val (.ref a), .val (.int pm), .val (.long (0 : Int64)), .second, .val (.ref b16), .val (.long (1 : Int64)), .second] [(.ref y1), (.int (1 : Int32)), (.ref b16)])) rfl rfl (hb hby d14_79)
        have r58 : own_R p e below _ _ T58 (mkF m 80 #[.val (.ref a), .val (.int pm), .val (.long (0 : Int64)), .second, .val (.ref b16), .val (.long (1 : Int64)), .second] []) := r57.trans fun z_ kt => st58 _ kt
        have N58 := Fr.snoc X58 N37 g_b16
        have O58 := O37.wr W58 g_b16
        have K58 := K37.wr W58 (Or.inr sz_b16)
        have V58 : Arv Z h58 b16 k16 (.object "java/lang/String") nl [(.ref y0), (.ref y1)] .null := Arv.set Ar55 q55 S55 M55 H55 G55 rfl W58 1 rfl (Nat.le_of_ble_eq_true rfl)
        have f59 := (f38.other W58 (Or.inl ne_a_b16))
        have r60 : own_R p e below _ _ T58 (mkF m 47 #[.val (.ref a), .val (.int pm), .val (.long (0 : Int64)), .second, .val (.ref b16), .val (.long (2 : Int64)), .second] [(.ref a), (.long (2 : Int64))]) := r58.trans fun z_ kt => by
          refine XS.lload X58.here hx rfl (hb hby d14_80) rfl ?_
          refine XS.lconst X58.here hx rfl (hb hby d14_82) ?_
          refine XS.ladd X58.here hx rfl (hb hby d14_83) rfl ?_
          refine XS.lstore X58.here hx rfl (hb hby d14_84) rfl (l' := #[.val (.ref a), .val (.int pm), .val (.long (0 : Int64)), .second, .val (.ref b16), .val (.long (2 : Int64)), .second]) rfl ?_
          refine XS.goto X58.here hx rfl (pc0 := 86) (pc' := 44) rfl (hb hby d14_86) (by decide) (by decide) ?_
          refine XS.lload X58.here hx rfl (hb hby d14_44) rfl ?_
          refine XS.aloadN X58.here hx rfl (hb hby d14_46) rfl rfl ?_
          exact kt
        obtain ⟨T61, X61, e61, st61⟩ := getF X58 hx hZ hown (host := "") (Or.inl (hw _ (own_g (i := 115) rfl))) Via.refl e58 f59 (g := (mkF m 47 #[.val (.ref a), .val (.int pm), .val (.long (0 : Int64)), .second, .val (.ref b16), .val (.long (2 : Int64)), .second] [(.ref a), (.long (2 : Int64))])) rfl rfl (hb hby d14_47)
        have r61 : own_R p e below _ _ T61 (mkF m 50 #[.val (.ref a), .val (.int pm), .val (.long (0 : Int64)), .second, .val (.ref b16), .val (.long (2 : Int64)), .second] [(.long jc), (.long (2 : Int64))]) := r60.trans fun z_ kt => st61 _ kt
        have r62 : own_R p e below _ _ T61 (mkF m 51 #[.val (.ref a), .val (.int pm), .val (.long (0 : Int64)), .second, .val (.ref b16), .val (.long (2 : Int64)), .second] [(.int (lcmpW (2 : Int64) jc))]) := r61.trans fun z_ kt => by
          refine XS.lcmp X61.here hx rfl (hb hby d14_50) rfl ?_
          exact kt
        by_cases hc51_63 : (lcmpW (2 : Int64) jc) < (0 : Int32)
        · skip
          have hi2 : 2 < vs.length := own_turn hvl hc51_63
          have r65 : own_R p e below _ _ T61 (mkF m 60 #[.val (.ref a), .val (.int pm), .val (.long (0 : Int64)), .second, .val (.ref b16), .val (.long (2 : Int64)), .second] [(.ref b16), (.long (2 : Int64)), (.ref b16)]) := r62.trans fun z_ kt => by
            refine XS.ifNo X61.here hx rfl (hb hby d14_51) rfl ((if0 _ _).trans (tlt (hc51_63 : (lcmpW (2 : Int64) jc) < (0 : Int32))).2.1) ?_
            refine XS.aload X61.here hx rfl (hb hby d14_54) rfl rfl ?_
            refine XS.lload X61.here hx rfl (hb hby d14_56) rfl ?_
            refine XS.aload X61.here hx rfl (hb hby d14_58) rfl rfl ?_
            exact kt
          obtain ⟨cl64, Ar64, q64, S64, M64, H64, G64⟩ := id V58
          have r66 : own_R p e below _ _ T61 (mkF m 64 #[.val (.ref a), .val (.int pm), .val (.long (0 : Int64)), .second, .val (.ref b16), .val (.long (2 : Int64)), .second] [(.int (((2 : Int64) - ((2 : Int64) / (nl.toInt64)) * (nl.toInt64)).toInt32)), (.ref b16)]) := r65.trans fun z_ kt => by
            refine X61.arraylength hx (by rw [e61]; exact Ar64.1) (State.isArrayOf_alike hZ.alike Ar64.2.1) (g := (mkF m 60 #[.val (.ref a), .val (.int pm), .val (.long (0 : Int64)), .second, .val (.ref b16), .val (.long (2 : Int64)), .second] [(.ref b16), (.long (2 : Int64)), (.ref b16)])) rfl rfl (hb hby d14_60) _ ?_
            rw [len_of S64 M64]
            refine XS.i2l X61.here hx rfl (hb hby d14_61) rfl ?_
            refine XS.lrem X61.here hx rfl (hb hby d14_62) rfl (own_zne hN.2.2.2) ?_
            refine XS.l2i X61.here hx rfl (hb hby d14_63) rfl ?_
            exact kt
          rw [show (((2 : Int64) - ((2 : Int64) / (nl.toInt64)) * (nl.toInt64)).toInt32) = (2 : Int32) from own_ixl hN.2.2.2 (by decide) (by decide)] at r66
          have f67 := (f46.other W58 (Or.inl ne_a_b16))
          have r68 : own_R p e below _ _ T61 (mkF m 65 #[.val (.ref a), .val (.int pm), .val (.long (0 : Int64)), .second, .val (.ref b16), .val (.long (2 : Int64)), .second] [(.ref a), (.int (2 : Int32)), (.ref b16)]) := r66.trans fun z_ kt => by
            refine XS.aloadN X61.here hx rfl (hb hby d14_64) rfl rfl ?_
            exact kt
          obtain ⟨T69, X69, e69, st69⟩ := getF X61 hx hZ hown (host := "") (Or.inl (hw _ (own_g (i := 60) rfl))) Via.refl e61 f67 (g := (mkF m 65 #[.val (.ref a), .val (.int pm), .val (.long (0 : Int64)), .second, .val (.ref b16), .val (.long (2 : Int64)), .second] [(.ref a), (.int (2 : Int32)), (.ref b16)])) rfl rfl (hb hby d14_65)
          have r69 : own_R p e below _ _ T69 (mkF m 68 #[.val (.ref a), .val (.int pm), .val (.long (0 : Int64)), .second, .val (.ref b16), .val (.long (2 : Int64)), .second] [(.ref kp), (.int (2 : Int32)), (.ref b16)]) := r68.trans fun z_ kt => st69 _ kt
          have r70 : own_R p e below _ _ T69 (mkF m 71 #[.val (.ref a), .val (.int pm), .val (.long (0 : Int64)), .second, .val (.ref b16), .val (.long (2 : Int64)), .second] [(.ref a), (.long (2 : Int64)), (.ref kp), (.int (2 : Int32)), (.ref b16)]) := r69.trans fun z_ kt => by
            refine XS.lload X69.here hx rfl (hb hby d14_68) rfl ?_
            refine XS.aloadN X69.here hx rfl (hb hby d14_70) rfl rfl ?_
            exact kt
          obtain ⟨T71, X71, e71, st71⟩ := getF X69 hx hZ hown (host := "") (Or.inl (hw _ (own_g (i := 60) rfl))) Via.refl e69 f67 (g := (mkF m 71 #[.val (.ref a), .val (.int pm), .val (.long (0 : Int64)), .second, .val (.ref b16), .val (.long (2 : Int64)), .second] [(.ref a), (.long (2 : Int64)), (.ref kp), (.int (2 : Int32)), (.ref b16)])) rfl rfl (hb hby d14_71)
          have r71 : own_R p e below _ _ T71 (mkF m 74 #[.val (.ref a), .val (.int pm), .val (.long (0 : Int64)), .second, .val (.ref b16), .val (.long (2 : Int64)), .second] [(.ref kp), (.long (2 : Int64)), (.ref kp), (.int (2 : Int32)), (.ref b16)]) := r70.trans fun z_ kt => st71 _ kt
          have f72 := (f51.other W58 ne_kp_b16)
          obtain ⟨cl73, Ar73, q73, S73, M73, H73, G73⟩ := id f72
          have r74 : own_R p e below _ _ T71 (mkF m 78 #[.val (.ref a), .val (.int pm), .val (.long (0 : Int64)), .second, .val (.ref b16), .val (.long (2 : Int64)), .second] [(.int (((2 : Int64) - ((2 : Int64) / (zk.toInt64)) * (zk.toInt64)).toInt32)), (.ref kp), (.int (2 : Int32)), (.ref b16)]) := r71.trans fun z_ kt => by
            refine X71.arraylength hx (by rw [e71]; exact Ar73.1) (State.isArrayOf_alike hZ.alike Ar73.2.1) (g := (mkF m 74 #[.val (.ref a), .val (.int pm), .val (.long (0 : Int64)), .second, .val (.ref b16), .val (.long (2 : Int64)), .second] [(.ref kp), (.long (2 : Int64)), (.ref kp), (.int (2 : Int32)), (.ref b16)])) rfl rfl (hb hby d14_74) _ ?_
            rw [len_of S73 M73]
            refine XS.i2l X71.here hx rfl (hb hby d14_75) rfl ?_
            refine XS.lrem X71.here hx rfl (hb hby d14_76) rfl (own_zne hk.2.1) ?_
            refine XS.l2i X71.here hx rfl (hb hby d14_77) rfl ?_
            exact kt
          rw [show (((2 : Int64) - ((2 : Int64) / (zk.toInt64)) * (zk.toInt64)).toInt32) = (2 : Int32) from own_ixl hk.2.1 (by decide) (by decide)] at r74
          obtain ⟨cl75, Ar75, q75, S75, M75, H75, G75⟩ := id f72
          obtain ⟨y2, hy2, Ey2⟩ := hst.2 2 hi2
          have Eyn2 := Ey2
          have hin75 : ¬ ((2 : Int32) < 0 ∨ cl75.slots.size ≤ ((2 : Int32)).toNatClampNeg) := inb_of S75 ⟨by decide, own_lt_of hk.2.1 (by decide)⟩
          have hat75 : cl75.slots[((2 : Int32)).toNatClampNeg]? = some (.ref y2) := Has.at H75 hin75 hy2
          have Vp76 : Arv Z h58 b16 k16 (.object "java/lang/String") nl [(.ref y0), (.ref y1), .null] .null := V58.pad (pad_rep [(.ref y0), (.ref y1)] .null 1)
          obtain ⟨cl76, Ar76, q76, S76, M76, H76, G76⟩ := id Vp76
          have hin76 : ¬ ((2 : Int32) < 0 ∨ cl76.slots.size ≤ ((2 : Int32)).toNatClampNeg) := inb_of S76 ⟨by decide, own_lt_of hN.2.2.2 (by decide)⟩
          have f77 := (((Ey2.ext E16).wr W37).wr W58)
          have r78 : own_R p e below _ _ T71 (mkF m 79 #[.val (.ref a), .val (.int pm), .val (.long (0 : Int64)), .second, .val (.ref b16), .val (.long (2 : Int64)), .second] [(.ref y2), (.int (2 : Int32)), (.ref b16)]) := r74.trans fun z_ kt => by
            refine X71.aaload hx (j := (2 : Int32)) (v := (.ref y2)) (by rw [e71]; exact Ar75.1) (State.isArrayOf_alike hZ.alike Ar75.2.1) rfl Ar75.2.2 hin75 hat75 (g := (mkF m 78 #[.val (.ref a), .val (.int pm), .val (.long (0 : Int64)), .second, .val (.ref b16), .val (.long (2 : Int64)), .second] [(.int (2 : Int32)), (.ref kp), (.int (2 : Int32)), (.ref b16)])) rfl rfl (hb hby d14_78) _ ?_
            exact kt
          obtain ⟨T79, h79, X79, e79, W79, st79⟩ := stR X71 hx hZ e71 Ar76 (j := (2 : Int32)) hin76 rfl (Sto.ofV Ar76 q76 Ov16 (Ins.self f77)) (g := (mkF m 79 #[.val (.ref a), .val (.int pm), .val (.long (0 : Int64)), .second, .val (.ref b16), .val (.long (2 : Int64)), .second] [(.ref y2), (.int (2 : Int32)), (.ref b16)])) rfl rfl (hb hby d14_79)
          have r79 : own_R p e below _ _ T79 (mkF m 80 #[.val (.ref a), .val (.int pm), .val (.long (0 : Int64)), .second, .val (.ref b16), .val (.long (2 : Int64)), .second] []) := r78.trans fun z_ kt => st79 _ kt
          have N79 := Fr.snoc X79 N58 g_b16
          have O79 := O58.wr W79 g_b16
          have K79 := K58.wr W79 (Or.inr sz_b16)
          have V79 : Arv Z h79 b16 k16 (.object "java/lang/String") nl [(.ref y0), (.ref y1), (.ref y2)] .null := Arv.set Ar76 q76 S76 M76 H76 G76 rfl W79 2 rfl (Nat.le_of_ble_eq_true rfl)
          have f80 := (f59.other W79 (Or.inl ne_a_b16))
          have r81 : own_R p e below _ _ T79 (mkF m 47 #[.val (.ref a), .val (.int pm), .val (.long (0 : Int64)), .second, .val (.ref b16), .val (.long (3 : Int64)), .second] [(.ref a), (.long (3 : Int64))]) := r79.trans fun z_ kt => by
            refine XS.lload X79.here hx rfl (hb hby d14_80) rfl ?_
            refine XS.lconst X79.here hx rfl (hb hby d14_82) ?_
            refine XS.ladd X79.here hx rfl (hb hby d14_83) rfl ?_
            refine XS.lstore X79.here hx rfl (hb hby d14_84) rfl (l' := #[.val (.ref a), .val (.int pm), .val (.long (0 : Int64)), .second, .val (.ref b16), .val (.long (3 : Int64)), .second]) rfl ?_
            refine XS.goto X79.here hx rfl (pc0 := 86) (pc' := 44) rfl (hb hby d14_86) (by decide) (by decide) ?_
            refine XS.lload X79.here hx rfl (hb hby d14_44) rfl ?_
            refine XS.aloadN X79.here hx rfl (hb hby d14_46) rfl rfl ?_
            exact kt
          obtain ⟨T82, X82, e82, st82⟩ := getF X79 hx hZ hown (host := "") (Or.inl (hw _ (own_g (i := 115) rfl))) Via.refl e79 f80 (g := (mkF m 47 #[.val (.ref a), .val (.int pm), .val (.long (0 : Int64)), .second, .val (.ref b16), .val (.long (3 : Int64)), .second] [(.ref a), (.long (3 : Int64))])) rfl rfl (hb hby d14_47)
          have r82 : own_R p e below _ _ T82 (mkF m 50 #[.val (.ref a), .val (.int pm), .val (.long (0 : Int64)), .second, .val (.ref b16), .val (.long (3 : Int64)), .second] [(.long jc), (.long (3 : Int64))]) := r81.trans fun z_ kt => st82 _ kt
          have r83 : own_R p e below _ _ T82 (mkF m 51 #[.val (.ref a), .val (.int pm), .val (.long (0 : Int64)), .second, .val (.ref b16), .val (.long (3 : Int64)), .second] [(.int (lcmpW (3 : Int64) jc))]) := r82.trans fun z_ kt => by
            refine XS.lcmp X82.here hx rfl (hb hby d14_50) rfl ?_
            exact kt
          by_cases hc51_84 : (lcmpW (3 : Int64) jc) < (0 : Int32)
          · skip
            have hi3 : 3 < vs.length := own_turn hvl hc51_84
            have r86 : own_R p e below _ _ T82 (mkF m 60 #[.val (.ref a), .val (.int pm), .val (.long (0 : Int64)), .second, .val (.ref b16), .val (.long (3 : Int64)), .second] [(.ref b16), (.long (3 : Int64)), (.ref b16)]) := r83.trans fun z_ kt => by
              refine XS.ifNo X82.here hx rfl (hb hby d14_51) rfl ((if0 _ _).trans (tlt (hc51_84 : (lcmpW (3 : Int64) jc) < (0 : Int32))).2.1) ?_
              refine XS.aload X82.here hx rfl (hb hby d14_54) rfl rfl ?_
              refine XS.lload X82.here hx rfl (hb hby d14_56) rfl ?_
              refine XS.aload X82.here hx rfl (hb hby d14_58) rfl rfl ?_
              exact kt
            obtain ⟨cl85, Ar85, q85, S85, M85, H85, G85⟩ := id V79
            have r87 : own_R p e below _ _ T82 (mkF m 64 #[.val (.ref a), .val (.int pm), .val (.long (0 : Int64)), .second, .val (.ref b16), .val (.long (3 : Int64)), .second] [(.int (((3 : Int64) - ((3 : Int64) / (nl.toInt64)) * (nl.toInt64)).toInt32)), (.ref b16)]) := r86.trans fun z_ kt => by
              refine X82.arraylength hx (by rw [e82]; exact Ar85.1) (State.isArrayOf_alike hZ.alike Ar85.2.1) (g := (mkF m 60 #[.val (.ref a), .val (.int pm), .val (.long (0 : Int64)), .second, .val (.ref b16), .val (.long (3 : Int64)), .second] [(.ref b16), (.long (3 : Int64)), (.ref b16)])) rfl rfl (hb hby d14_60) _ ?_
              rw [len_of S85 M85]
              refine XS.i2l X82.here hx rfl (hb hby d14_61) rfl ?_
              refine XS.lrem X82.here hx rfl (hb hby d14_62) rfl (own_zne hN.2.2.2) ?_
              refine XS.l2i X82.here hx rfl (hb hby d14_63) rfl ?_
              exact kt
            rw [show (((3 : Int64) - ((3 : Int64) / (nl.toInt64)) * (nl.toInt64)).toInt32) = (3 : Int32) from own_ixl hN.2.2.2 (by decide) (by decide)] at r87
            have f88 := (f67.other W79 (Or.inl ne_a_b16))
            have r89 : own_R p e below _ _ T82 (mkF m 65 #[.val (.ref a), .val (.int pm), .val (.long (0 : Int64)), .second, .val (.ref b16), .val (.long (3 : Int64)), .second] [(.ref a), (.int (3 : Int32)), (.ref b16)]) := r87.trans fun z_ kt => by
              refine XS.aloadN X82.here hx rfl (hb hby d14_64) rfl rfl ?_
              exact kt
            obtain ⟨T90, X90, e90, st90⟩ := getF X82 hx hZ hown (host := "") (Or.inl (hw _ (own_g (i := 60) rfl))) Via.refl e82 f88 (g := (mkF m 65 #[.val (.ref a), .val (.int pm), .val (.long (0 : Int64)), .second, .val (.ref b16), .val (.long (3 : Int64)), .second] [(.ref a), (.int (3 : Int32)), (.ref b16)])) rfl rfl (hb hby d14_65)
            have r90 : own_R p e below _ _ T90 (mkF m 68 #[.val (.ref a), .val (.int pm), .val (.long (0 : Int64)), .second, .val (.ref b16), .val (.long (3 : Int64)), .second] [(.ref kp), (.int (3 : Int32)), (.ref b16)]) := r89.trans fun z_ kt => st90 _ kt
            have r91 : own_R p e below _ _ T90 (mkF m 71 #[.val (.ref a), .val (.int pm), .val (.long (0 : Int64)), .second, .val (.ref b16), .val (.long (3 : Int64)), .second] [(.ref a), (.long (3 : Int64)), (.ref kp), (.int (3 : Int32)), (.ref b16)]) := r90.trans fun z_ kt => by
              refine XS.lload X90.here hx rfl (hb hby d14_68) rfl ?_
              refine XS.aloadN X90.here hx rfl (hb hby d14_70) rfl rfl ?_
              exact kt
            obtain ⟨T92, X92, e92, st92⟩ := getF X90 hx hZ hown (host := "") (Or.inl (hw _ (own_g (i := 60) rfl))) Via.refl e90 f88 (g := (mkF m 71 #[.val (.ref a), .val (.int pm), .val (.long (0 : Int64)), .second, .val (.ref b16), .val (.long (3 : Int64)), .second] [(.ref a), (.long (3 : Int64)), (.ref kp), (.int (3 : Int32)), (.ref b16)])) rfl rfl (hb hby d14_71)
            have r92 : own_R p e below _ _ T92 (mkF m 74 #[.val (.ref a), .val (.int pm), .val (.long (0 : Int64)), .second, .val (.ref b16), .val (.long (3 : Int64)), .second] [(.ref kp), (.long (3 : Int64)), (.ref kp), (.int (3 : Int32)), (.ref b16)]) := r91.trans fun z_ kt => st92 _ kt
            have f93 := (f72.other W79 ne_kp_b16)
            obtain ⟨cl94, Ar94, q94, S94, M94, H94, G94⟩ := id f93
            have r95 : own_R p e below _ _ T92 (mkF m 78 #[.val (.ref a), .val (.int pm), .val (.long (0 : Int64)), .second, .val (.ref b16), .val (.long (3 : Int64)), .second] [(.int (((3 : Int64) - ((3 : Int64) / (zk.toInt64)) * (zk.toInt64)).toInt32)), (.ref kp), (.int (3 : Int32)), (.ref b16)]) := r92.trans fun z_ kt => by
              refine X92.arraylength hx (by rw [e92]; exact Ar94.1) (State.isArrayOf_alike hZ.alike Ar94.2.1) (g := (mkF m 74 #[.val (.ref a), .val (.int pm), .val (.long (0 : Int64)), .second, .val (.ref b16), .val (.long (3 : Int64)), .second] [(.ref kp), (.long (3 : Int64)), (.ref kp), (.int (3 : Int32)), (.ref b16)])) rfl rfl (hb hby d14_74) _ ?_
              rw [len_of S94 M94]
              refine XS.i2l X92.here hx rfl (hb hby d14_75) rfl ?_
              refine XS.lrem X92.here hx rfl (hb hby d14_76) rfl (own_zne hk.2.1) ?_
              refine XS.l2i X92.here hx rfl (hb hby d14_77) rfl ?_
              exact kt
            rw [show (((3 : Int64) - ((3 : Int64) / (zk.toInt64)) * (zk.toInt64)).toInt32) = (3 : Int32) from own_ixl hk.2.1 (by decide) (by decide)] at r95
            obtain ⟨cl96, Ar96, q96, S96, M96, H96, G96⟩ := id f93
            obtain ⟨y3, hy3, Ey3⟩ := hst.2 3 hi3
            have Eyn3 := Ey3
            have hin96 : ¬ ((3 : Int32) < 0 ∨ cl96.slots.size ≤ ((3 : Int32)).toNatClampNeg) := inb_of S96 ⟨by decide, own_lt_of hk.2.1 (by decide)⟩
            have hat96 : cl96.slots[((3 : Int32)).toNatClampNeg]? = some (.ref y3) := Has.at H96 hin96 hy3
            have Vp97 : Arv Z h79 b16 k16 (.object "java/lang/String") nl [(.ref y0), (.ref y1), (.ref y2), .null] .null := V79.pad (pad_rep [(.ref y0), (.ref y1), (.ref y2)] .null 1)
            obtain ⟨cl97, Ar97, q97, S97, M97, H97, G97⟩ := id Vp97
            have hin97 : ¬ ((3 : Int32) < 0 ∨ cl97.slots.size ≤ ((3 : Int32)).toNatClampNeg) := inb_of S97 ⟨by decide, own_lt_of hN.2.2.2 (by decide)⟩
            have f98 := ((((Ey3.ext E16).wr W37).wr W58).wr W79)
            have r99 : own_R p e below _ _ T92 (mkF m 79 #[.val (.ref a), .val (.int pm), .val (.long (0 : Int64)), .second, .val (.ref b16), .val (.long (3 : Int64)), .second] [(.ref y3), (.int (3 : Int32)), (.ref b16)]) := r95.trans fun z_ kt => by
              refine X92.aaload hx (j := (3 : Int32)) (v := (.ref y3)) (by rw [e92]; exact Ar96.1) (State.isArrayOf_alike hZ.alike Ar96.2.1) rfl Ar96.2.2 hin96 hat96 (g := (mkF m 78 #[.val (.ref a), .val (.int pm), .val (.long (0 : Int64)), .second, .val (.ref b16), .val (.long (3 : Int64)), .second] [(.int (3 : Int32)), (.ref kp), (.int (3 : Int32)), (.ref b16)])) rfl rfl (hb hby d14_78) _ ?_
              exact kt
            obtain ⟨T100, h100, X100, e100, W100, st100⟩ := stR X92 hx hZ e92 Ar97 (j := (3 : Int32)) hin97 rfl (Sto.ofV Ar97 q97 Ov16 (Ins.self f98)) (g := (mkF m 79 #[.val (.ref a), .val (.int pm), .val (.long (0 : Int64)), .second, .val (.ref b16), .val (.long (3 : Int64)), .second] [(.ref y3), (.int (3 : Int32)), (.ref b16)])) rfl rfl (hb hby d14_79)
            have r100 : own_R p e below _ _ T100 (mkF m 80 #[.val (.ref a), .val (.int pm), .val (.long (0 : Int64)), .second, .val (.ref b16), .val (.long (3 : Int64)), .second] []) := r99.trans fun z_ kt => st100 _ kt
            have N100 := Fr.snoc X100 N79 g_b16
            have O100 := O79.wr W100 g_b16
            have K100 := K79.wr W100 (Or.inr sz_b16)
            have V100 : Arv Z h100 b16 k16 (.object "java/lang/String") nl [(.ref y0), (.ref y1), (.ref y2), (.ref y3)] .null := Arv.set Ar97 q97 S97 M97 H97 G97 rfl W100 3 rfl (Nat.le_of_ble_eq_true rfl)
            have f101 := (f80.other W100 (Or.inl ne_a_b16))
            have r102 : own_R p e below _ _ T100 (mkF m 47 #[.val (.ref a), .val (.int pm), .val (.long (0 : Int64)), .second, .val (.ref b16), .val (.long (4 : Int64)), .second] [(.ref a), (.long (4 : Int64))]) := r100.trans fun z_ kt => by
              refine XS.lload X100.here hx rfl (hb hby d14_80) rfl ?_
              refine XS.lconst X100.here hx rfl (hb hby d14_82) ?_
              refine XS.ladd X100.here hx rfl (hb hby d14_83) rfl ?_
              refine XS.lstore X100.here hx rfl (hb hby d14_84) rfl (l' := #[.val (.ref a), .val (.int pm), .val (.long (0 : Int64)), .second, .val (.ref b16), .val (.long (4 : Int64)), .second]) rfl ?_
              refine XS.goto X100.here hx rfl (pc0 := 86) (pc' := 44) rfl (hb hby d14_86) (by decide) (by decide) ?_
              refine XS.lload X100.here hx rfl (hb hby d14_44) rfl ?_
              refine XS.aloadN X100.here hx rfl (hb hby d14_46) rfl rfl ?_
              exact kt
            obtain ⟨T103, X103, e103, st103⟩ := getF X100 hx hZ hown (host := "") (Or.inl (hw _ (own_g (i := 115) rfl))) Via.refl e100 f101 (g := (mkF m 47 #[.val (.ref a), .val (.int pm), .val (.long (0 : Int64)), .second, .val (.ref b16), .val (.long (4 : Int64)), .second] [(.ref a), (.long (4 : Int64))])) rfl rfl (hb hby d14_47)
            have r103 : own_R p e below _ _ T103 (mkF m 50 #[.val (.ref a), .val (.int pm), .val (.long (0 : Int64)), .second, .val (.ref b16), .val (.long (4 : Int64)), .second] [(.long jc), (.long (4 : Int64))]) := r102.trans fun z_ kt => st103 _ kt
            have r104 : own_R p e below _ _ T103 (mkF m 51 #[.val (.ref a), .val (.int pm), .val (.long (0 : Int64)), .second, .val (.ref b16), .val (.long (4 : Int64)), .second] [(.int (lcmpW (4 : Int64) jc))]) := r103.trans fun z_ kt => by
              refine XS.lcmp X103.here hx rfl (hb hby d14_50) rfl ?_
              exact kt
            by_cases hc51_105 : (lcmpW (4 : Int64) jc) < (0 : Int32)
            · skip
              have hi4 : 4 < vs.length := own_turn hvl hc51_105
              have r107 : own_R p e below _ _ T103 (mkF m 60 #[.val (.ref a), .val (.int pm), .val (.long (0 : Int64)), .second, .val (.ref b16), .val (.long (4 : Int64)), .second] [(.ref b16), (.long (4 : Int64)), (.ref b16)]) := r104.trans fun z_ kt => by
                refine XS.ifNo X103.here hx rfl (hb hby d14_51) rfl ((if0 _ _).trans (tlt (hc51_105 : (lcmpW (4 : Int64) jc) < (0 : Int32))).2.1) ?_
                refine XS.aload X103.here hx rfl (hb hby d14_54) rfl rfl ?_
                refine XS.lload X103.here hx rfl (hb hby d14_56) rfl ?_
                refine XS.aload X103.here hx rfl (hb hby d14_58) rfl rfl ?_
                exact kt
              obtain ⟨cl106, Ar106, q106, S106, M106, H106, G106⟩ := id V100
              have r108 : own_R p e below _ _ T103 (mkF m 64 #[.val (.ref a), .val (.int pm), .val (.long (0 : Int64)), .second, .val (.ref b16), .val (.long (4 : Int64)), .second] [(.int (((4 : Int64) - ((4 : Int64) / (nl.toInt64)) * (nl.toInt64)).toInt32)), (.ref b16)]) := r107.trans fun z_ kt => by
                refine X103.arraylength hx (by rw [e103]; exact Ar106.1) (State.isArrayOf_alike hZ.alike Ar106.2.1) (g := (mkF m 60 #[.val (.ref a), .val (.int pm), .val (.long (0 : Int64)), .second, .val (.ref b16), .val (.long (4 : Int64)), .second] [(.ref b16), (.long (4 : Int64)), (.ref b16)])) rfl rfl (hb hby d14_60) _ ?_
                rw [len_of S106 M106]
                refine XS.i2l X103.here hx rfl (hb hby d14_61) rfl ?_
                refine XS.lrem X103.here hx rfl (hb hby d14_62) rfl (own_zne hN.2.2.2) ?_
                refine XS.l2i X103.here hx rfl (hb hby d14_63) rfl ?_
                exact kt
              rw [show (((4 : Int64) - ((4 : Int64) / (nl.toInt64)) * (nl.toInt64)).toInt32) = (4 : Int32) from own_ixl hN.2.2.2 (by decide) (by decide)] at r108
              have f109 := (f88.other W100 (Or.inl ne_a_b16))
              have r110 : own_R p e below _ _ T103 (mkF m 65 #[.val (.ref a), .val (.int pm), .val (.long (0 : Int64)), .second, .val (.ref b16), .val (.long (4 : Int64)), .second] [(.ref a), (.int (4 : Int32)), (.ref b16)]) := r108.trans fun z_ kt => by
                refine XS.aloadN X103.here hx rfl (hb hby d14_64) rfl rfl ?_
                exact kt
              obtain ⟨T111, X111, e111, st111⟩ := getF X103 hx hZ hown (host := "") (Or.inl (hw _ (own_g (i := 60) rfl))) Via.refl e103 f109 (g := (mkF m 65 #[.val (.ref a), .val (.int pm), .val (.long (0 : Int64)), .second, .val (.ref b16), .val (.long (4 : Int64)), .second] [(.ref a), (.int (4 : Int32)), (.ref b16)])) rfl rfl (hb hby d14_65)
              have r111 : own_R p e below _ _ T111 (mkF m 68 #[.val (.ref a), .val (.int pm), .val (.long (0 : Int64)), .second, .val (.ref b16), .val (.long (4 : Int64)), .second] [(.ref kp), (.int (4 : Int32)), (.ref b16)]) := r110.trans fun z_ kt => st111 _ kt
              have r112 : own_R p e below _ _ T111 (mkF m 71 #[.val (.ref a), .val (.int pm), .val (.long (0 : Int64)), .second, .val (.ref b16), .val (.long (4 : Int64)), .second] [(.ref a), (.long (4 : Int64)), (.ref kp), (.int (4 : Int32)), (.ref b16)]) := r111.trans fun z_ kt => by
                refine XS.lload X111.here hx rfl (hb hby d14_68) rfl ?_
                refine XS.aloadN X111.here hx rfl (hb hby d14_70) rfl rfl ?_
                exact kt
              obtain ⟨T113, X113, e113, st113⟩ := getF X111 hx hZ hown (host := "") (Or.inl (hw _ (own_g (i := 60) rfl))) Via.refl e111 f109 (g := (mkF m 71 #[.val (.ref a), .val (.int pm), .val (.long (0 : Int64)), .second, .val (.ref b16), .val (.long (4 : Int64)), .second] [(.ref a), (.long (4 : Int64)), (.ref kp), (.int (4 : Int32)), (.ref b16)])) rfl rfl (hb hby d14_71)
              have r113 : own_R p e below _ _ T113 (mkF m 74 #[.val (.ref a), .val (.int pm), .val (.long (0 : Int64)), .second, .val (.ref b16), .val (.long (4 : Int64)), .second] [(.ref kp), (.long (4 : Int64)), (.ref kp), (.int (4 : Int32)), (.ref b16)]) := r112.trans fun z_ kt => st113 _ kt
              have f114 := (f93.other W100 ne_kp_b16)
              obtain ⟨cl115, Ar115, q115, S115, M115, H115, G115⟩ := id f114
              have r116 : own_R p e below _ _ T113 (mkF m 78 #[.val (.ref a), .val (.int pm), .val (.long (0 : Int64)), .second, .val (.ref b16), .val (.long (4 : Int64)), .second] [(.int (((4 : Int64) - ((4 : Int64) / (zk.toInt64)) * (zk.toInt64)).toInt32)), (.ref kp), (.int (4 : Int32)), (.ref b16)]) := r113.trans fun z_ kt => by
                refine X113.arraylength hx (by rw [e113]; exact Ar115.1) (State.isArrayOf_alike hZ.alike Ar115.2.1) (g := (mkF m 74 #[.val (.ref a), .val (.int pm), .val (.long (0 : Int64)), .second, .val (.ref b16), .val (.long (4 : Int64)), .second] [(.ref kp), (.long (4 : Int64)), (.ref kp), (.int (4 : Int32)), (.ref b16)])) rfl rfl (hb hby d14_74) _ ?_
                rw [len_of S115 M115]
                refine XS.i2l X113.here hx rfl (hb hby d14_75) rfl ?_
                refine XS.lrem X113.here hx rfl (hb hby d14_76) rfl (own_zne hk.2.1) ?_
                refine XS.l2i X113.here hx rfl (hb hby d14_77) rfl ?_
                exact kt
              rw [show (((4 : Int64) - ((4 : Int64) / (zk.toInt64)) * (zk.toInt64)).toInt32) = (4 : Int32) from own_ixl hk.2.1 (by decide) (by decide)] at r116
              obtain ⟨cl117, Ar117, q117, S117, M117, H117, G117⟩ := id f114
              obtain ⟨y4, hy4, Ey4⟩ := hst.2 4 hi4
              have Eyn4 := Ey4
              have hin117 : ¬ ((4 : Int32) < 0 ∨ cl117.slots.size ≤ ((4 : Int32)).toNatClampNeg) := inb_of S117 ⟨by decide, own_lt_of hk.2.1 (by decide)⟩
              have hat117 : cl117.slots[((4 : Int32)).toNatClampNeg]? = some (.ref y4) := Has.at H117 hin117 hy4
              have Vp118 : Arv Z h100 b16 k16 (.object "java/lang/String") nl [(.ref y0), (.ref y1), (.ref y2), (.ref y3), .null] .null := V100.pad (pad_rep [(.ref y0), (.ref y1), (.ref y2), (.ref y3)] .null 1)
              obtain ⟨cl118, Ar118, q118, S118, M118, H118, G118⟩ := id Vp118
              have hin118 : ¬ ((4 : Int32) < 0 ∨ cl118.slots.size ≤ ((4 : Int32)).toNatClampNeg) := inb_of S118 ⟨by decide, own_lt_of hN.2.2.2 (by decide)⟩
              have f119 := (((((Ey4.ext E16).wr W37).wr W58).wr W79).wr W100)
              have r120 : own_R p e below _ _ T113 (mkF m 79 #[.val (.ref a), .val (.int pm), .val (.long (0 : Int64)), .second, .val (.ref b16), .val (.long (4 : Int64)), .second] [(.ref y4), (.int (4 : Int32)), (.ref b16)]) := r116.trans fun z_ kt => by
                refine X113.aaload hx (j := (4 : Int32)) (v := (.ref y4)) (by rw [e113]; exact Ar117.1) (State.isArrayOf_alike hZ.alike Ar117.2.1) rfl Ar117.2.2 hin117 hat117 (g := (mkF m 78 #[.val (.ref a), .val (.int pm), .val (.long (0 : Int64)), .second, .val (.ref b16), .val (.long (4 : Int64)), .second] [(.int (4 : Int32)), (.ref kp), (.int (4 : Int32)), (.ref b16)])) rfl rfl (hb hby d14_78) _ ?_
                exact kt
              obtain ⟨T121, h121, X121, e121, W121, st121⟩ := stR X113 hx hZ e113 Ar118 (j := (4 : Int32)) hin118 rfl (Sto.ofV Ar118 q118 Ov16 (Ins.self f119)) (g := (mkF m 79 #[.val (.ref a), .val (.int pm), .val (.long (0 : Int64)), .second, .val (.ref b16), .val (.long (4 : Int64)), .second] [(.ref y4), (.int (4 : Int32)), (.ref b16)])) rfl rfl (hb hby d14_79)
              have r121 : own_R p e below _ _ T121 (mkF m 80 #[.val (.ref a), .val (.int pm), .val (.long (0 : Int64)), .second, .val (.ref b16), .val (.long (4 : Int64)), .second] []) := r120.trans fun z_ kt => st121 _ kt
              have N121 := Fr.snoc X121 N100 g_b16
              have O121 := O100.wr W121 g_b16
              have K121 := K100.wr W121 (Or.inr sz_b16)
              have V121 : Arv Z h121 b16 k16 (.object "java/lang/String") nl [(.ref y0), (.ref y1), (.ref y2), (.ref y3), (.ref y4)] .null := Arv.set Ar118 q118 S118 M118 H118 G118 rfl W121 4 rfl (Nat.le_of_ble_eq_true rfl)
              have f122 := (f101.other W121 (Or.inl ne_a_b16))
              have r123 : own_R p e below _ _ T121 (mkF m 47 #[.val (.ref a), .val (.int pm), .val (.long (0 : Int64)), .second, .val (.ref b16), .val (.long (5 : Int64)), .second] [(.ref a), (.long (5 : Int64))]) := r121.trans fun z_ kt => by
                refine XS.lload X121.here hx rfl (hb hby d14_80) rfl ?_
                refine XS.lconst X121.here hx rfl (hb hby d14_82) ?_
                refine XS.ladd X121.here hx rfl (hb hby d14_83) rfl ?_
                refine XS.lstore X121.here hx rfl (hb hby d14_84) rfl (l' := #[.val (.ref a), .val (.int pm), .val (.long (0 : Int64)), .second, .val (.ref b16), .val (.long (5 : Int64)), .second]) rfl ?_
                refine XS.goto X121.here hx rfl (pc0 := 86) (pc' := 44) rfl (hb hby d14_86) (by decide) (by decide) ?_
                refine XS.lload X121.here hx rfl (hb hby d14_44) rfl ?_
                refine XS.aloadN X121.here hx rfl (hb hby d14_46) rfl rfl ?_
                exact kt
              obtain ⟨T124, X124, e124, st124⟩ := getF X121 hx hZ hown (host := "") (Or.inl (hw _ (own_g (i := 115) rfl))) Via.refl e121 f122 (g := (mkF m 47 #[.val (.ref a), .val (.int pm), .val (.long (0 : Int64)), .second, .val (.ref b16), .val (.long (5 : Int64)), .second] [(.ref a), (.long (5 : Int64))])) rfl rfl (hb hby d14_47)
              have r124 : own_R p e below _ _ T124 (mkF m 50 #[.val (.ref a), .val (.int pm), .val (.long (0 : Int64)), .second, .val (.ref b16), .val (.long (5 : Int64)), .second] [(.long jc), (.long (5 : Int64))]) := r123.trans fun z_ kt => st124 _ kt
              have r125 : own_R p e below _ _ T124 (mkF m 51 #[.val (.ref a), .val (.int pm), .val (.long (0 : Int64)), .second, .val (.ref b16), .val (.long (5 : Int64)), .second] [(.int (lcmpW (5 : Int64) jc))]) := r124.trans fun z_ kt => by
                refine XS.lcmp X124.here hx rfl (hb hby d14_50) rfl ?_
                exact kt
              by_cases hc51_126 : (lcmpW (5 : Int64) jc) < (0 : Int32)
              · skip
                have hi5 : 5 < vs.length := own_turn hvl hc51_126
                have r128 : own_R p e below _ _ T124 (mkF m 60 #[.val (.ref a), .val (.int pm), .val (.long (0 : Int64)), .second, .val (.ref b16), .val (.long (5 : Int64)), .second] [(.ref b16), (.long (5 : Int64)), (.ref b16)]) := r125.trans fun z_ kt => by
                  refine XS.ifNo X124.here hx rfl (hb hby d14_51) rfl ((if0 _ _).trans (tlt (hc51_126 : (lcmpW (5 : Int64) jc) < (0 : Int32))).2.1) ?_
                  refine XS.aload X124.here hx rfl (hb hby d14_54) rfl rfl ?_
                  refine XS.lload X124.here hx rfl (hb hby d14_56) rfl ?_
                  refine XS.aload X124.here hx rfl (hb hby d14_58) rfl rfl ?_
                  exact kt
                obtain ⟨cl127, Ar127, q127, S127, M127, H127, G127⟩ := id V121
                have r129 : own_R p e below _ _ T124 (mkF m 64 #[.val (.ref a), .val (.int pm), .val (.long (0 : Int64)), .second, .val (.ref b16), .val (.long (5 : Int64)), .second] [(.int (((5 : Int64) - ((5 : Int64) / (nl.toInt64)) * (nl.toInt64)).toInt32)), (.ref b16)]) := r128.trans fun z_ kt => by
                  refine X124.arraylength hx (by rw [e124]; exact Ar127.1) (State.isArrayOf_alike hZ.alike Ar127.2.1) (g := (mkF m 60 #[.val (.ref a), .val (.int pm), .val (.long (0 : Int64)), .second, .val (.ref b16), .val (.long (5 : Int64)), .second] [(.ref b16), (.long (5 : Int64)), (.ref b16)])) rfl rfl (hb hby d14_60) _ ?_
                  rw [len_of S127 M127]
                  refine XS.i2l X124.here hx rfl (hb hby d14_61) rfl ?_
                  refine XS.lrem X124.here hx rfl (hb hby d14_62) rfl (own_zne hN.2.2.2) ?_
                  refine XS.l2i X124.here hx rfl (hb hby d14_63) rfl ?_
                  exact kt
                rw [show (((5 : Int64) - ((5 : Int64) / (nl.toInt64)) * (nl.toInt64)).toInt32) = (5 : Int32) from own_ixl hN.2.2.2 (by decide) (by decide)] at r129
                have f130 := (f109.other W121 (Or.inl ne_a_b16))
                have r131 : own_R p e below _ _ T124 (mkF m 65 #[.val (.ref a), .val (.int pm), .val (.long (0 : Int64)), .second, .val (.ref b16), .val (.long (5 : Int64)), .second] [(.ref a), (.int (5 : Int32)), (.ref b16)]) := r129.trans fun z_ kt => by
                  refine XS.aloadN X124.here hx rfl (hb hby d14_64) rfl rfl ?_
                  exact kt
                obtain ⟨T132, X132, e132, st132⟩ := getF X124 hx hZ hown (host := "") (Or.inl (hw _ (own_g (i := 60) rfl))) Via.refl e124 f130 (g := (mkF m 65 #[.val (.ref a), .val (.int pm), .val (.long (0 : Int64)), .second, .val (.ref b16), .val (.long (5 : Int64)), .second] [(.ref a), (.int (5 : Int32)), (.ref b16)])) rfl rfl (hb hby d14_65)
                have r132 : own_R p e below _ _ T132 (mkF m 68 #[.val (.ref a), .val (.int pm), .val (.long (0 : Int64)), .second, .val (.ref b16), .val (.long (5 : Int64)), .second] [(.ref kp), (.int (5 : Int32)), (.ref b16)]) := r131.trans fun z_ kt => st132 _ kt
                have r133 : own_R p e below _ _ T132 (mkF m 71 #[.val (.ref a), .val (.int pm), .val (.long (0 : Int64)), .second, .val (.ref b16), .val (.long (5 : Int64)), .second] [(.ref a), (.long (5 : Int64)), (.ref kp), (.int (5 : Int32)), (.ref b16)]) := r132.trans fun z_ kt => by
                  refine XS.lload X132.here hx rfl (hb hby d14_68) rfl ?_
                  refine XS.aloadN X132.here hx rfl (hb hby d14_70) rfl rfl ?_
                  exact kt
                obtain ⟨T134, X134, e134, st134⟩ := getF X132 hx hZ hown (host := "") (Or.inl (hw _ (own_g (i := 60) rfl))) Via.refl e132 f130 (g := (mkF m 71 #[.val (.ref a), .val (.int pm), .val (.long (0 : Int64)), .second, .val (.ref b16), .val (.long (5 : Int64)), .second] [(.ref a), (.long (5 : Int64)), (.ref kp), (.int (5 : Int32)), (.ref b16)])) rfl rfl (hb hby d14_71)
                have r134 : own_R p e below _ _ T134 (mkF m 74 #[.val (.ref a), .val (.int pm), .val (.long (0 : Int64)), .second, .val (.ref b16), .val (.long (5 : Int64)), .second] [(.ref kp), (.long (5 : Int64)), (.ref kp), (.int (5 : Int32)), (.ref b16)]) := r133.trans fun z_ kt => st134 _ kt
                have f135 := (f114.other W121 ne_kp_b16)
                obtain ⟨cl136, Ar136, q136, S136, M136, H136, G136⟩ := id f135
                have r137 : own_R p e below _ _ T134 (mkF m 78 #[.val (.ref a), .val (.int pm), .val (.long (0 : Int64)), .second, .val (.ref b16), .val (.long (5 : Int64)), .second] [(.int (((5 : Int64) - ((5 : Int64) / (zk.toInt64)) * (zk.toInt64)).toInt32)), (.ref kp), (.int (5 : Int32)), (.ref b16)]) := r134.trans fun z_ kt => by
                  refine X134.arraylength hx (by rw [e134]; exact Ar136.1) (State.isArrayOf_alike hZ.alike Ar136.2.1) (g := (mkF m 74 #[.val (.ref a), .val (.int pm), .val (.long (0 : Int64)), .second, .val (.ref b16), .val (.long (5 : Int64)), .second] [(.ref kp), (.long (5 : Int64)), (.ref kp), (.int (5 : Int32)), (.ref b16)])) rfl rfl (hb hby d14_74) _ ?_
                  rw [len_of S136 M136]
                  refine XS.i2l X134.here hx rfl (hb hby d14_75) rfl ?_
                  refine XS.lrem X134.here hx rfl (hb hby d14_76) rfl (own_zne hk.2.1) ?_
                  refine XS.l2i X134.here hx rfl (hb hby d14_77) rfl ?_
                  exact kt
                rw [show (((5 : Int64) - ((5 : Int64) / (zk.toInt64)) * (zk.toInt64)).toInt32) = (5 : Int32) from own_ixl hk.2.1 (by decide) (by decide)] at r137
                obtain ⟨cl138, Ar138, q138, S138, M138, H138, G138⟩ := id f135
                obtain ⟨y5, hy5, Ey5⟩ := hst.2 5 hi5
                have Eyn5 := Ey5
                have hin138 : ¬ ((5 : Int32) < 0 ∨ cl138.slots.size ≤ ((5 : Int32)).toNatClampNeg) := inb_of S138 ⟨by decide, own_lt_of hk.2.1 (by decide)⟩
                have hat138 : cl138.slots[((5 : Int32)).toNatClampNeg]? = some (.ref y5) := Has.at H138 hin138 hy5
                have Vp139 : Arv Z h121 b16 k16 (.object "java/lang/String") nl [(.ref y0), (.ref y1), (.ref y2), (.ref y3), (.ref y4), .null] .null := V121.pad (pad_rep [(.ref y0), (.ref y1), (.ref y2), (.ref y3), (.ref y4)] .null 1)
                obtain ⟨cl139, Ar139, q139, S139, M139, H139, G139⟩ := id Vp139
                have hin139 : ¬ ((5 : Int32) < 0 ∨ cl139.slots.size ≤ ((5 : Int32)).toNatClampNeg) := inb_of S139 ⟨by decide, own_lt_of hN.2.2.2 (by decide)⟩
                have f140 := ((((((Ey5.ext E16).wr W37).wr W58).wr W79).wr W100).wr W121)
                have r141 : own_R p e below _ _ T134 (mkF m 79 #[.val (.ref a), .val (.int pm), .val (.long (0 : Int64)), .second, .val (.ref b16), .val (.long (5 : Int64)), .second] [(.ref y5), (.int (5 : Int32)), (.ref b16)]) := r137.trans fun z_ kt => by
                  refine X134.aaload hx (j := (5 : Int32)) (v := (.ref y5)) (by rw [e134]; exact Ar138.1) (State.isArrayOf_alike hZ.alike Ar138.2.1) rfl Ar138.2.2 hin138 hat138 (g := (mkF m 78 #[.val (.ref a), .val (.int pm), .val (.long (0 : Int64)), .second, .val (.ref b16), .val (.long (5 : Int64)), .second] [(.int (5 : Int32)), (.ref kp), (.int (5 : Int32)), (.ref b16)])) rfl rfl (hb hby d14_78) _ ?_
                  exact kt
                obtain ⟨T142, h142, X142, e142, W142, st142⟩ := stR X134 hx hZ e134 Ar139 (j := (5 : Int32)) hin139 rfl (Sto.ofV Ar139 q139 Ov16 (Ins.self f140)) (g := (mkF m 79 #[.val (.ref a), .val (.int pm), .val (.long (0 : Int64)), .second, .val (.ref b16), .val (.long (5 : Int64)), .second] [(.ref y5), (.int (5 : Int32)), (.ref b16)])) rfl rfl (hb hby d14_79)
                have r142 : own_R p e below _ _ T142 (mkF m 80 #[.val (.ref a), .val (.int pm), .val (.long (0 : Int64)), .second, .val (.ref b16), .val (.long (5 : Int64)), .second] []) := r141.trans fun z_ kt => st142 _ kt
                have N142 := Fr.snoc X142 N121 g_b16
                have O142 := O121.wr W142 g_b16
                have K142 := K121.wr W142 (Or.inr sz_b16)
                have V142 : Arv Z h142 b16 k16 (.object "java/lang/String") nl [(.ref y0), (.ref y1), (.ref y2), (.ref y3), (.ref y4), (.ref y5)] .null := Arv.set Ar139 q139 S139 M139 H139 G139 rfl W142 5 rfl (Nat.le_of_ble_eq_true rfl)
                have f143 := (f122.other W142 (Or.inl ne_a_b16))
                have r144 : own_R p e below _ _ T142 (mkF m 47 #[.val (.ref a), .val (.int pm), .val (.long (0 : Int64)), .second, .val (.ref b16), .val (.long (6 : Int64)), .second] [(.ref a), (.long (6 : Int64))]) := r142.trans fun z_ kt => by
                  refine XS.lload X142.here hx rfl (hb hby d14_80) rfl ?_
                  refine XS.lconst X142.here hx rfl (hb hby d14_82) ?_
                  refine XS.ladd X142.here hx rfl (hb hby d14_83) rfl ?_
                  refine XS.lstore X142.here hx rfl (hb hby d14_84) rfl (l' := #[.val (.ref a), .val (.int pm), .val (.long (0 : Int64)), .second, .val (.ref b16), .val (.long (6 : Int64)), .second]) rfl ?_
                  refine XS.goto X142.here hx rfl (pc0 := 86) (pc' := 44) rfl (hb hby d14_86) (by decide) (by decide) ?_
                  refine XS.lload X142.here hx rfl (hb hby d14_44) rfl ?_
                  refine XS.aloadN X142.here hx rfl (hb hby d14_46) rfl rfl ?_
                  exact kt
                obtain ⟨T145, X145, e145, st145⟩ := getF X142 hx hZ hown (host := "") (Or.inl (hw _ (own_g (i := 115) rfl))) Via.refl e142 f143 (g := (mkF m 47 #[.val (.ref a), .val (.int pm), .val (.long (0 : Int64)), .second, .val (.ref b16), .val (.long (6 : Int64)), .second] [(.ref a), (.long (6 : Int64))])) rfl rfl (hb hby d14_47)
                have r145 : own_R p e below _ _ T145 (mkF m 50 #[.val (.ref a), .val (.int pm), .val (.long (0 : Int64)), .second, .val (.ref b16), .val (.long (6 : Int64)), .second] [(.long jc), (.long (6 : Int64))]) := r144.trans fun z_ kt => st145 _ kt
                have r146 : own_R p e below _ _ T145 (mkF m 51 #[.val (.ref a), .val (.int pm), .val (.long (0 : Int64)), .second, .val (.ref b16), .val (.long (6 : Int64)), .second] [(.int (lcmpW (6 : Int64) jc))]) := r145.trans fun z_ kt => by
                  refine XS.lcmp X145.here hx rfl (hb hby d14_50) rfl ?_
                  exact kt
                by_cases hc51_147 : (lcmpW (6 : Int64) jc) < (0 : Int32)
                · skip
                  exact absurd hc51_147 (own_six hvl hk)
                · skip
                  have f148 := (f130.other W142 (Or.inl ne_a_b16))
                  have f149 := (((((((E_a.ext E16).wr W37).wr W58).wr W79).wr W100).wr W121).wr W142)
                  have r150 : own_R p e below _ _ T145 (mkF m 92 #[.val (.ref a), .val (.int pm), .val (.long (0 : Int64)), .second, .val (.ref b16), .val (.long (6 : Int64)), .second] [(.ref b16), (.ref a)]) := r146.trans fun z_ kt => by
                    refine XS.ifYes X145.here hx rfl (pc0 := 51) (pc' := 89) rfl (hb hby d14_51) rfl ((if0 _ _).trans (flt (hc51_147 : ¬ ((lcmpW (6 : Int64) jc) < (0 : Int32)))).2.1) (by decide) (by decide) ?_
                    refine XS.aloadN X145.here hx rfl (hb hby d14_89) rfl rfl ?_
                    refine XS.aload X145.here hx rfl (hb hby d14_90) rfl rfl ?_
                    exact kt
                  obtain ⟨T151, h151, X151, e151, W151, st151⟩ := putF X145 hx hZ hown (host := "") (Or.inl (hw _ (own_g (i := 60) rfl))) Via.refl e145 f148 f149 (Or.inl (hw _ (own_g (i := 61) rfl))) (hw _ (own_g (i := 53) rfl)) (ty := (.array (.object "java/lang/String"))) (v := (.ref b16)) (by decide) rfl rfl (g := (mkF m 92 #[.val (.ref a), .val (.int pm), .val (.long (0 : Int64)), .second, .val (.ref b16), .val (.long (6 : Int64)), .second] [(.ref b16), (.ref a)])) rfl rfl (hb hby d14_92)
                  have r151 : own_R p e below _ _ T151 (mkF m 95 #[.val (.ref a), .val (.int pm), .val (.long (0 : Int64)), .second, .val (.ref b16), .val (.long (6 : Int64)), .second] []) := r150.trans fun z_ kt => st151 _ kt
                  have N151 := Fr.snoc X151 N142 g_a
                  have O151 := O142.wr W151 g_a
                  have K151 := K142.wr W151 (Or.inl (List.mem_of_getElem? (i := 0) rfl))
                  have F151 := f148.same W151
                  have f152 := ((((((((F_a_forgottenOnGrowth.ext E16).other W37 (Or.inl ne_a_b16)).other W58 (Or.inl ne_a_b16)).other W79 (Or.inl ne_a_b16)).other W100 (Or.inl ne_a_b16)).other W121 (Or.inl ne_a_b16)).other W142 (Or.inl ne_a_b16)).other W151 (Or.inr (slot_ne (Or.inl (hw _ (own_g (i := 127) rfl))) (Or.inl (hw _ (own_g (i := 61) rfl))) (by decide) (t := .long) (t' := (.array (.object "java/lang/String"))) (by decide) (by decide))))
                  have f153 := (f149.wr W151)
                  have r154 : own_R p e below _ _ T151 (mkF m 97 #[.val (.ref a), .val (.int pm), .val (.long (0 : Int64)), .second, .val (.ref b16), .val (.long (6 : Int64)), .second] [(.long (0 : Int64)), (.ref a)]) := r151.trans fun z_ kt => by
                    refine XS.aloadN X151.here hx rfl (hb hby d14_95) rfl rfl ?_
                    refine XS.lloadN X151.here hx rfl (hb hby d14_96) rfl ?_
                    exact kt
                  obtain ⟨T155, h155, X155, e155, W155, st155⟩ := putF X151 hx hZ hown (host := "") (Or.inl (hw _ (own_g (i := 126) rfl))) Via.refl e151 f152 f153 (Or.inl (hw _ (own_g (i := 127) rfl))) (hw _ (own_g (i := 53) rfl)) (ty := .long) (v := (.long (0 : Int64))) (by decide) rfl rfl (g := (mkF m 97 #[.val (.ref a), .val (.int pm), .val (.long (0 : Int64)), .second, .val (.ref b16), .val (.long (6 : Int64)), .second] [(.long (0 : Int64)), (.ref a)])) rfl rfl (hb hby d14_97)
                  have r155 : own_R p e below _ _ T155 (mkF m 100 #[.val (.ref a), .val (.int pm), .val (.long (0 : Int64)), .second, .val (.ref b16), .val (.long (6 : Int64)), .second] []) := r154.trans fun z_ kt => st155 _ kt
                  have N155 := Fr.snoc X155 N151 g_a
                  have O155 := O151.wr W155 g_a
                  have K155 := K151.wr W155 (Or.inl (List.mem_of_getElem? (i := 0) rfl))
                  have F155 := f152.same W155
                  have f156 := (F151.other W155 (Or.inr (slot_ne (Or.inl (hw _ (own_g (i := 61) rfl))) (Or.inl (hw _ (own_g (i := 127) rfl))) (by decide) (t := (.array (.object "java/lang/String"))) (t' := .long) (by decide) (by decide))))
                  have f157 := ((V142.other W151 (Ne.symm ne_a_b16)).other W155 (Ne.symm ne_a_b16))
                  have f158 := ((f143.other W151 (Or.inr (slot_ne (Or.inl (hw _ (own_g (i := 116) rfl))) (Or.inl (hw _ (own_g (i := 61) rfl))) (by decide) (t := .long) (t' := (.array (.object "java/lang/String"))) (by decide) (by decide)))).other W155 (Or.inr (slot_ne (Or.inl (hw _ (own_g (i := 116) rfl))) (Or.inl (hw _ (own_g (i := 127) rfl))) (by decide) (t := .long) (t' := .long) (by decide) (by decide))))
                  obtain ⟨fs_, hr_, hrun_, hended_, hW_, hsame_⟩ := X155.leave (v := none) (fun _ => rfl)
                  refine ⟨_, _, pre0 _ (r155 _ ?_), hrun_, hended_, _, _, rfl, ?_, ⟨_, rfl⟩, hW_, hsame_.mono (by decide) (by decide)⟩
                  · exact X155.returnOut hx Bd.returns (hb hby d14_100) hr_
                  · show Q_keep Z a pm kp kk jc zk vs hi h0 n0 _ T155.heap _
                    rw [e155]
                    exact ⟨b16, k16, nl, rfl, N155, K155, Or.inr sz_b16, f156, f158, F155, (by
                      have e : vs = [(.ref y0), (.ref y1), (.ref y2), (.ref y3), (.ref y4), (.ref y5)] := own_vsG (own_leneq (n := 6) hvl hc51_147 hi5) (fun i hi => by
                      match i, hi with
                      | 0, _ => exact hy0
                      | 1, _ => exact hy1
                      | 2, _ => exact hy2
                      | 3, _ => exact hy3
                      | 4, _ => exact hy4
                      | 5, _ => exact hy5)
                      rw [e]
                      exact f157), Ov16, ⟨hN.2.2.2, hN.1.2⟩⟩
              · skip
                have f159 := (f109.other W121 (Or.inl ne_a_b16))
                have f160 := ((((((E_a.ext E16).wr W37).wr W58).wr W79).wr W100).wr W121)
                have r161 : own_R p e below _ _ T124 (mkF m 92 #[.val (.ref a), .val (.int pm), .val (.long (0 : Int64)), .second, .val (.ref b16), .val (.long (5 : Int64)), .second] [(.ref b16), (.ref a)]) := r125.trans fun z_ kt => by
                  refine XS.ifYes X124.here hx rfl (pc0 := 51) (pc' := 89) rfl (hb hby d14_51) rfl ((if0 _ _).trans (flt (hc51_126 : ¬ ((lcmpW (5 : Int64) jc) < (0 : Int32)))).2.1) (by decide) (by decide) ?_
                  refine XS.aloadN X124.here hx rfl (hb hby d14_89) rfl rfl ?_
                  refine XS.aload X124.here hx rfl (hb hby d14_90) rfl rfl ?_
                  exact kt
                obtain ⟨T162, h162, X162, e162, W162, st162⟩ := putF X124 hx hZ hown (host := "") (Or.inl (hw _ (own_g (i := 60) rfl))) Via.refl e124 f159 f160 (Or.inl (hw _ (own_g (i := 61) rfl))) (hw _ (own_g (i := 53) rfl)) (ty := (.array (.object "java/lang/String"))) (v := (.ref b16)) (by decide) rfl rfl (g := (mkF m 92 #[.val (.ref a), .val (.int pm), .val (.long (0 : Int64)), .second, .val (.ref b16), .val (.long (5 : Int64)), .second] [(.ref b16), (.ref a)])) rfl rfl (hb hby d14_92)
                have r162 : own_R p e below _ _ T162 (mkF m 95 #[.val (.ref a), .val (.int pm), .val (.long (0 : Int64)), .second, .val (.ref b16), .val (.long (5 : Int64)), .second] []) := r161.trans fun z_ kt => st162 _ kt
                have N162 := Fr.snoc X162 N121 g_a
                have O162 := O121.wr W162 g_a
                have K162 := K121.wr W162 (Or.inl (List.mem_of_getElem? (i := 0) rfl))
                have F162 := f159.same W162
                have f163 := (((((((F_a_forgottenOnGrowth.ext E16).other W37 (Or.inl ne_a_b16)).other W58 (Or.inl ne_a_b16)).other W79 (Or.inl ne_a_b16)).other W100 (Or.inl ne_a_b16)).other W121 (Or.inl ne_a_b16)).other W162 (Or.inr (slot_ne (Or.inl (hw _ (own_g (i := 127) rfl))) (Or.inl (hw _ (own_g (i := 61) rfl))) (by decide) (t := .long) (t' := (.array (.object "java/lang/String"))) (by decide) (by decide))))
                have f164 := (f160.wr W162)
                have r165 : own_R p e below _ _ T162 (mkF m 97 #[.val (.ref a), .val (.int pm), .val (.long (0 : Int64)), .second, .val (.ref b16), .val (.long (5 : Int64)), .second] [(.long (0 : Int64)), (.ref a)]) := r162.trans fun z_ kt => by
                  refine XS.aloadN X162.here hx rfl (hb hby d14_95) rfl rfl ?_
                  refine XS.lloadN X162.here hx rfl (hb hby d14_96) rfl ?_
                  exact kt
                obtain ⟨T166, h166, X166, e166, W166, st166⟩ := putF X162 hx hZ hown (host := "") (Or.inl (hw _ (own_g (i := 126) rfl))) Via.refl e162 f163 f164 (Or.inl (hw _ (own_g (i := 127) rfl))) (hw _ (own_g (i := 53) rfl)) (ty := .long) (v := (.long (0 : Int64))) (by decide) rfl rfl (g := (mkF m 97 #[.val (.ref a), .val (.int pm), .val (.long (0 : Int64)), .second, .val (.ref b16), .val (.long (5 : Int64)), .second] [(.long (0 : Int64)), (.ref a)])) rfl rfl (hb hby d14_97)
                have r166 : own_R p e below _ _ T166 (mkF m 100 #[.val (.ref a), .val (.int pm), .val (.long (0 : Int64)), .second, .val (.ref b16), .val (.long (5 : Int64)), .second] []) := r165.trans fun z_ kt => st166 _ kt
                have N166 := Fr.snoc X166 N162 g_a
                have O166 := O162.wr W166 g_a
                have K166 := K162.wr W166 (Or.inl (List.mem_of_getElem? (i := 0) rfl))
                have F166 := f163.same W166
                have f167 := (F162.other W166 (Or.inr (slot_ne (Or.inl (hw _ (own_g (i := 61) rfl))) (Or.inl (hw _ (own_g (i := 127) rfl))) (by decide) (t := (.array (.object "java/lang/String"))) (t' := .long) (by decide) (by decide))))
                have f168 := ((V121.other W162 (Ne.symm ne_a_b16)).other W166 (Ne.symm ne_a_b16))
                have f169 := ((f122.other W162 (Or.inr (slot_ne (Or.inl (hw _ (own_g (i := 116) rfl))) (Or.inl (hw _ (own_g (i := 61) rfl))) (by decide) (t := .long) (t' := (.array (.object "java/lang/String"))) (by decide) (by decide)))).other W166 (Or.inr (slot_ne (Or.inl (hw _ (own_g (i := 116) rfl))) (Or.inl (hw _ (own_g (i := 127) rfl))) (by decide) (t := .long) (t' := .long) (by decide) (by decide))))
                obtain ⟨fs_, hr_, hrun_, hended_, hW_, hsame_⟩ := X166.leave (v := none) (fun _ => rfl)
                refine ⟨_, _, pre0 _ (r166 _ ?_), hrun_, hended_, _, _, rfl, ?_, ⟨_, rfl⟩, hW_, hsame_.mono (by decide) (by decide)⟩
                · exact X166.returnOut hx Bd.returns (hb hby d14_100) hr_
                · show Q_keep Z a pm kp kk jc zk vs hi h0 n0 _ T166.heap _
                  rw [e166]
                  exact ⟨b16, k16, nl, rfl, N166, K166, Or.inr sz_b16, f167, f169, F166, (by
                    have e : vs = [(.ref y0), (.ref y1), (.ref y2), (.ref y3), (.ref y4)] := own_vsG (own_leneq (n := 5) hvl hc51_126 hi4) (fun i hi => by
                    match i, hi with
                    | 0, _ => exact hy0
                    | 1, _ => exact hy1
                    | 2, _ => exact hy2
                    | 3, _ => exact hy3
                    | 4, _ => exact hy4)
                    rw [e]
                    exact f168), Ov16, ⟨hN.2.2.2, hN.1.2⟩⟩
            · skip
              have f170 := (f88.other W100 (Or.inl ne_a_b16))
              have f171 := (((((E_a.ext E16).wr W37).wr W58).wr W79).wr W100)
              have r172 : own_R p e below _ _ T103 (mkF m 92 #[.val (.ref a), .val (.int pm), .val (.long (0 : Int64)), .second, .val (.ref b16), .val (.long (4 : Int64)), .second] [(.ref b16), (.ref a)]) := r104.trans fun z_ kt => by
                refine XS.ifYes X103.here hx rfl (pc0 := 51) (pc' := 89) rfl (hb hby d14_51) rfl ((if0 _ _).trans (flt (hc51_105 : ¬ ((lcmpW (4 : Int64) jc) < (0 : Int32)))).2.1) (by decide) (by decide) ?_
                refine XS.aloadN X103.here hx rfl (hb hby d14_89) rfl rfl ?_
                refine XS.aload X103.here hx rfl (hb hby d14_90) rfl rfl ?_
                exact kt
              obtain ⟨T173, h173, X173, e173, W173, st173⟩ := putF X103 hx hZ hown (host := "") (Or.inl (hw _ (own_g (i := 60) rfl))) Via.refl e103 f170 f171 (Or.inl (hw _ (own_g (i := 61) rfl))) (hw _ (own_g (i := 53) rfl)) (ty := (.array (.object "java/lang/String"))) (v := (.ref b16)) (by decide) rfl rfl (g := (mkF m 92 #[.val (.ref a), .val (.int pm), .val (.long (0 : Int64)), .second, .val (.ref b16), .val (.long (4 : Int64)), .second] [(.ref b16), (.ref a)])) rfl rfl (hb hby d14_92)
              have r173 : own_R p e below _ _ T173 (mkF m 95 #[.val (.ref a), .val (.int pm), .val (.long (0 : Int64)), .second, .val (.ref b16), .val (.long (4 : Int64)), .second] []) := r172.trans fun z_ kt => st173 _ kt
              have N173 := Fr.snoc X173 N100 g_a
              have O173 := O100.wr W173 g_a
              have K173 := K100.wr W173 (Or.inl (List.mem_of_getElem? (i := 0) rfl))
              have F173 := f170.same W173
              have f174 := ((((((F_a_forgottenOnGrowth.ext E16).other W37 (Or.inl ne_a_b16)).other W58 (Or.inl ne_a_b16)).other W79 (Or.inl ne_a_b16)).other W100 (Or.inl ne_a_b16)).other W173 (Or.inr (slot_ne (Or.inl (hw _ (own_g (i := 127) rfl))) (Or.inl (hw _ (own_g (i := 61) rfl))) (by decide) (t := .long) (t' := (.array (.object "java/lang/String"))) (by decide) (by decide))))
              have f175 := (f171.wr W173)
              have r176 : own_R p e below _ _ T173 (mkF m 97 #[.val (.ref a), .val (.int pm), .val (.long (0 : Int64)), .second, .val (.ref b16), .val (.long (4 : Int64)), .second] [(.long (0 : Int64)), (.ref a)]) := r173.trans fun z_ kt => by
                refine XS.aloadN X173.here hx rfl (hb hby d14_95) rfl rfl ?_
                refine XS.lloadN X173.here hx rfl (hb hby d14_96) rfl ?_
                exact kt
              obtain ⟨T177, h177, X177, e177, W177, st177⟩ := putF X173 hx hZ hown (host := "") (Or.inl (hw _ (own_g (i := 126) rfl))) Via.refl e173 f174 f175 (Or.inl (hw _ (own_g (i := 127) rfl))) (hw _ (own_g (i := 53) rfl)) (ty := .long) (v := (.long (0 : Int64))) (by decide) rfl rfl (g := (mkF m 97 #[.val (.ref a), .val (.int pm), .val (.long (0 : Int64)), .second, .val (.ref b16), .val (.long (4 : Int64)), .second] [(.long (0 : Int64)), (.ref a)])) rfl rfl (hb hby d14_97)
              have r177 : own_R p e below _ _ T177 (mkF m 100 #[.val (.ref a), .val (.int pm), .val (.long (0 : Int64)), .second, .val (.ref b16), .val (.long (4 : Int64)), .second] []) := r176.trans fun z_ kt => st177 _ kt
              have N177 := Fr.snoc X177 N173 g_a
              have O177 := O173.wr W177 g_a
              have K177 := K173.wr W177 (Or.inl (List.mem_of_getElem? (i := 0) rfl))
              have F177 := f174.same W177
              have f178 := (F173.other W177 (Or.inr (slot_ne (Or.inl (hw _ (own_g (i := 61) rfl))) (Or.inl (hw _ (own_g (i := 127) rfl))) (by decide) (t := (.array (.object "java/lang/String"))) (t' := .long) (by decide) (by decide))))
              have f179 := ((V100.other W173 (Ne.symm ne_a_b16)).other W177 (Ne.symm ne_a_b16))
              have f180 := ((f101.other W173 (Or.inr (slot_ne (Or.inl (hw _ (own_g (i := 116) rfl))) (Or.inl (hw _ (own_g (i := 61) rfl))) (by decide) (t := .long) (t' := (.array (.object "java/lang/String"))) (by decide) (by decide)))).other W177 (Or.inr (slot_ne (Or.inl (hw _ (own_g (i := 116) rfl))) (Or.inl (hw _ (own_g (i := 127) rfl))) (by decide) (t := .long) (t' := .long) (by decide) (by decide))))
              obtain ⟨fs_, hr_, hrun_, hended_, hW_, hsame_⟩ := X177.leave (v := none) (fun _ => rfl)
              refine ⟨_, _, pre0 _ (r177 _ ?_), hrun_, hended_, _, _, rfl, ?_, ⟨_, rfl⟩, hW_, hsame_.mono (by decide) (by decide)⟩
              · exact X177.returnOut hx Bd.returns (hb hby d14_100) hr_
              · show Q_keep Z a pm kp kk jc zk vs hi h0 n0 _ T177.heap _
                rw [e177]
                exact ⟨b16, k16, nl, rfl, N177, K177, Or.inr sz_b16, f178, f180, F177, (by
                  have e : vs = [(.ref y0), (.ref y1), (.ref y2), (.ref y3)] := own_vsG (own_leneq (n := 4) hvl hc51_105 hi3) (fun i hi => by
                  match i, hi with
                  | 0, _ => exact hy0
                  | 1, _ => exact hy1
                  | 2, _ => exact hy2
                  | 3, _ => exact hy3)
                  rw [e]
                  exact f179), Ov16, ⟨hN.2.2.2, hN.1.2⟩⟩
          · skip
            have f181 := (f67.other W79 (Or.inl ne_a_b16))
            have f182 := ((((E_a.ext E16).wr W37).wr W58).wr W79)
            have r183 : own_R p e below _ _ T82 (mkF m 92 #[.val (.ref a), .val (.int pm), .val (.long (0 : Int64)), .second, .val (.ref b16), .val (.long (3 : Int64)), .second] [(.ref b16), (.ref a)]) := r83.trans fun z_ kt => by
              refine XS.ifYes X82.here hx rfl (pc0 := 51) (pc' := 89) rfl (hb hby d14_51) rfl ((if0 _ _).trans (flt (hc51_84 : ¬ ((lcmpW (3 : Int64) jc) < (0 : Int32)))).2.1) (by decide) (by decide) ?_
              refine XS.aloadN X82.here hx rfl (hb hby d14_89) rfl rfl ?_
              refine XS.aload X82.here hx rfl (hb hby d14_90) rfl rfl ?_
              exact kt
            obtain ⟨T184, h184, X184, e184, W184, st184⟩ := putF X82 hx hZ hown (host := "") (Or.inl (hw _ (own_g (i := 60) rfl))) Via.refl e82 f181 f182 (Or.inl (hw _ (own_g (i := 61) rfl))) (hw _ (own_g (i := 53) rfl)) (ty := (.array (.object "java/lang/String"))) (v := (.ref b16)) (by decide) rfl rfl (g := (mkF m 92 #[.val (.ref a), .val (.int pm), .val (.long (0 : Int64)), .second, .val (.ref b16), .val (.long (3 : Int64)), .second] [(.ref b16), (.ref a)])) rfl rfl (hb hby d14_92)
            have r184 : own_R p e below _ _ T184 (mkF m 95 #[.val (.ref a), .val (.int pm), .val (.long (0 : Int64)), .second, .val (.ref b16), .val (.long (3 : Int64)), .second] []) := r183.trans fun z_ kt => st184 _ kt
            have N184 := Fr.snoc X184 N79 g_a
            have O184 := O79.wr W184 g_a
            have K184 := K79.wr W184 (Or.inl (List.mem_of_getElem? (i := 0) rfl))
            have F184 := f181.same W184
            have f185 := (((((F_a_forgottenOnGrowth.ext E16).other W37 (Or.inl ne_a_b16)).other W58 (Or.inl ne_a_b16)).other W79 (Or.inl ne_a_b16)).other W184 (Or.inr (slot_ne (Or.inl (hw _ (own_g (i := 127) rfl))) (Or.inl (hw _ (own_g (i := 61) rfl))) (by decide) (t := .long) (t' := (.array (.object "java/lang/String"))) (by decide) (by decide))))
            have f186 := (f182.wr W184)
            have r187 : own_R p e below _ _ T184 (mkF m 97 #[.val (.ref a), .val (.int pm), .val (.long (0 : Int64)), .second, .val (.ref b16), .val (.long (3 : Int64)), .second] [(.long (0 : Int64)), (.ref a)]) := r184.trans fun z_ kt => by
              refine XS.aloadN X184.here hx rfl (hb hby d14_95) rfl rfl ?_
              refine XS.lloadN X184.here hx rfl (hb hby d14_96) rfl ?_
              exact kt
            obtain ⟨T188, h188, X188, e188, W188, st188⟩ := putF X184 hx hZ hown (host := "") (Or.inl (hw _ (own_g (i := 126) rfl))) Via.refl e184 f185 f186 (Or.inl (hw _ (own_g (i := 127) rfl))) (hw _ (own_g (i := 53) rfl)) (ty := .long) (v := (.long (0 : Int64))) (by decide) rfl rfl (g := (mkF m 97 #[.val (.ref a), .val (.int pm), .val (.long (0 : Int64)), .second, .val (.ref b16), .val (.long (3 : Int64)), .second] [(.long (0 : Int64)), (.ref a)])) rfl rfl (hb hby d14_97)
            have r188 : own_R p e below _ _ T188 (mkF m 100 #[.val (.ref a), .val (.int pm), .val (.long (0 : Int64)), .second, .val (.ref b16), .val (.long (3 : Int64)), .second] []) := r187.trans fun z_ kt => st188 _ kt
            have N188 := Fr.snoc X188 N184 g_a
            have O188 := O184.wr W188 g_a
            have K188 := K184.wr W188 (Or.inl (List.mem_of_getElem? (i := 0) rfl))
            have F188 := f185.same W188
            have f189 := (F184.other W188 (Or.inr (slot_ne (Or.inl (hw _ (own_g (i := 61) rfl))) (Or.inl (hw _ (own_g (i := 127) rfl))) (by decide) (t := (.array (.object "java/lang/String"))) (t' := .long) (by decide) (by decide))))
            have f190 := ((V79.other W184 (Ne.symm ne_a_b16)).other W188 (Ne.symm ne_a_b16))
            have f191 := ((f80.other W184 (Or.inr (slot_ne (Or.inl (hw _ (own_g (i := 116) rfl))) (Or.inl (hw _ (own_g (i := 61) rfl))) (by decide) (t := .long) (t' := (.array (.object "java/lang/String"))) (by decide) (by decide)))).other W188 (Or.inr (slot_ne (Or.inl (hw _ (own_g (i := 116) rfl))) (Or.inl (hw _ (own_g (i := 127) rfl))) (by decide) (t := .long) (t' := .long) (by decide) (by decide))))
            obtain ⟨fs_, hr_, hrun_, hended_, hW_, hsame_⟩ := X188.leave (v := none) (fun _ => rfl)
            refine ⟨_, _, pre0 _ (r188 _ ?_), hrun_, hended_, _, _, rfl, ?_, ⟨_, rfl⟩, hW_, hsame_.mono (by decide) (by decide)⟩
            · exact X188.returnOut hx Bd.returns (hb hby d14_100) hr_
            · show Q_keep Z a pm kp kk jc zk vs hi h0 n0 _ T188.heap _
              rw [e188]
              exact ⟨b16, k16, nl, rfl, N188, K188, Or.inr sz_b16, f189, f191, F188, (by
                have e : vs = [(.ref y0), (.ref y1), (.ref y2)] := own_vsG (own_leneq (n := 3) hvl hc51_84 hi2) (fun i hi => by
                match i, hi with
                | 0, _ => exact hy0
                | 1, _ => exact hy1
                | 2, _ => exact hy2)
                rw [e]
                exact f190), Ov16, ⟨hN.2.2.2, hN.1.2⟩⟩
        · skip
          have f192 := (f46.other W58 (Or.inl ne_a_b16))
          have f193 := (((E_a.ext E16).wr W37).wr W58)
          have r194 : own_R p e below _ _ T61 (mkF m 92 #[.val (.ref a), .val (.int pm), .val (.long (0 : Int64)), .second, .val (.ref b16), .val (.long (2 : Int64)), .second] [(.ref b16), (.ref a)]) := r62.trans fun z_ kt => by
            refine XS.ifYes X61.here hx rfl (pc0 := 51) (pc' := 89) rfl (hb hby d14_51) rfl ((if0 _ _).trans (flt (hc51_63 : ¬ ((lcmpW (2 : Int64) jc) < (0 : Int32)))).2.1) (by decide) (by decide) ?_
            refine XS.aloadN X61.here hx rfl (hb hby d14_89) rfl rfl ?_
            refine XS.aload X61.here hx rfl (hb hby d14_90) rfl rfl ?_
            exact kt
          obtain ⟨T195, h195, X195, e195, W195, st195⟩ := putF X61 hx hZ hown (host := "") (Or.inl (hw _ (own_g (i := 60) rfl))) Via.refl e61 f192 f193 (Or.inl (hw _ (own_g (i := 61) rfl))) (hw _ (own_g (i := 53) rfl)) (ty := (.array (.object "java/lang/String"))) (v := (.ref b16)) (by decide) rfl rfl (g := (mkF m 92 #[.val (.ref a), .val (.int pm), .val (.long (0 : Int64)), .second, .val (.ref b16), .val (.long (2 : Int64)), .second] [(.ref b16), (.ref a)])) rfl rfl (hb hby d14_92)
          have r195 : own_R p e below _ _ T195 (mkF m 95 #[.val (.ref a), .val (.int pm), .val (.long (0 : Int64)), .second, .val (.ref b16), .val (.long (2 : Int64)), .second] []) := r194.trans fun z_ kt => st195 _ kt
          have N195 := Fr.snoc X195 N58 g_a
          have O195 := O58.wr W195 g_a
          have K195 := K58.wr W195 (Or.inl (List.mem_of_getElem? (i := 0) rfl))
          have F195 := f192.same W195
          have f196 := ((((F_a_forgottenOnGrowth.ext E16).other W37 (Or.inl ne_a_b16)).other W58 (Or.inl ne_a_b16)).other W195 (Or.inr (slot_ne (Or.inl (hw _ (own_g (i := 127) rfl))) (Or.inl (hw _ (own_g (i := 61) rfl))) (by decide) (t := .long) (t' := (.array (.object "java/lang/String"))) (by decide) (by decide))))
          have f197 := (f193.wr W195)
          have r198 : own_R p e below _ _ T195 (mkF m 97 #[.val (.ref a), .val (.int pm), .val (.long (0 : Int64)), .second, .val (.ref b16), .val (.long (2 : Int64)), .second] [(.long (0 : Int64)), (.ref a)]) := r195.trans fun z_ kt => by
            refine XS.aloadN X195.here hx rfl (hb hby d14_95) rfl rfl ?_
            refine XS.lloadN X195.here hx rfl (hb hby d14_96) rfl ?_
            exact kt
          obtain ⟨T199, h199, X199, e199, W199, st199⟩ := putF X195 hx hZ hown (host := "") (Or.inl (hw _ (own_g (i := 126) rfl))) Via.refl e195 f196 f197 (Or.inl (hw _ (own_g (i := 127) rfl))) (hw _ (own_g (i := 53) rfl)) (ty := .long) (v := (.long (0 : Int64))) (by decide) rfl rfl (g := (mkF m 97 #[.val (.ref a), .val (.int pm), .val (.long (0 : Int64)), .second, .val (.ref b16), .val (.long (2 : Int64)), .second] [(.long (0 : Int64)), (.ref a)])) rfl rfl (hb hby d14_97)
          have r199 : own_R p e below _ _ T199 (mkF m 100 #[.val (.ref a), .val (.int pm), .val (.long (0 : Int64)), .second, .val (.ref b16), .val (.long (2 : Int64)), .second] []) := r198.trans fun z_ kt => st199 _ kt
          have N199 := Fr.snoc X199 N195 g_a
          have O199 := O195.wr W199 g_a
          have K199 := K195.wr W199 (Or.inl (List.mem_of_getElem? (i := 0) rfl))
          have F199 := f196.same W199
          have f200 := (F195.other W199 (Or.inr (slot_ne (Or.inl (hw _ (own_g (i := 61) rfl))) (Or.inl (hw _ (own_g (i := 127) rfl))) (by decide) (t := (.array (.object "java/lang/String"))) (t' := .long) (by decide) (by decide))))
          have f201 := ((V58.other W195 (Ne.symm ne_a_b16)).other W199 (Ne.symm ne_a_b16))
          have f202 := ((f59.other W195 (Or.inr (slot_ne (Or.inl (hw _ (own_g (i := 116) rfl))) (Or.inl (hw _ (own_g (i := 61) rfl))) (by decide) (t := .long) (t' := (.array (.object "java/lang/String"))) (by decide) (by decide)))).other W199 (Or.inr (slot_ne (Or.inl (hw _ (own_g (i := 116) rfl))) (Or.inl (hw _ (own_g (i := 127) rfl))) (by decide) (t := .long) (t' := .long) (by decide) (by decide))))
          obtain ⟨fs_, hr_, hrun_, hended_, hW_, hsame_⟩ := X199.leave (v := none) (fun _ => rfl)
          refine ⟨_, _, pre0 _ (r199 _ ?_), hrun_, hended_, _, _, rfl, ?_, ⟨_, rfl⟩, hW_, hsame_.mono (by decide) (by decide)⟩
          · exact X199.returnOut hx Bd.returns (hb hby d14_100) hr_
          · show Q_keep Z a pm kp kk jc zk vs hi h0 n0 _ T199.heap _
            rw [e199]
            exact ⟨b16, k16, nl, rfl, N199, K199, Or.inr sz_b16, f200, f202, F199, (by
              have e : vs = [(.ref y0), (.ref y1)] := own_vsG (own_leneq (n := 2) hvl hc51_63 hi1) (fun i hi => by
              match i, hi with
              | 0, _ => exact hy0
              | 1, _ => exact hy1)
              rw [e]
              exact f201), Ov16, ⟨hN.2.2.2, hN.1.2⟩⟩
      · skip
        have f203 := (f25.other W37 (Or.inl ne_a_b16))
        have f204 := ((E_a.ext E16).wr W37)
        have r205 : own_R p e below _ _ T40 (mkF m 92 #[.val (.ref a), .val (.int pm), .val (.long (0 : Int64)), .second, .val (.ref b16), .val (.long (1 : Int64)), .second] [(.ref b16), (.ref a)]) := r41.trans fun z_ kt => by
          refine XS.ifYes X40.here hx rfl (pc0 := 51) (pc' := 89) rfl (hb hby d14_51) rfl ((if0 _ _).trans (flt (hc51_42 : ¬ ((lcmpW (1 : Int64) jc) < (0 : Int32)))).2.1) (by decide) (by decide) ?_
          refine XS.aloadN X40.here hx rfl (hb hby d14_89) rfl rfl ?_
          refine XS.aload X40.here hx rfl (hb hby d14_90) rfl rfl ?_
          exact kt
        obtain ⟨T206, h206, X206, e206, W206, st206⟩ := putF X40 hx hZ hown (host := "") (Or.inl (hw _ (own_g (i := 60) rfl))) Via.refl e40 f203 f204 (Or.inl (hw _ (own_g (i := 61) rfl))) (hw _ (own_g (i := 53) rfl)) (ty := (.array (.object "java/lang/String"))) (v := (.ref b16)) (by decide) rfl rfl (g := (mkF m 92 #[.val (.ref a), .val (.int pm), .val (.long (0 : Int64)), .second, .val (.ref b16), .val (.long (1 : Int64)), .second] [(.ref b16), (.ref a)])) rfl rfl (hb hby d14_92)
        have r206 : own_R p e below _ _ T206 (mkF m 95 #[.val (.ref a), .val (.int pm), .val (.long (0 : Int64)), .second, .val (.ref b16), .val (.long (1 : Int64)), .second] []) := r205.trans fun z_ kt => st206 _ kt
        have N206 := Fr.snoc X206 N37 g_a
        have O206 := O37.wr W206 g_a
        have K206 := K37.wr W206 (Or.inl (List.mem_of_getElem? (i := 0) rfl))
        have F206 := f203.same W206
        have f207 := (((F_a_forgottenOnGrowth.ext E16).other W37 (Or.inl ne_a_b16)).other W206 (Or.inr (slot_ne (Or.inl (hw _ (own_g (i := 127) rfl))) (Or.inl (hw _ (own_g (i := 61) rfl))) (by decide) (t := .long) (t' := (.array (.object "java/lang/String"))) (by decide) (by decide))))
        have f208 := (f204.wr W206)
        have r209 : own_R p e below _ _ T206 (mkF m 97 #[.val (.ref a), .val (.int pm), .val (.long (0 : Int64)), .second, .val (.ref b16), .val (.long (1 : Int64)), .second] [(.long (0 : Int64)), (.ref a)]) := r206.trans fun z_ kt => by
          refine XS.aloadN X206.here hx rfl (hb hby d14_95) rfl rfl ?_
          refine XS.lloadN X206.here hx rfl (hb hby d14_96) rfl ?_
          exact kt
        obtain ⟨T210, h210, X210, e210, W210, st210⟩ := putF X206 hx hZ hown (host := "") (Or.inl (hw _ (own_g (i := 126) rfl))) Via.refl e206 f207 f208 (Or.inl (hw _ (own_g (i := 127) rfl))) (hw _ (own_g (i := 53) rfl)) (ty := .long) (v := (.long (0 : Int64))) (by decide) rfl rfl (g := (mkF m 97 #[.val (.ref a), .val (.int pm), .val (.long (0 : Int64)), .second, .val (.ref b16), .val (.long (1 : Int64)), .second] [(.long (0 : Int64)), (.ref a)])) rfl rfl (hb hby d14_97)
        have r210 : own_R p e below _ _ T210 (mkF m 100 #[.val (.ref a), .val (.int pm), .val (.long (0 : Int64)), .second, .val (.ref b16), .val (.long (1 : Int64)), .second] []) := r209.trans fun z_ kt => st210 _ kt
        have N210 := Fr.snoc X210 N206 g_a
        have O210 := O206.wr W210 g_a
        have K210 := K206.wr W210 (Or.inl (List.mem_of_getElem? (i := 0) rfl))
        have F210 := f207.same W210
        have f211 := (F206.other W210 (Or.inr (slot_ne (Or.inl (hw _ (own_g (i := 61) rfl))) (Or.inl (hw _ (own_g (i := 127) rfl))) (by decide) (t := (.array (.object "java/lang/String"))) (t' := .long) (by decide) (by decide))))
        have f212 := ((V37.other W206 (Ne.symm ne_a_b16)).other W210 (Ne.symm ne_a_b16))
        have f213 := ((f38.other W206 (Or.inr (slot_ne (Or.inl (hw _ (own_g (i := 116) rfl))) (Or.inl (hw _ (own_g (i := 61) rfl))) (by decide) (t := .long) (t' := (.array (.object "java/lang/String"))) (by decide) (by decide)))).other W210 (Or.inr (slot_ne (Or.inl (hw _ (own_g (i := 116) rfl))) (Or.inl (hw _ (own_g (i := 127) rfl))) (by decide) (t := .long) (t' := .long) (by decide) (by decide))))
        obtain ⟨fs_, hr_, hrun_, hended_, hW_, hsame_⟩ := X210.leave (v := none) (fun _ => rfl)
        refine ⟨_, _, pre0 _ (r210 _ ?_), hrun_, hended_, _, _, rfl, ?_, ⟨_, rfl⟩, hW_, hsame_.mono (by decide) (by decide)⟩
        · exact X210.returnOut hx Bd.returns (hb hby d14_100) hr_
        · show Q_keep Z a pm kp kk jc zk vs hi h0 n0 _ T210.heap _
          rw [e210]
          exact ⟨b16, k16, nl, rfl, N210, K210, Or.inr sz_b16, f211, f213, F210, (by
            have e : vs = [(.ref y0)] := own_vsG (own_leneq (n := 1) hvl hc51_42 hi0) (fun i hi => by
            match i, hi with
            | 0, _ => exact hy0)
            rw [e]
            exact f212), Ov16, ⟨hN.2.2.2, hN.1.2⟩⟩
    · skip
      have f214 := (F_a_kept.ext E16)
      have f215 := (E_a.ext E16)
      have r216 : own_R p e below _ _ T19 (mkF m 92 #[.val (.ref a), .val (.int pm), .val (.long (0 : Int64)), .second, .val (.ref b16), .val (.long (0 : Int64)), .second] [(.ref b16), (.ref a)]) := r20.trans fun z_ kt => by
        refine XS.ifYes X19.here hx rfl (pc0 := 51) (pc' := 89) rfl (hb hby d14_51) rfl ((if0 _ _).trans (flt (hc51_21 : ¬ ((lcmpW (0 : Int64) jc) < (0 : Int32)))).2.1) (by decide) (by decide) ?_
        refine XS.aloadN X19.here hx rfl (hb hby d14_89) rfl rfl ?_
        refine XS.aload X19.here hx rfl (hb hby d14_90) rfl rfl ?_
        exact kt
      obtain ⟨T217, h217, X217, e217, W217, st217⟩ := putF X19 hx hZ hown (host := "") (Or.inl (hw _ (own_g (i := 60) rfl))) Via.refl e19 f214 f215 (Or.inl (hw _ (own_g (i := 61) rfl))) (hw _ (own_g (i := 53) rfl)) (ty := (.array (.object "java/lang/String"))) (v := (.ref b16)) (by decide) rfl rfl (g := (mkF m 92 #[.val (.ref a), .val (.int pm), .val (.long (0 : Int64)), .second, .val (.ref b16), .val (.long (0 : Int64)), .second] [(.ref b16), (.ref a)])) rfl rfl (hb hby d14_92)
      have r217 : own_R p e below _ _ T217 (mkF m 95 #[.val (.ref a), .val (.int pm), .val (.long (0 : Int64)), .second, .val (.ref b16), .val (.long (0 : Int64)), .second] []) := r216.trans fun z_ kt => st217 _ kt
      have N217 := Fr.snoc X217 N14 g_a
      have O217 := O16.wr W217 g_a
      have K217 := K16.wr W217 (Or.inl (List.mem_of_getElem? (i := 0) rfl))
      have F217 := f214.same W217
      have f218 := ((F_a_forgottenOnGrowth.ext E16).other W217 (Or.inr (slot_ne (Or.inl (hw _ (own_g (i := 127) rfl))) (Or.inl (hw _ (own_g (i := 61) rfl))) (by decide) (t := .long) (t' := (.array (.object "java/lang/String"))) (by decide) (by decide))))
      have f219 := (f215.wr W217)
      have r220 : own_R p e below _ _ T217 (mkF m 97 #[.val (.ref a), .val (.int pm), .val (.long (0 : Int64)), .second, .val (.ref b16), .val (.long (0 : Int64)), .second] [(.long (0 : Int64)), (.ref a)]) := r217.trans fun z_ kt => by
        refine XS.aloadN X217.here hx rfl (hb hby d14_95) rfl rfl ?_
        refine XS.lloadN X217.here hx rfl (hb hby d14_96) rfl ?_
        exact kt
      obtain ⟨T221, h221, X221, e221, W221, st221⟩ := putF X217 hx hZ hown (host := "") (Or.inl (hw _ (own_g (i := 126) rfl))) Via.refl e217 f218 f219 (Or.inl (hw _ (own_g (i := 127) rfl))) (hw _ (own_g (i := 53) rfl)) (ty := .long) (v := (.long (0 : Int64))) (by decide) rfl rfl (g := (mkF m 97 #[.val (.ref a), .val (.int pm), .val (.long (0 : Int64)), .second, .val (.ref b16), .val (.long (0 : Int64)), .second] [(.long (0 : Int64)), (.ref a)])) rfl rfl (hb hby d14_97)
      have r221 : own_R p e below _ _ T221 (mkF m 100 #[.val (.ref a), .val (.int pm), .val (.long (0 : Int64)), .second, .val (.ref b16), .val (.long (0 : Int64)), .second] []) := r220.trans fun z_ kt => st221 _ kt
      have N221 := Fr.snoc X221 N217 g_a
      have O221 := O217.wr W221 g_a
      have K221 := K217.wr W221 (Or.inl (List.mem_of_getElem? (i := 0) rfl))
      have F221 := f218.same W221
      have f222 := (F217.other W221 (Or.inr (slot_ne (Or.inl (hw _ (own_g (i := 61) rfl))) (Or.inl (hw _ (own_g (i := 127) rfl))) (by decide) (t := (.array (.object "java/lang/String"))) (t' := .long) (by decide) (by decide))))
      have f223 := ((V16.other W217 (Ne.symm ne_a_b16)).other W221 (Ne.symm ne_a_b16))
      have f224 := ((f17.other W217 (Or.inr (slot_ne (Or.inl (hw _ (own_g (i := 116) rfl))) (Or.inl (hw _ (own_g (i := 61) rfl))) (by decide) (t := .long) (t' := (.array (.object "java/lang/String"))) (by decide) (by decide)))).other W221 (Or.inr (slot_ne (Or.inl (hw _ (own_g (i := 116) rfl))) (Or.inl (hw _ (own_g (i := 127) rfl))) (by decide) (t := .long) (t' := .long) (by decide) (by decide))))
      obtain ⟨fs_, hr_, hrun_, hended_, hW_, hsame_⟩ := X221.leave (v := none) (fun _ => rfl)
      refine ⟨_, _, pre0 _ (r221 _ ?_), hrun_, hended_, _, _, rfl, ?_, ⟨_, rfl⟩, hW_, hsame_.mono (by decide) (by decide)⟩
      · exact X221.returnOut hx Bd.returns (hb hby d14_100) hr_
      · show Q_keep Z a pm kp kk jc zk vs hi h0 n0 _ T221.heap _
        rw [e221]
        exact ⟨b16, k16, nl, rfl, N221, K221, Or.inr sz_b16, f222, f224, F221, (by
          have e : vs = ([] : List Value) := own_vsG (own_leneq (n := 0) hvl hc51_21 (Nat.zero_le _)) (fun i hi => absurd hi (Nat.not_lt_zero _))
          rw [e]
          exact f223), Ov16, ⟨hN.2.2.2, hN.1.2⟩⟩
  · skip
    have r225 : own_R p e below _ _ T2 (mkF m 100 #[.val (.ref a), .val (.int pm), .unset, .unset, .unset, .unset, .unset] []) := r4.trans fun z_ kt => by
      refine XS.icmpYes X2.here hx rfl (pc0 := 6) (pc' := 100) rfl (hb hby d14_6) rfl (flt (hc6_5 : ¬ (zk < pm))).2.2.2 (by decide) (by decide) ?_
      exact kt
    obtain ⟨fs_, hr_, hrun_, hended_, hW_, hsame_⟩ := X2.leave (v := none) (fun _ => rfl)
    refine ⟨_, _, pre0 _ (r225 _ ?_), hrun_, hended_, _, _, rfl, ?_, ⟨_, rfl⟩, hW_, hsame_.mono (by decide) (by decide)⟩
    · exact X2.returnOut hx Bd.returns (hb hby d14_100) hr_
    · show Q_keep Z a pm kp kk jc zk vs hi h0 n0 _ T2.heap _
      rw [e2]
      exact ⟨kp, kk, zk, rfl, N0, K0, Or.inl rfl, F_a_kept, F_a_count, F_a_forgottenOnGrowth, V_kp, Ov_kk, own_hk0 hk⟩

theorem d15_0 : decode prog_14_method_2_code 0 = .ok (.aload_n 0, 1) := by decide +kernel
theorem d15_1 : decode prog_14_method_2_code 1 = .ok (.getfield 17, 3) := by decide +kernel
theorem d15_4 : decode prog_14_method_2_code 4 = .ok (.lreturn, 1) := by decide +kernel
theorem ef_count (m : MethodId) (a : Addr) : entryFrame m #[(.ref a)] 1 = mkF m 0 #[.val (.ref a)] [] := by first | (simp [entryFrame, mkF, argsToLocals, Value.category]; done) | rfl
def Q_count (Z : State) (a : Addr) (jc : Int64) (h0 : Heap) (n0 : Nat) (v_ : Option Value) (h_ : Heap) (L_ : List Loc) : Prop := v_ = some (.long jc) ∧ Fr n0 L_ ∧ h_ = h0
set_option maxRecDepth 65536 in
set_option maxHeartbeats 40000000 in
theorem rm_count (l : Launch) (Z : State) (a0 : Array Value) (hw : ∀ d ∈ tables_1, d.before a0 Z = true) (ws : List Jvm.Cond) (a : Addr) (jc : Int64) (h0 : Heap) (n0 : Nat) (O0 : Old Z n0 h0) (F_a_count : Fld Z h0 a "com/example/kleinbasel/kleinbasel/content/RecentChanges" "count" "J" (.long jc)) :
    MetFree l (⟨"com/example/kleinbasel/kleinbasel/content/RecentChanges", "count", "()J"⟩ : MethodName) (head1 (Jvm.Cond.code (⟨"com/example/kleinbasel/kleinbasel/content/RecentChanges", "count", "()J"⟩ : MethodName) prog_14_method_2_code 1 (some .long) :: ws) ({ frames := 0, cells := 0, slots := 0, locals := 0 } : Room)) (fun aa_ U_ => aa_ = #[(.ref a)] ∧ Z.Warmed39 U_.vm ∧ U_.heap = h0) (fun _ _ _ _ _ => True) (fun _ U_ o_ U_' => ∃ v_ L_, o_ = .returned v_ ∧ Q_count Z a jc h0 n0 v_ U_'.heap L_ ∧ FrameEnd U_ o_ U_' L_ ({ frames := 0, cells := 0, slots := 0, locals := 0 } : Room).cells ({ frames := 0, cells := 0, slots := 0, locals := 0 } : Room).slots) := by
  refine MetFree.of_bodySF (plainFor_of_name pn_RecentChanges) hisR ?_
  intro p e s m args below meth c s₁ Bd hml0 hP hK
  obtain ⟨rfl, hZ, hh⟩ := hP
  have hx := Bd.exec
  have hby := Bd.bytes
  have hml : c.maxLocals = 1 := hml0
  have hown : s.vm.findClass "com/example/kleinbasel/kleinbasel/content/RecentChanges" = some m.cls := findClass_of_methodNamed Bd.named
  have hnm := (name_of_methodNamed Bd.named Bd.method).1
  have X0 : Stand p l e ({ frames := 0, cells := 0, slots := 0, locals := 0 } : Room) s m #[(.ref a)] below meth c s₁ [] 0 0 := Stand.of_body Bd
  have e0 : s₁.heap = h0 := by rw [← hh, Bd.state]; rfl
  have N0 := Fr.nil n0
  have pre0 : ∀ z_, Steps p.tables e below (s₁.setTop (mkF m 0 #[.val (.ref a)] [])) z_ → Steps p.tables e below (s₁.setTop (entryFrame m #[(.ref a)] 1)) z_ := fun z_ k_ => castTop (ef_count m a) k_
  have r0 : own_R p e below s₁ (mkF m 0 #[.val (.ref a)] []) s₁ (mkF m 0 #[.val (.ref a)] []) := own_R.refl
  have r1 : own_R p e below _ _ s₁ (mkF m 1 #[.val (.ref a)] [(.ref a)]) := r0.trans fun z_ kt => by
    refine XS.aloadN X0.here hx rfl (hb hby d15_0) rfl rfl ?_
    exact kt
  obtain ⟨T2, X2, e2, st2⟩ := getF X0 hx hZ hown (host := "") (Or.inl (hw _ (own_g (i := 115) rfl))) Via.refl e0 F_a_count (g := (mkF m 1 #[.val (.ref a)] [(.ref a)])) rfl rfl (hb hby d15_1)
  have r2 : own_R p e below _ _ T2 (mkF m 4 #[.val (.ref a)] [(.long jc)]) := r1.trans fun z_ kt => st2 _ kt
  obtain ⟨fs_, hr_, hrun_, hended_, hW_, hsame_⟩ := X2.leave (v := some (.long jc)) (fun h => by rw [Bd.returns] at h; cases h)
  refine ⟨_, _, pre0 _ (r2 _ ?_), hrun_, hended_, _, _, rfl, ?_, ⟨_, rfl⟩, hW_, hsame_.mono (by decide) (by decide)⟩
  · exact retOut X2 hx Bd.returns rfl (Or.inr (Or.inl ⟨rfl, rfl, _, rfl⟩)) (hb hby d15_4) hr_
  · show Q_count Z a jc h0 n0 _ T2.heap _
    rw [e2]
    exact ⟨rfl, N0, rfl⟩

theorem d16_0 : decode prog_14_method_5_code 0 = .ok (.aload_n 0, 1) := by decide +kernel
theorem d16_1 : decode prog_14_method_5_code 1 = .ok (.getfield 17, 3) := by decide +kernel
theorem d16_4 : decode prog_14_method_5_code 4 = .ok (.lload_n 1, 1) := by decide +kernel
theorem d16_5 : decode prog_14_method_5_code 5 = .ok (.lsub, 1) := by decide +kernel
theorem d16_6 : decode prog_14_method_5_code 6 = .ok (.iload_n 3, 1) := by decide +kernel
theorem d16_7 : decode prog_14_method_5_code 7 = .ok (.i2l, 1) := by decide +kernel
theorem d16_8 : decode prog_14_method_5_code 8 = .ok (.lcmp, 1) := by decide +kernel
theorem d16_9 : decode prog_14_method_5_code 9 = .ok (.ifCond .gt 12, 3) := by decide +kernel
theorem d16_21 : decode prog_14_method_5_code 21 = .ok (.aconst_null, 1) := by decide +kernel
theorem d16_22 : decode prog_14_method_5_code 22 = .ok (.areturn, 1) := by decide +kernel
theorem ef_sinceN (m : MethodId) (a : Addr) (jf : Int64) (pm : Int32) : entryFrame m #[(.ref a), (.long jf), (.int pm)] 7 = mkF m 0 #[.val (.ref a), .val (.long jf), .second, .val (.int pm), .unset, .unset, .unset] [] := by first | (simp [entryFrame, mkF, argsToLocals, Value.category]; done) | rfl
def Q_sinceN (Z : State) (a : Addr) (jf : Int64) (pm : Int32) (jc : Int64) (h0 : Heap) (n0 : Nat) (v_ : Option Value) (h_ : Heap) (L_ : List Loc) : Prop := v_ = some .null ∧ Fr n0 L_ ∧ h_ = h0
set_option maxRecDepth 65536 in
set_option maxHeartbeats 40000000 in
theorem rm_sinceN (l : Launch) (Z : State) (a0 : Array Value) (hw : ∀ d ∈ tables_1, d.before a0 Z = true) (ws : List Jvm.Cond) (a : Addr) (jf : Int64) (pm : Int32) (jc : Int64) (h0 : Heap) (n0 : Nat) (O0 : Old Z n0 h0) (F_a_count : Fld Z h0 a "com/example/kleinbasel/kleinbasel/content/RecentChanges" "count" "J" (.long jc)) (hno : (0 : Int32) < lcmpW (jc - jf) (pm.toInt64)) :
    MetFree l (⟨"com/example/kleinbasel/kleinbasel/content/RecentChanges", "since", "(JI)Ljava/util/List;"⟩ : MethodName) (head1 (Jvm.Cond.code (⟨"com/example/kleinbasel/kleinbasel/content/RecentChanges", "since", "(JI)Ljava/util/List;"⟩ : MethodName) prog_14_method_5_code 7 (some (.object "java/util/List")) :: ws) ({ frames := 0, cells := 0, slots := 0, locals := 0 } : Room)) (fun aa_ U_ => aa_ = #[(.ref a), (.long jf), (.int pm)] ∧ Z.Warmed39 U_.vm ∧ U_.heap = h0) (fun _ _ _ _ _ => True) (fun _ U_ o_ U_' => ∃ v_ L_, o_ = .returned v_ ∧ Q_sinceN Z a jf pm jc h0 n0 v_ U_'.heap L_ ∧ FrameEnd U_ o_ U_' L_ ({ frames := 0, cells := 0, slots := 0, locals := 0 } : Room).cells ({ frames := 0, cells := 0, slots := 0, locals := 0 } : Room).slots) := by
  refine MetFree.of_bodySF (plainFor_of_name pn_RecentChanges) hisR ?_
  intro p e s m args below meth c s₁ Bd hml0 hP hK
  obtain ⟨rfl, hZ, hh⟩ := hP
  have hx := Bd.exec
  have hby := Bd.bytes
  have hml : c.maxLocals = 7 := hml0
  have hown : s.vm.findClass "com/example/kleinbasel/kleinbasel/content/RecentChanges" = some m.cls := findClass_of_methodNamed Bd.named
  have hnm := (name_of_methodNamed Bd.named Bd.method).1
  have X0 : Stand p l e ({ frames := 0, cells := 0, slots := 0, locals := 0 } : Room) s m #[(.ref a), (.long jf), (.int pm)] below meth c s₁ [] 0 0 := Stand.of_body Bd
  have e0 : s₁.heap = h0 := by rw [← hh, Bd.state]; rfl
  have N0 := Fr.nil n0
  have pre0 : ∀ z_, Steps p.tables e below (s₁.setTop (mkF m 0 #[.val (.ref a), .val (.long jf), .second, .val (.int pm), .unset, .unset, .unset] [])) z_ → Steps p.tables e below (s₁.setTop (entryFrame m #[(.ref a), (.long jf), (.int pm)] 7)) z_ := fun z_ k_ => castTop (ef_sinceN m a jf pm) k_
  have r0 : own_R p e below s₁ (mkF m 0 #[.val (.ref a), .val (.long jf), .second, .val (.int pm), .unset, .unset, .unset] []) s₁ (mkF m 0 #[.val (.ref a), .val (.long jf), .second, .val (.int pm), .unset, .unset, .unset] []) := own_R.refl
  have r1 : own_R p e below _ _ s₁ (mkF m 1 #[.val (.ref a), .val (.long jf), .second, .val (.int pm), .unset, .unset, .unset] [(.ref a)]) := r0.trans fun z_ kt => by
    refine XS.aloadN X0.here hx rfl (hb hby d16_0) rfl rfl ?_
    exact kt
  obtain ⟨T2, X2, e2, st2⟩ := getF X0 hx hZ hown (host := "") (Or.inl (hw _ (own_g (i := 115) rfl))) Via.refl e0 F_a_count (g := (mkF m 1 #[.val (.ref a), .val (.long jf), .second, .val (.int pm), .unset, .unset, .unset] [(.ref a)])) rfl rfl (hb hby d16_1)
  have r2 : own_R p e below _ _ T2 (mkF m 4 #[.val (.ref a), .val (.long jf), .second, .val (.int pm), .unset, .unset, .unset] [(.long jc)]) := r1.trans fun z_ kt => st2 _ kt
  have r3 : own_R p e below _ _ T2 (mkF m 22 #[.val (.ref a), .val (.long jf), .second, .val (.int pm), .unset, .unset, .unset] [.null]) := r2.trans fun z_ kt => by
    refine XS.lloadN X2.here hx rfl (hb hby d16_4) rfl ?_
    refine XS.lsub X2.here hx rfl (hb hby d16_5) rfl ?_
    refine XS.iloadN X2.here hx rfl (hb hby d16_6) rfl ?_
    refine XS.i2l X2.here hx rfl (hb hby d16_7) rfl ?_
    refine XS.lcmp X2.here hx rfl (hb hby d16_8) rfl ?_
    refine XS.ifYes X2.here hx rfl (pc0 := 9) (pc' := 21) rfl (hb hby d16_9) rfl ((if0 _ _).trans (tlt (hno : (0 : Int32) < (lcmpW (jc - jf) (pm.toInt64)))).2.2.1) (by decide) (by decide) ?_
    refine XS.aconstNull X2.here hx rfl (hb hby d16_21) ?_
    exact kt
  obtain ⟨fs_, hr_, hrun_, hended_, hW_, hsame_⟩ := X2.leave (v := some .null) (fun h => by rw [Bd.returns] at h; cases h)
  refine ⟨_, _, pre0 _ (r3 _ ?_), hrun_, hended_, _, _, rfl, ?_, ⟨_, rfl⟩, hW_, hsame_.mono (by decide) (by decide)⟩
  · exact retOut X2 hx Bd.returns rfl (Or.inr (Or.inr (Or.inr (Or.inr ⟨rfl, rfl, rfl⟩)))) (hb hby d16_22) hr_
  · show Q_sinceN Z a jf pm jc h0 n0 _ T2.heap _
    rw [e2]
    exact ⟨rfl, N0, rfl⟩

theorem d16_12 : decode prog_14_method_5_code 12 = .ok (.lload_n 1, 1) := by decide +kernel
theorem d16_13 : decode prog_14_method_5_code 13 = .ok (.aload_n 0, 1) := by decide +kernel
theorem d16_14 : decode prog_14_method_5_code 14 = .ok (.invokevirtual 21, 3) := by decide +kernel
theorem d16_17 : decode prog_14_method_5_code 17 = .ok (.lcmp, 1) := by decide +kernel
theorem d16_18 : decode prog_14_method_5_code 18 = .ok (.ifCond .ge 5, 3) := by decide +kernel
theorem d16_23 : decode prog_14_method_5_code 23 = .ok (.new 57, 3) := by decide +kernel
theorem d16_26 : decode prog_14_method_5_code 26 = .ok (.dup, 1) := by decide +kernel
theorem d16_27 : decode prog_14_method_5_code 27 = .ok (.aload_n 0, 1) := by decide +kernel
theorem d16_28 : decode prog_14_method_5_code 28 = .ok (.getfield 17, 3) := by decide +kernel
theorem d16_31 : decode prog_14_method_5_code 31 = .ok (.lload_n 1, 1) := by decide +kernel
theorem d16_32 : decode prog_14_method_5_code 32 = .ok (.lsub, 1) := by decide +kernel
theorem d16_33 : decode prog_14_method_5_code 33 = .ok (.l2i, 1) := by decide +kernel
theorem d16_34 : decode prog_14_method_5_code 34 = .ok (.invokespecial 59, 3) := by decide +kernel
theorem pd_14 : parseMethodDescriptor "(I)V" = some ⟨[.int], none⟩ := by decide +kernel
theorem d16_37 : decode prog_14_method_5_code 37 = .ok (.astore 4, 2) := by decide +kernel
theorem d16_39 : decode prog_14_method_5_code 39 = .ok (.lload_n 1, 1) := by decide +kernel
theorem d16_40 : decode prog_14_method_5_code 40 = .ok (.lstore 5, 2) := by decide +kernel
theorem d16_42 : decode prog_14_method_5_code 42 = .ok (.lload 5, 2) := by decide +kernel
theorem d16_44 : decode prog_14_method_5_code 44 = .ok (.aload_n 0, 1) := by decide +kernel
theorem d16_45 : decode prog_14_method_5_code 45 = .ok (.getfield 17, 3) := by decide +kernel
theorem d16_48 : decode prog_14_method_5_code 48 = .ok (.lcmp, 1) := by decide +kernel
theorem d16_49 : decode prog_14_method_5_code 49 = .ok (.ifCond .ge 35, 3) := by decide +kernel
theorem d16_84 : decode prog_14_method_5_code 84 = .ok (.aload 4, 2) := by decide +kernel
theorem d16_86 : decode prog_14_method_5_code 86 = .ok (.areturn, 1) := by decide +kernel
theorem d16_52 : decode prog_14_method_5_code 52 = .ok (.aload 4, 2) := by decide +kernel
theorem d16_54 : decode prog_14_method_5_code 54 = .ok (.aload_n 0, 1) := by decide +kernel
theorem d16_55 : decode prog_14_method_5_code 55 = .ok (.getfield 13, 3) := by decide +kernel
theorem d16_58 : decode prog_14_method_5_code 58 = .ok (.lload 5, 2) := by decide +kernel
theorem d16_60 : decode prog_14_method_5_code 60 = .ok (.aload_n 0, 1) := by decide +kernel
theorem d16_61 : decode prog_14_method_5_code 61 = .ok (.getfield 13, 3) := by decide +kernel
theorem d16_64 : decode prog_14_method_5_code 64 = .ok (.arraylength, 1) := by decide +kernel
theorem d16_65 : decode prog_14_method_5_code 65 = .ok (.i2l, 1) := by decide +kernel
theorem d16_66 : decode prog_14_method_5_code 66 = .ok (.lrem, 1) := by decide +kernel
theorem d16_67 : decode prog_14_method_5_code 67 = .ok (.l2i, 1) := by decide +kernel
theorem d16_68 : decode prog_14_method_5_code 68 = .ok (.aaload, 1) := by decide +kernel
theorem d16_69 : decode prog_14_method_5_code 69 = .ok (.invokeinterface 62 2, 5) := by decide +kernel
theorem pd_15 : parseMethodDescriptor "(Ljava/lang/Object;)Z" = some ⟨[(.object "java/lang/Object")], some .boolean⟩ := by decide +kernel
theorem d16_74 : decode prog_14_method_5_code 74 = .ok (.pop, 1) := by decide +kernel
theorem d16_75 : decode prog_14_method_5_code 75 = .ok (.lload 5, 2) := by decide +kernel
theorem d16_77 : decode prog_14_method_5_code 77 = .ok (.lconst 1, 1) := by decide +kernel
theorem d16_78 : decode prog_14_method_5_code 78 = .ok (.ladd, 1) := by decide +kernel
theorem d16_79 : decode prog_14_method_5_code 79 = .ok (.lstore 5, 2) := by decide +kernel
theorem d16_81 : decode prog_14_method_5_code 81 = .ok (.goto (-39), 3) := by decide +kernel
theorem ef_sinceL (m : MethodId) (a : Addr) (jf : Int64) (pm : Int32) : entryFrame m #[(.ref a), (.long jf), (.int pm)] 7 = mkF m 0 #[.val (.ref a), .val (.long jf), .second, .val (.int pm), .unset, .unset, .unset] [] := by first | (simp [entryFrame, mkF, argsToLocals, Value.category]; done) | rfl
def Q_sinceL (Z : State) (a : Addr) (jf : Int64) (pm : Int32) (kp : Addr) (kk : ClassId) (jc : Int64) (zk : Int32) (vs : List Value) (s_EE : Addr) (ke : ClassId) (h0 : Heap) (n0 : Nat) (v_ : Option Value) (h_ : Heap) (L_ : List Loc) : Prop := ∃ (b : Addr) (arr : Addr) (ka : ClassId) (z : Int32) (ps : Int32), v_ = some (.ref b) ∧ Fr n0 L_ ∧ Keep h0 h_ [] ∧ (h0.size ≤ b) ∧ (Exa Z h_ b "java/util/ArrayList") ∧ (Fld Z h_ b "java/util/ArrayList" "elementData" "[Ljava/lang/Object;" (.ref arr)) ∧ (Fld Z h_ b "java/util/ArrayList" "size" "I" (.int ps)) ∧ (Arv Z h_ arr ka (.object "java/lang/Object") z (vs.drop jf.toInt.toNat) .null) ∧ (ps.toInt = (vs.drop jf.toInt.toNat).length ∧ ps.toInt ≤ z.toInt)
set_option maxRecDepth 65536 in
set_option maxHeartbeats 40000000 in
theorem rm_sinceL (l : Launch) (Z : State) (a0 : Array Value) (hw : ∀ d ∈ tables_1, d.before a0 Z = true) (ws : List Jvm.Cond) (a : Addr) (jf : Int64) (pm : Int32) (kp : Addr) (kk : ClassId) (jc : Int64) (zk : Int32) (vs : List Value) (s_EE : Addr) (ke : ClassId) (h0 : Heap) (n0 : Nat) (O0 : Old Z n0 h0) (E_a : Exa Z h0 a "com/example/kleinbasel/kleinbasel/content/RecentChanges") (F_a_kept : Fld Z h0 a "com/example/kleinbasel/kleinbasel/content/RecentChanges" "kept" "[Ljava/lang/String;" (.ref kp)) (F_a_count : Fld Z h0 a "com/example/kleinbasel/kleinbasel/content/RecentChanges" "count" "J" (.long jc)) (F_a_forgottenOnGrowth : Fld Z h0 a "com/example/kleinbasel/kleinbasel/content/RecentChanges" "forgottenOnGrowth" "J" (.long (0 : Int64))) (V_kp : Arv Z h0 kp kk (.object "java/lang/String") zk vs .null) (hvl : jc.toInt = vs.length) (hk : vs.length ≤ 6 ∧ 1024 ≤ zk.toInt) (S_ArrayList_EMPTY_ELEMENTDATA : Sta Z Z.heap "java/util/ArrayList" "EMPTY_ELEMENTDATA" "[Ljava/lang/Object;" (.ref s_EE)) (OV_s_EE : Arv Z Z.heap s_EE ke (.object "java/lang/Object") (0 : Int32) [] .null) (hyes : ¬ ((0 : Int32) < lcmpW (jc - jf) (pm.toInt64))) (hjf : 0 ≤ jf.toInt ∧ jf.toInt ≤ jc.toInt) (hst : vs.all (fun _ => true) = true ∧ ∀ i, i < vs.length → ∃ y : Addr, vs.getD i .null = .ref y ∧ Exa Z h0 y "java/lang/String") :
    MetFree l (⟨"com/example/kleinbasel/kleinbasel/content/RecentChanges", "since", "(JI)Ljava/util/List;"⟩ : MethodName) (head1 (Jvm.Cond.code (⟨"com/example/kleinbasel/kleinbasel/content/RecentChanges", "since", "(JI)Ljava/util/List;"⟩ : MethodName) prog_14_method_5_code 7 (some (.object "java/util/List")) :: ws) ({ frames := 4, cells := 2, slots := 9, locals := 50 } : Room)) (fun aa_ U_ => aa_ = #[(.ref a), (.long jf), (.int pm)] ∧ Z.Warmed39 U_.vm ∧ U_.heap = h0) (fun _ _ _ _ _ => True) (fun _ U_ o_ U_' => ∃ v_ L_, o_ = .returned v_ ∧ Q_sinceL Z a jf pm kp kk jc zk vs s_EE ke h0 n0 v_ U_'.heap L_ ∧ FrameEnd U_ o_ U_' L_ ({ frames := 4, cells := 2, slots := 9, locals := 50 } : Room).cells ({ frames := 4, cells := 2, slots := 9, locals := 50 } : Room).slots) := by
  refine MetFree.of_bodySF (plainFor_of_name pn_RecentChanges) hisR ?_
  intro p e s m args below meth c s₁ Bd hml0 hP hK
  obtain ⟨rfl, hZ, hh⟩ := hP
  have hx := Bd.exec
  have hby := Bd.bytes
  have hml : c.maxLocals = 7 := hml0
  have hown : s.vm.findClass "com/example/kleinbasel/kleinbasel/content/RecentChanges" = some m.cls := findClass_of_methodNamed Bd.named
  have hnm := (name_of_methodNamed Bd.named Bd.method).1
  have X0 : Stand p l e ({ frames := 4, cells := 2, slots := 9, locals := 50 } : Room) s m #[(.ref a), (.long jf), (.int pm)] below meth c s₁ [] 0 0 := Stand.of_body Bd
  have e0 : s₁.heap = h0 := by rw [← hh, Bd.state]; rfl
  have N0 := Fr.nil n0
  have K0 : Keep h0 h0 [] := Keep.refl h0 _
  have pre0 : ∀ z_, Steps p.tables e below (s₁.setTop (mkF m 0 #[.val (.ref a), .val (.long jf), .second, .val (.int pm), .unset, .unset, .unset] [])) z_ → Steps p.tables e below (s₁.setTop (entryFrame m #[(.ref a), (.long jf), (.int pm)] 7)) z_ := fun z_ k_ => castTop (ef_sinceL m a jf pm) k_
  have r0 : own_R p e below s₁ (mkF m 0 #[.val (.ref a), .val (.long jf), .second, .val (.int pm), .unset, .unset, .unset] []) s₁ (mkF m 0 #[.val (.ref a), .val (.long jf), .second, .val (.int pm), .unset, .unset, .unset] []) := own_R.refl
  have ne_a_kp : a ≠ kp := (own_ne_arv E_a (hw _ (own_g (i := 53) rfl)) V_kp)
  have r1 : own_R p e below _ _ s₁ (mkF m 1 #[.val (.ref a), .val (.long jf), .second, .val (.int pm), .unset, .unset, .unset] [(.ref a)]) := r0.trans fun z_ kt => by
    refine XS.aloadN X0.here hx rfl (hb hby d16_0) rfl rfl ?_
    exact kt
  obtain ⟨T2, X2, e2, st2⟩ := getF X0 hx hZ hown (host := "") (Or.inl (hw _ (own_g (i := 115) rfl))) Via.refl e0 F_a_count (g := (mkF m 1 #[.val (.ref a), .val (.long jf), .second, .val (.int pm), .unset, .unset, .unset] [(.ref a)])) rfl rfl (hb hby d16_1)
  have r2 : own_R p e below _ _ T2 (mkF m 4 #[.val (.ref a), .val (.long jf), .second, .val (.int pm), .unset, .unset, .unset] [(.long jc)]) := r1.trans fun z_ kt => st2 _ kt
  have r3 : own_R p e below _ _ T2 (mkF m 14 #[.val (.ref a), .val (.long jf), .second, .val (.int pm), .unset, .unset, .unset] [(.ref a), (.long jf)]) := r2.trans fun z_ kt => by
    refine XS.lloadN X2.here hx rfl (hb hby d16_4) rfl ?_
    refine XS.lsub X2.here hx rfl (hb hby d16_5) rfl ?_
    refine XS.iloadN X2.here hx rfl (hb hby d16_6) rfl ?_
    refine XS.i2l X2.here hx rfl (hb hby d16_7) rfl ?_
    refine XS.lcmp X2.here hx rfl (hb hby d16_8) rfl ?_
    refine XS.ifNo X2.here hx rfl (hb hby d16_9) rfl ((if0 _ _).trans (flt (hyes : ¬ ((0 : Int32) < (lcmpW (jc - jf) (pm.toInt64))))).2.2.1) ?_
    refine XS.lloadN X2.here hx rfl (hb hby d16_12) rfl ?_
    refine XS.aloadN X2.here hx rfl (hb hby d16_13) rfl rfl ?_
    exact kt
  obtain ⟨cq4, q4, q4'⟩ := E_a.cell
  obtain ⟨_, _, ⟨T4, L4, cc4, n4⟩, -, X4, ⟨Lc4, hQ4, l4, y4, z4⟩, st4⟩ := X2.privateBack hx (y := (⟨"com/example/kleinbasel/kleinbasel/content/RecentChanges", "oldestKept", "()J"⟩ : MethodName)) hown (mvT hZ (hw _ (own_g (i := 122) rfl))) (mvT hZ (hw _ (own_g (i := 123) rfl))) (own_selp hZ (hw _ (own_g (i := 53) rfl)) (hw _ (own_g (i := 124) rfl)) (hw _ (own_g (i := 123) rfl)) (by decide)) (Cond.privateMethod_at (mvP hZ (hw _ (own_g (i := 124) rfl)) (args := #[]))) (mvT hZ (hw _ (own_g (i := 125) rfl))) (by decide) (backOf (W := 2) (rm_oldest l Z a0 hw [] (a) (kp) (kk) (jc) (zk) (vs) h0 n0 O0 (F_a_kept) (F_a_count) (F_a_forgottenOnGrowth) (V_kp) (own_hold2 hvl hk)) hZ (hw _ (own_g (i := 125) rfl)) (hw _ (own_g (i := 54) rfl)) (by decide) (by decide)) (g := (mkF m 14 #[.val (.ref a), .val (.long jf), .second, .val (.int pm), .unset, .unset, .unset] [(.ref a), (.long jf)])) rfl (by rw [hml]; rfl) (Steps.refl _) (a := a) (by rw [e2]; exact q4) q4' (argsL := []) (rest := [(.long jf)]) (lenOf pd_13 rfl) rfl (by show 2 * 0 + _ ≤ _; exact Nat.le_of_eq rfl) (hb hby d16_14) (fun _ _ => ⟨rfl, e2, (by decide : 0 + 0 ≤ _), (by decide : 0 + 0 ≤ _)⟩)
  dsimp only [Pt.U, Pt.locs, Pt.cells, Pt.slots] at X4 l4 y4 z4 st4 hQ4
  subst l4 y4 z4
  obtain ⟨rfl, Nq4, eq4⟩ := hQ4
  have N4 := Fr.app N0 Nq4
  have r4 : own_R p e below _ _ T4 (mkF m 17 #[.val (.ref a), .val (.long jf), .second, .val (.int pm), .unset, .unset, .unset] [(.long (0 : Int64)), (.long jf)]) := r3.trans fun z_ kt => st4.trans kt
  have e4 : T4.heap = h0 := eq4
  have r5 : own_R p e below _ _ T4 (mkF m 23 #[.val (.ref a), .val (.long jf), .second, .val (.int pm), .unset, .unset, .unset] []) := r4.trans fun z_ kt => by
    refine XS.lcmp X4.here hx rfl (hb hby d16_17) rfl ?_
    refine XS.ifYes X4.here hx rfl (pc0 := 18) (pc' := 23) rfl (hb hby d16_18) rfl ((if0 _ _).trans (flt (own_lcge hjf.1 : ¬ ((lcmpW jf (0 : Int64)) < (0 : Int32)))).2.1) (by decide) (by decide) ?_
    exact kt
  obtain ⟨T6, h6, X6, e6, E6, A6, D6, -, st6⟩ := newO X4 hx hZ hown (hw _ (own_g (i := 132) rfl)) (hw _ (own_g (i := 29) rfl)) (hw _ (own_g (i := 30) rfl)) e4 (g := (mkF m 23 #[.val (.ref a), .val (.long jf), .second, .val (.int pm), .unset, .unset, .unset] [])) rfl (hb hby d16_23) (by decide) (by decide)
  obtain ⟨b6, g6⟩ : ∃ z, z = h0.size := ⟨_, rfl⟩
  rw [← g6] at A6 D6 st6
  have r6 : own_R p e below _ _ T6 (mkF m 26 #[.val (.ref a), .val (.long jf), .second, .val (.int pm), .unset, .unset, .unset] [(.ref b6)]) := r5.trans fun z_ kt => st6 _ kt
  have ne_a_b6 : a ≠ b6 := Nat.ne_of_lt (Nat.lt_of_lt_of_le E_a.lt (Nat.le_of_eq g6.symm))
  have ne_kp_b6 : kp ≠ b6 := Nat.ne_of_lt (Nat.lt_of_lt_of_le V_kp.lt (Nat.le_of_eq g6.symm))
  have g_b6 : n0 ≤ b6 := Nat.le_trans (own_old_size O0) (Nat.le_of_eq g6.symm)
  have sz_b6 : h0.size ≤ b6 := Nat.le_trans K0.1 (Nat.le_of_eq g6.symm)
  have O6 := O0.ext E6
  have K6 := K0.ext E6
  have F6_48 := D6 (Or.inl (hw _ (own_g (i := 48) rfl))) (ty := .int) (by decide)
  have F6_51 := D6 (Or.inl (hw _ (own_g (i := 51) rfl))) (ty := (.array (.object "java/lang/Object"))) (by decide)
  have F6_104 := D6 (Or.inl (hw _ (own_g (i := 104) rfl))) (ty := .int) (by decide)
  have f7 := (F_a_count.ext E6)
  have r8 : own_R p e below _ _ T6 (mkF m 28 #[.val (.ref a), .val (.long jf), .second, .val (.int pm), .unset, .unset, .unset] [(.ref a), (.ref b6), (.ref b6)]) := r6.trans fun z_ kt => by
    refine XS.dup X6.here hx rfl (hb hby d16_26) rfl rfl ?_
    refine XS.aloadN X6.here hx rfl (hb hby d16_27) rfl rfl ?_
    exact kt
  obtain ⟨T9, X9, e9, st9⟩ := getF X6 hx hZ hown (host := "") (Or.inl (hw _ (own_g (i := 115) rfl))) Via.refl e6 f7 (g := (mkF m 28 #[.val (.ref a), .val (.long jf), .second, .val (.int pm), .unset, .unset, .unset] [(.ref a), (.ref b6), (.ref b6)])) rfl rfl (hb hby d16_28)
  have r9 : own_R p e below _ _ T9 (mkF m 31 #[.val (.ref a), .val (.long jf), .second, .val (.int pm), .unset, .unset, .unset] [(.long jc), (.ref b6), (.ref b6)]) := r8.trans fun z_ kt => st9 _ kt
  have r10 : own_R p e below _ _ T9 (mkF m 34 #[.val (.ref a), .val (.long jf), .second, .val (.int pm), .unset, .unset, .unset] [(.int ((jc - jf).toInt32)), (.ref b6), (.ref b6)]) := r9.trans fun z_ kt => by
    refine XS.lloadN X9.here hx rfl (hb hby d16_31) rfl ?_
    refine XS.lsub X9.here hx rfl (hb hby d16_32) rfl ?_
    refine XS.l2i X9.here hx rfl (hb hby d16_33) rfl ?_
    exact kt
  obtain ⟨pd, hpd⟩ : ∃ z, z = ((jc - jf).toInt32) := ⟨_, rfl⟩
  rw [← hpd] at r10
  have hD := own_pd hvl hk hjf hpd
  by_cases hz0 : pd = (0 : Int32)
  · skip
    subst hz0
    obtain ⟨_, _, ⟨T11, L11, cc11, n11⟩, -, X11, ⟨Lc11, hQ11, l11, y11, z11⟩, st11⟩ := X9.specialBack hx (y := (⟨"java/util/ArrayList", "<init>", "(I)V"⟩ : MethodName)) rfl hown (mvT hZ (hw _ (own_g (i := 133) rfl))) (mvT hZ (hw _ (own_g (i := 134) rfl))) (mvT hZ (hw _ (own_g (i := 135) rfl))) (by decide) (backOf (W := 1) (rm_alInitZ l Z a0 hw [] (b6) ((.int (0 : Int32))) (.null) (s_EE) h6 n0 O6 (A6) (g_b6) (F6_48) (F6_51) (F6_104) (S_ArrayList_EMPTY_ELEMENTDATA)) hZ (hw _ (own_g (i := 135) rfl)) (hw _ (own_g (i := 30) rfl)) (by decide) (by decide)) (g := (mkF m 34 #[.val (.ref a), .val (.long jf), .second, .val (.int pm), .unset, .unset, .unset] [(.int (0 : Int32)), (.ref b6), (.ref b6)])) rfl (by rw [hml]; rfl) (Steps.refl _) (a := b6) (argsL := [(.int (0 : Int32))]) (rest := [(.ref b6)]) (lenOf pd_14 rfl) rfl (by show 2 * 0 + _ ≤ _; exact Nat.le_of_eq rfl) (hb hby d16_34) (fun _ _ => ⟨rfl, e9, (by decide : 1 + 0 ≤ _), (by decide : 3 + 0 ≤ _)⟩)
    dsimp only [Pt.U, Pt.locs, Pt.cells, Pt.slots] at X11 l11 y11 z11 st11 hQ11
    subst l11 y11 z11
    obtain ⟨h11, e11⟩ : ∃ z, T11.heap = z := ⟨_, rfl⟩
    rw [e11] at hQ11
    obtain ⟨rfl, Nq11, Kq11, p11_0, p11_1, p11_2⟩ := hQ11
    have N11 := Fr.app N4 Nq11
    have r11 : own_R p e below _ _ T11 (mkF m 37 #[.val (.ref a), .val (.long jf), .second, .val (.int pm), .unset, .unset, .unset] [(.ref b6)]) := r10.trans fun z_ kt => st11.trans kt
    have O11 := O6.keep Kq11 (allS g_b6 all0)
    have K11 := K6.trans Kq11 (allS (Or.inr sz_b6) all0)
    have f12 := (f7.keep Kq11 (ninS ne_a_b6 nin0))
    have r13 : own_R p e below _ _ T11 (mkF m 45 #[.val (.ref a), .val (.long jf), .second, .val (.int pm), .val (.ref b6), .val (.long jf), .second] [(.ref a), (.long jf)]) := r11.trans fun z_ kt => by
      refine XS.astore X11.here hx rfl (hb hby d16_37) rfl rfl (l' := #[.val (.ref a), .val (.long jf), .second, .val (.int pm), .val (.ref b6), .unset, .unset]) rfl ?_
      refine XS.lloadN X11.here hx rfl (hb hby d16_39) rfl ?_
      refine XS.lstore X11.here hx rfl (hb hby d16_40) rfl (l' := #[.val (.ref a), .val (.long jf), .second, .val (.int pm), .val (.ref b6), .val (.long jf), .second]) rfl ?_
      refine XS.lload X11.here hx rfl (hb hby d16_42) rfl ?_
      refine XS.aloadN X11.here hx rfl (hb hby d16_44) rfl rfl ?_
      exact kt
    obtain ⟨T14, X14, e14, st14⟩ := getF X11 hx hZ hown (host := "") (Or.inl (hw _ (own_g (i := 115) rfl))) Via.refl e11 f12 (g := (mkF m 45 #[.val (.ref a), .val (.long jf), .second, .val (.int pm), .val (.ref b6), .val (.long jf), .second] [(.ref a), (.long jf)])) rfl rfl (hb hby d16_45)
    have r14 : own_R p e below _ _ T14 (mkF m 48 #[.val (.ref a), .val (.long jf), .second, .val (.int pm), .val (.ref b6), .val (.long jf), .second] [(.long jc), (.long jf)]) := r13.trans fun z_ kt => st14 _ kt
    have r15 : own_R p e below _ _ T14 (mkF m 49 #[.val (.ref a), .val (.long jf), .second, .val (.int pm), .val (.ref b6), .val (.long jf), .second] [(.int (lcmpW jf jc))]) := r14.trans fun z_ kt => by
      refine XS.lcmp X14.here hx rfl (hb hby d16_48) rfl ?_
      exact kt
    by_cases hc49_16 : (lcmpW jf jc) < (0 : Int32)
    · skip
      exact absurd hc49_16 (own_e0 hD)
    · skip
      have r17 : own_R p e below _ _ T14 (mkF m 86 #[.val (.ref a), .val (.long jf), .second, .val (.int pm), .val (.ref b6), .val (.long jf), .second] [(.ref b6)]) := r15.trans fun z_ kt => by
        refine XS.ifYes X14.here hx rfl (pc0 := 49) (pc' := 84) rfl (hb hby d16_49) rfl ((if0 _ _).trans (flt (hc49_16 : ¬ ((lcmpW jf jc) < (0 : Int32)))).2.1) (by decide) (by decide) ?_
        refine XS.aload X14.here hx rfl (hb hby d16_84) rfl rfl ?_
        exact kt
      have hLD := own_lenD (n := 0) hD (by decide) hc49_16 (by decide)
      have f18 := (A6.keep Kq11)
      obtain ⟨fs_, hr_, hrun_, hended_, hW_, hsame_⟩ := X14.leave (v := some (.ref b6)) (fun h => by rw [Bd.returns] at h; cases h)
      refine ⟨_, _, pre0 _ (r17 _ ?_), hrun_, hended_, _, _, rfl, ?_, ⟨_, rfl⟩, hW_, hsame_.mono (by decide) (by decide)⟩
      · exact retOut X14 hx Bd.returns rfl (Or.inr (Or.inr (Or.inr (Or.inr ⟨rfl, rfl, rfl⟩)))) (hb hby d16_86) hr_
      · show Q_sinceL Z a jf pm kp kk jc zk vs s_EE ke h0 n0 _ T14.heap _
        rw [e14]
        exact ⟨b6, s_EE, ke, (0 : Int32), (0 : Int32), rfl, N11, K11, sz_b6, f18, p11_1, p11_2, (by
          have e : (vs.drop jf.toInt.toNat) = ([] : List Value) := own_vsG (hLD.1) (fun i hi => absurd hi (Nat.not_lt_zero _))
          rw [e]
          exact (OV_s_EE.ext O11.2)), ⟨by rw [hLD.1]; decide, by decide⟩⟩
  · skip
    obtain ⟨_, _, ⟨T19, L19, cc19, n19⟩, -, X19, ⟨Lc19, hQ19, l19, y19, z19⟩, st19⟩ := X9.specialBack hx (y := (⟨"java/util/ArrayList", "<init>", "(I)V"⟩ : MethodName)) rfl hown (mvT hZ (hw _ (own_g (i := 133) rfl))) (mvT hZ (hw _ (own_g (i := 134) rfl))) (mvT hZ (hw _ (own_g (i := 135) rfl))) (by decide) (backOf (W := 1) (rm_alInitP l Z a0 hw [] (b6) (pd) ((.int (0 : Int32))) (.null) h6 n0 O6 (A6) (g_b6) (F6_48) (F6_51) (F6_104) (own_pd1 hD hz0)) hZ (hw _ (own_g (i := 135) rfl)) (hw _ (own_g (i := 30) rfl)) (by decide) (by decide)) (g := (mkF m 34 #[.val (.ref a), .val (.long jf), .second, .val (.int pm), .unset, .unset, .unset] [(.int pd), (.ref b6), (.ref b6)])) rfl (by rw [hml]; rfl) (Steps.refl _) (a := b6) (argsL := [(.int pd)]) (rest := [(.ref b6)]) (lenOf pd_14 rfl) rfl (by show 2 * 0 + _ ≤ _; exact Nat.le_of_eq rfl) (hb hby d16_34) (fun _ _ => ⟨rfl, e9, (by decide : 1 + 1 ≤ _), (by decide : 3 + 6 ≤ _)⟩)
    dsimp only [Pt.U, Pt.locs, Pt.cells, Pt.slots] at X19 l19 y19 z19 st19 hQ19
    subst l19 y19 z19
    obtain ⟨h19, e19⟩ : ∃ z, T19.heap = z := ⟨_, rfl⟩
    rw [e19] at hQ19
    obtain ⟨arr_w, ka_w, rfl, Nq19, Kq19, p19_0, p19_1, p19_2, p19_3, p19_4, p19_5⟩ := hQ19
    have N19 := Fr.app N4 Nq19
    have r19 : own_R p e below _ _ T19 (mkF m 37 #[.val (.ref a), .val (.long jf), .second, .val (.int pm), .unset, .unset, .unset] [(.ref b6)]) := r10.trans fun z_ kt => st19.trans kt
    have f20 := (E_a.ext E6)
    have ne_a_arr_w : a ≠ arr_w := Nat.ne_of_lt (Nat.lt_of_lt_of_le f20.lt p19_0)
    have f21 := (V_kp.ext E6)
    have ne_kp_arr_w : kp ≠ arr_w := Nat.ne_of_lt (Nat.lt_of_lt_of_le f21.lt p19_0)
    have ne_b6_arr_w : b6 ≠ arr_w := Nat.ne_of_lt (Nat.lt_of_lt_of_le A6.lt p19_0)
    have g_arr_w : n0 ≤ arr_w := Nat.le_trans (own_old_size O6) p19_0
    have sz_arr_w : h0.size ≤ arr_w := Nat.le_trans K6.1 p19_0
    have O19 := O6.keep Kq19 (allS g_b6 all0)
    have K19 := K6.trans Kq19 (allS (Or.inr sz_b6) all0)
    have f22 := (f7.keep Kq19 (ninS ne_a_b6 nin0))
    have r23 : own_R p e below _ _ T19 (mkF m 45 #[.val (.ref a), .val (.long jf), .second, .val (.int pm), .val (.ref b6), .val (.long jf), .second] [(.ref a), (.long jf)]) := r19.trans fun z_ kt => by
      refine XS.astore X19.here hx rfl (hb hby d16_37) rfl rfl (l' := #[.val (.ref a), .val (.long jf), .second, .val (.int pm), .val (.ref b6), .unset, .unset]) rfl ?_
      refine XS.lloadN X19.here hx rfl (hb hby d16_39) rfl ?_
      refine XS.lstore X19.here hx rfl (hb hby d16_40) rfl (l' := #[.val (.ref a), .val (.long jf), .second, .val (.int pm), .val (.ref b6), .val (.long jf), .second]) rfl ?_
      refine XS.lload X19.here hx rfl (hb hby d16_42) rfl ?_
      refine XS.aloadN X19.here hx rfl (hb hby d16_44) rfl rfl ?_
      exact kt
    obtain ⟨T24, X24, e24, st24⟩ := getF X19 hx hZ hown (host := "") (Or.inl (hw _ (own_g (i := 115) rfl))) Via.refl e19 f22 (g := (mkF m 45 #[.val (.ref a), .val (.long jf), .second, .val (.int pm), .val (.ref b6), .val (.long jf), .second] [(.ref a), (.long jf)])) rfl rfl (hb hby d16_45)
    have r24 : own_R p e below _ _ T24 (mkF m 48 #[.val (.ref a), .val (.long jf), .second, .val (.int pm), .val (.ref b6), .val (.long jf), .second] [(.long jc), (.long jf)]) := r23.trans fun z_ kt => st24 _ kt
    have r25 : own_R p e below _ _ T24 (mkF m 49 #[.val (.ref a), .val (.long jf), .second, .val (.int pm), .val (.ref b6), .val (.long jf), .second] [(.int (lcmpW jf jc))]) := r24.trans fun z_ kt => by
      refine XS.lcmp X24.here hx rfl (hb hby d16_48) rfl ?_
      exact kt
    by_cases hc49_26 : (lcmpW jf jc) < (0 : Int32)
    · skip
      have ht0 : jf.toInt.toNat + 0 < vs.length ∧ (0 : Int) < pd.toInt := own_tG (n := 0) (by decide) hD hc49_26
      have f27 := ((F_a_kept.ext E6).keep Kq19 (ninS ne_a_b6 nin0))
      have r28 : own_R p e below _ _ T24 (mkF m 55 #[.val (.ref a), .val (.long jf), .second, .val (.int pm), .val (.ref b6), .val (.long jf), .second] [(.ref a), (.ref b6)]) := r25.trans fun z_ kt => by
        refine XS.ifNo X24.here hx rfl (hb hby d16_49) rfl ((if0 _ _).trans (tlt (hc49_26 : (lcmpW jf jc) < (0 : Int32))).2.1) ?_
        refine XS.aload X24.here hx rfl (hb hby d16_52) rfl rfl ?_
        refine XS.aloadN X24.here hx rfl (hb hby d16_54) rfl rfl ?_
        exact kt
      obtain ⟨T29, X29, e29, st29⟩ := getF X24 hx hZ hown (host := "") (Or.inl (hw _ (own_g (i := 60) rfl))) Via.refl e24 f27 (g := (mkF m 55 #[.val (.ref a), .val (.long jf), .second, .val (.int pm), .val (.ref b6), .val (.long jf), .second] [(.ref a), (.ref b6)])) rfl rfl (hb hby d16_55)
      have r29 : own_R p e below _ _ T29 (mkF m 58 #[.val (.ref a), .val (.long jf), .second, .val (.int pm), .val (.ref b6), .val (.long jf), .second] [(.ref kp), (.ref b6)]) := r28.trans fun z_ kt => st29 _ kt
      have r30 : own_R p e below _ _ T29 (mkF m 61 #[.val (.ref a), .val (.long jf), .second, .val (.int pm), .val (.ref b6), .val (.long jf), .second] [(.ref a), (.long jf), (.ref kp), (.ref b6)]) := r29.trans fun z_ kt => by
        refine XS.lload X29.here hx rfl (hb hby d16_58) rfl ?_
        refine XS.aloadN X29.here hx rfl (hb hby d16_60) rfl rfl ?_
        exact kt
      obtain ⟨T31, X31, e31, st31⟩ := getF X29 hx hZ hown (host := "") (Or.inl (hw _ (own_g (i := 60) rfl))) Via.refl e29 f27 (g := (mkF m 61 #[.val (.ref a), .val (.long jf), .second, .val (.int pm), .val (.ref b6), .val (.long jf), .second] [(.ref a), (.long jf), (.ref kp), (.ref b6)])) rfl rfl (hb hby d16_61)
      have r31 : own_R p e below _ _ T31 (mkF m 64 #[.val (.ref a), .val (.long jf), .second, .val (.int pm), .val (.ref b6), .val (.long jf), .second] [(.ref kp), (.long jf), (.ref kp), (.ref b6)]) := r30.trans fun z_ kt => st31 _ kt
      have f32 := (f21.keep Kq19 (ninS ne_kp_b6 nin0))
      obtain ⟨cl33, Ar33, q33, S33, M33, H33, G33⟩ := id f32
      have r35 : own_R p e below _ _ T31 (mkF m 68 #[.val (.ref a), .val (.long jf), .second, .val (.int pm), .val (.ref b6), .val (.long jf), .second] [(.int ((jf - (jf / (zk.toInt64)) * (zk.toInt64)).toInt32)), (.ref kp), (.ref b6)]) := r31.trans fun z_ kt => by
        refine X31.arraylength hx (by rw [e31]; exact Ar33.1) (State.isArrayOf_alike hZ.alike Ar33.2.1) (g := (mkF m 64 #[.val (.ref a), .val (.long jf), .second, .val (.int pm), .val (.ref b6), .val (.long jf), .second] [(.ref kp), (.long jf), (.ref kp), (.ref b6)])) rfl rfl (hb hby d16_64) _ ?_
        rw [len_of S33 M33]
        refine XS.i2l X31.here hx rfl (hb hby d16_65) rfl ?_
        refine XS.lrem X31.here hx rfl (hb hby d16_66) rfl (own_zne hk.2) ?_
        refine XS.l2i X31.here hx rfl (hb hby d16_67) rfl ?_
        exact kt
      obtain ⟨cl34, Ar34, q34, S34, M34, H34, G34⟩ := id f32
      obtain ⟨y0, hy0, Ey0⟩ := hst.2 (jf.toInt.toNat + 0) ht0.1
      have hx0 := own_sxG (n := 0) hvl hk hjf (by decide) ht0.1
      have hin34 : ¬ (((jf - (jf / (zk.toInt64)) * (zk.toInt64)).toInt32) < 0 ∨ cl34.slots.size ≤ (((jf - (jf / (zk.toInt64)) * (zk.toInt64)).toInt32)).toNatClampNeg) := inb_of S34 hx0.1
      have hat34 : cl34.slots[(((jf - (jf / (zk.toInt64)) * (zk.toInt64)).toInt32)).toNatClampNeg]? = some (.ref y0) := Has.at H34 hin34 (by rw [show (((jf - (jf / (zk.toInt64)) * (zk.toInt64)).toInt32)).toNatClampNeg = _ from hx0.2]; exact hy0)
      have f36 := (A6.keep Kq19)
      have r37 : own_R p e below _ _ T31 (mkF m 69 #[.val (.ref a), .val (.long jf), .second, .val (.int pm), .val (.ref b6), .val (.long jf), .second] [(.ref y0), (.ref b6)]) := r35.trans fun z_ kt => by
        refine X31.aaload hx (j := ((jf - (jf / (zk.toInt64)) * (zk.toInt64)).toInt32)) (v := (.ref y0)) (by rw [e31]; exact Ar34.1) (State.isArrayOf_alike hZ.alike Ar34.2.1) rfl Ar34.2.2 hin34 hat34 (g := (mkF m 68 #[.val (.ref a), .val (.long jf), .second, .val (.int pm), .val (.ref b6), .val (.long jf), .second] [(.int ((jf - (jf / (zk.toInt64)) * (zk.toInt64)).toInt32)), (.ref kp), (.ref b6)])) rfl rfl (hb hby d16_68) _ ?_
        exact kt
      have f38 := ((Ey0.ext E6).keep Kq19)
      obtain ⟨cq39, kq39, q39a, q39b, q39c⟩ := isOf hZ e31 f36
      obtain ⟨_, _, ⟨T39, L39, cc39, n39⟩, -, X39, ⟨Lc39, hQ39, l39, y39, z39⟩, st39⟩ := X31.interfaceBack hx (xi := (⟨"java/util/List", "add", "(Ljava/lang/Object;)Z"⟩ : MethodName)) (y := (⟨"java/util/ArrayList", "add", "(Ljava/lang/Object;)Z"⟩ : MethodName)) hown (mvT hZ (hw _ (own_g (i := 192) rfl))) (mvT hZ (hw _ (own_g (i := 193) rfl))) (mvT hZ (hw _ (own_g (i := 194) rfl))) (mvT hZ (hw _ (own_g (i := 195) rfl))) (mvT hZ (hw _ (own_g (i := 153) rfl))) (mvT hZ (hw _ (own_g (i := 196) rfl))) (mvT hZ (hw _ (own_g (i := 197) rfl))) (mvT hZ (hw _ (own_g (i := 148) rfl))) (by decide) (backOf (W := 0) (rm_addN l Z a0 hw [] (b6) (y0) (arr_w) ((0 : Int32)) (ka_w) (pd) ([]) ((0 : Int32)) h19 n0 O19 (f36) (g_b6) (p19_2) (p19_3) (p19_1) (p19_4) (g_arr_w) (p19_5) (f38) (rfl) (own_ltp ht0.2 (by decide))) hZ (hw _ (own_g (i := 155) rfl)) (hw _ (own_g (i := 30) rfl)) (by decide) (by decide)) q39a q39b q39c (g := (mkF m 69 #[.val (.ref a), .val (.long jf), .second, .val (.int pm), .val (.ref b6), .val (.long jf), .second] [(.ref y0), (.ref b6)])) rfl (by rw [hml]; rfl) (Steps.refl _) (argsL := [(.ref y0)]) (rest := []) (lenOf pd_15 rfl) rfl (by show 2 * 0 + _ ≤ _; exact Nat.le_of_eq rfl) (hb hby d16_69) (fun _ _ => ⟨rfl, e31, (by decide : 2 + 0 ≤ _), (by decide : 9 + 0 ≤ _)⟩)
      dsimp only [Pt.U, Pt.locs, Pt.cells, Pt.slots] at X39 l39 y39 z39 st39 hQ39
      subst l39 y39 z39
      obtain ⟨h39, e39⟩ : ∃ z, T39.heap = z := ⟨_, rfl⟩
      rw [e39] at hQ39
      obtain ⟨rfl, Nq39, Kq39, p39_0, p39_1, p39_2, p39_3⟩ := hQ39
      have N39 := Fr.app N19 Nq39
      have r39 : own_R p e below _ _ T39 (mkF m 74 #[.val (.ref a), .val (.long jf), .second, .val (.int pm), .val (.ref b6), .val (.long jf), .second] [(.int (1 : Int32))]) := r37.trans fun z_ kt => st39.trans kt
      have O39 := O19.keep Kq39 (allS g_b6 (allS g_arr_w all0))
      have K39 := K19.trans Kq39 (allS (Or.inr sz_b6) (allS (Or.inr sz_arr_w) all0))
      have r40 : own_R p e below _ _ T39 (mkF m 81 #[.val (.ref a), .val (.long jf), .second, .val (.int pm), .val (.ref b6), .val (.long (jf + (1 : Int64))), .second] []) := r39.trans fun z_ kt => by
        refine XS.pop X39.here hx rfl (hb hby d16_74) rfl rfl ?_
        refine XS.lload X39.here hx rfl (hb hby d16_75) rfl ?_
        refine XS.lconst X39.here hx rfl (hb hby d16_77) ?_
        refine XS.ladd X39.here hx rfl (hb hby d16_78) rfl ?_
        refine XS.lstore X39.here hx rfl (hb hby d16_79) rfl (l' := #[.val (.ref a), .val (.long jf), .second, .val (.int pm), .val (.ref b6), .val (.long (jf + (1 : Int64))), .second]) rfl ?_
        exact kt
      have V41 : Arv Z h39 arr_w ka_w (.object "java/lang/Object") pd [(.ref y0)] .null := p39_2
      have F42 : Fld Z h39 b6 "java/util/ArrayList" "size" "I" (.int (1 : Int32)) := p39_1
      have f43 := (f22.keep Kq39 (ninS ne_a_b6 (ninS ne_a_arr_w nin0)))
      have r44 : own_R p e below _ _ T39 (mkF m 45 #[.val (.ref a), .val (.long jf), .second, .val (.int pm), .val (.ref b6), .val (.long (jf + (1 : Int64))), .second] [(.ref a), (.long (jf + (1 : Int64)))]) := r40.trans fun z_ kt => by
        refine XS.goto X39.here hx rfl (pc0 := 81) (pc' := 42) rfl (hb hby d16_81) (by decide) (by decide) ?_
        refine XS.lload X39.here hx rfl (hb hby d16_42) rfl ?_
        refine XS.aloadN X39.here hx rfl (hb hby d16_44) rfl rfl ?_
        exact kt
      obtain ⟨T45, X45, e45, st45⟩ := getF X39 hx hZ hown (host := "") (Or.inl (hw _ (own_g (i := 115) rfl))) Via.refl e39 f43 (g := (mkF m 45 #[.val (.ref a), .val (.long jf), .second, .val (.int pm), .val (.ref b6), .val (.long (jf + (1 : Int64))), .second] [(.ref a), (.long (jf + (1 : Int64)))])) rfl rfl (hb hby d16_45)
      have r45 : own_R p e below _ _ T45 (mkF m 48 #[.val (.ref a), .val (.long jf), .second, .val (.int pm), .val (.ref b6), .val (.long (jf + (1 : Int64))), .second] [(.long jc), (.long (jf + (1 : Int64)))]) := r44.trans fun z_ kt => st45 _ kt
      have r46 : own_R p e below _ _ T45 (mkF m 49 #[.val (.ref a), .val (.long jf), .second, .val (.int pm), .val (.ref b6), .val (.long (jf + (1 : Int64))), .second] [(.int (lcmpW (jf + (1 : Int64)) jc))]) := r45.trans fun z_ kt => by
        refine XS.lcmp X45.here hx rfl (hb hby d16_48) rfl ?_
        exact kt
      by_cases hc49_47 : (lcmpW (jf + (1 : Int64)) jc) < (0 : Int32)
      · skip
        have ht1 : jf.toInt.toNat + 1 < vs.length ∧ (1 : Int) < pd.toInt := own_tG (n := 1) (by decide) hD hc49_47
        have f48 := (f27.keep Kq39 (ninS ne_a_b6 (ninS ne_a_arr_w nin0)))
        have r49 : own_R p e below _ _ T45 (mkF m 55 #[.val (.ref a), .val (.long jf), .second, .val (.int pm), .val (.ref b6), .val (.long (jf + (1 : Int64))), .second] [(.ref a), (.ref b6)]) := r46.trans fun z_ kt => by
          refine XS.ifNo X45.here hx rfl (hb hby d16_49) rfl ((if0 _ _).trans (tlt (hc49_47 : (lcmpW (jf + (1 : Int64)) jc) < (0 : Int32))).2.1) ?_
          refine XS.aload X45.here hx rfl (hb hby d16_52) rfl rfl ?_
          refine XS.aloadN X45.here hx rfl (hb hby d16_54) rfl rfl ?_
          exact kt
        obtain ⟨T50, X50, e50, st50⟩ := getF X45 hx hZ hown (host := "") (Or.inl (hw _ (own_g (i := 60) rfl))) Via.refl e45 f48 (g := (mkF m 55 #[.val (.ref a), .val (.long jf), .second, .val (.int pm), .val (.ref b6), .val (.long (jf + (1 : Int64))), .second] [(.ref a), (.ref b6)])) rfl rfl (hb hby d16_55)
        have r50 : own_R p e below _ _ T50 (mkF m 58 #[.val (.ref a), .val (.long jf), .second, .val (.int pm), .val (.ref b6), .val (.long (jf + (1 : Int64))), .second] [(.ref kp), (.ref b6)]) := r49.trans fun z_ kt => st50 _ kt
        have r51 : own_R p e below _ _ T50 (mkF m 61 #[.val (.ref a), .val (.long jf), .second, .val (.int pm), .val (.ref b6), .val (.long (jf + (1 : Int64))), .second] [(.ref a), (.long (jf + (1 : Int64))), (.ref kp), (.ref b6)]) := r50.trans fun z_ kt => by
          refine XS.lload X50.here hx rfl (hb hby d16_58) rfl ?_
          refine XS.aloadN X50.here hx rfl (hb hby d16_60) rfl rfl ?_
          exact kt
        obtain ⟨T52, X52, e52, st52⟩ := getF X50 hx hZ hown (host := "") (Or.inl (hw _ (own_g (i := 60) rfl))) Via.refl e50 f48 (g := (mkF m 61 #[.val (.ref a), .val (.long jf), .second, .val (.int pm), .val (.ref b6), .val (.long (jf + (1 : Int64))), .second] [(.ref a), (.long (jf + (1 : Int64))), (.ref kp), (.ref b6)])) rfl rfl (hb hby d16_61)
        have r52 : own_R p e below _ _ T52 (mkF m 64 #[.val (.ref a), .val (.long jf), .second, .val (.int pm), .val (.ref b6), .val (.long (jf + (1 : Int64))), .second] [(.ref kp), (.long (jf + (1 : Int64))), (.ref kp), (.ref b6)]) := r51.trans fun z_ kt => st52 _ kt
        have f53 := (f32.keep Kq39 (ninS ne_kp_b6 (ninS ne_kp_arr_w nin0)))
        obtain ⟨cl54, Ar54, q54, S54, M54, H54, G54⟩ := id f53
        have r56 : own_R p e below _ _ T52 (mkF m 68 #[.val (.ref a), .val (.long jf), .second, .val (.int pm), .val (.ref b6), .val (.long (jf + (1 : Int64))), .second] [(.int (((jf + (1 : Int64)) - ((jf + (1 : Int64)) / (zk.toInt64)) * (zk.toInt64)).toInt32)), (.ref kp), (.ref b6)]) := r52.trans fun z_ kt => by
          refine X52.arraylength hx (by rw [e52]; exact Ar54.1) (State.isArrayOf_alike hZ.alike Ar54.2.1) (g := (mkF m 64 #[.val (.ref a), .val (.long jf), .second, .val (.int pm), .val (.ref b6), .val (.long (jf + (1 : Int64))), .second] [(.ref kp), (.long (jf + (1 : Int64))), (.ref kp), (.ref b6)])) rfl rfl (hb hby d16_64) _ ?_
          rw [len_of S54 M54]
          refine XS.i2l X52.here hx rfl (hb hby d16_65) rfl ?_
          refine XS.lrem X52.here hx rfl (hb hby d16_66) rfl (own_zne hk.2) ?_
          refine XS.l2i X52.here hx rfl (hb hby d16_67) rfl ?_
          exact kt
        obtain ⟨cl55, Ar55, q55, S55, M55, H55, G55⟩ := id f53
        obtain ⟨y1, hy1, Ey1⟩ := hst.2 (jf.toInt.toNat + 1) ht1.1
        have hx1 := own_sxG (n := 1) hvl hk hjf (by decide) ht1.1
        have hin55 : ¬ ((((jf + (1 : Int64)) - ((jf + (1 : Int64)) / (zk.toInt64)) * (zk.toInt64)).toInt32) < 0 ∨ cl55.slots.size ≤ ((((jf + (1 : Int64)) - ((jf + (1 : Int64)) / (zk.toInt64)) * (zk.toInt64)).toInt32)).toNatClampNeg) := inb_of S55 hx1.1
        have hat55 : cl55.slots[((((jf + (1 : Int64)) - ((jf + (1 : Int64)) / (zk.toInt64)) * (zk.toInt64)).toInt32)).toNatClampNeg]? = some (.ref y1) := Has.at H55 hin55 (by rw [show ((((jf + (1 : Int64)) - ((jf + (1 : Int64)) / (zk.toInt64)) * (zk.toInt64)).toInt32)).toNatClampNeg = _ from hx1.2]; exact hy1)
        have f57 := (f36.keep Kq39)
        have r58 : own_R p e below _ _ T52 (mkF m 69 #[.val (.ref a), .val (.long jf), .second, .val (.int pm), .val (.ref b6), .val (.long (jf + (1 : Int64))), .second] [(.ref y1), (.ref b6)]) := r56.trans fun z_ kt => by
          refine X52.aaload hx (j := (((jf + (1 : Int64)) - ((jf + (1 : Int64)) / (zk.toInt64)) * (zk.toInt64)).toInt32)) (v := (.ref y1)) (by rw [e52]; exact Ar55.1) (State.isArrayOf_alike hZ.alike Ar55.2.1) rfl Ar55.2.2 hin55 hat55 (g := (mkF m 68 #[.val (.ref a), .val (.long jf), .second, .val (.int pm), .val (.ref b6), .val (.long (jf + (1 : Int64))), .second] [(.int (((jf + (1 : Int64)) - ((jf + (1 : Int64)) / (zk.toInt64)) * (zk.toInt64)).toInt32)), (.ref kp), (.ref b6)])) rfl rfl (hb hby d16_68) _ ?_
          exact kt
        have f59 := (((Ey1.ext E6).keep Kq19).keep Kq39)
        obtain ⟨cq60, kq60, q60a, q60b, q60c⟩ := isOf hZ e52 f57
        obtain ⟨_, _, ⟨T60, L60, cc60, n60⟩, -, X60, ⟨Lc60, hQ60, l60, y60, z60⟩, st60⟩ := X52.interfaceBack hx (xi := (⟨"java/util/List", "add", "(Ljava/lang/Object;)Z"⟩ : MethodName)) (y := (⟨"java/util/ArrayList", "add", "(Ljava/lang/Object;)Z"⟩ : MethodName)) hown (mvT hZ (hw _ (own_g (i := 192) rfl))) (mvT hZ (hw _ (own_g (i := 193) rfl))) (mvT hZ (hw _ (own_g (i := 194) rfl))) (mvT hZ (hw _ (own_g (i := 195) rfl))) (mvT hZ (hw _ (own_g (i := 153) rfl))) (mvT hZ (hw _ (own_g (i := 196) rfl))) (mvT hZ (hw _ (own_g (i := 197) rfl))) (mvT hZ (hw _ (own_g (i := 148) rfl))) (by decide) (backOf (W := 0) (rm_addN l Z a0 hw [] (b6) (y1) (arr_w) ((1 : Int32)) (ka_w) (pd) ([(.ref y0)]) (((0 : Int32) + (1 : Int32))) h39 n0 O39 (f57) (g_b6) (p39_0) (F42) (p39_3) (V41) (g_arr_w) (p19_5) (f59) (rfl) (own_ltp ht1.2 (by decide))) hZ (hw _ (own_g (i := 155) rfl)) (hw _ (own_g (i := 30) rfl)) (by decide) (by decide)) q60a q60b q60c (g := (mkF m 69 #[.val (.ref a), .val (.long jf), .second, .val (.int pm), .val (.ref b6), .val (.long (jf + (1 : Int64))), .second] [(.ref y1), (.ref b6)])) rfl (by rw [hml]; rfl) (Steps.refl _) (argsL := [(.ref y1)]) (rest := []) (lenOf pd_15 rfl) rfl (by show 2 * 0 + _ ≤ _; exact Nat.le_of_eq rfl) (hb hby d16_69) (fun _ _ => ⟨rfl, e52, (by decide : 2 + 0 ≤ _), (by decide : 9 + 0 ≤ _)⟩)
        dsimp only [Pt.U, Pt.locs, Pt.cells, Pt.slots] at X60 l60 y60 z60 st60 hQ60
        subst l60 y60 z60
        obtain ⟨h60, e60⟩ : ∃ z, T60.heap = z := ⟨_, rfl⟩
        rw [e60] at hQ60
        obtain ⟨rfl, Nq60, Kq60, p60_0, p60_1, p60_2, p60_3⟩ := hQ60
        have N60 := Fr.app N39 Nq60
        have r60 : own_R p e below _ _ T60 (mkF m 74 #[.val (.ref a), .val (.long jf), .second, .val (.int pm), .val (.ref b6), .val (.long (jf + (1 : Int64))), .second] [(.int (1 : Int32))]) := r58.trans fun z_ kt => st60.trans kt
        have O60 := O39.keep Kq60 (allS g_b6 (allS g_arr_w all0))
        have K60 := K39.trans Kq60 (allS (Or.inr sz_b6) (allS (Or.inr sz_arr_w) all0))
        have r61 : own_R p e below _ _ T60 (mkF m 81 #[.val (.ref a), .val (.long jf), .second, .val (.int pm), .val (.ref b6), .val (.long ((jf + (1 : Int64)) + (1 : Int64))), .second] []) := r60.trans fun z_ kt => by
          refine XS.pop X60.here hx rfl (hb hby d16_74) rfl rfl ?_
          refine XS.lload X60.here hx rfl (hb hby d16_75) rfl ?_
          refine XS.lconst X60.here hx rfl (hb hby d16_77) ?_
          refine XS.ladd X60.here hx rfl (hb hby d16_78) rfl ?_
          refine XS.lstore X60.here hx rfl (hb hby d16_79) rfl (l' := #[.val (.ref a), .val (.long jf), .second, .val (.int pm), .val (.ref b6), .val (.long ((jf + (1 : Int64)) + (1 : Int64))), .second]) rfl ?_
          exact kt
        have V62 : Arv Z h60 arr_w ka_w (.object "java/lang/Object") pd [(.ref y0), (.ref y1)] .null := p60_2
        have F63 : Fld Z h60 b6 "java/util/ArrayList" "size" "I" (.int (2 : Int32)) := p60_1
        have f64 := (f43.keep Kq60 (ninS ne_a_b6 (ninS ne_a_arr_w nin0)))
        have r65 : own_R p e below _ _ T60 (mkF m 45 #[.val (.ref a), .val (.long jf), .second, .val (.int pm), .val (.ref b6), .val (.long ((jf + (1 : Int64)) + (1 : Int64))), .second] [(.ref a), (.long ((jf + (1 : Int64)) + (1 : Int64)))]) := r61.trans fun z_ kt => by
          refine XS.goto X60.here hx rfl (pc0 := 81) (pc' := 42) rfl (hb hby d16_81) (by decide) (by decide) ?_
          refine XS.lload X60.here hx rfl (hb hby d16_42) rfl ?_
          refine XS.aloadN X60.here hx rfl (hb hby d16_44) rfl rfl ?_
          exact kt
        obtain ⟨T66, X66, e66, st66⟩ := getF X60 hx hZ hown (host := "") (Or.inl (hw _ (own_g (i := 115) rfl))) Via.refl e60 f64 (g := (mkF m 45 #[.val (.ref a), .val (.long jf), .second, .val (.int pm), .val (.ref b6), .val (.long ((jf + (1 : Int64)) + (1 : Int64))), .second] [(.ref a), (.long ((jf + (1 : Int64)) + (1 : Int64)))])) rfl rfl (hb hby d16_45)
        have r66 : own_R p e below _ _ T66 (mkF m 48 #[.val (.ref a), .val (.long jf), .second, .val (.int pm), .val (.ref b6), .val (.long ((jf + (1 : Int64)) + (1 : Int64))), .second] [(.long jc), (.long ((jf + (1 : Int64)) + (1 : Int64)))]) := r65.trans fun z_ kt => st66 _ kt
        have r67 : own_R p e below _ _ T66 (mkF m 49 #[.val (.ref a), .val (.long jf), .second, .val (.int pm), .val (.ref b6), .val (.long ((jf + (1 : Int64)) + (1 : Int64))), .second] [(.int (lcmpW ((jf + (1 : Int64)) + (1 : Int64)) jc))]) := r66.trans fun z_ kt => by
          refine XS.lcmp X66.here hx rfl (hb hby d16_48) rfl ?_
          exact kt
        by_cases hc49_68 : (lcmpW ((jf + (1 : Int64)) + (1 : Int64)) jc) < (0 : Int32)
        · skip
          have ht2 : jf.toInt.toNat + 2 < vs.length ∧ (2 : Int) < pd.toInt := own_tG (n := 2) (by decide) hD hc49_68
          have f69 := (f48.keep Kq60 (ninS ne_a_b6 (ninS ne_a_arr_w nin0)))
          have r70 : own_R p e below _ _ T66 (mkF m 55 #[.val (.ref a), .val (.long jf), .second, .val (.int pm), .val (.ref b6), .val (.long ((jf + (1 : Int64)) + (1 : Int64))), .second] [(.ref a), (.ref b6)]) := r67.trans fun z_ kt => by
            refine XS.ifNo X66.here hx rfl (hb hby d16_49) rfl ((if0 _ _).trans (tlt (hc49_68 : (lcmpW ((jf + (1 : Int64)) + (1 : Int64)) jc) < (0 : Int32))).2.1) ?_
            refine XS.aload X66.here hx rfl (hb hby d16_52) rfl rfl ?_
            refine XS.aloadN X66.here hx rfl (hb hby d16_54) rfl rfl ?_
            exact kt
          obtain ⟨T71, X71, e71, st71⟩ := getF X66 hx hZ hown (host := "") (Or.inl (hw _ (own_g (i := 60) rfl))) Via.refl e66 f69 (g := (mkF m 55 #[.val (.ref a), .val (.long jf), .second, .val (.int pm), .val (.ref b6), .val (.long ((jf + (1 : Int64)) + (1 : Int64))), .second] [(.ref a), (.ref b6)])) rfl rfl (hb hby d16_55)
          have r71 : own_R p e below _ _ T71 (mkF m 58 #[.val (.ref a), .val (.long jf), .second, .val (.int pm), .val (.ref b6), .val (.long ((jf + (1 : Int64)) + (1 : Int64))), .second] [(.ref kp), (.ref b6)]) := r70.trans fun z_ kt => st71 _ kt
          have r72 : own_R p e below _ _ T71 (mkF m 61 #[.val (.ref a), .val (.long jf), .second, .val (.int pm), .val (.ref b6), .val (.long ((jf + (1 : Int64)) + (1 : Int64))), .second] [(.ref a), (.long ((jf + (1 : Int64)) + (1 : Int64))), (.ref kp), (.ref b6)]) := r71.trans fun z_ kt => by
            refine XS.lload X71.here hx rfl (hb hby d16_58) rfl ?_
            refine XS.aloadN X71.here hx rfl (hb hby d16_60) rfl rfl ?_
            exact kt
          obtain ⟨T73, X73, e73, st73⟩ := getF X71 hx hZ hown (host := "") (Or.inl (hw _ (own_g (i := 60) rfl))) Via.refl e71 f69 (g := (mkF m 61 #[.val (.ref a), .val (.long jf), .second, .val (.int pm), .val (.ref b6), .val (.long ((jf + (1 : Int64)) + (1 : Int64))), .second] [(.ref a), (.long ((jf + (1 : Int64)) + (1 : Int64))), (.ref kp), (.ref b6)])) rfl rfl (hb hby d16_61)
          have r73 : own_R p e below _ _ T73 (mkF m 64 #[.val (.ref a), .val (.long jf), .second, .val (.int pm), .val (.ref b6), .val (.long ((jf + (1 : Int64)) + (1 : Int64))), .second] [(.ref kp), (.long ((jf + (1 : Int64)) + (1 : Int64))), (.ref kp), (.ref b6)]) := r72.trans fun z_ kt => st73 _ kt
          have f74 := (f53.keep Kq60 (ninS ne_kp_b6 (ninS ne_kp_arr_w nin0)))
          obtain ⟨cl75, Ar75, q75, S75, M75, H75, G75⟩ := id f74
          have r77 : own_R p e below _ _ T73 (mkF m 68 #[.val (.ref a), .val (.long jf), .second, .val (.int pm), .val (.ref b6), .val (.long ((jf + (1 : Int64)) + (1 : Int64))), .second] [(.int ((((jf + (1 : Int64)) + (1 : Int64)) - (((jf + (1 : Int64)) + (1 : Int64)) / (zk.toInt64)) * (zk.toInt64)).toInt32)), (.ref kp), (.ref b6)]) := r73.trans fun z_ kt => by
            refine X73.arraylength hx (by rw [e73]; exact Ar75.1) (State.isArrayOf_alike hZ.alike Ar75.2.1) (g := (mkF m 64 #[.val (.ref a), .val (.long jf), .second, .val (.int pm), .val (.ref b6), .val (.long ((jf + (1 : Int64)) + (1 : Int64))), .second] [(.ref kp), (.long ((jf + (1 : Int64)) + (1 : Int64))), (.ref kp), (.ref b6)])) rfl rfl (hb hby d16_64) _ ?_
            rw [len_of S75 M75]
            refine XS.i2l X73.here hx rfl (hb hby d16_65) rfl ?_
            refine XS.lrem X73.here hx rfl (hb hby d16_66) rfl (own_zne hk.2) ?_
            refine XS.l2i X73.here hx rfl (hb hby d16_67) rfl ?_
            exact kt
          obtain ⟨cl76, Ar76, q76, S76, M76, H76, G76⟩ := id f74
          obtain ⟨y2, hy2, Ey2⟩ := hst.2 (jf.toInt.toNat + 2) ht2.1
          have hx2 := own_sxG (n := 2) hvl hk hjf (by decide) ht2.1
          have hin76 : ¬ (((((jf + (1 : Int64)) + (1 : Int64)) - (((jf + (1 : Int64)) + (1 : Int64)) / (zk.toInt64)) * (zk.toInt64)).toInt32) < 0 ∨ cl76.slots.size ≤ (((((jf + (1 : Int64)) + (1 : Int64)) - (((jf + (1 : Int64)) + (1 : Int64)) / (zk.toInt64)) * (zk.toInt64)).toInt32)).toNatClampNeg) := inb_of S76 hx2.1
          have hat76 : cl76.slots[(((((jf + (1 : Int64)) + (1 : Int64)) - (((jf + (1 : Int64)) + (1 : Int64)) / (zk.toInt64)) * (zk.toInt64)).toInt32)).toNatClampNeg]? = some (.ref y2) := Has.at H76 hin76 (by rw [show (((((jf + (1 : Int64)) + (1 : Int64)) - (((jf + (1 : Int64)) + (1 : Int64)) / (zk.toInt64)) * (zk.toInt64)).toInt32)).toNatClampNeg = _ from hx2.2]; exact hy2)
          have f78 := (f57.keep Kq60)
          have r79 : own_R p e below _ _ T73 (mkF m 69 #[.val (.ref a), .val (.long jf), .second, .val (.int pm), .val (.ref b6), .val (.long ((jf + (1 : Int64)) + (1 : Int64))), .second] [(.ref y2), (.ref b6)]) := r77.trans fun z_ kt => by
            refine X73.aaload hx (j := ((((jf + (1 : Int64)) + (1 : Int64)) - (((jf + (1 : Int64)) + (1 : Int64)) / (zk.toInt64)) * (zk.toInt64)).toInt32)) (v := (.ref y2)) (by rw [e73]; exact Ar76.1) (State.isArrayOf_alike hZ.alike Ar76.2.1) rfl Ar76.2.2 hin76 hat76 (g := (mkF m 68 #[.val (.ref a), .val (.long jf), .second, .val (.int pm), .val (.ref b6), .val (.long ((jf + (1 : Int64)) + (1 : Int64))), .second] [(.int ((((jf + (1 : Int64)) + (1 : Int64)) - (((jf + (1 : Int64)) + (1 : Int64)) / (zk.toInt64)) * (zk.toInt64)).toInt32)), (.ref kp), (.ref b6)])) rfl rfl (hb hby d16_68) _ ?_
            exact kt
          have f80 := ((((Ey2.ext E6).keep Kq19).keep Kq39).keep Kq60)
          obtain ⟨cq81, kq81, q81a, q81b, q81c⟩ := isOf hZ e73 f78
          obtain ⟨_, _, ⟨T81, L81, cc81, n81⟩, -, X81, ⟨Lc81, hQ81, l81, y81, z81⟩, st81⟩ := X73.interfaceBack hx (xi := (⟨"java/util/List", "add", "(Ljava/lang/Object;)Z"⟩ : MethodName)) (y := (⟨"java/util/ArrayList", "add", "(Ljava/lang/Object;)Z"⟩ : MethodName)) hown (mvT hZ (hw _ (own_g (i := 192) rfl))) (mvT hZ (hw _ (own_g (i := 193) rfl))) (mvT hZ (hw _ (own_g (i := 194) rfl))) (mvT hZ (hw _ (own_g (i := 195) rfl))) (mvT hZ (hw _ (own_g (i := 153) rfl))) (mvT hZ (hw _ (own_g (i := 196) rfl))) (mvT hZ (hw _ (own_g (i := 197) rfl))) (mvT hZ (hw _ (own_g (i := 148) rfl))) (by decide) (backOf (W := 0) (rm_addN l Z a0 hw [] (b6) (y2) (arr_w) ((2 : Int32)) (ka_w) (pd) ([(.ref y0), (.ref y1)]) ((((0 : Int32) + (1 : Int32)) + (1 : Int32))) h60 n0 O60 (f78) (g_b6) (p60_0) (F63) (p60_3) (V62) (g_arr_w) (p19_5) (f80) (rfl) (own_ltp ht2.2 (by decide))) hZ (hw _ (own_g (i := 155) rfl)) (hw _ (own_g (i := 30) rfl)) (by decide) (by decide)) q81a q81b q81c (g := (mkF m 69 #[.val (.ref a), .val (.long jf), .second, .val (.int pm), .val (.ref b6), .val (.long ((jf + (1 : Int64)) + (1 : Int64))), .second] [(.ref y2), (.ref b6)])) rfl (by rw [hml]; rfl) (Steps.refl _) (argsL := [(.ref y2)]) (rest := []) (lenOf pd_15 rfl) rfl (by show 2 * 0 + _ ≤ _; exact Nat.le_of_eq rfl) (hb hby d16_69) (fun _ _ => ⟨rfl, e73, (by decide : 2 + 0 ≤ _), (by decide : 9 + 0 ≤ _)⟩)
          dsimp only [Pt.U, Pt.locs, Pt.cells, Pt.slots] at X81 l81 y81 z81 st81 hQ81
          subst l81 y81 z81
          obtain ⟨h81, e81⟩ : ∃ z, T81.heap = z := ⟨_, rfl⟩
          rw [e81] at hQ81
          obtain ⟨rfl, Nq81, Kq81, p81_0, p81_1, p81_2, p81_3⟩ := hQ81
          have N81 := Fr.app N60 Nq81
          have r81 : own_R p e below _ _ T81 (mkF m 74 #[.val (.ref a), .val (.long jf), .second, .val (.int pm), .val (.ref b6), .val (.long ((jf + (1 : Int64)) + (1 : Int64))), .second] [(.int (1 : Int32))]) := r79.trans fun z_ kt => st81.trans kt
          have O81 := O60.keep Kq81 (allS g_b6 (allS g_arr_w all0))
          have K81 := K60.trans Kq81 (allS (Or.inr sz_b6) (allS (Or.inr sz_arr_w) all0))
          have r82 : own_R p e below _ _ T81 (mkF m 81 #[.val (.ref a), .val (.long jf), .second, .val (.int pm), .val (.ref b6), .val (.long (((jf + (1 : Int64)) + (1 : Int64)) + (1 : Int64))), .second] []) := r81.trans fun z_ kt => by
            refine XS.pop X81.here hx rfl (hb hby d16_74) rfl rfl ?_
            refine XS.lload X81.here hx rfl (hb hby d16_75) rfl ?_
            refine XS.lconst X81.here hx rfl (hb hby d16_77) ?_
            refine XS.ladd X81.here hx rfl (hb hby d16_78) rfl ?_
            refine XS.lstore X81.here hx rfl (hb hby d16_79) rfl (l' := #[.val (.ref a), .val (.long jf), .second, .val (.int pm), .val (.ref b6), .val (.long (((jf + (1 : Int64)) + (1 : Int64)) + (1 : Int64))), .second]) rfl ?_
            exact kt
          have V83 : Arv Z h81 arr_w ka_w (.object "java/lang/Object") pd [(.ref y0), (.ref y1), (.ref y2)] .null := p81_2
          have F84 : Fld Z h81 b6 "java/util/ArrayList" "size" "I" (.int (3 : Int32)) := p81_1
          have f85 := (f64.keep Kq81 (ninS ne_a_b6 (ninS ne_a_arr_w nin0)))
          have r86 : own_R p e below _ _ T81 (mkF m 45 #[.val (.ref a), .val (.long jf), .second, .val (.int pm), .val (.ref b6), .val (.long (((jf + (1 : Int64)) + (1 : Int64)) + (1 : Int64))), .second] [(.ref a), (.long (((jf + (1 : Int64)) + (1 : Int64)) + (1 : Int64)))]) := r82.trans fun z_ kt => by
            refine XS.goto X81.here hx rfl (pc0 := 81) (pc' := 42) rfl (hb hby d16_81) (by decide) (by decide) ?_
            refine XS.lload X81.here hx rfl (hb hby d16_42) rfl ?_
            refine XS.aloadN X81.here hx rfl (hb hby d16_44) rfl rfl ?_
            exact kt
          obtain ⟨T87, X87, e87, st87⟩ := getF X81 hx hZ hown (host := "") (Or.inl (hw _ (own_g (i := 115) rfl))) Via.refl e81 f85 (g := (mkF m 45 #[.val (.ref a), .val (.long jf), .second, .val (.int pm), .val (.ref b6), .val (.long (((jf + (1 : Int64)) + (1 : Int64)) + (1 : Int64))), .second] [(.ref a), (.long (((jf + (1 : Int64)) + (1 : Int64)) + (1 : Int64)))])) rfl rfl (hb hby d16_45)
          have r87 : own_R p e below _ _ T87 (mkF m 48 #[.val (.ref a), .val (.long jf), .second, .val (.int pm), .val (.ref b6), .val (.long (((jf + (1 : Int64)) + (1 : Int64)) + (1 : Int64))), .second] [(.long jc), (.long (((jf + (1 : Int64)) + (1 : Int64)) + (1 : Int64)))]) := r86.trans fun z_ kt => st87 _ kt
          have r88 : own_R p e below _ _ T87 (mkF m 49 #[.val (.ref a), .val (.long jf), .second, .val (.int pm), .val (.ref b6), .val (.long (((jf + (1 : Int64)) + (1 : Int64)) + (1 : Int64))), .second] [(.int (lcmpW (((jf + (1 : Int64)) + (1 : Int64)) + (1 : Int64)) jc))]) := r87.trans fun z_ kt => by
            refine XS.lcmp X87.here hx rfl (hb hby d16_48) rfl ?_
            exact kt
          by_cases hc49_89 : (lcmpW (((jf + (1 : Int64)) + (1 : Int64)) + (1 : Int64)) jc) < (0 : Int32)
          · skip
            have ht3 : jf.toInt.toNat + 3 < vs.length ∧ (3 : Int) < pd.toInt := own_tG (n := 3) (by decide) hD hc49_89
            have f90 := (f69.keep Kq81 (ninS ne_a_b6 (ninS ne_a_arr_w nin0)))
            have r91 : own_R p e below _ _ T87 (mkF m 55 #[.val (.ref a), .val (.long jf), .second, .val (.int pm), .val (.ref b6), .val (.long (((jf + (1 : Int64)) + (1 : Int64)) + (1 : Int64))), .second] [(.ref a), (.ref b6)]) := r88.trans fun z_ kt => by
              refine XS.ifNo X87.here hx rfl (hb hby d16_49) rfl ((if0 _ _).trans (tlt (hc49_89 : (lcmpW (((jf + (1 : Int64)) + (1 : Int64)) + (1 : Int64)) jc) < (0 : Int32))).2.1) ?_
              refine XS.aload X87.here hx rfl (hb hby d16_52) rfl rfl ?_
              refine XS.aloadN X87.here hx rfl (hb hby d16_54) rfl rfl ?_
              exact kt
            obtain ⟨T92, X92, e92, st92⟩ := getF X87 hx hZ hown (host := "") (Or.inl (hw _ (own_g (i := 60) rfl))) Via.refl e87 f90 (g := (mkF m 55 #[.val (.ref a), .val (.long jf), .second, .val (.int pm), .val (.ref b6), .val (.long (((jf + (1 : Int64)) + (1 : Int64)) + (1 : Int64))), .second] [(.ref a), (.ref b6)])) rfl rfl (hb hby d16_55)
            have r92 : own_R p e below _ _ T92 (mkF m 58 #[.val (.ref a), .val (.long jf), .second, .val (.int pm), .val (.ref b6), .val (.long (((jf + (1 : Int64)) + (1 : Int64)) + (1 : Int64))), .second] [(.ref kp), (.ref b6)]) := r91.trans fun z_ kt => st92 _ kt
            have r93 : own_R p e below _ _ T92 (mkF m 61 #[.val (.ref a), .val (.long jf), .second, .val (.int pm), .val (.ref b6), .val (.long (((jf + (1 : Int64)) + (1 : Int64)) + (1 : Int64))), .second] [(.ref a), (.long (((jf + (1 : Int64)) + (1 : Int64)) + (1 : Int64))), (.ref kp), (.ref b6)]) := r92.trans fun z_ kt => by
              refine XS.lload X92.here hx rfl (hb hby d16_58) rfl ?_
              refine XS.aloadN X92.here hx rfl (hb hby d16_60) rfl rfl ?_
              exact kt
            obtain ⟨T94, X94, e94, st94⟩ := getF X92 hx hZ hown (host := "") (Or.inl (hw _ (own_g (i := 60) rfl))) Via.refl e92 f90 (g := (mkF m 61 #[.val (.ref a), .val (.long jf), .second, .val (.int pm), .val (.ref b6), .val (.long (((jf + (1 : Int64)) + (1 : Int64)) + (1 : Int64))), .second] [(.ref a), (.long (((jf + (1 : Int64)) + (1 : Int64)) + (1 : Int64))), (.ref kp), (.ref b6)])) rfl rfl (hb hby d16_61)
            have r94 : own_R p e below _ _ T94 (mkF m 64 #[.val (.ref a), .val (.long jf), .second, .val (.int pm), .val (.ref b6), .val (.long (((jf + (1 : Int64)) + (1 : Int64)) + (1 : Int64))), .second] [(.ref kp), (.long (((jf + (1 : Int64)) + (1 : Int64)) + (1 : Int64))), (.ref kp), (.ref b6)]) := r93.trans fun z_ kt => st94 _ kt
            have f95 := (f74.keep Kq81 (ninS ne_kp_b6 (ninS ne_kp_arr_w nin0)))
            obtain ⟨cl96, Ar96, q96, S96, M96, H96, G96⟩ := id f95
            have r98 : own_R p e below _ _ T94 (mkF m 68 #[.val (.ref a), .val (.long jf), .second, .val (.int pm), .val (.ref b6), .val (.long (((jf + (1 : Int64)) + (1 : Int64)) + (1 : Int64))), .second] [(.int (((((jf + (1 : Int64)) + (1 : Int64)) + (1 : Int64)) - ((((jf + (1 : Int64)) + (1 : Int64)) + (1 : Int64)) / (zk.toInt64)) * (zk.toInt64)).toInt32)), (.ref kp), (.ref b6)]) := r94.trans fun z_ kt => by
              refine X94.arraylength hx (by rw [e94]; exact Ar96.1) (State.isArrayOf_alike hZ.alike Ar96.2.1) (g := (mkF m 64 #[.val (.ref a), .val (.long jf), .second, .val (.int pm), .val (.ref b6), .val (.long (((jf + (1 : Int64)) + (1 : Int64)) + (1 : Int64))), .second] [(.ref kp), (.long (((jf + (1 : Int64)) + (1 : Int64)) + (1 : Int64))), (.ref kp), (.ref b6)])) rfl rfl (hb hby d16_64) _ ?_
              rw [len_of S96 M96]
              refine XS.i2l X94.here hx rfl (hb hby d16_65) rfl ?_
              refine XS.lrem X94.here hx rfl (hb hby d16_66) rfl (own_zne hk.2) ?_
              refine XS.l2i X94.here hx rfl (hb hby d16_67) rfl ?_
              exact kt
            obtain ⟨cl97, Ar97, q97, S97, M97, H97, G97⟩ := id f95
            obtain ⟨y3, hy3, Ey3⟩ := hst.2 (jf.toInt.toNat + 3) ht3.1
            have hx3 := own_sxG (n := 3) hvl hk hjf (by decide) ht3.1
            have hin97 : ¬ ((((((jf + (1 : Int64)) + (1 : Int64)) + (1 : Int64)) - ((((jf + (1 : Int64)) + (1 : Int64)) + (1 : Int64)) / (zk.toInt64)) * (zk.toInt64)).toInt32) < 0 ∨ cl97.slots.size ≤ ((((((jf + (1 : Int64)) + (1 : Int64)) + (1 : Int64)) - ((((jf + (1 : Int64)) + (1 : Int64)) + (1 : Int64)) / (zk.toInt64)) * (zk.toInt64)).toInt32)).toNatClampNeg) := inb_of S97 hx3.1
            have hat97 : cl97.slots[((((((jf + (1 : Int64)) + (1 : Int64)) + (1 : Int64)) - ((((jf + (1 : Int64)) + (1 : Int64)) + (1 : Int64)) / (zk.toInt64)) * (zk.toInt64)).toInt32)).toNatClampNeg]? = some (.ref y3) := Has.at H97 hin97 (by rw [show ((((((jf + (1 : Int64)) + (1 : Int64)) + (1 : Int64)) - ((((jf + (1 : Int64)) + (1 : Int64)) + (1 : Int64)) / (zk.toInt64)) * (zk.toInt64)).toInt32)).toNatClampNeg = _ from hx3.2]; exact hy3)
            have f99 := (f78.keep Kq81)
            have r100 : own_R p e below _ _ T94 (mkF m 69 #[.val (.ref a), .val (.long jf), .second, .val (.int pm), .val (.ref b6), .val (.long (((jf + (1 : Int64)) + (1 : Int64)) + (1 : Int64))), .second] [(.ref y3), (.ref b6)]) := r98.trans fun z_ kt => by
              refine X94.aaload hx (j := (((((jf + (1 : Int64)) + (1 : Int64)) + (1 : Int64)) - ((((jf + (1 : Int64)) + (1 : Int64)) + (1 : Int64)) / (zk.toInt64)) * (zk.toInt64)).toInt32)) (v := (.ref y3)) (by rw [e94]; exact Ar97.1) (State.isArrayOf_alike hZ.alike Ar97.2.1) rfl Ar97.2.2 hin97 hat97 (g := (mkF m 68 #[.val (.ref a), .val (.long jf), .second, .val (.int pm), .val (.ref b6), .val (.long (((jf + (1 : Int64)) + (1 : Int64)) + (1 : Int64))), .second] [(.int (((((jf + (1 : Int64)) + (1 : Int64)) + (1 : Int64)) - ((((jf + (1 : Int64)) + (1 : Int64)) + (1 : Int64)) / (zk.toInt64)) * (zk.toInt64)).toInt32)), (.ref kp), (.ref b6)])) rfl rfl (hb hby d16_68) _ ?_
              exact kt
            have f101 := (((((Ey3.ext E6).keep Kq19).keep Kq39).keep Kq60).keep Kq81)
            obtain ⟨cq102, kq102, q102a, q102b, q102c⟩ := isOf hZ e94 f99
            obtain ⟨_, _, ⟨T102, L102, cc102, n102⟩, -, X102, ⟨Lc102, hQ102, l102, y102, z102⟩, st102⟩ := X94.interfaceBack hx (xi := (⟨"java/util/List", "add", "(Ljava/lang/Object;)Z"⟩ : MethodName)) (y := (⟨"java/util/ArrayList", "add", "(Ljava/lang/Object;)Z"⟩ : MethodName)) hown (mvT hZ (hw _ (own_g (i := 192) rfl))) (mvT hZ (hw _ (own_g (i := 193) rfl))) (mvT hZ (hw _ (own_g (i := 194) rfl))) (mvT hZ (hw _ (own_g (i := 195) rfl))) (mvT hZ (hw _ (own_g (i := 153) rfl))) (mvT hZ (hw _ (own_g (i := 196) rfl))) (mvT hZ (hw _ (own_g (i := 197) rfl))) (mvT hZ (hw _ (own_g (i := 148) rfl))) (by decide) (backOf (W := 0) (rm_addN l Z a0 hw [] (b6) (y3) (arr_w) ((3 : Int32)) (ka_w) (pd) ([(.ref y0), (.ref y1), (.ref y2)]) (((((0 : Int32) + (1 : Int32)) + (1 : Int32)) + (1 : Int32))) h81 n0 O81 (f99) (g_b6) (p81_0) (F84) (p81_3) (V83) (g_arr_w) (p19_5) (f101) (rfl) (own_ltp ht3.2 (by decide))) hZ (hw _ (own_g (i := 155) rfl)) (hw _ (own_g (i := 30) rfl)) (by decide) (by decide)) q102a q102b q102c (g := (mkF m 69 #[.val (.ref a), .val (.long jf), .second, .val (.int pm), .val (.ref b6), .val (.long (((jf + (1 : Int64)) + (1 : Int64)) + (1 : Int64))), .second] [(.ref y3), (.ref b6)])) rfl (by rw [hml]; rfl) (Steps.refl _) (argsL := [(.ref y3)]) (rest := []) (lenOf pd_15 rfl) rfl (by show 2 * 0 + _ ≤ _; exact Nat.le_of_eq rfl) (hb hby d16_69) (fun _ _ => ⟨rfl, e94, (by decide : 2 + 0 ≤ _), (by decide : 9 + 0 ≤ _)⟩)
            dsimp only [Pt.U, Pt.locs, Pt.cells, Pt.slots] at X102 l102 y102 z102 st102 hQ102
            subst l102 y102 z102
            obtain ⟨h102, e102⟩ : ∃ z, T102.heap = z := ⟨_, rfl⟩
            rw [e102] at hQ102
            obtain ⟨rfl, Nq102, Kq102, p102_0, p102_1, p102_2, p102_3⟩ := hQ102
            have N102 := Fr.app N81 Nq102
            have r102 : own_R p e below _ _ T102 (mkF m 74 #[.val (.ref a), .val (.long jf), .second, .val (.int pm), .val (.ref b6), .val (.long (((jf + (1 : Int64)) + (1 : Int64)) + (1 : Int64))), .second] [(.int (1 : Int32))]) := r100.trans fun z_ kt => st102.trans kt
            have O102 := O81.keep Kq102 (allS g_b6 (allS g_arr_w all0))
            have K102 := K81.trans Kq102 (allS (Or.inr sz_b6) (allS (Or.inr sz_arr_w) all0))
            have r103 : own_R p e below _ _ T102 (mkF m 81 #[.val (.ref a), .val (.long jf), .second, .val (.int pm), .val (.ref b6), .val (.long ((((jf + (1 : Int64)) + (1 : Int64)) + (1 : Int64)) + (1 : Int64))), .second] []) := r102.trans fun z_ kt => by
              refine XS.pop X102.here hx rfl (hb hby d16_74) rfl rfl ?_
              refine XS.lload X102.here hx rfl (hb hby d16_75) rfl ?_
              refine XS.lconst X102.here hx rfl (hb hby d16_77) ?_
              refine XS.ladd X102.here hx rfl (hb hby d16_78) rfl ?_
              refine XS.lstore X102.here hx rfl (hb hby d16_79) rfl (l' := #[.val (.ref a), .val (.long jf), .second, .val (.int pm), .val (.ref b6), .val (.long ((((jf + (1 : Int64)) + (1 : Int64)) + (1 : Int64)) + (1 : Int64))), .second]) rfl ?_
              exact kt
            have V104 : Arv Z h102 arr_w ka_w (.object "java/lang/Object") pd [(.ref y0), (.ref y1), (.ref y2), (.ref y3)] .null := p102_2
            have F105 : Fld Z h102 b6 "java/util/ArrayList" "size" "I" (.int (4 : Int32)) := p102_1
            have f106 := (f85.keep Kq102 (ninS ne_a_b6 (ninS ne_a_arr_w nin0)))
            have r107 : own_R p e below _ _ T102 (mkF m 45 #[.val (.ref a), .val (.long jf), .second, .val (.int pm), .val (.ref b6), .val (.long ((((jf + (1 : Int64)) + (1 : Int64)) + (1 : Int64)) + (1 : Int64))), .second] [(.ref a), (.long ((((jf + (1 : Int64)) + (1 : Int64)) + (1 : Int64)) + (1 : Int64)))]) := r103.trans fun z_ kt => by
              refine XS.goto X102.here hx rfl (pc0 := 81) (pc' := 42) rfl (hb hby d16_81) (by decide) (by decide) ?_
              refine XS.lload X102.here hx rfl (hb hby d16_42) rfl ?_
              refine XS.aloadN X102.here hx rfl (hb hby d16_44) rfl rfl ?_
              exact kt
            obtain ⟨T108, X108, e108, st108⟩ := getF X102 hx hZ hown (host := "") (Or.inl (hw _ (own_g (i := 115) rfl))) Via.refl e102 f106 (g := (mkF m 45 #[.val (.ref a), .val (.long jf), .second, .val (.int pm), .val (.ref b6), .val (.long ((((jf + (1 : Int64)) + (1 : Int64)) + (1 : Int64)) + (1 : Int64))), .second] [(.ref a), (.long ((((jf + (1 : Int64)) + (1 : Int64)) + (1 : Int64)) + (1 : Int64)))])) rfl rfl (hb hby d16_45)
            have r108 : own_R p e below _ _ T108 (mkF m 48 #[.val (.ref a), .val (.long jf), .second, .val (.int pm), .val (.ref b6), .val (.long ((((jf + (1 : Int64)) + (1 : Int64)) + (1 : Int64)) + (1 : Int64))), .second] [(.long jc), (.long ((((jf + (1 : Int64)) + (1 : Int64)) + (1 : Int64)) + (1 : Int64)))]) := r107.trans fun z_ kt => st108 _ kt
            have r109 : own_R p e below _ _ T108 (mkF m 49 #[.val (.ref a), .val (.long jf), .second, .val (.int pm), .val (.ref b6), .val (.long ((((jf + (1 : Int64)) + (1 : Int64)) + (1 : Int64)) + (1 : Int64))), .second] [(.int (lcmpW ((((jf + (1 : Int64)) + (1 : Int64)) + (1 : Int64)) + (1 : Int64)) jc))]) := r108.trans fun z_ kt => by
              refine XS.lcmp X108.here hx rfl (hb hby d16_48) rfl ?_
              exact kt
            by_cases hc49_110 : (lcmpW ((((jf + (1 : Int64)) + (1 : Int64)) + (1 : Int64)) + (1 : Int64)) jc) < (0 : Int32)
            · skip
              have ht4 : jf.toInt.toNat + 4 < vs.length ∧ (4 : Int) < pd.toInt := own_tG (n := 4) (by decide) hD hc49_110
              have f111 := (f90.keep Kq102 (ninS ne_a_b6 (ninS ne_a_arr_w nin0)))
              have r112 : own_R p e below _ _ T108 (mkF m 55 #[.val (.ref a), .val (.long jf), .second, .val (.int pm), .val (.ref b6), .val (.long ((((jf + (1 : Int64)) + (1 : Int64)) + (1 : Int64)) + (1 : Int64))), .second] [(.ref a), (.ref b6)]) := r109.trans fun z_ kt => by
                refine XS.ifNo X108.here hx rfl (hb hby d16_49) rfl ((if0 _ _).trans (tlt (hc49_110 : (lcmpW ((((jf + (1 : Int64)) + (1 : Int64)) + (1 : Int64)) + (1 : Int64)) jc) < (0 : Int32))).2.1) ?_
                refine XS.aload X108.here hx rfl (hb hby d16_52) rfl rfl ?_
                refine XS.aloadN X108.here hx rfl (hb hby d16_54) rfl rfl ?_
                exact kt
              obtain ⟨T113, X113, e113, st113⟩ := getF X108 hx hZ hown (host := "") (Or.inl (hw _ (own_g (i := 60) rfl))) Via.refl e108 f111 (g := (mkF m 55 #[.val (.ref a), .val (.long jf), .second, .val (.int pm), .val (.ref b6), .val (.long ((((jf + (1 : Int64)) + (1 : Int64)) + (1 : Int64)) + (1 : Int64))), .second] [(.ref a), (.ref b6)])) rfl rfl (hb hby d16_55)
              have r113 : own_R p e below _ _ T113 (mkF m 58 #[.val (.ref a), .val (.long jf), .second, .val (.int pm), .val (.ref b6), .val (.long ((((jf + (1 : Int64)) + (1 : Int64)) + (1 : Int64)) + (1 : Int64))), .second] [(.ref kp), (.ref b6)]) := r112.trans fun z_ kt => st113 _ kt
              have r114 : own_R p e below _ _ T113 (mkF m 61 #[.val (.ref a), .val (.long jf), .second, .val (.int pm), .val (.ref b6), .val (.long ((((jf + (1 : Int64)) + (1 : Int64)) + (1 : Int64)) + (1 : Int64))), .second] [(.ref a), (.long ((((jf + (1 : Int64)) + (1 : Int64)) + (1 : Int64)) + (1 : Int64))), (.ref kp), (.ref b6)]) := r113.trans fun z_ kt => by
                refine XS.lload X113.here hx rfl (hb hby d16_58) rfl ?_
                refine XS.aloadN X113.here hx rfl (hb hby d16_60) rfl rfl ?_
                exact kt
              obtain ⟨T115, X115, e115, st115⟩ := getF X113 hx hZ hown (host := "") (Or.inl (hw _ (own_g (i := 60) rfl))) Via.refl e113 f111 (g := (mkF m 61 #[.val (.ref a), .val (.long jf), .second, .val (.int pm), .val (.ref b6), .val (.long ((((jf + (1 : Int64)) + (1 : Int64)) + (1 : Int64)) + (1 : Int64))), .second] [(.ref a), (.long ((((jf + (1 : Int64)) + (1 : Int64)) + (1 : Int64)) + (1 : Int64))), (.ref kp), (.ref b6)])) rfl rfl (hb hby d16_61)
              have r115 : own_R p e below _ _ T115 (mkF m 64 #[.val (.ref a), .val (.long jf), .second, .val (.int pm), .val (.ref b6), .val (.long ((((jf + (1 : Int64)) + (1 : Int64)) + (1 : Int64)) + (1 : Int64))), .second] [(.ref kp), (.long ((((jf + (1 : Int64)) + (1 : Int64)) + (1 : Int64)) + (1 : Int64))), (.ref kp), (.ref b6)]) := r114.trans fun z_ kt => st115 _ kt
              have f116 := (f95.keep Kq102 (ninS ne_kp_b6 (ninS ne_kp_arr_w nin0)))
              obtain ⟨cl117, Ar117, q117, S117, M117, H117, G117⟩ := id f116
              have r119 : own_R p e below _ _ T115 (mkF m 68 #[.val (.ref a), .val (.long jf), .second, .val (.int pm), .val (.ref b6), .val (.long ((((jf + (1 : Int64)) + (1 : Int64)) + (1 : Int64)) + (1 : Int64))), .second] [(.int ((((((jf + (1 : Int64)) + (1 : Int64)) + (1 : Int64)) + (1 : Int64)) - (((((jf + (1 : Int64)) + (1 : Int64)) + (1 : Int64)) + (1 : Int64)) / (zk.toInt64)) * (zk.toInt64)).toInt32)), (.ref kp), (.ref b6)]) := r115.trans fun z_ kt => by
                refine X115.arraylength hx (by rw [e115]; exact Ar117.1) (State.isArrayOf_alike hZ.alike Ar117.2.1) (g := (mkF m 64 #[.val (.ref a), .val (.long jf), .second, .val (.int pm), .val (.ref b6), .val (.long ((((jf + (1 : Int64)) + (1 : Int64)) + (1 : Int64)) + (1 : Int64))), .second] [(.ref kp), (.long ((((jf + (1 : Int64)) + (1 : Int64)) + (1 : Int64)) + (1 : Int64))), (.ref kp), (.ref b6)])) rfl rfl (hb hby d16_64) _ ?_
                rw [len_of S117 M117]
                refine XS.i2l X115.here hx rfl (hb hby d16_65) rfl ?_
                refine XS.lrem X115.here hx rfl (hb hby d16_66) rfl (own_zne hk.2) ?_
                refine XS.l2i X115.here hx rfl (hb hby d16_67) rfl ?_
                exact kt
              obtain ⟨cl118, Ar118, q118, S118, M118, H118, G118⟩ := id f116
              obtain ⟨y4, hy4, Ey4⟩ := hst.2 (jf.toInt.toNat + 4) ht4.1
              have hx4 := own_sxG (n := 4) hvl hk hjf (by decide) ht4.1
              have hin118 : ¬ (((((((jf + (1 : Int64)) + (1 : Int64)) + (1 : Int64)) + (1 : Int64)) - (((((jf + (1 : Int64)) + (1 : Int64)) + (1 : Int64)) + (1 : Int64)) / (zk.toInt64)) * (zk.toInt64)).toInt32) < 0 ∨ cl118.slots.size ≤ (((((((jf + (1 : Int64)) + (1 : Int64)) + (1 : Int64)) + (1 : Int64)) - (((((jf + (1 : Int64)) + (1 : Int64)) + (1 : Int64)) + (1 : Int64)) / (zk.toInt64)) * (zk.toInt64)).toInt32)).toNatClampNeg) := inb_of S118 hx4.1
              have hat118 : cl118.slots[(((((((jf + (1 : Int64)) + (1 : Int64)) + (1 : Int64)) + (1 : Int64)) - (((((jf + (1 : Int64)) + (1 : Int64)) + (1 : Int64)) + (1 : Int64)) / (zk.toInt64)) * (zk.toInt64)).toInt32)).toNatClampNeg]? = some (.ref y4) := Has.at H118 hin118 (by rw [show (((((((jf + (1 : Int64)) + (1 : Int64)) + (1 : Int64)) + (1 : Int64)) - (((((jf + (1 : Int64)) + (1 : Int64)) + (1 : Int64)) + (1 : Int64)) / (zk.toInt64)) * (zk.toInt64)).toInt32)).toNatClampNeg = _ from hx4.2]; exact hy4)
              have f120 := (f99.keep Kq102)
              have r121 : own_R p e below _ _ T115 (mkF m 69 #[.val (.ref a), .val (.long jf), .second, .val (.int pm), .val (.ref b6), .val (.long ((((jf + (1 : Int64)) + (1 : Int64)) + (1 : Int64)) + (1 : Int64))), .second] [(.ref y4), (.ref b6)]) := r119.trans fun z_ kt => by
                refine X115.aaload hx (j := ((((((jf + (1 : Int64)) + (1 : Int64)) + (1 : Int64)) + (1 : Int64)) - (((((jf + (1 : Int64)) + (1 : Int64)) + (1 : Int64)) + (1 : Int64)) / (zk.toInt64)) * (zk.toInt64)).toInt32)) (v := (.ref y4)) (by rw [e115]; exact Ar118.1) (State.isArrayOf_alike hZ.alike Ar118.2.1) rfl Ar118.2.2 hin118 hat118 (g := (mkF m 68 #[.val (.ref a), .val (.long jf), .second, .val (.int pm), .val (.ref b6), .val (.long ((((jf + (1 : Int64)) + (1 : Int64)) + (1 : Int64)) + (1 : Int64))), .second] [(.int ((((((jf + (1 : Int64)) + (1 : Int64)) + (1 : Int64)) + (1 : Int64)) - (((((jf + (1 : Int64)) + (1 : Int64)) + (1 : Int64)) + (1 : Int64)) / (zk.toInt64)) * (zk.toInt64)).toInt32)), (.ref kp), (.ref b6)])) rfl rfl (hb hby d16_68) _ ?_
                exact kt
              have f122 := ((((((Ey4.ext E6).keep Kq19).keep Kq39).keep Kq60).keep Kq81).keep Kq102)
              obtain ⟨cq123, kq123, q123a, q123b, q123c⟩ := isOf hZ e115 f120
              obtain ⟨_, _, ⟨T123, L123, cc123, n123⟩, -, X123, ⟨Lc123, hQ123, l123, y123, z123⟩, st123⟩ := X115.interfaceBack hx (xi := (⟨"java/util/List", "add", "(Ljava/lang/Object;)Z"⟩ : MethodName)) (y := (⟨"java/util/ArrayList", "add", "(Ljava/lang/Object;)Z"⟩ : MethodName)) hown (mvT hZ (hw _ (own_g (i := 192) rfl))) (mvT hZ (hw _ (own_g (i := 193) rfl))) (mvT hZ (hw _ (own_g (i := 194) rfl))) (mvT hZ (hw _ (own_g (i := 195) rfl))) (mvT hZ (hw _ (own_g (i := 153) rfl))) (mvT hZ (hw _ (own_g (i := 196) rfl))) (mvT hZ (hw _ (own_g (i := 197) rfl))) (mvT hZ (hw _ (own_g (i := 148) rfl))) (by decide) (backOf (W := 0) (rm_addN l Z a0 hw [] (b6) (y4) (arr_w) ((4 : Int32)) (ka_w) (pd) ([(.ref y0), (.ref y1), (.ref y2), (.ref y3)]) ((((((0 : Int32) + (1 : Int32)) + (1 : Int32)) + (1 : Int32)) + (1 : Int32))) h102 n0 O102 (f120) (g_b6) (p102_0) (F105) (p102_3) (V104) (g_arr_w) (p19_5) (f122) (rfl) (own_ltp ht4.2 (by decide))) hZ (hw _ (own_g (i := 155) rfl)) (hw _ (own_g (i := 30) rfl)) (by decide) (by decide)) q123a q123b q123c (g := (mkF m 69 #[.val (.ref a), .val (.long jf), .second, .val (.int pm), .val (.ref b6), .val (.long ((((jf + (1 : Int64)) + (1 : Int64)) + (1 : Int64)) + (1 : Int64))), .second] [(.ref y4), (.ref b6)])) rfl (by rw [hml]; rfl) (Steps.refl _) (argsL := [(.ref y4)]) (rest := []) (lenOf pd_15 rfl) rfl (by show 2 * 0 + _ ≤ _; exact Nat.le_of_eq rfl) (hb hby d16_69) (fun _ _ => ⟨rfl, e115, (by decide : 2 + 0 ≤ _), (by decide : 9 + 0 ≤ _)⟩)
              dsimp only [Pt.U, Pt.locs, Pt.cells, Pt.slots] at X123 l123 y123 z123 st123 hQ123
              subst l123 y123 z123
              obtain ⟨h123, e123⟩ : ∃ z, T123.heap = z := ⟨_, rfl⟩
              rw [e123] at hQ123
              obtain ⟨rfl, Nq123, Kq123, p123_0, p123_1, p123_2, p123_3⟩ := hQ123
              have N123 := Fr.app N102 Nq123
              have r123 : own_R p e below _ _ T123 (mkF m 74 #[.val (.ref a), .val (.long jf), .second, .val (.int pm), .val (.ref b6), .val (.long ((((jf + (1 : Int64)) + (1 : Int64)) + (1 : Int64)) + (1 : Int64))), .second] [(.int (1 : Int32))]) := r121.trans fun z_ kt => st123.trans kt
              have O123 := O102.keep Kq123 (allS g_b6 (allS g_arr_w all0))
              have K123 := K102.trans Kq123 (allS (Or.inr sz_b6) (allS (Or.inr sz_arr_w) all0))
              have r124 : own_R p e below _ _ T123 (mkF m 81 #[.val (.ref a), .val (.long jf), .second, .val (.int pm), .val (.ref b6), .val (.long (((((jf + (1 : Int64)) + (1 : Int64)) + (1 : Int64)) + (1 : Int64)) + (1 : Int64))), .second] []) := r123.trans fun z_ kt => by
                refine XS.pop X123.here hx rfl (hb hby d16_74) rfl rfl ?_
                refine XS.lload X123.here hx rfl (hb hby d16_75) rfl ?_
                refine XS.lconst X123.here hx rfl (hb hby d16_77) ?_
                refine XS.ladd X123.here hx rfl (hb hby d16_78) rfl ?_
                refine XS.lstore X123.here hx rfl (hb hby d16_79) rfl (l' := #[.val (.ref a), .val (.long jf), .second, .val (.int pm), .val (.ref b6), .val (.long (((((jf + (1 : Int64)) + (1 : Int64)) + (1 : Int64)) + (1 : Int64)) + (1 : Int64))), .second]) rfl ?_
                exact kt
              have V125 : Arv Z h123 arr_w ka_w (.object "java/lang/Object") pd [(.ref y0), (.ref y1), (.ref y2), (.ref y3), (.ref y4)] .null := p123_2
              have F126 : Fld Z h123 b6 "java/util/ArrayList" "size" "I" (.int (5 : Int32)) := p123_1
              have f127 := (f106.keep Kq123 (ninS ne_a_b6 (ninS ne_a_arr_w nin0)))
              have r128 : own_R p e below _ _ T123 (mkF m 45 #[.val (.ref a), .val (.long jf), .second, .val (.int pm), .val (.ref b6), .val (.long (((((jf + (1 : Int64)) + (1 : Int64)) + (1 : Int64)) + (1 : Int64)) + (1 : Int64))), .second] [(.ref a), (.long (((((jf + (1 : Int64)) + (1 : Int64)) + (1 : Int64)) + (1 : Int64)) + (1 : Int64)))]) := r124.trans fun z_ kt => by
                refine XS.goto X123.here hx rfl (pc0 := 81) (pc' := 42) rfl (hb hby d16_81) (by decide) (by decide) ?_
                refine XS.lload X123.here hx rfl (hb hby d16_42) rfl ?_
                refine XS.aloadN X123.here hx rfl (hb hby d16_44) rfl rfl ?_
                exact kt
              obtain ⟨T129, X129, e129, st129⟩ := getF X123 hx hZ hown (host := "") (Or.inl (hw _ (own_g (i := 115) rfl))) Via.refl e123 f127 (g := (mkF m 45 #[.val (.ref a), .val (.long jf), .second, .val (.int pm), .val (.ref b6), .val (.long (((((jf + (1 : Int64)) + (1 : Int64)) + (1 : Int64)) + (1 : Int64)) + (1 : Int64))), .second] [(.ref a), (.long (((((jf + (1 : Int64)) + (1 : Int64)) + (1 : Int64)) + (1 : Int64)) + (1 : Int64)))])) rfl rfl (hb hby d16_45)
              have r129 : own_R p e below _ _ T129 (mkF m 48 #[.val (.ref a), .val (.long jf), .second, .val (.int pm), .val (.ref b6), .val (.long (((((jf + (1 : Int64)) + (1 : Int64)) + (1 : Int64)) + (1 : Int64)) + (1 : Int64))), .second] [(.long jc), (.long (((((jf + (1 : Int64)) + (1 : Int64)) + (1 : Int64)) + (1 : Int64)) + (1 : Int64)))]) := r128.trans fun z_ kt => st129 _ kt
              have r130 : own_R p e below _ _ T129 (mkF m 49 #[.val (.ref a), .val (.long jf), .second, .val (.int pm), .val (.ref b6), .val (.long (((((jf + (1 : Int64)) + (1 : Int64)) + (1 : Int64)) + (1 : Int64)) + (1 : Int64))), .second] [(.int (lcmpW (((((jf + (1 : Int64)) + (1 : Int64)) + (1 : Int64)) + (1 : Int64)) + (1 : Int64)) jc))]) := r129.trans fun z_ kt => by
                refine XS.lcmp X129.here hx rfl (hb hby d16_48) rfl ?_
                exact kt
              by_cases hc49_131 : (lcmpW (((((jf + (1 : Int64)) + (1 : Int64)) + (1 : Int64)) + (1 : Int64)) + (1 : Int64)) jc) < (0 : Int32)
              · skip
                have ht5 : jf.toInt.toNat + 5 < vs.length ∧ (5 : Int) < pd.toInt := own_tG (n := 5) (by decide) hD hc49_131
                have f132 := (f111.keep Kq123 (ninS ne_a_b6 (ninS ne_a_arr_w nin0)))
                have r133 : own_R p e below _ _ T129 (mkF m 55 #[.val (.ref a), .val (.long jf), .second, .val (.int pm), .val (.ref b6), .val (.long (((((jf + (1 : Int64)) + (1 : Int64)) + (1 : Int64)) + (1 : Int64)) + (1 : Int64))), .second] [(.ref a), (.ref b6)]) := r130.trans fun z_ kt => by
                  refine XS.ifNo X129.here hx rfl (hb hby d16_49) rfl ((if0 _ _).trans (tlt (hc49_131 : (lcmpW (((((jf + (1 : Int64)) + (1 : Int64)) + (1 : Int64)) + (1 : Int64)) + (1 : Int64)) jc) < (0 : Int32))).2.1) ?_
                  refine XS.aload X129.here hx rfl (hb hby d16_52) rfl rfl ?_
                  refine XS.aloadN X129.here hx rfl (hb hby d16_54) rfl rfl ?_
                  exact kt
                obtain ⟨T134, X134, e134, st134⟩ := getF X129 hx hZ hown (host := "") (Or.inl (hw _ (own_g (i := 60) rfl))) Via.refl e129 f132 (g := (mkF m 55 #[.val (.ref a), .val (.long jf), .second, .val (.int pm), .val (.ref b6), .val (.long (((((jf + (1 : Int64)) + (1 : Int64)) + (1 : Int64)) + (1 : Int64)) + (1 : Int64))), .second] [(.ref a), (.ref b6)])) rfl rfl (hb hby d16_55)
                have r134 : own_R p e below _ _ T134 (mkF m 58 #[.val (.ref a), .val (.long jf), .second, .val (.int pm), .val (.ref b6), .val (.long (((((jf + (1 : Int64)) + (1 : Int64)) + (1 : Int64)) + (1 : Int64)) + (1 : Int64))), .second] [(.ref kp), (.ref b6)]) := r133.trans fun z_ kt => st134 _ kt
                have r135 : own_R p e below _ _ T134 (mkF m 61 #[.val (.ref a), .val (.long jf), .second, .val (.int pm), .val (.ref b6), .val (.long (((((jf + (1 : Int64)) + (1 : Int64)) + (1 : Int64)) + (1 : Int64)) + (1 : Int64))), .second] [(.ref a), (.long (((((jf + (1 : Int64)) + (1 : Int64)) + (1 : Int64)) + (1 : Int64)) + (1 : Int64))), (.ref kp), (.ref b6)]) := r134.trans fun z_ kt => by
                  refine XS.lload X134.here hx rfl (hb hby d16_58) rfl ?_
                  refine XS.aloadN X134.here hx rfl (hb hby d16_60) rfl rfl ?_
                  exact kt
                obtain ⟨T136, X136, e136, st136⟩ := getF X134 hx hZ hown (host := "") (Or.inl (hw _ (own_g (i := 60) rfl))) Via.refl e134 f132 (g := (mkF m 61 #[.val (.ref a), .val (.long jf), .second, .val (.int pm), .val (.ref b6), .val (.long (((((jf + (1 : Int64)) + (1 : Int64)) + (1 : Int64)) + (1 : Int64)) + (1 : Int64))), .second] [(.ref a), (.long (((((jf + (1 : Int64)) + (1 : Int64)) + (1 : Int64)) + (1 : Int64)) + (1 : Int64))), (.ref kp), (.ref b6)])) rfl rfl (hb hby d16_61)
                have r136 : own_R p e below _ _ T136 (mkF m 64 #[.val (.ref a), .val (.long jf), .second, .val (.int pm), .val (.ref b6), .val (.long (((((jf + (1 : Int64)) + (1 : Int64)) + (1 : Int64)) + (1 : Int64)) + (1 : Int64))), .second] [(.ref kp), (.long (((((jf + (1 : Int64)) + (1 : Int64)) + (1 : Int64)) + (1 : Int64)) + (1 : Int64))), (.ref kp), (.ref b6)]) := r135.trans fun z_ kt => st136 _ kt
                have f137 := (f116.keep Kq123 (ninS ne_kp_b6 (ninS ne_kp_arr_w nin0)))
                obtain ⟨cl138, Ar138, q138, S138, M138, H138, G138⟩ := id f137
                have r140 : own_R p e below _ _ T136 (mkF m 68 #[.val (.ref a), .val (.long jf), .second, .val (.int pm), .val (.ref b6), .val (.long (((((jf + (1 : Int64)) + (1 : Int64)) + (1 : Int64)) + (1 : Int64)) + (1 : Int64))), .second] [(.int (((((((jf + (1 : Int64)) + (1 : Int64)) + (1 : Int64)) + (1 : Int64)) + (1 : Int64)) - ((((((jf + (1 : Int64)) + (1 : Int64)) + (1 : Int64)) + (1 : Int64)) + (1 : Int64)) / (zk.toInt64)) * (zk.toInt64)).toInt32)), (.ref kp), (.ref b6)]) := r136.trans fun z_ kt => by
                  refine X136.arraylength hx (by rw [e136]; exact Ar138.1) (State.isArrayOf_alike hZ.alike Ar138.2.1) (g := (mkF m 64 #[.val (.ref a), .val (.long jf), .second, .val (.int pm), .val (.ref b6), .val (.long (((((jf + (1 : Int64)) + (1 : Int64)) + (1 : Int64)) + (1 : Int64)) + (1 : Int64))), .second] [(.ref kp), (.long (((((jf + (1 : Int64)) + (1 : Int64)) + (1 : Int64)) + (1 : Int64)) + (1 : Int64))), (.ref kp), (.ref b6)])) rfl rfl (hb hby d16_64) _ ?_
                  rw [len_of S138 M138]
                  refine XS.i2l X136.here hx rfl (hb hby d16_65) rfl ?_
                  refine XS.lrem X136.here hx rfl (hb hby d16_66) rfl (own_zne hk.2) ?_
                  refine XS.l2i X136.here hx rfl (hb hby d16_67) rfl ?_
                  exact kt
                obtain ⟨cl139, Ar139, q139, S139, M139, H139, G139⟩ := id f137
                obtain ⟨y5, hy5, Ey5⟩ := hst.2 (jf.toInt.toNat + 5) ht5.1
                have hx5 := own_sxG (n := 5) hvl hk hjf (by decide) ht5.1
                have hin139 : ¬ ((((((((jf + (1 : Int64)) + (1 : Int64)) + (1 : Int64)) + (1 : Int64)) + (1 : Int64)) - ((((((jf + (1 : Int64)) + (1 : Int64)) + (1 : Int64)) + (1 : Int64)) + (1 : Int64)) / (zk.toInt64)) * (zk.toInt64)).toInt32) < 0 ∨ cl139.slots.size ≤ ((((((((jf + (1 : Int64)) + (1 : Int64)) + (1 : Int64)) + (1 : Int64)) + (1 : Int64)) - ((((((jf + (1 : Int64)) + (1 : Int64)) + (1 : Int64)) + (1 : Int64)) + (1 : Int64)) / (zk.toInt64)) * (zk.toInt64)).toInt32)).toNatClampNeg) := inb_of S139 hx5.1
                have hat139 : cl139.slots[((((((((jf + (1 : Int64)) + (1 : Int64)) + (1 : Int64)) + (1 : Int64)) + (1 : Int64)) - ((((((jf + (1 : Int64)) + (1 : Int64)) + (1 : Int64)) + (1 : Int64)) + (1 : Int64)) / (zk.toInt64)) * (zk.toInt64)).toInt32)).toNatClampNeg]? = some (.ref y5) := Has.at H139 hin139 (by rw [show ((((((((jf + (1 : Int64)) + (1 : Int64)) + (1 : Int64)) + (1 : Int64)) + (1 : Int64)) - ((((((jf + (1 : Int64)) + (1 : Int64)) + (1 : Int64)) + (1 : Int64)) + (1 : Int64)) / (zk.toInt64)) * (zk.toInt64)).toInt32)).toNatClampNeg = _ from hx5.2]; exact hy5)
                have f141 := (f120.keep Kq123)
                have r142 : own_R p e below _ _ T136 (mkF m 69 #[.val (.ref a), .val (.long jf), .second, .val (.int pm), .val (.ref b6), .val (.long (((((jf + (1 : Int64)) + (1 : Int64)) + (1 : Int64)) + (1 : Int64)) + (1 : Int64))), .second] [(.ref y5), (.ref b6)]) := r140.trans fun z_ kt => by
                  refine X136.aaload hx (j := (((((((jf + (1 : Int64)) + (1 : Int64)) + (1 : Int64)) + (1 : Int64)) + (1 : Int64)) - ((((((jf + (1 : Int64)) + (1 : Int64)) + (1 : Int64)) + (1 : Int64)) + (1 : Int64)) / (zk.toInt64)) * (zk.toInt64)).toInt32)) (v := (.ref y5)) (by rw [e136]; exact Ar139.1) (State.isArrayOf_alike hZ.alike Ar139.2.1) rfl Ar139.2.2 hin139 hat139 (g := (mkF m 68 #[.val (.ref a), .val (.long jf), .second, .val (.int pm), .val (.ref b6), .val (.long (((((jf + (1 : Int64)) + (1 : Int64)) + (1 : Int64)) + (1 : Int64)) + (1 : Int64))), .second] [(.int (((((((jf + (1 : Int64)) + (1 : Int64)) + (1 : Int64)) + (1 : Int64)) + (1 : Int64)) - ((((((jf + (1 : Int64)) + (1 : Int64)) + (1 : Int64)) + (1 : Int64)) + (1 : Int64)) / (zk.toInt64)) * (zk.toInt64)).toInt32)), (.ref kp), (.ref b6)])) rfl rfl (hb hby d16_68) _ ?_
                  exact kt
                have f143 := (((((((Ey5.ext E6).keep Kq19).keep Kq39).keep Kq60).keep Kq81).keep Kq102).keep Kq123)
                obtain ⟨cq144, kq144, q144a, q144b, q144c⟩ := isOf hZ e136 f141
                obtain ⟨_, _, ⟨T144, L144, cc144, n144⟩, -, X144, ⟨Lc144, hQ144, l144, y144, z144⟩, st144⟩ := X136.interfaceBack hx (xi := (⟨"java/util/List", "add", "(Ljava/lang/Object;)Z"⟩ : MethodName)) (y := (⟨"java/util/ArrayList", "add", "(Ljava/lang/Object;)Z"⟩ : MethodName)) hown (mvT hZ (hw _ (own_g (i := 192) rfl))) (mvT hZ (hw _ (own_g (i := 193) rfl))) (mvT hZ (hw _ (own_g (i := 194) rfl))) (mvT hZ (hw _ (own_g (i := 195) rfl))) (mvT hZ (hw _ (own_g (i := 153) rfl))) (mvT hZ (hw _ (own_g (i := 196) rfl))) (mvT hZ (hw _ (own_g (i := 197) rfl))) (mvT hZ (hw _ (own_g (i := 148) rfl))) (by decide) (backOf (W := 0) (rm_addN l Z a0 hw [] (b6) (y5) (arr_w) ((5 : Int32)) (ka_w) (pd) ([(.ref y0), (.ref y1), (.ref y2), (.ref y3), (.ref y4)]) (((((((0 : Int32) + (1 : Int32)) + (1 : Int32)) + (1 : Int32)) + (1 : Int32)) + (1 : Int32))) h123 n0 O123 (f141) (g_b6) (p123_0) (F126) (p123_3) (V125) (g_arr_w) (p19_5) (f143) (rfl) (own_ltp ht5.2 (by decide))) hZ (hw _ (own_g (i := 155) rfl)) (hw _ (own_g (i := 30) rfl)) (by decide) (by decide)) q144a q144b q144c (g := (mkF m 69 #[.val (.ref a), .val (.long jf), .second, .val (.int pm), .val (.ref b6), .val (.long (((((jf + (1 : Int64)) + (1 : Int64)) + (1 : Int64)) + (1 : Int64)) + (1 : Int64))), .second] [(.ref y5), (.ref b6)])) rfl (by rw [hml]; rfl) (Steps.refl _) (argsL := [(.ref y5)]) (rest := []) (lenOf pd_15 rfl) rfl (by show 2 * 0 + _ ≤ _; exact Nat.le_of_eq rfl) (hb hby d16_69) (fun _ _ => ⟨rfl, e136, (by decide : 2 + 0 ≤ _), (by decide : 9 + 0 ≤ _)⟩)
                dsimp only [Pt.U, Pt.locs, Pt.cells, Pt.slots] at X144 l144 y144 z144 st144 hQ144
                subst l144 y144 z144
                obtain ⟨h144, e144⟩ : ∃ z, T144.heap = z := ⟨_, rfl⟩
                rw [e144] at hQ144
                obtain ⟨rfl, Nq144, Kq144, p144_0, p144_1, p144_2, p144_3⟩ := hQ144
                have N144 := Fr.app N123 Nq144
                have r144 : own_R p e below _ _ T144 (mkF m 74 #[.val (.ref a), .val (.long jf), .second, .val (.int pm), .val (.ref b6), .val (.long (((((jf + (1 : Int64)) + (1 : Int64)) + (1 : Int64)) + (1 : Int64)) + (1 : Int64))), .second] [(.int (1 : Int32))]) := r142.trans fun z_ kt => st144.trans kt
                have O144 := O123.keep Kq144 (allS g_b6 (allS g_arr_w all0))
                have K144 := K123.trans Kq144 (allS (Or.inr sz_b6) (allS (Or.inr sz_arr_w) all0))
                have r145 : own_R p e below _ _ T144 (mkF m 81 #[.val (.ref a), .val (.long jf), .second, .val (.int pm), .val (.ref b6), .val (.long ((((((jf + (1 : Int64)) + (1 : Int64)) + (1 : Int64)) + (1 : Int64)) + (1 : Int64)) + (1 : Int64))), .second] []) := r144.trans fun z_ kt => by
                  refine XS.pop X144.here hx rfl (hb hby d16_74) rfl rfl ?_
                  refine XS.lload X144.here hx rfl (hb hby d16_75) rfl ?_
                  refine XS.lconst X144.here hx rfl (hb hby d16_77) ?_
                  refine XS.ladd X144.here hx rfl (hb hby d16_78) rfl ?_
                  refine XS.lstore X144.here hx rfl (hb hby d16_79) rfl (l' := #[.val (.ref a), .val (.long jf), .second, .val (.int pm), .val (.ref b6), .val (.long ((((((jf + (1 : Int64)) + (1 : Int64)) + (1 : Int64)) + (1 : Int64)) + (1 : Int64)) + (1 : Int64))), .second]) rfl ?_
                  exact kt
                have V146 : Arv Z h144 arr_w ka_w (.object "java/lang/Object") pd [(.ref y0), (.ref y1), (.ref y2), (.ref y3), (.ref y4), (.ref y5)] .null := p144_2
                have F147 : Fld Z h144 b6 "java/util/ArrayList" "size" "I" (.int (6 : Int32)) := p144_1
                have f148 := (f127.keep Kq144 (ninS ne_a_b6 (ninS ne_a_arr_w nin0)))
                have r149 : own_R p e below _ _ T144 (mkF m 45 #[.val (.ref a), .val (.long jf), .second, .val (.int pm), .val (.ref b6), .val (.long ((((((jf + (1 : Int64)) + (1 : Int64)) + (1 : Int64)) + (1 : Int64)) + (1 : Int64)) + (1 : Int64))), .second] [(.ref a), (.long ((((((jf + (1 : Int64)) + (1 : Int64)) + (1 : Int64)) + (1 : Int64)) + (1 : Int64)) + (1 : Int64)))]) := r145.trans fun z_ kt => by
                  refine XS.goto X144.here hx rfl (pc0 := 81) (pc' := 42) rfl (hb hby d16_81) (by decide) (by decide) ?_
                  refine XS.lload X144.here hx rfl (hb hby d16_42) rfl ?_
                  refine XS.aloadN X144.here hx rfl (hb hby d16_44) rfl rfl ?_
                  exact kt
                obtain ⟨T150, X150, e150, st150⟩ := getF X144 hx hZ hown (host := "") (Or.inl (hw _ (own_g (i := 115) rfl))) Via.refl e144 f148 (g := (mkF m 45 #[.val (.ref a), .val (.long jf), .second, .val (.int pm), .val (.ref b6), .val (.long ((((((jf + (1 : Int64)) + (1 : Int64)) + (1 : Int64)) + (1 : Int64)) + (1 : Int64)) + (1 : Int64))), .second] [(.ref a), (.long ((((((jf + (1 : Int64)) + (1 : Int64)) + (1 : Int64)) + (1 : Int64)) + (1 : Int64)) + (1 : Int64)))])) rfl rfl (hb hby d16_45)
                have r150 : own_R p e below _ _ T150 (mkF m 48 #[.val (.ref a), .val (.long jf), .second, .val (.int pm), .val (.ref b6), .val (.long ((((((jf + (1 : Int64)) + (1 : Int64)) + (1 : Int64)) + (1 : Int64)) + (1 : Int64)) + (1 : Int64))), .second] [(.long jc), (.long ((((((jf + (1 : Int64)) + (1 : Int64)) + (1 : Int64)) + (1 : Int64)) + (1 : Int64)) + (1 : Int64)))]) := r149.trans fun z_ kt => st150 _ kt
                have r151 : own_R p e below _ _ T150 (mkF m 49 #[.val (.ref a), .val (.long jf), .second, .val (.int pm), .val (.ref b6), .val (.long ((((((jf + (1 : Int64)) + (1 : Int64)) + (1 : Int64)) + (1 : Int64)) + (1 : Int64)) + (1 : Int64))), .second] [(.int (lcmpW ((((((jf + (1 : Int64)) + (1 : Int64)) + (1 : Int64)) + (1 : Int64)) + (1 : Int64)) + (1 : Int64)) jc))]) := r150.trans fun z_ kt => by
                  refine XS.lcmp X150.here hx rfl (hb hby d16_48) rfl ?_
                  exact kt
                by_cases hc49_152 : (lcmpW ((((((jf + (1 : Int64)) + (1 : Int64)) + (1 : Int64)) + (1 : Int64)) + (1 : Int64)) + (1 : Int64)) jc) < (0 : Int32)
                · skip
                  exact absurd hc49_152 (own_e6 hD)
                · skip
                  have r153 : own_R p e below _ _ T150 (mkF m 86 #[.val (.ref a), .val (.long jf), .second, .val (.int pm), .val (.ref b6), .val (.long ((((((jf + (1 : Int64)) + (1 : Int64)) + (1 : Int64)) + (1 : Int64)) + (1 : Int64)) + (1 : Int64))), .second] [(.ref b6)]) := r151.trans fun z_ kt => by
                    refine XS.ifYes X150.here hx rfl (pc0 := 49) (pc' := 84) rfl (hb hby d16_49) rfl ((if0 _ _).trans (flt (hc49_152 : ¬ ((lcmpW ((((((jf + (1 : Int64)) + (1 : Int64)) + (1 : Int64)) + (1 : Int64)) + (1 : Int64)) + (1 : Int64)) jc) < (0 : Int32)))).2.1) (by decide) (by decide) ?_
                    refine XS.aload X150.here hx rfl (hb hby d16_84) rfl rfl ?_
                    exact kt
                  have hLD := own_lenD (n := 6) hD (by decide) hc49_152 (by omega)
                  have f154 := (f141.keep Kq144)
                  obtain ⟨fs_, hr_, hrun_, hended_, hW_, hsame_⟩ := X150.leave (v := some (.ref b6)) (fun h => by rw [Bd.returns] at h; cases h)
                  refine ⟨_, _, pre0 _ (r153 _ ?_), hrun_, hended_, _, _, rfl, ?_, ⟨_, rfl⟩, hW_, hsame_.mono (by decide) (by decide)⟩
                  · exact retOut X150 hx Bd.returns rfl (Or.inr (Or.inr (Or.inr (Or.inr ⟨rfl, rfl, rfl⟩)))) (hb hby d16_86) hr_
                  · show Q_sinceL Z a jf pm kp kk jc zk vs s_EE ke h0 n0 _ T150.heap _
                    rw [e150]
                    exact ⟨b6, arr_w, ka_w, pd, (6 : Int32), rfl, N144, K144, sz_b6, f154, p144_0, F147, (by
                      have e : (vs.drop jf.toInt.toNat) = [(.ref y0), (.ref y1), (.ref y2), (.ref y3), (.ref y4), (.ref y5)] := own_vsG (hLD.1) (fun i hi => by
                      match i, hi with
                      | 0, _ => exact (own_getDrop.trans hy0)
                      | 1, _ => exact (own_getDrop.trans hy1)
                      | 2, _ => exact (own_getDrop.trans hy2)
                      | 3, _ => exact (own_getDrop.trans hy3)
                      | 4, _ => exact (own_getDrop.trans hy4)
                      | 5, _ => exact (own_getDrop.trans hy5))
                      rw [e]
                      exact V146), ⟨by rw [hLD.1]; decide, by rw [hLD.2]; decide⟩⟩
              · skip
                have r155 : own_R p e below _ _ T129 (mkF m 86 #[.val (.ref a), .val (.long jf), .second, .val (.int pm), .val (.ref b6), .val (.long (((((jf + (1 : Int64)) + (1 : Int64)) + (1 : Int64)) + (1 : Int64)) + (1 : Int64))), .second] [(.ref b6)]) := r130.trans fun z_ kt => by
                  refine XS.ifYes X129.here hx rfl (pc0 := 49) (pc' := 84) rfl (hb hby d16_49) rfl ((if0 _ _).trans (flt (hc49_131 : ¬ ((lcmpW (((((jf + (1 : Int64)) + (1 : Int64)) + (1 : Int64)) + (1 : Int64)) + (1 : Int64)) jc) < (0 : Int32)))).2.1) (by decide) (by decide) ?_
                  refine XS.aload X129.here hx rfl (hb hby d16_84) rfl rfl ?_
                  exact kt
                have hLD := own_lenD (n := 5) hD (by decide) hc49_131 (by omega)
                have f156 := (f120.keep Kq123)
                obtain ⟨fs_, hr_, hrun_, hended_, hW_, hsame_⟩ := X129.leave (v := some (.ref b6)) (fun h => by rw [Bd.returns] at h; cases h)
                refine ⟨_, _, pre0 _ (r155 _ ?_), hrun_, hended_, _, _, rfl, ?_, ⟨_, rfl⟩, hW_, hsame_.mono (by decide) (by decide)⟩
                · exact retOut X129 hx Bd.returns rfl (Or.inr (Or.inr (Or.inr (Or.inr ⟨rfl, rfl, rfl⟩)))) (hb hby d16_86) hr_
                · show Q_sinceL Z a jf pm kp kk jc zk vs s_EE ke h0 n0 _ T129.heap _
                  rw [e129]
                  exact ⟨b6, arr_w, ka_w, pd, (5 : Int32), rfl, N123, K123, sz_b6, f156, p123_0, F126, (by
                    have e : (vs.drop jf.toInt.toNat) = [(.ref y0), (.ref y1), (.ref y2), (.ref y3), (.ref y4)] := own_vsG (hLD.1) (fun i hi => by
                    match i, hi with
                    | 0, _ => exact (own_getDrop.trans hy0)
                    | 1, _ => exact (own_getDrop.trans hy1)
                    | 2, _ => exact (own_getDrop.trans hy2)
                    | 3, _ => exact (own_getDrop.trans hy3)
                    | 4, _ => exact (own_getDrop.trans hy4))
                    rw [e]
                    exact V125), ⟨by rw [hLD.1]; decide, by rw [hLD.2]; decide⟩⟩
            · skip
              have r157 : own_R p e below _ _ T108 (mkF m 86 #[.val (.ref a), .val (.long jf), .second, .val (.int pm), .val (.ref b6), .val (.long ((((jf + (1 : Int64)) + (1 : Int64)) + (1 : Int64)) + (1 : Int64))), .second] [(.ref b6)]) := r109.trans fun z_ kt => by
                refine XS.ifYes X108.here hx rfl (pc0 := 49) (pc' := 84) rfl (hb hby d16_49) rfl ((if0 _ _).trans (flt (hc49_110 : ¬ ((lcmpW ((((jf + (1 : Int64)) + (1 : Int64)) + (1 : Int64)) + (1 : Int64)) jc) < (0 : Int32)))).2.1) (by decide) (by decide) ?_
                refine XS.aload X108.here hx rfl (hb hby d16_84) rfl rfl ?_
                exact kt
              have hLD := own_lenD (n := 4) hD (by decide) hc49_110 (by omega)
              have f158 := (f99.keep Kq102)
              obtain ⟨fs_, hr_, hrun_, hended_, hW_, hsame_⟩ := X108.leave (v := some (.ref b6)) (fun h => by rw [Bd.returns] at h; cases h)
              refine ⟨_, _, pre0 _ (r157 _ ?_), hrun_, hended_, _, _, rfl, ?_, ⟨_, rfl⟩, hW_, hsame_.mono (by decide) (by decide)⟩
              · exact retOut X108 hx Bd.returns rfl (Or.inr (Or.inr (Or.inr (Or.inr ⟨rfl, rfl, rfl⟩)))) (hb hby d16_86) hr_
              · show Q_sinceL Z a jf pm kp kk jc zk vs s_EE ke h0 n0 _ T108.heap _
                rw [e108]
                exact ⟨b6, arr_w, ka_w, pd, (4 : Int32), rfl, N102, K102, sz_b6, f158, p102_0, F105, (by
                  have e : (vs.drop jf.toInt.toNat) = [(.ref y0), (.ref y1), (.ref y2), (.ref y3)] := own_vsG (hLD.1) (fun i hi => by
                  match i, hi with
                  | 0, _ => exact (own_getDrop.trans hy0)
                  | 1, _ => exact (own_getDrop.trans hy1)
                  | 2, _ => exact (own_getDrop.trans hy2)
                  | 3, _ => exact (own_getDrop.trans hy3))
                  rw [e]
                  exact V104), ⟨by rw [hLD.1]; decide, by rw [hLD.2]; decide⟩⟩
          · skip
            have r159 : own_R p e below _ _ T87 (mkF m 86 #[.val (.ref a), .val (.long jf), .second, .val (.int pm), .val (.ref b6), .val (.long (((jf + (1 : Int64)) + (1 : Int64)) + (1 : Int64))), .second] [(.ref b6)]) := r88.trans fun z_ kt => by
              refine XS.ifYes X87.here hx rfl (pc0 := 49) (pc' := 84) rfl (hb hby d16_49) rfl ((if0 _ _).trans (flt (hc49_89 : ¬ ((lcmpW (((jf + (1 : Int64)) + (1 : Int64)) + (1 : Int64)) jc) < (0 : Int32)))).2.1) (by decide) (by decide) ?_
              refine XS.aload X87.here hx rfl (hb hby d16_84) rfl rfl ?_
              exact kt
            have hLD := own_lenD (n := 3) hD (by decide) hc49_89 (by omega)
            have f160 := (f78.keep Kq81)
            obtain ⟨fs_, hr_, hrun_, hended_, hW_, hsame_⟩ := X87.leave (v := some (.ref b6)) (fun h => by rw [Bd.returns] at h; cases h)
            refine ⟨_, _, pre0 _ (r159 _ ?_), hrun_, hended_, _, _, rfl, ?_, ⟨_, rfl⟩, hW_, hsame_.mono (by decide) (by decide)⟩
            · exact retOut X87 hx Bd.returns rfl (Or.inr (Or.inr (Or.inr (Or.inr ⟨rfl, rfl, rfl⟩)))) (hb hby d16_86) hr_
            · show Q_sinceL Z a jf pm kp kk jc zk vs s_EE ke h0 n0 _ T87.heap _
              rw [e87]
              exact ⟨b6, arr_w, ka_w, pd, (3 : Int32), rfl, N81, K81, sz_b6, f160, p81_0, F84, (by
                have e : (vs.drop jf.toInt.toNat) = [(.ref y0), (.ref y1), (.ref y2)] := own_vsG (hLD.1) (fun i hi => by
                match i, hi with
                | 0, _ => exact (own_getDrop.trans hy0)
                | 1, _ => exact (own_getDrop.trans hy1)
                | 2, _ => exact (own_getDrop.trans hy2))
                rw [e]
                exact V83), ⟨by rw [hLD.1]; decide, by rw [hLD.2]; decide⟩⟩
        · skip
          have r161 : own_R p e below _ _ T66 (mkF m 86 #[.val (.ref a), .val (.long jf), .second, .val (.int pm), .val (.ref b6), .val (.long ((jf + (1 : Int64)) + (1 : Int64))), .second] [(.ref b6)]) := r67.trans fun z_ kt => by
            refine XS.ifYes X66.here hx rfl (pc0 := 49) (pc' := 84) rfl (hb hby d16_49) rfl ((if0 _ _).trans (flt (hc49_68 : ¬ ((lcmpW ((jf + (1 : Int64)) + (1 : Int64)) jc) < (0 : Int32)))).2.1) (by decide) (by decide) ?_
            refine XS.aload X66.here hx rfl (hb hby d16_84) rfl rfl ?_
            exact kt
          have hLD := own_lenD (n := 2) hD (by decide) hc49_68 (by omega)
          have f162 := (f57.keep Kq60)
          obtain ⟨fs_, hr_, hrun_, hended_, hW_, hsame_⟩ := X66.leave (v := some (.ref b6)) (fun h => by rw [Bd.returns] at h; cases h)
          refine ⟨_, _, pre0 _ (r161 _ ?_), hrun_, hended_, _, _, rfl, ?_, ⟨_, rfl⟩, hW_, hsame_.mono (by decide) (by decide)⟩
          · exact retOut X66 hx Bd.returns rfl (Or.inr (Or.inr (Or.inr (Or.inr ⟨rfl, rfl, rfl⟩)))) (hb hby d16_86) hr_
          · show Q_sinceL Z a jf pm kp kk jc zk vs s_EE ke h0 n0 _ T66.heap _
            rw [e66]
            exact ⟨b6, arr_w, ka_w, pd, (2 : Int32), rfl, N60, K60, sz_b6, f162, p60_0, F63, (by
              have e : (vs.drop jf.toInt.toNat) = [(.ref y0), (.ref y1)] := own_vsG (hLD.1) (fun i hi => by
              match i, hi with
              | 0, _ => exact (own_getDrop.trans hy0)
              | 1, _ => exact (own_getDrop.trans hy1))
              rw [e]
              exact V62), ⟨by rw [hLD.1]; decide, by rw [hLD.2]; decide⟩⟩
      · skip
        have r163 : own_R p e below _ _ T45 (mkF m 86 #[.val (.ref a), .val (.long jf), .second, .val (.int pm), .val (.ref b6), .val (.long (jf + (1 : Int64))), .second] [(.ref b6)]) := r46.trans fun z_ kt => by
          refine XS.ifYes X45.here hx rfl (pc0 := 49) (pc' := 84) rfl (hb hby d16_49) rfl ((if0 _ _).trans (flt (hc49_47 : ¬ ((lcmpW (jf + (1 : Int64)) jc) < (0 : Int32)))).2.1) (by decide) (by decide) ?_
          refine XS.aload X45.here hx rfl (hb hby d16_84) rfl rfl ?_
          exact kt
        have hLD := own_lenD (n := 1) hD (by decide) hc49_47 (by omega)
        have f164 := (f36.keep Kq39)
        obtain ⟨fs_, hr_, hrun_, hended_, hW_, hsame_⟩ := X45.leave (v := some (.ref b6)) (fun h => by rw [Bd.returns] at h; cases h)
        refine ⟨_, _, pre0 _ (r163 _ ?_), hrun_, hended_, _, _, rfl, ?_, ⟨_, rfl⟩, hW_, hsame_.mono (by decide) (by decide)⟩
        · exact retOut X45 hx Bd.returns rfl (Or.inr (Or.inr (Or.inr (Or.inr ⟨rfl, rfl, rfl⟩)))) (hb hby d16_86) hr_
        · show Q_sinceL Z a jf pm kp kk jc zk vs s_EE ke h0 n0 _ T45.heap _
          rw [e45]
          exact ⟨b6, arr_w, ka_w, pd, (1 : Int32), rfl, N39, K39, sz_b6, f164, p39_0, F42, (by
            have e : (vs.drop jf.toInt.toNat) = [(.ref y0)] := own_vsG (hLD.1) (fun i hi => by
            match i, hi with
            | 0, _ => exact (own_getDrop.trans hy0))
            rw [e]
            exact V41), ⟨by rw [hLD.1]; decide, by rw [hLD.2]; decide⟩⟩
    · skip
      exact absurd (own_first hD hz0) hc49_26

theorem d21_0 : decode jdk_38_method_8_code 0 = .ok (.aload_n 0, 1) := by decide +kernel
theorem d21_1 : decode jdk_38_method_8_code 1 = .ok (.getfield 48, 3) := by decide +kernel
theorem d21_4 : decode jdk_38_method_8_code 4 = .ok (.ireturn, 1) := by decide +kernel
theorem ef_alSize (m : MethodId) (a : Addr) : entryFrame m #[(.ref a)] 1 = mkF m 0 #[.val (.ref a)] [] := by first | (simp [entryFrame, mkF, argsToLocals, Value.category]; done) | rfl
def Q_alSize (Z : State) (a : Addr) (ps : Int32) (h0 : Heap) (n0 : Nat) (v_ : Option Value) (h_ : Heap) (L_ : List Loc) : Prop := v_ = some (.int ps) ∧ Fr n0 L_ ∧ h_ = h0
set_option maxRecDepth 65536 in
set_option maxHeartbeats 40000000 in
theorem rm_alSize (l : Launch) (Z : State) (a0 : Array Value) (hw : ∀ d ∈ tables_1, d.before a0 Z = true) (ws : List Jvm.Cond) (a : Addr) (ps : Int32) (h0 : Heap) (n0 : Nat) (O0 : Old Z n0 h0) (F_a_size : Fld Z h0 a "java/util/ArrayList" "size" "I" (.int ps)) :
    MetFree l (⟨"java/util/ArrayList", "size", "()I"⟩ : MethodName) (head1 (Jvm.Cond.code (⟨"java/util/ArrayList", "size", "()I"⟩ : MethodName) jdk_38_method_8_code 1 (some .int) :: ws) ({ frames := 0, cells := 0, slots := 0, locals := 0 } : Room)) (fun aa_ U_ => aa_ = #[(.ref a)] ∧ Z.Warmed39 U_.vm ∧ U_.heap = h0) (fun _ _ _ _ _ => True) (fun _ U_ o_ U_' => ∃ v_ L_, o_ = .returned v_ ∧ Q_alSize Z a ps h0 n0 v_ U_'.heap L_ ∧ FrameEnd U_ o_ U_' L_ ({ frames := 0, cells := 0, slots := 0, locals := 0 } : Room).cells ({ frames := 0, cells := 0, slots := 0, locals := 0 } : Room).slots) := by
  refine MetFree.of_bodySF (plainFor_of_name pn_ArrayList) hisR ?_
  intro p e s m args below meth c s₁ Bd hml0 hP hK
  obtain ⟨rfl, hZ, hh⟩ := hP
  have hx := Bd.exec
  have hby := Bd.bytes
  have hml : c.maxLocals = 1 := hml0
  have hown : s.vm.findClass "java/util/ArrayList" = some m.cls := findClass_of_methodNamed Bd.named
  have hnm := (name_of_methodNamed Bd.named Bd.method).1
  have X0 : Stand p l e ({ frames := 0, cells := 0, slots := 0, locals := 0 } : Room) s m #[(.ref a)] below meth c s₁ [] 0 0 := Stand.of_body Bd
  have e0 : s₁.heap = h0 := by rw [← hh, Bd.state]; rfl
  have N0 := Fr.nil n0
  have pre0 : ∀ z_, Steps p.tables e below (s₁.setTop (mkF m 0 #[.val (.ref a)] [])) z_ → Steps p.tables e below (s₁.setTop (entryFrame m #[(.ref a)] 1)) z_ := fun z_ k_ => castTop (ef_alSize m a) k_
  have r0 : own_R p e below s₁ (mkF m 0 #[.val (.ref a)] []) s₁ (mkF m 0 #[.val (.ref a)] []) := own_R.refl
  have r1 : own_R p e below _ _ s₁ (mkF m 1 #[.val (.ref a)] [(.ref a)]) := r0.trans fun z_ kt => by
    refine XS.aloadN X0.here hx rfl (hb hby d21_0) rfl rfl ?_
    exact kt
  obtain ⟨T2, X2, e2, st2⟩ := getF X0 hx hZ hown (host := "") (Or.inl (hw _ (own_g (i := 150) rfl))) Via.refl e0 F_a_size (g := (mkF m 1 #[.val (.ref a)] [(.ref a)])) rfl rfl (hb hby d21_1)
  have r2 : own_R p e below _ _ T2 (mkF m 4 #[.val (.ref a)] [(.int ps)]) := r1.trans fun z_ kt => st2 _ kt
  obtain ⟨fs_, hr_, hrun_, hended_, hW_, hsame_⟩ := X2.leave (v := some (.int ps)) (fun h => by rw [Bd.returns] at h; cases h)
  refine ⟨_, _, pre0 _ (r2 _ ?_), hrun_, hended_, _, _, rfl, ?_, ⟨_, rfl⟩, hW_, hsame_.mono (by decide) (by decide)⟩
  · exact retOut X2 hx Bd.returns rfl (Or.inl ⟨rfl, Or.inl rfl, _, rfl⟩) (hb hby d21_4) hr_
  · show Q_alSize Z a ps h0 n0 _ T2.heap _
    rw [e2]
    exact ⟨rfl, N0, rfl⟩

theorem d32_0 : decode jdk_41_method_11_code 0 = .ok (.iload_n 0, 1) := by decide +kernel
theorem d32_1 : decode jdk_41_method_11_code 1 = .ok (.ifCond .lt 8, 3) := by decide +kernel
theorem d32_4 : decode jdk_41_method_11_code 4 = .ok (.iload_n 0, 1) := by decide +kernel
theorem d32_5 : decode jdk_41_method_11_code 5 = .ok (.iload_n 1, 1) := by decide +kernel
theorem d32_6 : decode jdk_41_method_11_code 6 = .ok (.if_icmp .lt 10, 3) := by decide +kernel
theorem d32_16 : decode jdk_41_method_11_code 16 = .ok (.iload_n 0, 1) := by decide +kernel
theorem d32_17 : decode jdk_41_method_11_code 17 = .ok (.ireturn, 1) := by decide +kernel
theorem pn_Preconditions : plainName "jdk/internal/util/Preconditions" = true := by first | (simp [plainName, overriddenIn]; done) | decide +kernel
theorem ef_chk3 (m : MethodId) (pi : Int32) (pz : Int32) : entryFrame m #[(.int pi), (.int pz), .null] 3 = mkF m 0 #[.val (.int pi), .val (.int pz), .val .null] [] := by first | (simp [entryFrame, mkF, argsToLocals, Value.category]; done) | rfl
def Q_chk3 (Z : State) (pi : Int32) (pz : Int32) (h0 : Heap) (n0 : Nat) (v_ : Option Value) (h_ : Heap) (L_ : List Loc) : Prop := v_ = some (.int pi) ∧ Fr n0 L_ ∧ h_ = h0
set_option maxRecDepth 65536 in
set_option maxHeartbeats 40000000 in
theorem rm_chk3 (l : Launch) (Z : State) (a0 : Array Value) (hw : ∀ d ∈ tables_1, d.before a0 Z = true) (ws : List Jvm.Cond) (pi : Int32) (pz : Int32) (h0 : Heap) (n0 : Nat) (O0 : Old Z n0 h0) (hix : ¬ (pi < (0 : Int32)) ∧ pi < pz) :
    MetFree l (⟨"jdk/internal/util/Preconditions", "checkIndex", "(IILjava/util/function/BiFunction;)I"⟩ : MethodName) (head1 (Jvm.Cond.code (⟨"jdk/internal/util/Preconditions", "checkIndex", "(IILjava/util/function/BiFunction;)I"⟩ : MethodName) jdk_41_method_11_code 3 (some .int) :: ws) ({ frames := 0, cells := 0, slots := 0, locals := 0 } : Room)) (fun aa_ U_ => aa_ = #[(.int pi), (.int pz), .null] ∧ Z.Warmed39 U_.vm ∧ U_.heap = h0) (fun _ _ _ _ _ => True) (fun _ U_ o_ U_' => ∃ v_ L_, o_ = .returned v_ ∧ Q_chk3 Z pi pz h0 n0 v_ U_'.heap L_ ∧ FrameEnd U_ o_ U_' L_ ({ frames := 0, cells := 0, slots := 0, locals := 0 } : Room).cells ({ frames := 0, cells := 0, slots := 0, locals := 0 } : Room).slots) := by
  refine MetFree.of_bodySF (plainFor_of_name pn_Preconditions) hisR ?_
  intro p e s m args below meth c s₁ Bd hml0 hP hK
  obtain ⟨rfl, hZ, hh⟩ := hP
  have hx := Bd.exec
  have hby := Bd.bytes
  have hml : c.maxLocals = 3 := hml0
  have hown : s.vm.findClass "jdk/internal/util/Preconditions" = some m.cls := findClass_of_methodNamed Bd.named
  have hnm := (name_of_methodNamed Bd.named Bd.method).1
  have X0 : Stand p l e ({ frames := 0, cells := 0, slots := 0, locals := 0 } : Room) s m #[(.int pi), (.int pz), .null] below meth c s₁ [] 0 0 := Stand.of_body Bd
  have e0 : s₁.heap = h0 := by rw [← hh, Bd.state]; rfl
  have N0 := Fr.nil n0
  have pre0 : ∀ z_, Steps p.tables e below (s₁.setTop (mkF m 0 #[.val (.int pi), .val (.int pz), .val .null] [])) z_ → Steps p.tables e below (s₁.setTop (entryFrame m #[(.int pi), (.int pz), .null] 3)) z_ := fun z_ k_ => castTop (ef_chk3 m pi pz) k_
  have r0 : own_R p e below s₁ (mkF m 0 #[.val (.int pi), .val (.int pz), .val .null] []) s₁ (mkF m 0 #[.val (.int pi), .val (.int pz), .val .null] []) := own_R.refl
  have r1 : own_R p e below _ _ s₁ (mkF m 17 #[.val (.int pi), .val (.int pz), .val .null] [(.int pi)]) := r0.trans fun z_ kt => by
    refine XS.iloadN X0.here hx rfl (hb hby d32_0) rfl ?_
    refine XS.ifNo X0.here hx rfl (hb hby d32_1) rfl ((if0 _ _).trans (flt (hix.1 : ¬ (pi < (0 : Int32)))).1) ?_
    refine XS.iloadN X0.here hx rfl (hb hby d32_4) rfl ?_
    refine XS.iloadN X0.here hx rfl (hb hby d32_5) rfl ?_
    refine XS.icmpYes X0.here hx rfl (pc0 := 6) (pc' := 16) rfl (hb hby d32_6) rfl (tlt (hix.2 : pi < pz)).1 (by decide) (by decide) ?_
    refine XS.iloadN X0.here hx rfl (hb hby d32_16) rfl ?_
    exact kt
  obtain ⟨fs_, hr_, hrun_, hended_, hW_, hsame_⟩ := X0.leave (v := some (.int pi)) (fun h => by rw [Bd.returns] at h; cases h)
  refine ⟨_, _, pre0 _ (r1 _ ?_), hrun_, hended_, _, _, rfl, ?_, ⟨_, rfl⟩, hW_, hsame_.mono (by decide) (by decide)⟩
  · exact retOut X0 hx Bd.returns rfl (Or.inl ⟨rfl, Or.inl rfl, _, rfl⟩) (hb hby d32_17) hr_
  · show Q_chk3 Z pi pz h0 n0 _ s₁.heap _
    rw [e0]
    exact ⟨rfl, N0, rfl⟩

theorem d31_0 : decode jdk_31_method_17_code 0 = .ok (.iload_n 0, 1) := by decide +kernel
theorem d31_1 : decode jdk_31_method_17_code 1 = .ok (.iload_n 1, 1) := by decide +kernel
theorem d31_2 : decode jdk_31_method_17_code 2 = .ok (.aconst_null, 1) := by decide +kernel
theorem d31_3 : decode jdk_31_method_17_code 3 = .ok (.invokestatic 105, 3) := by decide +kernel
theorem pd_16 : parseMethodDescriptor "(IILjava/util/function/BiFunction;)I" = some ⟨[.int, .int, (.object "java/util/function/BiFunction")], some .int⟩ := by decide +kernel
theorem d31_6 : decode jdk_31_method_17_code 6 = .ok (.ireturn, 1) := by decide +kernel
theorem pn_Objects : plainName "java/util/Objects" = true := by first | (simp [plainName, overriddenIn]; done) | decide +kernel
theorem ef_chk2 (m : MethodId) (pi : Int32) (pz : Int32) : entryFrame m #[(.int pi), (.int pz)] 2 = mkF m 0 #[.val (.int pi), .val (.int pz)] [] := by first | (simp [entryFrame, mkF, argsToLocals, Value.category]; done) | rfl
def Q_chk2 (Z : State) (pi : Int32) (pz : Int32) (h0 : Heap) (n0 : Nat) (v_ : Option Value) (h_ : Heap) (L_ : List Loc) : Prop := v_ = some (.int pi) ∧ Fr n0 L_ ∧ h_ = h0
set_option maxRecDepth 65536 in
set_option maxHeartbeats 40000000 in
theorem rm_chk2 (l : Launch) (Z : State) (a0 : Array Value) (hw : ∀ d ∈ tables_1, d.before a0 Z = true) (ws : List Jvm.Cond) (pi : Int32) (pz : Int32) (h0 : Heap) (n0 : Nat) (O0 : Old Z n0 h0) (hix : ¬ (pi < (0 : Int32)) ∧ pi < pz) :
    MetFree l (⟨"java/util/Objects", "checkIndex", "(II)I"⟩ : MethodName) (head1 (Jvm.Cond.code (⟨"java/util/Objects", "checkIndex", "(II)I"⟩ : MethodName) jdk_31_method_17_code 2 (some .int) :: ws) ({ frames := 1, cells := 0, slots := 0, locals := 14 } : Room)) (fun aa_ U_ => aa_ = #[(.int pi), (.int pz)] ∧ Z.Warmed39 U_.vm ∧ U_.heap = h0) (fun _ _ _ _ _ => True) (fun _ U_ o_ U_' => ∃ v_ L_, o_ = .returned v_ ∧ Q_chk2 Z pi pz h0 n0 v_ U_'.heap L_ ∧ FrameEnd U_ o_ U_' L_ ({ frames := 1, cells := 0, slots := 0, locals := 14 } : Room).cells ({ frames := 1, cells := 0, slots := 0, locals := 14 } : Room).slots) := by
  refine MetFree.of_bodySF (plainFor_of_name pn_Objects) hisR ?_
  intro p e s m args below meth c s₁ Bd hml0 hP hK
  obtain ⟨rfl, hZ, hh⟩ := hP
  have hx := Bd.exec
  have hby := Bd.bytes
  have hml : c.maxLocals = 2 := hml0
  have hown : s.vm.findClass "java/util/Objects" = some m.cls := findClass_of_methodNamed Bd.named
  have hnm := (name_of_methodNamed Bd.named Bd.method).1
  have X0 : Stand p l e ({ frames := 1, cells := 0, slots := 0, locals := 14 } : Room) s m #[(.int pi), (.int pz)] below meth c s₁ [] 0 0 := Stand.of_body Bd
  have e0 : s₁.heap = h0 := by rw [← hh, Bd.state]; rfl
  have N0 := Fr.nil n0
  have pre0 : ∀ z_, Steps p.tables e below (s₁.setTop (mkF m 0 #[.val (.int pi), .val (.int pz)] [])) z_ → Steps p.tables e below (s₁.setTop (entryFrame m #[(.int pi), (.int pz)] 2)) z_ := fun z_ k_ => castTop (ef_chk2 m pi pz) k_
  have r0 : own_R p e below s₁ (mkF m 0 #[.val (.int pi), .val (.int pz)] []) s₁ (mkF m 0 #[.val (.int pi), .val (.int pz)] []) := own_R.refl
  have r1 : own_R p e below _ _ s₁ (mkF m 3 #[.val (.int pi), .val (.int pz)] [.null, (.int pz), (.int pi)]) := r0.trans fun z_ kt => by
    refine XS.iloadN X0.here hx rfl (hb hby d31_0) rfl ?_
    refine XS.iloadN X0.here hx rfl (hb hby d31_1) rfl ?_
    refine XS.aconstNull X0.here hx rfl (hb hby d31_2) ?_
    exact kt
  obtain ⟨_, _, ⟨T2, L2, cc2, n2⟩, -, X2, ⟨Lc2, hQ2, l2, y2, z2⟩, st2⟩ := Jvm.LawKit.callS X0 hx (y := (⟨"jdk/internal/util/Preconditions", "checkIndex", "(IILjava/util/function/BiFunction;)I"⟩ : MethodName)) hown (mvT hZ (hw _ (own_g (i := 213) rfl))) (mvT hZ (hw _ (own_g (i := 214) rfl))) (mvT hZ (hw _ (own_g (i := 215) rfl))) (mvT hZ (hw _ (own_g (i := 216) rfl))) (by decide) (backOf (W := 0) (rm_chk3 l Z a0 hw [] (pi) (pz) h0 n0 O0 (hix)) hZ (hw _ (own_g (i := 216) rfl)) (hw _ (own_g (i := 215) rfl)) (by decide) (by decide)) (g := (mkF m 3 #[.val (.int pi), .val (.int pz)] [.null, (.int pz), (.int pi)])) rfl (by rw [hml]; rfl) (argsL := [(.int pi), (.int pz), .null]) (rest := []) (lenOf pd_16 rfl) rfl (by show 2 * 0 + _ ≤ _; exact Nat.le_of_eq rfl) (hb hby d31_3) (fun _ _ => ⟨rfl, e0, (by decide : 0 + 0 ≤ _), (by decide : 0 + 0 ≤ _)⟩)
  dsimp only [Pt.U, Pt.locs, Pt.cells, Pt.slots] at X2 l2 y2 z2 st2 hQ2
  subst l2 y2 z2
  obtain ⟨rfl, Nq2, eq2⟩ := hQ2
  have N2 := Fr.app N0 Nq2
  have r2 : own_R p e below _ _ T2 (mkF m 6 #[.val (.int pi), .val (.int pz)] [(.int pi)]) := r1.trans fun z_ kt => st2 _ kt
  have e2 : T2.heap = h0 := eq2
  obtain ⟨fs_, hr_, hrun_, hended_, hW_, hsame_⟩ := X2.leave (v := some (.int pi)) (fun h => by rw [Bd.returns] at h; cases h)
  refine ⟨_, _, pre0 _ (r2 _ ?_), hrun_, hended_, _, _, rfl, ?_, ⟨_, rfl⟩, hW_, hsame_.mono (by decide) (by decide)⟩
  · exact retOut X2 hx Bd.returns rfl (Or.inl ⟨rfl, Or.inl rfl, _, rfl⟩) (hb hby d31_6) hr_
  · show Q_chk2 Z pi pz h0 n0 _ T2.heap _
    rw [e2]
    exact ⟨rfl, N2, rfl⟩

theorem d33_0 : decode jdk_38_method_18_code 0 = .ok (.aload_n 0, 1) := by decide +kernel
theorem d33_1 : decode jdk_38_method_18_code 1 = .ok (.getfield 9, 3) := by decide +kernel
theorem d33_4 : decode jdk_38_method_18_code 4 = .ok (.iload_n 1, 1) := by decide +kernel
theorem d33_5 : decode jdk_38_method_18_code 5 = .ok (.aaload, 1) := by decide +kernel
theorem d33_6 : decode jdk_38_method_18_code 6 = .ok (.areturn, 1) := by decide +kernel
theorem ef_elData (m : MethodId) (a : Addr) (pi : Int32) : entryFrame m #[(.ref a), (.int pi)] 2 = mkF m 0 #[.val (.ref a), .val (.int pi)] [] := by first | (simp [entryFrame, mkF, argsToLocals, Value.category]; done) | rfl
def Q_elData (Z : State) (a : Addr) (pi : Int32) (arr : Addr) (ka : ClassId) (z : Int32) (vs : List Value) (y : Addr) (h0 : Heap) (n0 : Nat) (v_ : Option Value) (h_ : Heap) (L_ : List Loc) : Prop := v_ = some (.ref y) ∧ Fr n0 L_ ∧ h_ = h0
set_option maxRecDepth 65536 in
set_option maxHeartbeats 40000000 in
theorem rm_elData (l : Launch) (Z : State) (a0 : Array Value) (hw : ∀ d ∈ tables_1, d.before a0 Z = true) (ws : List Jvm.Cond) (a : Addr) (pi : Int32) (arr : Addr) (ka : ClassId) (z : Int32) (vs : List Value) (y : Addr) (h0 : Heap) (n0 : Nat) (O0 : Old Z n0 h0) (F_a_elementData : Fld Z h0 a "java/util/ArrayList" "elementData" "[Ljava/lang/Object;" (.ref arr)) (V_arr : Arv Z h0 arr ka (.object "java/lang/Object") z vs .null) (hiz : ¬ (pi < 0) ∧ pi < z) (hiy : vs.getD pi.toNatClampNeg .null = .ref y) :
    MetFree l (⟨"java/util/ArrayList", "elementData", "(I)Ljava/lang/Object;"⟩ : MethodName) (head1 (Jvm.Cond.code (⟨"java/util/ArrayList", "elementData", "(I)Ljava/lang/Object;"⟩ : MethodName) jdk_38_method_18_code 2 (some (.object "java/lang/Object")) :: ws) ({ frames := 0, cells := 0, slots := 0, locals := 0 } : Room)) (fun aa_ U_ => aa_ = #[(.ref a), (.int pi)] ∧ Z.Warmed39 U_.vm ∧ U_.heap = h0) (fun _ _ _ _ _ => True) (fun _ U_ o_ U_' => ∃ v_ L_, o_ = .returned v_ ∧ Q_elData Z a pi arr ka z vs y h0 n0 v_ U_'.heap L_ ∧ FrameEnd U_ o_ U_' L_ ({ frames := 0, cells := 0, slots := 0, locals := 0 } : Room).cells ({ frames := 0, cells := 0, slots := 0, locals := 0 } : Room).slots) := by
  refine MetFree.of_bodySF (plainFor_of_name pn_ArrayList) hisR ?_
  intro p e s m args below meth c s₁ Bd hml0 hP hK
  obtain ⟨rfl, hZ, hh⟩ := hP
  have hx := Bd.exec
  have hby := Bd.bytes
  have hml : c.maxLocals = 2 := hml0
  have hown : s.vm.findClass "java/util/ArrayList" = some m.cls := findClass_of_methodNamed Bd.named
  have hnm := (name_of_methodNamed Bd.named Bd.method).1
  have X0 : Stand p l e ({ frames := 0, cells := 0, slots := 0, locals := 0 } : Room) s m #[(.ref a), (.int pi)] below meth c s₁ [] 0 0 := Stand.of_body Bd
  have e0 : s₁.heap = h0 := by rw [← hh, Bd.state]; rfl
  have N0 := Fr.nil n0
  have pre0 : ∀ z_, Steps p.tables e below (s₁.setTop (mkF m 0 #[.val (.ref a), .val (.int pi)] [])) z_ → Steps p.tables e below (s₁.setTop (entryFrame m #[(.ref a), (.int pi)] 2)) z_ := fun z_ k_ => castTop (ef_elData m a pi) k_
  have r0 : own_R p e below s₁ (mkF m 0 #[.val (.ref a), .val (.int pi)] []) s₁ (mkF m 0 #[.val (.ref a), .val (.int pi)] []) := own_R.refl
  have r1 : own_R p e below _ _ s₁ (mkF m 1 #[.val (.ref a), .val (.int pi)] [(.ref a)]) := r0.trans fun z_ kt => by
    refine XS.aloadN X0.here hx rfl (hb hby d33_0) rfl rfl ?_
    exact kt
  obtain ⟨T2, X2, e2, st2⟩ := getF X0 hx hZ hown (host := "") (Or.inl (hw _ (own_g (i := 50) rfl))) Via.refl e0 F_a_elementData (g := (mkF m 1 #[.val (.ref a), .val (.int pi)] [(.ref a)])) rfl rfl (hb hby d33_1)
  have r2 : own_R p e below _ _ T2 (mkF m 4 #[.val (.ref a), .val (.int pi)] [(.ref arr)]) := r1.trans fun z_ kt => st2 _ kt
  have r4 : own_R p e below _ _ T2 (mkF m 5 #[.val (.ref a), .val (.int pi)] [(.int pi), (.ref arr)]) := r2.trans fun z_ kt => by
    refine XS.iloadN X2.here hx rfl (hb hby d33_4) rfl ?_
    exact kt
  obtain ⟨cl3, Ar3, q3, S3, M3, H3, G3⟩ := id V_arr
  have hin3 : ¬ (pi < 0 ∨ cl3.slots.size ≤ (pi).toNatClampNeg) := inb_of S3 hiz
  have hat3 : cl3.slots[(pi).toNatClampNeg]? = some (.ref y) := Has.at H3 hin3 hiy
  have r5 : own_R p e below _ _ T2 (mkF m 6 #[.val (.ref a), .val (.int pi)] [(.ref y)]) := r4.trans fun z_ kt => by
    refine X2.aaload hx (j := pi) (v := (.ref y)) (by rw [e2]; exact Ar3.1) (State.isArrayOf_alike hZ.alike Ar3.2.1) rfl Ar3.2.2 hin3 hat3 (g := (mkF m 5 #[.val (.ref a), .val (.int pi)] [(.int pi), (.ref arr)])) rfl rfl (hb hby d33_5) _ ?_
    exact kt
  obtain ⟨fs_, hr_, hrun_, hended_, hW_, hsame_⟩ := X2.leave (v := some (.ref y)) (fun h => by rw [Bd.returns] at h; cases h)
  refine ⟨_, _, pre0 _ (r5 _ ?_), hrun_, hended_, _, _, rfl, ?_, ⟨_, rfl⟩, hW_, hsame_.mono (by decide) (by decide)⟩
  · exact retOut X2 hx Bd.returns rfl (Or.inr (Or.inr (Or.inr (Or.inr ⟨rfl, rfl, rfl⟩)))) (hb hby d33_6) hr_
  · show Q_elData Z a pi arr ka z vs y h0 n0 _ T2.heap _
    rw [e2]
    exact ⟨rfl, N0, rfl⟩

theorem d30_0 : decode jdk_38_method_20_code 0 = .ok (.iload_n 1, 1) := by decide +kernel
theorem d30_1 : decode jdk_38_method_20_code 1 = .ok (.aload_n 0, 1) := by decide +kernel
theorem d30_2 : decode jdk_38_method_20_code 2 = .ok (.getfield 48, 3) := by decide +kernel
theorem d30_5 : decode jdk_38_method_20_code 5 = .ok (.invokestatic 118, 3) := by decide +kernel
theorem d30_8 : decode jdk_38_method_20_code 8 = .ok (.pop, 1) := by decide +kernel
theorem d30_9 : decode jdk_38_method_20_code 9 = .ok (.aload_n 0, 1) := by decide +kernel
theorem d30_10 : decode jdk_38_method_20_code 10 = .ok (.iload_n 1, 1) := by decide +kernel
theorem d30_11 : decode jdk_38_method_20_code 11 = .ok (.invokevirtual 123, 3) := by decide +kernel
theorem pd_17 : parseMethodDescriptor "(I)Ljava/lang/Object;" = some ⟨[.int], some (.object "java/lang/Object")⟩ := by decide +kernel
theorem d30_14 : decode jdk_38_method_20_code 14 = .ok (.areturn, 1) := by decide +kernel
theorem ef_alGet (m : MethodId) (a : Addr) (pi : Int32) : entryFrame m #[(.ref a), (.int pi)] 2 = mkF m 0 #[.val (.ref a), .val (.int pi)] [] := by first | (simp [entryFrame, mkF, argsToLocals, Value.category]; done) | rfl
def Q_alGet (Z : State) (a : Addr) (pi : Int32) (arr : Addr) (ka : ClassId) (z : Int32) (vs : List Value) (y : Addr) (ps : Int32) (h0 : Heap) (n0 : Nat) (v_ : Option Value) (h_ : Heap) (L_ : List Loc) : Prop := v_ = some (.ref y) ∧ Fr n0 L_ ∧ h_ = h0
set_option maxRecDepth 65536 in
set_option maxHeartbeats 40000000 in
theorem rm_alGet (l : Launch) (Z : State) (a0 : Array Value) (hw : ∀ d ∈ tables_1, d.before a0 Z = true) (ws : List Jvm.Cond) (a : Addr) (pi : Int32) (arr : Addr) (ka : ClassId) (z : Int32) (vs : List Value) (y : Addr) (ps : Int32) (h0 : Heap) (n0 : Nat) (O0 : Old Z n0 h0) (E_a : Exa Z h0 a "java/util/ArrayList") (F_a_elementData : Fld Z h0 a "java/util/ArrayList" "elementData" "[Ljava/lang/Object;" (.ref arr)) (F_a_size : Fld Z h0 a "java/util/ArrayList" "size" "I" (.int ps)) (V_arr : Arv Z h0 arr ka (.object "java/lang/Object") z vs .null) (hiz : ¬ (pi < 0) ∧ pi < z) (hiy : vs.getD pi.toNatClampNeg .null = .ref y) (hix : ¬ (pi < (0 : Int32)) ∧ pi < ps) :
    MetFree l (⟨"java/util/ArrayList", "get", "(I)Ljava/lang/Object;"⟩ : MethodName) (head1 (Jvm.Cond.code (⟨"java/util/ArrayList", "get", "(I)Ljava/lang/Object;"⟩ : MethodName) jdk_38_method_20_code 2 (some (.object "java/lang/Object")) :: ws) ({ frames := 2, cells := 0, slots := 0, locals := 27 } : Room)) (fun aa_ U_ => aa_ = #[(.ref a), (.int pi)] ∧ Z.Warmed39 U_.vm ∧ U_.heap = h0) (fun _ _ _ _ _ => True) (fun _ U_ o_ U_' => ∃ v_ L_, o_ = .returned v_ ∧ Q_alGet Z a pi arr ka z vs y ps h0 n0 v_ U_'.heap L_ ∧ FrameEnd U_ o_ U_' L_ ({ frames := 2, cells := 0, slots := 0, locals := 27 } : Room).cells ({ frames := 2, cells := 0, slots := 0, locals := 27 } : Room).slots) := by
  refine MetFree.of_bodySF (plainFor_of_name pn_ArrayList) hisR ?_
  intro p e s m args below meth c s₁ Bd hml0 hP hK
  obtain ⟨rfl, hZ, hh⟩ := hP
  have hx := Bd.exec
  have hby := Bd.bytes
  have hml : c.maxLocals = 2 := hml0
  have hown : s.vm.findClass "java/util/ArrayList" = some m.cls := findClass_of_methodNamed Bd.named
  have hnm := (name_of_methodNamed Bd.named Bd.method).1
  have X0 : Stand p l e ({ frames := 2, cells := 0, slots := 0, locals := 27 } : Room) s m #[(.ref a), (.int pi)] below meth c s₁ [] 0 0 := Stand.of_body Bd
  have e0 : s₁.heap = h0 := by rw [← hh, Bd.state]; rfl
  have N0 := Fr.nil n0
  have pre0 : ∀ z_, Steps p.tables e below (s₁.setTop (mkF m 0 #[.val (.ref a), .val (.int pi)] [])) z_ → Steps p.tables e below (s₁.setTop (entryFrame m #[(.ref a), (.int pi)] 2)) z_ := fun z_ k_ => castTop (ef_alGet m a pi) k_
  have r0 : own_R p e below s₁ (mkF m 0 #[.val (.ref a), .val (.int pi)] []) s₁ (mkF m 0 #[.val (.ref a), .val (.int pi)] []) := own_R.refl
  have ne_a_arr : a ≠ arr := (own_ne_arv E_a (hw _ (own_g (i := 29) rfl)) V_arr)
  have r1 : own_R p e below _ _ s₁ (mkF m 2 #[.val (.ref a), .val (.int pi)] [(.ref a), (.int pi)]) := r0.trans fun z_ kt => by
    refine XS.iloadN X0.here hx rfl (hb hby d30_0) rfl ?_
    refine XS.aloadN X0.here hx rfl (hb hby d30_1) rfl rfl ?_
    exact kt
  obtain ⟨T2, X2, e2, st2⟩ := getF X0 hx hZ hown (host := "") (Or.inl (hw _ (own_g (i := 150) rfl))) Via.refl e0 F_a_size (g := (mkF m 2 #[.val (.ref a), .val (.int pi)] [(.ref a), (.int pi)])) rfl rfl (hb hby d30_2)
  have r2 : own_R p e below _ _ T2 (mkF m 5 #[.val (.ref a), .val (.int pi)] [(.int ps), (.int pi)]) := r1.trans fun z_ kt => st2 _ kt
  obtain ⟨_, _, ⟨T3, L3, cc3, n3⟩, -, X3, ⟨Lc3, hQ3, l3, y3, z3⟩, st3⟩ := Jvm.LawKit.callS X2 hx (y := (⟨"java/util/Objects", "checkIndex", "(II)I"⟩ : MethodName)) hown (mvT hZ (hw _ (own_g (i := 209) rfl))) (mvT hZ (hw _ (own_g (i := 210) rfl))) (mvT hZ (hw _ (own_g (i := 211) rfl))) (mvT hZ (hw _ (own_g (i := 212) rfl))) (by decide) (backOf (W := 0) (rm_chk2 l Z a0 hw [] (pi) (ps) h0 n0 O0 (hix)) hZ (hw _ (own_g (i := 212) rfl)) (hw _ (own_g (i := 211) rfl)) (by decide) (by decide)) (g := (mkF m 5 #[.val (.ref a), .val (.int pi)] [(.int ps), (.int pi)])) rfl (by rw [hml]; rfl) (argsL := [(.int pi), (.int ps)]) (rest := []) (lenOf pd_4 rfl) rfl (by show 2 * 0 + _ ≤ _; exact Nat.le_of_eq rfl) (hb hby d30_5) (fun _ _ => ⟨rfl, e2, (by decide : 0 + 0 ≤ _), (by decide : 0 + 0 ≤ _)⟩)
  dsimp only [Pt.U, Pt.locs, Pt.cells, Pt.slots] at X3 l3 y3 z3 st3 hQ3
  subst l3 y3 z3
  obtain ⟨rfl, Nq3, eq3⟩ := hQ3
  have N3 := Fr.app N0 Nq3
  have r3 : own_R p e below _ _ T3 (mkF m 8 #[.val (.ref a), .val (.int pi)] [(.int pi)]) := r2.trans fun z_ kt => st3 _ kt
  have e3 : T3.heap = h0 := eq3
  have r4 : own_R p e below _ _ T3 (mkF m 11 #[.val (.ref a), .val (.int pi)] [(.int pi), (.ref a)]) := r3.trans fun z_ kt => by
    refine XS.pop X3.here hx rfl (hb hby d30_8) rfl rfl ?_
    refine XS.aloadN X3.here hx rfl (hb hby d30_9) rfl rfl ?_
    refine XS.iloadN X3.here hx rfl (hb hby d30_10) rfl ?_
    exact kt
  obtain ⟨cq5, kq5, q5a, q5b, q5c⟩ := isOf hZ e3 E_a
  obtain ⟨_, _, ⟨T5, L5, cc5, n5⟩, -, X5, ⟨Lc5, hQ5, l5, y5, z5⟩, st5⟩ := X3.virtualBack hx (y := (⟨"java/util/ArrayList", "elementData", "(I)Ljava/lang/Object;"⟩ : MethodName)) (z := (⟨"java/util/ArrayList", "elementData", "(I)Ljava/lang/Object;"⟩ : MethodName)) hown (mvT hZ (hw _ (own_g (i := 217) rfl))) (mvT hZ (hw _ (own_g (i := 218) rfl))) (notFace_of_selects (args := #[]) (mvT hZ (hw _ (own_g (i := 220) rfl)))) (mvT hZ (hw _ (own_g (i := 220) rfl))) (mvT hZ (hw _ (own_g (i := 219) rfl))) (by decide) (backOf (W := 0) (rm_elData l Z a0 hw [] (a) (pi) (arr) (ka) (z) (vs) (y) h0 n0 O0 (F_a_elementData) (V_arr) (hiz) (hiy)) hZ (hw _ (own_g (i := 221) rfl)) (hw _ (own_g (i := 30) rfl)) (by decide) (by decide)) q5a q5c (g := (mkF m 11 #[.val (.ref a), .val (.int pi)] [(.int pi), (.ref a)])) rfl (by rw [hml]; rfl) (Steps.refl _) (argsL := [(.int pi)]) (rest := []) (lenOf pd_17 rfl) rfl (by show 2 * 0 + _ ≤ _; exact Nat.le_of_eq rfl) (hb hby d30_11) (fun _ _ => ⟨rfl, e3, (by decide : 0 + 0 ≤ _), (by decide : 0 + 0 ≤ _)⟩)
  dsimp only [Pt.U, Pt.locs, Pt.cells, Pt.slots] at X5 l5 y5 z5 st5 hQ5
  subst l5 y5 z5
  obtain ⟨rfl, Nq5, eq5⟩ := hQ5
  have N5 := Fr.app N3 Nq5
  have r5 : own_R p e below _ _ T5 (mkF m 14 #[.val (.ref a), .val (.int pi)] [(.ref y)]) := r4.trans fun z_ kt => st5.trans kt
  have e5 : T5.heap = h0 := eq5
  obtain ⟨fs_, hr_, hrun_, hended_, hW_, hsame_⟩ := X5.leave (v := some (.ref y)) (fun h => by rw [Bd.returns] at h; cases h)
  refine ⟨_, _, pre0 _ (r5 _ ?_), hrun_, hended_, _, _, rfl, ?_, ⟨_, rfl⟩, hW_, hsame_.mono (by decide) (by decide)⟩
  · exact retOut X5 hx Bd.returns rfl (Or.inr (Or.inr (Or.inr (Or.inr ⟨rfl, rfl, rfl⟩)))) (hb hby d30_14) hr_
  · show Q_alGet Z a pi arr ka z vs y ps h0 n0 _ T5.heap _
    rw [e5]
    exact ⟨rfl, N5, rfl⟩

theorem d29_0 : decode method_3_code 0 = .ok (.iload_n 2, 1) := by decide +kernel
theorem d29_1 : decode method_3_code 1 = .ok (.iload_n 1, 1) := by decide +kernel
theorem d29_2 : decode method_3_code 2 = .ok (.if_icmp .ge 7, 3) := by decide +kernel
theorem d29_5 : decode method_3_code 5 = .ok (.aload_n 0, 1) := by decide +kernel
theorem d29_6 : decode method_3_code 6 = .ok (.iload_n 2, 1) := by decide +kernel
theorem d29_7 : decode method_3_code 7 = .ok (.aaload, 1) := by decide +kernel
theorem d29_8 : decode method_3_code 8 = .ok (.areturn, 1) := by decide +kernel
theorem d29_9 : decode method_3_code 9 = .ok (.aload_n 0, 1) := by decide +kernel
theorem d29_10 : decode method_3_code 10 = .ok (.iconst 3, 1) := by decide +kernel
theorem d29_11 : decode method_3_code 11 = .ok (.iload_n 2, 1) := by decide +kernel
theorem d29_12 : decode method_3_code 12 = .ok (.iadd, 1) := by decide +kernel
theorem d29_13 : decode method_3_code 13 = .ok (.iload_n 1, 1) := by decide +kernel
theorem d29_14 : decode method_3_code 14 = .ok (.isub, 1) := by decide +kernel
theorem d29_15 : decode method_3_code 15 = .ok (.aaload, 1) := by decide +kernel
theorem d29_16 : decode method_3_code 16 = .ok (.areturn, 1) := by decide +kernel
theorem pn_RecentChangesKeepAtLeastPinLaw : plainName "com/example/kleinbasel/kleinbasel/content/RecentChangesKeepAtLeastPinLaw" = true := by first | (simp [plainName, overriddenIn]; done) | decide +kernel
theorem ef_expect (m : MethodId) (er : Addr) (pn1 : Int32) (pi : Int32) : entryFrame m #[(.ref er), (.int pn1), (.int pi)] 3 = mkF m 0 #[.val (.ref er), .val (.int pn1), .val (.int pi)] [] := by first | (simp [entryFrame, mkF, argsToLocals, Value.category]; done) | rfl
def Q_expect (Z : State) (er : Addr) (pn1 : Int32) (pi : Int32) (ke : ClassId) (y : Addr) (ee0 : Addr) (ee1 : Addr) (ee2 : Addr) (ee3 : Addr) (ee4 : Addr) (ee5 : Addr) (h0 : Heap) (n0 : Nat) (v_ : Option Value) (h_ : Heap) (L_ : List Loc) : Prop := v_ = some (.ref y) ∧ Fr n0 L_ ∧ h_ = h0
set_option maxRecDepth 65536 in
set_option maxHeartbeats 40000000 in
theorem rm_expect (l : Launch) (Z : State) (a0 : Array Value) (hw : ∀ d ∈ tables_1, d.before a0 Z = true) (ws : List Jvm.Cond) (er : Addr) (pn1 : Int32) (pi : Int32) (ke : ClassId) (y : Addr) (ee0 : Addr) (ee1 : Addr) (ee2 : Addr) (ee3 : Addr) (ee4 : Addr) (ee5 : Addr) (h0 : Heap) (n0 : Nat) (O0 : Old Z n0 h0) (V_er : Arv Z h0 er ke (.object "java/lang/String") (6 : Int32) [(.ref ee0), (.ref ee1), (.ref ee2), (.ref ee3), (.ref ee4), (.ref ee5)] .null) (hr0 : (pi < pn1 ∧ own_at [(.ref ee0), (.ref ee1), (.ref ee2), (.ref ee3), (.ref ee4), (.ref ee5)] (pi) y) ∨ (¬ (pi < pn1) ∧ own_at [(.ref ee0), (.ref ee1), (.ref ee2), (.ref ee3), (.ref ee4), (.ref ee5)] (((3 : Int32) + pi) - pn1) y)) :
    MetFree l (⟨"com/example/kleinbasel/kleinbasel/content/RecentChangesKeepAtLeastPinLaw", "expected", "([Ljava/lang/String;II)Ljava/lang/String;"⟩ : MethodName) (head1 (Jvm.Cond.code (⟨"com/example/kleinbasel/kleinbasel/content/RecentChangesKeepAtLeastPinLaw", "expected", "([Ljava/lang/String;II)Ljava/lang/String;"⟩ : MethodName) method_3_code 3 (some (.object "java/lang/String")) :: ws) ({ frames := 0, cells := 0, slots := 0, locals := 0 } : Room)) (fun aa_ U_ => aa_ = #[(.ref er), (.int pn1), (.int pi)] ∧ Z.Warmed39 U_.vm ∧ U_.heap = h0) (fun _ _ _ _ _ => True) (fun _ U_ o_ U_' => ∃ v_ L_, o_ = .returned v_ ∧ Q_expect Z er pn1 pi ke y ee0 ee1 ee2 ee3 ee4 ee5 h0 n0 v_ U_'.heap L_ ∧ FrameEnd U_ o_ U_' L_ ({ frames := 0, cells := 0, slots := 0, locals := 0 } : Room).cells ({ frames := 0, cells := 0, slots := 0, locals := 0 } : Room).slots) := by
  refine MetFree.of_bodySF (plainFor_of_name pn_RecentChangesKeepAtLeastPinLaw) hisR ?_
  intro p e s m args below meth c s₁ Bd hml0 hP hK
  obtain ⟨rfl, hZ, hh⟩ := hP
  have hx := Bd.exec
  have hby := Bd.bytes
  have hml : c.maxLocals = 3 := hml0
  have hown : s.vm.findClass "com/example/kleinbasel/kleinbasel/content/RecentChangesKeepAtLeastPinLaw" = some m.cls := findClass_of_methodNamed Bd.named
  have hnm := (name_of_methodNamed Bd.named Bd.method).1
  have X0 : Stand p l e ({ frames := 0, cells := 0, slots := 0, locals := 0 } : Room) s m #[(.ref er), (.int pn1), (.int pi)] below meth c s₁ [] 0 0 := Stand.of_body Bd
  have e0 : s₁.heap = h0 := by rw [← hh, Bd.state]; rfl
  have N0 := Fr.nil n0
  have pre0 : ∀ z_, Steps p.tables e below (s₁.setTop (mkF m 0 #[.val (.ref er), .val (.int pn1), .val (.int pi)] [])) z_ → Steps p.tables e below (s₁.setTop (entryFrame m #[(.ref er), (.int pn1), (.int pi)] 3)) z_ := fun z_ k_ => castTop (ef_expect m er pn1 pi) k_
  have r0 : own_R p e below s₁ (mkF m 0 #[.val (.ref er), .val (.int pn1), .val (.int pi)] []) s₁ (mkF m 0 #[.val (.ref er), .val (.int pn1), .val (.int pi)] []) := own_R.refl
  rcases hr0 with ⟨q1, q2⟩ | ⟨q1, q2⟩
  · skip
    have r2 : own_R p e below _ _ s₁ (mkF m 7 #[.val (.ref er), .val (.int pn1), .val (.int pi)] [(.int pi), (.ref er)]) := r0.trans fun z_ kt => by
      refine XS.iloadN X0.here hx rfl (hb hby d29_0) rfl ?_
      refine XS.iloadN X0.here hx rfl (hb hby d29_1) rfl ?_
      refine XS.icmpNo X0.here hx rfl (hb hby d29_2) rfl (tlt (q1 : pi < pn1)).2.1 ?_
      refine XS.aloadN X0.here hx rfl (hb hby d29_5) rfl rfl ?_
      refine XS.iloadN X0.here hx rfl (hb hby d29_6) rfl ?_
      exact kt
    obtain ⟨cl1, Ar1, q1, S1, M1, H1, G1⟩ := id V_er
    have hin1 : ¬ (pi < 0 ∨ cl1.slots.size ≤ (pi).toNatClampNeg) := inb_of S1 ⟨q2.1, q2.2.1⟩
    have hat1 : cl1.slots[(pi).toNatClampNeg]? = some (.ref y) := Has.at H1 hin1 q2.2.2
    have r3 : own_R p e below _ _ s₁ (mkF m 8 #[.val (.ref er), .val (.int pn1), .val (.int pi)] [(.ref y)]) := r2.trans fun z_ kt => by
      refine X0.aaload hx (j := pi) (v := (.ref y)) (by rw [e0]; exact Ar1.1) (State.isArrayOf_alike hZ.alike Ar1.2.1) rfl Ar1.2.2 hin1 hat1 (g := (mkF m 7 #[.val (.ref er), .val (.int pn1), .val (.int pi)] [(.int pi), (.ref er)])) rfl rfl (hb hby d29_7) _ ?_
      exact kt
    obtain ⟨fs_, hr_, hrun_, hended_, hW_, hsame_⟩ := X0.leave (v := some (.ref y)) (fun h => by rw [Bd.returns] at h; cases h)
    refine ⟨_, _, pre0 _ (r3 _ ?_), hrun_, hended_, _, _, rfl, ?_, ⟨_, rfl⟩, hW_, hsame_.mono (by decide) (by decide)⟩
    · exact retOut X0 hx Bd.returns rfl (Or.inr (Or.inr (Or.inr (Or.inr ⟨rfl, rfl, rfl⟩)))) (hb hby d29_8) hr_
    · show Q_expect Z er pn1 pi ke y ee0 ee1 ee2 ee3 ee4 ee5 h0 n0 _ s₁.heap _
      rw [e0]
      exact ⟨rfl, N0, rfl⟩
  · skip
    have r5 : own_R p e below _ _ s₁ (mkF m 15 #[.val (.ref er), .val (.int pn1), .val (.int pi)] [(.int (((3 : Int32) + pi) - pn1)), (.ref er)]) := r0.trans fun z_ kt => by
      refine XS.iloadN X0.here hx rfl (hb hby d29_0) rfl ?_
      refine XS.iloadN X0.here hx rfl (hb hby d29_1) rfl ?_
      refine XS.icmpYes X0.here hx rfl (pc0 := 2) (pc' := 9) rfl (hb hby d29_2) rfl (flt (q1 : ¬ (pi < pn1))).2.1 (by decide) (by decide) ?_
      refine XS.aloadN X0.here hx rfl (hb hby d29_9) rfl rfl ?_
      refine XS.iconst X0.here hx rfl (hb hby d29_10) ?_
      refine XS.iloadN X0.here hx rfl (hb hby d29_11) rfl ?_
      refine XS.iadd X0.here hx rfl (hb hby d29_12) rfl ?_
      refine XS.iloadN X0.here hx rfl (hb hby d29_13) rfl ?_
      refine XS.isub X0.here hx rfl (hb hby d29_14) rfl ?_
      exact kt
    obtain ⟨cl4, Ar4, q4, S4, M4, H4, G4⟩ := id V_er
    have hin4 : ¬ ((((3 : Int32) + pi) - pn1) < 0 ∨ cl4.slots.size ≤ ((((3 : Int32) + pi) - pn1)).toNatClampNeg) := inb_of S4 ⟨q2.1, q2.2.1⟩
    have hat4 : cl4.slots[((((3 : Int32) + pi) - pn1)).toNatClampNeg]? = some (.ref y) := Has.at H4 hin4 q2.2.2
    have r6 : own_R p e below _ _ s₁ (mkF m 16 #[.val (.ref er), .val (.int pn1), .val (.int pi)] [(.ref y)]) := r5.trans fun z_ kt => by
      refine X0.aaload hx (j := (((3 : Int32) + pi) - pn1)) (v := (.ref y)) (by rw [e0]; exact Ar4.1) (State.isArrayOf_alike hZ.alike Ar4.2.1) rfl Ar4.2.2 hin4 hat4 (g := (mkF m 15 #[.val (.ref er), .val (.int pn1), .val (.int pi)] [(.int (((3 : Int32) + pi) - pn1)), (.ref er)])) rfl rfl (hb hby d29_15) _ ?_
      exact kt
    obtain ⟨fs_, hr_, hrun_, hended_, hW_, hsame_⟩ := X0.leave (v := some (.ref y)) (fun h => by rw [Bd.returns] at h; cases h)
    refine ⟨_, _, pre0 _ (r6 _ ?_), hrun_, hended_, _, _, rfl, ?_, ⟨_, rfl⟩, hW_, hsame_.mono (by decide) (by decide)⟩
    · exact retOut X0 hx Bd.returns rfl (Or.inr (Or.inr (Or.inr (Or.inr ⟨rfl, rfl, rfl⟩)))) (hb hby d29_16) hr_
    · show Q_expect Z er pn1 pi ke y ee0 ee1 ee2 ee3 ee4 ee5 h0 n0 _ s₁.heap _
      rw [e0]
      exact ⟨rfl, N0, rfl⟩

theorem d34_0 : decode jdk_42_method_66_code 0 = .ok (.aload_n 0, 1) := by decide +kernel
theorem d34_1 : decode jdk_42_method_66_code 1 = .ok (.aload_n 1, 1) := by decide +kernel
theorem d34_2 : decode jdk_42_method_66_code 2 = .ok (.if_acmp .ne 5, 3) := by decide +kernel
theorem d34_5 : decode jdk_42_method_66_code 5 = .ok (.iconst 1, 1) := by decide +kernel
theorem d34_6 : decode jdk_42_method_66_code 6 = .ok (.ireturn, 1) := by decide +kernel
theorem ef_strEq (m : MethodId) (a : Addr) : entryFrame m #[(.ref a), (.ref a)] 3 = mkF m 0 #[.val (.ref a), .val (.ref a), .unset] [] := by first | (simp [entryFrame, mkF, argsToLocals, Value.category]; done) | rfl
def Q_strEq (Z : State) (a : Addr) (h0 : Heap) (n0 : Nat) (v_ : Option Value) (h_ : Heap) (L_ : List Loc) : Prop := v_ = some (.int (1 : Int32)) ∧ Fr n0 L_ ∧ h_ = h0
set_option maxRecDepth 65536 in
set_option maxHeartbeats 40000000 in
theorem rm_strEq (l : Launch) (Z : State) (a0 : Array Value) (hw : ∀ d ∈ tables_1, d.before a0 Z = true) (ws : List Jvm.Cond) (a : Addr) (h0 : Heap) (n0 : Nat) (O0 : Old Z n0 h0) :
    MetFree l (⟨"java/lang/String", "equals", "(Ljava/lang/Object;)Z"⟩ : MethodName) (head1 (Jvm.Cond.code (⟨"java/lang/String", "equals", "(Ljava/lang/Object;)Z"⟩ : MethodName) jdk_42_method_66_code 3 (some .boolean) :: ws) ({ frames := 0, cells := 0, slots := 0, locals := 0 } : Room)) (fun aa_ U_ => aa_ = #[(.ref a), (.ref a)] ∧ Z.Warmed39 U_.vm ∧ U_.heap = h0) (fun _ _ _ _ _ => True) (fun _ U_ o_ U_' => ∃ v_ L_, o_ = .returned v_ ∧ Q_strEq Z a h0 n0 v_ U_'.heap L_ ∧ FrameEnd U_ o_ U_' L_ ({ frames := 0, cells := 0, slots := 0, locals := 0 } : Room).cells ({ frames := 0, cells := 0, slots := 0, locals := 0 } : Room).slots) := by
  refine MetFree.of_bodySF (plainFor_of_name pn_String) hisR ?_
  intro p e s m args below meth c s₁ Bd hml0 hP hK
  obtain ⟨rfl, hZ, hh⟩ := hP
  have hx := Bd.exec
  have hby := Bd.bytes
  have hml : c.maxLocals = 3 := hml0
  have hown : s.vm.findClass "java/lang/String" = some m.cls := findClass_of_methodNamed Bd.named
  have hnm := (name_of_methodNamed Bd.named Bd.method).1
  have X0 : Stand p l e ({ frames := 0, cells := 0, slots := 0, locals := 0 } : Room) s m #[(.ref a), (.ref a)] below meth c s₁ [] 0 0 := Stand.of_body Bd
  have e0 : s₁.heap = h0 := by rw [← hh, Bd.state]; rfl
  have N0 := Fr.nil n0
  have pre0 : ∀ z_, Steps p.tables e below (s₁.setTop (mkF m 0 #[.val (.ref a), .val (.ref a), .unset] [])) z_ → Steps p.tables e below (s₁.setTop (entryFrame m #[(.ref a), (.ref a)] 3)) z_ := fun z_ k_ => castTop (ef_strEq m a) k_
  have r0 : own_R p e below s₁ (mkF m 0 #[.val (.ref a), .val (.ref a), .unset] []) s₁ (mkF m 0 #[.val (.ref a), .val (.ref a), .unset] []) := own_R.refl
  have r1 : own_R p e below _ _ s₁ (mkF m 6 #[.val (.ref a), .val (.ref a), .unset] [(.int (1 : Int32))]) := r0.trans fun z_ kt => by
    refine XS.aloadN X0.here hx rfl (hb hby d34_0) rfl rfl ?_
    refine XS.aloadN X0.here hx rfl (hb hby d34_1) rfl rfl ?_
    refine Jvm.RoadKit.acmp (g := (mkF m 2 #[.val (.ref a), .val (.ref a), .unset] [(.ref a), (.ref a)])) X0 hx rfl rfl rfl (pc0 := 2) (pc' := 5) (same := true) rfl (hb hby d34_2) rfl (decide_eq_true rfl) (by decide) (by decide) ?_
    refine XS.iconst X0.here hx rfl (hb hby d34_5) ?_
    exact kt
  obtain ⟨fs_, hr_, hrun_, hended_, hW_, hsame_⟩ := X0.leave (v := some (.int (1 : Int32))) (fun h => by rw [Bd.returns] at h; cases h)
  refine ⟨_, _, pre0 _ (r1 _ ?_), hrun_, hended_, _, _, rfl, ?_, ⟨_, rfl⟩, hW_, hsame_.mono (by decide) (by decide)⟩
  · exact retN X0 hx (t := .boolean) Bd.returns (by simp) (hb hby d34_6) hr_
  · show Q_strEq Z a h0 n0 _ s₁.heap _
    rw [e0]
    exact ⟨rfl, N0, rfl⟩

theorem d20_0 : decode method_4_code 0 = .ok (.aload_n 0, 1) := by decide +kernel
theorem d20_1 : decode method_4_code 1 = .ok (.ifnonnull 5, 3) := by decide +kernel
theorem d20_6 : decode method_4_code 6 = .ok (.aload_n 0, 1) := by decide +kernel
theorem d20_7 : decode method_4_code 7 = .ok (.invokeinterface 44 1, 5) := by decide +kernel
theorem pd_18 : parseMethodDescriptor "()I" = some ⟨[], some .int⟩ := by decide +kernel
theorem d20_12 : decode method_4_code 12 = .ok (.iload 4, 2) := by decide +kernel
theorem d20_14 : decode method_4_code 14 = .ok (.if_icmp .eq 5, 3) := by decide +kernel
theorem d20_19 : decode method_4_code 19 = .ok (.iload 4, 2) := by decide +kernel
theorem d20_21 : decode method_4_code 21 = .ok (.ifCond .le 24, 3) := by decide +kernel
theorem d20_24 : decode method_4_code 24 = .ok (.aload_n 1, 1) := by decide +kernel
theorem d20_25 : decode method_4_code 25 = .ok (.iload_n 2, 1) := by decide +kernel
theorem d20_26 : decode method_4_code 26 = .ok (.iload_n 3, 1) := by decide +kernel
theorem d20_27 : decode method_4_code 27 = .ok (.invokestatic 50, 3) := by decide +kernel
theorem pd_19 : parseMethodDescriptor "([Ljava/lang/String;II)Ljava/lang/String;" = some ⟨[(.array (.object "java/lang/String")), .int, .int], some (.object "java/lang/String")⟩ := by decide +kernel
theorem d20_30 : decode method_4_code 30 = .ok (.aload_n 0, 1) := by decide +kernel
theorem d20_31 : decode method_4_code 31 = .ok (.iconst 0, 1) := by decide +kernel
theorem d20_32 : decode method_4_code 32 = .ok (.invokeinterface 54 2, 5) := by decide +kernel
theorem d20_37 : decode method_4_code 37 = .ok (.invokevirtual 58, 3) := by decide +kernel
theorem d20_40 : decode method_4_code 40 = .ok (.ifCond .ne 5, 3) := by decide +kernel
theorem d20_45 : decode method_4_code 45 = .ok (.iload 4, 2) := by decide +kernel
theorem d20_47 : decode method_4_code 47 = .ok (.iconst 1, 1) := by decide +kernel
theorem d20_48 : decode method_4_code 48 = .ok (.if_icmp .le 26, 3) := by decide +kernel
theorem d20_51 : decode method_4_code 51 = .ok (.aload_n 1, 1) := by decide +kernel
theorem d20_52 : decode method_4_code 52 = .ok (.iload_n 2, 1) := by decide +kernel
theorem d20_53 : decode method_4_code 53 = .ok (.iload_n 3, 1) := by decide +kernel
theorem d20_54 : decode method_4_code 54 = .ok (.iconst 1, 1) := by decide +kernel
theorem d20_55 : decode method_4_code 55 = .ok (.iadd, 1) := by decide +kernel
theorem d20_56 : decode method_4_code 56 = .ok (.invokestatic 50, 3) := by decide +kernel
theorem d20_59 : decode method_4_code 59 = .ok (.aload_n 0, 1) := by decide +kernel
theorem d20_60 : decode method_4_code 60 = .ok (.iconst 1, 1) := by decide +kernel
theorem d20_61 : decode method_4_code 61 = .ok (.invokeinterface 54 2, 5) := by decide +kernel
theorem d20_66 : decode method_4_code 66 = .ok (.invokevirtual 58, 3) := by decide +kernel
theorem d20_69 : decode method_4_code 69 = .ok (.ifCond .ne 5, 3) := by decide +kernel
theorem d20_74 : decode method_4_code 74 = .ok (.iload 4, 2) := by decide +kernel
theorem d20_76 : decode method_4_code 76 = .ok (.iconst 2, 1) := by decide +kernel
theorem d20_77 : decode method_4_code 77 = .ok (.if_icmp .le 26, 3) := by decide +kernel
theorem d20_80 : decode method_4_code 80 = .ok (.aload_n 1, 1) := by decide +kernel
theorem d20_81 : decode method_4_code 81 = .ok (.iload_n 2, 1) := by decide +kernel
theorem d20_82 : decode method_4_code 82 = .ok (.iload_n 3, 1) := by decide +kernel
theorem d20_83 : decode method_4_code 83 = .ok (.iconst 2, 1) := by decide +kernel
theorem d20_84 : decode method_4_code 84 = .ok (.iadd, 1) := by decide +kernel
theorem d20_85 : decode method_4_code 85 = .ok (.invokestatic 50, 3) := by decide +kernel
theorem d20_88 : decode method_4_code 88 = .ok (.aload_n 0, 1) := by decide +kernel
theorem d20_89 : decode method_4_code 89 = .ok (.iconst 2, 1) := by decide +kernel
theorem d20_90 : decode method_4_code 90 = .ok (.invokeinterface 54 2, 5) := by decide +kernel
theorem d20_95 : decode method_4_code 95 = .ok (.invokevirtual 58, 3) := by decide +kernel
theorem d20_98 : decode method_4_code 98 = .ok (.ifCond .ne 5, 3) := by decide +kernel
theorem d20_103 : decode method_4_code 103 = .ok (.iload 4, 2) := by decide +kernel
theorem d20_105 : decode method_4_code 105 = .ok (.iconst 3, 1) := by decide +kernel
theorem d20_106 : decode method_4_code 106 = .ok (.if_icmp .le 26, 3) := by decide +kernel
theorem d20_109 : decode method_4_code 109 = .ok (.aload_n 1, 1) := by decide +kernel
theorem d20_110 : decode method_4_code 110 = .ok (.iload_n 2, 1) := by decide +kernel
theorem d20_111 : decode method_4_code 111 = .ok (.iload_n 3, 1) := by decide +kernel
theorem d20_112 : decode method_4_code 112 = .ok (.iconst 3, 1) := by decide +kernel
theorem d20_113 : decode method_4_code 113 = .ok (.iadd, 1) := by decide +kernel
theorem d20_114 : decode method_4_code 114 = .ok (.invokestatic 50, 3) := by decide +kernel
theorem d20_117 : decode method_4_code 117 = .ok (.aload_n 0, 1) := by decide +kernel
theorem d20_118 : decode method_4_code 118 = .ok (.iconst 3, 1) := by decide +kernel
theorem d20_119 : decode method_4_code 119 = .ok (.invokeinterface 54 2, 5) := by decide +kernel
theorem d20_124 : decode method_4_code 124 = .ok (.invokevirtual 58, 3) := by decide +kernel
theorem d20_127 : decode method_4_code 127 = .ok (.ifCond .ne 5, 3) := by decide +kernel
theorem d20_132 : decode method_4_code 132 = .ok (.iload 4, 2) := by decide +kernel
theorem d20_134 : decode method_4_code 134 = .ok (.iconst 4, 1) := by decide +kernel
theorem d20_135 : decode method_4_code 135 = .ok (.if_icmp .le 26, 3) := by decide +kernel
theorem d20_138 : decode method_4_code 138 = .ok (.aload_n 1, 1) := by decide +kernel
theorem d20_139 : decode method_4_code 139 = .ok (.iload_n 2, 1) := by decide +kernel
theorem d20_140 : decode method_4_code 140 = .ok (.iload_n 3, 1) := by decide +kernel
theorem d20_141 : decode method_4_code 141 = .ok (.iconst 4, 1) := by decide +kernel
theorem d20_142 : decode method_4_code 142 = .ok (.iadd, 1) := by decide +kernel
theorem d20_143 : decode method_4_code 143 = .ok (.invokestatic 50, 3) := by decide +kernel
theorem d20_146 : decode method_4_code 146 = .ok (.aload_n 0, 1) := by decide +kernel
theorem d20_147 : decode method_4_code 147 = .ok (.iconst 4, 1) := by decide +kernel
theorem d20_148 : decode method_4_code 148 = .ok (.invokeinterface 54 2, 5) := by decide +kernel
theorem d20_153 : decode method_4_code 153 = .ok (.invokevirtual 58, 3) := by decide +kernel
theorem d20_156 : decode method_4_code 156 = .ok (.ifCond .ne 5, 3) := by decide +kernel
theorem d20_161 : decode method_4_code 161 = .ok (.iload 4, 2) := by decide +kernel
theorem d20_163 : decode method_4_code 163 = .ok (.iconst 5, 1) := by decide +kernel
theorem d20_164 : decode method_4_code 164 = .ok (.if_icmp .le 26, 3) := by decide +kernel
theorem d20_167 : decode method_4_code 167 = .ok (.aload_n 1, 1) := by decide +kernel
theorem d20_168 : decode method_4_code 168 = .ok (.iload_n 2, 1) := by decide +kernel
theorem d20_169 : decode method_4_code 169 = .ok (.iload_n 3, 1) := by decide +kernel
theorem d20_170 : decode method_4_code 170 = .ok (.iconst 5, 1) := by decide +kernel
theorem d20_171 : decode method_4_code 171 = .ok (.iadd, 1) := by decide +kernel
theorem d20_172 : decode method_4_code 172 = .ok (.invokestatic 50, 3) := by decide +kernel
theorem d20_175 : decode method_4_code 175 = .ok (.aload_n 0, 1) := by decide +kernel
theorem d20_176 : decode method_4_code 176 = .ok (.iconst 5, 1) := by decide +kernel
theorem d20_177 : decode method_4_code 177 = .ok (.invokeinterface 54 2, 5) := by decide +kernel
theorem d20_182 : decode method_4_code 182 = .ok (.invokevirtual 58, 3) := by decide +kernel
theorem d20_185 : decode method_4_code 185 = .ok (.ifCond .ne 5, 3) := by decide +kernel
theorem d20_190 : decode method_4_code 190 = .ok (.iconst 1, 1) := by decide +kernel
theorem d20_191 : decode method_4_code 191 = .ok (.ireturn, 1) := by decide +kernel
theorem ef_matches (m : MethodId) (g_ : Addr) (er : Addr) (pn1 : Int32) (pf : Int32) (pl : Int32) : entryFrame m #[(.ref g_), (.ref er), (.int pn1), (.int pf), (.int pl)] 5 = mkF m 0 #[.val (.ref g_), .val (.ref er), .val (.int pn1), .val (.int pf), .val (.int pl)] [] := by first | (simp [entryFrame, mkF, argsToLocals, Value.category]; done) | rfl
def Q_matches (Z : State) (g_ : Addr) (er : Addr) (pn1 : Int32) (pf : Int32) (pl : Int32) (arr : Addr) (ka : ClassId) (z : Int32) (ws_ : List Value) (ke : ClassId) (ee0 : Addr) (ee1 : Addr) (ee2 : Addr) (ee3 : Addr) (ee4 : Addr) (ee5 : Addr) (h0 : Heap) (n0 : Nat) (v_ : Option Value) (h_ : Heap) (L_ : List Loc) : Prop := v_ = some (.int (1 : Int32)) ∧ Fr n0 L_ ∧ h_ = h0
set_option maxRecDepth 65536 in
set_option maxHeartbeats 40000000 in
theorem rm_matches (l : Launch) (Z : State) (a0 : Array Value) (hw : ∀ d ∈ tables_1, d.before a0 Z = true) (ws : List Jvm.Cond) (g_ : Addr) (er : Addr) (pn1 : Int32) (pf : Int32) (pl : Int32) (arr : Addr) (ka : ClassId) (z : Int32) (ws_ : List Value) (ke : ClassId) (ee0 : Addr) (ee1 : Addr) (ee2 : Addr) (ee3 : Addr) (ee4 : Addr) (ee5 : Addr) (h0 : Heap) (n0 : Nat) (O0 : Old Z n0 h0) (E_g_ : Exa Z h0 g_ "java/util/ArrayList") (F_g__elementData : Fld Z h0 g_ "java/util/ArrayList" "elementData" "[Ljava/lang/Object;" (.ref arr)) (F_g__size : Fld Z h0 g_ "java/util/ArrayList" "size" "I" (.int pl)) (V_arr : Arv Z h0 arr ka (.object "java/lang/Object") z ws_ .null) (V_er : Arv Z h0 er ke (.object "java/lang/String") (6 : Int32) [(.ref ee0), (.ref ee1), (.ref ee2), (.ref ee3), (.ref ee4), (.ref ee5)] .null) (hpl : 0 ≤ pl.toInt ∧ pl.toInt ≤ 6 ∧ pl.toInt ≤ z.toInt) (hm : ∀ j : Nat, (j : Int) < pl.toInt → ∃ y : Addr, ws_.getD j .null = .ref y ∧ Exa Z h0 y "java/lang/String" ∧ (((pf + Int32.ofNat j) < pn1 ∧ own_at [(.ref ee0), (.ref ee1), (.ref ee2), (.ref ee3), (.ref ee4), (.ref ee5)] ((pf + Int32.ofNat j)) y) ∨ (¬ ((pf + Int32.ofNat j) < pn1) ∧ own_at [(.ref ee0), (.ref ee1), (.ref ee2), (.ref ee3), (.ref ee4), (.ref ee5)] (((3 : Int32) + (pf + Int32.ofNat j)) - pn1) y))) :
    MetFree l (⟨"com/example/kleinbasel/kleinbasel/content/RecentChangesKeepAtLeastPinLaw", "matches", "(Ljava/util/List;[Ljava/lang/String;III)Z"⟩ : MethodName) (head1 (Jvm.Cond.code (⟨"com/example/kleinbasel/kleinbasel/content/RecentChangesKeepAtLeastPinLaw", "matches", "(Ljava/util/List;[Ljava/lang/String;III)Z"⟩ : MethodName) method_4_code 5 (some .boolean) :: ws) ({ frames := 3, cells := 0, slots := 0, locals := 41 } : Room)) (fun aa_ U_ => aa_ = #[(.ref g_), (.ref er), (.int pn1), (.int pf), (.int pl)] ∧ Z.Warmed39 U_.vm ∧ U_.heap = h0) (fun _ _ _ _ _ => True) (fun _ U_ o_ U_' => ∃ v_ L_, o_ = .returned v_ ∧ Q_matches Z g_ er pn1 pf pl arr ka z ws_ ke ee0 ee1 ee2 ee3 ee4 ee5 h0 n0 v_ U_'.heap L_ ∧ FrameEnd U_ o_ U_' L_ ({ frames := 3, cells := 0, slots := 0, locals := 41 } : Room).cells ({ frames := 3, cells := 0, slots := 0, locals := 41 } : Room).slots) := by
  refine MetFree.of_bodySF (plainFor_of_name pn_RecentChangesKeepAtLeastPinLaw) hisR ?_
  intro p e s m args below meth c s₁ Bd hml0 hP hK
  obtain ⟨rfl, hZ, hh⟩ := hP
  have hx := Bd.exec
  have hby := Bd.bytes
  have hml : c.maxLocals = 5 := hml0
  have hown : s.vm.findClass "com/example/kleinbasel/kleinbasel/content/RecentChangesKeepAtLeastPinLaw" = some m.cls := findClass_of_methodNamed Bd.named
  have hnm := (name_of_methodNamed Bd.named Bd.method).1
  have X0 : Stand p l e ({ frames := 3, cells := 0, slots := 0, locals := 41 } : Room) s m #[(.ref g_), (.ref er), (.int pn1), (.int pf), (.int pl)] below meth c s₁ [] 0 0 := Stand.of_body Bd
  have e0 : s₁.heap = h0 := by rw [← hh, Bd.state]; rfl
  have N0 := Fr.nil n0
  have pre0 : ∀ z_, Steps p.tables e below (s₁.setTop (mkF m 0 #[.val (.ref g_), .val (.ref er), .val (.int pn1), .val (.int pf), .val (.int pl)] [])) z_ → Steps p.tables e below (s₁.setTop (entryFrame m #[(.ref g_), (.ref er), (.int pn1), (.int pf), (.int pl)] 5)) z_ := fun z_ k_ => castTop (ef_matches m g_ er pn1 pf pl) k_
  have r0 : own_R p e below s₁ (mkF m 0 #[.val (.ref g_), .val (.ref er), .val (.int pn1), .val (.int pf), .val (.int pl)] []) s₁ (mkF m 0 #[.val (.ref g_), .val (.ref er), .val (.int pn1), .val (.int pf), .val (.int pl)] []) := own_R.refl
  have ne_g__arr : g_ ≠ arr := (own_ne_arv E_g_ (hw _ (own_g (i := 29) rfl)) V_arr)
  have ne_g__er : g_ ≠ er := (own_ne_arv E_g_ (hw _ (own_g (i := 29) rfl)) V_er)
  have r1 : own_R p e below _ _ s₁ (mkF m 7 #[.val (.ref g_), .val (.ref er), .val (.int pn1), .val (.int pf), .val (.int pl)] [(.ref g_)]) := r0.trans fun z_ kt => by
    refine XS.aloadN X0.here hx rfl (hb hby d20_0) rfl rfl ?_
    refine XS.ifnonnullYes X0.here hx rfl (pc0 := 1) (pc' := 6) rfl (hb hby d20_1) rfl (by decide) (by decide) ?_
    refine XS.aloadN X0.here hx rfl (hb hby d20_6) rfl rfl ?_
    exact kt
  obtain ⟨cq2, kq2, q2a, q2b, q2c⟩ := isOf hZ e0 E_g_
  obtain ⟨_, _, ⟨T2, L2, cc2, n2⟩, -, X2, ⟨Lc2, hQ2, l2, y2, z2⟩, st2⟩ := X0.interfaceBack hx (xi := (⟨"java/util/List", "size", "()I"⟩ : MethodName)) (y := (⟨"java/util/ArrayList", "size", "()I"⟩ : MethodName)) hown (mvT hZ (hw _ (own_g (i := 141) rfl))) (mvT hZ (hw _ (own_g (i := 142) rfl))) (mvT hZ (hw _ (own_g (i := 143) rfl))) (mvT hZ (hw _ (own_g (i := 144) rfl))) (mvT hZ (hw _ (own_g (i := 145) rfl))) (mvT hZ (hw _ (own_g (i := 146) rfl))) (mvT hZ (hw _ (own_g (i := 147) rfl))) (mvT hZ (hw _ (own_g (i := 148) rfl))) (by decide) (backOf (W := 0) (rm_alSize l Z a0 hw [] (g_) (pl) h0 n0 O0 (F_g__size)) hZ (hw _ (own_g (i := 149) rfl)) (hw _ (own_g (i := 30) rfl)) (by decide) (by decide)) q2a q2b q2c (g := (mkF m 7 #[.val (.ref g_), .val (.ref er), .val (.int pn1), .val (.int pf), .val (.int pl)] [(.ref g_)])) rfl (by rw [hml]; rfl) (Steps.refl _) (argsL := []) (rest := []) (lenOf pd_18 rfl) rfl (by show 2 * 0 + _ ≤ _; exact Nat.le_of_eq rfl) (hb hby d20_7) (fun _ _ => ⟨rfl, e0, (by decide : 0 + 0 ≤ _), (by decide : 0 + 0 ≤ _)⟩)
  dsimp only [Pt.U, Pt.locs, Pt.cells, Pt.slots] at X2 l2 y2 z2 st2 hQ2
  subst l2 y2 z2
  obtain ⟨rfl, Nq2, eq2⟩ := hQ2
  have N2 := Fr.app N0 Nq2
  have r2 : own_R p e below _ _ T2 (mkF m 12 #[.val (.ref g_), .val (.ref er), .val (.int pn1), .val (.int pf), .val (.int pl)] [(.int pl)]) := r1.trans fun z_ kt => st2.trans kt
  have e2 : T2.heap = h0 := eq2
  have r3 : own_R p e below _ _ T2 (mkF m 21 #[.val (.ref g_), .val (.ref er), .val (.int pn1), .val (.int pf), .val (.int pl)] [(.int pl)]) := r2.trans fun z_ kt => by
    refine XS.iload X2.here hx rfl (hb hby d20_12) rfl ?_
    refine XS.icmpYes X2.here hx rfl (pc0 := 14) (pc' := 19) rfl (hb hby d20_14) rfl (teq (rfl : pl = pl)).1 (by decide) (by decide) ?_
    refine XS.iload X2.here hx rfl (hb hby d20_19) rfl ?_
    exact kt
  by_cases hc21_4 : (0 : Int32) < pl
  · skip
    obtain ⟨y0, hy0, Ey0, hx0⟩ := hm 0 (own_on hc21_4)
    have r5 : own_R p e below _ _ T2 (mkF m 27 #[.val (.ref g_), .val (.ref er), .val (.int pn1), .val (.int pf), .val (.int pl)] [(.int pf), (.int pn1), (.ref er)]) := r3.trans fun z_ kt => by
      refine XS.ifNo X2.here hx rfl (hb hby d20_21) rfl ((if0 _ _).trans (tlt (hc21_4 : (0 : Int32) < pl)).2.2.2) ?_
      refine XS.aloadN X2.here hx rfl (hb hby d20_24) rfl rfl ?_
      refine XS.iloadN X2.here hx rfl (hb hby d20_25) rfl ?_
      refine XS.iloadN X2.here hx rfl (hb hby d20_26) rfl ?_
      exact kt
    obtain ⟨_, _, ⟨T6, L6, cc6, n6⟩, -, X6, ⟨Lc6, hQ6, l6, y6, z6⟩, st6⟩ := Jvm.LawKit.callS X2 hx (y := (⟨"com/example/kleinbasel/kleinbasel/content/RecentChangesKeepAtLeastPinLaw", "expected", "([Ljava/lang/String;II)Ljava/lang/String;"⟩ : MethodName)) hown (mvT hZ (hw _ (own_g (i := 198) rfl))) (mvT hZ (hw _ (own_g (i := 199) rfl))) (mvT hZ (hw _ (own_g (i := 139) rfl))) (mvT hZ (hw _ (own_g (i := 200) rfl))) (by decide) (backOf (W := 0) (rm_expect l Z a0 hw [] (er) (pn1) (pf) (ke) (y0) (ee0) (ee1) (ee2) (ee3) (ee4) (ee5) h0 n0 O0 (V_er) (own_e0j hx0)) hZ (hw _ (own_g (i := 200) rfl)) (hw _ (own_g (i := 139) rfl)) (by decide) (by decide)) (g := (mkF m 27 #[.val (.ref g_), .val (.ref er), .val (.int pn1), .val (.int pf), .val (.int pl)] [(.int pf), (.int pn1), (.ref er)])) rfl (by rw [hml]; rfl) (argsL := [(.ref er), (.int pn1), (.int pf)]) (rest := []) (lenOf pd_19 rfl) rfl (by show 2 * 0 + _ ≤ _; exact Nat.le_of_eq rfl) (hb hby d20_27) (fun _ _ => ⟨rfl, e2, (by decide : 0 + 0 ≤ _), (by decide : 0 + 0 ≤ _)⟩)
    dsimp only [Pt.U, Pt.locs, Pt.cells, Pt.slots] at X6 l6 y6 z6 st6 hQ6
    subst l6 y6 z6
    obtain ⟨rfl, Nq6, eq6⟩ := hQ6
    have N6 := Fr.app N2 Nq6
    have r6 : own_R p e below _ _ T6 (mkF m 30 #[.val (.ref g_), .val (.ref er), .val (.int pn1), .val (.int pf), .val (.int pl)] [(.ref y0)]) := r5.trans fun z_ kt => st6 _ kt
    have e6 : T6.heap = h0 := eq6
    have r7 : own_R p e below _ _ T6 (mkF m 32 #[.val (.ref g_), .val (.ref er), .val (.int pn1), .val (.int pf), .val (.int pl)] [(.int (0 : Int32)), (.ref g_), (.ref y0)]) := r6.trans fun z_ kt => by
      refine XS.aloadN X6.here hx rfl (hb hby d20_30) rfl rfl ?_
      refine XS.iconst X6.here hx rfl (hb hby d20_31) ?_
      exact kt
    obtain ⟨cq8, kq8, q8a, q8b, q8c⟩ := isOf hZ e6 E_g_
    obtain ⟨_, _, ⟨T8, L8, cc8, n8⟩, -, X8, ⟨Lc8, hQ8, l8, y8, z8⟩, st8⟩ := X6.interfaceBack hx (xi := (⟨"java/util/List", "get", "(I)Ljava/lang/Object;"⟩ : MethodName)) (y := (⟨"java/util/ArrayList", "get", "(I)Ljava/lang/Object;"⟩ : MethodName)) hown (mvT hZ (hw _ (own_g (i := 201) rfl))) (mvT hZ (hw _ (own_g (i := 202) rfl))) (mvT hZ (hw _ (own_g (i := 203) rfl))) (mvT hZ (hw _ (own_g (i := 204) rfl))) (mvT hZ (hw _ (own_g (i := 205) rfl))) (mvT hZ (hw _ (own_g (i := 206) rfl))) (mvT hZ (hw _ (own_g (i := 207) rfl))) (mvT hZ (hw _ (own_g (i := 148) rfl))) (by decide) (backOf (W := 1) (rm_alGet l Z a0 hw [] (g_) ((0 : Int32)) (arr) (ka) (z) (ws_) (y0) (pl) h0 n0 O0 (E_g_) (F_g__elementData) (F_g__size) (V_arr) (⟨by decide, own_jz hpl hc21_4⟩) (hy0) (⟨by decide, hc21_4⟩)) hZ (hw _ (own_g (i := 208) rfl)) (hw _ (own_g (i := 30) rfl)) (by decide) (by decide)) q8a q8b q8c (g := (mkF m 32 #[.val (.ref g_), .val (.ref er), .val (.int pn1), .val (.int pf), .val (.int pl)] [(.int (0 : Int32)), (.ref g_), (.ref y0)])) rfl (by rw [hml]; rfl) (Steps.refl _) (argsL := [(.int (0 : Int32))]) (rest := [(.ref y0)]) (lenOf pd_17 rfl) rfl (by show 2 * 0 + _ ≤ _; exact Nat.le_of_eq rfl) (hb hby d20_32) (fun _ _ => ⟨rfl, e6, (by decide : 0 + 0 ≤ _), (by decide : 0 + 0 ≤ _)⟩)
    dsimp only [Pt.U, Pt.locs, Pt.cells, Pt.slots] at X8 l8 y8 z8 st8 hQ8
    subst l8 y8 z8
    obtain ⟨rfl, Nq8, eq8⟩ := hQ8
    have N8 := Fr.app N6 Nq8
    have r8 : own_R p e below _ _ T8 (mkF m 37 #[.val (.ref g_), .val (.ref er), .val (.int pn1), .val (.int pf), .val (.int pl)] [(.ref y0), (.ref y0)]) := r7.trans fun z_ kt => st8.trans kt
    have e8 : T8.heap = h0 := eq8
    obtain ⟨cq9, kq9, q9a, q9b, q9c⟩ := isOf hZ e8 Ey0
    obtain ⟨_, _, ⟨T9, L9, cc9, n9⟩, -, X9, ⟨Lc9, hQ9, l9, y9, z9⟩, st9⟩ := X8.virtualBack hx (y := (⟨"java/lang/String", "equals", "(Ljava/lang/Object;)Z"⟩ : MethodName)) (z := (⟨"java/lang/String", "equals", "(Ljava/lang/Object;)Z"⟩ : MethodName)) hown (mvT hZ (hw _ (own_g (i := 222) rfl))) (mvT hZ (hw _ (own_g (i := 223) rfl))) (notFace_of_selects (args := #[]) (mvT hZ (hw _ (own_g (i := 225) rfl)))) (mvT hZ (hw _ (own_g (i := 225) rfl))) (mvT hZ (hw _ (own_g (i := 224) rfl))) (by decide) (backOf (W := 0) (rm_strEq l Z a0 hw [] (y0) h0 n0 O0 ) hZ (hw _ (own_g (i := 226) rfl)) (hw _ (own_g (i := 4) rfl)) (by decide) (by decide)) q9a q9c (g := (mkF m 37 #[.val (.ref g_), .val (.ref er), .val (.int pn1), .val (.int pf), .val (.int pl)] [(.ref y0), (.ref y0)])) rfl (by rw [hml]; rfl) (Steps.refl _) (argsL := [(.ref y0)]) (rest := []) (lenOf pd_15 rfl) rfl (by show 2 * 0 + _ ≤ _; exact Nat.le_of_eq rfl) (hb hby d20_37) (fun _ _ => ⟨rfl, e8, (by decide : 0 + 0 ≤ _), (by decide : 0 + 0 ≤ _)⟩)
    dsimp only [Pt.U, Pt.locs, Pt.cells, Pt.slots] at X9 l9 y9 z9 st9 hQ9
    subst l9 y9 z9
    obtain ⟨rfl, Nq9, eq9⟩ := hQ9
    have N9 := Fr.app N8 Nq9
    have r9 : own_R p e below _ _ T9 (mkF m 40 #[.val (.ref g_), .val (.ref er), .val (.int pn1), .val (.int pf), .val (.int pl)] [(.int (1 : Int32))]) := r8.trans fun z_ kt => st9.trans kt
    have e9 : T9.heap = h0 := eq9
    have r10 : own_R p e below _ _ T9 (mkF m 48 #[.val (.ref g_), .val (.ref er), .val (.int pn1), .val (.int pf), .val (.int pl)] [(.int (1 : Int32)), (.int pl)]) := r9.trans fun z_ kt => by
      refine XS.ifYes X9.here hx rfl (pc0 := 40) (pc' := 45) rfl (hb hby d20_40) rfl ((if0 _ _).trans (feq (by decide : ¬ ((1 : Int32) = (0 : Int32)))).2) (by decide) (by decide) ?_
      refine XS.iload X9.here hx rfl (hb hby d20_45) rfl ?_
      refine XS.iconst X9.here hx rfl (hb hby d20_47) ?_
      exact kt
    by_cases hc48_11 : (1 : Int32) < pl
    · skip
      obtain ⟨y1, hy1, Ey1, hx1⟩ := hm 1 (own_on hc48_11)
      have r12 : own_R p e below _ _ T9 (mkF m 56 #[.val (.ref g_), .val (.ref er), .val (.int pn1), .val (.int pf), .val (.int pl)] [(.int (pf + (1 : Int32))), (.int pn1), (.ref er)]) := r10.trans fun z_ kt => by
        refine XS.icmpNo X9.here hx rfl (hb hby d20_48) rfl (tlt (hc48_11 : (1 : Int32) < pl)).2.2.2 ?_
        refine XS.aloadN X9.here hx rfl (hb hby d20_51) rfl rfl ?_
        refine XS.iloadN X9.here hx rfl (hb hby d20_52) rfl ?_
        refine XS.iloadN X9.here hx rfl (hb hby d20_53) rfl ?_
        refine XS.iconst X9.here hx rfl (hb hby d20_54) ?_
        refine XS.iadd X9.here hx rfl (hb hby d20_55) rfl ?_
        exact kt
      obtain ⟨_, _, ⟨T13, L13, cc13, n13⟩, -, X13, ⟨Lc13, hQ13, l13, y13, z13⟩, st13⟩ := Jvm.LawKit.callS X9 hx (y := (⟨"com/example/kleinbasel/kleinbasel/content/RecentChangesKeepAtLeastPinLaw", "expected", "([Ljava/lang/String;II)Ljava/lang/String;"⟩ : MethodName)) hown (mvT hZ (hw _ (own_g (i := 198) rfl))) (mvT hZ (hw _ (own_g (i := 199) rfl))) (mvT hZ (hw _ (own_g (i := 139) rfl))) (mvT hZ (hw _ (own_g (i := 200) rfl))) (by decide) (backOf (W := 0) (rm_expect l Z a0 hw [] (er) (pn1) ((pf + (1 : Int32))) (ke) (y1) (ee0) (ee1) (ee2) (ee3) (ee4) (ee5) h0 n0 O0 (V_er) (hx1)) hZ (hw _ (own_g (i := 200) rfl)) (hw _ (own_g (i := 139) rfl)) (by decide) (by decide)) (g := (mkF m 56 #[.val (.ref g_), .val (.ref er), .val (.int pn1), .val (.int pf), .val (.int pl)] [(.int (pf + (1 : Int32))), (.int pn1), (.ref er)])) rfl (by rw [hml]; rfl) (argsL := [(.ref er), (.int pn1), (.int (pf + (1 : Int32)))]) (rest := []) (lenOf pd_19 rfl) rfl (by show 2 * 0 + _ ≤ _; exact Nat.le_of_eq rfl) (hb hby d20_56) (fun _ _ => ⟨rfl, e9, (by decide : 0 + 0 ≤ _), (by decide : 0 + 0 ≤ _)⟩)
      dsimp only [Pt.U, Pt.locs, Pt.cells, Pt.slots] at X13 l13 y13 z13 st13 hQ13
      subst l13 y13 z13
      obtain ⟨rfl, Nq13, eq13⟩ := hQ13
      have N13 := Fr.app N9 Nq13
      have r13 : own_R p e below _ _ T13 (mkF m 59 #[.val (.ref g_), .val (.ref er), .val (.int pn1), .val (.int pf), .val (.int pl)] [(.ref y1)]) := r12.trans fun z_ kt => st13 _ kt
      have e13 : T13.heap = h0 := eq13
      have r14 : own_R p e below _ _ T13 (mkF m 61 #[.val (.ref g_), .val (.ref er), .val (.int pn1), .val (.int pf), .val (.int pl)] [(.int (1 : Int32)), (.ref g_), (.ref y1)]) := r13.trans fun z_ kt => by
        refine XS.aloadN X13.here hx rfl (hb hby d20_59) rfl rfl ?_
        refine XS.iconst X13.here hx rfl (hb hby d20_60) ?_
        exact kt
      obtain ⟨cq15, kq15, q15a, q15b, q15c⟩ := isOf hZ e13 E_g_
      obtain ⟨_, _, ⟨T15, L15, cc15, n15⟩, -, X15, ⟨Lc15, hQ15, l15, y15, z15⟩, st15⟩ := X13.interfaceBack hx (xi := (⟨"java/util/List", "get", "(I)Ljava/lang/Object;"⟩ : MethodName)) (y := (⟨"java/util/ArrayList", "get", "(I)Ljava/lang/Object;"⟩ : MethodName)) hown (mvT hZ (hw _ (own_g (i := 201) rfl))) (mvT hZ (hw _ (own_g (i := 202) rfl))) (mvT hZ (hw _ (own_g (i := 203) rfl))) (mvT hZ (hw _ (own_g (i := 204) rfl))) (mvT hZ (hw _ (own_g (i := 205) rfl))) (mvT hZ (hw _ (own_g (i := 206) rfl))) (mvT hZ (hw _ (own_g (i := 207) rfl))) (mvT hZ (hw _ (own_g (i := 148) rfl))) (by decide) (backOf (W := 1) (rm_alGet l Z a0 hw [] (g_) ((1 : Int32)) (arr) (ka) (z) (ws_) (y1) (pl) h0 n0 O0 (E_g_) (F_g__elementData) (F_g__size) (V_arr) (⟨by decide, own_jz hpl hc48_11⟩) (hy1) (⟨by decide, hc48_11⟩)) hZ (hw _ (own_g (i := 208) rfl)) (hw _ (own_g (i := 30) rfl)) (by decide) (by decide)) q15a q15b q15c (g := (mkF m 61 #[.val (.ref g_), .val (.ref er), .val (.int pn1), .val (.int pf), .val (.int pl)] [(.int (1 : Int32)), (.ref g_), (.ref y1)])) rfl (by rw [hml]; rfl) (Steps.refl _) (argsL := [(.int (1 : Int32))]) (rest := [(.ref y1)]) (lenOf pd_17 rfl) rfl (by show 2 * 0 + _ ≤ _; exact Nat.le_of_eq rfl) (hb hby d20_61) (fun _ _ => ⟨rfl, e13, (by decide : 0 + 0 ≤ _), (by decide : 0 + 0 ≤ _)⟩)
      dsimp only [Pt.U, Pt.locs, Pt.cells, Pt.slots] at X15 l15 y15 z15 st15 hQ15
      subst l15 y15 z15
      obtain ⟨rfl, Nq15, eq15⟩ := hQ15
      have N15 := Fr.app N13 Nq15
      have r15 : own_R p e below _ _ T15 (mkF m 66 #[.val (.ref g_), .val (.ref er), .val (.int pn1), .val (.int pf), .val (.int pl)] [(.ref y1), (.ref y1)]) := r14.trans fun z_ kt => st15.trans kt
      have e15 : T15.heap = h0 := eq15
      obtain ⟨cq16, kq16, q16a, q16b, q16c⟩ := isOf hZ e15 Ey1
      obtain ⟨_, _, ⟨T16, L16, cc16, n16⟩, -, X16, ⟨Lc16, hQ16, l16, y16, z16⟩, st16⟩ := X15.virtualBack hx (y := (⟨"java/lang/String", "equals", "(Ljava/lang/Object;)Z"⟩ : MethodName)) (z := (⟨"java/lang/String", "equals", "(Ljava/lang/Object;)Z"⟩ : MethodName)) hown (mvT hZ (hw _ (own_g (i := 222) rfl))) (mvT hZ (hw _ (own_g (i := 223) rfl))) (notFace_of_selects (args := #[]) (mvT hZ (hw _ (own_g (i := 225) rfl)))) (mvT hZ (hw _ (own_g (i := 225) rfl))) (mvT hZ (hw _ (own_g (i := 224) rfl))) (by decide) (backOf (W := 0) (rm_strEq l Z a0 hw [] (y1) h0 n0 O0 ) hZ (hw _ (own_g (i := 226) rfl)) (hw _ (own_g (i := 4) rfl)) (by decide) (by decide)) q16a q16c (g := (mkF m 66 #[.val (.ref g_), .val (.ref er), .val (.int pn1), .val (.int pf), .val (.int pl)] [(.ref y1), (.ref y1)])) rfl (by rw [hml]; rfl) (Steps.refl _) (argsL := [(.ref y1)]) (rest := []) (lenOf pd_15 rfl) rfl (by show 2 * 0 + _ ≤ _; exact Nat.le_of_eq rfl) (hb hby d20_66) (fun _ _ => ⟨rfl, e15, (by decide : 0 + 0 ≤ _), (by decide : 0 + 0 ≤ _)⟩)
      dsimp only [Pt.U, Pt.locs, Pt.cells, Pt.slots] at X16 l16 y16 z16 st16 hQ16
      subst l16 y16 z16
      obtain ⟨rfl, Nq16, eq16⟩ := hQ16
      have N16 := Fr.app N15 Nq16
      have r16 : own_R p e below _ _ T16 (mkF m 69 #[.val (.ref g_), .val (.ref er), .val (.int pn1), .val (.int pf), .val (.int pl)] [(.int (1 : Int32))]) := r15.trans fun z_ kt => st16.trans kt
      have e16 : T16.heap = h0 := eq16
      have r17 : own_R p e below _ _ T16 (mkF m 77 #[.val (.ref g_), .val (.ref er), .val (.int pn1), .val (.int pf), .val (.int pl)] [(.int (2 : Int32)), (.int pl)]) := r16.trans fun z_ kt => by
        refine XS.ifYes X16.here hx rfl (pc0 := 69) (pc' := 74) rfl (hb hby d20_69) rfl ((if0 _ _).trans (feq (by decide : ¬ ((1 : Int32) = (0 : Int32)))).2) (by decide) (by decide) ?_
        refine XS.iload X16.here hx rfl (hb hby d20_74) rfl ?_
        refine XS.iconst X16.here hx rfl (hb hby d20_76) ?_
        exact kt
      by_cases hc77_18 : (2 : Int32) < pl
      · skip
        obtain ⟨y2, hy2, Ey2, hx2⟩ := hm 2 (own_on hc77_18)
        have r19 : own_R p e below _ _ T16 (mkF m 85 #[.val (.ref g_), .val (.ref er), .val (.int pn1), .val (.int pf), .val (.int pl)] [(.int (pf + (2 : Int32))), (.int pn1), (.ref er)]) := r17.trans fun z_ kt => by
          refine XS.icmpNo X16.here hx rfl (hb hby d20_77) rfl (tlt (hc77_18 : (2 : Int32) < pl)).2.2.2 ?_
          refine XS.aloadN X16.here hx rfl (hb hby d20_80) rfl rfl ?_
          refine XS.iloadN X16.here hx rfl (hb hby d20_81) rfl ?_
          refine XS.iloadN X16.here hx rfl (hb hby d20_82) rfl ?_
          refine XS.iconst X16.here hx rfl (hb hby d20_83) ?_
          refine XS.iadd X16.here hx rfl (hb hby d20_84) rfl ?_
          exact kt
        obtain ⟨_, _, ⟨T20, L20, cc20, n20⟩, -, X20, ⟨Lc20, hQ20, l20, y20, z20⟩, st20⟩ := Jvm.LawKit.callS X16 hx (y := (⟨"com/example/kleinbasel/kleinbasel/content/RecentChangesKeepAtLeastPinLaw", "expected", "([Ljava/lang/String;II)Ljava/lang/String;"⟩ : MethodName)) hown (mvT hZ (hw _ (own_g (i := 198) rfl))) (mvT hZ (hw _ (own_g (i := 199) rfl))) (mvT hZ (hw _ (own_g (i := 139) rfl))) (mvT hZ (hw _ (own_g (i := 200) rfl))) (by decide) (backOf (W := 0) (rm_expect l Z a0 hw [] (er) (pn1) ((pf + (2 : Int32))) (ke) (y2) (ee0) (ee1) (ee2) (ee3) (ee4) (ee5) h0 n0 O0 (V_er) (hx2)) hZ (hw _ (own_g (i := 200) rfl)) (hw _ (own_g (i := 139) rfl)) (by decide) (by decide)) (g := (mkF m 85 #[.val (.ref g_), .val (.ref er), .val (.int pn1), .val (.int pf), .val (.int pl)] [(.int (pf + (2 : Int32))), (.int pn1), (.ref er)])) rfl (by rw [hml]; rfl) (argsL := [(.ref er), (.int pn1), (.int (pf + (2 : Int32)))]) (rest := []) (lenOf pd_19 rfl) rfl (by show 2 * 0 + _ ≤ _; exact Nat.le_of_eq rfl) (hb hby d20_85) (fun _ _ => ⟨rfl, e16, (by decide : 0 + 0 ≤ _), (by decide : 0 + 0 ≤ _)⟩)
        dsimp only [Pt.U, Pt.locs, Pt.cells, Pt.slots] at X20 l20 y20 z20 st20 hQ20
        subst l20 y20 z20
        obtain ⟨rfl, Nq20, eq20⟩ := hQ20
        have N20 := Fr.app N16 Nq20
        have r20 : own_R p e below _ _ T20 (mkF m 88 #[.val (.ref g_), .val (.ref er), .val (.int pn1), .val (.int pf), .val (.int pl)] [(.ref y2)]) := r19.trans fun z_ kt => st20 _ kt
        have e20 : T20.heap = h0 := eq20
        have r21 : own_R p e below _ _ T20 (mkF m 90 #[.val (.ref g_), .val (.ref er), .val (.int pn1), .val (.int pf), .val (.int pl)] [(.int (2 : Int32)), (.ref g_), (.ref y2)]) := r20.trans fun z_ kt => by
          refine XS.aloadN X20.here hx rfl (hb hby d20_88) rfl rfl ?_
          refine XS.iconst X20.here hx rfl (hb hby d20_89) ?_
          exact kt
        obtain ⟨cq22, kq22, q22a, q22b, q22c⟩ := isOf hZ e20 E_g_
        obtain ⟨_, _, ⟨T22, L22, cc22, n22⟩, -, X22, ⟨Lc22, hQ22, l22, y22, z22⟩, st22⟩ := X20.interfaceBack hx (xi := (⟨"java/util/List", "get", "(I)Ljava/lang/Object;"⟩ : MethodName)) (y := (⟨"java/util/ArrayList", "get", "(I)Ljava/lang/Object;"⟩ : MethodName)) hown (mvT hZ (hw _ (own_g (i := 201) rfl))) (mvT hZ (hw _ (own_g (i := 202) rfl))) (mvT hZ (hw _ (own_g (i := 203) rfl))) (mvT hZ (hw _ (own_g (i := 204) rfl))) (mvT hZ (hw _ (own_g (i := 205) rfl))) (mvT hZ (hw _ (own_g (i := 206) rfl))) (mvT hZ (hw _ (own_g (i := 207) rfl))) (mvT hZ (hw _ (own_g (i := 148) rfl))) (by decide) (backOf (W := 1) (rm_alGet l Z a0 hw [] (g_) ((2 : Int32)) (arr) (ka) (z) (ws_) (y2) (pl) h0 n0 O0 (E_g_) (F_g__elementData) (F_g__size) (V_arr) (⟨by decide, own_jz hpl hc77_18⟩) (hy2) (⟨by decide, hc77_18⟩)) hZ (hw _ (own_g (i := 208) rfl)) (hw _ (own_g (i := 30) rfl)) (by decide) (by decide)) q22a q22b q22c (g := (mkF m 90 #[.val (.ref g_), .val (.ref er), .val (.int pn1), .val (.int pf), .val (.int pl)] [(.int (2 : Int32)), (.ref g_), (.ref y2)])) rfl (by rw [hml]; rfl) (Steps.refl _) (argsL := [(.int (2 : Int32))]) (rest := [(.ref y2)]) (lenOf pd_17 rfl) rfl (by show 2 * 0 + _ ≤ _; exact Nat.le_of_eq rfl) (hb hby d20_90) (fun _ _ => ⟨rfl, e20, (by decide : 0 + 0 ≤ _), (by decide : 0 + 0 ≤ _)⟩)
        dsimp only [Pt.U, Pt.locs, Pt.cells, Pt.slots] at X22 l22 y22 z22 st22 hQ22
        subst l22 y22 z22
        obtain ⟨rfl, Nq22, eq22⟩ := hQ22
        have N22 := Fr.app N20 Nq22
        have r22 : own_R p e below _ _ T22 (mkF m 95 #[.val (.ref g_), .val (.ref er), .val (.int pn1), .val (.int pf), .val (.int pl)] [(.ref y2), (.ref y2)]) := r21.trans fun z_ kt => st22.trans kt
        have e22 : T22.heap = h0 := eq22
        obtain ⟨cq23, kq23, q23a, q23b, q23c⟩ := isOf hZ e22 Ey2
        obtain ⟨_, _, ⟨T23, L23, cc23, n23⟩, -, X23, ⟨Lc23, hQ23, l23, y23, z23⟩, st23⟩ := X22.virtualBack hx (y := (⟨"java/lang/String", "equals", "(Ljava/lang/Object;)Z"⟩ : MethodName)) (z := (⟨"java/lang/String", "equals", "(Ljava/lang/Object;)Z"⟩ : MethodName)) hown (mvT hZ (hw _ (own_g (i := 222) rfl))) (mvT hZ (hw _ (own_g (i := 223) rfl))) (notFace_of_selects (args := #[]) (mvT hZ (hw _ (own_g (i := 225) rfl)))) (mvT hZ (hw _ (own_g (i := 225) rfl))) (mvT hZ (hw _ (own_g (i := 224) rfl))) (by decide) (backOf (W := 0) (rm_strEq l Z a0 hw [] (y2) h0 n0 O0 ) hZ (hw _ (own_g (i := 226) rfl)) (hw _ (own_g (i := 4) rfl)) (by decide) (by decide)) q23a q23c (g := (mkF m 95 #[.val (.ref g_), .val (.ref er), .val (.int pn1), .val (.int pf), .val (.int pl)] [(.ref y2), (.ref y2)])) rfl (by rw [hml]; rfl) (Steps.refl _) (argsL := [(.ref y2)]) (rest := []) (lenOf pd_15 rfl) rfl (by show 2 * 0 + _ ≤ _; exact Nat.le_of_eq rfl) (hb hby d20_95) (fun _ _ => ⟨rfl, e22, (by decide : 0 + 0 ≤ _), (by decide : 0 + 0 ≤ _)⟩)
        dsimp only [Pt.U, Pt.locs, Pt.cells, Pt.slots] at X23 l23 y23 z23 st23 hQ23
        subst l23 y23 z23
        obtain ⟨rfl, Nq23, eq23⟩ := hQ23
        have N23 := Fr.app N22 Nq23
        have r23 : own_R p e below _ _ T23 (mkF m 98 #[.val (.ref g_), .val (.ref er), .val (.int pn1), .val (.int pf), .val (.int pl)] [(.int (1 : Int32))]) := r22.trans fun z_ kt => st23.trans kt
        have e23 : T23.heap = h0 := eq23
        have r24 : own_R p e below _ _ T23 (mkF m 106 #[.val (.ref g_), .val (.ref er), .val (.int pn1), .val (.int pf), .val (.int pl)] [(.int (3 : Int32)), (.int pl)]) := r23.trans fun z_ kt => by
          refine XS.ifYes X23.here hx rfl (pc0 := 98) (pc' := 103) rfl (hb hby d20_98) rfl ((if0 _ _).trans (feq (by decide : ¬ ((1 : Int32) = (0 : Int32)))).2) (by decide) (by decide) ?_
          refine XS.iload X23.here hx rfl (hb hby d20_103) rfl ?_
          refine XS.iconst X23.here hx rfl (hb hby d20_105) ?_
          exact kt
        by_cases hc106_25 : (3 : Int32) < pl
        · skip
          obtain ⟨y3, hy3, Ey3, hx3⟩ := hm 3 (own_on hc106_25)
          have r26 : own_R p e below _ _ T23 (mkF m 114 #[.val (.ref g_), .val (.ref er), .val (.int pn1), .val (.int pf), .val (.int pl)] [(.int (pf + (3 : Int32))), (.int pn1), (.ref er)]) := r24.trans fun z_ kt => by
            refine XS.icmpNo X23.here hx rfl (hb hby d20_106) rfl (tlt (hc106_25 : (3 : Int32) < pl)).2.2.2 ?_
            refine XS.aloadN X23.here hx rfl (hb hby d20_109) rfl rfl ?_
            refine XS.iloadN X23.here hx rfl (hb hby d20_110) rfl ?_
            refine XS.iloadN X23.here hx rfl (hb hby d20_111) rfl ?_
            refine XS.iconst X23.here hx rfl (hb hby d20_112) ?_
            refine XS.iadd X23.here hx rfl (hb hby d20_113) rfl ?_
            exact kt
          obtain ⟨_, _, ⟨T27, L27, cc27, n27⟩, -, X27, ⟨Lc27, hQ27, l27, y27, z27⟩, st27⟩ := Jvm.LawKit.callS X23 hx (y := (⟨"com/example/kleinbasel/kleinbasel/content/RecentChangesKeepAtLeastPinLaw", "expected", "([Ljava/lang/String;II)Ljava/lang/String;"⟩ : MethodName)) hown (mvT hZ (hw _ (own_g (i := 198) rfl))) (mvT hZ (hw _ (own_g (i := 199) rfl))) (mvT hZ (hw _ (own_g (i := 139) rfl))) (mvT hZ (hw _ (own_g (i := 200) rfl))) (by decide) (backOf (W := 0) (rm_expect l Z a0 hw [] (er) (pn1) ((pf + (3 : Int32))) (ke) (y3) (ee0) (ee1) (ee2) (ee3) (ee4) (ee5) h0 n0 O0 (V_er) (hx3)) hZ (hw _ (own_g (i := 200) rfl)) (hw _ (own_g (i := 139) rfl)) (by decide) (by decide)) (g := (mkF m 114 #[.val (.ref g_), .val (.ref er), .val (.int pn1), .val (.int pf), .val (.int pl)] [(.int (pf + (3 : Int32))), (.int pn1), (.ref er)])) rfl (by rw [hml]; rfl) (argsL := [(.ref er), (.int pn1), (.int (pf + (3 : Int32)))]) (rest := []) (lenOf pd_19 rfl) rfl (by show 2 * 0 + _ ≤ _; exact Nat.le_of_eq rfl) (hb hby d20_114) (fun _ _ => ⟨rfl, e23, (by decide : 0 + 0 ≤ _), (by decide : 0 + 0 ≤ _)⟩)
          dsimp only [Pt.U, Pt.locs, Pt.cells, Pt.slots] at X27 l27 y27 z27 st27 hQ27
          subst l27 y27 z27
          obtain ⟨rfl, Nq27, eq27⟩ := hQ27
          have N27 := Fr.app N23 Nq27
          have r27 : own_R p e below _ _ T27 (mkF m 117 #[.val (.ref g_), .val (.ref er), .val (.int pn1), .val (.int pf), .val (.int pl)] [(.ref y3)]) := r26.trans fun z_ kt => st27 _ kt
          have e27 : T27.heap = h0 := eq27
          have r28 : own_R p e below _ _ T27 (mkF m 119 #[.val (.ref g_), .val (.ref er), .val (.int pn1), .val (.int pf), .val (.int pl)] [(.int (3 : Int32)), (.ref g_), (.ref y3)]) := r27.trans fun z_ kt => by
            refine XS.aloadN X27.here hx rfl (hb hby d20_117) rfl rfl ?_
            refine XS.iconst X27.here hx rfl (hb hby d20_118) ?_
            exact kt
          obtain ⟨cq29, kq29, q29a, q29b, q29c⟩ := isOf hZ e27 E_g_
          obtain ⟨_, _, ⟨T29, L29, cc29, n29⟩, -, X29, ⟨Lc29, hQ29, l29, y29, z29⟩, st29⟩ := X27.interfaceBack hx (xi := (⟨"java/util/List", "get", "(I)Ljava/lang/Object;"⟩ : MethodName)) (y := (⟨"java/util/ArrayList", "get", "(I)Ljava/lang/Object;"⟩ : MethodName)) hown (mvT hZ (hw _ (own_g (i := 201) rfl))) (mvT hZ (hw _ (own_g (i := 202) rfl))) (mvT hZ (hw _ (own_g (i := 203) rfl))) (mvT hZ (hw _ (own_g (i := 204) rfl))) (mvT hZ (hw _ (own_g (i := 205) rfl))) (mvT hZ (hw _ (own_g (i := 206) rfl))) (mvT hZ (hw _ (own_g (i := 207) rfl))) (mvT hZ (hw _ (own_g (i := 148) rfl))) (by decide) (backOf (W := 1) (rm_alGet l Z a0 hw [] (g_) ((3 : Int32)) (arr) (ka) (z) (ws_) (y3) (pl) h0 n0 O0 (E_g_) (F_g__elementData) (F_g__size) (V_arr) (⟨by decide, own_jz hpl hc106_25⟩) (hy3) (⟨by decide, hc106_25⟩)) hZ (hw _ (own_g (i := 208) rfl)) (hw _ (own_g (i := 30) rfl)) (by decide) (by decide)) q29a q29b q29c (g := (mkF m 119 #[.val (.ref g_), .val (.ref er), .val (.int pn1), .val (.int pf), .val (.int pl)] [(.int (3 : Int32)), (.ref g_), (.ref y3)])) rfl (by rw [hml]; rfl) (Steps.refl _) (argsL := [(.int (3 : Int32))]) (rest := [(.ref y3)]) (lenOf pd_17 rfl) rfl (by show 2 * 0 + _ ≤ _; exact Nat.le_of_eq rfl) (hb hby d20_119) (fun _ _ => ⟨rfl, e27, (by decide : 0 + 0 ≤ _), (by decide : 0 + 0 ≤ _)⟩)
          dsimp only [Pt.U, Pt.locs, Pt.cells, Pt.slots] at X29 l29 y29 z29 st29 hQ29
          subst l29 y29 z29
          obtain ⟨rfl, Nq29, eq29⟩ := hQ29
          have N29 := Fr.app N27 Nq29
          have r29 : own_R p e below _ _ T29 (mkF m 124 #[.val (.ref g_), .val (.ref er), .val (.int pn1), .val (.int pf), .val (.int pl)] [(.ref y3), (.ref y3)]) := r28.trans fun z_ kt => st29.trans kt
          have e29 : T29.heap = h0 := eq29
          obtain ⟨cq30, kq30, q30a, q30b, q30c⟩ := isOf hZ e29 Ey3
          obtain ⟨_, _, ⟨T30, L30, cc30, n30⟩, -, X30, ⟨Lc30, hQ30, l30, y30, z30⟩, st30⟩ := X29.virtualBack hx (y := (⟨"java/lang/String", "equals", "(Ljava/lang/Object;)Z"⟩ : MethodName)) (z := (⟨"java/lang/String", "equals", "(Ljava/lang/Object;)Z"⟩ : MethodName)) hown (mvT hZ (hw _ (own_g (i := 222) rfl))) (mvT hZ (hw _ (own_g (i := 223) rfl))) (notFace_of_selects (args := #[]) (mvT hZ (hw _ (own_g (i := 225) rfl)))) (mvT hZ (hw _ (own_g (i := 225) rfl))) (mvT hZ (hw _ (own_g (i := 224) rfl))) (by decide) (backOf (W := 0) (rm_strEq l Z a0 hw [] (y3) h0 n0 O0 ) hZ (hw _ (own_g (i := 226) rfl)) (hw _ (own_g (i := 4) rfl)) (by decide) (by decide)) q30a q30c (g := (mkF m 124 #[.val (.ref g_), .val (.ref er), .val (.int pn1), .val (.int pf), .val (.int pl)] [(.ref y3), (.ref y3)])) rfl (by rw [hml]; rfl) (Steps.refl _) (argsL := [(.ref y3)]) (rest := []) (lenOf pd_15 rfl) rfl (by show 2 * 0 + _ ≤ _; exact Nat.le_of_eq rfl) (hb hby d20_124) (fun _ _ => ⟨rfl, e29, (by decide : 0 + 0 ≤ _), (by decide : 0 + 0 ≤ _)⟩)
          dsimp only [Pt.U, Pt.locs, Pt.cells, Pt.slots] at X30 l30 y30 z30 st30 hQ30
          subst l30 y30 z30
          obtain ⟨rfl, Nq30, eq30⟩ := hQ30
          have N30 := Fr.app N29 Nq30
          have r30 : own_R p e below _ _ T30 (mkF m 127 #[.val (.ref g_), .val (.ref er), .val (.int pn1), .val (.int pf), .val (.int pl)] [(.int (1 : Int32))]) := r29.trans fun z_ kt => st30.trans kt
          have e30 : T30.heap = h0 := eq30
          have r31 : own_R p e below _ _ T30 (mkF m 135 #[.val (.ref g_), .val (.ref er), .val (.int pn1), .val (.int pf), .val (.int pl)] [(.int (4 : Int32)), (.int pl)]) := r30.trans fun z_ kt => by
            refine XS.ifYes X30.here hx rfl (pc0 := 127) (pc' := 132) rfl (hb hby d20_127) rfl ((if0 _ _).trans (feq (by decide : ¬ ((1 : Int32) = (0 : Int32)))).2) (by decide) (by decide) ?_
            refine XS.iload X30.here hx rfl (hb hby d20_132) rfl ?_
            refine XS.iconst X30.here hx rfl (hb hby d20_134) ?_
            exact kt
          by_cases hc135_32 : (4 : Int32) < pl
          · skip
            obtain ⟨y4, hy4, Ey4, hx4⟩ := hm 4 (own_on hc135_32)
            have r33 : own_R p e below _ _ T30 (mkF m 143 #[.val (.ref g_), .val (.ref er), .val (.int pn1), .val (.int pf), .val (.int pl)] [(.int (pf + (4 : Int32))), (.int pn1), (.ref er)]) := r31.trans fun z_ kt => by
              refine XS.icmpNo X30.here hx rfl (hb hby d20_135) rfl (tlt (hc135_32 : (4 : Int32) < pl)).2.2.2 ?_
              refine XS.aloadN X30.here hx rfl (hb hby d20_138) rfl rfl ?_
              refine XS.iloadN X30.here hx rfl (hb hby d20_139) rfl ?_
              refine XS.iloadN X30.here hx rfl (hb hby d20_140) rfl ?_
              refine XS.iconst X30.here hx rfl (hb hby d20_141) ?_
              refine XS.iadd X30.here hx rfl (hb hby d20_142) rfl ?_
              exact kt
            obtain ⟨_, _, ⟨T34, L34, cc34, n34⟩, -, X34, ⟨Lc34, hQ34, l34, y34, z34⟩, st34⟩ := Jvm.LawKit.callS X30 hx (y := (⟨"com/example/kleinbasel/kleinbasel/content/RecentChangesKeepAtLeastPinLaw", "expected", "([Ljava/lang/String;II)Ljava/lang/String;"⟩ : MethodName)) hown (mvT hZ (hw _ (own_g (i := 198) rfl))) (mvT hZ (hw _ (own_g (i := 199) rfl))) (mvT hZ (hw _ (own_g (i := 139) rfl))) (mvT hZ (hw _ (own_g (i := 200) rfl))) (by decide) (backOf (W := 0) (rm_expect l Z a0 hw [] (er) (pn1) ((pf + (4 : Int32))) (ke) (y4) (ee0) (ee1) (ee2) (ee3) (ee4) (ee5) h0 n0 O0 (V_er) (hx4)) hZ (hw _ (own_g (i := 200) rfl)) (hw _ (own_g (i := 139) rfl)) (by decide) (by decide)) (g := (mkF m 143 #[.val (.ref g_), .val (.ref er), .val (.int pn1), .val (.int pf), .val (.int pl)] [(.int (pf + (4 : Int32))), (.int pn1), (.ref er)])) rfl (by rw [hml]; rfl) (argsL := [(.ref er), (.int pn1), (.int (pf + (4 : Int32)))]) (rest := []) (lenOf pd_19 rfl) rfl (by show 2 * 0 + _ ≤ _; exact Nat.le_of_eq rfl) (hb hby d20_143) (fun _ _ => ⟨rfl, e30, (by decide : 0 + 0 ≤ _), (by decide : 0 + 0 ≤ _)⟩)
            dsimp only [Pt.U, Pt.locs, Pt.cells, Pt.slots] at X34 l34 y34 z34 st34 hQ34
            subst l34 y34 z34
            obtain ⟨rfl, Nq34, eq34⟩ := hQ34
            have N34 := Fr.app N30 Nq34
            have r34 : own_R p e below _ _ T34 (mkF m 146 #[.val (.ref g_), .val (.ref er), .val (.int pn1), .val (.int pf), .val (.int pl)] [(.ref y4)]) := r33.trans fun z_ kt => st34 _ kt
            have e34 : T34.heap = h0 := eq34
            have r35 : own_R p e below _ _ T34 (mkF m 148 #[.val (.ref g_), .val (.ref er), .val (.int pn1), .val (.int pf), .val (.int pl)] [(.int (4 : Int32)), (.ref g_), (.ref y4)]) := r34.trans fun z_ kt => by
              refine XS.aloadN X34.here hx rfl (hb hby d20_146) rfl rfl ?_
              refine XS.iconst X34.here hx rfl (hb hby d20_147) ?_
              exact kt
            obtain ⟨cq36, kq36, q36a, q36b, q36c⟩ := isOf hZ e34 E_g_
            obtain ⟨_, _, ⟨T36, L36, cc36, n36⟩, -, X36, ⟨Lc36, hQ36, l36, y36, z36⟩, st36⟩ := X34.interfaceBack hx (xi := (⟨"java/util/List", "get", "(I)Ljava/lang/Object;"⟩ : MethodName)) (y := (⟨"java/util/ArrayList", "get", "(I)Ljava/lang/Object;"⟩ : MethodName)) hown (mvT hZ (hw _ (own_g (i := 201) rfl))) (mvT hZ (hw _ (own_g (i := 202) rfl))) (mvT hZ (hw _ (own_g (i := 203) rfl))) (mvT hZ (hw _ (own_g (i := 204) rfl))) (mvT hZ (hw _ (own_g (i := 205) rfl))) (mvT hZ (hw _ (own_g (i := 206) rfl))) (mvT hZ (hw _ (own_g (i := 207) rfl))) (mvT hZ (hw _ (own_g (i := 148) rfl))) (by decide) (backOf (W := 1) (rm_alGet l Z a0 hw [] (g_) ((4 : Int32)) (arr) (ka) (z) (ws_) (y4) (pl) h0 n0 O0 (E_g_) (F_g__elementData) (F_g__size) (V_arr) (⟨by decide, own_jz hpl hc135_32⟩) (hy4) (⟨by decide, hc135_32⟩)) hZ (hw _ (own_g (i := 208) rfl)) (hw _ (own_g (i := 30) rfl)) (by decide) (by decide)) q36a q36b q36c (g := (mkF m 148 #[.val (.ref g_), .val (.ref er), .val (.int pn1), .val (.int pf), .val (.int pl)] [(.int (4 : Int32)), (.ref g_), (.ref y4)])) rfl (by rw [hml]; rfl) (Steps.refl _) (argsL := [(.int (4 : Int32))]) (rest := [(.ref y4)]) (lenOf pd_17 rfl) rfl (by show 2 * 0 + _ ≤ _; exact Nat.le_of_eq rfl) (hb hby d20_148) (fun _ _ => ⟨rfl, e34, (by decide : 0 + 0 ≤ _), (by decide : 0 + 0 ≤ _)⟩)
            dsimp only [Pt.U, Pt.locs, Pt.cells, Pt.slots] at X36 l36 y36 z36 st36 hQ36
            subst l36 y36 z36
            obtain ⟨rfl, Nq36, eq36⟩ := hQ36
            have N36 := Fr.app N34 Nq36
            have r36 : own_R p e below _ _ T36 (mkF m 153 #[.val (.ref g_), .val (.ref er), .val (.int pn1), .val (.int pf), .val (.int pl)] [(.ref y4), (.ref y4)]) := r35.trans fun z_ kt => st36.trans kt
            have e36 : T36.heap = h0 := eq36
            obtain ⟨cq37, kq37, q37a, q37b, q37c⟩ := isOf hZ e36 Ey4
            obtain ⟨_, _, ⟨T37, L37, cc37, n37⟩, -, X37, ⟨Lc37, hQ37, l37, y37, z37⟩, st37⟩ := X36.virtualBack hx (y := (⟨"java/lang/String", "equals", "(Ljava/lang/Object;)Z"⟩ : MethodName)) (z := (⟨"java/lang/String", "equals", "(Ljava/lang/Object;)Z"⟩ : MethodName)) hown (mvT hZ (hw _ (own_g (i := 222) rfl))) (mvT hZ (hw _ (own_g (i := 223) rfl))) (notFace_of_selects (args := #[]) (mvT hZ (hw _ (own_g (i := 225) rfl)))) (mvT hZ (hw _ (own_g (i := 225) rfl))) (mvT hZ (hw _ (own_g (i := 224) rfl))) (by decide) (backOf (W := 0) (rm_strEq l Z a0 hw [] (y4) h0 n0 O0 ) hZ (hw _ (own_g (i := 226) rfl)) (hw _ (own_g (i := 4) rfl)) (by decide) (by decide)) q37a q37c (g := (mkF m 153 #[.val (.ref g_), .val (.ref er), .val (.int pn1), .val (.int pf), .val (.int pl)] [(.ref y4), (.ref y4)])) rfl (by rw [hml]; rfl) (Steps.refl _) (argsL := [(.ref y4)]) (rest := []) (lenOf pd_15 rfl) rfl (by show 2 * 0 + _ ≤ _; exact Nat.le_of_eq rfl) (hb hby d20_153) (fun _ _ => ⟨rfl, e36, (by decide : 0 + 0 ≤ _), (by decide : 0 + 0 ≤ _)⟩)
            dsimp only [Pt.U, Pt.locs, Pt.cells, Pt.slots] at X37 l37 y37 z37 st37 hQ37
            subst l37 y37 z37
            obtain ⟨rfl, Nq37, eq37⟩ := hQ37
            have N37 := Fr.app N36 Nq37
            have r37 : own_R p e below _ _ T37 (mkF m 156 #[.val (.ref g_), .val (.ref er), .val (.int pn1), .val (.int pf), .val (.int pl)] [(.int (1 : Int32))]) := r36.trans fun z_ kt => st37.trans kt
            have e37 : T37.heap = h0 := eq37
            have r38 : own_R p e below _ _ T37 (mkF m 164 #[.val (.ref g_), .val (.ref er), .val (.int pn1), .val (.int pf), .val (.int pl)] [(.int (5 : Int32)), (.int pl)]) := r37.trans fun z_ kt => by
              refine XS.ifYes X37.here hx rfl (pc0 := 156) (pc' := 161) rfl (hb hby d20_156) rfl ((if0 _ _).trans (feq (by decide : ¬ ((1 : Int32) = (0 : Int32)))).2) (by decide) (by decide) ?_
              refine XS.iload X37.here hx rfl (hb hby d20_161) rfl ?_
              refine XS.iconst X37.here hx rfl (hb hby d20_163) ?_
              exact kt
            by_cases hc164_39 : (5 : Int32) < pl
            · skip
              obtain ⟨y5, hy5, Ey5, hx5⟩ := hm 5 (own_on hc164_39)
              have r40 : own_R p e below _ _ T37 (mkF m 172 #[.val (.ref g_), .val (.ref er), .val (.int pn1), .val (.int pf), .val (.int pl)] [(.int (pf + (5 : Int32))), (.int pn1), (.ref er)]) := r38.trans fun z_ kt => by
                refine XS.icmpNo X37.here hx rfl (hb hby d20_164) rfl (tlt (hc164_39 : (5 : Int32) < pl)).2.2.2 ?_
                refine XS.aloadN X37.here hx rfl (hb hby d20_167) rfl rfl ?_
                refine XS.iloadN X37.here hx rfl (hb hby d20_168) rfl ?_
                refine XS.iloadN X37.here hx rfl (hb hby d20_169) rfl ?_
                refine XS.iconst X37.here hx rfl (hb hby d20_170) ?_
                refine XS.iadd X37.here hx rfl (hb hby d20_171) rfl ?_
                exact kt
              obtain ⟨_, _, ⟨T41, L41, cc41, n41⟩, -, X41, ⟨Lc41, hQ41, l41, y41, z41⟩, st41⟩ := Jvm.LawKit.callS X37 hx (y := (⟨"com/example/kleinbasel/kleinbasel/content/RecentChangesKeepAtLeastPinLaw", "expected", "([Ljava/lang/String;II)Ljava/lang/String;"⟩ : MethodName)) hown (mvT hZ (hw _ (own_g (i := 198) rfl))) (mvT hZ (hw _ (own_g (i := 199) rfl))) (mvT hZ (hw _ (own_g (i := 139) rfl))) (mvT hZ (hw _ (own_g (i := 200) rfl))) (by decide) (backOf (W := 0) (rm_expect l Z a0 hw [] (er) (pn1) ((pf + (5 : Int32))) (ke) (y5) (ee0) (ee1) (ee2) (ee3) (ee4) (ee5) h0 n0 O0 (V_er) (hx5)) hZ (hw _ (own_g (i := 200) rfl)) (hw _ (own_g (i := 139) rfl)) (by decide) (by decide)) (g := (mkF m 172 #[.val (.ref g_), .val (.ref er), .val (.int pn1), .val (.int pf), .val (.int pl)] [(.int (pf + (5 : Int32))), (.int pn1), (.ref er)])) rfl (by rw [hml]; rfl) (argsL := [(.ref er), (.int pn1), (.int (pf + (5 : Int32)))]) (rest := []) (lenOf pd_19 rfl) rfl (by show 2 * 0 + _ ≤ _; exact Nat.le_of_eq rfl) (hb hby d20_172) (fun _ _ => ⟨rfl, e37, (by decide : 0 + 0 ≤ _), (by decide : 0 + 0 ≤ _)⟩)
              dsimp only [Pt.U, Pt.locs, Pt.cells, Pt.slots] at X41 l41 y41 z41 st41 hQ41
              subst l41 y41 z41
              obtain ⟨rfl, Nq41, eq41⟩ := hQ41
              have N41 := Fr.app N37 Nq41
              have r41 : own_R p e below _ _ T41 (mkF m 175 #[.val (.ref g_), .val (.ref er), .val (.int pn1), .val (.int pf), .val (.int pl)] [(.ref y5)]) := r40.trans fun z_ kt => st41 _ kt
              have e41 : T41.heap = h0 := eq41
              have r42 : own_R p e below _ _ T41 (mkF m 177 #[.val (.ref g_), .val (.ref er), .val (.int pn1), .val (.int pf), .val (.int pl)] [(.int (5 : Int32)), (.ref g_), (.ref y5)]) := r41.trans fun z_ kt => by
                refine XS.aloadN X41.here hx rfl (hb hby d20_175) rfl rfl ?_
                refine XS.iconst X41.here hx rfl (hb hby d20_176) ?_
                exact kt
              obtain ⟨cq43, kq43, q43a, q43b, q43c⟩ := isOf hZ e41 E_g_
              obtain ⟨_, _, ⟨T43, L43, cc43, n43⟩, -, X43, ⟨Lc43, hQ43, l43, y43, z43⟩, st43⟩ := X41.interfaceBack hx (xi := (⟨"java/util/List", "get", "(I)Ljava/lang/Object;"⟩ : MethodName)) (y := (⟨"java/util/ArrayList", "get", "(I)Ljava/lang/Object;"⟩ : MethodName)) hown (mvT hZ (hw _ (own_g (i := 201) rfl))) (mvT hZ (hw _ (own_g (i := 202) rfl))) (mvT hZ (hw _ (own_g (i := 203) rfl))) (mvT hZ (hw _ (own_g (i := 204) rfl))) (mvT hZ (hw _ (own_g (i := 205) rfl))) (mvT hZ (hw _ (own_g (i := 206) rfl))) (mvT hZ (hw _ (own_g (i := 207) rfl))) (mvT hZ (hw _ (own_g (i := 148) rfl))) (by decide) (backOf (W := 1) (rm_alGet l Z a0 hw [] (g_) ((5 : Int32)) (arr) (ka) (z) (ws_) (y5) (pl) h0 n0 O0 (E_g_) (F_g__elementData) (F_g__size) (V_arr) (⟨by decide, own_jz hpl hc164_39⟩) (hy5) (⟨by decide, hc164_39⟩)) hZ (hw _ (own_g (i := 208) rfl)) (hw _ (own_g (i := 30) rfl)) (by decide) (by decide)) q43a q43b q43c (g := (mkF m 177 #[.val (.ref g_), .val (.ref er), .val (.int pn1), .val (.int pf), .val (.int pl)] [(.int (5 : Int32)), (.ref g_), (.ref y5)])) rfl (by rw [hml]; rfl) (Steps.refl _) (argsL := [(.int (5 : Int32))]) (rest := [(.ref y5)]) (lenOf pd_17 rfl) rfl (by show 2 * 0 + _ ≤ _; exact Nat.le_of_eq rfl) (hb hby d20_177) (fun _ _ => ⟨rfl, e41, (by decide : 0 + 0 ≤ _), (by decide : 0 + 0 ≤ _)⟩)
              dsimp only [Pt.U, Pt.locs, Pt.cells, Pt.slots] at X43 l43 y43 z43 st43 hQ43
              subst l43 y43 z43
              obtain ⟨rfl, Nq43, eq43⟩ := hQ43
              have N43 := Fr.app N41 Nq43
              have r43 : own_R p e below _ _ T43 (mkF m 182 #[.val (.ref g_), .val (.ref er), .val (.int pn1), .val (.int pf), .val (.int pl)] [(.ref y5), (.ref y5)]) := r42.trans fun z_ kt => st43.trans kt
              have e43 : T43.heap = h0 := eq43
              obtain ⟨cq44, kq44, q44a, q44b, q44c⟩ := isOf hZ e43 Ey5
              obtain ⟨_, _, ⟨T44, L44, cc44, n44⟩, -, X44, ⟨Lc44, hQ44, l44, y44, z44⟩, st44⟩ := X43.virtualBack hx (y := (⟨"java/lang/String", "equals", "(Ljava/lang/Object;)Z"⟩ : MethodName)) (z := (⟨"java/lang/String", "equals", "(Ljava/lang/Object;)Z"⟩ : MethodName)) hown (mvT hZ (hw _ (own_g (i := 222) rfl))) (mvT hZ (hw _ (own_g (i := 223) rfl))) (notFace_of_selects (args := #[]) (mvT hZ (hw _ (own_g (i := 225) rfl)))) (mvT hZ (hw _ (own_g (i := 225) rfl))) (mvT hZ (hw _ (own_g (i := 224) rfl))) (by decide) (backOf (W := 0) (rm_strEq l Z a0 hw [] (y5) h0 n0 O0 ) hZ (hw _ (own_g (i := 226) rfl)) (hw _ (own_g (i := 4) rfl)) (by decide) (by decide)) q44a q44c (g := (mkF m 182 #[.val (.ref g_), .val (.ref er), .val (.int pn1), .val (.int pf), .val (.int pl)] [(.ref y5), (.ref y5)])) rfl (by rw [hml]; rfl) (Steps.refl _) (argsL := [(.ref y5)]) (rest := []) (lenOf pd_15 rfl) rfl (by show 2 * 0 + _ ≤ _; exact Nat.le_of_eq rfl) (hb hby d20_182) (fun _ _ => ⟨rfl, e43, (by decide : 0 + 0 ≤ _), (by decide : 0 + 0 ≤ _)⟩)
              dsimp only [Pt.U, Pt.locs, Pt.cells, Pt.slots] at X44 l44 y44 z44 st44 hQ44
              subst l44 y44 z44
              obtain ⟨rfl, Nq44, eq44⟩ := hQ44
              have N44 := Fr.app N43 Nq44
              have r44 : own_R p e below _ _ T44 (mkF m 185 #[.val (.ref g_), .val (.ref er), .val (.int pn1), .val (.int pf), .val (.int pl)] [(.int (1 : Int32))]) := r43.trans fun z_ kt => st44.trans kt
              have e44 : T44.heap = h0 := eq44
              have r45 : own_R p e below _ _ T44 (mkF m 191 #[.val (.ref g_), .val (.ref er), .val (.int pn1), .val (.int pf), .val (.int pl)] [(.int (1 : Int32))]) := r44.trans fun z_ kt => by
                refine XS.ifYes X44.here hx rfl (pc0 := 185) (pc' := 190) rfl (hb hby d20_185) rfl ((if0 _ _).trans (feq (by decide : ¬ ((1 : Int32) = (0 : Int32)))).2) (by decide) (by decide) ?_
                refine XS.iconst X44.here hx rfl (hb hby d20_190) ?_
                exact kt
              obtain ⟨fs_, hr_, hrun_, hended_, hW_, hsame_⟩ := X44.leave (v := some (.int (1 : Int32))) (fun h => by rw [Bd.returns] at h; cases h)
              refine ⟨_, _, pre0 _ (r45 _ ?_), hrun_, hended_, _, _, rfl, ?_, ⟨_, rfl⟩, hW_, hsame_.mono (by decide) (by decide)⟩
              · exact retN X44 hx (t := .boolean) Bd.returns (by simp) (hb hby d20_191) hr_
              · show Q_matches Z g_ er pn1 pf pl arr ka z ws_ ke ee0 ee1 ee2 ee3 ee4 ee5 h0 n0 _ T44.heap _
                rw [e44]
                exact ⟨rfl, N44, rfl⟩
            · skip
              have r46 : own_R p e below _ _ T37 (mkF m 191 #[.val (.ref g_), .val (.ref er), .val (.int pn1), .val (.int pf), .val (.int pl)] [(.int (1 : Int32))]) := r38.trans fun z_ kt => by
                refine XS.icmpYes X37.here hx rfl (pc0 := 164) (pc' := 190) rfl (hb hby d20_164) rfl (flt (hc164_39 : ¬ ((5 : Int32) < pl))).2.2.2 (by decide) (by decide) ?_
                refine XS.iconst X37.here hx rfl (hb hby d20_190) ?_
                exact kt
              obtain ⟨fs_, hr_, hrun_, hended_, hW_, hsame_⟩ := X37.leave (v := some (.int (1 : Int32))) (fun h => by rw [Bd.returns] at h; cases h)
              refine ⟨_, _, pre0 _ (r46 _ ?_), hrun_, hended_, _, _, rfl, ?_, ⟨_, rfl⟩, hW_, hsame_.mono (by decide) (by decide)⟩
              · exact retN X37 hx (t := .boolean) Bd.returns (by simp) (hb hby d20_191) hr_
              · show Q_matches Z g_ er pn1 pf pl arr ka z ws_ ke ee0 ee1 ee2 ee3 ee4 ee5 h0 n0 _ T37.heap _
                rw [e37]
                exact ⟨rfl, N37, rfl⟩
          · skip
            have r47 : own_R p e below _ _ T30 (mkF m 191 #[.val (.ref g_), .val (.ref er), .val (.int pn1), .val (.int pf), .val (.int pl)] [(.int (1 : Int32))]) := r31.trans fun z_ kt => by
              refine XS.icmpYes X30.here hx rfl (pc0 := 135) (pc' := 161) rfl (hb hby d20_135) rfl (flt (hc135_32 : ¬ ((4 : Int32) < pl))).2.2.2 (by decide) (by decide) ?_
              refine XS.iload X30.here hx rfl (hb hby d20_161) rfl ?_
              refine XS.iconst X30.here hx rfl (hb hby d20_163) ?_
              refine XS.icmpYes X30.here hx rfl (pc0 := 164) (pc' := 190) rfl (hb hby d20_164) rfl (flt (own_off hc135_32 (by decide) : ¬ ((5 : Int32) < pl))).2.2.2 (by decide) (by decide) ?_
              refine XS.iconst X30.here hx rfl (hb hby d20_190) ?_
              exact kt
            obtain ⟨fs_, hr_, hrun_, hended_, hW_, hsame_⟩ := X30.leave (v := some (.int (1 : Int32))) (fun h => by rw [Bd.returns] at h; cases h)
            refine ⟨_, _, pre0 _ (r47 _ ?_), hrun_, hended_, _, _, rfl, ?_, ⟨_, rfl⟩, hW_, hsame_.mono (by decide) (by decide)⟩
            · exact retN X30 hx (t := .boolean) Bd.returns (by simp) (hb hby d20_191) hr_
            · show Q_matches Z g_ er pn1 pf pl arr ka z ws_ ke ee0 ee1 ee2 ee3 ee4 ee5 h0 n0 _ T30.heap _
              rw [e30]
              exact ⟨rfl, N30, rfl⟩
        · skip
          have r48 : own_R p e below _ _ T23 (mkF m 191 #[.val (.ref g_), .val (.ref er), .val (.int pn1), .val (.int pf), .val (.int pl)] [(.int (1 : Int32))]) := r24.trans fun z_ kt => by
            refine XS.icmpYes X23.here hx rfl (pc0 := 106) (pc' := 132) rfl (hb hby d20_106) rfl (flt (hc106_25 : ¬ ((3 : Int32) < pl))).2.2.2 (by decide) (by decide) ?_
            refine XS.iload X23.here hx rfl (hb hby d20_132) rfl ?_
            refine XS.iconst X23.here hx rfl (hb hby d20_134) ?_
            refine XS.icmpYes X23.here hx rfl (pc0 := 135) (pc' := 161) rfl (hb hby d20_135) rfl (flt (own_off hc106_25 (by decide) : ¬ ((4 : Int32) < pl))).2.2.2 (by decide) (by decide) ?_
            refine XS.iload X23.here hx rfl (hb hby d20_161) rfl ?_
            refine XS.iconst X23.here hx rfl (hb hby d20_163) ?_
            refine XS.icmpYes X23.here hx rfl (pc0 := 164) (pc' := 190) rfl (hb hby d20_164) rfl (flt (own_off hc106_25 (by decide) : ¬ ((5 : Int32) < pl))).2.2.2 (by decide) (by decide) ?_
            refine XS.iconst X23.here hx rfl (hb hby d20_190) ?_
            exact kt
          obtain ⟨fs_, hr_, hrun_, hended_, hW_, hsame_⟩ := X23.leave (v := some (.int (1 : Int32))) (fun h => by rw [Bd.returns] at h; cases h)
          refine ⟨_, _, pre0 _ (r48 _ ?_), hrun_, hended_, _, _, rfl, ?_, ⟨_, rfl⟩, hW_, hsame_.mono (by decide) (by decide)⟩
          · exact retN X23 hx (t := .boolean) Bd.returns (by simp) (hb hby d20_191) hr_
          · show Q_matches Z g_ er pn1 pf pl arr ka z ws_ ke ee0 ee1 ee2 ee3 ee4 ee5 h0 n0 _ T23.heap _
            rw [e23]
            exact ⟨rfl, N23, rfl⟩
      · skip
        have r49 : own_R p e below _ _ T16 (mkF m 191 #[.val (.ref g_), .val (.ref er), .val (.int pn1), .val (.int pf), .val (.int pl)] [(.int (1 : Int32))]) := r17.trans fun z_ kt => by
          refine XS.icmpYes X16.here hx rfl (pc0 := 77) (pc' := 103) rfl (hb hby d20_77) rfl (flt (hc77_18 : ¬ ((2 : Int32) < pl))).2.2.2 (by decide) (by decide) ?_
          refine XS.iload X16.here hx rfl (hb hby d20_103) rfl ?_
          refine XS.iconst X16.here hx rfl (hb hby d20_105) ?_
          refine XS.icmpYes X16.here hx rfl (pc0 := 106) (pc' := 132) rfl (hb hby d20_106) rfl (flt (own_off hc77_18 (by decide) : ¬ ((3 : Int32) < pl))).2.2.2 (by decide) (by decide) ?_
          refine XS.iload X16.here hx rfl (hb hby d20_132) rfl ?_
          refine XS.iconst X16.here hx rfl (hb hby d20_134) ?_
          refine XS.icmpYes X16.here hx rfl (pc0 := 135) (pc' := 161) rfl (hb hby d20_135) rfl (flt (own_off hc77_18 (by decide) : ¬ ((4 : Int32) < pl))).2.2.2 (by decide) (by decide) ?_
          refine XS.iload X16.here hx rfl (hb hby d20_161) rfl ?_
          refine XS.iconst X16.here hx rfl (hb hby d20_163) ?_
          refine XS.icmpYes X16.here hx rfl (pc0 := 164) (pc' := 190) rfl (hb hby d20_164) rfl (flt (own_off hc77_18 (by decide) : ¬ ((5 : Int32) < pl))).2.2.2 (by decide) (by decide) ?_
          refine XS.iconst X16.here hx rfl (hb hby d20_190) ?_
          exact kt
        obtain ⟨fs_, hr_, hrun_, hended_, hW_, hsame_⟩ := X16.leave (v := some (.int (1 : Int32))) (fun h => by rw [Bd.returns] at h; cases h)
        refine ⟨_, _, pre0 _ (r49 _ ?_), hrun_, hended_, _, _, rfl, ?_, ⟨_, rfl⟩, hW_, hsame_.mono (by decide) (by decide)⟩
        · exact retN X16 hx (t := .boolean) Bd.returns (by simp) (hb hby d20_191) hr_
        · show Q_matches Z g_ er pn1 pf pl arr ka z ws_ ke ee0 ee1 ee2 ee3 ee4 ee5 h0 n0 _ T16.heap _
          rw [e16]
          exact ⟨rfl, N16, rfl⟩
    · skip
      have r50 : own_R p e below _ _ T9 (mkF m 191 #[.val (.ref g_), .val (.ref er), .val (.int pn1), .val (.int pf), .val (.int pl)] [(.int (1 : Int32))]) := r10.trans fun z_ kt => by
        refine XS.icmpYes X9.here hx rfl (pc0 := 48) (pc' := 74) rfl (hb hby d20_48) rfl (flt (hc48_11 : ¬ ((1 : Int32) < pl))).2.2.2 (by decide) (by decide) ?_
        refine XS.iload X9.here hx rfl (hb hby d20_74) rfl ?_
        refine XS.iconst X9.here hx rfl (hb hby d20_76) ?_
        refine XS.icmpYes X9.here hx rfl (pc0 := 77) (pc' := 103) rfl (hb hby d20_77) rfl (flt (own_off hc48_11 (by decide) : ¬ ((2 : Int32) < pl))).2.2.2 (by decide) (by decide) ?_
        refine XS.iload X9.here hx rfl (hb hby d20_103) rfl ?_
        refine XS.iconst X9.here hx rfl (hb hby d20_105) ?_
        refine XS.icmpYes X9.here hx rfl (pc0 := 106) (pc' := 132) rfl (hb hby d20_106) rfl (flt (own_off hc48_11 (by decide) : ¬ ((3 : Int32) < pl))).2.2.2 (by decide) (by decide) ?_
        refine XS.iload X9.here hx rfl (hb hby d20_132) rfl ?_
        refine XS.iconst X9.here hx rfl (hb hby d20_134) ?_
        refine XS.icmpYes X9.here hx rfl (pc0 := 135) (pc' := 161) rfl (hb hby d20_135) rfl (flt (own_off hc48_11 (by decide) : ¬ ((4 : Int32) < pl))).2.2.2 (by decide) (by decide) ?_
        refine XS.iload X9.here hx rfl (hb hby d20_161) rfl ?_
        refine XS.iconst X9.here hx rfl (hb hby d20_163) ?_
        refine XS.icmpYes X9.here hx rfl (pc0 := 164) (pc' := 190) rfl (hb hby d20_164) rfl (flt (own_off hc48_11 (by decide) : ¬ ((5 : Int32) < pl))).2.2.2 (by decide) (by decide) ?_
        refine XS.iconst X9.here hx rfl (hb hby d20_190) ?_
        exact kt
      obtain ⟨fs_, hr_, hrun_, hended_, hW_, hsame_⟩ := X9.leave (v := some (.int (1 : Int32))) (fun h => by rw [Bd.returns] at h; cases h)
      refine ⟨_, _, pre0 _ (r50 _ ?_), hrun_, hended_, _, _, rfl, ?_, ⟨_, rfl⟩, hW_, hsame_.mono (by decide) (by decide)⟩
      · exact retN X9 hx (t := .boolean) Bd.returns (by simp) (hb hby d20_191) hr_
      · show Q_matches Z g_ er pn1 pf pl arr ka z ws_ ke ee0 ee1 ee2 ee3 ee4 ee5 h0 n0 _ T9.heap _
        rw [e9]
        exact ⟨rfl, N9, rfl⟩
  · skip
    have r51 : own_R p e below _ _ T2 (mkF m 191 #[.val (.ref g_), .val (.ref er), .val (.int pn1), .val (.int pf), .val (.int pl)] [(.int (1 : Int32))]) := r3.trans fun z_ kt => by
      refine XS.ifYes X2.here hx rfl (pc0 := 21) (pc' := 45) rfl (hb hby d20_21) rfl ((if0 _ _).trans (flt (hc21_4 : ¬ ((0 : Int32) < pl))).2.2.2) (by decide) (by decide) ?_
      refine XS.iload X2.here hx rfl (hb hby d20_45) rfl ?_
      refine XS.iconst X2.here hx rfl (hb hby d20_47) ?_
      refine XS.icmpYes X2.here hx rfl (pc0 := 48) (pc' := 74) rfl (hb hby d20_48) rfl (flt (own_off hc21_4 (by decide) : ¬ ((1 : Int32) < pl))).2.2.2 (by decide) (by decide) ?_
      refine XS.iload X2.here hx rfl (hb hby d20_74) rfl ?_
      refine XS.iconst X2.here hx rfl (hb hby d20_76) ?_
      refine XS.icmpYes X2.here hx rfl (pc0 := 77) (pc' := 103) rfl (hb hby d20_77) rfl (flt (own_off hc21_4 (by decide) : ¬ ((2 : Int32) < pl))).2.2.2 (by decide) (by decide) ?_
      refine XS.iload X2.here hx rfl (hb hby d20_103) rfl ?_
      refine XS.iconst X2.here hx rfl (hb hby d20_105) ?_
      refine XS.icmpYes X2.here hx rfl (pc0 := 106) (pc' := 132) rfl (hb hby d20_106) rfl (flt (own_off hc21_4 (by decide) : ¬ ((3 : Int32) < pl))).2.2.2 (by decide) (by decide) ?_
      refine XS.iload X2.here hx rfl (hb hby d20_132) rfl ?_
      refine XS.iconst X2.here hx rfl (hb hby d20_134) ?_
      refine XS.icmpYes X2.here hx rfl (pc0 := 135) (pc' := 161) rfl (hb hby d20_135) rfl (flt (own_off hc21_4 (by decide) : ¬ ((4 : Int32) < pl))).2.2.2 (by decide) (by decide) ?_
      refine XS.iload X2.here hx rfl (hb hby d20_161) rfl ?_
      refine XS.iconst X2.here hx rfl (hb hby d20_163) ?_
      refine XS.icmpYes X2.here hx rfl (pc0 := 164) (pc' := 190) rfl (hb hby d20_164) rfl (flt (own_off hc21_4 (by decide) : ¬ ((5 : Int32) < pl))).2.2.2 (by decide) (by decide) ?_
      refine XS.iconst X2.here hx rfl (hb hby d20_190) ?_
      exact kt
    obtain ⟨fs_, hr_, hrun_, hended_, hW_, hsame_⟩ := X2.leave (v := some (.int (1 : Int32))) (fun h => by rw [Bd.returns] at h; cases h)
    refine ⟨_, _, pre0 _ (r51 _ ?_), hrun_, hended_, _, _, rfl, ?_, ⟨_, rfl⟩, hW_, hsame_.mono (by decide) (by decide)⟩
    · exact retN X2 hx (t := .boolean) Bd.returns (by simp) (hb hby d20_191) hr_
    · show Q_matches Z g_ er pn1 pf pl arr ka z ws_ ke ee0 ee1 ee2 ee3 ee4 ee5 h0 n0 _ T2.heap _
      rw [e2]
      exact ⟨rfl, N2, rfl⟩

theorem pd_20 : parseMethodDescriptor "(C)Ljava/lang/String;" = some ⟨[.char], some (.object "java/lang/String")⟩ := by decide +kernel
theorem pd_21 : parseMethodDescriptor "(Ljava/util/Collection;)V" = some ⟨[(.object "java/util/Collection")], none⟩ := by decide +kernel
theorem pd_22 : parseMethodDescriptor "(JI)Ljava/util/List;" = some ⟨[.long, .int], some (.object "java/util/List")⟩ := by decide +kernel
theorem pd_23 : parseMethodDescriptor "(Ljava/util/List;[Ljava/lang/String;III)Z" = some ⟨[(.object "java/util/List"), (.array (.object "java/lang/String")), .int, .int, .int], some .boolean⟩ := by decide +kernel
theorem ef_law (m : MethodId) (pa : Int32) (pb : Int32) (p1 : Int32) (p2 : Int32) (pk : Int32) (pf : Int32) : entryFrame m #[(.int pa), (.int pb), (.int p1), (.int p2), (.int pk), (.int pf)] maxLocals = mkF m 0 #[.val (.int pa), .val (.int pb), .val (.int p1), .val (.int p2), .val (.int pk), .val (.int pf), .unset, .unset, .unset, .unset, .unset, .unset, .unset, .unset, .unset, .unset] [] := by first | (simp [entryFrame, mkF, argsToLocals, Value.category, maxLocals]; done) | rfl
def Q_law (Z : State) (pa : Int32) (pb : Int32) (p1 : Int32) (p2 : Int32) (pk : Int32) (pf : Int32) (pcs : Int32) (s_DE : Addr) (s_EE : Addr) (kd : ClassId) (kE : ClassId) (h0 : Heap) (n0 : Nat) (v_ : Option Value) (h_ : Heap) (L_ : List Loc) : Prop := v_ = some (.int (1 : Int32)) ∧ Fr n0 L_
set_option maxRecDepth 65536 in
set_option maxHeartbeats 40000000 in
theorem rm_law (l : Launch) (Z : State) (a0 : Array Value) (hw : ∀ d ∈ tables_1, d.before a0 Z = true) (ws : List Jvm.Cond) (pa : Int32) (pb : Int32) (p1 : Int32) (p2 : Int32) (pk : Int32) (pf : Int32) (pcs : Int32) (s_DE : Addr) (s_EE : Addr) (kd : ClassId) (kE : ClassId) (h0 : Heap) (n0 : Nat) (O0 : Old Z n0 h0) (S_String_COMPACT_STRINGS : Sta Z Z.heap "java/lang/String" "COMPACT_STRINGS" "Z" (.int pcs)) (hcs : ¬ (pcs = (0 : Int32))) (S_ArrayList_DEFAULTCAPACITY_EMPTY_ELEMENTDATA : Sta Z Z.heap "java/util/ArrayList" "DEFAULTCAPACITY_EMPTY_ELEMENTDATA" "[Ljava/lang/Object;" (.ref s_DE)) (S_ArrayList_EMPTY_ELEMENTDATA : Sta Z Z.heap "java/util/ArrayList" "EMPTY_ELEMENTDATA" "[Ljava/lang/Object;" (.ref s_EE)) (OV_s_DE : Arv Z Z.heap s_DE kd (.object "java/lang/Object") (0 : Int32) [] .null) (OV_s_EE : Arv Z Z.heap s_EE kE (.object "java/lang/Object") (0 : Int32) [] .null) :
    MetFree l x (head1 (Jvm.Cond.code x code maxLocals ret :: ws) room_1) (fun aa_ U_ => aa_ = #[(.int pa), (.int pb), (.int p1), (.int p2), (.int pk), (.int pf)] ∧ Z.Warmed39 U_.vm ∧ U_.heap = h0) (fun _ _ _ _ _ => True) (fun _ U_ o_ U_' => ∃ v_ L_, o_ = .returned v_ ∧ Q_law Z pa pb p1 p2 pk pf pcs s_DE s_EE kd kE h0 n0 v_ U_'.heap L_ ∧ FrameEnd U_ o_ U_' L_ room_1.cells room_1.slots) := by
  refine MetFree.of_bodySF (plainFor_of_name pn_RecentChangesKeepAtLeastPinLaw) hisR ?_
  intro p e s m args below meth c s₁ Bd hml0 hP hK
  obtain ⟨rfl, hZ, hh⟩ := hP
  have hx := Bd.exec
  have hby := Bd.bytes
  have hml : c.maxLocals = 16 := hml0
  have hown : s.vm.findClass "com/example/kleinbasel/kleinbasel/content/RecentChangesKeepAtLeastPinLaw" = some m.cls := findClass_of_methodNamed Bd.named
  have hnm := (name_of_methodNamed Bd.named Bd.method).1
  have X0 : Stand p l e room_1 s m #[(.int pa), (.int pb), (.int p1), (.int p2), (.int pk), (.int pf)] below meth c s₁ [] 0 0 := Stand.of_body Bd
  have e0 : s₁.heap = h0 := by rw [← hh, Bd.state]; rfl
  have N0 := Fr.nil n0
  have pre0 : ∀ z_, Steps p.tables e below (s₁.setTop (mkF m 0 #[.val (.int pa), .val (.int pb), .val (.int p1), .val (.int p2), .val (.int pk), .val (.int pf), .unset, .unset, .unset, .unset, .unset, .unset, .unset, .unset, .unset, .unset] [])) z_ → Steps p.tables e below (s₁.setTop (entryFrame m #[(.int pa), (.int pb), (.int p1), (.int p2), (.int pk), (.int pf)] maxLocals)) z_ := fun z_ k_ => castTop (ef_law m pa pb p1 p2 pk pf) k_
  have r0 : own_R p e below s₁ (mkF m 0 #[.val (.int pa), .val (.int pb), .val (.int p1), .val (.int p2), .val (.int pk), .val (.int pf), .unset, .unset, .unset, .unset, .unset, .unset, .unset, .unset, .unset, .unset] []) s₁ (mkF m 0 #[.val (.int pa), .val (.int pb), .val (.int p1), .val (.int p2), .val (.int pk), .val (.int pf), .unset, .unset, .unset, .unset, .unset, .unset, .unset, .unset, .unset, .unset] []) := own_R.refl
  have r1 : own_R p e below _ _ s₁ (mkF m 2 #[.val (.int pa), .val (.int pb), .val (.int p1), .val (.int p2), .val (.int pk), .val (.int pf), .unset, .unset, .unset, .unset, .unset, .unset, .unset, .unset, .unset, .unset] [(.int (6 : Int32))]) := r0.trans fun z_ kt => by
    refine XS.bipush X0.here hx rfl (hb hby at_0) ?_
    exact kt
  obtain ⟨T2, h2, k2, X2, e2, E2, A2, Ov2, st2⟩ := newR X0 hx hZ hown (hw _ (own_g (i := 0) rfl)) (hw _ (own_g (i := 1) rfl)) e0 (g := (mkF m 2 #[.val (.int pa), .val (.int pb), .val (.int p1), .val (.int p2), .val (.int pk), .val (.int pf), .unset, .unset, .unset, .unset, .unset, .unset, .unset, .unset, .unset, .unset] [(.int (6 : Int32))])) rfl (hb hby at_2) rfl (by decide) (cap := 6) (by decide) (by decide) (by decide) (by decide)
  obtain ⟨b2, g2⟩ : ∃ z, z = h0.size := ⟨_, rfl⟩
  rw [← g2] at A2 st2
  have r2 : own_R p e below _ _ T2 (mkF m 5 #[.val (.int pa), .val (.int pb), .val (.int p1), .val (.int p2), .val (.int pk), .val (.int pf), .unset, .unset, .unset, .unset, .unset, .unset, .unset, .unset, .unset, .unset] [(.ref b2)]) := r1.trans fun z_ kt => st2 _ kt
  have g_b2 : n0 ≤ b2 := Nat.le_trans (own_old_size O0) (Nat.le_of_eq g2.symm)
  have O2 := O0.ext E2
  have V2 : Arv Z h2 b2 k2 (.object "java/lang/String") (6 : Int32) [.null, .null, .null, .null, .null, .null] .null := (Arv.new A2 (by decide)).pad (pad_rep [] .null 6)
  have r3 : own_R p e below _ _ T2 (mkF m 16 #[.val (.int pa), .val (.int pb), .val (.int p1), .val (.int p2), .val (.int pk), .val (.int pf), .val (.ref b2), .unset, .unset, .unset, .unset, .unset, .unset, .unset, .unset, .unset] [(.int ((pa &&& (255 : Int32)).toUInt32.toUInt16.toUInt32.toInt32)), (.int (0 : Int32)), (.ref b2)]) := r2.trans fun z_ kt => by
    refine XS.astore X2.here hx rfl (hb hby at_5) rfl rfl (l' := #[.val (.int pa), .val (.int pb), .val (.int p1), .val (.int p2), .val (.int pk), .val (.int pf), .val (.ref b2), .unset, .unset, .unset, .unset, .unset, .unset, .unset, .unset, .unset]) rfl ?_
    refine XS.aload X2.here hx rfl (hb hby at_7) rfl rfl ?_
    refine XS.iconst X2.here hx rfl (hb hby at_9) ?_
    refine XS.iloadN X2.here hx rfl (hb hby at_10) rfl ?_
    refine XS.sipush X2.here hx rfl (hb hby at_11) ?_
    refine XS.iand X2.here hx rfl (hb hby at_14) rfl ?_
    refine XS.i2c X2.here hx rfl (hb hby at_15) rfl ?_
    exact kt
  obtain ⟨_, _, ⟨T4, L4, cc4, n4⟩, -, X4, ⟨Lc4, hQ4, l4, y4, z4⟩, st4⟩ := Jvm.LawKit.callS X2 hx (y := (⟨"java/lang/String", "valueOf", "(C)Ljava/lang/String;"⟩ : MethodName)) hown (mvT hZ (hw _ (own_g (i := 2) rfl))) (mvT hZ (hw _ (own_g (i := 3) rfl))) (mvT hZ (hw _ (own_g (i := 4) rfl))) (mvT hZ (hw _ (own_g (i := 5) rfl))) (by decide) (backOf (W := 2) (rm_valueOf l Z a0 hw [] (((pa &&& (255 : Int32)).toUInt32.toUInt16.toUInt32.toInt32)) (pcs) h2 n0 O2 (S_String_COMPACT_STRINGS) (hcs) (own_byte _)) hZ (hw _ (own_g (i := 5) rfl)) (hw _ (own_g (i := 4) rfl)) (by decide) (by decide)) (g := (mkF m 16 #[.val (.int pa), .val (.int pb), .val (.int p1), .val (.int p2), .val (.int pk), .val (.int pf), .val (.ref b2), .unset, .unset, .unset, .unset, .unset, .unset, .unset, .unset, .unset] [(.int ((pa &&& (255 : Int32)).toUInt32.toUInt16.toUInt32.toInt32)), (.int (0 : Int32)), (.ref b2)])) rfl (by rw [hml]; rfl) (argsL := [(.int ((pa &&& (255 : Int32)).toUInt32.toUInt16.toUInt32.toInt32))]) (rest := [(.int (0 : Int32)), (.ref b2)]) (lenOf pd_20 rfl) rfl (by show 2 * 0 + _ ≤ _; exact Nat.le_of_eq rfl) (hb hby at_16) (fun _ _ => ⟨rfl, e2, (by decide : 1 + 2 ≤ _), (by decide : 6 + 5 ≤ _)⟩)
  dsimp only [Pt.U, Pt.locs, Pt.cells, Pt.slots] at X4 l4 y4 z4 st4 hQ4
  subst l4 y4 z4
  obtain ⟨h4, e4⟩ : ∃ z, T4.heap = z := ⟨_, rfl⟩
  rw [e4] at hQ4
  obtain ⟨b_4, rfl, Nq4, Kq4, p4_0, p4_1⟩ := hQ4
  have N4 := Fr.app N0 Nq4
  have r4 : own_R p e below _ _ T4 (mkF m 19 #[.val (.int pa), .val (.int pb), .val (.int p1), .val (.int p2), .val (.int pk), .val (.int pf), .val (.ref b2), .unset, .unset, .unset, .unset, .unset, .unset, .unset, .unset, .unset] [(.ref b_4), (.int (0 : Int32)), (.ref b2)]) := r3.trans fun z_ kt => st4 _ kt
  have ne_b2_b_4 : b2 ≠ b_4 := Nat.ne_of_lt (Nat.lt_of_lt_of_le V2.lt p4_0)
  have g_b_4 : n0 ≤ b_4 := Nat.le_trans (own_old_size O2) p4_0
  have O4 := O2.keep Kq4 all0
  have f5 := (V2.keep Kq4 nin0)
  obtain ⟨cl6, Ar6, q6, S6, M6, H6, G6⟩ := id f5
  have hin6 : ¬ ((0 : Int32) < 0 ∨ cl6.slots.size ≤ ((0 : Int32)).toNatClampNeg) := inb_of S6 ⟨by decide, by decide⟩
  obtain ⟨T7, h7, X7, e7, W7, st7⟩ := stR X4 hx hZ e4 Ar6 (j := (0 : Int32)) hin6 rfl (Sto.ofV Ar6 q6 Ov2 (Ins.self p4_1)) (g := (mkF m 19 #[.val (.int pa), .val (.int pb), .val (.int p1), .val (.int p2), .val (.int pk), .val (.int pf), .val (.ref b2), .unset, .unset, .unset, .unset, .unset, .unset, .unset, .unset, .unset] [(.ref b_4), (.int (0 : Int32)), (.ref b2)])) rfl rfl (hb hby at_19)
  have r7 : own_R p e below _ _ T7 (mkF m 20 #[.val (.int pa), .val (.int pb), .val (.int p1), .val (.int p2), .val (.int pk), .val (.int pf), .val (.ref b2), .unset, .unset, .unset, .unset, .unset, .unset, .unset, .unset, .unset] []) := r4.trans fun z_ kt => st7 _ kt
  have N7 := Fr.snoc X7 N4 g_b2
  have O7 := O4.wr W7 g_b2
  have V7 : Arv Z h7 b2 k2 (.object "java/lang/String") (6 : Int32) [(.ref b_4), .null, .null, .null, .null, .null] .null := Arv.set Ar6 q6 S6 M6 H6 G6 rfl W7 0 rfl (Nat.le_of_ble_eq_true rfl)
  have r8 : own_R p e below _ _ T7 (mkF m 32 #[.val (.int pa), .val (.int pb), .val (.int p1), .val (.int p2), .val (.int pk), .val (.int pf), .val (.ref b2), .unset, .unset, .unset, .unset, .unset, .unset, .unset, .unset, .unset] [(.int ((((pa.toUInt32 >>> ((8 : Int32) &&& 31).toUInt32).toInt32) &&& (255 : Int32)).toUInt32.toUInt16.toUInt32.toInt32)), (.int (1 : Int32)), (.ref b2)]) := r7.trans fun z_ kt => by
    refine XS.aload X7.here hx rfl (hb hby at_20) rfl rfl ?_
    refine XS.iconst X7.here hx rfl (hb hby at_22) ?_
    refine XS.iloadN X7.here hx rfl (hb hby at_23) rfl ?_
    refine XS.bipush X7.here hx rfl (hb hby at_24) ?_
    refine XS.iushr X7.here hx rfl (hb hby at_26) rfl ?_
    refine XS.sipush X7.here hx rfl (hb hby at_27) ?_
    refine XS.iand X7.here hx rfl (hb hby at_30) rfl ?_
    refine XS.i2c X7.here hx rfl (hb hby at_31) rfl ?_
    exact kt
  obtain ⟨_, _, ⟨T9, L9, cc9, n9⟩, -, X9, ⟨Lc9, hQ9, l9, y9, z9⟩, st9⟩ := Jvm.LawKit.callS X7 hx (y := (⟨"java/lang/String", "valueOf", "(C)Ljava/lang/String;"⟩ : MethodName)) hown (mvT hZ (hw _ (own_g (i := 2) rfl))) (mvT hZ (hw _ (own_g (i := 3) rfl))) (mvT hZ (hw _ (own_g (i := 4) rfl))) (mvT hZ (hw _ (own_g (i := 5) rfl))) (by decide) (backOf (W := 2) (rm_valueOf l Z a0 hw [] (((((pa.toUInt32 >>> ((8 : Int32) &&& 31).toUInt32).toInt32) &&& (255 : Int32)).toUInt32.toUInt16.toUInt32.toInt32)) (pcs) h7 n0 O7 (S_String_COMPACT_STRINGS) (hcs) (own_byte _)) hZ (hw _ (own_g (i := 5) rfl)) (hw _ (own_g (i := 4) rfl)) (by decide) (by decide)) (g := (mkF m 32 #[.val (.int pa), .val (.int pb), .val (.int p1), .val (.int p2), .val (.int pk), .val (.int pf), .val (.ref b2), .unset, .unset, .unset, .unset, .unset, .unset, .unset, .unset, .unset] [(.int ((((pa.toUInt32 >>> ((8 : Int32) &&& 31).toUInt32).toInt32) &&& (255 : Int32)).toUInt32.toUInt16.toUInt32.toInt32)), (.int (1 : Int32)), (.ref b2)])) rfl (by rw [hml]; rfl) (argsL := [(.int ((((pa.toUInt32 >>> ((8 : Int32) &&& 31).toUInt32).toInt32) &&& (255 : Int32)).toUInt32.toUInt16.toUInt32.toInt32))]) (rest := [(.int (1 : Int32)), (.ref b2)]) (lenOf pd_20 rfl) rfl (by show 2 * 0 + _ ≤ _; exact Nat.le_of_eq rfl) (hb hby at_32) (fun _ _ => ⟨rfl, e7, (by decide : 3 + 2 ≤ _), (by decide : 11 + 5 ≤ _)⟩)
  dsimp only [Pt.U, Pt.locs, Pt.cells, Pt.slots] at X9 l9 y9 z9 st9 hQ9
  subst l9 y9 z9
  obtain ⟨h9, e9⟩ : ∃ z, T9.heap = z := ⟨_, rfl⟩
  rw [e9] at hQ9
  obtain ⟨b_9, rfl, Nq9, Kq9, p9_0, p9_1⟩ := hQ9
  have N9 := Fr.app N7 Nq9
  have r9 : own_R p e below _ _ T9 (mkF m 35 #[.val (.int pa), .val (.int pb), .val (.int p1), .val (.int p2), .val (.int pk), .val (.int pf), .val (.ref b2), .unset, .unset, .unset, .unset, .unset, .unset, .unset, .unset, .unset] [(.ref b_9), (.int (1 : Int32)), (.ref b2)]) := r8.trans fun z_ kt => st9 _ kt
  have ne_b2_b_9 : b2 ≠ b_9 := Nat.ne_of_lt (Nat.lt_of_lt_of_le V7.lt p9_0)
  have f10 := (p4_1.wr W7)
  have ne_b_4_b_9 : b_4 ≠ b_9 := Nat.ne_of_lt (Nat.lt_of_lt_of_le f10.lt p9_0)
  have g_b_9 : n0 ≤ b_9 := Nat.le_trans (own_old_size O7) p9_0
  have O9 := O7.keep Kq9 all0
  have f11 := (V7.keep Kq9 nin0)
  obtain ⟨cl12, Ar12, q12, S12, M12, H12, G12⟩ := id f11
  have hin12 : ¬ ((1 : Int32) < 0 ∨ cl12.slots.size ≤ ((1 : Int32)).toNatClampNeg) := inb_of S12 ⟨by decide, by decide⟩
  obtain ⟨T13, h13, X13, e13, W13, st13⟩ := stR X9 hx hZ e9 Ar12 (j := (1 : Int32)) hin12 rfl (Sto.ofV Ar12 q12 Ov2 (Ins.self p9_1)) (g := (mkF m 35 #[.val (.int pa), .val (.int pb), .val (.int p1), .val (.int p2), .val (.int pk), .val (.int pf), .val (.ref b2), .unset, .unset, .unset, .unset, .unset, .unset, .unset, .unset, .unset] [(.ref b_9), (.int (1 : Int32)), (.ref b2)])) rfl rfl (hb hby at_35)
  have r13 : own_R p e below _ _ T13 (mkF m 36 #[.val (.int pa), .val (.int pb), .val (.int p1), .val (.int p2), .val (.int pk), .val (.int pf), .val (.ref b2), .unset, .unset, .unset, .unset, .unset, .unset, .unset, .unset, .unset] []) := r9.trans fun z_ kt => st13 _ kt
  have N13 := Fr.snoc X13 N9 g_b2
  have O13 := O9.wr W13 g_b2
  have V13 : Arv Z h13 b2 k2 (.object "java/lang/String") (6 : Int32) [(.ref b_4), (.ref b_9), .null, .null, .null, .null] .null := Arv.set Ar12 q12 S12 M12 H12 G12 rfl W13 1 rfl (Nat.le_of_ble_eq_true rfl)
  have r14 : own_R p e below _ _ T13 (mkF m 48 #[.val (.int pa), .val (.int pb), .val (.int p1), .val (.int p2), .val (.int pk), .val (.int pf), .val (.ref b2), .unset, .unset, .unset, .unset, .unset, .unset, .unset, .unset, .unset] [(.int ((((pa.toUInt32 >>> ((16 : Int32) &&& 31).toUInt32).toInt32) &&& (255 : Int32)).toUInt32.toUInt16.toUInt32.toInt32)), (.int (2 : Int32)), (.ref b2)]) := r13.trans fun z_ kt => by
    refine XS.aload X13.here hx rfl (hb hby at_36) rfl rfl ?_
    refine XS.iconst X13.here hx rfl (hb hby at_38) ?_
    refine XS.iloadN X13.here hx rfl (hb hby at_39) rfl ?_
    refine XS.bipush X13.here hx rfl (hb hby at_40) ?_
    refine XS.iushr X13.here hx rfl (hb hby at_42) rfl ?_
    refine XS.sipush X13.here hx rfl (hb hby at_43) ?_
    refine XS.iand X13.here hx rfl (hb hby at_46) rfl ?_
    refine XS.i2c X13.here hx rfl (hb hby at_47) rfl ?_
    exact kt
  obtain ⟨_, _, ⟨T15, L15, cc15, n15⟩, -, X15, ⟨Lc15, hQ15, l15, y15, z15⟩, st15⟩ := Jvm.LawKit.callS X13 hx (y := (⟨"java/lang/String", "valueOf", "(C)Ljava/lang/String;"⟩ : MethodName)) hown (mvT hZ (hw _ (own_g (i := 2) rfl))) (mvT hZ (hw _ (own_g (i := 3) rfl))) (mvT hZ (hw _ (own_g (i := 4) rfl))) (mvT hZ (hw _ (own_g (i := 5) rfl))) (by decide) (backOf (W := 2) (rm_valueOf l Z a0 hw [] (((((pa.toUInt32 >>> ((16 : Int32) &&& 31).toUInt32).toInt32) &&& (255 : Int32)).toUInt32.toUInt16.toUInt32.toInt32)) (pcs) h13 n0 O13 (S_String_COMPACT_STRINGS) (hcs) (own_byte _)) hZ (hw _ (own_g (i := 5) rfl)) (hw _ (own_g (i := 4) rfl)) (by decide) (by decide)) (g := (mkF m 48 #[.val (.int pa), .val (.int pb), .val (.int p1), .val (.int p2), .val (.int pk), .val (.int pf), .val (.ref b2), .unset, .unset, .unset, .unset, .unset, .unset, .unset, .unset, .unset] [(.int ((((pa.toUInt32 >>> ((16 : Int32) &&& 31).toUInt32).toInt32) &&& (255 : Int32)).toUInt32.toUInt16.toUInt32.toInt32)), (.int (2 : Int32)), (.ref b2)])) rfl (by rw [hml]; rfl) (argsL := [(.int ((((pa.toUInt32 >>> ((16 : Int32) &&& 31).toUInt32).toInt32) &&& (255 : Int32)).toUInt32.toUInt16.toUInt32.toInt32))]) (rest := [(.int (2 : Int32)), (.ref b2)]) (lenOf pd_20 rfl) rfl (by show 2 * 0 + _ ≤ _; exact Nat.le_of_eq rfl) (hb hby at_48) (fun _ _ => ⟨rfl, e13, (by decide : 5 + 2 ≤ _), (by decide : 16 + 5 ≤ _)⟩)
  dsimp only [Pt.U, Pt.locs, Pt.cells, Pt.slots] at X15 l15 y15 z15 st15 hQ15
  subst l15 y15 z15
  obtain ⟨h15, e15⟩ : ∃ z, T15.heap = z := ⟨_, rfl⟩
  rw [e15] at hQ15
  obtain ⟨b_15, rfl, Nq15, Kq15, p15_0, p15_1⟩ := hQ15
  have N15 := Fr.app N13 Nq15
  have r15 : own_R p e below _ _ T15 (mkF m 51 #[.val (.int pa), .val (.int pb), .val (.int p1), .val (.int p2), .val (.int pk), .val (.int pf), .val (.ref b2), .unset, .unset, .unset, .unset, .unset, .unset, .unset, .unset, .unset] [(.ref b_15), (.int (2 : Int32)), (.ref b2)]) := r14.trans fun z_ kt => st15 _ kt
  have ne_b2_b_15 : b2 ≠ b_15 := Nat.ne_of_lt (Nat.lt_of_lt_of_le V13.lt p15_0)
  have f16 := ((f10.keep Kq9).wr W13)
  have ne_b_4_b_15 : b_4 ≠ b_15 := Nat.ne_of_lt (Nat.lt_of_lt_of_le f16.lt p15_0)
  have f17 := (p9_1.wr W13)
  have ne_b_9_b_15 : b_9 ≠ b_15 := Nat.ne_of_lt (Nat.lt_of_lt_of_le f17.lt p15_0)
  have g_b_15 : n0 ≤ b_15 := Nat.le_trans (own_old_size O13) p15_0
  have O15 := O13.keep Kq15 all0
  have f18 := (V13.keep Kq15 nin0)
  obtain ⟨cl19, Ar19, q19, S19, M19, H19, G19⟩ := id f18
  have hin19 : ¬ ((2 : Int32) < 0 ∨ cl19.slots.size ≤ ((2 : Int32)).toNatClampNeg) := inb_of S19 ⟨by decide, by decide⟩
  obtain ⟨T20, h20, X20, e20, W20, st20⟩ := stR X15 hx hZ e15 Ar19 (j := (2 : Int32)) hin19 rfl (Sto.ofV Ar19 q19 Ov2 (Ins.self p15_1)) (g := (mkF m 51 #[.val (.int pa), .val (.int pb), .val (.int p1), .val (.int p2), .val (.int pk), .val (.int pf), .val (.ref b2), .unset, .unset, .unset, .unset, .unset, .unset, .unset, .unset, .unset] [(.ref b_15), (.int (2 : Int32)), (.ref b2)])) rfl rfl (hb hby at_51)
  have r20 : own_R p e below _ _ T20 (mkF m 52 #[.val (.int pa), .val (.int pb), .val (.int p1), .val (.int p2), .val (.int pk), .val (.int pf), .val (.ref b2), .unset, .unset, .unset, .unset, .unset, .unset, .unset, .unset, .unset] []) := r15.trans fun z_ kt => st20 _ kt
  have N20 := Fr.snoc X20 N15 g_b2
  have O20 := O15.wr W20 g_b2
  have V20 : Arv Z h20 b2 k2 (.object "java/lang/String") (6 : Int32) [(.ref b_4), (.ref b_9), (.ref b_15), .null, .null, .null] .null := Arv.set Ar19 q19 S19 M19 H19 G19 rfl W20 2 rfl (Nat.le_of_ble_eq_true rfl)
  have r21 : own_R p e below _ _ T20 (mkF m 61 #[.val (.int pa), .val (.int pb), .val (.int p1), .val (.int p2), .val (.int pk), .val (.int pf), .val (.ref b2), .unset, .unset, .unset, .unset, .unset, .unset, .unset, .unset, .unset] [(.int ((pb &&& (255 : Int32)).toUInt32.toUInt16.toUInt32.toInt32)), (.int (3 : Int32)), (.ref b2)]) := r20.trans fun z_ kt => by
    refine XS.aload X20.here hx rfl (hb hby at_52) rfl rfl ?_
    refine XS.iconst X20.here hx rfl (hb hby at_54) ?_
    refine XS.iloadN X20.here hx rfl (hb hby at_55) rfl ?_
    refine XS.sipush X20.here hx rfl (hb hby at_56) ?_
    refine XS.iand X20.here hx rfl (hb hby at_59) rfl ?_
    refine XS.i2c X20.here hx rfl (hb hby at_60) rfl ?_
    exact kt
  obtain ⟨_, _, ⟨T22, L22, cc22, n22⟩, -, X22, ⟨Lc22, hQ22, l22, y22, z22⟩, st22⟩ := Jvm.LawKit.callS X20 hx (y := (⟨"java/lang/String", "valueOf", "(C)Ljava/lang/String;"⟩ : MethodName)) hown (mvT hZ (hw _ (own_g (i := 2) rfl))) (mvT hZ (hw _ (own_g (i := 3) rfl))) (mvT hZ (hw _ (own_g (i := 4) rfl))) (mvT hZ (hw _ (own_g (i := 5) rfl))) (by decide) (backOf (W := 2) (rm_valueOf l Z a0 hw [] (((pb &&& (255 : Int32)).toUInt32.toUInt16.toUInt32.toInt32)) (pcs) h20 n0 O20 (S_String_COMPACT_STRINGS) (hcs) (own_byte _)) hZ (hw _ (own_g (i := 5) rfl)) (hw _ (own_g (i := 4) rfl)) (by decide) (by decide)) (g := (mkF m 61 #[.val (.int pa), .val (.int pb), .val (.int p1), .val (.int p2), .val (.int pk), .val (.int pf), .val (.ref b2), .unset, .unset, .unset, .unset, .unset, .unset, .unset, .unset, .unset] [(.int ((pb &&& (255 : Int32)).toUInt32.toUInt16.toUInt32.toInt32)), (.int (3 : Int32)), (.ref b2)])) rfl (by rw [hml]; rfl) (argsL := [(.int ((pb &&& (255 : Int32)).toUInt32.toUInt16.toUInt32.toInt32))]) (rest := [(.int (3 : Int32)), (.ref b2)]) (lenOf pd_20 rfl) rfl (by show 2 * 0 + _ ≤ _; exact Nat.le_of_eq rfl) (hb hby at_61) (fun _ _ => ⟨rfl, e20, (by decide : 7 + 2 ≤ _), (by decide : 21 + 5 ≤ _)⟩)
  dsimp only [Pt.U, Pt.locs, Pt.cells, Pt.slots] at X22 l22 y22 z22 st22 hQ22
  subst l22 y22 z22
  obtain ⟨h22, e22⟩ : ∃ z, T22.heap = z := ⟨_, rfl⟩
  rw [e22] at hQ22
  obtain ⟨b_22, rfl, Nq22, Kq22, p22_0, p22_1⟩ := hQ22
  have N22 := Fr.app N20 Nq22
  have r22 : own_R p e below _ _ T22 (mkF m 64 #[.val (.int pa), .val (.int pb), .val (.int p1), .val (.int p2), .val (.int pk), .val (.int pf), .val (.ref b2), .unset, .unset, .unset, .unset, .unset, .unset, .unset, .unset, .unset] [(.ref b_22), (.int (3 : Int32)), (.ref b2)]) := r21.trans fun z_ kt => st22 _ kt
  have ne_b2_b_22 : b2 ≠ b_22 := Nat.ne_of_lt (Nat.lt_of_lt_of_le V20.lt p22_0)
  have f23 := ((f16.keep Kq15).wr W20)
  have ne_b_4_b_22 : b_4 ≠ b_22 := Nat.ne_of_lt (Nat.lt_of_lt_of_le f23.lt p22_0)
  have f24 := ((f17.keep Kq15).wr W20)
  have ne_b_9_b_22 : b_9 ≠ b_22 := Nat.ne_of_lt (Nat.lt_of_lt_of_le f24.lt p22_0)
  have f25 := (p15_1.wr W20)
  have ne_b_15_b_22 : b_15 ≠ b_22 := Nat.ne_of_lt (Nat.lt_of_lt_of_le f25.lt p22_0)
  have g_b_22 : n0 ≤ b_22 := Nat.le_trans (own_old_size O20) p22_0
  have O22 := O20.keep Kq22 all0
  have f26 := (V20.keep Kq22 nin0)
  obtain ⟨cl27, Ar27, q27, S27, M27, H27, G27⟩ := id f26
  have hin27 : ¬ ((3 : Int32) < 0 ∨ cl27.slots.size ≤ ((3 : Int32)).toNatClampNeg) := inb_of S27 ⟨by decide, by decide⟩
  obtain ⟨T28, h28, X28, e28, W28, st28⟩ := stR X22 hx hZ e22 Ar27 (j := (3 : Int32)) hin27 rfl (Sto.ofV Ar27 q27 Ov2 (Ins.self p22_1)) (g := (mkF m 64 #[.val (.int pa), .val (.int pb), .val (.int p1), .val (.int p2), .val (.int pk), .val (.int pf), .val (.ref b2), .unset, .unset, .unset, .unset, .unset, .unset, .unset, .unset, .unset] [(.ref b_22), (.int (3 : Int32)), (.ref b2)])) rfl rfl (hb hby at_64)
  have r28 : own_R p e below _ _ T28 (mkF m 65 #[.val (.int pa), .val (.int pb), .val (.int p1), .val (.int p2), .val (.int pk), .val (.int pf), .val (.ref b2), .unset, .unset, .unset, .unset, .unset, .unset, .unset, .unset, .unset] []) := r22.trans fun z_ kt => st28 _ kt
  have N28 := Fr.snoc X28 N22 g_b2
  have O28 := O22.wr W28 g_b2
  have V28 : Arv Z h28 b2 k2 (.object "java/lang/String") (6 : Int32) [(.ref b_4), (.ref b_9), (.ref b_15), (.ref b_22), .null, .null] .null := Arv.set Ar27 q27 S27 M27 H27 G27 rfl W28 3 rfl (Nat.le_of_ble_eq_true rfl)
  have r29 : own_R p e below _ _ T28 (mkF m 77 #[.val (.int pa), .val (.int pb), .val (.int p1), .val (.int p2), .val (.int pk), .val (.int pf), .val (.ref b2), .unset, .unset, .unset, .unset, .unset, .unset, .unset, .unset, .unset] [(.int ((((pb.toUInt32 >>> ((8 : Int32) &&& 31).toUInt32).toInt32) &&& (255 : Int32)).toUInt32.toUInt16.toUInt32.toInt32)), (.int (4 : Int32)), (.ref b2)]) := r28.trans fun z_ kt => by
    refine XS.aload X28.here hx rfl (hb hby at_65) rfl rfl ?_
    refine XS.iconst X28.here hx rfl (hb hby at_67) ?_
    refine XS.iloadN X28.here hx rfl (hb hby at_68) rfl ?_
    refine XS.bipush X28.here hx rfl (hb hby at_69) ?_
    refine XS.iushr X28.here hx rfl (hb hby at_71) rfl ?_
    refine XS.sipush X28.here hx rfl (hb hby at_72) ?_
    refine XS.iand X28.here hx rfl (hb hby at_75) rfl ?_
    refine XS.i2c X28.here hx rfl (hb hby at_76) rfl ?_
    exact kt
  obtain ⟨_, _, ⟨T30, L30, cc30, n30⟩, -, X30, ⟨Lc30, hQ30, l30, y30, z30⟩, st30⟩ := Jvm.LawKit.callS X28 hx (y := (⟨"java/lang/String", "valueOf", "(C)Ljava/lang/String;"⟩ : MethodName)) hown (mvT hZ (hw _ (own_g (i := 2) rfl))) (mvT hZ (hw _ (own_g (i := 3) rfl))) (mvT hZ (hw _ (own_g (i := 4) rfl))) (mvT hZ (hw _ (own_g (i := 5) rfl))) (by decide) (backOf (W := 2) (rm_valueOf l Z a0 hw [] (((((pb.toUInt32 >>> ((8 : Int32) &&& 31).toUInt32).toInt32) &&& (255 : Int32)).toUInt32.toUInt16.toUInt32.toInt32)) (pcs) h28 n0 O28 (S_String_COMPACT_STRINGS) (hcs) (own_byte _)) hZ (hw _ (own_g (i := 5) rfl)) (hw _ (own_g (i := 4) rfl)) (by decide) (by decide)) (g := (mkF m 77 #[.val (.int pa), .val (.int pb), .val (.int p1), .val (.int p2), .val (.int pk), .val (.int pf), .val (.ref b2), .unset, .unset, .unset, .unset, .unset, .unset, .unset, .unset, .unset] [(.int ((((pb.toUInt32 >>> ((8 : Int32) &&& 31).toUInt32).toInt32) &&& (255 : Int32)).toUInt32.toUInt16.toUInt32.toInt32)), (.int (4 : Int32)), (.ref b2)])) rfl (by rw [hml]; rfl) (argsL := [(.int ((((pb.toUInt32 >>> ((8 : Int32) &&& 31).toUInt32).toInt32) &&& (255 : Int32)).toUInt32.toUInt16.toUInt32.toInt32))]) (rest := [(.int (4 : Int32)), (.ref b2)]) (lenOf pd_20 rfl) rfl (by show 2 * 0 + _ ≤ _; exact Nat.le_of_eq rfl) (hb hby at_77) (fun _ _ => ⟨rfl, e28, (by decide : 9 + 2 ≤ _), (by decide : 26 + 5 ≤ _)⟩)
  dsimp only [Pt.U, Pt.locs, Pt.cells, Pt.slots] at X30 l30 y30 z30 st30 hQ30
  subst l30 y30 z30
  obtain ⟨h30, e30⟩ : ∃ z, T30.heap = z := ⟨_, rfl⟩
  rw [e30] at hQ30
  obtain ⟨b_30, rfl, Nq30, Kq30, p30_0, p30_1⟩ := hQ30
  have N30 := Fr.app N28 Nq30
  have r30 : own_R p e below _ _ T30 (mkF m 80 #[.val (.int pa), .val (.int pb), .val (.int p1), .val (.int p2), .val (.int pk), .val (.int pf), .val (.ref b2), .unset, .unset, .unset, .unset, .unset, .unset, .unset, .unset, .unset] [(.ref b_30), (.int (4 : Int32)), (.ref b2)]) := r29.trans fun z_ kt => st30 _ kt
  have ne_b2_b_30 : b2 ≠ b_30 := Nat.ne_of_lt (Nat.lt_of_lt_of_le V28.lt p30_0)
  have f31 := ((f23.keep Kq22).wr W28)
  have ne_b_4_b_30 : b_4 ≠ b_30 := Nat.ne_of_lt (Nat.lt_of_lt_of_le f31.lt p30_0)
  have f32 := ((f24.keep Kq22).wr W28)
  have ne_b_9_b_30 : b_9 ≠ b_30 := Nat.ne_of_lt (Nat.lt_of_lt_of_le f32.lt p30_0)
  have f33 := ((f25.keep Kq22).wr W28)
  have ne_b_15_b_30 : b_15 ≠ b_30 := Nat.ne_of_lt (Nat.lt_of_lt_of_le f33.lt p30_0)
  have f34 := (p22_1.wr W28)
  have ne_b_22_b_30 : b_22 ≠ b_30 := Nat.ne_of_lt (Nat.lt_of_lt_of_le f34.lt p30_0)
  have g_b_30 : n0 ≤ b_30 := Nat.le_trans (own_old_size O28) p30_0
  have O30 := O28.keep Kq30 all0
  have f35 := (V28.keep Kq30 nin0)
  obtain ⟨cl36, Ar36, q36, S36, M36, H36, G36⟩ := id f35
  have hin36 : ¬ ((4 : Int32) < 0 ∨ cl36.slots.size ≤ ((4 : Int32)).toNatClampNeg) := inb_of S36 ⟨by decide, by decide⟩
  obtain ⟨T37, h37, X37, e37, W37, st37⟩ := stR X30 hx hZ e30 Ar36 (j := (4 : Int32)) hin36 rfl (Sto.ofV Ar36 q36 Ov2 (Ins.self p30_1)) (g := (mkF m 80 #[.val (.int pa), .val (.int pb), .val (.int p1), .val (.int p2), .val (.int pk), .val (.int pf), .val (.ref b2), .unset, .unset, .unset, .unset, .unset, .unset, .unset, .unset, .unset] [(.ref b_30), (.int (4 : Int32)), (.ref b2)])) rfl rfl (hb hby at_80)
  have r37 : own_R p e below _ _ T37 (mkF m 81 #[.val (.int pa), .val (.int pb), .val (.int p1), .val (.int p2), .val (.int pk), .val (.int pf), .val (.ref b2), .unset, .unset, .unset, .unset, .unset, .unset, .unset, .unset, .unset] []) := r30.trans fun z_ kt => st37 _ kt
  have N37 := Fr.snoc X37 N30 g_b2
  have O37 := O30.wr W37 g_b2
  have V37 : Arv Z h37 b2 k2 (.object "java/lang/String") (6 : Int32) [(.ref b_4), (.ref b_9), (.ref b_15), (.ref b_22), (.ref b_30), .null] .null := Arv.set Ar36 q36 S36 M36 H36 G36 rfl W37 4 rfl (Nat.le_of_ble_eq_true rfl)
  have r38 : own_R p e below _ _ T37 (mkF m 93 #[.val (.int pa), .val (.int pb), .val (.int p1), .val (.int p2), .val (.int pk), .val (.int pf), .val (.ref b2), .unset, .unset, .unset, .unset, .unset, .unset, .unset, .unset, .unset] [(.int ((((pb.toUInt32 >>> ((16 : Int32) &&& 31).toUInt32).toInt32) &&& (255 : Int32)).toUInt32.toUInt16.toUInt32.toInt32)), (.int (5 : Int32)), (.ref b2)]) := r37.trans fun z_ kt => by
    refine XS.aload X37.here hx rfl (hb hby at_81) rfl rfl ?_
    refine XS.iconst X37.here hx rfl (hb hby at_83) ?_
    refine XS.iloadN X37.here hx rfl (hb hby at_84) rfl ?_
    refine XS.bipush X37.here hx rfl (hb hby at_85) ?_
    refine XS.iushr X37.here hx rfl (hb hby at_87) rfl ?_
    refine XS.sipush X37.here hx rfl (hb hby at_88) ?_
    refine XS.iand X37.here hx rfl (hb hby at_91) rfl ?_
    refine XS.i2c X37.here hx rfl (hb hby at_92) rfl ?_
    exact kt
  obtain ⟨_, _, ⟨T39, L39, cc39, n39⟩, -, X39, ⟨Lc39, hQ39, l39, y39, z39⟩, st39⟩ := Jvm.LawKit.callS X37 hx (y := (⟨"java/lang/String", "valueOf", "(C)Ljava/lang/String;"⟩ : MethodName)) hown (mvT hZ (hw _ (own_g (i := 2) rfl))) (mvT hZ (hw _ (own_g (i := 3) rfl))) (mvT hZ (hw _ (own_g (i := 4) rfl))) (mvT hZ (hw _ (own_g (i := 5) rfl))) (by decide) (backOf (W := 2) (rm_valueOf l Z a0 hw [] (((((pb.toUInt32 >>> ((16 : Int32) &&& 31).toUInt32).toInt32) &&& (255 : Int32)).toUInt32.toUInt16.toUInt32.toInt32)) (pcs) h37 n0 O37 (S_String_COMPACT_STRINGS) (hcs) (own_byte _)) hZ (hw _ (own_g (i := 5) rfl)) (hw _ (own_g (i := 4) rfl)) (by decide) (by decide)) (g := (mkF m 93 #[.val (.int pa), .val (.int pb), .val (.int p1), .val (.int p2), .val (.int pk), .val (.int pf), .val (.ref b2), .unset, .unset, .unset, .unset, .unset, .unset, .unset, .unset, .unset] [(.int ((((pb.toUInt32 >>> ((16 : Int32) &&& 31).toUInt32).toInt32) &&& (255 : Int32)).toUInt32.toUInt16.toUInt32.toInt32)), (.int (5 : Int32)), (.ref b2)])) rfl (by rw [hml]; rfl) (argsL := [(.int ((((pb.toUInt32 >>> ((16 : Int32) &&& 31).toUInt32).toInt32) &&& (255 : Int32)).toUInt32.toUInt16.toUInt32.toInt32))]) (rest := [(.int (5 : Int32)), (.ref b2)]) (lenOf pd_20 rfl) rfl (by show 2 * 0 + _ ≤ _; exact Nat.le_of_eq rfl) (hb hby at_93) (fun _ _ => ⟨rfl, e37, (by decide : 11 + 2 ≤ _), (by decide : 31 + 5 ≤ _)⟩)
  dsimp only [Pt.U, Pt.locs, Pt.cells, Pt.slots] at X39 l39 y39 z39 st39 hQ39
  subst l39 y39 z39
  obtain ⟨h39, e39⟩ : ∃ z, T39.heap = z := ⟨_, rfl⟩
  rw [e39] at hQ39
  obtain ⟨b_39, rfl, Nq39, Kq39, p39_0, p39_1⟩ := hQ39
  have N39 := Fr.app N37 Nq39
  have r39 : own_R p e below _ _ T39 (mkF m 96 #[.val (.int pa), .val (.int pb), .val (.int p1), .val (.int p2), .val (.int pk), .val (.int pf), .val (.ref b2), .unset, .unset, .unset, .unset, .unset, .unset, .unset, .unset, .unset] [(.ref b_39), (.int (5 : Int32)), (.ref b2)]) := r38.trans fun z_ kt => st39 _ kt
  have ne_b2_b_39 : b2 ≠ b_39 := Nat.ne_of_lt (Nat.lt_of_lt_of_le V37.lt p39_0)
  have f40 := ((f31.keep Kq30).wr W37)
  have ne_b_4_b_39 : b_4 ≠ b_39 := Nat.ne_of_lt (Nat.lt_of_lt_of_le f40.lt p39_0)
  have f41 := ((f32.keep Kq30).wr W37)
  have ne_b_9_b_39 : b_9 ≠ b_39 := Nat.ne_of_lt (Nat.lt_of_lt_of_le f41.lt p39_0)
  have f42 := ((f33.keep Kq30).wr W37)
  have ne_b_15_b_39 : b_15 ≠ b_39 := Nat.ne_of_lt (Nat.lt_of_lt_of_le f42.lt p39_0)
  have f43 := ((f34.keep Kq30).wr W37)
  have ne_b_22_b_39 : b_22 ≠ b_39 := Nat.ne_of_lt (Nat.lt_of_lt_of_le f43.lt p39_0)
  have f44 := (p30_1.wr W37)
  have ne_b_30_b_39 : b_30 ≠ b_39 := Nat.ne_of_lt (Nat.lt_of_lt_of_le f44.lt p39_0)
  have g_b_39 : n0 ≤ b_39 := Nat.le_trans (own_old_size O37) p39_0
  have O39 := O37.keep Kq39 all0
  have f45 := (V37.keep Kq39 nin0)
  obtain ⟨cl46, Ar46, q46, S46, M46, H46, G46⟩ := id f45
  have hin46 : ¬ ((5 : Int32) < 0 ∨ cl46.slots.size ≤ ((5 : Int32)).toNatClampNeg) := inb_of S46 ⟨by decide, by decide⟩
  obtain ⟨T47, h47, X47, e47, W47, st47⟩ := stR X39 hx hZ e39 Ar46 (j := (5 : Int32)) hin46 rfl (Sto.ofV Ar46 q46 Ov2 (Ins.self p39_1)) (g := (mkF m 96 #[.val (.int pa), .val (.int pb), .val (.int p1), .val (.int p2), .val (.int pk), .val (.int pf), .val (.ref b2), .unset, .unset, .unset, .unset, .unset, .unset, .unset, .unset, .unset] [(.ref b_39), (.int (5 : Int32)), (.ref b2)])) rfl rfl (hb hby at_96)
  have r47 : own_R p e below _ _ T47 (mkF m 97 #[.val (.int pa), .val (.int pb), .val (.int p1), .val (.int p2), .val (.int pk), .val (.int pf), .val (.ref b2), .unset, .unset, .unset, .unset, .unset, .unset, .unset, .unset, .unset] []) := r39.trans fun z_ kt => st47 _ kt
  have N47 := Fr.snoc X47 N39 g_b2
  have O47 := O39.wr W47 g_b2
  have V47 : Arv Z h47 b2 k2 (.object "java/lang/String") (6 : Int32) [(.ref b_4), (.ref b_9), (.ref b_15), (.ref b_22), (.ref b_30), (.ref b_39)] .null := Arv.set Ar46 q46 S46 M46 H46 G46 rfl W47 5 rfl (Nat.le_of_ble_eq_true rfl)
  have r48 : own_R p e below _ _ T47 (mkF m 111 #[.val (.int pa), .val (.int pb), .val (.int p1), .val (.int p2), .val (.int pk), .val (.int pf), .val (.ref b2), .val (.int (pk &&& (3 : Int32))), .val (.int (((pk.toUInt32 >>> ((2 : Int32) &&& 31).toUInt32).toInt32) &&& (3 : Int32))), .unset, .unset, .unset, .unset, .unset, .unset, .unset] []) := r47.trans fun z_ kt => by
    refine XS.iload X47.here hx rfl (hb hby at_97) rfl ?_
    refine XS.iconst X47.here hx rfl (hb hby at_99) ?_
    refine XS.iand X47.here hx rfl (hb hby at_100) rfl ?_
    refine XS.istore X47.here hx rfl (hb hby at_101) rfl (l' := #[.val (.int pa), .val (.int pb), .val (.int p1), .val (.int p2), .val (.int pk), .val (.int pf), .val (.ref b2), .val (.int (pk &&& (3 : Int32))), .unset, .unset, .unset, .unset, .unset, .unset, .unset, .unset]) rfl ?_
    refine XS.iload X47.here hx rfl (hb hby at_103) rfl ?_
    refine XS.iconst X47.here hx rfl (hb hby at_105) ?_
    refine XS.iushr X47.here hx rfl (hb hby at_106) rfl ?_
    refine XS.iconst X47.here hx rfl (hb hby at_107) ?_
    refine XS.iand X47.here hx rfl (hb hby at_108) rfl ?_
    refine XS.istore X47.here hx rfl (hb hby at_109) rfl (l' := #[.val (.int pa), .val (.int pb), .val (.int p1), .val (.int p2), .val (.int pk), .val (.int pf), .val (.ref b2), .val (.int (pk &&& (3 : Int32))), .val (.int (((pk.toUInt32 >>> ((2 : Int32) &&& 31).toUInt32).toInt32) &&& (3 : Int32))), .unset, .unset, .unset, .unset, .unset, .unset, .unset]) rfl ?_
    exact kt
  obtain ⟨pn1, hq1⟩ : ∃ z, z = (pk &&& (3 : Int32)) := ⟨_, rfl⟩
  rw [← hq1] at r48
  obtain ⟨pn2, hq2⟩ : ∃ z, z = (((pk.toUInt32 >>> ((2 : Int32) &&& 31).toUInt32).toInt32) &&& (3 : Int32)) := ⟨_, rfl⟩
  rw [← hq2] at r48
  have hn1 := own_n4 hq1
  have hn2 := own_n4 hq2
  obtain ⟨T49, h49, X49, e49, E49, A49, D49, -, st49⟩ := newO X47 hx hZ hown (hw _ (own_g (i := 28) rfl)) (hw _ (own_g (i := 29) rfl)) (hw _ (own_g (i := 30) rfl)) e47 (g := (mkF m 111 #[.val (.int pa), .val (.int pb), .val (.int p1), .val (.int p2), .val (.int pk), .val (.int pf), .val (.ref b2), .val (.int pn1), .val (.int pn2), .unset, .unset, .unset, .unset, .unset, .unset, .unset] [])) rfl (hb hby at_111) (by decide) (by decide)
  obtain ⟨b49, g49⟩ : ∃ z, z = h47.size := ⟨_, rfl⟩
  rw [← g49] at A49 D49 st49
  have r49 : own_R p e below _ _ T49 (mkF m 114 #[.val (.int pa), .val (.int pb), .val (.int p1), .val (.int p2), .val (.int pk), .val (.int pf), .val (.ref b2), .val (.int pn1), .val (.int pn2), .unset, .unset, .unset, .unset, .unset, .unset, .unset] [(.ref b49)]) := r48.trans fun z_ kt => st49 _ kt
  have ne_b2_b49 : b2 ≠ b49 := Nat.ne_of_lt (Nat.lt_of_lt_of_le V47.lt (Nat.le_of_eq g49.symm))
  have f50 := ((f40.keep Kq39).wr W47)
  have ne_b_4_b49 : b_4 ≠ b49 := Nat.ne_of_lt (Nat.lt_of_lt_of_le f50.lt (Nat.le_of_eq g49.symm))
  have f51 := ((f41.keep Kq39).wr W47)
  have ne_b_9_b49 : b_9 ≠ b49 := Nat.ne_of_lt (Nat.lt_of_lt_of_le f51.lt (Nat.le_of_eq g49.symm))
  have f52 := ((f42.keep Kq39).wr W47)
  have ne_b_15_b49 : b_15 ≠ b49 := Nat.ne_of_lt (Nat.lt_of_lt_of_le f52.lt (Nat.le_of_eq g49.symm))
  have f53 := ((f43.keep Kq39).wr W47)
  have ne_b_22_b49 : b_22 ≠ b49 := Nat.ne_of_lt (Nat.lt_of_lt_of_le f53.lt (Nat.le_of_eq g49.symm))
  have f54 := ((f44.keep Kq39).wr W47)
  have ne_b_30_b49 : b_30 ≠ b49 := Nat.ne_of_lt (Nat.lt_of_lt_of_le f54.lt (Nat.le_of_eq g49.symm))
  have f55 := (p39_1.wr W47)
  have ne_b_39_b49 : b_39 ≠ b49 := Nat.ne_of_lt (Nat.lt_of_lt_of_le f55.lt (Nat.le_of_eq g49.symm))
  have g_b49 : n0 ≤ b49 := Nat.le_trans (own_old_size O47) (Nat.le_of_eq g49.symm)
  have O49 := O47.ext E49
  have F49_48 := D49 (Or.inl (hw _ (own_g (i := 48) rfl))) (ty := .int) (by decide)
  have F49_51 := D49 (Or.inl (hw _ (own_g (i := 51) rfl))) (ty := (.array (.object "java/lang/Object"))) (by decide)
  have F49_104 := D49 (Or.inl (hw _ (own_g (i := 104) rfl))) (ty := .int) (by decide)
  have r56 : own_R p e below _ _ T49 (mkF m 115 #[.val (.int pa), .val (.int pb), .val (.int p1), .val (.int p2), .val (.int pk), .val (.int pf), .val (.ref b2), .val (.int pn1), .val (.int pn2), .unset, .unset, .unset, .unset, .unset, .unset, .unset] [(.ref b49), (.ref b49)]) := r49.trans fun z_ kt => by
    refine XS.dup X49.here hx rfl (hb hby at_114) rfl rfl ?_
    exact kt
  obtain ⟨_, _, ⟨T57, L57, cc57, n57⟩, -, X57, ⟨Lc57, hQ57, l57, y57, z57⟩, st57⟩ := X49.specialBack hx (y := (⟨"java/util/ArrayList", "<init>", "()V"⟩ : MethodName)) rfl hown (mvT hZ (hw _ (own_g (i := 31) rfl))) (mvT hZ (hw _ (own_g (i := 32) rfl))) (mvT hZ (hw _ (own_g (i := 33) rfl))) (by decide) (backOf (W := 1) (rm_alInit0 l Z a0 hw [] (b49) ((.int (0 : Int32))) (.null) (s_DE) h49 n0 O49 (A49) (g_b49) (F49_48) (F49_51) (F49_104) (S_ArrayList_DEFAULTCAPACITY_EMPTY_ELEMENTDATA)) hZ (hw _ (own_g (i := 33) rfl)) (hw _ (own_g (i := 30) rfl)) (by decide) (by decide)) (g := (mkF m 115 #[.val (.int pa), .val (.int pb), .val (.int p1), .val (.int p2), .val (.int pk), .val (.int pf), .val (.ref b2), .val (.int pn1), .val (.int pn2), .unset, .unset, .unset, .unset, .unset, .unset, .unset] [(.ref b49), (.ref b49)])) rfl (by rw [hml]; rfl) (Steps.refl _) (a := b49) (argsL := []) (rest := [(.ref b49)]) (lenOf pd_3 rfl) rfl (by show 2 * 0 + _ ≤ _; exact Nat.le_of_eq rfl) (hb hby at_115) (fun _ _ => ⟨rfl, e49, (by decide : 14 + 0 ≤ _), (by decide : 39 + 0 ≤ _)⟩)
  dsimp only [Pt.U, Pt.locs, Pt.cells, Pt.slots] at X57 l57 y57 z57 st57 hQ57
  subst l57 y57 z57
  obtain ⟨h57, e57⟩ : ∃ z, T57.heap = z := ⟨_, rfl⟩
  rw [e57] at hQ57
  obtain ⟨rfl, Nq57, Kq57, p57_0, p57_1, p57_2⟩ := hQ57
  have N57 := Fr.app N47 Nq57
  have r57 : own_R p e below _ _ T57 (mkF m 118 #[.val (.int pa), .val (.int pb), .val (.int p1), .val (.int p2), .val (.int pk), .val (.int pf), .val (.ref b2), .val (.int pn1), .val (.int pn2), .unset, .unset, .unset, .unset, .unset, .unset, .unset] [(.ref b49)]) := r56.trans fun z_ kt => st57.trans kt
  have O57 := O49.keep Kq57 (allS g_b49 all0)
  have f58 := ((V47.ext E49).keep Kq57 (ninS ne_b2_b49 nin0))
  have r59 : own_R p e below _ _ T57 (mkF m 120 #[.val (.int pa), .val (.int pb), .val (.int p1), .val (.int p2), .val (.int pk), .val (.int pf), .val (.ref b2), .val (.int pn1), .val (.int pn2), .val (.ref b49), .unset, .unset, .unset, .unset, .unset, .unset] []) := r57.trans fun z_ kt => by
    refine XS.astore X57.here hx rfl (hb hby at_118) rfl rfl (l' := #[.val (.int pa), .val (.int pb), .val (.int p1), .val (.int p2), .val (.int pk), .val (.int pf), .val (.ref b2), .val (.int pn1), .val (.int pn2), .val (.ref b49), .unset, .unset, .unset, .unset, .unset, .unset]) rfl ?_
    exact kt
  obtain ⟨arr_A, ka_A, z_A, pm_A, ys_A, T60, h60, L60, X60, e60, N60, Kq60, p60_0, p60_1, p60_2, p60_3, p60_4, p60_5, r60⟩ : ∃ (arr_A : Addr) (ka_A : ClassId) (z_A : Int32) (pm_A : Int32) (ys_A : List Addr) (T' : State) (h' : Heap) (locs' : List Loc), Stand p l e room_1 s m #[(.int pa), (.int pb), (.int p1), (.int p2), (.int pk), (.int pf)] below meth c T' locs' 15 49 ∧ T'.heap = h' ∧ Fr n0 locs' ∧ Keep h57 h' [b49] ∧ (Fld Z h' b49 "java/util/ArrayList" "elementData" "[Ljava/lang/Object;" (.ref arr_A)) ∧ (Fld Z h' b49 "java/util/AbstractList" "modCount" "I" (.int pm_A)) ∧ (Fld Z h' b49 "java/util/ArrayList" "size" "I" (.int pn1)) ∧ (Arv Z h' arr_A ka_A (.object "java/lang/Object") z_A (ys_A.map Value.ref) .null) ∧ (own_LL pn1 ys_A [b_4, b_9, b_15]) ∧ (pn1 = (0 : Int32) ∨ (3 : Int32) < z_A) ∧ own_R p e below s₁ (mkF m 0 #[.val (.int pa), .val (.int pb), .val (.int p1), .val (.int p2), .val (.int pk), .val (.int pf), .unset, .unset, .unset, .unset, .unset, .unset, .unset, .unset, .unset, .unset] []) T' (mkF m 167 #[.val (.int pa), .val (.int pb), .val (.int p1), .val (.int p2), .val (.int pk), .val (.int pf), .val (.ref b2), .val (.int pn1), .val (.int pn2), .val (.ref b49), .unset, .unset, .unset, .unset, .unset, .unset] []) := by
    have Kb60 : Keep h57 h57 [b49] := Keep.refl _ _
    have r61 : own_R p e below _ _ T57 (mkF m 122 #[.val (.int pa), .val (.int pb), .val (.int p1), .val (.int p2), .val (.int pk), .val (.int pf), .val (.ref b2), .val (.int pn1), .val (.int pn2), .val (.ref b49), .unset, .unset, .unset, .unset, .unset, .unset] [(.int pn1)]) := r59.trans fun z_ kt => by
      refine XS.iload X57.here hx rfl (hb hby at_120) rfl ?_
      exact kt
    by_cases hc122_62 : (0 : Int32) < pn1
    · skip
      have r64 : own_R p e below _ _ T57 (mkF m 130 #[.val (.int pa), .val (.int pb), .val (.int p1), .val (.int p2), .val (.int pk), .val (.int pf), .val (.ref b2), .val (.int pn1), .val (.int pn2), .val (.ref b49), .unset, .unset, .unset, .unset, .unset, .unset] [(.int (0 : Int32)), (.ref b2), (.ref b49)]) := r61.trans fun z_ kt => by
        refine XS.ifNo X57.here hx rfl (hb hby at_122) rfl ((if0 _ _).trans (tlt (hc122_62 : (0 : Int32) < pn1)).2.2.2) ?_
        refine XS.aload X57.here hx rfl (hb hby at_125) rfl rfl ?_
        refine XS.aload X57.here hx rfl (hb hby at_127) rfl rfl ?_
        refine XS.iconst X57.here hx rfl (hb hby at_129) ?_
        exact kt
      obtain ⟨cl63, Ar63, q63, S63, M63, H63, G63⟩ := id f58
      have hin63 : ¬ ((0 : Int32) < 0 ∨ cl63.slots.size ≤ ((0 : Int32)).toNatClampNeg) := inb_of S63 ⟨by decide, by decide⟩
      have hat63 : cl63.slots[((0 : Int32)).toNatClampNeg]? = some (.ref b_4) := Has.at H63 hin63 rfl
      have f65 := (A49.keep Kq57)
      have r66 : own_R p e below _ _ T57 (mkF m 131 #[.val (.int pa), .val (.int pb), .val (.int p1), .val (.int p2), .val (.int pk), .val (.int pf), .val (.ref b2), .val (.int pn1), .val (.int pn2), .val (.ref b49), .unset, .unset, .unset, .unset, .unset, .unset] [(.ref b_4), (.ref b49)]) := r64.trans fun z_ kt => by
        refine X57.aaload hx (j := (0 : Int32)) (v := (.ref b_4)) (by rw [e57]; exact Ar63.1) (State.isArrayOf_alike hZ.alike Ar63.2.1) rfl Ar63.2.2 hin63 hat63 (g := (mkF m 130 #[.val (.int pa), .val (.int pb), .val (.int p1), .val (.int p2), .val (.int pk), .val (.int pf), .val (.ref b2), .val (.int pn1), .val (.int pn2), .val (.ref b49), .unset, .unset, .unset, .unset, .unset, .unset] [(.int (0 : Int32)), (.ref b2), (.ref b49)])) rfl rfl (hb hby at_130) _ ?_
        exact kt
      have f67 := ((f50.ext E49).keep Kq57)
      obtain ⟨cq68, kq68, q68a, q68b, q68c⟩ := isOf hZ e57 f65
      obtain ⟨_, _, ⟨T68, L68, cc68, n68⟩, -, X68, ⟨Lc68, hQ68, l68, y68, z68⟩, st68⟩ := X57.virtualBack hx (y := (⟨"java/util/ArrayList", "add", "(Ljava/lang/Object;)Z"⟩ : MethodName)) (z := (⟨"java/util/ArrayList", "add", "(Ljava/lang/Object;)Z"⟩ : MethodName)) hown (mvT hZ (hw _ (own_g (i := 151) rfl))) (mvT hZ (hw _ (own_g (i := 152) rfl))) (notFace_of_selects (args := #[]) (mvT hZ (hw _ (own_g (i := 154) rfl)))) (mvT hZ (hw _ (own_g (i := 154) rfl))) (mvT hZ (hw _ (own_g (i := 153) rfl))) (by decide) (backOf (W := 0) (rm_addG l Z a0 hw [] (b49) (b_4) (s_DE) (kd) ((0 : Int32)) h57 n0 O57 (f65) (g_b49) (p57_1) (p57_2) (p57_0) (S_ArrayList_DEFAULTCAPACITY_EMPTY_ELEMENTDATA) (OV_s_DE) (f67)) hZ (hw _ (own_g (i := 155) rfl)) (hw _ (own_g (i := 30) rfl)) (by decide) (by decide)) q68a q68c (g := (mkF m 131 #[.val (.int pa), .val (.int pb), .val (.int p1), .val (.int p2), .val (.int pk), .val (.int pf), .val (.ref b2), .val (.int pn1), .val (.int pn2), .val (.ref b49), .unset, .unset, .unset, .unset, .unset, .unset] [(.ref b_4), (.ref b49)])) rfl (by rw [hml]; rfl) (Steps.refl _) (argsL := [(.ref b_4)]) (rest := []) (lenOf pd_15 rfl) rfl (by show 2 * 0 + _ ≤ _; exact Nat.le_of_eq rfl) (hb hby at_131) (fun _ _ => ⟨rfl, e57, (by decide : 14 + 1 ≤ _), (by decide : 39 + 10 ≤ _)⟩)
      dsimp only [Pt.U, Pt.locs, Pt.cells, Pt.slots] at X68 l68 y68 z68 st68 hQ68
      subst l68 y68 z68
      obtain ⟨h68, e68⟩ : ∃ z, T68.heap = z := ⟨_, rfl⟩
      rw [e68] at hQ68
      obtain ⟨arr_68, ka_68, rfl, Nq68, Kq68, p68_0, p68_1, p68_2, p68_3, p68_4, p68_5⟩ := hQ68
      have N68 := Fr.app N57 Nq68
      have r68 : own_R p e below _ _ T68 (mkF m 134 #[.val (.int pa), .val (.int pb), .val (.int p1), .val (.int p2), .val (.int pk), .val (.int pf), .val (.ref b2), .val (.int pn1), .val (.int pn2), .val (.ref b49), .unset, .unset, .unset, .unset, .unset, .unset] [(.int (1 : Int32))]) := r66.trans fun z_ kt => st68.trans kt
      have ne_b2_arr_68 : b2 ≠ arr_68 := Nat.ne_of_lt (Nat.lt_of_lt_of_le f58.lt p68_0)
      have ne_b_4_arr_68 : b_4 ≠ arr_68 := Nat.ne_of_lt (Nat.lt_of_lt_of_le f67.lt p68_0)
      have f69 := ((f51.ext E49).keep Kq57)
      have ne_b_9_arr_68 : b_9 ≠ arr_68 := Nat.ne_of_lt (Nat.lt_of_lt_of_le f69.lt p68_0)
      have f70 := ((f52.ext E49).keep Kq57)
      have ne_b_15_arr_68 : b_15 ≠ arr_68 := Nat.ne_of_lt (Nat.lt_of_lt_of_le f70.lt p68_0)
      have f71 := ((f53.ext E49).keep Kq57)
      have ne_b_22_arr_68 : b_22 ≠ arr_68 := Nat.ne_of_lt (Nat.lt_of_lt_of_le f71.lt p68_0)
      have f72 := ((f54.ext E49).keep Kq57)
      have ne_b_30_arr_68 : b_30 ≠ arr_68 := Nat.ne_of_lt (Nat.lt_of_lt_of_le f72.lt p68_0)
      have f73 := ((f55.ext E49).keep Kq57)
      have ne_b_39_arr_68 : b_39 ≠ arr_68 := Nat.ne_of_lt (Nat.lt_of_lt_of_le f73.lt p68_0)
      have ne_b49_arr_68 : b49 ≠ arr_68 := Nat.ne_of_lt (Nat.lt_of_lt_of_le f65.lt p68_0)
      have g_arr_68 : n0 ≤ arr_68 := Nat.le_trans (own_old_size O57) p68_0
      have sz_arr_68 : h57.size ≤ arr_68 := Nat.le_trans Kb60.1 p68_0
      have O68 := O57.keep Kq68 (allS g_b49 all0)
      have K68 := Kb60.trans Kq68 (allS (Or.inl (List.mem_of_getElem? (i := 0) rfl)) all0)
      have r74 : own_R p e below _ _ T68 (mkF m 138 #[.val (.int pa), .val (.int pb), .val (.int p1), .val (.int p2), .val (.int pk), .val (.int pf), .val (.ref b2), .val (.int pn1), .val (.int pn2), .val (.ref b49), .unset, .unset, .unset, .unset, .unset, .unset] [(.int (1 : Int32)), (.int pn1)]) := r68.trans fun z_ kt => by
        refine XS.pop X68.here hx rfl (hb hby at_134) rfl rfl ?_
        refine XS.iload X68.here hx rfl (hb hby at_135) rfl ?_
        refine XS.iconst X68.here hx rfl (hb hby at_137) ?_
        exact kt
      by_cases hc138_75 : (1 : Int32) < pn1
      · skip
        have f76 := (f58.keep Kq68 (ninS ne_b2_b49 nin0))
        have r78 : own_R p e below _ _ T68 (mkF m 146 #[.val (.int pa), .val (.int pb), .val (.int p1), .val (.int p2), .val (.int pk), .val (.int pf), .val (.ref b2), .val (.int pn1), .val (.int pn2), .val (.ref b49), .unset, .unset, .unset, .unset, .unset, .unset] [(.int (1 : Int32)), (.ref b2), (.ref b49)]) := r74.trans fun z_ kt => by
          refine XS.icmpNo X68.here hx rfl (hb hby at_138) rfl (tlt (hc138_75 : (1 : Int32) < pn1)).2.2.2 ?_
          refine XS.aload X68.here hx rfl (hb hby at_141) rfl rfl ?_
          refine XS.aload X68.here hx rfl (hb hby at_143) rfl rfl ?_
          refine XS.iconst X68.here hx rfl (hb hby at_145) ?_
          exact kt
        obtain ⟨cl77, Ar77, q77, S77, M77, H77, G77⟩ := id f76
        have hin77 : ¬ ((1 : Int32) < 0 ∨ cl77.slots.size ≤ ((1 : Int32)).toNatClampNeg) := inb_of S77 ⟨by decide, by decide⟩
        have hat77 : cl77.slots[((1 : Int32)).toNatClampNeg]? = some (.ref b_9) := Has.at H77 hin77 rfl
        have f79 := (f65.keep Kq68)
        have r80 : own_R p e below _ _ T68 (mkF m 147 #[.val (.int pa), .val (.int pb), .val (.int p1), .val (.int p2), .val (.int pk), .val (.int pf), .val (.ref b2), .val (.int pn1), .val (.int pn2), .val (.ref b49), .unset, .unset, .unset, .unset, .unset, .unset] [(.ref b_9), (.ref b49)]) := r78.trans fun z_ kt => by
          refine X68.aaload hx (j := (1 : Int32)) (v := (.ref b_9)) (by rw [e68]; exact Ar77.1) (State.isArrayOf_alike hZ.alike Ar77.2.1) rfl Ar77.2.2 hin77 hat77 (g := (mkF m 146 #[.val (.int pa), .val (.int pb), .val (.int p1), .val (.int p2), .val (.int pk), .val (.int pf), .val (.ref b2), .val (.int pn1), .val (.int pn2), .val (.ref b49), .unset, .unset, .unset, .unset, .unset, .unset] [(.int (1 : Int32)), (.ref b2), (.ref b49)])) rfl rfl (hb hby at_146) _ ?_
          exact kt
        have f81 := (f69.keep Kq68)
        obtain ⟨cq82, kq82, q82a, q82b, q82c⟩ := isOf hZ e68 f79
        obtain ⟨_, _, ⟨T82, L82, cc82, n82⟩, -, X82, ⟨Lc82, hQ82, l82, y82, z82⟩, st82⟩ := X68.virtualBack hx (y := (⟨"java/util/ArrayList", "add", "(Ljava/lang/Object;)Z"⟩ : MethodName)) (z := (⟨"java/util/ArrayList", "add", "(Ljava/lang/Object;)Z"⟩ : MethodName)) hown (mvT hZ (hw _ (own_g (i := 151) rfl))) (mvT hZ (hw _ (own_g (i := 152) rfl))) (notFace_of_selects (args := #[]) (mvT hZ (hw _ (own_g (i := 154) rfl)))) (mvT hZ (hw _ (own_g (i := 154) rfl))) (mvT hZ (hw _ (own_g (i := 153) rfl))) (by decide) (backOf (W := 0) (rm_addN l Z a0 hw [] (b49) (b_9) (arr_68) ((1 : Int32)) (ka_68) ((10 : Int32)) ([(.ref b_4)]) (((0 : Int32) + (1 : Int32))) h68 n0 O68 (f79) (g_b49) (p68_1) (p68_2) (p68_5) (p68_3) (g_arr_68) (p68_4) (f81) (rfl) (by decide)) hZ (hw _ (own_g (i := 155) rfl)) (hw _ (own_g (i := 30) rfl)) (by decide) (by decide)) q82a q82c (g := (mkF m 147 #[.val (.int pa), .val (.int pb), .val (.int p1), .val (.int p2), .val (.int pk), .val (.int pf), .val (.ref b2), .val (.int pn1), .val (.int pn2), .val (.ref b49), .unset, .unset, .unset, .unset, .unset, .unset] [(.ref b_9), (.ref b49)])) rfl (by rw [hml]; rfl) (Steps.refl _) (argsL := [(.ref b_9)]) (rest := []) (lenOf pd_15 rfl) rfl (by show 2 * 0 + _ ≤ _; exact Nat.le_of_eq rfl) (hb hby at_147) (fun _ _ => ⟨rfl, e68, (by decide : 15 + 0 ≤ _), (by decide : 49 + 0 ≤ _)⟩)
        dsimp only [Pt.U, Pt.locs, Pt.cells, Pt.slots] at X82 l82 y82 z82 st82 hQ82
        subst l82 y82 z82
        obtain ⟨h82, e82⟩ : ∃ z, T82.heap = z := ⟨_, rfl⟩
        rw [e82] at hQ82
        obtain ⟨rfl, Nq82, Kq82, p82_0, p82_1, p82_2, p82_3⟩ := hQ82
        have N82 := Fr.app N68 Nq82
        have r82 : own_R p e below _ _ T82 (mkF m 150 #[.val (.int pa), .val (.int pb), .val (.int p1), .val (.int p2), .val (.int pk), .val (.int pf), .val (.ref b2), .val (.int pn1), .val (.int pn2), .val (.ref b49), .unset, .unset, .unset, .unset, .unset, .unset] [(.int (1 : Int32))]) := r80.trans fun z_ kt => st82.trans kt
        have O82 := O68.keep Kq82 (allS g_b49 (allS g_arr_68 all0))
        have K82 := K68.trans Kq82 (allS (Or.inl (List.mem_of_getElem? (i := 0) rfl)) (allS (Or.inr sz_arr_68) all0))
        have r83 : own_R p e below _ _ T82 (mkF m 154 #[.val (.int pa), .val (.int pb), .val (.int p1), .val (.int p2), .val (.int pk), .val (.int pf), .val (.ref b2), .val (.int pn1), .val (.int pn2), .val (.ref b49), .unset, .unset, .unset, .unset, .unset, .unset] [(.int (2 : Int32)), (.int pn1)]) := r82.trans fun z_ kt => by
          refine XS.pop X82.here hx rfl (hb hby at_150) rfl rfl ?_
          refine XS.iload X82.here hx rfl (hb hby at_151) rfl ?_
          refine XS.iconst X82.here hx rfl (hb hby at_153) ?_
          exact kt
        by_cases hc154_84 : (2 : Int32) < pn1
        · skip
          have f85 := (f76.keep Kq82 (ninS ne_b2_b49 (ninS ne_b2_arr_68 nin0)))
          have r87 : own_R p e below _ _ T82 (mkF m 162 #[.val (.int pa), .val (.int pb), .val (.int p1), .val (.int p2), .val (.int pk), .val (.int pf), .val (.ref b2), .val (.int pn1), .val (.int pn2), .val (.ref b49), .unset, .unset, .unset, .unset, .unset, .unset] [(.int (2 : Int32)), (.ref b2), (.ref b49)]) := r83.trans fun z_ kt => by
            refine XS.icmpNo X82.here hx rfl (hb hby at_154) rfl (tlt (hc154_84 : (2 : Int32) < pn1)).2.2.2 ?_
            refine XS.aload X82.here hx rfl (hb hby at_157) rfl rfl ?_
            refine XS.aload X82.here hx rfl (hb hby at_159) rfl rfl ?_
            refine XS.iconst X82.here hx rfl (hb hby at_161) ?_
            exact kt
          obtain ⟨cl86, Ar86, q86, S86, M86, H86, G86⟩ := id f85
          have hin86 : ¬ ((2 : Int32) < 0 ∨ cl86.slots.size ≤ ((2 : Int32)).toNatClampNeg) := inb_of S86 ⟨by decide, by decide⟩
          have hat86 : cl86.slots[((2 : Int32)).toNatClampNeg]? = some (.ref b_15) := Has.at H86 hin86 rfl
          have f88 := (f79.keep Kq82)
          have r89 : own_R p e below _ _ T82 (mkF m 163 #[.val (.int pa), .val (.int pb), .val (.int p1), .val (.int p2), .val (.int pk), .val (.int pf), .val (.ref b2), .val (.int pn1), .val (.int pn2), .val (.ref b49), .unset, .unset, .unset, .unset, .unset, .unset] [(.ref b_15), (.ref b49)]) := r87.trans fun z_ kt => by
            refine X82.aaload hx (j := (2 : Int32)) (v := (.ref b_15)) (by rw [e82]; exact Ar86.1) (State.isArrayOf_alike hZ.alike Ar86.2.1) rfl Ar86.2.2 hin86 hat86 (g := (mkF m 162 #[.val (.int pa), .val (.int pb), .val (.int p1), .val (.int p2), .val (.int pk), .val (.int pf), .val (.ref b2), .val (.int pn1), .val (.int pn2), .val (.ref b49), .unset, .unset, .unset, .unset, .unset, .unset] [(.int (2 : Int32)), (.ref b2), (.ref b49)])) rfl rfl (hb hby at_162) _ ?_
            exact kt
          have f90 := ((f70.keep Kq68).keep Kq82)
          obtain ⟨cq91, kq91, q91a, q91b, q91c⟩ := isOf hZ e82 f88
          obtain ⟨_, _, ⟨T91, L91, cc91, n91⟩, -, X91, ⟨Lc91, hQ91, l91, y91, z91⟩, st91⟩ := X82.virtualBack hx (y := (⟨"java/util/ArrayList", "add", "(Ljava/lang/Object;)Z"⟩ : MethodName)) (z := (⟨"java/util/ArrayList", "add", "(Ljava/lang/Object;)Z"⟩ : MethodName)) hown (mvT hZ (hw _ (own_g (i := 151) rfl))) (mvT hZ (hw _ (own_g (i := 152) rfl))) (notFace_of_selects (args := #[]) (mvT hZ (hw _ (own_g (i := 154) rfl)))) (mvT hZ (hw _ (own_g (i := 154) rfl))) (mvT hZ (hw _ (own_g (i := 153) rfl))) (by decide) (backOf (W := 0) (rm_addN l Z a0 hw [] (b49) (b_15) (arr_68) (((1 : Int32) + (1 : Int32))) (ka_68) ((10 : Int32)) (([(.ref b_4)] ++ [(.ref b_9)])) ((((0 : Int32) + (1 : Int32)) + (1 : Int32))) h82 n0 O82 (f88) (g_b49) (p82_0) (p82_1) (p82_3) (p82_2) (g_arr_68) (p68_4) (f90) (rfl) (by decide)) hZ (hw _ (own_g (i := 155) rfl)) (hw _ (own_g (i := 30) rfl)) (by decide) (by decide)) q91a q91c (g := (mkF m 163 #[.val (.int pa), .val (.int pb), .val (.int p1), .val (.int p2), .val (.int pk), .val (.int pf), .val (.ref b2), .val (.int pn1), .val (.int pn2), .val (.ref b49), .unset, .unset, .unset, .unset, .unset, .unset] [(.ref b_15), (.ref b49)])) rfl (by rw [hml]; rfl) (Steps.refl _) (argsL := [(.ref b_15)]) (rest := []) (lenOf pd_15 rfl) rfl (by show 2 * 0 + _ ≤ _; exact Nat.le_of_eq rfl) (hb hby at_163) (fun _ _ => ⟨rfl, e82, (by decide : 15 + 0 ≤ _), (by decide : 49 + 0 ≤ _)⟩)
          dsimp only [Pt.U, Pt.locs, Pt.cells, Pt.slots] at X91 l91 y91 z91 st91 hQ91
          subst l91 y91 z91
          obtain ⟨h91, e91⟩ : ∃ z, T91.heap = z := ⟨_, rfl⟩
          rw [e91] at hQ91
          obtain ⟨rfl, Nq91, Kq91, p91_0, p91_1, p91_2, p91_3⟩ := hQ91
          have N91 := Fr.app N82 Nq91
          have r91 : own_R p e below _ _ T91 (mkF m 166 #[.val (.int pa), .val (.int pb), .val (.int p1), .val (.int p2), .val (.int pk), .val (.int pf), .val (.ref b2), .val (.int pn1), .val (.int pn2), .val (.ref b49), .unset, .unset, .unset, .unset, .unset, .unset] [(.int (1 : Int32))]) := r89.trans fun z_ kt => st91.trans kt
          have O91 := O82.keep Kq91 (allS g_b49 (allS g_arr_68 all0))
          have K91 := K82.trans Kq91 (allS (Or.inl (List.mem_of_getElem? (i := 0) rfl)) (allS (Or.inr sz_arr_68) all0))
          have r92 : own_R p e below _ _ T91 (mkF m 167 #[.val (.int pa), .val (.int pb), .val (.int p1), .val (.int p2), .val (.int pk), .val (.int pf), .val (.ref b2), .val (.int pn1), .val (.int pn2), .val (.ref b49), .unset, .unset, .unset, .unset, .unset, .unset] []) := r91.trans fun z_ kt => by
            refine XS.pop X91.here hx rfl (hb hby at_166) rfl rfl ?_
            exact kt
          have hk := own_k3 hn1 hc122_62 hc138_75 hc154_84
          exact ⟨arr_68, ka_68, (10 : Int32), ((((0 : Int32) + (1 : Int32)) + (1 : Int32)) + (1 : Int32)), [b_4, b_9, b_15], T91, _, _, X91.more (by decide) (by decide), e91, N91, K91, p91_0, p91_3, (by rw [hk]; exact p91_1), p91_2, (by rw [hk]; exact ⟨by decide, by decide, rfl⟩), Or.inr (by decide), r92⟩
        · skip
          have r93 : own_R p e below _ _ T82 (mkF m 167 #[.val (.int pa), .val (.int pb), .val (.int p1), .val (.int p2), .val (.int pk), .val (.int pf), .val (.ref b2), .val (.int pn1), .val (.int pn2), .val (.ref b49), .unset, .unset, .unset, .unset, .unset, .unset] []) := r83.trans fun z_ kt => by
            refine XS.icmpYes X82.here hx rfl (pc0 := 154) (pc' := 167) rfl (hb hby at_154) rfl (flt (hc154_84 : ¬ ((2 : Int32) < pn1))).2.2.2 (by decide) (by decide) ?_
            exact kt
          have hk := own_k2 hn1 hc122_62 hc138_75 hc154_84
          exact ⟨arr_68, ka_68, (10 : Int32), (((0 : Int32) + (1 : Int32)) + (1 : Int32)), [b_4, b_9], T82, _, _, X82.more (by decide) (by decide), e82, N82, K82, p82_0, p82_3, (by rw [hk]; exact p82_1), p82_2, (by rw [hk]; exact ⟨by decide, by decide, rfl⟩), Or.inr (by decide), r93⟩
      · skip
        have r94 : own_R p e below _ _ T68 (mkF m 167 #[.val (.int pa), .val (.int pb), .val (.int p1), .val (.int p2), .val (.int pk), .val (.int pf), .val (.ref b2), .val (.int pn1), .val (.int pn2), .val (.ref b49), .unset, .unset, .unset, .unset, .unset, .unset] []) := r74.trans fun z_ kt => by
          refine XS.icmpYes X68.here hx rfl (pc0 := 138) (pc' := 151) rfl (hb hby at_138) rfl (flt (hc138_75 : ¬ ((1 : Int32) < pn1))).2.2.2 (by decide) (by decide) ?_
          refine XS.iload X68.here hx rfl (hb hby at_151) rfl ?_
          refine XS.iconst X68.here hx rfl (hb hby at_153) ?_
          refine XS.icmpYes X68.here hx rfl (pc0 := 154) (pc' := 167) rfl (hb hby at_154) rfl (flt (own_noadd hc138_75 (by decide) : ¬ ((2 : Int32) < pn1))).2.2.2 (by decide) (by decide) ?_
          exact kt
        have hk := own_k1 hn1 hc122_62 hc138_75
        exact ⟨arr_68, ka_68, (10 : Int32), ((0 : Int32) + (1 : Int32)), [b_4], T68, _, _, X68.more (by decide) (by decide), e68, N68, K68, p68_1, p68_5, (by rw [hk]; exact p68_2), p68_3, (by rw [hk]; exact ⟨by decide, by decide, rfl⟩), Or.inr (by decide), r94⟩
    · skip
      have r95 : own_R p e below _ _ T57 (mkF m 167 #[.val (.int pa), .val (.int pb), .val (.int p1), .val (.int p2), .val (.int pk), .val (.int pf), .val (.ref b2), .val (.int pn1), .val (.int pn2), .val (.ref b49), .unset, .unset, .unset, .unset, .unset, .unset] []) := r61.trans fun z_ kt => by
        refine XS.ifYes X57.here hx rfl (pc0 := 122) (pc' := 135) rfl (hb hby at_122) rfl ((if0 _ _).trans (flt (hc122_62 : ¬ ((0 : Int32) < pn1))).2.2.2) (by decide) (by decide) ?_
        refine XS.iload X57.here hx rfl (hb hby at_135) rfl ?_
        refine XS.iconst X57.here hx rfl (hb hby at_137) ?_
        refine XS.icmpYes X57.here hx rfl (pc0 := 138) (pc' := 151) rfl (hb hby at_138) rfl (flt (own_noadd hc122_62 (by decide) : ¬ ((1 : Int32) < pn1))).2.2.2 (by decide) (by decide) ?_
        refine XS.iload X57.here hx rfl (hb hby at_151) rfl ?_
        refine XS.iconst X57.here hx rfl (hb hby at_153) ?_
        refine XS.icmpYes X57.here hx rfl (pc0 := 154) (pc' := 167) rfl (hb hby at_154) rfl (flt (own_noadd hc122_62 (by decide) : ¬ ((2 : Int32) < pn1))).2.2.2 (by decide) (by decide) ?_
        exact kt
      have hk := own_k0 hn1 hc122_62
      exact ⟨s_DE, kd, (0 : Int32), (0 : Int32), [], T57, _, _, X57.more (by decide) (by decide), e57, N57, Kb60, p57_1, p57_0, (by rw [hk]; exact p57_2), (OV_s_DE.ext O57.2), (by rw [hk]; exact ⟨by decide, by decide, rfl⟩), Or.inl hk, r95⟩
  have O60 := O57.keep Kq60 (allS g_b49 all0)
  obtain ⟨T96, h96, X96, e96, E96, A96, D96, -, st96⟩ := newO X60 hx hZ hown (hw _ (own_g (i := 28) rfl)) (hw _ (own_g (i := 29) rfl)) (hw _ (own_g (i := 30) rfl)) e60 (g := (mkF m 167 #[.val (.int pa), .val (.int pb), .val (.int p1), .val (.int p2), .val (.int pk), .val (.int pf), .val (.ref b2), .val (.int pn1), .val (.int pn2), .val (.ref b49), .unset, .unset, .unset, .unset, .unset, .unset] [])) rfl (hb hby at_167) (by decide) (by decide)
  obtain ⟨b96, g96⟩ : ∃ z, z = h60.size := ⟨_, rfl⟩
  rw [← g96] at A96 D96 st96
  have r96 : own_R p e below _ _ T96 (mkF m 170 #[.val (.int pa), .val (.int pb), .val (.int p1), .val (.int p2), .val (.int pk), .val (.int pf), .val (.ref b2), .val (.int pn1), .val (.int pn2), .val (.ref b49), .unset, .unset, .unset, .unset, .unset, .unset] [(.ref b96)]) := r60.trans fun z_ kt => st96 _ kt
  have f97 := (f58.keep Kq60 (ninS ne_b2_b49 nin0))
  have ne_b2_b96 : b2 ≠ b96 := Nat.ne_of_lt (Nat.lt_of_lt_of_le f97.lt (Nat.le_of_eq g96.symm))
  have f98 := (((f50.ext E49).keep Kq57).keep Kq60)
  have ne_b_4_b96 : b_4 ≠ b96 := Nat.ne_of_lt (Nat.lt_of_lt_of_le f98.lt (Nat.le_of_eq g96.symm))
  have f99 := (((f51.ext E49).keep Kq57).keep Kq60)
  have ne_b_9_b96 : b_9 ≠ b96 := Nat.ne_of_lt (Nat.lt_of_lt_of_le f99.lt (Nat.le_of_eq g96.symm))
  have f100 := (((f52.ext E49).keep Kq57).keep Kq60)
  have ne_b_15_b96 : b_15 ≠ b96 := Nat.ne_of_lt (Nat.lt_of_lt_of_le f100.lt (Nat.le_of_eq g96.symm))
  have f101 := (((f53.ext E49).keep Kq57).keep Kq60)
  have ne_b_22_b96 : b_22 ≠ b96 := Nat.ne_of_lt (Nat.lt_of_lt_of_le f101.lt (Nat.le_of_eq g96.symm))
  have f102 := (((f54.ext E49).keep Kq57).keep Kq60)
  have ne_b_30_b96 : b_30 ≠ b96 := Nat.ne_of_lt (Nat.lt_of_lt_of_le f102.lt (Nat.le_of_eq g96.symm))
  have f103 := (((f55.ext E49).keep Kq57).keep Kq60)
  have ne_b_39_b96 : b_39 ≠ b96 := Nat.ne_of_lt (Nat.lt_of_lt_of_le f103.lt (Nat.le_of_eq g96.symm))
  have f104 := ((A49.keep Kq57).keep Kq60)
  have ne_b49_b96 : b49 ≠ b96 := Nat.ne_of_lt (Nat.lt_of_lt_of_le f104.lt (Nat.le_of_eq g96.symm))
  have ne_arr_A_b96 : arr_A ≠ b96 := Nat.ne_of_lt (Nat.lt_of_lt_of_le p60_3.lt (Nat.le_of_eq g96.symm))
  have g_b96 : n0 ≤ b96 := Nat.le_trans (own_old_size O60) (Nat.le_of_eq g96.symm)
  have O96 := O60.ext E96
  have F96_48 := D96 (Or.inl (hw _ (own_g (i := 48) rfl))) (ty := .int) (by decide)
  have F96_51 := D96 (Or.inl (hw _ (own_g (i := 51) rfl))) (ty := (.array (.object "java/lang/Object"))) (by decide)
  have F96_104 := D96 (Or.inl (hw _ (own_g (i := 104) rfl))) (ty := .int) (by decide)
  have r105 : own_R p e below _ _ T96 (mkF m 171 #[.val (.int pa), .val (.int pb), .val (.int p1), .val (.int p2), .val (.int pk), .val (.int pf), .val (.ref b2), .val (.int pn1), .val (.int pn2), .val (.ref b49), .unset, .unset, .unset, .unset, .unset, .unset] [(.ref b96), (.ref b96)]) := r96.trans fun z_ kt => by
    refine XS.dup X96.here hx rfl (hb hby at_170) rfl rfl ?_
    exact kt
  obtain ⟨_, _, ⟨T106, L106, cc106, n106⟩, -, X106, ⟨Lc106, hQ106, l106, y106, z106⟩, st106⟩ := X96.specialBack hx (y := (⟨"java/util/ArrayList", "<init>", "()V"⟩ : MethodName)) rfl hown (mvT hZ (hw _ (own_g (i := 31) rfl))) (mvT hZ (hw _ (own_g (i := 32) rfl))) (mvT hZ (hw _ (own_g (i := 33) rfl))) (by decide) (backOf (W := 1) (rm_alInit0 l Z a0 hw [] (b96) ((.int (0 : Int32))) (.null) (s_DE) h96 n0 O96 (A96) (g_b96) (F96_48) (F96_51) (F96_104) (S_ArrayList_DEFAULTCAPACITY_EMPTY_ELEMENTDATA)) hZ (hw _ (own_g (i := 33) rfl)) (hw _ (own_g (i := 30) rfl)) (by decide) (by decide)) (g := (mkF m 171 #[.val (.int pa), .val (.int pb), .val (.int p1), .val (.int p2), .val (.int pk), .val (.int pf), .val (.ref b2), .val (.int pn1), .val (.int pn2), .val (.ref b49), .unset, .unset, .unset, .unset, .unset, .unset] [(.ref b96), (.ref b96)])) rfl (by rw [hml]; rfl) (Steps.refl _) (a := b96) (argsL := []) (rest := [(.ref b96)]) (lenOf pd_3 rfl) rfl (by show 2 * 0 + _ ≤ _; exact Nat.le_of_eq rfl) (hb hby at_171) (fun _ _ => ⟨rfl, e96, (by decide : 16 + 0 ≤ _), (by decide : 52 + 0 ≤ _)⟩)
  dsimp only [Pt.U, Pt.locs, Pt.cells, Pt.slots] at X106 l106 y106 z106 st106 hQ106
  subst l106 y106 z106
  obtain ⟨h106, e106⟩ : ∃ z, T106.heap = z := ⟨_, rfl⟩
  rw [e106] at hQ106
  obtain ⟨rfl, Nq106, Kq106, p106_0, p106_1, p106_2⟩ := hQ106
  have N106 := Fr.app N60 Nq106
  have r106 : own_R p e below _ _ T106 (mkF m 174 #[.val (.int pa), .val (.int pb), .val (.int p1), .val (.int p2), .val (.int pk), .val (.int pf), .val (.ref b2), .val (.int pn1), .val (.int pn2), .val (.ref b49), .unset, .unset, .unset, .unset, .unset, .unset] [(.ref b96)]) := r105.trans fun z_ kt => st106.trans kt
  have O106 := O96.keep Kq106 (allS g_b96 all0)
  have f107 := ((f97.ext E96).keep Kq106 (ninS ne_b2_b96 nin0))
  have r108 : own_R p e below _ _ T106 (mkF m 176 #[.val (.int pa), .val (.int pb), .val (.int p1), .val (.int p2), .val (.int pk), .val (.int pf), .val (.ref b2), .val (.int pn1), .val (.int pn2), .val (.ref b49), .val (.ref b96), .unset, .unset, .unset, .unset, .unset] []) := r106.trans fun z_ kt => by
    refine XS.astore X106.here hx rfl (hb hby at_174) rfl rfl (l' := #[.val (.int pa), .val (.int pb), .val (.int p1), .val (.int p2), .val (.int pk), .val (.int pf), .val (.ref b2), .val (.int pn1), .val (.int pn2), .val (.ref b49), .val (.ref b96), .unset, .unset, .unset, .unset, .unset]) rfl ?_
    exact kt
  obtain ⟨arr_B, ka_B, z_B, pm_B, ys_B, T109, h109, L109, X109, e109, N109, Kq109, p109_0, p109_1, p109_2, p109_3, p109_4, p109_5, r109⟩ : ∃ (arr_B : Addr) (ka_B : ClassId) (z_B : Int32) (pm_B : Int32) (ys_B : List Addr) (T' : State) (h' : Heap) (locs' : List Loc), Stand p l e room_1 s m #[(.int pa), (.int pb), (.int p1), (.int p2), (.int pk), (.int pf)] below meth c T' locs' 17 62 ∧ T'.heap = h' ∧ Fr n0 locs' ∧ Keep h106 h' [b96] ∧ (Fld Z h' b96 "java/util/ArrayList" "elementData" "[Ljava/lang/Object;" (.ref arr_B)) ∧ (Fld Z h' b96 "java/util/AbstractList" "modCount" "I" (.int pm_B)) ∧ (Fld Z h' b96 "java/util/ArrayList" "size" "I" (.int pn2)) ∧ (Arv Z h' arr_B ka_B (.object "java/lang/Object") z_B (ys_B.map Value.ref) .null) ∧ (own_LL pn2 ys_B [b_22, b_30, b_39]) ∧ (pn2 = (0 : Int32) ∨ (3 : Int32) < z_B) ∧ own_R p e below s₁ (mkF m 0 #[.val (.int pa), .val (.int pb), .val (.int p1), .val (.int p2), .val (.int pk), .val (.int pf), .unset, .unset, .unset, .unset, .unset, .unset, .unset, .unset, .unset, .unset] []) T' (mkF m 223 #[.val (.int pa), .val (.int pb), .val (.int p1), .val (.int p2), .val (.int pk), .val (.int pf), .val (.ref b2), .val (.int pn1), .val (.int pn2), .val (.ref b49), .val (.ref b96), .unset, .unset, .unset, .unset, .unset] []) := by
    have Kb109 : Keep h106 h106 [b96] := Keep.refl _ _
    have r110 : own_R p e below _ _ T106 (mkF m 178 #[.val (.int pa), .val (.int pb), .val (.int p1), .val (.int p2), .val (.int pk), .val (.int pf), .val (.ref b2), .val (.int pn1), .val (.int pn2), .val (.ref b49), .val (.ref b96), .unset, .unset, .unset, .unset, .unset] [(.int pn2)]) := r108.trans fun z_ kt => by
      refine XS.iload X106.here hx rfl (hb hby at_176) rfl ?_
      exact kt
    by_cases hc178_111 : (0 : Int32) < pn2
    · skip
      have r113 : own_R p e below _ _ T106 (mkF m 186 #[.val (.int pa), .val (.int pb), .val (.int p1), .val (.int p2), .val (.int pk), .val (.int pf), .val (.ref b2), .val (.int pn1), .val (.int pn2), .val (.ref b49), .val (.ref b96), .unset, .unset, .unset, .unset, .unset] [(.int (3 : Int32)), (.ref b2), (.ref b96)]) := r110.trans fun z_ kt => by
        refine XS.ifNo X106.here hx rfl (hb hby at_178) rfl ((if0 _ _).trans (tlt (hc178_111 : (0 : Int32) < pn2)).2.2.2) ?_
        refine XS.aload X106.here hx rfl (hb hby at_181) rfl rfl ?_
        refine XS.aload X106.here hx rfl (hb hby at_183) rfl rfl ?_
        refine XS.iconst X106.here hx rfl (hb hby at_185) ?_
        exact kt
      obtain ⟨cl112, Ar112, q112, S112, M112, H112, G112⟩ := id f107
      have hin112 : ¬ ((3 : Int32) < 0 ∨ cl112.slots.size ≤ ((3 : Int32)).toNatClampNeg) := inb_of S112 ⟨by decide, by decide⟩
      have hat112 : cl112.slots[((3 : Int32)).toNatClampNeg]? = some (.ref b_22) := Has.at H112 hin112 rfl
      have f114 := (A96.keep Kq106)
      have r115 : own_R p e below _ _ T106 (mkF m 187 #[.val (.int pa), .val (.int pb), .val (.int p1), .val (.int p2), .val (.int pk), .val (.int pf), .val (.ref b2), .val (.int pn1), .val (.int pn2), .val (.ref b49), .val (.ref b96), .unset, .unset, .unset, .unset, .unset] [(.ref b_22), (.ref b96)]) := r113.trans fun z_ kt => by
        refine X106.aaload hx (j := (3 : Int32)) (v := (.ref b_22)) (by rw [e106]; exact Ar112.1) (State.isArrayOf_alike hZ.alike Ar112.2.1) rfl Ar112.2.2 hin112 hat112 (g := (mkF m 186 #[.val (.int pa), .val (.int pb), .val (.int p1), .val (.int p2), .val (.int pk), .val (.int pf), .val (.ref b2), .val (.int pn1), .val (.int pn2), .val (.ref b49), .val (.ref b96), .unset, .unset, .unset, .unset, .unset] [(.int (3 : Int32)), (.ref b2), (.ref b96)])) rfl rfl (hb hby at_186) _ ?_
        exact kt
      have f116 := ((f101.ext E96).keep Kq106)
      obtain ⟨cq117, kq117, q117a, q117b, q117c⟩ := isOf hZ e106 f114
      obtain ⟨_, _, ⟨T117, L117, cc117, n117⟩, -, X117, ⟨Lc117, hQ117, l117, y117, z117⟩, st117⟩ := X106.virtualBack hx (y := (⟨"java/util/ArrayList", "add", "(Ljava/lang/Object;)Z"⟩ : MethodName)) (z := (⟨"java/util/ArrayList", "add", "(Ljava/lang/Object;)Z"⟩ : MethodName)) hown (mvT hZ (hw _ (own_g (i := 151) rfl))) (mvT hZ (hw _ (own_g (i := 152) rfl))) (notFace_of_selects (args := #[]) (mvT hZ (hw _ (own_g (i := 154) rfl)))) (mvT hZ (hw _ (own_g (i := 154) rfl))) (mvT hZ (hw _ (own_g (i := 153) rfl))) (by decide) (backOf (W := 0) (rm_addG l Z a0 hw [] (b96) (b_22) (s_DE) (kd) ((0 : Int32)) h106 n0 O106 (f114) (g_b96) (p106_1) (p106_2) (p106_0) (S_ArrayList_DEFAULTCAPACITY_EMPTY_ELEMENTDATA) (OV_s_DE) (f116)) hZ (hw _ (own_g (i := 155) rfl)) (hw _ (own_g (i := 30) rfl)) (by decide) (by decide)) q117a q117c (g := (mkF m 187 #[.val (.int pa), .val (.int pb), .val (.int p1), .val (.int p2), .val (.int pk), .val (.int pf), .val (.ref b2), .val (.int pn1), .val (.int pn2), .val (.ref b49), .val (.ref b96), .unset, .unset, .unset, .unset, .unset] [(.ref b_22), (.ref b96)])) rfl (by rw [hml]; rfl) (Steps.refl _) (argsL := [(.ref b_22)]) (rest := []) (lenOf pd_15 rfl) rfl (by show 2 * 0 + _ ≤ _; exact Nat.le_of_eq rfl) (hb hby at_187) (fun _ _ => ⟨rfl, e106, (by decide : 16 + 1 ≤ _), (by decide : 52 + 10 ≤ _)⟩)
      dsimp only [Pt.U, Pt.locs, Pt.cells, Pt.slots] at X117 l117 y117 z117 st117 hQ117
      subst l117 y117 z117
      obtain ⟨h117, e117⟩ : ∃ z, T117.heap = z := ⟨_, rfl⟩
      rw [e117] at hQ117
      obtain ⟨arr_117, ka_117, rfl, Nq117, Kq117, p117_0, p117_1, p117_2, p117_3, p117_4, p117_5⟩ := hQ117
      have N117 := Fr.app N106 Nq117
      have r117 : own_R p e below _ _ T117 (mkF m 190 #[.val (.int pa), .val (.int pb), .val (.int p1), .val (.int p2), .val (.int pk), .val (.int pf), .val (.ref b2), .val (.int pn1), .val (.int pn2), .val (.ref b49), .val (.ref b96), .unset, .unset, .unset, .unset, .unset] [(.int (1 : Int32))]) := r115.trans fun z_ kt => st117.trans kt
      have ne_b2_arr_117 : b2 ≠ arr_117 := Nat.ne_of_lt (Nat.lt_of_lt_of_le f107.lt p117_0)
      have f118 := ((f98.ext E96).keep Kq106)
      have ne_b_4_arr_117 : b_4 ≠ arr_117 := Nat.ne_of_lt (Nat.lt_of_lt_of_le f118.lt p117_0)
      have f119 := ((f99.ext E96).keep Kq106)
      have ne_b_9_arr_117 : b_9 ≠ arr_117 := Nat.ne_of_lt (Nat.lt_of_lt_of_le f119.lt p117_0)
      have f120 := ((f100.ext E96).keep Kq106)
      have ne_b_15_arr_117 : b_15 ≠ arr_117 := Nat.ne_of_lt (Nat.lt_of_lt_of_le f120.lt p117_0)
      have ne_b_22_arr_117 : b_22 ≠ arr_117 := Nat.ne_of_lt (Nat.lt_of_lt_of_le f116.lt p117_0)
      have f121 := ((f102.ext E96).keep Kq106)
      have ne_b_30_arr_117 : b_30 ≠ arr_117 := Nat.ne_of_lt (Nat.lt_of_lt_of_le f121.lt p117_0)
      have f122 := ((f103.ext E96).keep Kq106)
      have ne_b_39_arr_117 : b_39 ≠ arr_117 := Nat.ne_of_lt (Nat.lt_of_lt_of_le f122.lt p117_0)
      have f123 := ((f104.ext E96).keep Kq106)
      have ne_b49_arr_117 : b49 ≠ arr_117 := Nat.ne_of_lt (Nat.lt_of_lt_of_le f123.lt p117_0)
      have f124 := ((p60_3.ext E96).keep Kq106 (ninS ne_arr_A_b96 nin0))
      have ne_arr_A_arr_117 : arr_A ≠ arr_117 := Nat.ne_of_lt (Nat.lt_of_lt_of_le f124.lt p117_0)
      have ne_b96_arr_117 : b96 ≠ arr_117 := Nat.ne_of_lt (Nat.lt_of_lt_of_le f114.lt p117_0)
      have g_arr_117 : n0 ≤ arr_117 := Nat.le_trans (own_old_size O106) p117_0
      have sz_arr_117 : h106.size ≤ arr_117 := Nat.le_trans Kb109.1 p117_0
      have O117 := O106.keep Kq117 (allS g_b96 all0)
      have K117 := Kb109.trans Kq117 (allS (Or.inl (List.mem_of_getElem? (i := 0) rfl)) all0)
      have r125 : own_R p e below _ _ T117 (mkF m 194 #[.val (.int pa), .val (.int pb), .val (.int p1), .val (.int p2), .val (.int pk), .val (.int pf), .val (.ref b2), .val (.int pn1), .val (.int pn2), .val (.ref b49), .val (.ref b96), .unset, .unset, .unset, .unset, .unset] [(.int (1 : Int32)), (.int pn2)]) := r117.trans fun z_ kt => by
        refine XS.pop X117.here hx rfl (hb hby at_190) rfl rfl ?_
        refine XS.iload X117.here hx rfl (hb hby at_191) rfl ?_
        refine XS.iconst X117.here hx rfl (hb hby at_193) ?_
        exact kt
      by_cases hc194_126 : (1 : Int32) < pn2
      · skip
        have f127 := (f107.keep Kq117 (ninS ne_b2_b96 nin0))
        have r129 : own_R p e below _ _ T117 (mkF m 202 #[.val (.int pa), .val (.int pb), .val (.int p1), .val (.int p2), .val (.int pk), .val (.int pf), .val (.ref b2), .val (.int pn1), .val (.int pn2), .val (.ref b49), .val (.ref b96), .unset, .unset, .unset, .unset, .unset] [(.int (4 : Int32)), (.ref b2), (.ref b96)]) := r125.trans fun z_ kt => by
          refine XS.icmpNo X117.here hx rfl (hb hby at_194) rfl (tlt (hc194_126 : (1 : Int32) < pn2)).2.2.2 ?_
          refine XS.aload X117.here hx rfl (hb hby at_197) rfl rfl ?_
          refine XS.aload X117.here hx rfl (hb hby at_199) rfl rfl ?_
          refine XS.iconst X117.here hx rfl (hb hby at_201) ?_
          exact kt
        obtain ⟨cl128, Ar128, q128, S128, M128, H128, G128⟩ := id f127
        have hin128 : ¬ ((4 : Int32) < 0 ∨ cl128.slots.size ≤ ((4 : Int32)).toNatClampNeg) := inb_of S128 ⟨by decide, by decide⟩
        have hat128 : cl128.slots[((4 : Int32)).toNatClampNeg]? = some (.ref b_30) := Has.at H128 hin128 rfl
        have f130 := (f114.keep Kq117)
        have r131 : own_R p e below _ _ T117 (mkF m 203 #[.val (.int pa), .val (.int pb), .val (.int p1), .val (.int p2), .val (.int pk), .val (.int pf), .val (.ref b2), .val (.int pn1), .val (.int pn2), .val (.ref b49), .val (.ref b96), .unset, .unset, .unset, .unset, .unset] [(.ref b_30), (.ref b96)]) := r129.trans fun z_ kt => by
          refine X117.aaload hx (j := (4 : Int32)) (v := (.ref b_30)) (by rw [e117]; exact Ar128.1) (State.isArrayOf_alike hZ.alike Ar128.2.1) rfl Ar128.2.2 hin128 hat128 (g := (mkF m 202 #[.val (.int pa), .val (.int pb), .val (.int p1), .val (.int p2), .val (.int pk), .val (.int pf), .val (.ref b2), .val (.int pn1), .val (.int pn2), .val (.ref b49), .val (.ref b96), .unset, .unset, .unset, .unset, .unset] [(.int (4 : Int32)), (.ref b2), (.ref b96)])) rfl rfl (hb hby at_202) _ ?_
          exact kt
        have f132 := (f121.keep Kq117)
        obtain ⟨cq133, kq133, q133a, q133b, q133c⟩ := isOf hZ e117 f130
        obtain ⟨_, _, ⟨T133, L133, cc133, n133⟩, -, X133, ⟨Lc133, hQ133, l133, y133, z133⟩, st133⟩ := X117.virtualBack hx (y := (⟨"java/util/ArrayList", "add", "(Ljava/lang/Object;)Z"⟩ : MethodName)) (z := (⟨"java/util/ArrayList", "add", "(Ljava/lang/Object;)Z"⟩ : MethodName)) hown (mvT hZ (hw _ (own_g (i := 151) rfl))) (mvT hZ (hw _ (own_g (i := 152) rfl))) (notFace_of_selects (args := #[]) (mvT hZ (hw _ (own_g (i := 154) rfl)))) (mvT hZ (hw _ (own_g (i := 154) rfl))) (mvT hZ (hw _ (own_g (i := 153) rfl))) (by decide) (backOf (W := 0) (rm_addN l Z a0 hw [] (b96) (b_30) (arr_117) ((1 : Int32)) (ka_117) ((10 : Int32)) ([(.ref b_22)]) (((0 : Int32) + (1 : Int32))) h117 n0 O117 (f130) (g_b96) (p117_1) (p117_2) (p117_5) (p117_3) (g_arr_117) (p117_4) (f132) (rfl) (by decide)) hZ (hw _ (own_g (i := 155) rfl)) (hw _ (own_g (i := 30) rfl)) (by decide) (by decide)) q133a q133c (g := (mkF m 203 #[.val (.int pa), .val (.int pb), .val (.int p1), .val (.int p2), .val (.int pk), .val (.int pf), .val (.ref b2), .val (.int pn1), .val (.int pn2), .val (.ref b49), .val (.ref b96), .unset, .unset, .unset, .unset, .unset] [(.ref b_30), (.ref b96)])) rfl (by rw [hml]; rfl) (Steps.refl _) (argsL := [(.ref b_30)]) (rest := []) (lenOf pd_15 rfl) rfl (by show 2 * 0 + _ ≤ _; exact Nat.le_of_eq rfl) (hb hby at_203) (fun _ _ => ⟨rfl, e117, (by decide : 17 + 0 ≤ _), (by decide : 62 + 0 ≤ _)⟩)
        dsimp only [Pt.U, Pt.locs, Pt.cells, Pt.slots] at X133 l133 y133 z133 st133 hQ133
        subst l133 y133 z133
        obtain ⟨h133, e133⟩ : ∃ z, T133.heap = z := ⟨_, rfl⟩
        rw [e133] at hQ133
        obtain ⟨rfl, Nq133, Kq133, p133_0, p133_1, p133_2, p133_3⟩ := hQ133
        have N133 := Fr.app N117 Nq133
        have r133 : own_R p e below _ _ T133 (mkF m 206 #[.val (.int pa), .val (.int pb), .val (.int p1), .val (.int p2), .val (.int pk), .val (.int pf), .val (.ref b2), .val (.int pn1), .val (.int pn2), .val (.ref b49), .val (.ref b96), .unset, .unset, .unset, .unset, .unset] [(.int (1 : Int32))]) := r131.trans fun z_ kt => st133.trans kt
        have O133 := O117.keep Kq133 (allS g_b96 (allS g_arr_117 all0))
        have K133 := K117.trans Kq133 (allS (Or.inl (List.mem_of_getElem? (i := 0) rfl)) (allS (Or.inr sz_arr_117) all0))
        have r134 : own_R p e below _ _ T133 (mkF m 210 #[.val (.int pa), .val (.int pb), .val (.int p1), .val (.int p2), .val (.int pk), .val (.int pf), .val (.ref b2), .val (.int pn1), .val (.int pn2), .val (.ref b49), .val (.ref b96), .unset, .unset, .unset, .unset, .unset] [(.int (2 : Int32)), (.int pn2)]) := r133.trans fun z_ kt => by
          refine XS.pop X133.here hx rfl (hb hby at_206) rfl rfl ?_
          refine XS.iload X133.here hx rfl (hb hby at_207) rfl ?_
          refine XS.iconst X133.here hx rfl (hb hby at_209) ?_
          exact kt
        by_cases hc210_135 : (2 : Int32) < pn2
        · skip
          have f136 := (f127.keep Kq133 (ninS ne_b2_b96 (ninS ne_b2_arr_117 nin0)))
          have r138 : own_R p e below _ _ T133 (mkF m 218 #[.val (.int pa), .val (.int pb), .val (.int p1), .val (.int p2), .val (.int pk), .val (.int pf), .val (.ref b2), .val (.int pn1), .val (.int pn2), .val (.ref b49), .val (.ref b96), .unset, .unset, .unset, .unset, .unset] [(.int (5 : Int32)), (.ref b2), (.ref b96)]) := r134.trans fun z_ kt => by
            refine XS.icmpNo X133.here hx rfl (hb hby at_210) rfl (tlt (hc210_135 : (2 : Int32) < pn2)).2.2.2 ?_
            refine XS.aload X133.here hx rfl (hb hby at_213) rfl rfl ?_
            refine XS.aload X133.here hx rfl (hb hby at_215) rfl rfl ?_
            refine XS.iconst X133.here hx rfl (hb hby at_217) ?_
            exact kt
          obtain ⟨cl137, Ar137, q137, S137, M137, H137, G137⟩ := id f136
          have hin137 : ¬ ((5 : Int32) < 0 ∨ cl137.slots.size ≤ ((5 : Int32)).toNatClampNeg) := inb_of S137 ⟨by decide, by decide⟩
          have hat137 : cl137.slots[((5 : Int32)).toNatClampNeg]? = some (.ref b_39) := Has.at H137 hin137 rfl
          have f139 := (f130.keep Kq133)
          have r140 : own_R p e below _ _ T133 (mkF m 219 #[.val (.int pa), .val (.int pb), .val (.int p1), .val (.int p2), .val (.int pk), .val (.int pf), .val (.ref b2), .val (.int pn1), .val (.int pn2), .val (.ref b49), .val (.ref b96), .unset, .unset, .unset, .unset, .unset] [(.ref b_39), (.ref b96)]) := r138.trans fun z_ kt => by
            refine X133.aaload hx (j := (5 : Int32)) (v := (.ref b_39)) (by rw [e133]; exact Ar137.1) (State.isArrayOf_alike hZ.alike Ar137.2.1) rfl Ar137.2.2 hin137 hat137 (g := (mkF m 218 #[.val (.int pa), .val (.int pb), .val (.int p1), .val (.int p2), .val (.int pk), .val (.int pf), .val (.ref b2), .val (.int pn1), .val (.int pn2), .val (.ref b49), .val (.ref b96), .unset, .unset, .unset, .unset, .unset] [(.int (5 : Int32)), (.ref b2), (.ref b96)])) rfl rfl (hb hby at_218) _ ?_
            exact kt
          have f141 := ((f122.keep Kq117).keep Kq133)
          obtain ⟨cq142, kq142, q142a, q142b, q142c⟩ := isOf hZ e133 f139
          obtain ⟨_, _, ⟨T142, L142, cc142, n142⟩, -, X142, ⟨Lc142, hQ142, l142, y142, z142⟩, st142⟩ := X133.virtualBack hx (y := (⟨"java/util/ArrayList", "add", "(Ljava/lang/Object;)Z"⟩ : MethodName)) (z := (⟨"java/util/ArrayList", "add", "(Ljava/lang/Object;)Z"⟩ : MethodName)) hown (mvT hZ (hw _ (own_g (i := 151) rfl))) (mvT hZ (hw _ (own_g (i := 152) rfl))) (notFace_of_selects (args := #[]) (mvT hZ (hw _ (own_g (i := 154) rfl)))) (mvT hZ (hw _ (own_g (i := 154) rfl))) (mvT hZ (hw _ (own_g (i := 153) rfl))) (by decide) (backOf (W := 0) (rm_addN l Z a0 hw [] (b96) (b_39) (arr_117) (((1 : Int32) + (1 : Int32))) (ka_117) ((10 : Int32)) (([(.ref b_22)] ++ [(.ref b_30)])) ((((0 : Int32) + (1 : Int32)) + (1 : Int32))) h133 n0 O133 (f139) (g_b96) (p133_0) (p133_1) (p133_3) (p133_2) (g_arr_117) (p117_4) (f141) (rfl) (by decide)) hZ (hw _ (own_g (i := 155) rfl)) (hw _ (own_g (i := 30) rfl)) (by decide) (by decide)) q142a q142c (g := (mkF m 219 #[.val (.int pa), .val (.int pb), .val (.int p1), .val (.int p2), .val (.int pk), .val (.int pf), .val (.ref b2), .val (.int pn1), .val (.int pn2), .val (.ref b49), .val (.ref b96), .unset, .unset, .unset, .unset, .unset] [(.ref b_39), (.ref b96)])) rfl (by rw [hml]; rfl) (Steps.refl _) (argsL := [(.ref b_39)]) (rest := []) (lenOf pd_15 rfl) rfl (by show 2 * 0 + _ ≤ _; exact Nat.le_of_eq rfl) (hb hby at_219) (fun _ _ => ⟨rfl, e133, (by decide : 17 + 0 ≤ _), (by decide : 62 + 0 ≤ _)⟩)
          dsimp only [Pt.U, Pt.locs, Pt.cells, Pt.slots] at X142 l142 y142 z142 st142 hQ142
          subst l142 y142 z142
          obtain ⟨h142, e142⟩ : ∃ z, T142.heap = z := ⟨_, rfl⟩
          rw [e142] at hQ142
          obtain ⟨rfl, Nq142, Kq142, p142_0, p142_1, p142_2, p142_3⟩ := hQ142
          have N142 := Fr.app N133 Nq142
          have r142 : own_R p e below _ _ T142 (mkF m 222 #[.val (.int pa), .val (.int pb), .val (.int p1), .val (.int p2), .val (.int pk), .val (.int pf), .val (.ref b2), .val (.int pn1), .val (.int pn2), .val (.ref b49), .val (.ref b96), .unset, .unset, .unset, .unset, .unset] [(.int (1 : Int32))]) := r140.trans fun z_ kt => st142.trans kt
          have O142 := O133.keep Kq142 (allS g_b96 (allS g_arr_117 all0))
          have K142 := K133.trans Kq142 (allS (Or.inl (List.mem_of_getElem? (i := 0) rfl)) (allS (Or.inr sz_arr_117) all0))
          have r143 : own_R p e below _ _ T142 (mkF m 223 #[.val (.int pa), .val (.int pb), .val (.int p1), .val (.int p2), .val (.int pk), .val (.int pf), .val (.ref b2), .val (.int pn1), .val (.int pn2), .val (.ref b49), .val (.ref b96), .unset, .unset, .unset, .unset, .unset] []) := r142.trans fun z_ kt => by
            refine XS.pop X142.here hx rfl (hb hby at_222) rfl rfl ?_
            exact kt
          have hk := own_k3 hn2 hc178_111 hc194_126 hc210_135
          exact ⟨arr_117, ka_117, (10 : Int32), ((((0 : Int32) + (1 : Int32)) + (1 : Int32)) + (1 : Int32)), [b_22, b_30, b_39], T142, _, _, X142.more (by decide) (by decide), e142, N142, K142, p142_0, p142_3, (by rw [hk]; exact p142_1), p142_2, (by rw [hk]; exact ⟨by decide, by decide, rfl⟩), Or.inr (by decide), r143⟩
        · skip
          have r144 : own_R p e below _ _ T133 (mkF m 223 #[.val (.int pa), .val (.int pb), .val (.int p1), .val (.int p2), .val (.int pk), .val (.int pf), .val (.ref b2), .val (.int pn1), .val (.int pn2), .val (.ref b49), .val (.ref b96), .unset, .unset, .unset, .unset, .unset] []) := r134.trans fun z_ kt => by
            refine XS.icmpYes X133.here hx rfl (pc0 := 210) (pc' := 223) rfl (hb hby at_210) rfl (flt (hc210_135 : ¬ ((2 : Int32) < pn2))).2.2.2 (by decide) (by decide) ?_
            exact kt
          have hk := own_k2 hn2 hc178_111 hc194_126 hc210_135
          exact ⟨arr_117, ka_117, (10 : Int32), (((0 : Int32) + (1 : Int32)) + (1 : Int32)), [b_22, b_30], T133, _, _, X133.more (by decide) (by decide), e133, N133, K133, p133_0, p133_3, (by rw [hk]; exact p133_1), p133_2, (by rw [hk]; exact ⟨by decide, by decide, rfl⟩), Or.inr (by decide), r144⟩
      · skip
        have r145 : own_R p e below _ _ T117 (mkF m 223 #[.val (.int pa), .val (.int pb), .val (.int p1), .val (.int p2), .val (.int pk), .val (.int pf), .val (.ref b2), .val (.int pn1), .val (.int pn2), .val (.ref b49), .val (.ref b96), .unset, .unset, .unset, .unset, .unset] []) := r125.trans fun z_ kt => by
          refine XS.icmpYes X117.here hx rfl (pc0 := 194) (pc' := 207) rfl (hb hby at_194) rfl (flt (hc194_126 : ¬ ((1 : Int32) < pn2))).2.2.2 (by decide) (by decide) ?_
          refine XS.iload X117.here hx rfl (hb hby at_207) rfl ?_
          refine XS.iconst X117.here hx rfl (hb hby at_209) ?_
          refine XS.icmpYes X117.here hx rfl (pc0 := 210) (pc' := 223) rfl (hb hby at_210) rfl (flt (own_noadd hc194_126 (by decide) : ¬ ((2 : Int32) < pn2))).2.2.2 (by decide) (by decide) ?_
          exact kt
        have hk := own_k1 hn2 hc178_111 hc194_126
        exact ⟨arr_117, ka_117, (10 : Int32), ((0 : Int32) + (1 : Int32)), [b_22], T117, _, _, X117.more (by decide) (by decide), e117, N117, K117, p117_1, p117_5, (by rw [hk]; exact p117_2), p117_3, (by rw [hk]; exact ⟨by decide, by decide, rfl⟩), Or.inr (by decide), r145⟩
    · skip
      have r146 : own_R p e below _ _ T106 (mkF m 223 #[.val (.int pa), .val (.int pb), .val (.int p1), .val (.int p2), .val (.int pk), .val (.int pf), .val (.ref b2), .val (.int pn1), .val (.int pn2), .val (.ref b49), .val (.ref b96), .unset, .unset, .unset, .unset, .unset] []) := r110.trans fun z_ kt => by
        refine XS.ifYes X106.here hx rfl (pc0 := 178) (pc' := 191) rfl (hb hby at_178) rfl ((if0 _ _).trans (flt (hc178_111 : ¬ ((0 : Int32) < pn2))).2.2.2) (by decide) (by decide) ?_
        refine XS.iload X106.here hx rfl (hb hby at_191) rfl ?_
        refine XS.iconst X106.here hx rfl (hb hby at_193) ?_
        refine XS.icmpYes X106.here hx rfl (pc0 := 194) (pc' := 207) rfl (hb hby at_194) rfl (flt (own_noadd hc178_111 (by decide) : ¬ ((1 : Int32) < pn2))).2.2.2 (by decide) (by decide) ?_
        refine XS.iload X106.here hx rfl (hb hby at_207) rfl ?_
        refine XS.iconst X106.here hx rfl (hb hby at_209) ?_
        refine XS.icmpYes X106.here hx rfl (pc0 := 210) (pc' := 223) rfl (hb hby at_210) rfl (flt (own_noadd hc178_111 (by decide) : ¬ ((2 : Int32) < pn2))).2.2.2 (by decide) (by decide) ?_
        exact kt
      have hk := own_k0 hn2 hc178_111
      exact ⟨s_DE, kd, (0 : Int32), (0 : Int32), [], T106, _, _, X106.more (by decide) (by decide), e106, N106, Kb109, p106_1, p106_0, (by rw [hk]; exact p106_2), (OV_s_DE.ext O106.2), (by rw [hk]; exact ⟨by decide, by decide, rfl⟩), Or.inl hk, r146⟩
  have O109 := O106.keep Kq109 (allS g_b96 all0)
  obtain ⟨T147, h147, X147, e147, E147, A147, D147, -, st147⟩ := newO X109 hx hZ hown (hw _ (own_g (i := 52) rfl)) (hw _ (own_g (i := 53) rfl)) (hw _ (own_g (i := 54) rfl)) e109 (g := (mkF m 223 #[.val (.int pa), .val (.int pb), .val (.int p1), .val (.int p2), .val (.int pk), .val (.int pf), .val (.ref b2), .val (.int pn1), .val (.int pn2), .val (.ref b49), .val (.ref b96), .unset, .unset, .unset, .unset, .unset] [])) rfl (hb hby at_223) (by decide) (by decide)
  obtain ⟨b147, g147⟩ : ∃ z, z = h109.size := ⟨_, rfl⟩
  rw [← g147] at A147 D147 st147
  have r147 : own_R p e below _ _ T147 (mkF m 226 #[.val (.int pa), .val (.int pb), .val (.int p1), .val (.int p2), .val (.int pk), .val (.int pf), .val (.ref b2), .val (.int pn1), .val (.int pn2), .val (.ref b49), .val (.ref b96), .unset, .unset, .unset, .unset, .unset] [(.ref b147)]) := r109.trans fun z_ kt => st147 _ kt
  have f148 := (f107.keep Kq109 (ninS ne_b2_b96 nin0))
  have ne_b2_b147 : b2 ≠ b147 := Nat.ne_of_lt (Nat.lt_of_lt_of_le f148.lt (Nat.le_of_eq g147.symm))
  have f149 := (((f98.ext E96).keep Kq106).keep Kq109)
  have ne_b_4_b147 : b_4 ≠ b147 := Nat.ne_of_lt (Nat.lt_of_lt_of_le f149.lt (Nat.le_of_eq g147.symm))
  have f150 := (((f99.ext E96).keep Kq106).keep Kq109)
  have ne_b_9_b147 : b_9 ≠ b147 := Nat.ne_of_lt (Nat.lt_of_lt_of_le f150.lt (Nat.le_of_eq g147.symm))
  have f151 := (((f100.ext E96).keep Kq106).keep Kq109)
  have ne_b_15_b147 : b_15 ≠ b147 := Nat.ne_of_lt (Nat.lt_of_lt_of_le f151.lt (Nat.le_of_eq g147.symm))
  have f152 := (((f101.ext E96).keep Kq106).keep Kq109)
  have ne_b_22_b147 : b_22 ≠ b147 := Nat.ne_of_lt (Nat.lt_of_lt_of_le f152.lt (Nat.le_of_eq g147.symm))
  have f153 := (((f102.ext E96).keep Kq106).keep Kq109)
  have ne_b_30_b147 : b_30 ≠ b147 := Nat.ne_of_lt (Nat.lt_of_lt_of_le f153.lt (Nat.le_of_eq g147.symm))
  have f154 := (((f103.ext E96).keep Kq106).keep Kq109)
  have ne_b_39_b147 : b_39 ≠ b147 := Nat.ne_of_lt (Nat.lt_of_lt_of_le f154.lt (Nat.le_of_eq g147.symm))
  have f155 := (((f104.ext E96).keep Kq106).keep Kq109)
  have ne_b49_b147 : b49 ≠ b147 := Nat.ne_of_lt (Nat.lt_of_lt_of_le f155.lt (Nat.le_of_eq g147.symm))
  have f156 := (((p60_3.ext E96).keep Kq106 (ninS ne_arr_A_b96 nin0)).keep Kq109 (ninS ne_arr_A_b96 nin0))
  have ne_arr_A_b147 : arr_A ≠ b147 := Nat.ne_of_lt (Nat.lt_of_lt_of_le f156.lt (Nat.le_of_eq g147.symm))
  have f157 := ((A96.keep Kq106).keep Kq109)
  have ne_b96_b147 : b96 ≠ b147 := Nat.ne_of_lt (Nat.lt_of_lt_of_le f157.lt (Nat.le_of_eq g147.symm))
  have ne_arr_B_b147 : arr_B ≠ b147 := Nat.ne_of_lt (Nat.lt_of_lt_of_le p109_3.lt (Nat.le_of_eq g147.symm))
  have g_b147 : n0 ≤ b147 := Nat.le_trans (own_old_size O109) (Nat.le_of_eq g147.symm)
  have O147 := O109.ext E147
  have F147_61 := D147 (Or.inl (hw _ (own_g (i := 61) rfl))) (ty := (.array (.object "java/lang/String"))) (by decide)
  have F147_116 := D147 (Or.inl (hw _ (own_g (i := 116) rfl))) (ty := .long) (by decide)
  have F147_127 := D147 (Or.inl (hw _ (own_g (i := 127) rfl))) (ty := .long) (by decide)
  have r158 : own_R p e below _ _ T147 (mkF m 227 #[.val (.int pa), .val (.int pb), .val (.int p1), .val (.int p2), .val (.int pk), .val (.int pf), .val (.ref b2), .val (.int pn1), .val (.int pn2), .val (.ref b49), .val (.ref b96), .unset, .unset, .unset, .unset, .unset] [(.ref b147), (.ref b147)]) := r147.trans fun z_ kt => by
    refine XS.dup X147.here hx rfl (hb hby at_226) rfl rfl ?_
    exact kt
  obtain ⟨_, _, ⟨T159, L159, cc159, n159⟩, -, X159, ⟨Lc159, hQ159, l159, y159, z159⟩, st159⟩ := X147.specialBack hx (y := (⟨"com/example/kleinbasel/kleinbasel/content/RecentChanges", "<init>", "()V"⟩ : MethodName)) rfl hown (mvT hZ (hw _ (own_g (i := 55) rfl))) (mvT hZ (hw _ (own_g (i := 56) rfl))) (mvT hZ (hw _ (own_g (i := 57) rfl))) (by decide) (backOf (W := 1) (rm_rcInit l Z a0 hw [] (b147) (.null) h147 n0 O147 (A147) (g_b147) (F147_61) (F147_116) (F147_127)) hZ (hw _ (own_g (i := 57) rfl)) (hw _ (own_g (i := 54) rfl)) (by decide) (by decide)) (g := (mkF m 227 #[.val (.int pa), .val (.int pb), .val (.int p1), .val (.int p2), .val (.int pk), .val (.int pf), .val (.ref b2), .val (.int pn1), .val (.int pn2), .val (.ref b49), .val (.ref b96), .unset, .unset, .unset, .unset, .unset] [(.ref b147), (.ref b147)])) rfl (by rw [hml]; rfl) (Steps.refl _) (a := b147) (argsL := []) (rest := [(.ref b147)]) (lenOf pd_3 rfl) rfl (by show 2 * 0 + _ ≤ _; exact Nat.le_of_eq rfl) (hb hby at_227) (fun _ _ => ⟨rfl, e147, (by decide : 18 + 1 ≤ _), (by decide : 65 + 1024 ≤ _)⟩)
  dsimp only [Pt.U, Pt.locs, Pt.cells, Pt.slots] at X159 l159 y159 z159 st159 hQ159
  subst l159 y159 z159
  obtain ⟨h159, e159⟩ : ∃ z, T159.heap = z := ⟨_, rfl⟩
  rw [e159] at hQ159
  obtain ⟨kp_159, kk_159, rfl, Nq159, Kq159, p159_0, p159_1, p159_2, p159_3, p159_4, p159_5⟩ := hQ159
  have N159 := Fr.app N109 Nq159
  have r159 : own_R p e below _ _ T159 (mkF m 230 #[.val (.int pa), .val (.int pb), .val (.int p1), .val (.int p2), .val (.int pk), .val (.int pf), .val (.ref b2), .val (.int pn1), .val (.int pn2), .val (.ref b49), .val (.ref b96), .unset, .unset, .unset, .unset, .unset] [(.ref b147)]) := r158.trans fun z_ kt => st159.trans kt
  have f160 := (f148.ext E147)
  have ne_b2_kp_159 : b2 ≠ kp_159 := Nat.ne_of_lt (Nat.lt_of_lt_of_le f160.lt p159_0)
  have f161 := (f149.ext E147)
  have ne_b_4_kp_159 : b_4 ≠ kp_159 := Nat.ne_of_lt (Nat.lt_of_lt_of_le f161.lt p159_0)
  have f162 := (f150.ext E147)
  have ne_b_9_kp_159 : b_9 ≠ kp_159 := Nat.ne_of_lt (Nat.lt_of_lt_of_le f162.lt p159_0)
  have f163 := (f151.ext E147)
  have ne_b_15_kp_159 : b_15 ≠ kp_159 := Nat.ne_of_lt (Nat.lt_of_lt_of_le f163.lt p159_0)
  have f164 := (f152.ext E147)
  have ne_b_22_kp_159 : b_22 ≠ kp_159 := Nat.ne_of_lt (Nat.lt_of_lt_of_le f164.lt p159_0)
  have f165 := (f153.ext E147)
  have ne_b_30_kp_159 : b_30 ≠ kp_159 := Nat.ne_of_lt (Nat.lt_of_lt_of_le f165.lt p159_0)
  have f166 := (f154.ext E147)
  have ne_b_39_kp_159 : b_39 ≠ kp_159 := Nat.ne_of_lt (Nat.lt_of_lt_of_le f166.lt p159_0)
  have f167 := (f155.ext E147)
  have ne_b49_kp_159 : b49 ≠ kp_159 := Nat.ne_of_lt (Nat.lt_of_lt_of_le f167.lt p159_0)
  have f168 := (f156.ext E147)
  have ne_arr_A_kp_159 : arr_A ≠ kp_159 := Nat.ne_of_lt (Nat.lt_of_lt_of_le f168.lt p159_0)
  have f169 := (f157.ext E147)
  have ne_b96_kp_159 : b96 ≠ kp_159 := Nat.ne_of_lt (Nat.lt_of_lt_of_le f169.lt p159_0)
  have f170 := (p109_3.ext E147)
  have ne_arr_B_kp_159 : arr_B ≠ kp_159 := Nat.ne_of_lt (Nat.lt_of_lt_of_le f170.lt p159_0)
  have ne_b147_kp_159 : b147 ≠ kp_159 := Nat.ne_of_lt (Nat.lt_of_lt_of_le A147.lt p159_0)
  have g_kp_159 : n0 ≤ kp_159 := Nat.le_trans (own_old_size O147) p159_0
  have O159 := O147.keep Kq159 (allS g_b147 all0)
  have f171 := (f161.keep Kq159)
  have f172 := (f162.keep Kq159)
  have f173 := (f163.keep Kq159)
  have hEA : (ys_A.all fun _ => true) = true ∧ ∀ y ∈ ys_A, Exa Z h159 y "java/lang/String" := own_hE p60_4 f171 f172 f173
  have f174 := (A147.keep Kq159)
  have r175 : own_R p e below _ _ T159 (mkF m 236 #[.val (.int pa), .val (.int pb), .val (.int p1), .val (.int p2), .val (.int pk), .val (.int pf), .val (.ref b2), .val (.int pn1), .val (.int pn2), .val (.ref b49), .val (.ref b96), .val (.ref b147), .unset, .unset, .unset, .unset] [(.ref b49), (.ref b147)]) := r159.trans fun z_ kt => by
    refine XS.astore X159.here hx rfl (hb hby at_230) rfl rfl (l' := #[.val (.int pa), .val (.int pb), .val (.int p1), .val (.int p2), .val (.int pk), .val (.int pf), .val (.ref b2), .val (.int pn1), .val (.int pn2), .val (.ref b49), .val (.ref b96), .val (.ref b147), .unset, .unset, .unset, .unset]) rfl ?_
    refine XS.aload X159.here hx rfl (hb hby at_232) rfl rfl ?_
    refine XS.aload X159.here hx rfl (hb hby at_234) rfl rfl ?_
    exact kt
  have f176 := (f167.keep Kq159)
  have f177 := (((((p60_1.ext E96).keep Kq106 (ninS ne_b49_b96 nin0)).keep Kq109 (ninS ne_b49_b96 nin0)).ext E147).keep Kq159 (ninS ne_b49_b147 nin0))
  have f178 := (((((p60_2.ext E96).keep Kq106 (ninS ne_b49_b96 nin0)).keep Kq109 (ninS ne_b49_b96 nin0)).ext E147).keep Kq159 (ninS ne_b49_b147 nin0))
  have f179 := (((((p60_0.ext E96).keep Kq106 (ninS ne_b49_b96 nin0)).keep Kq109 (ninS ne_b49_b96 nin0)).ext E147).keep Kq159 (ninS ne_b49_b147 nin0))
  have f180 := (f168.keep Kq159 (ninS ne_arr_A_b147 nin0))
  obtain ⟨cq181, kq181, q181a, q181b, q181c⟩ := isOf hZ e159 f174
  obtain ⟨_, _, ⟨T181, L181, cc181, n181⟩, -, X181, ⟨Lc181, hQ181, l181, y181, z181⟩, st181⟩ := X159.virtualBack hx (y := (⟨"com/example/kleinbasel/kleinbasel/content/RecentChanges", "add", "(Ljava/util/Collection;)V"⟩ : MethodName)) (z := (⟨"com/example/kleinbasel/kleinbasel/content/RecentChanges", "add", "(Ljava/util/Collection;)V"⟩ : MethodName)) hown (mvT hZ (hw _ (own_g (i := 62) rfl))) (mvT hZ (hw _ (own_g (i := 63) rfl))) (notFace_of_selects (args := #[]) (mvT hZ (hw _ (own_g (i := 65) rfl)))) (mvT hZ (hw _ (own_g (i := 65) rfl))) (mvT hZ (hw _ (own_g (i := 64) rfl))) (by decide) (backOf (W := 0) (rm_rcAdd l Z a0 hw [] (b147) (b49) (kp_159) (kk_159) ((0 : Int64)) ((1024 : Int32)) ([]) (arr_A) (ka_A) (z_A) (ys_A) (pn1) (pm_A) h159 n0 O159 (f174) (g_b147) (p159_1) (p159_2) (p159_3) (p159_4) (g_kp_159) (p159_5) (by decide) (by decide) (f176) (f177) (f178) (f179) (f180) (own_hr p60_4) (p60_5) (hEA) ((Ne.symm ne_arr_A_kp_159))) hZ (hw _ (own_g (i := 66) rfl)) (hw _ (own_g (i := 54) rfl)) (by decide) (by decide)) q181a q181c (g := (mkF m 236 #[.val (.int pa), .val (.int pb), .val (.int p1), .val (.int p2), .val (.int pk), .val (.int pf), .val (.ref b2), .val (.int pn1), .val (.int pn2), .val (.ref b49), .val (.ref b96), .val (.ref b147), .unset, .unset, .unset, .unset] [(.ref b49), (.ref b147)])) rfl (by rw [hml]; rfl) (Steps.refl _) (argsL := [(.ref b49)]) (rest := []) (lenOf pd_21 rfl) rfl (by show 2 * 0 + _ ≤ _; exact Nat.le_of_eq rfl) (hb hby at_236) (fun _ _ => ⟨rfl, e159, (by decide : 19 + 1 ≤ _), (by decide : 1089 + 4 ≤ _)⟩)
  dsimp only [Pt.U, Pt.locs, Pt.cells, Pt.slots] at X181 l181 y181 z181 st181 hQ181
  subst l181 y181 z181
  obtain ⟨h181, e181⟩ : ∃ z, T181.heap = z := ⟨_, rfl⟩
  rw [e181] at hQ181
  obtain ⟨jc2_rA, rfl, Nq181, Kq181, p181_0, p181_1, p181_2, p181_3, p181_4⟩ := hQ181
  have N181 := Fr.app N159 Nq181
  have r181 : own_R p e below _ _ T181 (mkF m 239 #[.val (.int pa), .val (.int pb), .val (.int p1), .val (.int p2), .val (.int pk), .val (.int pf), .val (.ref b2), .val (.int pn1), .val (.int pn2), .val (.ref b49), .val (.ref b96), .val (.ref b147), .unset, .unset, .unset, .unset] []) := r175.trans fun z_ kt => st181.trans kt
  have O181 := O159.keep Kq181 (allS g_b147 (allS g_kp_159 all0))
  have f182 := (f171.keep Kq181)
  have f183 := (f172.keep Kq181)
  have f184 := (f173.keep Kq181)
  have hst1 : ((([] ++ ys_A.map Value.ref)).all fun _ => true) = true ∧ ∀ i, i < (([] ++ ys_A.map Value.ref)).length → ∃ y : Addr, (([] ++ ys_A.map Value.ref)).getD i .null = .ref y ∧ Exa Z h181 y "java/lang/String" := own_hst1 p60_4 f182 f183 f184
  have f185 := (f174.keep Kq181)
  have r186 : own_R p e below _ _ T181 (mkF m 246 #[.val (.int pa), .val (.int pb), .val (.int p1), .val (.int p2), .val (.int pk), .val (.int pf), .val (.ref b2), .val (.int pn1), .val (.int pn2), .val (.ref b49), .val (.ref b96), .val (.ref b147), .unset, .unset, .unset, .unset] [(.int (p1 % (4096 : Int32))), (.ref b147)]) := r181.trans fun z_ kt => by
    refine XS.aload X181.here hx rfl (hb hby at_239) rfl rfl ?_
    refine XS.iloadN X181.here hx rfl (hb hby at_241) rfl ?_
    refine XS.sipush X181.here hx rfl (hb hby at_242) ?_
    refine iremM X181 hx rfl (hb hby at_245) rfl (by decide) ?_
    exact kt
  obtain ⟨cq187, kq187, q187a, q187b, q187c⟩ := isOf hZ e181 f185
  obtain ⟨_, _, ⟨T187, L187, cc187, n187⟩, -, X187, ⟨Lc187, hQ187, l187, y187, z187⟩, st187⟩ := X181.virtualBack hx (y := (⟨"com/example/kleinbasel/kleinbasel/content/RecentChanges", "keepAtLeast", "(I)V"⟩ : MethodName)) (z := (⟨"com/example/kleinbasel/kleinbasel/content/RecentChanges", "keepAtLeast", "(I)V"⟩ : MethodName)) hown (mvT hZ (hw _ (own_g (i := 105) rfl))) (mvT hZ (hw _ (own_g (i := 106) rfl))) (notFace_of_selects (args := #[]) (mvT hZ (hw _ (own_g (i := 108) rfl)))) (mvT hZ (hw _ (own_g (i := 108) rfl))) (mvT hZ (hw _ (own_g (i := 107) rfl))) (by decide) (backOf (W := 0) (rm_keep l Z a0 hw [] (b147) ((p1 % (4096 : Int32))) (kp_159) (kk_159) (jc2_rA) ((1024 : Int32)) (([] ++ ys_A.map Value.ref)) (4095) h181 n0 O181 (f185) (g_b147) (p181_0) (p181_1) (p181_2) (p181_3) (g_kp_159) (p159_5) (p181_4) (own_kk1 p60_4) (hst1)) hZ (hw _ (own_g (i := 109) rfl)) (hw _ (own_g (i := 54) rfl)) (by decide) (by decide)) q187a q187c (g := (mkF m 246 #[.val (.int pa), .val (.int pb), .val (.int p1), .val (.int p2), .val (.int pk), .val (.int pf), .val (.ref b2), .val (.int pn1), .val (.int pn2), .val (.ref b49), .val (.ref b96), .val (.ref b147), .unset, .unset, .unset, .unset] [(.int (p1 % (4096 : Int32))), (.ref b147)])) rfl (by rw [hml]; rfl) (Steps.refl _) (argsL := [(.int (p1 % (4096 : Int32)))]) (rest := []) (lenOf pd_14 rfl) rfl (by show 2 * 0 + _ ≤ _; exact Nat.le_of_eq rfl) (hb hby at_246) (fun _ _ => ⟨rfl, e181, (by decide : 20 + 1 ≤ _), (by decide : 1093 + 8191 ≤ _)⟩)
  dsimp only [Pt.U, Pt.locs, Pt.cells, Pt.slots] at X187 l187 y187 z187 st187 hQ187
  subst l187 y187 z187
  obtain ⟨h187, e187⟩ : ∃ z, T187.heap = z := ⟨_, rfl⟩
  rw [e187] at hQ187
  obtain ⟨kp2_k1, kk2_k1, zk2_k1, rfl, Nq187, Kq187, p187_0, p187_1, p187_2, p187_3, p187_4, p187_5, p187_6⟩ := hQ187
  have N187 := Fr.app N181 Nq187
  have r187 : own_R p e below _ _ T187 (mkF m 249 #[.val (.int pa), .val (.int pb), .val (.int p1), .val (.int p2), .val (.int pk), .val (.int pf), .val (.ref b2), .val (.int pn1), .val (.int pn2), .val (.ref b49), .val (.ref b96), .val (.ref b147), .unset, .unset, .unset, .unset] []) := r186.trans fun z_ kt => st187.trans kt
  have f188 := ((f160.keep Kq159 (ninS ne_b2_b147 nin0)).keep Kq181 (ninS ne_b2_b147 (ninS ne_b2_kp_159 nin0)))
  have ne_b2_kp2_k1 : b2 ≠ kp2_k1 := own_fe p187_0 ne_b2_kp_159 f188.lt
  have ne_b_4_kp2_k1 : b_4 ≠ kp2_k1 := own_fe p187_0 ne_b_4_kp_159 f182.lt
  have ne_b_9_kp2_k1 : b_9 ≠ kp2_k1 := own_fe p187_0 ne_b_9_kp_159 f183.lt
  have ne_b_15_kp2_k1 : b_15 ≠ kp2_k1 := own_fe p187_0 ne_b_15_kp_159 f184.lt
  have f189 := ((f164.keep Kq159).keep Kq181)
  have ne_b_22_kp2_k1 : b_22 ≠ kp2_k1 := own_fe p187_0 ne_b_22_kp_159 f189.lt
  have f190 := ((f165.keep Kq159).keep Kq181)
  have ne_b_30_kp2_k1 : b_30 ≠ kp2_k1 := own_fe p187_0 ne_b_30_kp_159 f190.lt
  have f191 := ((f166.keep Kq159).keep Kq181)
  have ne_b_39_kp2_k1 : b_39 ≠ kp2_k1 := own_fe p187_0 ne_b_39_kp_159 f191.lt
  have f192 := (f176.keep Kq181)
  have ne_b49_kp2_k1 : b49 ≠ kp2_k1 := own_fe p187_0 ne_b49_kp_159 f192.lt
  have f193 := (f180.keep Kq181 (ninS ne_arr_A_b147 (ninS ne_arr_A_kp_159 nin0)))
  have ne_arr_A_kp2_k1 : arr_A ≠ kp2_k1 := own_fe p187_0 ne_arr_A_kp_159 f193.lt
  have f194 := ((f169.keep Kq159).keep Kq181)
  have ne_b96_kp2_k1 : b96 ≠ kp2_k1 := own_fe p187_0 ne_b96_kp_159 f194.lt
  have f195 := ((f170.keep Kq159 (ninS ne_arr_B_b147 nin0)).keep Kq181 (ninS ne_arr_B_b147 (ninS ne_arr_B_kp_159 nin0)))
  have ne_arr_B_kp2_k1 : arr_B ≠ kp2_k1 := own_fe p187_0 ne_arr_B_kp_159 f195.lt
  have ne_b147_kp2_k1 : b147 ≠ kp2_k1 := own_fe p187_0 ne_b147_kp_159 f185.lt
  have g_kp2_k1 : n0 ≤ kp2_k1 := own_feg p187_0 g_kp_159 (own_old_size O181)
  have O187 := O181.keep Kq187 (allS g_b147 all0)
  have f196 := (f189.keep Kq187)
  have f197 := (f190.keep Kq187)
  have f198 := (f191.keep Kq187)
  have hEB : (ys_B.all fun _ => true) = true ∧ ∀ y ∈ ys_B, Exa Z h187 y "java/lang/String" := own_hE p109_4 f196 f197 f198
  have f199 := (f185.keep Kq187)
  have r200 : own_R p e below _ _ T187 (mkF m 253 #[.val (.int pa), .val (.int pb), .val (.int p1), .val (.int p2), .val (.int pk), .val (.int pf), .val (.ref b2), .val (.int pn1), .val (.int pn2), .val (.ref b49), .val (.ref b96), .val (.ref b147), .unset, .unset, .unset, .unset] [(.ref b96), (.ref b147)]) := r187.trans fun z_ kt => by
    refine XS.aload X187.here hx rfl (hb hby at_249) rfl rfl ?_
    refine XS.aload X187.here hx rfl (hb hby at_251) rfl rfl ?_
    exact kt
  have f201 := (f194.keep Kq187)
  have f202 := ((((p109_1.ext E147).keep Kq159 (ninS ne_b96_b147 nin0)).keep Kq181 (ninS ne_b96_b147 (ninS ne_b96_kp_159 nin0))).keep Kq187 (ninS ne_b96_b147 nin0))
  have f203 := ((((p109_2.ext E147).keep Kq159 (ninS ne_b96_b147 nin0)).keep Kq181 (ninS ne_b96_b147 (ninS ne_b96_kp_159 nin0))).keep Kq187 (ninS ne_b96_b147 nin0))
  have f204 := ((((p109_0.ext E147).keep Kq159 (ninS ne_b96_b147 nin0)).keep Kq181 (ninS ne_b96_b147 (ninS ne_b96_kp_159 nin0))).keep Kq187 (ninS ne_b96_b147 nin0))
  have f205 := (f195.keep Kq187 (ninS ne_arr_B_b147 nin0))
  obtain ⟨cq206, kq206, q206a, q206b, q206c⟩ := isOf hZ e187 f199
  obtain ⟨_, _, ⟨T206, L206, cc206, n206⟩, -, X206, ⟨Lc206, hQ206, l206, y206, z206⟩, st206⟩ := X187.virtualBack hx (y := (⟨"com/example/kleinbasel/kleinbasel/content/RecentChanges", "add", "(Ljava/util/Collection;)V"⟩ : MethodName)) (z := (⟨"com/example/kleinbasel/kleinbasel/content/RecentChanges", "add", "(Ljava/util/Collection;)V"⟩ : MethodName)) hown (mvT hZ (hw _ (own_g (i := 62) rfl))) (mvT hZ (hw _ (own_g (i := 63) rfl))) (notFace_of_selects (args := #[]) (mvT hZ (hw _ (own_g (i := 65) rfl)))) (mvT hZ (hw _ (own_g (i := 65) rfl))) (mvT hZ (hw _ (own_g (i := 64) rfl))) (by decide) (backOf (W := 0) (rm_rcAdd l Z a0 hw [] (b147) (b96) (kp2_k1) (kk2_k1) (jc2_rA) (zk2_k1) (([] ++ ys_A.map Value.ref)) (arr_B) (ka_B) (z_B) (ys_B) (pn2) (pm_B) h187 n0 O187 (f199) (g_b147) (p187_1) (p187_2) (p187_3) (p187_4) (g_kp2_k1) (p187_5) (p181_4) (⟨own_len3 p60_4, p187_6.1⟩) (f201) (f202) (f203) (f204) (f205) (own_hr p109_4) (p109_5) (hEB) ((Ne.symm ne_arr_B_kp2_k1))) hZ (hw _ (own_g (i := 66) rfl)) (hw _ (own_g (i := 54) rfl)) (by decide) (by decide)) q206a q206c (g := (mkF m 253 #[.val (.int pa), .val (.int pb), .val (.int p1), .val (.int p2), .val (.int pk), .val (.int pf), .val (.ref b2), .val (.int pn1), .val (.int pn2), .val (.ref b49), .val (.ref b96), .val (.ref b147), .unset, .unset, .unset, .unset] [(.ref b96), (.ref b147)])) rfl (by rw [hml]; rfl) (Steps.refl _) (argsL := [(.ref b96)]) (rest := []) (lenOf pd_21 rfl) rfl (by show 2 * 0 + _ ≤ _; exact Nat.le_of_eq rfl) (hb hby at_253) (fun _ _ => ⟨rfl, e187, (by decide : 21 + 1 ≤ _), (by decide : 9284 + 4 ≤ _)⟩)
  dsimp only [Pt.U, Pt.locs, Pt.cells, Pt.slots] at X206 l206 y206 z206 st206 hQ206
  subst l206 y206 z206
  obtain ⟨h206, e206⟩ : ∃ z, T206.heap = z := ⟨_, rfl⟩
  rw [e206] at hQ206
  obtain ⟨jc2_rB, rfl, Nq206, Kq206, p206_0, p206_1, p206_2, p206_3, p206_4⟩ := hQ206
  have N206 := Fr.app N187 Nq206
  have r206 : own_R p e below _ _ T206 (mkF m 256 #[.val (.int pa), .val (.int pb), .val (.int p1), .val (.int p2), .val (.int pk), .val (.int pf), .val (.ref b2), .val (.int pn1), .val (.int pn2), .val (.ref b49), .val (.ref b96), .val (.ref b147), .unset, .unset, .unset, .unset] []) := r200.trans fun z_ kt => st206.trans kt
  have O206 := O187.keep Kq206 (allS g_b147 (allS g_kp2_k1 all0))
  have f207 := ((f182.keep Kq187).keep Kq206)
  have f208 := ((f183.keep Kq187).keep Kq206)
  have f209 := ((f184.keep Kq187).keep Kq206)
  have f210 := (f196.keep Kq206)
  have f211 := (f197.keep Kq206)
  have f212 := (f198.keep Kq206)
  have hst2 : (((([] ++ ys_A.map Value.ref) ++ ys_B.map Value.ref)).all fun _ => true) = true ∧ ∀ i, i < ((([] ++ ys_A.map Value.ref) ++ ys_B.map Value.ref)).length → ∃ y : Addr, ((([] ++ ys_A.map Value.ref) ++ ys_B.map Value.ref)).getD i .null = .ref y ∧ Exa Z h206 y "java/lang/String" := own_hst2 p60_4 p109_4 f207 f208 f209 f210 f211 f212
  have f213 := (f199.keep Kq206)
  have r214 : own_R p e below _ _ T206 (mkF m 263 #[.val (.int pa), .val (.int pb), .val (.int p1), .val (.int p2), .val (.int pk), .val (.int pf), .val (.ref b2), .val (.int pn1), .val (.int pn2), .val (.ref b49), .val (.ref b96), .val (.ref b147), .unset, .unset, .unset, .unset] [(.int (p2 % (8192 : Int32))), (.ref b147)]) := r206.trans fun z_ kt => by
    refine XS.aload X206.here hx rfl (hb hby at_256) rfl rfl ?_
    refine XS.iloadN X206.here hx rfl (hb hby at_258) rfl ?_
    refine XS.sipush X206.here hx rfl (hb hby at_259) ?_
    refine iremM X206 hx rfl (hb hby at_262) rfl (by decide) ?_
    exact kt
  obtain ⟨cq215, kq215, q215a, q215b, q215c⟩ := isOf hZ e206 f213
  obtain ⟨_, _, ⟨T215, L215, cc215, n215⟩, -, X215, ⟨Lc215, hQ215, l215, y215, z215⟩, st215⟩ := X206.virtualBack hx (y := (⟨"com/example/kleinbasel/kleinbasel/content/RecentChanges", "keepAtLeast", "(I)V"⟩ : MethodName)) (z := (⟨"com/example/kleinbasel/kleinbasel/content/RecentChanges", "keepAtLeast", "(I)V"⟩ : MethodName)) hown (mvT hZ (hw _ (own_g (i := 105) rfl))) (mvT hZ (hw _ (own_g (i := 106) rfl))) (notFace_of_selects (args := #[]) (mvT hZ (hw _ (own_g (i := 108) rfl)))) (mvT hZ (hw _ (own_g (i := 108) rfl))) (mvT hZ (hw _ (own_g (i := 107) rfl))) (by decide) (backOf (W := 0) (rm_keep l Z a0 hw [] (b147) ((p2 % (8192 : Int32))) (kp2_k1) (kk2_k1) (jc2_rB) (zk2_k1) ((([] ++ ys_A.map Value.ref) ++ ys_B.map Value.ref)) (8191) h206 n0 O206 (f213) (g_b147) (p206_0) (p206_1) (p206_2) (p206_3) (g_kp2_k1) (p187_5) (p206_4) (own_kk2 p60_4 p109_4 p187_6) (hst2)) hZ (hw _ (own_g (i := 109) rfl)) (hw _ (own_g (i := 54) rfl)) (by decide) (by decide)) q215a q215c (g := (mkF m 263 #[.val (.int pa), .val (.int pb), .val (.int p1), .val (.int p2), .val (.int pk), .val (.int pf), .val (.ref b2), .val (.int pn1), .val (.int pn2), .val (.ref b49), .val (.ref b96), .val (.ref b147), .unset, .unset, .unset, .unset] [(.int (p2 % (8192 : Int32))), (.ref b147)])) rfl (by rw [hml]; rfl) (Steps.refl _) (argsL := [(.int (p2 % (8192 : Int32)))]) (rest := []) (lenOf pd_14 rfl) rfl (by show 2 * 0 + _ ≤ _; exact Nat.le_of_eq rfl) (hb hby at_263) (fun _ _ => ⟨rfl, e206, (by decide : 22 + 1 ≤ _), (by decide : 9288 + 8191 ≤ _)⟩)
  dsimp only [Pt.U, Pt.locs, Pt.cells, Pt.slots] at X215 l215 y215 z215 st215 hQ215
  subst l215 y215 z215
  obtain ⟨h215, e215⟩ : ∃ z, T215.heap = z := ⟨_, rfl⟩
  rw [e215] at hQ215
  obtain ⟨kp2_k2, kk2_k2, zk2_k2, rfl, Nq215, Kq215, p215_0, p215_1, p215_2, p215_3, p215_4, p215_5, p215_6⟩ := hQ215
  have N215 := Fr.app N206 Nq215
  have r215 : own_R p e below _ _ T215 (mkF m 266 #[.val (.int pa), .val (.int pb), .val (.int p1), .val (.int p2), .val (.int pk), .val (.int pf), .val (.ref b2), .val (.int pn1), .val (.int pn2), .val (.ref b49), .val (.ref b96), .val (.ref b147), .unset, .unset, .unset, .unset] []) := r214.trans fun z_ kt => st215.trans kt
  have f216 := ((f188.keep Kq187 (ninS ne_b2_b147 nin0)).keep Kq206 (ninS ne_b2_b147 (ninS ne_b2_kp2_k1 nin0)))
  have ne_b2_kp2_k2 : b2 ≠ kp2_k2 := own_fe p215_0 ne_b2_kp2_k1 f216.lt
  have ne_b_4_kp2_k2 : b_4 ≠ kp2_k2 := own_fe p215_0 ne_b_4_kp2_k1 f207.lt
  have ne_b_9_kp2_k2 : b_9 ≠ kp2_k2 := own_fe p215_0 ne_b_9_kp2_k1 f208.lt
  have ne_b_15_kp2_k2 : b_15 ≠ kp2_k2 := own_fe p215_0 ne_b_15_kp2_k1 f209.lt
  have ne_b_22_kp2_k2 : b_22 ≠ kp2_k2 := own_fe p215_0 ne_b_22_kp2_k1 f210.lt
  have ne_b_30_kp2_k2 : b_30 ≠ kp2_k2 := own_fe p215_0 ne_b_30_kp2_k1 f211.lt
  have ne_b_39_kp2_k2 : b_39 ≠ kp2_k2 := own_fe p215_0 ne_b_39_kp2_k1 f212.lt
  have f217 := ((f192.keep Kq187).keep Kq206)
  have ne_b49_kp2_k2 : b49 ≠ kp2_k2 := own_fe p215_0 ne_b49_kp2_k1 f217.lt
  have f218 := ((f193.keep Kq187 (ninS ne_arr_A_b147 nin0)).keep Kq206 (ninS ne_arr_A_b147 (ninS ne_arr_A_kp2_k1 nin0)))
  have ne_arr_A_kp2_k2 : arr_A ≠ kp2_k2 := own_fe p215_0 ne_arr_A_kp2_k1 f218.lt
  have f219 := (f201.keep Kq206)
  have ne_b96_kp2_k2 : b96 ≠ kp2_k2 := own_fe p215_0 ne_b96_kp2_k1 f219.lt
  have f220 := (f205.keep Kq206 (ninS ne_arr_B_b147 (ninS ne_arr_B_kp2_k1 nin0)))
  have ne_arr_B_kp2_k2 : arr_B ≠ kp2_k2 := own_fe p215_0 ne_arr_B_kp2_k1 f220.lt
  have ne_b147_kp2_k2 : b147 ≠ kp2_k2 := own_fe p215_0 ne_b147_kp2_k1 f213.lt
  have g_kp2_k2 : n0 ≤ kp2_k2 := own_feg p215_0 g_kp2_k1 (own_old_size O206)
  have O215 := O206.keep Kq215 (allS g_b147 all0)
  have r221 : own_R p e below _ _ T215 (mkF m 273 #[.val (.int pa), .val (.int pb), .val (.int p1), .val (.int p2), .val (.int pk), .val (.int pf), .val (.ref b2), .val (.int pn1), .val (.int pn2), .val (.ref b49), .val (.ref b96), .val (.ref b147), .val (.int (pn1 + pn2)), .unset, .unset, .unset] []) := r215.trans fun z_ kt => by
    refine XS.iload X215.here hx rfl (hb hby at_266) rfl ?_
    refine XS.iload X215.here hx rfl (hb hby at_268) rfl ?_
    refine XS.iadd X215.here hx rfl (hb hby at_270) rfl ?_
    refine XS.istore X215.here hx rfl (hb hby at_271) rfl (l' := #[.val (.int pa), .val (.int pb), .val (.int p1), .val (.int p2), .val (.int pk), .val (.int pf), .val (.ref b2), .val (.int pn1), .val (.int pn2), .val (.ref b49), .val (.ref b96), .val (.ref b147), .val (.int (pn1 + pn2)), .unset, .unset, .unset]) rfl ?_
    exact kt
  obtain ⟨pt, hpt⟩ : ∃ z, z = (pn1 + pn2) := ⟨_, rfl⟩
  rw [← hpt] at r221
  have hT := own_tot hn1 hn2 hpt
  have hC := own_count p206_4 p60_4 p109_4 hT
  have f222 := (f213.keep Kq215)
  have r223 : own_R p e below _ _ T215 (mkF m 275 #[.val (.int pa), .val (.int pb), .val (.int p1), .val (.int p2), .val (.int pk), .val (.int pf), .val (.ref b2), .val (.int pn1), .val (.int pn2), .val (.ref b49), .val (.ref b96), .val (.ref b147), .val (.int pt), .unset, .unset, .unset] [(.ref b147)]) := r221.trans fun z_ kt => by
    refine XS.aload X215.here hx rfl (hb hby at_273) rfl rfl ?_
    exact kt
  obtain ⟨cq224, kq224, q224a, q224b, q224c⟩ := isOf hZ e215 f222
  obtain ⟨_, _, ⟨T224, L224, cc224, n224⟩, -, X224, ⟨Lc224, hQ224, l224, y224, z224⟩, st224⟩ := X215.virtualBack hx (y := (⟨"com/example/kleinbasel/kleinbasel/content/RecentChanges", "count", "()J"⟩ : MethodName)) (z := (⟨"com/example/kleinbasel/kleinbasel/content/RecentChanges", "count", "()J"⟩ : MethodName)) hown (mvT hZ (hw _ (own_g (i := 110) rfl))) (mvT hZ (hw _ (own_g (i := 111) rfl))) (notFace_of_selects (args := #[]) (mvT hZ (hw _ (own_g (i := 113) rfl)))) (mvT hZ (hw _ (own_g (i := 113) rfl))) (mvT hZ (hw _ (own_g (i := 112) rfl))) (by decide) (backOf (W := 0) (rm_count l Z a0 hw [] (b147) (jc2_rB) h215 n0 O215 (p215_2)) hZ (hw _ (own_g (i := 114) rfl)) (hw _ (own_g (i := 54) rfl)) (by decide) (by decide)) q224a q224c (g := (mkF m 275 #[.val (.int pa), .val (.int pb), .val (.int p1), .val (.int p2), .val (.int pk), .val (.int pf), .val (.ref b2), .val (.int pn1), .val (.int pn2), .val (.ref b49), .val (.ref b96), .val (.ref b147), .val (.int pt), .unset, .unset, .unset] [(.ref b147)])) rfl (by rw [hml]; rfl) (Steps.refl _) (argsL := []) (rest := []) (lenOf pd_13 rfl) rfl (by show 2 * 0 + _ ≤ _; exact Nat.le_of_eq rfl) (hb hby at_275) (fun _ _ => ⟨rfl, e215, (by decide : 23 + 0 ≤ _), (by decide : 17479 + 0 ≤ _)⟩)
  dsimp only [Pt.U, Pt.locs, Pt.cells, Pt.slots] at X224 l224 y224 z224 st224 hQ224
  subst l224 y224 z224
  obtain ⟨rfl, Nq224, eq224⟩ := hQ224
  have N224 := Fr.app N215 Nq224
  have r224 : own_R p e below _ _ T224 (mkF m 278 #[.val (.int pa), .val (.int pb), .val (.int p1), .val (.int p2), .val (.int pk), .val (.int pf), .val (.ref b2), .val (.int pn1), .val (.int pn2), .val (.ref b49), .val (.ref b96), .val (.ref b147), .val (.int pt), .unset, .unset, .unset] [(.long jc2_rB)]) := r223.trans fun z_ kt => st224.trans kt
  have e224 : T224.heap = h215 := eq224
  have f225 := (f207.keep Kq215)
  have f226 := (f208.keep Kq215)
  have f227 := (f209.keep Kq215)
  have f228 := (f210.keep Kq215)
  have f229 := (f211.keep Kq215)
  have f230 := (f212.keep Kq215)
  have hst3 : (((([] ++ ys_A.map Value.ref) ++ ys_B.map Value.ref)).all fun _ => true) = true ∧ ∀ i, i < ((([] ++ ys_A.map Value.ref) ++ ys_B.map Value.ref)).length → ∃ y : Addr, ((([] ++ ys_A.map Value.ref) ++ ys_B.map Value.ref)).getD i .null = .ref y ∧ Exa Z h215 y "java/lang/String" := own_hst2 p60_4 p109_4 f225 f226 f227 f228 f229 f230
  have r231 : own_R p e below _ _ T224 (mkF m 292 #[.val (.int pa), .val (.int pb), .val (.int p1), .val (.int p2), .val (.int pk), .val (.int pf), .val (.ref b2), .val (.int pn1), .val (.int pn2), .val (.ref b49), .val (.ref b96), .val (.ref b147), .val (.int pt), .unset, .unset, .unset] [(.int pt), (.long (0 : Int64)), (.ref b147)]) := r224.trans fun z_ kt => by
    refine XS.iload X224.here hx rfl (hb hby at_278) rfl ?_
    refine XS.i2l X224.here hx rfl (hb hby at_280) rfl ?_
    refine XS.lcmp X224.here hx rfl (hb hby at_281) rfl ?_
    refine XS.ifYes X224.here hx rfl (pc0 := 282) (pc' := 287) rfl (hb hby at_282) rfl ((if0 _ _).trans (teq (hC.1 : (lcmpW jc2_rB (pt.toInt64)) = (0 : Int32))).1) (by decide) (by decide) ?_
    refine XS.aload X224.here hx rfl (hb hby at_287) rfl rfl ?_
    refine XS.lconst X224.here hx rfl (hb hby at_289) ?_
    refine XS.iload X224.here hx rfl (hb hby at_290) rfl ?_
    exact kt
  obtain ⟨cq232, kq232, q232a, q232b, q232c⟩ := isOf hZ e224 f222
  obtain ⟨_, _, ⟨T232, L232, cc232, n232⟩, -, X232, ⟨Lc232, hQ232, l232, y232, z232⟩, st232⟩ := X224.virtualBack hx (y := (⟨"com/example/kleinbasel/kleinbasel/content/RecentChanges", "since", "(JI)Ljava/util/List;"⟩ : MethodName)) (z := (⟨"com/example/kleinbasel/kleinbasel/content/RecentChanges", "since", "(JI)Ljava/util/List;"⟩ : MethodName)) hown (mvT hZ (hw _ (own_g (i := 117) rfl))) (mvT hZ (hw _ (own_g (i := 118) rfl))) (notFace_of_selects (args := #[]) (mvT hZ (hw _ (own_g (i := 120) rfl)))) (mvT hZ (hw _ (own_g (i := 120) rfl))) (mvT hZ (hw _ (own_g (i := 119) rfl))) (by decide) (backOf (W := 0) (rm_sinceL l Z a0 hw [] (b147) ((0 : Int64)) (pt) (kp2_k2) (kk2_k2) (jc2_rB) (zk2_k2) ((([] ++ ys_A.map Value.ref) ++ ys_B.map Value.ref)) (s_EE) (kE) h215 n0 O215 (f222) (p215_1) (p215_2) (p215_3) (p215_4) (p206_4) (own_kl p60_4 p109_4 p215_6) (S_ArrayList_EMPTY_ELEMENTDATA) (OV_s_EE) (hC.2) (⟨by decide, own_cnn p206_4⟩) (hst3)) hZ (hw _ (own_g (i := 121) rfl)) (hw _ (own_g (i := 54) rfl)) (by decide) (by decide)) q232a q232c (g := (mkF m 292 #[.val (.int pa), .val (.int pb), .val (.int p1), .val (.int p2), .val (.int pk), .val (.int pf), .val (.ref b2), .val (.int pn1), .val (.int pn2), .val (.ref b49), .val (.ref b96), .val (.ref b147), .val (.int pt), .unset, .unset, .unset] [(.int pt), (.long (0 : Int64)), (.ref b147)])) rfl (by rw [hml]; rfl) (Steps.refl _) (argsL := [(.long (0 : Int64)), (.int pt)]) (rest := []) (lenOf pd_22 rfl) rfl (by show 2 * 0 + _ ≤ _; exact Nat.le_of_eq rfl) (hb hby at_292) (fun _ _ => ⟨rfl, e224, (by decide : 23 + 2 ≤ _), (by decide : 17479 + 9 ≤ _)⟩)
  dsimp only [Pt.U, Pt.locs, Pt.cells, Pt.slots] at X232 l232 y232 z232 st232 hQ232
  subst l232 y232 z232
  obtain ⟨h232, e232⟩ : ∃ z, T232.heap = z := ⟨_, rfl⟩
  rw [e232] at hQ232
  obtain ⟨b_s1, arr_s1, ka_s1, z_s1, ps_s1, rfl, Nq232, Kq232, p232_0, p232_1, p232_2, p232_3, p232_4, p232_5⟩ := hQ232
  have N232 := Fr.app N224 Nq232
  have r232 : own_R p e below _ _ T232 (mkF m 295 #[.val (.int pa), .val (.int pb), .val (.int p1), .val (.int p2), .val (.int pk), .val (.int pf), .val (.ref b2), .val (.int pn1), .val (.int pn2), .val (.ref b49), .val (.ref b96), .val (.ref b147), .val (.int pt), .unset, .unset, .unset] [(.ref b_s1)]) := r231.trans fun z_ kt => st232.trans kt
  have f233 := (f216.keep Kq215 (ninS ne_b2_b147 nin0))
  have ne_b2_b_s1 : b2 ≠ b_s1 := Nat.ne_of_lt (Nat.lt_of_lt_of_le f233.lt p232_0)
  have ne_b_4_b_s1 : b_4 ≠ b_s1 := Nat.ne_of_lt (Nat.lt_of_lt_of_le f225.lt p232_0)
  have ne_b_9_b_s1 : b_9 ≠ b_s1 := Nat.ne_of_lt (Nat.lt_of_lt_of_le f226.lt p232_0)
  have ne_b_15_b_s1 : b_15 ≠ b_s1 := Nat.ne_of_lt (Nat.lt_of_lt_of_le f227.lt p232_0)
  have ne_b_22_b_s1 : b_22 ≠ b_s1 := Nat.ne_of_lt (Nat.lt_of_lt_of_le f228.lt p232_0)
  have ne_b_30_b_s1 : b_30 ≠ b_s1 := Nat.ne_of_lt (Nat.lt_of_lt_of_le f229.lt p232_0)
  have ne_b_39_b_s1 : b_39 ≠ b_s1 := Nat.ne_of_lt (Nat.lt_of_lt_of_le f230.lt p232_0)
  have f234 := (f217.keep Kq215)
  have ne_b49_b_s1 : b49 ≠ b_s1 := Nat.ne_of_lt (Nat.lt_of_lt_of_le f234.lt p232_0)
  have f235 := (f218.keep Kq215 (ninS ne_arr_A_b147 nin0))
  have ne_arr_A_b_s1 : arr_A ≠ b_s1 := Nat.ne_of_lt (Nat.lt_of_lt_of_le f235.lt p232_0)
  have f236 := (f219.keep Kq215)
  have ne_b96_b_s1 : b96 ≠ b_s1 := Nat.ne_of_lt (Nat.lt_of_lt_of_le f236.lt p232_0)
  have f237 := (f220.keep Kq215 (ninS ne_arr_B_b147 nin0))
  have ne_arr_B_b_s1 : arr_B ≠ b_s1 := Nat.ne_of_lt (Nat.lt_of_lt_of_le f237.lt p232_0)
  have ne_b147_b_s1 : b147 ≠ b_s1 := Nat.ne_of_lt (Nat.lt_of_lt_of_le f222.lt p232_0)
  have f238 := (p206_3.keep Kq215 (ninS (Ne.symm ne_b147_kp2_k1) nin0))
  have ne_kp2_k1_b_s1 : kp2_k1 ≠ b_s1 := Nat.ne_of_lt (Nat.lt_of_lt_of_le f238.lt p232_0)
  have ne_kp2_k2_b_s1 : kp2_k2 ≠ b_s1 := Nat.ne_of_lt (Nat.lt_of_lt_of_le p215_4.lt p232_0)
  have g_b_s1 : n0 ≤ b_s1 := Nat.le_trans (own_old_size O215) p232_0
  have O232 := O215.keep Kq232 all0
  have ne_b_s1_arr_s1 : b_s1 ≠ arr_s1 := (own_ne_arv p232_1 (hw _ (own_g (i := 29) rfl)) p232_4)
  have f239 := (f225.keep Kq232)
  have f240 := (f226.keep Kq232)
  have f241 := (f227.keep Kq232)
  have f242 := (f228.keep Kq232)
  have f243 := (f229.keep Kq232)
  have f244 := (f230.keep Kq232)
  have hm1 := own_matchG p60_4 p109_4 hT (own_f0 hT) (jf := (0 : Int64)) (by decide) (own_pl0 pt) p232_5 f239 f240 f241 f242 f243 f244
  have r245 : own_R p e below _ _ T232 (mkF m 302 #[.val (.int pa), .val (.int pb), .val (.int p1), .val (.int p2), .val (.int pk), .val (.int pf), .val (.ref b2), .val (.int pn1), .val (.int pn2), .val (.ref b49), .val (.ref b96), .val (.ref b147), .val (.int pt), .unset, .unset, .unset] [(.int pt), (.int (0 : Int32)), (.int pn1), (.ref b2), (.ref b_s1)]) := r232.trans fun z_ kt => by
    refine XS.aload X232.here hx rfl (hb hby at_295) rfl rfl ?_
    refine XS.iload X232.here hx rfl (hb hby at_297) rfl ?_
    refine XS.iconst X232.here hx rfl (hb hby at_299) ?_
    refine XS.iload X232.here hx rfl (hb hby at_300) rfl ?_
    exact kt
  have f246 := (f233.keep Kq232 nin0)
  obtain ⟨_, _, ⟨T247, L247, cc247, n247⟩, -, X247, ⟨Lc247, hQ247, l247, y247, z247⟩, st247⟩ := Jvm.LawKit.callS X232 hx (y := (⟨"com/example/kleinbasel/kleinbasel/content/RecentChangesKeepAtLeastPinLaw", "matches", "(Ljava/util/List;[Ljava/lang/String;III)Z"⟩ : MethodName)) hown (mvT hZ (hw _ (own_g (i := 137) rfl))) (mvT hZ (hw _ (own_g (i := 138) rfl))) (mvT hZ (hw _ (own_g (i := 139) rfl))) (mvT hZ (hw _ (own_g (i := 140) rfl))) (by decide) (backOf (W := 0) (rm_matches l Z a0 hw [] (b_s1) (b2) (pn1) ((0 : Int32)) (pt) (arr_s1) (ka_s1) (z_s1) (((([] ++ ys_A.map Value.ref) ++ ys_B.map Value.ref).drop (0 : Int64).toInt.toNat)) (k2) (b_4) (b_9) (b_15) (b_22) (b_30) (b_39) h232 n0 O232 (p232_1) (p232_2) ((by rw [hm1.1]; exact p232_3)) (p232_4) (f246) (hm1.2.1) (hm1.2.2)) hZ (hw _ (own_g (i := 140) rfl)) (hw _ (own_g (i := 139) rfl)) (by decide) (by decide)) (g := (mkF m 302 #[.val (.int pa), .val (.int pb), .val (.int p1), .val (.int p2), .val (.int pk), .val (.int pf), .val (.ref b2), .val (.int pn1), .val (.int pn2), .val (.ref b49), .val (.ref b96), .val (.ref b147), .val (.int pt), .unset, .unset, .unset] [(.int pt), (.int (0 : Int32)), (.int pn1), (.ref b2), (.ref b_s1)])) rfl (by rw [hml]; rfl) (argsL := [(.ref b_s1), (.ref b2), (.int pn1), (.int (0 : Int32)), (.int pt)]) (rest := []) (lenOf pd_23 rfl) rfl (by show 2 * 0 + _ ≤ _; exact Nat.le_of_eq rfl) (hb hby at_302) (fun _ _ => ⟨rfl, e232, (by decide : 25 + 0 ≤ _), (by decide : 17488 + 0 ≤ _)⟩)
  dsimp only [Pt.U, Pt.locs, Pt.cells, Pt.slots] at X247 l247 y247 z247 st247 hQ247
  subst l247 y247 z247
  obtain ⟨rfl, Nq247, eq247⟩ := hQ247
  have N247 := Fr.app N232 Nq247
  have r247 : own_R p e below _ _ T247 (mkF m 305 #[.val (.int pa), .val (.int pb), .val (.int p1), .val (.int p2), .val (.int pk), .val (.int pf), .val (.ref b2), .val (.int pn1), .val (.int pn2), .val (.ref b49), .val (.ref b96), .val (.ref b147), .val (.int pt), .unset, .unset, .unset] [(.int (1 : Int32))]) := r245.trans fun z_ kt => st247 _ kt
  have e247 : T247.heap = h232 := eq247
  have r248 : own_R p e below _ _ T247 (mkF m 333 #[.val (.int pa), .val (.int pb), .val (.int p1), .val (.int p2), .val (.int pk), .val (.int pf), .val (.ref b2), .val (.int pn1), .val (.int pn2), .val (.ref b49), .val (.ref b96), .val (.ref b147), .val (.int pt), .val (.int ((pf &&& (255 : Int32)) % (pt + (1 : Int32)))), .val (.int (((pf.toUInt32 >>> ((8 : Int32) &&& 31).toUInt32).toInt32) &&& (7 : Int32))), .unset] []) := r247.trans fun z_ kt => by
    refine XS.ifYes X247.here hx rfl (pc0 := 305) (pc' := 310) rfl (hb hby at_305) rfl ((if0 _ _).trans (feq (by decide : ¬ ((1 : Int32) = (0 : Int32)))).2) (by decide) (by decide) ?_
    refine XS.iload X247.here hx rfl (hb hby at_310) rfl ?_
    refine XS.sipush X247.here hx rfl (hb hby at_312) ?_
    refine XS.iand X247.here hx rfl (hb hby at_315) rfl ?_
    refine XS.iload X247.here hx rfl (hb hby at_316) rfl ?_
    refine XS.iconst X247.here hx rfl (hb hby at_318) ?_
    refine XS.iadd X247.here hx rfl (hb hby at_319) rfl ?_
    refine iremM X247 hx rfl (hb hby at_320) rfl (own_t1 hT) ?_
    refine XS.istore X247.here hx rfl (hb hby at_321) rfl (l' := #[.val (.int pa), .val (.int pb), .val (.int p1), .val (.int p2), .val (.int pk), .val (.int pf), .val (.ref b2), .val (.int pn1), .val (.int pn2), .val (.ref b49), .val (.ref b96), .val (.ref b147), .val (.int pt), .val (.int ((pf &&& (255 : Int32)) % (pt + (1 : Int32)))), .unset, .unset]) rfl ?_
    refine XS.iload X247.here hx rfl (hb hby at_323) rfl ?_
    refine XS.bipush X247.here hx rfl (hb hby at_325) ?_
    refine XS.iushr X247.here hx rfl (hb hby at_327) rfl ?_
    refine XS.bipush X247.here hx rfl (hb hby at_328) ?_
    refine XS.iand X247.here hx rfl (hb hby at_330) rfl ?_
    refine XS.istore X247.here hx rfl (hb hby at_331) rfl (l' := #[.val (.int pa), .val (.int pb), .val (.int p1), .val (.int p2), .val (.int pk), .val (.int pf), .val (.ref b2), .val (.int pn1), .val (.int pn2), .val (.ref b49), .val (.ref b96), .val (.ref b147), .val (.int pt), .val (.int ((pf &&& (255 : Int32)) % (pt + (1 : Int32)))), .val (.int (((pf.toUInt32 >>> ((8 : Int32) &&& 31).toUInt32).toInt32) &&& (7 : Int32))), .unset]) rfl ?_
    exact kt
  obtain ⟨pr, hpr⟩ : ∃ z, z = ((pf &&& (255 : Int32)) % (pt + (1 : Int32))) := ⟨_, rfl⟩
  rw [← hpr] at r248
  obtain ⟨pw, hpw⟩ : ∃ z, z = (((pf.toUInt32 >>> ((8 : Int32) &&& 31).toUInt32).toInt32) &&& (7 : Int32)) := ⟨_, rfl⟩
  rw [← hpw] at r248
  have hF := own_from hT hpr
  have hW' := own_most hpw
  have f249 := (p215_2.keep Kq232 nin0)
  by_cases hno : (0 : Int32) < lcmpW (jc2_rB - (pr.toInt64)) (pw.toInt64)
  · skip
    have f250 := (p215_1.keep Kq232 nin0)
    have f251 := (p215_4.keep Kq232 nin0)
    have hst4 : (((([] ++ ys_A.map Value.ref) ++ ys_B.map Value.ref)).all fun _ => true) = true ∧ ∀ i, i < ((([] ++ ys_A.map Value.ref) ++ ys_B.map Value.ref)).length → ∃ y : Addr, ((([] ++ ys_A.map Value.ref) ++ ys_B.map Value.ref)).getD i .null = .ref y ∧ Exa Z h232 y "java/lang/String" := own_hst2 p60_4 p109_4 f239 f240 f241 f242 f243 f244
    have f252 := (f222.keep Kq232)
    have r253 : own_R p e below _ _ T247 (mkF m 340 #[.val (.int pa), .val (.int pb), .val (.int p1), .val (.int p2), .val (.int pk), .val (.int pf), .val (.ref b2), .val (.int pn1), .val (.int pn2), .val (.ref b49), .val (.ref b96), .val (.ref b147), .val (.int pt), .val (.int pr), .val (.int pw), .unset] [(.int pw), (.long (pr.toInt64)), (.ref b147)]) := r248.trans fun z_ kt => by
      refine XS.aload X247.here hx rfl (hb hby at_333) rfl rfl ?_
      refine XS.iload X247.here hx rfl (hb hby at_335) rfl ?_
      refine XS.i2l X247.here hx rfl (hb hby at_337) rfl ?_
      refine XS.iload X247.here hx rfl (hb hby at_338) rfl ?_
      exact kt
    obtain ⟨cq254, kq254, q254a, q254b, q254c⟩ := isOf hZ e247 f252
    obtain ⟨_, _, ⟨T254, L254, cc254, n254⟩, -, X254, ⟨Lc254, hQ254, l254, y254, z254⟩, st254⟩ := X247.virtualBack hx (y := (⟨"com/example/kleinbasel/kleinbasel/content/RecentChanges", "since", "(JI)Ljava/util/List;"⟩ : MethodName)) (z := (⟨"com/example/kleinbasel/kleinbasel/content/RecentChanges", "since", "(JI)Ljava/util/List;"⟩ : MethodName)) hown (mvT hZ (hw _ (own_g (i := 117) rfl))) (mvT hZ (hw _ (own_g (i := 118) rfl))) (notFace_of_selects (args := #[]) (mvT hZ (hw _ (own_g (i := 120) rfl)))) (mvT hZ (hw _ (own_g (i := 120) rfl))) (mvT hZ (hw _ (own_g (i := 119) rfl))) (by decide) (backOf (W := 0) (rm_sinceN l Z a0 hw [] (b147) ((pr.toInt64)) (pw) (jc2_rB) h232 n0 O232 (f249) (hno)) hZ (hw _ (own_g (i := 121) rfl)) (hw _ (own_g (i := 54) rfl)) (by decide) (by decide)) q254a q254c (g := (mkF m 340 #[.val (.int pa), .val (.int pb), .val (.int p1), .val (.int p2), .val (.int pk), .val (.int pf), .val (.ref b2), .val (.int pn1), .val (.int pn2), .val (.ref b49), .val (.ref b96), .val (.ref b147), .val (.int pt), .val (.int pr), .val (.int pw), .unset] [(.int pw), (.long (pr.toInt64)), (.ref b147)])) rfl (by rw [hml]; rfl) (Steps.refl _) (argsL := [(.long (pr.toInt64)), (.int pw)]) (rest := []) (lenOf pd_22 rfl) rfl (by show 2 * 0 + _ ≤ _; exact Nat.le_of_eq rfl) (hb hby at_340) (fun _ _ => ⟨rfl, e247, (by decide : 25 + 0 ≤ _), (by decide : 17488 + 0 ≤ _)⟩)
    dsimp only [Pt.U, Pt.locs, Pt.cells, Pt.slots] at X254 l254 y254 z254 st254 hQ254
    subst l254 y254 z254
    obtain ⟨rfl, Nq254, eq254⟩ := hQ254
    have N254 := Fr.app N247 Nq254
    have r254 : own_R p e below _ _ T254 (mkF m 343 #[.val (.int pa), .val (.int pb), .val (.int p1), .val (.int p2), .val (.int pk), .val (.int pf), .val (.ref b2), .val (.int pn1), .val (.int pn2), .val (.ref b49), .val (.ref b96), .val (.ref b147), .val (.int pt), .val (.int pr), .val (.int pw), .unset] [.null]) := r253.trans fun z_ kt => st254.trans kt
    have e254 : T254.heap = h232 := eq254
    have r255 : own_R p e below _ _ T254 (mkF m 365 #[.val (.int pa), .val (.int pb), .val (.int p1), .val (.int p2), .val (.int pk), .val (.int pf), .val (.ref b2), .val (.int pn1), .val (.int pn2), .val (.ref b49), .val (.ref b96), .val (.ref b147), .val (.int pt), .val (.int pr), .val (.int pw), .val .null] [(.int (1 : Int32))]) := r254.trans fun z_ kt => by
      refine XS.astore X254.here hx rfl (hb hby at_343) rfl rfl (l' := #[.val (.int pa), .val (.int pb), .val (.int p1), .val (.int p2), .val (.int pk), .val (.int pf), .val (.ref b2), .val (.int pn1), .val (.int pn2), .val (.ref b49), .val (.ref b96), .val (.ref b147), .val (.int pt), .val (.int pr), .val (.int pw), .val .null]) rfl ?_
      refine XS.iload X254.here hx rfl (hb hby at_345) rfl ?_
      refine XS.iload X254.here hx rfl (hb hby at_347) rfl ?_
      refine XS.isub X254.here hx rfl (hb hby at_349) rfl ?_
      refine XS.iload X254.here hx rfl (hb hby at_350) rfl ?_
      refine XS.icmpNo X254.here hx rfl (hb hby at_352) rfl (tlt (own_rest1 hC hT hF hW' hno : pw < (pt - pr))).2.2.2 ?_
      refine XS.aload X254.here hx rfl (hb hby at_355) rfl rfl ?_
      refine XS.ifnonnullNo X254.here hx rfl (hb hby at_357) rfl ?_
      refine XS.iconst X254.here hx rfl (hb hby at_360) ?_
      refine XS.goto X254.here hx rfl (pc0 := 361) (pc' := 365) rfl (hb hby at_361) (by decide) (by decide) ?_
      exact kt
    obtain ⟨fs_, hr_, hrun_, hended_, hW_, hsame_⟩ := X254.leave (v := some (.int (1 : Int32))) (fun h => by rw [Bd.returns] at h; cases h)
    refine ⟨_, _, pre0 _ (r255 _ ?_), hrun_, hended_, _, _, rfl, ?_, ⟨_, rfl⟩, hW_, hsame_.mono (by decide) (by decide)⟩
    · exact retN X254 hx (t := .boolean) Bd.returns (by simp) (hb hby at_365) hr_
    · show Q_law Z pa pb p1 p2 pk pf pcs s_DE s_EE kd kE h0 n0 _ T254.heap _
      rw [e254]
      exact ⟨rfl, N254⟩
  · skip
    have f256 := (p215_1.keep Kq232 nin0)
    have f257 := (p215_4.keep Kq232 nin0)
    have hst4 : (((([] ++ ys_A.map Value.ref) ++ ys_B.map Value.ref)).all fun _ => true) = true ∧ ∀ i, i < ((([] ++ ys_A.map Value.ref) ++ ys_B.map Value.ref)).length → ∃ y : Addr, ((([] ++ ys_A.map Value.ref) ++ ys_B.map Value.ref)).getD i .null = .ref y ∧ Exa Z h232 y "java/lang/String" := own_hst2 p60_4 p109_4 f239 f240 f241 f242 f243 f244
    have f258 := (f222.keep Kq232)
    have r259 : own_R p e below _ _ T247 (mkF m 340 #[.val (.int pa), .val (.int pb), .val (.int p1), .val (.int p2), .val (.int pk), .val (.int pf), .val (.ref b2), .val (.int pn1), .val (.int pn2), .val (.ref b49), .val (.ref b96), .val (.ref b147), .val (.int pt), .val (.int pr), .val (.int pw), .unset] [(.int pw), (.long (pr.toInt64)), (.ref b147)]) := r248.trans fun z_ kt => by
      refine XS.aload X247.here hx rfl (hb hby at_333) rfl rfl ?_
      refine XS.iload X247.here hx rfl (hb hby at_335) rfl ?_
      refine XS.i2l X247.here hx rfl (hb hby at_337) rfl ?_
      refine XS.iload X247.here hx rfl (hb hby at_338) rfl ?_
      exact kt
    have f260 := (p215_3.keep Kq232 nin0)
    obtain ⟨cq261, kq261, q261a, q261b, q261c⟩ := isOf hZ e247 f258
    obtain ⟨_, _, ⟨T261, L261, cc261, n261⟩, -, X261, ⟨Lc261, hQ261, l261, y261, z261⟩, st261⟩ := X247.virtualBack hx (y := (⟨"com/example/kleinbasel/kleinbasel/content/RecentChanges", "since", "(JI)Ljava/util/List;"⟩ : MethodName)) (z := (⟨"com/example/kleinbasel/kleinbasel/content/RecentChanges", "since", "(JI)Ljava/util/List;"⟩ : MethodName)) hown (mvT hZ (hw _ (own_g (i := 117) rfl))) (mvT hZ (hw _ (own_g (i := 118) rfl))) (notFace_of_selects (args := #[]) (mvT hZ (hw _ (own_g (i := 120) rfl)))) (mvT hZ (hw _ (own_g (i := 120) rfl))) (mvT hZ (hw _ (own_g (i := 119) rfl))) (by decide) (backOf (W := 0) (rm_sinceL l Z a0 hw [] (b147) ((pr.toInt64)) (pw) (kp2_k2) (kk2_k2) (jc2_rB) (zk2_k2) ((([] ++ ys_A.map Value.ref) ++ ys_B.map Value.ref)) (s_EE) (kE) h232 n0 O232 (f258) (f256) (f249) (f260) (f257) (p206_4) (own_kl p60_4 p109_4 p215_6) (S_ArrayList_EMPTY_ELEMENTDATA) (OV_s_EE) (hno) (own_jf hC hF) (hst4)) hZ (hw _ (own_g (i := 121) rfl)) (hw _ (own_g (i := 54) rfl)) (by decide) (by decide)) q261a q261c (g := (mkF m 340 #[.val (.int pa), .val (.int pb), .val (.int p1), .val (.int p2), .val (.int pk), .val (.int pf), .val (.ref b2), .val (.int pn1), .val (.int pn2), .val (.ref b49), .val (.ref b96), .val (.ref b147), .val (.int pt), .val (.int pr), .val (.int pw), .unset] [(.int pw), (.long (pr.toInt64)), (.ref b147)])) rfl (by rw [hml]; rfl) (Steps.refl _) (argsL := [(.long (pr.toInt64)), (.int pw)]) (rest := []) (lenOf pd_22 rfl) rfl (by show 2 * 0 + _ ≤ _; exact Nat.le_of_eq rfl) (hb hby at_340) (fun _ _ => ⟨rfl, e247, (by decide : 25 + 2 ≤ _), (by decide : 17488 + 9 ≤ _)⟩)
    dsimp only [Pt.U, Pt.locs, Pt.cells, Pt.slots] at X261 l261 y261 z261 st261 hQ261
    subst l261 y261 z261
    obtain ⟨h261, e261⟩ : ∃ z, T261.heap = z := ⟨_, rfl⟩
    rw [e261] at hQ261
    obtain ⟨b_s2, arr_s2, ka_s2, z_s2, ps_s2, rfl, Nq261, Kq261, p261_0, p261_1, p261_2, p261_3, p261_4, p261_5⟩ := hQ261
    have N261 := Fr.app N247 Nq261
    have r261 : own_R p e below _ _ T261 (mkF m 343 #[.val (.int pa), .val (.int pb), .val (.int p1), .val (.int p2), .val (.int pk), .val (.int pf), .val (.ref b2), .val (.int pn1), .val (.int pn2), .val (.ref b49), .val (.ref b96), .val (.ref b147), .val (.int pt), .val (.int pr), .val (.int pw), .unset] [(.ref b_s2)]) := r259.trans fun z_ kt => st261.trans kt
    have ne_b2_b_s2 : b2 ≠ b_s2 := Nat.ne_of_lt (Nat.lt_of_lt_of_le f246.lt p261_0)
    have ne_b_4_b_s2 : b_4 ≠ b_s2 := Nat.ne_of_lt (Nat.lt_of_lt_of_le f239.lt p261_0)
    have ne_b_9_b_s2 : b_9 ≠ b_s2 := Nat.ne_of_lt (Nat.lt_of_lt_of_le f240.lt p261_0)
    have ne_b_15_b_s2 : b_15 ≠ b_s2 := Nat.ne_of_lt (Nat.lt_of_lt_of_le f241.lt p261_0)
    have ne_b_22_b_s2 : b_22 ≠ b_s2 := Nat.ne_of_lt (Nat.lt_of_lt_of_le f242.lt p261_0)
    have ne_b_30_b_s2 : b_30 ≠ b_s2 := Nat.ne_of_lt (Nat.lt_of_lt_of_le f243.lt p261_0)
    have ne_b_39_b_s2 : b_39 ≠ b_s2 := Nat.ne_of_lt (Nat.lt_of_lt_of_le f244.lt p261_0)
    have f262 := (f234.keep Kq232)
    have ne_b49_b_s2 : b49 ≠ b_s2 := Nat.ne_of_lt (Nat.lt_of_lt_of_le f262.lt p261_0)
    have f263 := (f235.keep Kq232 nin0)
    have ne_arr_A_b_s2 : arr_A ≠ b_s2 := Nat.ne_of_lt (Nat.lt_of_lt_of_le f263.lt p261_0)
    have f264 := (f236.keep Kq232)
    have ne_b96_b_s2 : b96 ≠ b_s2 := Nat.ne_of_lt (Nat.lt_of_lt_of_le f264.lt p261_0)
    have f265 := (f237.keep Kq232 nin0)
    have ne_arr_B_b_s2 : arr_B ≠ b_s2 := Nat.ne_of_lt (Nat.lt_of_lt_of_le f265.lt p261_0)
    have ne_b147_b_s2 : b147 ≠ b_s2 := Nat.ne_of_lt (Nat.lt_of_lt_of_le f258.lt p261_0)
    have f266 := (f238.keep Kq232 nin0)
    have ne_kp2_k1_b_s2 : kp2_k1 ≠ b_s2 := Nat.ne_of_lt (Nat.lt_of_lt_of_le f266.lt p261_0)
    have ne_kp2_k2_b_s2 : kp2_k2 ≠ b_s2 := Nat.ne_of_lt (Nat.lt_of_lt_of_le f257.lt p261_0)
    have ne_b_s1_b_s2 : b_s1 ≠ b_s2 := Nat.ne_of_lt (Nat.lt_of_lt_of_le p232_1.lt p261_0)
    have ne_arr_s1_b_s2 : arr_s1 ≠ b_s2 := Nat.ne_of_lt (Nat.lt_of_lt_of_le p232_4.lt p261_0)
    have g_b_s2 : n0 ≤ b_s2 := Nat.le_trans (own_old_size O232) p261_0
    have O261 := O232.keep Kq261 all0
    have ne_b_s2_arr_s2 : b_s2 ≠ arr_s2 := (own_ne_arv p261_1 (hw _ (own_g (i := 29) rfl)) p261_4)
    have f267 := (f239.keep Kq261)
    have f268 := (f240.keep Kq261)
    have f269 := (f241.keep Kq261)
    have f270 := (f242.keep Kq261)
    have f271 := (f243.keep Kq261)
    have f272 := (f244.keep Kq261)
    have hm2 := own_matchG p60_4 p109_4 hT hF (c_i2l pr) (own_pl2 hT hF) p261_5 f267 f268 f269 f270 f271 f272
    have r273 : own_R p e below _ _ T261 (mkF m 379 #[.val (.int pa), .val (.int pb), .val (.int p1), .val (.int p2), .val (.int pk), .val (.int pf), .val (.ref b2), .val (.int pn1), .val (.int pn2), .val (.ref b49), .val (.ref b96), .val (.ref b147), .val (.int pt), .val (.int pr), .val (.int pw), .val (.ref b_s2)] [(.int (pt - pr)), (.int pr), (.int pn1), (.ref b2), (.ref b_s2)]) := r261.trans fun z_ kt => by
      refine XS.astore X261.here hx rfl (hb hby at_343) rfl rfl (l' := #[.val (.int pa), .val (.int pb), .val (.int p1), .val (.int p2), .val (.int pk), .val (.int pf), .val (.ref b2), .val (.int pn1), .val (.int pn2), .val (.ref b49), .val (.ref b96), .val (.ref b147), .val (.int pt), .val (.int pr), .val (.int pw), .val (.ref b_s2)]) rfl ?_
      refine XS.iload X261.here hx rfl (hb hby at_345) rfl ?_
      refine XS.iload X261.here hx rfl (hb hby at_347) rfl ?_
      refine XS.isub X261.here hx rfl (hb hby at_349) rfl ?_
      refine XS.iload X261.here hx rfl (hb hby at_350) rfl ?_
      refine XS.icmpYes X261.here hx rfl (pc0 := 352) (pc' := 366) rfl (hb hby at_352) rfl (flt (own_rest0 hC hT hF hW' hno : ¬ (pw < (pt - pr)))).2.2.2 (by decide) (by decide) ?_
      refine XS.aload X261.here hx rfl (hb hby at_366) rfl rfl ?_
      refine XS.aload X261.here hx rfl (hb hby at_368) rfl rfl ?_
      refine XS.iload X261.here hx rfl (hb hby at_370) rfl ?_
      refine XS.iload X261.here hx rfl (hb hby at_372) rfl ?_
      refine XS.iload X261.here hx rfl (hb hby at_374) rfl ?_
      refine XS.iload X261.here hx rfl (hb hby at_376) rfl ?_
      refine XS.isub X261.here hx rfl (hb hby at_378) rfl ?_
      exact kt
    have f274 := (f246.keep Kq261 nin0)
    obtain ⟨_, _, ⟨T275, L275, cc275, n275⟩, -, X275, ⟨Lc275, hQ275, l275, y275, z275⟩, st275⟩ := Jvm.LawKit.callS X261 hx (y := (⟨"com/example/kleinbasel/kleinbasel/content/RecentChangesKeepAtLeastPinLaw", "matches", "(Ljava/util/List;[Ljava/lang/String;III)Z"⟩ : MethodName)) hown (mvT hZ (hw _ (own_g (i := 137) rfl))) (mvT hZ (hw _ (own_g (i := 138) rfl))) (mvT hZ (hw _ (own_g (i := 139) rfl))) (mvT hZ (hw _ (own_g (i := 140) rfl))) (by decide) (backOf (W := 0) (rm_matches l Z a0 hw [] (b_s2) (b2) (pn1) (pr) ((pt - pr)) (arr_s2) (ka_s2) (z_s2) (((([] ++ ys_A.map Value.ref) ++ ys_B.map Value.ref).drop (pr.toInt64).toInt.toNat)) (k2) (b_4) (b_9) (b_15) (b_22) (b_30) (b_39) h261 n0 O261 (p261_1) (p261_2) ((by rw [hm2.1]; exact p261_3)) (p261_4) (f274) (hm2.2.1) (hm2.2.2)) hZ (hw _ (own_g (i := 140) rfl)) (hw _ (own_g (i := 139) rfl)) (by decide) (by decide)) (g := (mkF m 379 #[.val (.int pa), .val (.int pb), .val (.int p1), .val (.int p2), .val (.int pk), .val (.int pf), .val (.ref b2), .val (.int pn1), .val (.int pn2), .val (.ref b49), .val (.ref b96), .val (.ref b147), .val (.int pt), .val (.int pr), .val (.int pw), .val (.ref b_s2)] [(.int (pt - pr)), (.int pr), (.int pn1), (.ref b2), (.ref b_s2)])) rfl (by rw [hml]; rfl) (argsL := [(.ref b_s2), (.ref b2), (.int pn1), (.int pr), (.int (pt - pr))]) (rest := []) (lenOf pd_23 rfl) rfl (by show 2 * 0 + _ ≤ _; exact Nat.le_of_eq rfl) (hb hby at_379) (fun _ _ => ⟨rfl, e261, (by decide : 27 + 0 ≤ _), (by decide : 17497 + 0 ≤ _)⟩)
    dsimp only [Pt.U, Pt.locs, Pt.cells, Pt.slots] at X275 l275 y275 z275 st275 hQ275
    subst l275 y275 z275
    obtain ⟨rfl, Nq275, eq275⟩ := hQ275
    have N275 := Fr.app N261 Nq275
    have r275 : own_R p e below _ _ T275 (mkF m 382 #[.val (.int pa), .val (.int pb), .val (.int p1), .val (.int p2), .val (.int pk), .val (.int pf), .val (.ref b2), .val (.int pn1), .val (.int pn2), .val (.ref b49), .val (.ref b96), .val (.ref b147), .val (.int pt), .val (.int pr), .val (.int pw), .val (.ref b_s2)] [(.int (1 : Int32))]) := r273.trans fun z_ kt => st275 _ kt
    have e275 : T275.heap = h261 := eq275
    obtain ⟨fs_, hr_, hrun_, hended_, hW_, hsame_⟩ := X275.leave (v := some (.int (1 : Int32))) (fun h => by rw [Bd.returns] at h; cases h)
    refine ⟨_, _, pre0 _ (r275 _ ?_), hrun_, hended_, _, _, rfl, ?_, ⟨_, rfl⟩, hW_, hsame_.mono (by decide) (by decide)⟩
    · exact retN X275 hx (t := .boolean) Bd.returns (by simp) (hb hby at_382) hr_
    · show Q_law Z pa pb p1 p2 pk pf pcs s_DE s_EE kd kE h0 n0 _ T275.heap _
      rw [e275]
      exact ⟨rfl, N275⟩

set_option maxRecDepth 65536 in
set_option maxHeartbeats 40000000 in
theorem comes_1 {Post : Tables → Env → Array Value → State → Outcome → State → Prop} (hpost : ∀ tb e args s v u, (limb_1_1.after args s (.returned v) u = true ∧ limb_1_2.after args s (.returned v) u = true ∧ True) → FrameEnd s (.returned v) u (Jvm.fieldLocs frame_1_writes args s ++ Jvm.arrayLocs frame_1_arrays args s ++ Jvm.staticLocs frame_1_statics s) 64 26880 → Post tb e args s (.returned v) u) :
    ArmFor flags0 classFile x code maxLocals ret World_1 tables_1 room_1 Calls_1 rest_1 Pre_1 Post := by
  intro l hfl _ _ p e ha hc hk s m args below hf hA hF happ hP
  obtain ⟨hcalls, hrest, hpre⟩ := hP
  obtain ⟨-, -, -, hnamed, -, -, -, hat⟩ := (Spec.applies_iff hf).mp happ
  obtain ⟨hg, hn⟩ := and_e (Cond.before_iff.mp (show (Jvm.Cond.and given_1 narrow_1).before args s = true from hpre))
  obtain ⟨u1a, u1b⟩ := and_e hg
  obtain ⟨u2a, u2b⟩ := and_e u1b
  obtain ⟨u3a, u3b⟩ := and_e u2b
  obtain ⟨u4a, u4b⟩ := and_e u3b
  obtain ⟨u5a, u5b⟩ := and_e u4b
  obtain ⟨u6a, u6b⟩ := and_e u5b
  obtain ⟨w0, w1, w2, w3, w4, w5, rfl⟩ : ∃ w0 w1 w2 w3 w4 w5 : Value, args = #[w0, w1, w2, w3, w4, w5] := by
    have hs : args.size = 6 := by simpa [Cond.value, given_1] using u1a
    obtain ⟨L⟩ := args
    match L, hs with
    | [w0, w1, w2, w3, w4, w5], _ => exact ⟨w0, w1, w2, w3, w4, w5, rfl⟩
  have hw := fun d (hd : d ∈ tables_1) => atoms_spec (ws := Jvm.Cond.code x code maxLocals ret :: tables_1) hat d (List.mem_cons_of_mem _ hd)
  have hfit : Fit s := fun {y c} hc i hi => by
    obtain ⟨ha, rfl⟩ := Array.getElem?_eq_some_iff.mp hc
    have q := List.all_eq_true.mp ((Array.all_eq_true_iff_forall_mem.mp hF) _ (Array.getElem_mem ha)) i (List.mem_range.mpr hi)
    simpa [Array.getElem?_eq_getElem hi] using q
  obtain ⟨hsets, hown0⟩ := atoms_of _ (rest_1_c_eq ▸ (show rest_1_c.before _ s = true from hrest))
  have hr0 := Cond.before_iff.mp hown0
  obtain ⟨i0, ei0⟩ := is_v u2a
  obtain rfl : w0 = (.int i0) := Option.some.inj ei0
  obtain ⟨i1, ei1⟩ := is_v u3a
  obtain rfl : w1 = (.int i1) := Option.some.inj ei1
  obtain ⟨i2, ei2⟩ := is_v u4a
  obtain rfl : w2 = (.int i2) := Option.some.inj ei2
  obtain ⟨i3, ei3⟩ := is_v u5a
  obtain rfl : w3 = (.int i3) := Option.some.inj ei3
  obtain ⟨i4, ei4⟩ := is_v u6a
  obtain rfl : w4 = (.int i4) := Option.some.inj ei4
  obtain ⟨i5, ei5⟩ := is_v u6b
  obtain rfl : w5 = (.int i5) := Option.some.inj ei5
  obtain ⟨pcs, ev_c⟩ := is_v (Cond.before_iff.mp (hsets _ (List.mem_of_getElem? (i := 1) rfl)))
  have S_c := Sta.start ev_c (Or.inl (hsets _ (List.mem_of_getElem? (i := 0) rfl)))
  have hcs : ¬ (pcs = (0 : Int32)) := own_notz ev_c (Cond.before_iff.mp (hsets _ (List.mem_of_getElem? (i := 2) rfl)))
  obtain ⟨s_DE, ev_s_DE⟩ := arr_v (Cond.before_iff.mp (hsets _ (List.mem_of_getElem? (i := 15) rfl)))
  have S_s_DE := Sta.start ev_s_DE (Or.inr ⟨(hw _ (own_g (i := 30) rfl)), (hsets _ (List.mem_of_getElem? (i := 11) rfl))⟩)
  obtain ⟨k_s_DE, OV_s_DE⟩ := own_arr0 (dv := .null) hfit ev_s_DE (Cond.before_iff.mp (hsets _ (List.mem_of_getElem? (i := 15) rfl))) (Cond.before_iff.mp (hsets _ (List.mem_of_getElem? (i := 17) rfl)))
  obtain ⟨s_EE, ev_s_EE⟩ := arr_v (Cond.before_iff.mp (hsets _ (List.mem_of_getElem? (i := 12) rfl)))
  have S_s_EE := Sta.start ev_s_EE (Or.inl (hsets _ (List.mem_of_getElem? (i := 10) rfl)))
  obtain ⟨k_s_EE, OV_s_EE⟩ := own_arr0 (dv := .null) hfit ev_s_EE (Cond.before_iff.mp (hsets _ (List.mem_of_getElem? (i := 12) rfl))) (Cond.before_iff.mp (hsets _ (List.mem_of_getElem? (i := 14) rfl)))
  obtain ⟨n, o, h1, h2, h3, _, L, rfl, ⟨rfl, N⟩, hq⟩ := rm_law l s _ hw tables_1 i0 i1 i2 i3 i4 i5 pcs s_DE s_EE k_s_DE k_s_EE s.heap s.heap.size (Old.start s) (S_c) (hcs) (S_s_DE) (S_s_EE) (OV_s_DE) (OV_s_EE) p e ha hc hk s m _ below hf ((Spec.applies_iff_loose hf).mp happ).1 ⟨rfl, State.Warmed39.refl s, rfl⟩ trivial
  refine ⟨n, _, h1, h2, h3, hpost _ _ _ _ _ _ ⟨Cond.after_iff.mpr rfl, Cond.after_iff.mpr (eq_i res_at (Term.int_eval (1)) rfl), trivial⟩ ⟨hq.1, hq.2.1, (hq.2.2.sift fun y hy => Or.inr (N y hy)).mono (by decide) (by decide)⟩⟩
theorem main_1_1 : Claimed_1_1 := comes_1 fun _ _ _ _ _ _ h hF => ⟨h.1, hF⟩
theorem main_1_2 : Claimed_1_2 := comes_1 fun _ _ _ _ _ _ h hF => ⟨h.2.1, hF⟩

end Jvm.Pilot.@@N@@
namespace Jvm.Pilot.@@N@@
open Jvm Jvm.ClassFile Sem Op Lib Jvm.Free Jvm.Stand Jvm.Pilot.@@N@@.Jvm.D
/-! MADE BY PROGRAM (witnessworld.py) out of the Statement's table words and the real class files: 31 classes; the members and pool entries that the words name. The judged class is class 1, her method 1. -/
namespace start1
open Jvm.ClassFile
def u (s : String) : CpInfo := .utf8 (stringToUtf16 s)
/-- a pool by its gaps: so many unusable entries, then the entry; so many at the end -/
def gap : Nat → List CpInfo → List CpInfo
  | 0, r => r
  | n + 1, r => .unusable :: gap n r
def poolList (es : List (Nat × CpInfo)) (last : Nat) : List CpInfo := es.foldr (fun e r => gap e.1 (e.2 :: r)) (gap last [])
def pool (es : List (Nat × CpInfo)) (last : Nat) : Array CpInfo := ⟨poolList es last⟩
def fileOf (pool : Array CpInfo) (this : Nat) (attrs : Array Attribute := #[]) (ms : Array MethodInfo := #[]) (fl : Nat := 33) (sup : Nat := 0) (ifs : Array Nat := #[]) (fds : Array FieldInfo := #[]) : ClassFile where
  minorVersion := 0
  majorVersion := 65
  constantPool := pool
  accessFlags := fl
  thisClass := this
  superClass := sup
  interfaces := ifs
  fields := fds
  methods := ms
  attributes := attrs
def plain (name : String) (sup : Option ClassId) : Class where
  name := name
  kind := .ordinary
  loader := none
  accessFlags := 33
  super := sup
  interfaces := #[]
  cf := none
  fields := #[]
  methods := #[]
  instanceTypes := #[]
  staticTypes := #[]
  resolved := #[]
  callSites := []
  init := .initialized
  statics := none
  mirror := none

def pool0 : Array CpInfo := pool [(5, u "<init>"), (0, u "()V"), (1, .class_ 10), (1, u "java/lang/Object")] 113

def k0c0 : Code := { maxStack := 0, maxLocals := 1, code := object_method_1_code, exceptionTable := #[], attributes := #[] }
def k0m0 : Method := { name := "<init>", desc := "()V", sig := { parameters := [], returnType := none }, accessFlags := 1, code := some k0c0 }
/-- java/lang/Object -/
def k0 : Class := { plain "java/lang/Object" none with
  accessFlags := 33
  interfaces := #[]
  cf := some (fileOf pool0 8 #[] #[{ accessFlags := 1, nameIndex := 5, descriptorIndex := 6, attributes := #[] }] 33 0 #[] #[])
  fields := #[]
  methods := #[k0m0]
  instanceTypes := #[]
  staticTypes := #[]
  resolved := Array.replicate 124 none
  statics := none }

def pool1 : Array CpInfo := pool [(2, .class_ 4), (0, .nameAndType 5 6), (0, u "java/lang/Object"), (0, u "<init>"), (0, u "()V"), (0, .class_ 8), (0, u "java/lang/String"), (0, .methodref 7 10), (0, .nameAndType 11 12), (0, u "valueOf"), (0, u "(C)Ljava/lang/String;"), (0, .class_ 14), (0, u "java/util/ArrayList"), (0, .methodref 13 3), (0, .methodref 13 17), (0, .nameAndType 18 19), (0, u "add"), (0, u "(Ljava/lang/Object;)Z"), (0, .class_ 21), (0, u "com/example/kleinbasel/kleinbasel/content/RecentChanges"), (0, .methodref 20 3), (0, .methodref 20 24), (0, .nameAndType 18 25), (0, u "(Ljava/util/Collection;)V"), (0, .methodref 20 27), (0, .nameAndType 28 29), (0, u "keepAtLeast"), (0, u "(I)V"), (0, .methodref 20 31), (0, .nameAndType 32 33), (0, u "count"), (0, u "()J"), (0, .methodref 20 35), (0, .nameAndType 36 37), (0, u "since"), (0, u "(JI)Ljava/util/List;"), (0, .methodref 39 40), (0, .class_ 41), (0, .nameAndType 42 43), (0, u "com/example/kleinbasel/kleinbasel/content/RecentChangesKeepAtLeastPinLaw"), (0, u "matches"), (0, u "(Ljava/util/List;[Ljava/lang/String;III)Z"), (0, .interfaceMethodref 45 46), (0, .class_ 47), (0, .nameAndType 48 49), (0, u "java/util/List"), (0, u "size"), (0, u "()I"), (0, .methodref 39 51), (0, .nameAndType 52 53), (0, u "expected"), (0, u "([Ljava/lang/String;II)Ljava/lang/String;"), (0, .interfaceMethodref 45 55), (0, .nameAndType 56 57), (0, u "get"), (0, u "(I)Ljava/lang/Object;"), (0, .methodref 7 59), (0, .nameAndType 60 19), (0, u "equals"), (2, u "law"), (0, u "(IIIIII)Z")] 7

def k1m0 : Method := { name := "<init>", desc := "()V", sig := { parameters := [], returnType := none }, accessFlags := 1, code := none }
def k1c1 : Code := { maxStack := 6, maxLocals := 16, code := code, exceptionTable := #[], attributes := #[] }
def k1m1 : Method := { name := "law", desc := "(IIIIII)Z", sig := { parameters := [.int, .int, .int, .int, .int, .int], returnType := some .boolean }, accessFlags := 9, code := some k1c1 }
def k1c2 : Code := { maxStack := 3, maxLocals := 3, code := method_3_code, exceptionTable := #[], attributes := #[] }
def k1m2 : Method := { name := "expected", desc := "([Ljava/lang/String;II)Ljava/lang/String;", sig := { parameters := [(.array (.object "java/lang/String")), .int, .int], returnType := some (.object "java/lang/String") }, accessFlags := 10, code := some k1c2 }
def k1c3 : Code := { maxStack := 4, maxLocals := 5, code := method_4_code, exceptionTable := #[], attributes := #[] }
def k1m3 : Method := { name := "matches", desc := "(Ljava/util/List;[Ljava/lang/String;III)Z", sig := { parameters := [(.object "java/util/List"), (.array (.object "java/lang/String")), .int, .int, .int], returnType := some .boolean }, accessFlags := 10, code := some k1c3 }
/-- com/example/kleinbasel/kleinbasel/content/RecentChangesKeepAtLeastPinLaw -/
def k1 : Class := { plain "com/example/kleinbasel/kleinbasel/content/RecentChangesKeepAtLeastPinLaw" (some 0) with
  accessFlags := 49
  interfaces := #[]
  cf := some (fileOf pool1 39 #[] #[{ accessFlags := 1, nameIndex := 5, descriptorIndex := 6, attributes := #[] }, { accessFlags := 9, nameIndex := 63, descriptorIndex := 64, attributes := #[] }, { accessFlags := 10, nameIndex := 52, descriptorIndex := 53, attributes := #[] }, { accessFlags := 10, nameIndex := 42, descriptorIndex := 43, attributes := #[] }] 49 2 #[] #[])
  fields := #[]
  methods := #[k1m0, k1m1, k1m2, k1m3]
  instanceTypes := #[]
  staticTypes := #[]
  resolved := Array.replicate 72 none
  statics := none }

def pool2 : Array CpInfo := pool [(1, .class_ 2), (0, u "java/io/Serializable"), (0, .class_ 4), (0, u "java/lang/Object")] 2

/-- java/io/Serializable -/
def k2 : Class := { plain "java/io/Serializable" (some 0) with
  accessFlags := 1537
  interfaces := #[]
  cf := some (fileOf pool2 1 #[] #[] 1537 3 #[] #[])
  fields := #[]
  methods := #[]
  instanceTypes := #[]
  staticTypes := #[]
  resolved := Array.replicate 7 none
  statics := none }

def pool3 : Array CpInfo := pool [(1, .class_ 2), (0, u "java/lang/Comparable"), (0, .class_ 4), (0, u "java/lang/Object")] 7

/-- java/lang/Comparable -/
def k3 : Class := { plain "java/lang/Comparable" (some 0) with
  accessFlags := 1537
  interfaces := #[]
  cf := some (fileOf pool3 1 #[] #[] 1537 3 #[] #[])
  fields := #[]
  methods := #[]
  instanceTypes := #[]
  staticTypes := #[]
  resolved := Array.replicate 12 none
  statics := none }

def pool4 : Array CpInfo := pool [(2, .class_ 4), (1, u "java/lang/CharSequence"), (42, .class_ 48), (0, u "java/lang/CharSequence$1CodePointIterator"), (10, .class_ 60), (0, u "java/lang/CharSequence$1CharIterator"), (5, .class_ 67), (0, u "java/lang/Object")] 63

/-- java/lang/CharSequence -/
def k4 : Class := { plain "java/lang/CharSequence" (some 0) with
  accessFlags := 1537
  interfaces := #[]
  cf := some (fileOf pool4 2 #[.nestMembers #[47, 59]] #[] 1537 66 #[] #[])
  fields := #[]
  methods := #[]
  instanceTypes := #[]
  staticTypes := #[]
  resolved := Array.replicate 131 none
  statics := none }

def pool5 : Array CpInfo := pool [(1, .class_ 2), (0, u "java/lang/constant/Constable"), (0, .class_ 4), (0, u "java/lang/Object")] 6

/-- java/lang/constant/Constable -/
def k5 : Class := { plain "java/lang/constant/Constable" (some 0) with
  accessFlags := 1537
  interfaces := #[]
  cf := some (fileOf pool5 1 #[] #[] 1537 3 #[] #[])
  fields := #[]
  methods := #[]
  instanceTypes := #[]
  staticTypes := #[]
  resolved := Array.replicate 11 none
  statics := none }

def pool6 : Array CpInfo := pool [(1, .class_ 2), (0, u "java/lang/constant/ConstantDesc"), (0, .class_ 4), (0, u "java/lang/Object")] 32

/-- java/lang/constant/ConstantDesc -/
def k6 : Class := { plain "java/lang/constant/ConstantDesc" (some 0) with
  accessFlags := 1537
  interfaces := #[]
  cf := some (fileOf pool6 1 #[] #[] 1537 3 #[] #[])
  fields := #[]
  methods := #[]
  instanceTypes := #[]
  staticTypes := #[]
  resolved := Array.replicate 37 none
  statics := none }

def pool7 : Array CpInfo := pool [(1, .methodref 2 3), (0, .class_ 4), (0, .nameAndType 5 6), (0, u "java/lang/Object"), (0, u "<init>"), (0, u "()V"), (2, .fieldref 10 11), (0, .class_ 12), (0, .nameAndType 13 14), (0, u "java/lang/String"), (0, u "value"), (0, u "[B"), (0, .fieldref 10 16), (0, .nameAndType 17 18), (0, u "coder"), (0, u "B"), (2, u "hash"), (0, u "I"), (2, u "hashIsZero"), (0, u "Z"), (11, .fieldref 10 39), (0, .nameAndType 40 26), (0, u "COMPACT_STRINGS"), (12, u "toBytes"), (53, .class_ 109), (1, u "java/lang/StringLatin1"), (99, .methodref 10 210), (0, .nameAndType 5 211), (0, u "([BB)V"), (157, u "(C)Z"), (173, u "equals"), (29, u "(Ljava/lang/Object;)Z"), (1, .class_ 576), (0, u "java/lang/CharSequence"), (22, u "CASE_INSENSITIVE_ORDER"), (0, u "Ljava/util/Comparator;"), (181, u "valueOf"), (0, u "(C)Ljava/lang/String;"), (231, .methodref 107 1016), (0, .nameAndType 1017 369), (0, u "canEncode"), (0, .methodref 107 1019), (0, .nameAndType 53 1020), (0, u "(C)[B"), (80, u "serialPersistentFields"), (0, u "[Ljava/io/ObjectStreamField;"), (0, .class_ 1104), (0, u "java/lang/String$CaseInsensitiveComparator"), (1, .class_ 1107), (0, u "java/io/Serializable"), (0, .class_ 1109), (0, u "java/lang/Comparable"), (0, .class_ 1111), (0, u "java/lang/constant/Constable"), (0, .class_ 1113), (0, u "java/lang/constant/ConstantDesc"), (2, u "serialVersionUID"), (0, u "J"), (3, u "REPL"), (0, u "C"), (2, u "LATIN1"), (1, u "UTF16")] 323

def k7m0 : Method := { name := "<init>", desc := "()V", sig := { parameters := [], returnType := none }, accessFlags := 1, code := none }
def k7c1 : Code := { maxStack := 2, maxLocals := 3, code := jdk_42_method_66_code, exceptionTable := #[], attributes := #[] }
def k7m1 : Method := { name := "equals", desc := "(Ljava/lang/Object;)Z", sig := { parameters := [(.object "java/lang/Object")], returnType := some .boolean }, accessFlags := 1, code := some k7c1 }
def k7c2 : Code := { maxStack := 4, maxLocals := 1, code := jdk_42_method_139_code, exceptionTable := #[], attributes := #[] }
def k7m2 : Method := { name := "valueOf", desc := "(C)Ljava/lang/String;", sig := { parameters := [.char], returnType := some (.object "java/lang/String") }, accessFlags := 9, code := some k7c2 }
def k7c3 : Code := { maxStack := 2, maxLocals := 3, code := jdk_42_method_151_code, exceptionTable := #[], attributes := #[] }
def k7m3 : Method := { name := "<init>", desc := "([BB)V", sig := { parameters := [(.array .byte), .byte], returnType := none }, accessFlags := 0, code := some k7c3 }
/-- java/lang/String -/
def k7 : Class := { plain "java/lang/String" (some 0) with
  accessFlags := 49
  interfaces := #[2, 3, 4, 5, 6]
  cf := some (fileOf pool7 10 #[.nestMembers #[1103]] #[{ accessFlags := 1, nameIndex := 5, descriptorIndex := 6, attributes := #[] }, { accessFlags := 1, nameIndex := 543, descriptorIndex := 573, attributes := #[] }, { accessFlags := 9, nameIndex := 782, descriptorIndex := 783, attributes := #[] }, { accessFlags := 0, nameIndex := 5, descriptorIndex := 211, attributes := #[] }] 49 2 #[1106, 1108, 575, 1110, 1112] #[{ accessFlags := 18, nameIndex := 13, descriptorIndex := 14, attributes := #[] }, { accessFlags := 18, nameIndex := 17, descriptorIndex := 18, attributes := #[] }, { accessFlags := 2, nameIndex := 21, descriptorIndex := 22, attributes := #[] }, { accessFlags := 2, nameIndex := 25, descriptorIndex := 26, attributes := #[] }, { accessFlags := 26, nameIndex := 1116, descriptorIndex := 1117, attributes := #[] }, { accessFlags := 24, nameIndex := 40, descriptorIndex := 26, attributes := #[] }, { accessFlags := 26, nameIndex := 1101, descriptorIndex := 1102, attributes := #[] }, { accessFlags := 26, nameIndex := 1121, descriptorIndex := 1122, attributes := #[] }, { accessFlags := 25, nameIndex := 599, descriptorIndex := 600, attributes := #[] }, { accessFlags := 24, nameIndex := 1125, descriptorIndex := 18, attributes := #[] }, { accessFlags := 24, nameIndex := 1127, descriptorIndex := 18, attributes := #[] }])
  fields := #[{ name := "value", type := (.array .byte), accessFlags := 18, slot := 0, constantValue := 0 }, { name := "coder", type := .byte, accessFlags := 18, slot := 1, constantValue := 0 }, { name := "hash", type := .int, accessFlags := 2, slot := 2, constantValue := 0 }, { name := "hashIsZero", type := .boolean, accessFlags := 2, slot := 3, constantValue := 0 }, { name := "serialVersionUID", type := .long, accessFlags := 26, slot := 0, constantValue := 0 }, { name := "COMPACT_STRINGS", type := .boolean, accessFlags := 24, slot := 1, constantValue := 0 }, { name := "serialPersistentFields", type := (.array (.object "java/io/ObjectStreamField")), accessFlags := 26, slot := 2, constantValue := 0 }, { name := "REPL", type := .char, accessFlags := 26, slot := 3, constantValue := 0 }, { name := "CASE_INSENSITIVE_ORDER", type := (.object "java/util/Comparator"), accessFlags := 25, slot := 4, constantValue := 0 }, { name := "LATIN1", type := .byte, accessFlags := 24, slot := 5, constantValue := 0 }, { name := "UTF16", type := .byte, accessFlags := 24, slot := 6, constantValue := 0 }]
  methods := #[k7m0, k7m1, k7m2, k7m3]
  instanceTypes := #[(.array .byte), .byte, .int, .boolean]
  staticTypes := #[.long, .boolean, (.array (.object "java/io/ObjectStreamField")), .char, (.object "java/util/Comparator"), .byte, .byte]
  resolved := Array.replicate 1451 none
  statics := some 0 }

def pool8 : Array CpInfo := pool [(4, .class_ 6), (1, u "java/lang/Object"), (0, u "<init>"), (0, u "()V"), (5, .class_ 16), (1, u "java/lang/StringLatin1"), (73, u "canEncode"), (14, u "(C)Z"), (15, u "$assertionsDisabled"), (0, u "Z"), (98, .class_ 223), (1, u "java/lang/StringLatin1$LinesSpliterator"), (156, u "toBytes"), (1, u "(C)[B"), (7, .class_ 391), (0, u "java/lang/StringLatin1$CharsSpliterator")] 3

def k8m0 : Method := { name := "<init>", desc := "()V", sig := { parameters := [], returnType := none }, accessFlags := 0, code := none }
def k8c1 : Code := { maxStack := 2, maxLocals := 1, code := jdk_43_method_3_code, exceptionTable := #[], attributes := #[] }
def k8m1 : Method := { name := "canEncode", desc := "(C)Z", sig := { parameters := [.char], returnType := some .boolean }, accessFlags := 9, code := some k8c1 }
def k8c2 : Code := { maxStack := 4, maxLocals := 1, code := jdk_43_method_46_code, exceptionTable := #[], attributes := #[] }
def k8m2 : Method := { name := "toBytes", desc := "(C)[B", sig := { parameters := [.char], returnType := some (.array .byte) }, accessFlags := 9, code := some k8c2 }
/-- java/lang/StringLatin1 -/
def k8 : Class := { plain "java/lang/StringLatin1" (some 0) with
  accessFlags := 48
  interfaces := #[]
  cf := some (fileOf pool8 14 #[.nestMembers #[390, 221]] #[{ accessFlags := 0, nameIndex := 7, descriptorIndex := 8, attributes := #[] }, { accessFlags := 9, nameIndex := 90, descriptorIndex := 105, attributes := #[] }, { accessFlags := 9, nameIndex := 380, descriptorIndex := 382, attributes := #[] }] 48 4 #[] #[{ accessFlags := 4120, nameIndex := 121, descriptorIndex := 122, attributes := #[] }])
  fields := #[{ name := "$assertionsDisabled", type := .boolean, accessFlags := 4120, slot := 0, constantValue := 0 }]
  methods := #[k8m0, k8m1, k8m2]
  instanceTypes := #[]
  staticTypes := #[.boolean]
  resolved := Array.replicate 395 none
  statics := none }

def pool9 : Array CpInfo := pool [(8, .class_ 10), (1, u "java/lang/Iterable"), (24, .class_ 36), (0, u "java/lang/Object")] 25

/-- java/lang/Iterable -/
def k9 : Class := { plain "java/lang/Iterable" (some 0) with
  accessFlags := 1537
  interfaces := #[]
  cf := some (fileOf pool9 8 #[] #[] 1537 35 #[] #[])
  fields := #[]
  methods := #[]
  instanceTypes := #[]
  staticTypes := #[]
  resolved := Array.replicate 62 none
  statics := none }

def pool10 : Array CpInfo := pool [(10, .class_ 12), (1, u "java/util/Collection"), (10, u "iterator"), (0, u "()Ljava/util/Iterator;"), (35, .class_ 61), (0, u "java/lang/Object"), (0, .class_ 63), (0, u "java/lang/Iterable")] 51

def k10m0 : Method := { name := "iterator", desc := "()Ljava/util/Iterator;", sig := { parameters := [], returnType := some (.object "java/util/Iterator") }, accessFlags := 1025, code := none }
/-- java/util/Collection -/
def k10 : Class := { plain "java/util/Collection" (some 0) with
  accessFlags := 1537
  interfaces := #[9]
  cf := some (fileOf pool10 10 #[] #[{ accessFlags := 1025, nameIndex := 23, descriptorIndex := 24, attributes := #[] }] 1537 60 #[62] #[])
  fields := #[]
  methods := #[k10m0]
  instanceTypes := #[]
  staticTypes := #[]
  resolved := Array.replicate 115 none
  statics := none }

def pool11 : Array CpInfo := pool [(1, .methodref 2 3), (0, .class_ 4), (0, .nameAndType 5 6), (0, u "java/lang/Object"), (0, u "<init>"), (0, u "()V"), (1, .class_ 10), (1, u "java/util/AbstractCollection"), (66, .class_ 78), (0, u "java/util/Collection")] 81

def k11c0 : Code := { maxStack := 1, maxLocals := 1, code := jdk_22_method_1_code, exceptionTable := #[], attributes := #[] }
def k11m0 : Method := { name := "<init>", desc := "()V", sig := { parameters := [], returnType := none }, accessFlags := 4, code := some k11c0 }
/-- java/util/AbstractCollection -/
def k11 : Class := { plain "java/util/AbstractCollection" (some 0) with
  accessFlags := 1057
  interfaces := #[10]
  cf := some (fileOf pool11 8 #[] #[{ accessFlags := 4, nameIndex := 5, descriptorIndex := 6, attributes := #[] }] 1057 2 #[77] #[])
  fields := #[]
  methods := #[k11m0]
  instanceTypes := #[]
  staticTypes := #[]
  resolved := Array.replicate 160 none
  statics := none }

def pool12 : Array CpInfo := pool [(8, .class_ 10), (1, u "java/util/SequencedCollection"), (15, .class_ 27), (0, u "java/lang/Object"), (0, .class_ 29), (0, u "java/util/Collection")] 27

/-- java/util/SequencedCollection -/
def k12 : Class := { plain "java/util/SequencedCollection" (some 0) with
  accessFlags := 1537
  interfaces := #[10]
  cf := some (fileOf pool12 8 #[] #[] 1537 26 #[28] #[])
  fields := #[]
  methods := #[]
  instanceTypes := #[]
  staticTypes := #[]
  resolved := Array.replicate 57 none
  statics := none }

def pool13 : Array CpInfo := pool [(8, .class_ 10), (1, u "java/util/List"), (49, u "add"), (3, u "(Ljava/lang/Object;)Z"), (10, u "get"), (0, u "(I)Ljava/lang/Object;"), (2, u "size"), (0, u "()I"), (22, .class_ 104), (0, u "java/lang/Object"), (15, .class_ 121), (0, u "java/util/SequencedCollection")] 129

def k13m0 : Method := { name := "size", desc := "()I", sig := { parameters := [], returnType := some .int }, accessFlags := 1025, code := none }
def k13m1 : Method := { name := "add", desc := "(Ljava/lang/Object;)Z", sig := { parameters := [(.object "java/lang/Object")], returnType := some .boolean }, accessFlags := 1025, code := none }
def k13m2 : Method := { name := "get", desc := "(I)Ljava/lang/Object;", sig := { parameters := [.int], returnType := some (.object "java/lang/Object") }, accessFlags := 1025, code := none }
/-- java/util/List -/
def k13 : Class := { plain "java/util/List" (some 0) with
  accessFlags := 1537
  interfaces := #[12]
  cf := some (fileOf pool13 8 #[] #[{ accessFlags := 1025, nameIndex := 79, descriptorIndex := 80, attributes := #[] }, { accessFlags := 1025, nameIndex := 60, descriptorIndex := 64, attributes := #[] }, { accessFlags := 1025, nameIndex := 75, descriptorIndex := 76, attributes := #[] }] 1537 103 #[120] #[])
  fields := #[]
  methods := #[k13m0, k13m1, k13m2]
  instanceTypes := #[]
  staticTypes := #[]
  resolved := Array.replicate 251 none
  statics := none }

def pool14 : Array CpInfo := pool [(1, .methodref 2 3), (0, .class_ 4), (0, .nameAndType 5 6), (0, u "java/util/AbstractCollection"), (0, u "<init>"), (0, u "()V"), (0, .fieldref 8 9), (0, .class_ 10), (0, .nameAndType 11 12), (0, u "java/util/AbstractList"), (0, u "modCount"), (0, u "I"), (64, .class_ 78), (0, u "java/util/AbstractList$Itr"), (3, .class_ 83), (0, u "java/util/AbstractList$ListItr"), (9, .class_ 94), (0, u "java/util/AbstractList$RandomAccessSubList"), (3, .class_ 99), (0, u "java/util/AbstractList$SubList"), (33, .class_ 134), (0, u "java/util/List"), (73, .class_ 209), (0, u "java/util/AbstractList$SubList$1"), (0, .class_ 211), (0, u "java/util/AbstractList$RandomAccessSpliterator")] 6

def k14c0 : Code := { maxStack := 2, maxLocals := 1, code := jdk_39_method_1_code, exceptionTable := #[], attributes := #[] }
def k14m0 : Method := { name := "<init>", desc := "()V", sig := { parameters := [], returnType := none }, accessFlags := 4, code := some k14c0 }
/-- java/util/AbstractList -/
def k14 : Class := { plain "java/util/AbstractList" (some 11) with
  accessFlags := 1057
  interfaces := #[13]
  cf := some (fileOf pool14 8 #[.nestMembers #[93, 98, 208, 210, 82, 77]] #[{ accessFlags := 4, nameIndex := 5, descriptorIndex := 6, attributes := #[] }] 1057 2 #[133] #[{ accessFlags := 132, nameIndex := 11, descriptorIndex := 12, attributes := #[] }])
  fields := #[{ name := "modCount", type := .int, accessFlags := 132, slot := 0, constantValue := 0 }]
  methods := #[k14m0]
  instanceTypes := #[.int]
  staticTypes := #[]
  resolved := Array.replicate 218 none
  statics := none }

def pool15 : Array CpInfo := pool [(1, .class_ 2), (0, u "java/util/RandomAccess"), (0, .class_ 4), (0, u "java/lang/Object")] 2

/-- java/util/RandomAccess -/
def k15 : Class := { plain "java/util/RandomAccess" (some 0) with
  accessFlags := 1537
  interfaces := #[]
  cf := some (fileOf pool15 1 #[] #[] 1537 3 #[] #[])
  fields := #[]
  methods := #[]
  instanceTypes := #[]
  staticTypes := #[]
  resolved := Array.replicate 7 none
  statics := none }

def pool16 : Array CpInfo := pool [(1, .class_ 2), (0, u "java/lang/Cloneable"), (0, .class_ 4), (0, u "java/lang/Object")] 2

/-- java/lang/Cloneable -/
def k16 : Class := { plain "java/lang/Cloneable" (some 0) with
  accessFlags := 1537
  interfaces := #[]
  cf := some (fileOf pool16 1 #[] #[] 1537 3 #[] #[])
  fields := #[]
  methods := #[]
  instanceTypes := #[]
  staticTypes := #[]
  resolved := Array.replicate 7 none
  statics := none }

def pool17 : Array CpInfo := pool [(1, .methodref 2 3), (0, .class_ 4), (0, .nameAndType 5 6), (0, u "java/util/AbstractList"), (0, u "<init>"), (0, u "()V"), (0, .class_ 8), (0, u "java/lang/Object"), (0, .fieldref 10 11), (0, .class_ 12), (0, .nameAndType 13 14), (0, u "java/util/ArrayList"), (0, u "elementData"), (0, u "[Ljava/lang/Object;"), (0, .fieldref 10 16), (0, .nameAndType 17 14), (0, u "EMPTY_ELEMENTDATA"), (21, .fieldref 10 40), (0, .nameAndType 41 14), (0, u "DEFAULTCAPACITY_EMPTY_ELEMENTDATA"), (5, u "()[Ljava/lang/Object;"), (0, .fieldref 10 49), (0, .nameAndType 50 51), (0, u "size"), (0, u "I"), (11, .fieldref 10 64), (0, .nameAndType 65 51), (0, u "modCount"), (3, .methodref 10 70), (0, .nameAndType 71 72), (0, u "grow"), (0, u "(I)[Ljava/lang/Object;"), (6, .methodref 80 81), (0, .class_ 82), (0, .nameAndType 83 84), (0, u "java/lang/Math"), (0, u "max"), (0, u "(II)I"), (11, u "(Ljava/lang/Object;)Z"), (21, .methodref 119 120), (0, .class_ 121), (0, .nameAndType 122 84), (0, u "java/util/Objects"), (0, u "checkIndex"), (0, .methodref 10 124), (0, .nameAndType 13 125), (0, u "(I)Ljava/lang/Object;"), (3, .methodref 10 130), (0, .nameAndType 71 47), (0, .methodref 10 132), (0, .nameAndType 133 134), (0, u "add"), (0, u "(Ljava/lang/Object;[Ljava/lang/Object;I)V"), (3, u "(I)V"), (9, .class_ 149), (0, u "java/util/List"), (16, u "iterator"), (0, u "()Ljava/util/Iterator;"), (18, u "()I"), (75, .class_ 263), (0, u "java/util/ArrayList$ListItr"), (3, .class_ 268), (0, u "java/util/ArrayList$Itr"), (0, .methodref 267 270), (0, .nameAndType 5 271), (0, u "(Ljava/util/ArrayList;)V"), (4, .class_ 277), (0, u "java/util/ArrayList$SubList"), (12, .class_ 291), (0, u "java/util/ArrayList$ArrayListSpliterator"), (37, .class_ 330), (0, u "java/util/RandomAccess"), (0, .class_ 332), (0, u "java/lang/Cloneable"), (0, .class_ 334), (0, u "java/io/Serializable"), (0, u "serialVersionUID"), (0, u "J"), (3, u "DEFAULT_CAPACITY"), (40, u "get"), (118, .class_ 501), (0, u "java/util/ArrayList$SubList$2"), (0, .class_ 503), (0, u "java/util/ArrayList$SubList$1")] 5

def k17c0 : Code := { maxStack := 4, maxLocals := 2, code := jdk_38_method_1_code, exceptionTable := #[], attributes := #[] }
def k17m0 : Method := { name := "<init>", desc := "(I)V", sig := { parameters := [.int], returnType := none }, accessFlags := 1, code := some k17c0 }
def k17c1 : Code := { maxStack := 2, maxLocals := 1, code := jdk_38_method_2_code, exceptionTable := #[], attributes := #[] }
def k17m1 : Method := { name := "<init>", desc := "()V", sig := { parameters := [], returnType := none }, accessFlags := 1, code := some k17c1 }
def k17c2 : Code := { maxStack := 4, maxLocals := 4, code := jdk_38_method_6_code, exceptionTable := #[], attributes := #[] }
def k17m2 : Method := { name := "grow", desc := "(I)[Ljava/lang/Object;", sig := { parameters := [.int], returnType := some (.array (.object "java/lang/Object")) }, accessFlags := 2, code := some k17c2 }
def k17c3 : Code := { maxStack := 3, maxLocals := 1, code := jdk_38_method_7_code, exceptionTable := #[], attributes := #[] }
def k17m3 : Method := { name := "grow", desc := "()[Ljava/lang/Object;", sig := { parameters := [], returnType := some (.array (.object "java/lang/Object")) }, accessFlags := 2, code := some k17c3 }
def k17c4 : Code := { maxStack := 1, maxLocals := 1, code := jdk_38_method_8_code, exceptionTable := #[], attributes := #[] }
def k17m4 : Method := { name := "size", desc := "()I", sig := { parameters := [], returnType := some .int }, accessFlags := 1, code := some k17c4 }
def k17c5 : Code := { maxStack := 2, maxLocals := 2, code := jdk_38_method_18_code, exceptionTable := #[], attributes := #[] }
def k17m5 : Method := { name := "elementData", desc := "(I)Ljava/lang/Object;", sig := { parameters := [.int], returnType := some (.object "java/lang/Object") }, accessFlags := 0, code := some k17c5 }
def k17c6 : Code := { maxStack := 2, maxLocals := 2, code := jdk_38_method_20_code, exceptionTable := #[], attributes := #[] }
def k17m6 : Method := { name := "get", desc := "(I)Ljava/lang/Object;", sig := { parameters := [.int], returnType := some (.object "java/lang/Object") }, accessFlags := 1, code := some k17c6 }
def k17c7 : Code := { maxStack := 3, maxLocals := 4, code := jdk_38_method_24_code, exceptionTable := #[], attributes := #[] }
def k17m7 : Method := { name := "add", desc := "(Ljava/lang/Object;[Ljava/lang/Object;I)V", sig := { parameters := [(.object "java/lang/Object"), (.array (.object "java/lang/Object")), .int], returnType := none }, accessFlags := 2, code := some k17c7 }
def k17c8 : Code := { maxStack := 4, maxLocals := 2, code := jdk_38_method_25_code, exceptionTable := #[], attributes := #[] }
def k17m8 : Method := { name := "add", desc := "(Ljava/lang/Object;)Z", sig := { parameters := [(.object "java/lang/Object")], returnType := some .boolean }, accessFlags := 1, code := some k17c8 }
def k17c9 : Code := { maxStack := 3, maxLocals := 1, code := jdk_38_method_55_code, exceptionTable := #[], attributes := #[] }
def k17m9 : Method := { name := "iterator", desc := "()Ljava/util/Iterator;", sig := { parameters := [], returnType := some (.object "java/util/Iterator") }, accessFlags := 1, code := some k17c9 }
/-- java/util/ArrayList -/
def k17 : Class := { plain "java/util/ArrayList" (some 14) with
  accessFlags := 33
  interfaces := #[13, 15, 16, 2]
  cf := some (fileOf pool17 10 #[.nestMembers #[290, 276, 500, 502, 262, 267]] #[{ accessFlags := 1, nameIndex := 5, descriptorIndex := 138, attributes := #[] }, { accessFlags := 1, nameIndex := 5, descriptorIndex := 6, attributes := #[] }, { accessFlags := 2, nameIndex := 71, descriptorIndex := 72, attributes := #[] }, { accessFlags := 2, nameIndex := 71, descriptorIndex := 47, attributes := #[] }, { accessFlags := 1, nameIndex := 50, descriptorIndex := 186, attributes := #[] }, { accessFlags := 0, nameIndex := 13, descriptorIndex := 125, attributes := #[] }, { accessFlags := 1, nameIndex := 381, descriptorIndex := 125, attributes := #[] }, { accessFlags := 2, nameIndex := 133, descriptorIndex := 134, attributes := #[] }, { accessFlags := 1, nameIndex := 133, descriptorIndex := 96, attributes := #[] }, { accessFlags := 1, nameIndex := 166, descriptorIndex := 167, attributes := #[] }] 33 2 #[148, 329, 331, 333] #[{ accessFlags := 26, nameIndex := 335, descriptorIndex := 336, attributes := #[] }, { accessFlags := 26, nameIndex := 340, descriptorIndex := 51, attributes := #[] }, { accessFlags := 26, nameIndex := 17, descriptorIndex := 14, attributes := #[] }, { accessFlags := 26, nameIndex := 41, descriptorIndex := 14, attributes := #[] }, { accessFlags := 128, nameIndex := 13, descriptorIndex := 14, attributes := #[] }, { accessFlags := 2, nameIndex := 50, descriptorIndex := 51, attributes := #[] }])
  fields := #[{ name := "serialVersionUID", type := .long, accessFlags := 26, slot := 0, constantValue := 0 }, { name := "DEFAULT_CAPACITY", type := .int, accessFlags := 26, slot := 1, constantValue := 0 }, { name := "EMPTY_ELEMENTDATA", type := (.array (.object "java/lang/Object")), accessFlags := 26, slot := 2, constantValue := 0 }, { name := "DEFAULTCAPACITY_EMPTY_ELEMENTDATA", type := (.array (.object "java/lang/Object")), accessFlags := 26, slot := 3, constantValue := 0 }, { name := "elementData", type := (.array (.object "java/lang/Object")), accessFlags := 128, slot := 1, constantValue := 0 }, { name := "size", type := .int, accessFlags := 2, slot := 2, constantValue := 0 }]
  methods := #[k17m0, k17m1, k17m2, k17m3, k17m4, k17m5, k17m6, k17m7, k17m8, k17m9]
  instanceTypes := #[.int, (.array (.object "java/lang/Object")), .int]
  staticTypes := #[.long, .int, (.array (.object "java/lang/Object")), (.array (.object "java/lang/Object"))]
  resolved := Array.replicate 509 none
  statics := some 1 }

def pool18 : Array CpInfo := pool [(3, .methodref 4 5), (0, .class_ 6), (0, .nameAndType 7 8), (0, u "java/lang/Object"), (0, u "<init>"), (0, u "()V"), (0, .class_ 10), (0, u "com/example/kleinbasel/kleinbasel/content/RecentChanges"), (0, .class_ 12), (0, u "java/lang/String"), (0, .fieldref 9 14), (0, .nameAndType 15 16), (0, u "kept"), (0, u "[Ljava/lang/String;"), (0, .fieldref 9 18), (0, .nameAndType 19 20), (0, u "count"), (0, u "J"), (0, .methodref 9 22), (0, .nameAndType 23 24), (0, u "oldestKept"), (0, u "()J"), (0, .long 2), (1, .methodref 28 29), (0, .class_ 30), (0, .nameAndType 31 32), (0, u "java/lang/Math"), (0, u "max"), (0, u "(JJ)J"), (0, .long 2147483639), (1, .methodref 28 36), (0, .nameAndType 37 32), (0, u "min"), (0, .fieldref 9 39), (0, .nameAndType 40 20), (0, u "forgottenOnGrowth"), (0, .interfaceMethodref 42 43), (0, .class_ 44), (0, .nameAndType 45 46), (0, u "java/util/Collection"), (0, u "iterator"), (0, u "()Ljava/util/Iterator;"), (0, .interfaceMethodref 48 49), (0, .class_ 50), (0, .nameAndType 51 52), (0, u "java/util/Iterator"), (0, u "hasNext"), (0, u "()Z"), (0, .interfaceMethodref 48 54), (0, .nameAndType 55 56), (0, u "next"), (0, u "()Ljava/lang/Object;"), (0, .class_ 58), (0, u "java/util/ArrayList"), (0, .methodref 57 60), (0, .nameAndType 7 61), (0, u "(I)V"), (0, .interfaceMethodref 63 64), (0, .class_ 65), (0, .nameAndType 66 67), (0, u "java/util/List"), (0, u "add"), (0, u "(Ljava/lang/Object;)Z"), (0, u "LEAST_KEPT"), (0, u "I"), (2, u "MOST_KEPT"), (3, u "keepAtLeast"), (2, u "(Ljava/util/Collection;)V"), (2, u "since"), (0, u "(JI)Ljava/util/List;")] 3

def k18c0 : Code := { maxStack := 2, maxLocals := 1, code := prog_14_method_1_code, exceptionTable := #[], attributes := #[] }
def k18m0 : Method := { name := "<init>", desc := "()V", sig := { parameters := [], returnType := none }, accessFlags := 0, code := some k18c0 }
def k18c1 : Code := { maxStack := 2, maxLocals := 1, code := prog_14_method_2_code, exceptionTable := #[], attributes := #[] }
def k18m1 : Method := { name := "count", desc := "()J", sig := { parameters := [], returnType := some .long }, accessFlags := 0, code := some k18c1 }
def k18c2 : Code := { maxStack := 7, maxLocals := 7, code := prog_14_method_3_code, exceptionTable := #[], attributes := #[] }
def k18m2 : Method := { name := "keepAtLeast", desc := "(I)V", sig := { parameters := [.int], returnType := none }, accessFlags := 0, code := some k18c2 }
def k18c3 : Code := { maxStack := 5, maxLocals := 4, code := prog_14_method_4_code, exceptionTable := #[], attributes := #[] }
def k18m3 : Method := { name := "add", desc := "(Ljava/util/Collection;)V", sig := { parameters := [(.object "java/util/Collection")], returnType := none }, accessFlags := 0, code := some k18c3 }
def k18c4 : Code := { maxStack := 6, maxLocals := 7, code := prog_14_method_5_code, exceptionTable := #[], attributes := #[] }
def k18m4 : Method := { name := "since", desc := "(JI)Ljava/util/List;", sig := { parameters := [.long, .int], returnType := some (.object "java/util/List") }, accessFlags := 0, code := some k18c4 }
def k18c5 : Code := { maxStack := 6, maxLocals := 1, code := prog_14_method_6_code, exceptionTable := #[], attributes := #[] }
def k18m5 : Method := { name := "oldestKept", desc := "()J", sig := { parameters := [], returnType := some .long }, accessFlags := 2, code := some k18c5 }
/-- com/example/kleinbasel/kleinbasel/content/RecentChanges -/
def k18 : Class := { plain "com/example/kleinbasel/kleinbasel/content/RecentChanges" (some 0) with
  accessFlags := 48
  interfaces := #[]
  cf := some (fileOf pool18 9 #[] #[{ accessFlags := 0, nameIndex := 7, descriptorIndex := 8, attributes := #[] }, { accessFlags := 0, nameIndex := 19, descriptorIndex := 24, attributes := #[] }, { accessFlags := 0, nameIndex := 76, descriptorIndex := 61, attributes := #[] }, { accessFlags := 0, nameIndex := 66, descriptorIndex := 79, attributes := #[] }, { accessFlags := 0, nameIndex := 82, descriptorIndex := 83, attributes := #[] }, { accessFlags := 2, nameIndex := 23, descriptorIndex := 24, attributes := #[] }] 48 4 #[] #[{ accessFlags := 24, nameIndex := 68, descriptorIndex := 69, attributes := #[] }, { accessFlags := 26, nameIndex := 72, descriptorIndex := 69, attributes := #[] }, { accessFlags := 2, nameIndex := 15, descriptorIndex := 16, attributes := #[] }, { accessFlags := 2, nameIndex := 19, descriptorIndex := 20, attributes := #[] }, { accessFlags := 2, nameIndex := 40, descriptorIndex := 20, attributes := #[] }])
  fields := #[{ name := "LEAST_KEPT", type := .int, accessFlags := 24, slot := 0, constantValue := 0 }, { name := "MOST_KEPT", type := .int, accessFlags := 26, slot := 1, constantValue := 0 }, { name := "kept", type := (.array (.object "java/lang/String")), accessFlags := 2, slot := 0, constantValue := 0 }, { name := "count", type := .long, accessFlags := 2, slot := 1, constantValue := 0 }, { name := "forgottenOnGrowth", type := .long, accessFlags := 2, slot := 2, constantValue := 0 }]
  methods := #[k18m0, k18m1, k18m2, k18m3, k18m4, k18m5]
  instanceTypes := #[(.array (.object "java/lang/String")), .long, .long]
  staticTypes := #[.int, .int]
  resolved := Array.replicate 87 none
  statics := none }

def pool19 : Array CpInfo := pool [(16, .class_ 18), (1, u "java/util/Iterator"), (0, u "hasNext"), (0, u "()Z"), (2, u "next"), (0, u "()Ljava/lang/Object;"), (6, .class_ 32), (0, u "java/lang/Object")] 20

def k19m0 : Method := { name := "hasNext", desc := "()Z", sig := { parameters := [], returnType := some .boolean }, accessFlags := 1025, code := none }
def k19m1 : Method := { name := "next", desc := "()Ljava/lang/Object;", sig := { parameters := [], returnType := some (.object "java/lang/Object") }, accessFlags := 1025, code := none }
/-- java/util/Iterator -/
def k19 : Class := { plain "java/util/Iterator" (some 0) with
  accessFlags := 1537
  interfaces := #[]
  cf := some (fileOf pool19 16 #[] #[{ accessFlags := 1025, nameIndex := 19, descriptorIndex := 20, attributes := #[] }, { accessFlags := 1025, nameIndex := 23, descriptorIndex := 24, attributes := #[] }] 1537 31 #[] #[])
  fields := #[]
  methods := #[k19m0, k19m1]
  instanceTypes := #[]
  staticTypes := #[]
  resolved := Array.replicate 53 none
  statics := none }

def pool20 : Array CpInfo := pool [(1, .fieldref 2 3), (0, .class_ 4), (0, .nameAndType 5 6), (0, u "java/util/ArrayList$Itr"), (0, u "this$0"), (0, u "Ljava/util/ArrayList;"), (0, .methodref 8 9), (0, .class_ 10), (0, .nameAndType 11 12), (0, u "java/lang/Object"), (0, u "<init>"), (0, u "()V"), (0, .fieldref 2 14), (0, .nameAndType 15 16), (0, u "lastRet"), (0, u "I"), (0, .fieldref 18 19), (0, .class_ 20), (0, .nameAndType 21 16), (0, u "java/util/ArrayList"), (0, u "modCount"), (0, .fieldref 2 23), (0, .nameAndType 24 16), (0, u "expectedModCount"), (0, .fieldref 2 26), (0, .nameAndType 27 16), (0, u "cursor"), (0, .fieldref 18 29), (0, .nameAndType 30 16), (0, u "size"), (0, .methodref 2 32), (0, .nameAndType 33 12), (0, u "checkForComodification"), (3, .fieldref 18 38), (0, .nameAndType 39 40), (0, u "elementData"), (0, u "[Ljava/lang/Object;"), (28, .class_ 70), (0, u "java/util/Iterator"), (0, u "(Ljava/util/ArrayList;)V"), (8, u "hasNext"), (0, u "()Z"), (1, u "next"), (0, u "()Ljava/lang/Object;")] 19

def k20c0 : Code := { maxStack := 2, maxLocals := 2, code := jdk_49_method_1_code, exceptionTable := #[], attributes := #[] }
def k20m0 : Method := { name := "<init>", desc := "(Ljava/util/ArrayList;)V", sig := { parameters := [(.object "java/util/ArrayList")], returnType := none }, accessFlags := 0, code := some k20c0 }
def k20c1 : Code := { maxStack := 2, maxLocals := 1, code := jdk_49_method_2_code, exceptionTable := #[], attributes := #[] }
def k20m1 : Method := { name := "hasNext", desc := "()Z", sig := { parameters := [], returnType := some .boolean }, accessFlags := 1, code := some k20c1 }
def k20c2 : Code := { maxStack := 4, maxLocals := 3, code := jdk_49_method_3_code, exceptionTable := #[], attributes := #[] }
def k20m2 : Method := { name := "next", desc := "()Ljava/lang/Object;", sig := { parameters := [], returnType := some (.object "java/lang/Object") }, accessFlags := 1, code := some k20c2 }
def k20c3 : Code := { maxStack := 2, maxLocals := 1, code := jdk_49_method_6_code, exceptionTable := #[], attributes := #[] }
def k20m3 : Method := { name := "checkForComodification", desc := "()V", sig := { parameters := [], returnType := none }, accessFlags := 16, code := some k20c3 }
/-- java/util/ArrayList$Itr -/
def k20 : Class := { plain "java/util/ArrayList$Itr" (some 0) with
  accessFlags := 32
  interfaces := #[19]
  cf := some (fileOf pool20 2 #[.nestHost 18] #[{ accessFlags := 0, nameIndex := 11, descriptorIndex := 71, attributes := #[] }, { accessFlags := 1, nameIndex := 80, descriptorIndex := 81, attributes := #[] }, { accessFlags := 1, nameIndex := 83, descriptorIndex := 84, attributes := #[] }, { accessFlags := 16, nameIndex := 33, descriptorIndex := 12, attributes := #[] }] 32 8 #[69] #[{ accessFlags := 0, nameIndex := 27, descriptorIndex := 16, attributes := #[] }, { accessFlags := 0, nameIndex := 15, descriptorIndex := 16, attributes := #[] }, { accessFlags := 0, nameIndex := 24, descriptorIndex := 16, attributes := #[] }, { accessFlags := 4112, nameIndex := 5, descriptorIndex := 6, attributes := #[] }])
  fields := #[{ name := "cursor", type := .int, accessFlags := 0, slot := 0, constantValue := 0 }, { name := "lastRet", type := .int, accessFlags := 0, slot := 1, constantValue := 0 }, { name := "expectedModCount", type := .int, accessFlags := 0, slot := 2, constantValue := 0 }, { name := "this$0", type := (.object "java/util/ArrayList"), accessFlags := 4112, slot := 3, constantValue := 0 }]
  methods := #[k20m0, k20m1, k20m2, k20m3]
  instanceTypes := #[.int, .int, .int, (.object "java/util/ArrayList")]
  staticTypes := #[]
  resolved := Array.replicate 104 none
  statics := none }

def pool21 : Array CpInfo := pool [(1, .class_ 2), (0, u "java/lang/Math"), (1, .class_ 6), (1, u "java/lang/Object"), (0, u "<init>"), (0, u "()V"), (89, .class_ 100), (1, u "java/lang/Math$RandomNumberGeneratorHolder"), (20, u "(JJ)J"), (50, u "negativeZeroFloatBits"), (0, u "J"), (2, u "negativeZeroDoubleBits"), (21, u "max"), (2, u "min"), (43, u "$assertionsDisabled"), (0, u "Z"), (88, u "(II)I"), (2, u "twoToTheDoubleScaleDown"), (0, u "D"), (4, u "twoToTheDoubleScaleUp"), (9, u "E"), (3, u "PI"), (2, u "TAU"), (2, u "DEGREES_TO_RADIANS"), (0, u "RADIANS_TO_DEGREES")] 94

def k21m0 : Method := { name := "<init>", desc := "()V", sig := { parameters := [], returnType := none }, accessFlags := 2, code := none }
def k21c1 : Code := { maxStack := 2, maxLocals := 2, code := jdk_29_method_65_code, exceptionTable := #[], attributes := #[] }
def k21m1 : Method := { name := "max", desc := "(II)I", sig := { parameters := [.int, .int], returnType := some .int }, accessFlags := 9, code := some k21c1 }
def k21c2 : Code := { maxStack := 4, maxLocals := 4, code := jdk_29_method_66_code, exceptionTable := #[], attributes := #[] }
def k21m2 : Method := { name := "max", desc := "(JJ)J", sig := { parameters := [.long, .long], returnType := some .long }, accessFlags := 9, code := some k21c2 }
def k21c3 : Code := { maxStack := 4, maxLocals := 4, code := jdk_29_method_70_code, exceptionTable := #[], attributes := #[] }
def k21m3 : Method := { name := "min", desc := "(JJ)J", sig := { parameters := [.long, .long], returnType := some .long }, accessFlags := 9, code := some k21c3 }
/-- java/lang/Math -/
def k21 : Class := { plain "java/lang/Math" (some 0) with
  accessFlags := 49
  interfaces := #[]
  cf := some (fileOf pool21 1 #[.nestMembers #[98]] #[{ accessFlags := 2, nameIndex := 7, descriptorIndex := 8, attributes := #[] }, { accessFlags := 9, nameIndex := 198, descriptorIndex := 335, attributes := #[] }, { accessFlags := 9, nameIndex := 198, descriptorIndex := 121, attributes := #[] }, { accessFlags := 9, nameIndex := 201, descriptorIndex := 121, attributes := #[] }] 49 4 #[] #[{ accessFlags := 25, nameIndex := 354, descriptorIndex := 339, attributes := #[] }, { accessFlags := 25, nameIndex := 358, descriptorIndex := 339, attributes := #[] }, { accessFlags := 25, nameIndex := 361, descriptorIndex := 339, attributes := #[] }, { accessFlags := 26, nameIndex := 364, descriptorIndex := 339, attributes := #[] }, { accessFlags := 26, nameIndex := 365, descriptorIndex := 339, attributes := #[] }, { accessFlags := 26, nameIndex := 172, descriptorIndex := 173, attributes := #[] }, { accessFlags := 26, nameIndex := 176, descriptorIndex := 173, attributes := #[] }, { accessFlags := 8, nameIndex := 344, descriptorIndex := 339, attributes := #[] }, { accessFlags := 8, nameIndex := 338, descriptorIndex := 339, attributes := #[] }, { accessFlags := 4120, nameIndex := 245, descriptorIndex := 246, attributes := #[] }])
  fields := #[{ name := "E", type := .double, accessFlags := 25, slot := 0, constantValue := 0 }, { name := "PI", type := .double, accessFlags := 25, slot := 1, constantValue := 0 }, { name := "TAU", type := .double, accessFlags := 25, slot := 2, constantValue := 0 }, { name := "DEGREES_TO_RADIANS", type := .double, accessFlags := 26, slot := 3, constantValue := 0 }, { name := "RADIANS_TO_DEGREES", type := .double, accessFlags := 26, slot := 4, constantValue := 0 }, { name := "negativeZeroFloatBits", type := .long, accessFlags := 26, slot := 5, constantValue := 0 }, { name := "negativeZeroDoubleBits", type := .long, accessFlags := 26, slot := 6, constantValue := 0 }, { name := "twoToTheDoubleScaleUp", type := .double, accessFlags := 8, slot := 7, constantValue := 0 }, { name := "twoToTheDoubleScaleDown", type := .double, accessFlags := 8, slot := 8, constantValue := 0 }, { name := "$assertionsDisabled", type := .boolean, accessFlags := 4120, slot := 9, constantValue := 0 }]
  methods := #[k21m0, k21m1, k21m2, k21m3]
  instanceTypes := #[]
  staticTypes := #[.double, .double, .double, .double, .double, .long, .long, .double, .double, .boolean]
  resolved := Array.replicate 460 none
  statics := none }

def pool22 : Array CpInfo := pool [(2, .class_ 4), (1, u "java/lang/Object"), (0, u "<init>"), (0, u "()V"), (35, .class_ 44), (1, u "java/util/Objects"), (60, .methodref 106 107), (0, .class_ 108), (0, .nameAndType 109 110), (0, u "jdk/internal/util/Preconditions"), (0, u "checkIndex"), (0, u "(IILjava/util/function/BiFunction;)I"), (60, u "(II)I")] 12

def k22m0 : Method := { name := "<init>", desc := "()V", sig := { parameters := [], returnType := none }, accessFlags := 2, code := none }
def k22c1 : Code := { maxStack := 3, maxLocals := 2, code := jdk_31_method_17_code, exceptionTable := #[], attributes := #[] }
def k22m1 : Method := { name := "checkIndex", desc := "(II)I", sig := { parameters := [.int, .int], returnType := some .int }, accessFlags := 9, code := some k22c1 }
/-- java/util/Objects -/
def k22 : Class := { plain "java/util/Objects" (some 0) with
  accessFlags := 49
  interfaces := #[]
  cf := some (fileOf pool22 42 #[] #[{ accessFlags := 2, nameIndex := 5, descriptorIndex := 6, attributes := #[] }, { accessFlags := 9, nameIndex := 109, descriptorIndex := 171, attributes := #[] }] 49 2 #[] #[])
  fields := #[]
  methods := #[k22m0, k22m1]
  instanceTypes := #[]
  staticTypes := #[]
  resolved := Array.replicate 184 none
  statics := none }

def pool23 : Array CpInfo := pool [(2, .class_ 4), (1, u "java/lang/Object"), (0, u "<init>"), (0, u "()V"), (17, .class_ 26), (1, u "jdk/internal/util/Preconditions"), (6, u "checkIndex"), (21, .class_ 56), (0, u "jdk/internal/util/Preconditions$4"), (57, .class_ 115), (0, u "jdk/internal/util/Preconditions$1"), (7, u "SIOOBE_FORMATTER"), (0, u "Ljava/util/function/BiFunction;"), (0, .class_ 126), (0, u "jdk/internal/util/Preconditions$2"), (3, u "AIOOBE_FORMATTER"), (0, .class_ 132), (0, u "jdk/internal/util/Preconditions$3"), (3, u "IOOBE_FORMATTER"), (41, u "(IILjava/util/function/BiFunction;)I")] 15

def k23m0 : Method := { name := "<init>", desc := "()V", sig := { parameters := [], returnType := none }, accessFlags := 1, code := none }
def k23c1 : Code := { maxStack := 3, maxLocals := 3, code := jdk_41_method_11_code, exceptionTable := #[], attributes := #[] }
def k23m1 : Method := { name := "checkIndex", desc := "(IILjava/util/function/BiFunction;)I", sig := { parameters := [.int, .int, (.object "java/util/function/BiFunction")], returnType := some .int }, accessFlags := 9, code := some k23c1 }
/-- jdk/internal/util/Preconditions -/
def k23 : Class := { plain "jdk/internal/util/Preconditions" (some 0) with
  accessFlags := 33
  interfaces := #[]
  cf := some (fileOf pool23 24 #[.nestMembers #[55, 131, 125, 114]] #[{ accessFlags := 1, nameIndex := 5, descriptorIndex := 6, attributes := #[] }, { accessFlags := 9, nameIndex := 33, descriptorIndex := 178, attributes := #[] }] 33 2 #[] #[{ accessFlags := 25, nameIndex := 123, descriptorIndex := 124, attributes := #[] }, { accessFlags := 25, nameIndex := 130, descriptorIndex := 124, attributes := #[] }, { accessFlags := 25, nameIndex := 136, descriptorIndex := 124, attributes := #[] }])
  fields := #[{ name := "SIOOBE_FORMATTER", type := (.object "java/util/function/BiFunction"), accessFlags := 25, slot := 0, constantValue := 0 }, { name := "AIOOBE_FORMATTER", type := (.object "java/util/function/BiFunction"), accessFlags := 25, slot := 1, constantValue := 0 }, { name := "IOOBE_FORMATTER", type := (.object "java/util/function/BiFunction"), accessFlags := 25, slot := 2, constantValue := 0 }]
  methods := #[k23m0, k23m1]
  instanceTypes := #[]
  staticTypes := #[(.object "java/util/function/BiFunction"), (.object "java/util/function/BiFunction"), (.object "java/util/function/BiFunction")]
  resolved := Array.replicate 194 none
  statics := some 2 }

def pool24 : Array CpInfo := pool [(9, u "<init>"), (6, .class_ 18), (1, u "java/lang/Object"), (0, u "()V"), (1, .class_ 23), (1, u "jdk/internal/util/ArraysSupport"), (0, u "LOG2_ARRAY_LONG_INDEX_SCALE"), (0, u "I"), (2, u "U"), (0, u "Ljdk/internal/misc/Unsafe;"), (8, u "BIG_ENDIAN"), (0, u "Z"), (8, u "LOG2_BYTE_BIT_SIZE"), (4, u "LOG2_ARRAY_INT_INDEX_SCALE"), (54, u "JLA"), (0, u "Ljdk/internal/access/JavaLangAccess;"), (11, u "LOG2_ARRAY_BOOLEAN_INDEX_SCALE"), (9, u "LOG2_ARRAY_BYTE_INDEX_SCALE"), (5, u "LOG2_ARRAY_CHAR_INDEX_SCALE"), (5, u "LOG2_ARRAY_SHORT_INDEX_SCALE"), (18, u "LOG2_ARRAY_FLOAT_INDEX_SCALE"), (24, u "LOG2_ARRAY_DOUBLE_INDEX_SCALE"), (89, u "T_BOOLEAN"), (2, u "T_CHAR"), (1, u "T_FLOAT"), (1, u "T_DOUBLE"), (1, u "T_BYTE"), (1, u "T_SHORT"), (1, u "T_INT"), (1, u "T_LONG"), (1, u "SOFT_MAX_ARRAY_LENGTH")] 83

def k24m0 : Method := { name := "<init>", desc := "()V", sig := { parameters := [], returnType := none }, accessFlags := 2, code := none }
/-- jdk/internal/util/ArraysSupport -/
def k24 : Class := { plain "jdk/internal/util/ArraysSupport" (some 0) with
  accessFlags := 33
  interfaces := #[]
  cf := some (fileOf pool24 21 #[] #[{ accessFlags := 2, nameIndex := 9, descriptorIndex := 19, attributes := #[] }] 33 16 #[] #[{ accessFlags := 24, nameIndex := 28, descriptorIndex := 29, attributes := #[] }, { accessFlags := 26, nameIndex := 38, descriptorIndex := 39, attributes := #[] }, { accessFlags := 25, nameIndex := 121, descriptorIndex := 25, attributes := #[] }, { accessFlags := 25, nameIndex := 131, descriptorIndex := 25, attributes := #[] }, { accessFlags := 25, nameIndex := 137, descriptorIndex := 25, attributes := #[] }, { accessFlags := 25, nameIndex := 143, descriptorIndex := 25, attributes := #[] }, { accessFlags := 25, nameIndex := 53, descriptorIndex := 25, attributes := #[] }, { accessFlags := 25, nameIndex := 24, descriptorIndex := 25, attributes := #[] }, { accessFlags := 25, nameIndex := 162, descriptorIndex := 25, attributes := #[] }, { accessFlags := 25, nameIndex := 187, descriptorIndex := 25, attributes := #[] }, { accessFlags := 26, nameIndex := 48, descriptorIndex := 25, attributes := #[] }, { accessFlags := 25, nameIndex := 277, descriptorIndex := 25, attributes := #[] }, { accessFlags := 25, nameIndex := 280, descriptorIndex := 25, attributes := #[] }, { accessFlags := 25, nameIndex := 282, descriptorIndex := 25, attributes := #[] }, { accessFlags := 25, nameIndex := 284, descriptorIndex := 25, attributes := #[] }, { accessFlags := 25, nameIndex := 286, descriptorIndex := 25, attributes := #[] }, { accessFlags := 25, nameIndex := 288, descriptorIndex := 25, attributes := #[] }, { accessFlags := 25, nameIndex := 290, descriptorIndex := 25, attributes := #[] }, { accessFlags := 25, nameIndex := 292, descriptorIndex := 25, attributes := #[] }, { accessFlags := 26, nameIndex := 108, descriptorIndex := 109, attributes := #[] }, { accessFlags := 25, nameIndex := 294, descriptorIndex := 25, attributes := #[] }])
  fields := #[{ name := "U", type := (.object "jdk/internal/misc/Unsafe"), accessFlags := 24, slot := 0, constantValue := 0 }, { name := "BIG_ENDIAN", type := .boolean, accessFlags := 26, slot := 1, constantValue := 0 }, { name := "LOG2_ARRAY_BOOLEAN_INDEX_SCALE", type := .int, accessFlags := 25, slot := 2, constantValue := 0 }, { name := "LOG2_ARRAY_BYTE_INDEX_SCALE", type := .int, accessFlags := 25, slot := 3, constantValue := 0 }, { name := "LOG2_ARRAY_CHAR_INDEX_SCALE", type := .int, accessFlags := 25, slot := 4, constantValue := 0 }, { name := "LOG2_ARRAY_SHORT_INDEX_SCALE", type := .int, accessFlags := 25, slot := 5, constantValue := 0 }, { name := "LOG2_ARRAY_INT_INDEX_SCALE", type := .int, accessFlags := 25, slot := 6, constantValue := 0 }, { name := "LOG2_ARRAY_LONG_INDEX_SCALE", type := .int, accessFlags := 25, slot := 7, constantValue := 0 }, { name := "LOG2_ARRAY_FLOAT_INDEX_SCALE", type := .int, accessFlags := 25, slot := 8, constantValue := 0 }, { name := "LOG2_ARRAY_DOUBLE_INDEX_SCALE", type := .int, accessFlags := 25, slot := 9, constantValue := 0 }, { name := "LOG2_BYTE_BIT_SIZE", type := .int, accessFlags := 26, slot := 10, constantValue := 0 }, { name := "T_BOOLEAN", type := .int, accessFlags := 25, slot := 11, constantValue := 0 }, { name := "T_CHAR", type := .int, accessFlags := 25, slot := 12, constantValue := 0 }, { name := "T_FLOAT", type := .int, accessFlags := 25, slot := 13, constantValue := 0 }, { name := "T_DOUBLE", type := .int, accessFlags := 25, slot := 14, constantValue := 0 }, { name := "T_BYTE", type := .int, accessFlags := 25, slot := 15, constantValue := 0 }, { name := "T_SHORT", type := .int, accessFlags := 25, slot := 16, constantValue := 0 }, { name := "T_INT", type := .int, accessFlags := 25, slot := 17, constantValue := 0 }, { name := "T_LONG", type := .int, accessFlags := 25, slot := 18, constantValue := 0 }, { name := "JLA", type := (.object "jdk/internal/access/JavaLangAccess"), accessFlags := 26, slot := 19, constantValue := 0 }, { name := "SOFT_MAX_ARRAY_LENGTH", type := .int, accessFlags := 25, slot := 20, constantValue := 0 }]
  methods := #[k24m0]
  instanceTypes := #[]
  staticTypes := #[(.object "jdk/internal/misc/Unsafe"), .boolean, .int, .int, .int, .int, .int, .int, .int, .int, .int, .int, .int, .int, .int, .int, .int, .int, .int, (.object "jdk/internal/access/JavaLangAccess"), .int]
  resolved := Array.replicate 378 none
  statics := none }

/-- the primitive byte -/
def k25 : Class := { plain "byte" none with kind := .primitive 'B', accessFlags := 0x411 }
/-- [B -/
def k26 : Class := { plain "[B" (some 0) with kind := .array 25 .byte, interfaces := #[16, 2], accessFlags := 1041 }

/-- the primitive int -/
def k27 : Class := { plain "int" none with kind := .primitive 'I', accessFlags := 0x411 }
/-- [I -/
def k28 : Class := { plain "[I" (some 0) with kind := .array 27 .int, interfaces := #[16, 2], accessFlags := 1041 }

/-- [Ljava/lang/Object; -/
def k29 : Class := { plain "[Ljava/lang/Object;" (some 0) with kind := .array 0 (.object "java/lang/Object"), interfaces := #[16, 2], accessFlags := 1041 }

/-- [Ljava/lang/String; -/
def k30 : Class := { plain "[Ljava/lang/String;" (some 0) with kind := .array 7 (.object "java/lang/String"), interfaces := #[16, 2], accessFlags := 1041 }

def heap : Heap := #[{ cls := 7, slots := #[.long 0, .int 1, .null, .int 0, .null, .int 0, .int 0], vm := .statics 7 },
  { cls := 17, slots := #[.long 0, .int 0, .ref 3, .ref 4], vm := .statics 17 },
  { cls := 23, slots := #[.null, .null, .null], vm := .statics 23 },
  { cls := 29, slots := #[], vm := .none },
  { cls := 29, slots := #[], vm := .none }]
def classes : Array Class := #[k0, k1, k2, k3, k4, k5, k6, k7, k8, k9, k10, k11, k12, k13, k14, k15, k16, k17, k18, k19, k20, k21, k22, k23, k24, k25, k26, k27, k28, k29, k30]
def interned : List (Array UInt16 × Addr) := []
def slotsUsed : Nat := 14
def theMethod : MethodId := ⟨1, 1⟩
def args0 : Array Value := #[.int 5, .int 6, .int 2, .int 3, .int 4, .int 1]
def aboutOver (below : List Frame) : State where
  vm := { classes := classes, interned := interned.toArray }
  heap := heap
  slotsUsed := slotsUsed
  threads := #[{ frames := .invoking theMethod args0 :: below }]
def below0 : List Frame := [.native { method := ⟨0, 0⟩, args := #[] }]
def about1 : State := aboutOver below0
def p0 : Program := .bare "" "" ""
def e0 : Env := launch0.env 0 0 0
theorem w_frames : about1.frames = Frame.invoking theMethod args0 :: below0 := rfl
set_option maxRecDepth 65536 in
theorem w_args : argsFit about1.vm theMethod args0 = true := by decide +kernel
set_option maxRecDepth 65536 in
theorem w_heap : heapFits about1 = true := by decide +kernel
set_option maxRecDepth 65536 in
theorem w_runnable : about1.curStatus? = some .runnable := by decide +kernel
set_option maxRecDepth 65536 in
theorem w_alone : about1.alone = true := by decide +kernel
set_option maxRecDepth 65536 in
theorem w_named : about1.methodNamed? x = some theMethod := by decide +kernel
set_option maxRecDepth 65536 in
theorem w_hears : about1.hears theMethod below0 = true := by decide +kernel
set_option maxRecDepth 65536 in
theorem w_ripe : about1.ripe theMethod args0 below0 = true := by decide +kernel
theorem w_running : about1.status = .running := rfl
set_option maxRecDepth 65536 in
theorem w_room : about1.hasRoom e0.platform room_1 = true :=
  launch0.hasRoom_least _ room_1 (by decide +kernel) (by decide +kernel) (by decide +kernel) (by decide +kernel) (by decide +kernel) (by decide +kernel)
theorem allAtoms_all (ts : List Jvm.Cond) (a : Array Jvm.Value) (st : Jvm.State) : (allAtoms ts).before a st = ts.all (fun c => c.before a st) := by
  induction ts with
  | nil => rfl
  | cons c t ih =>
    show (Jvm.Cond.and c (allAtoms t)).before a st = _
    rw [Jvm.Cond.before_and, ih, List.all_cons]
def words1 : List Jvm.Cond := Jvm.Cond.code x code maxLocals ret :: tables_1
/-- a 'code' word, met by the world's own term for the bytes: nothing is compared byte by byte -/
theorem code_word {y : MethodName} {bytes : ByteArray} {mx : Nat} {rt : Option FieldType} {a : Array Value} {s : State} {m : MethodId} {meth : Method} {c : Code} (h1 : s.methodNamed? y = some m) (h2 : s.vm.method? m = some meth) (h3 : meth.code = some c) (h4 : c.code = bytes)
    (h5 : (c.maxLocals == mx && c.exceptionTable.isEmpty && decide (c.maxStack ≤ mostOperands) && decide (meth.sig.returnType = rt) && !meth.locks && decide (parseMethodDescriptor y.desc = some meth.sig)) = true) : (Jvm.Cond.code y bytes mx rt).before a s = true := by
  simp only [Bool.and_eq_true, beq_iff_eq, Bool.not_eq_true', decide_eq_true_eq] at h5
  obtain ⟨⟨⟨⟨⟨g1, g2⟩, g3⟩, g4⟩, g5⟩, g6⟩ := h5
  simp [Cond.before, Cond.holds, Cond.value, h1, h2, h3, h4, g1, g2, g3, g4, g5, g6]
def isCode : Jvm.Cond → Bool
  | .code _ _ _ _ => true
  | _ => false
theorem all_split {L : List Jvm.Cond} {P : Jvm.Cond → Bool} (h1 : L.all (fun c => isCode c || P c) = true) (h2 : ∀ c ∈ L.filter isCode, P c = true) : L.all P = true := by
  refine List.all_eq_true.mpr fun c hc => ?_
  have h := List.all_eq_true.mp h1 c hc
  rcases Bool.eq_false_or_eq_true (isCode c) with hi | hi
  · exact h2 c (List.mem_filter.mpr ⟨hc, hi⟩)
  · simpa [hi] using h
set_option maxRecDepth 65536 in
theorem w_c0 : (Jvm.Cond.code x code maxLocals ret).before args0 about1 = true := code_word (m := ⟨1, 1⟩) (meth := k1m1) (c := k1c1) (by decide +kernel) rfl rfl rfl (by decide +kernel)
set_option maxRecDepth 65536 in
theorem w_c1 : (Jvm.Cond.code ({ cls := "java/lang/String", name := "valueOf", desc := "(C)Ljava/lang/String;" } : Jvm.MethodName) jdk_42_method_139_code (1 : Nat) (Option.some (Jvm.ClassFile.FieldType.object "java/lang/String"))).before args0 about1 = true := code_word (m := ⟨7, 2⟩) (meth := k7m2) (c := k7c2) (by decide +kernel) rfl rfl rfl (by decide +kernel)
set_option maxRecDepth 65536 in
theorem w_c2 : (Jvm.Cond.code ({ cls := "java/lang/StringLatin1", name := "canEncode", desc := "(C)Z" } : Jvm.MethodName) jdk_43_method_3_code (1 : Nat) (Option.some Jvm.ClassFile.FieldType.boolean)).before args0 about1 = true := code_word (m := ⟨8, 1⟩) (meth := k8m1) (c := k8c1) (by decide +kernel) rfl rfl rfl (by decide +kernel)
set_option maxRecDepth 65536 in
theorem w_c3 : (Jvm.Cond.code ({ cls := "java/lang/StringLatin1", name := "toBytes", desc := "(C)[B" } : Jvm.MethodName) jdk_43_method_46_code (1 : Nat) (Option.some (Jvm.ClassFile.FieldType.array Jvm.ClassFile.FieldType.byte))).before args0 about1 = true := code_word (m := ⟨8, 2⟩) (meth := k8m2) (c := k8c2) (by decide +kernel) rfl rfl rfl (by decide +kernel)
set_option maxRecDepth 65536 in
theorem w_c4 : (Jvm.Cond.code ({ cls := "java/lang/String", name := "<init>", desc := "([BB)V" } : Jvm.MethodName) jdk_42_method_151_code (3 : Nat) (Option.none : Option Jvm.ClassFile.FieldType)).before args0 about1 = true := code_word (m := ⟨7, 3⟩) (meth := k7m3) (c := k7c3) (by decide +kernel) rfl rfl rfl (by decide +kernel)
set_option maxRecDepth 65536 in
theorem w_c5 : (Jvm.Cond.code ({ cls := "java/lang/Object", name := "<init>", desc := "()V" } : Jvm.MethodName) object_method_1_code (1 : Nat) (Option.none : Option Jvm.ClassFile.FieldType)).before args0 about1 = true := code_word (m := ⟨0, 0⟩) (meth := k0m0) (c := k0c0) (by decide +kernel) rfl rfl rfl (by decide +kernel)
set_option maxRecDepth 65536 in
theorem w_c6 : (Jvm.Cond.code ({ cls := "java/util/ArrayList", name := "<init>", desc := "()V" } : Jvm.MethodName) jdk_38_method_2_code (1 : Nat) (Option.none : Option Jvm.ClassFile.FieldType)).before args0 about1 = true := code_word (m := ⟨17, 1⟩) (meth := k17m1) (c := k17c1) (by decide +kernel) rfl rfl rfl (by decide +kernel)
set_option maxRecDepth 65536 in
theorem w_c7 : (Jvm.Cond.code ({ cls := "java/util/AbstractList", name := "<init>", desc := "()V" } : Jvm.MethodName) jdk_39_method_1_code (1 : Nat) (Option.none : Option Jvm.ClassFile.FieldType)).before args0 about1 = true := code_word (m := ⟨14, 0⟩) (meth := k14m0) (c := k14c0) (by decide +kernel) rfl rfl rfl (by decide +kernel)
set_option maxRecDepth 65536 in
theorem w_c8 : (Jvm.Cond.code ({ cls := "java/util/AbstractCollection", name := "<init>", desc := "()V" } : Jvm.MethodName) jdk_22_method_1_code (1 : Nat) (Option.none : Option Jvm.ClassFile.FieldType)).before args0 about1 = true := code_word (m := ⟨11, 0⟩) (meth := k11m0) (c := k11c0) (by decide +kernel) rfl rfl rfl (by decide +kernel)
set_option maxRecDepth 65536 in
theorem w_c9 : (Jvm.Cond.code ({ cls := "com/example/kleinbasel/kleinbasel/content/RecentChanges", name := "<init>", desc := "()V" } : Jvm.MethodName) prog_14_method_1_code (1 : Nat) (Option.none : Option Jvm.ClassFile.FieldType)).before args0 about1 = true := code_word (m := ⟨18, 0⟩) (meth := k18m0) (c := k18c0) (by decide +kernel) rfl rfl rfl (by decide +kernel)
set_option maxRecDepth 65536 in
theorem w_c10 : (Jvm.Cond.code ({ cls := "com/example/kleinbasel/kleinbasel/content/RecentChanges", name := "add", desc := "(Ljava/util/Collection;)V" } : Jvm.MethodName) prog_14_method_4_code (4 : Nat) (Option.none : Option Jvm.ClassFile.FieldType)).before args0 about1 = true := code_word (m := ⟨18, 3⟩) (meth := k18m3) (c := k18c3) (by decide +kernel) rfl rfl rfl (by decide +kernel)
set_option maxRecDepth 65536 in
theorem w_c11 : (Jvm.Cond.code ({ cls := "java/util/ArrayList", name := "iterator", desc := "()Ljava/util/Iterator;" } : Jvm.MethodName) jdk_38_method_55_code (1 : Nat) (Option.some (Jvm.ClassFile.FieldType.object "java/util/Iterator"))).before args0 about1 = true := code_word (m := ⟨17, 9⟩) (meth := k17m9) (c := k17c9) (by decide +kernel) rfl rfl rfl (by decide +kernel)
set_option maxRecDepth 65536 in
theorem w_c12 : (Jvm.Cond.code ({ cls := "java/util/ArrayList$Itr", name := "<init>", desc := "(Ljava/util/ArrayList;)V" } : Jvm.MethodName) jdk_49_method_1_code (2 : Nat) (Option.none : Option Jvm.ClassFile.FieldType)).before args0 about1 = true := code_word (m := ⟨20, 0⟩) (meth := k20m0) (c := k20c0) (by decide +kernel) rfl rfl rfl (by decide +kernel)
set_option maxRecDepth 65536 in
theorem w_c13 : (Jvm.Cond.code ({ cls := "java/util/ArrayList$Itr", name := "hasNext", desc := "()Z" } : Jvm.MethodName) jdk_49_method_2_code (1 : Nat) (Option.some Jvm.ClassFile.FieldType.boolean)).before args0 about1 = true := code_word (m := ⟨20, 1⟩) (meth := k20m1) (c := k20c1) (by decide +kernel) rfl rfl rfl (by decide +kernel)
set_option maxRecDepth 65536 in
theorem w_c14 : (Jvm.Cond.code ({ cls := "com/example/kleinbasel/kleinbasel/content/RecentChanges", name := "keepAtLeast", desc := "(I)V" } : Jvm.MethodName) prog_14_method_3_code (7 : Nat) (Option.none : Option Jvm.ClassFile.FieldType)).before args0 about1 = true := code_word (m := ⟨18, 2⟩) (meth := k18m2) (c := k18c2) (by decide +kernel) rfl rfl rfl (by decide +kernel)
set_option maxRecDepth 65536 in
theorem w_c15 : (Jvm.Cond.code ({ cls := "com/example/kleinbasel/kleinbasel/content/RecentChanges", name := "count", desc := "()J" } : Jvm.MethodName) prog_14_method_2_code (1 : Nat) (Option.some Jvm.ClassFile.FieldType.long)).before args0 about1 = true := code_word (m := ⟨18, 1⟩) (meth := k18m1) (c := k18c1) (by decide +kernel) rfl rfl rfl (by decide +kernel)
set_option maxRecDepth 65536 in
theorem w_c16 : (Jvm.Cond.code ({ cls := "com/example/kleinbasel/kleinbasel/content/RecentChanges", name := "since", desc := "(JI)Ljava/util/List;" } : Jvm.MethodName) prog_14_method_5_code (7 : Nat) (Option.some (Jvm.ClassFile.FieldType.object "java/util/List"))).before args0 about1 = true := code_word (m := ⟨18, 4⟩) (meth := k18m4) (c := k18c4) (by decide +kernel) rfl rfl rfl (by decide +kernel)
set_option maxRecDepth 65536 in
theorem w_c17 : (Jvm.Cond.code ({ cls := "com/example/kleinbasel/kleinbasel/content/RecentChanges", name := "oldestKept", desc := "()J" } : Jvm.MethodName) prog_14_method_6_code (1 : Nat) (Option.some Jvm.ClassFile.FieldType.long)).before args0 about1 = true := code_word (m := ⟨18, 5⟩) (meth := k18m5) (c := k18c5) (by decide +kernel) rfl rfl rfl (by decide +kernel)
set_option maxRecDepth 65536 in
theorem w_c18 : (Jvm.Cond.code ({ cls := "java/lang/Math", name := "max", desc := "(JJ)J" } : Jvm.MethodName) jdk_29_method_66_code (4 : Nat) (Option.some Jvm.ClassFile.FieldType.long)).before args0 about1 = true := code_word (m := ⟨21, 2⟩) (meth := k21m2) (c := k21c2) (by decide +kernel) rfl rfl rfl (by decide +kernel)
set_option maxRecDepth 65536 in
theorem w_c19 : (Jvm.Cond.code ({ cls := "java/util/ArrayList", name := "<init>", desc := "(I)V" } : Jvm.MethodName) jdk_38_method_1_code (2 : Nat) (Option.none : Option Jvm.ClassFile.FieldType)).before args0 about1 = true := code_word (m := ⟨17, 0⟩) (meth := k17m0) (c := k17c0) (by decide +kernel) rfl rfl rfl (by decide +kernel)
set_option maxRecDepth 65536 in
theorem w_c20 : (Jvm.Cond.code ({ cls := "com/example/kleinbasel/kleinbasel/content/RecentChangesKeepAtLeastPinLaw", name := "matches", desc := "(Ljava/util/List;[Ljava/lang/String;III)Z" } : Jvm.MethodName) method_4_code (5 : Nat) (Option.some Jvm.ClassFile.FieldType.boolean)).before args0 about1 = true := code_word (m := ⟨1, 3⟩) (meth := k1m3) (c := k1c3) (by decide +kernel) rfl rfl rfl (by decide +kernel)
set_option maxRecDepth 65536 in
theorem w_c21 : (Jvm.Cond.code ({ cls := "java/util/ArrayList", name := "size", desc := "()I" } : Jvm.MethodName) jdk_38_method_8_code (1 : Nat) (Option.some Jvm.ClassFile.FieldType.int)).before args0 about1 = true := code_word (m := ⟨17, 4⟩) (meth := k17m4) (c := k17c4) (by decide +kernel) rfl rfl rfl (by decide +kernel)
set_option maxRecDepth 65536 in
theorem w_c22 : (Jvm.Cond.code ({ cls := "java/util/ArrayList", name := "add", desc := "(Ljava/lang/Object;)Z" } : Jvm.MethodName) jdk_38_method_25_code (2 : Nat) (Option.some Jvm.ClassFile.FieldType.boolean)).before args0 about1 = true := code_word (m := ⟨17, 8⟩) (meth := k17m8) (c := k17c8) (by decide +kernel) rfl rfl rfl (by decide +kernel)
set_option maxRecDepth 65536 in
theorem w_c23 : (Jvm.Cond.code ({ cls := "java/util/ArrayList", name := "add", desc := "(Ljava/lang/Object;[Ljava/lang/Object;I)V" } : Jvm.MethodName) jdk_38_method_24_code (4 : Nat) (Option.none : Option Jvm.ClassFile.FieldType)).before args0 about1 = true := code_word (m := ⟨17, 7⟩) (meth := k17m7) (c := k17c7) (by decide +kernel) rfl rfl rfl (by decide +kernel)
set_option maxRecDepth 65536 in
theorem w_c24 : (Jvm.Cond.code ({ cls := "java/util/ArrayList", name := "grow", desc := "()[Ljava/lang/Object;" } : Jvm.MethodName) jdk_38_method_7_code (1 : Nat) (Option.some (Jvm.ClassFile.FieldType.array (Jvm.ClassFile.FieldType.object "java/lang/Object")))).before args0 about1 = true := code_word (m := ⟨17, 3⟩) (meth := k17m3) (c := k17c3) (by decide +kernel) rfl rfl rfl (by decide +kernel)
set_option maxRecDepth 65536 in
theorem w_c25 : (Jvm.Cond.code ({ cls := "java/util/ArrayList", name := "grow", desc := "(I)[Ljava/lang/Object;" } : Jvm.MethodName) jdk_38_method_6_code (4 : Nat) (Option.some (Jvm.ClassFile.FieldType.array (Jvm.ClassFile.FieldType.object "java/lang/Object")))).before args0 about1 = true := code_word (m := ⟨17, 2⟩) (meth := k17m2) (c := k17c2) (by decide +kernel) rfl rfl rfl (by decide +kernel)
set_option maxRecDepth 65536 in
theorem w_c26 : (Jvm.Cond.code ({ cls := "java/lang/Math", name := "max", desc := "(II)I" } : Jvm.MethodName) jdk_29_method_65_code (2 : Nat) (Option.some Jvm.ClassFile.FieldType.int)).before args0 about1 = true := code_word (m := ⟨21, 1⟩) (meth := k21m1) (c := k21c1) (by decide +kernel) rfl rfl rfl (by decide +kernel)
set_option maxRecDepth 65536 in
theorem w_c27 : (Jvm.Cond.code ({ cls := "java/util/ArrayList$Itr", name := "next", desc := "()Ljava/lang/Object;" } : Jvm.MethodName) jdk_49_method_3_code (3 : Nat) (Option.some (Jvm.ClassFile.FieldType.object "java/lang/Object"))).before args0 about1 = true := code_word (m := ⟨20, 2⟩) (meth := k20m2) (c := k20c2) (by decide +kernel) rfl rfl rfl (by decide +kernel)
set_option maxRecDepth 65536 in
theorem w_c28 : (Jvm.Cond.code ({ cls := "java/util/ArrayList$Itr", name := "checkForComodification", desc := "()V" } : Jvm.MethodName) jdk_49_method_6_code (1 : Nat) (Option.none : Option Jvm.ClassFile.FieldType)).before args0 about1 = true := code_word (m := ⟨20, 3⟩) (meth := k20m3) (c := k20c3) (by decide +kernel) rfl rfl rfl (by decide +kernel)
set_option maxRecDepth 65536 in
theorem w_c29 : (Jvm.Cond.code ({ cls := "com/example/kleinbasel/kleinbasel/content/RecentChangesKeepAtLeastPinLaw", name := "expected", desc := "([Ljava/lang/String;II)Ljava/lang/String;" } : Jvm.MethodName) method_3_code (3 : Nat) (Option.some (Jvm.ClassFile.FieldType.object "java/lang/String"))).before args0 about1 = true := code_word (m := ⟨1, 2⟩) (meth := k1m2) (c := k1c2) (by decide +kernel) rfl rfl rfl (by decide +kernel)
set_option maxRecDepth 65536 in
theorem w_c30 : (Jvm.Cond.code ({ cls := "java/util/ArrayList", name := "get", desc := "(I)Ljava/lang/Object;" } : Jvm.MethodName) jdk_38_method_20_code (2 : Nat) (Option.some (Jvm.ClassFile.FieldType.object "java/lang/Object"))).before args0 about1 = true := code_word (m := ⟨17, 6⟩) (meth := k17m6) (c := k17c6) (by decide +kernel) rfl rfl rfl (by decide +kernel)
set_option maxRecDepth 65536 in
theorem w_c31 : (Jvm.Cond.code ({ cls := "java/util/Objects", name := "checkIndex", desc := "(II)I" } : Jvm.MethodName) jdk_31_method_17_code (2 : Nat) (Option.some Jvm.ClassFile.FieldType.int)).before args0 about1 = true := code_word (m := ⟨22, 1⟩) (meth := k22m1) (c := k22c1) (by decide +kernel) rfl rfl rfl (by decide +kernel)
set_option maxRecDepth 65536 in
theorem w_c32 : (Jvm.Cond.code ({ cls := "jdk/internal/util/Preconditions", name := "checkIndex", desc := "(IILjava/util/function/BiFunction;)I" } : Jvm.MethodName) jdk_41_method_11_code (3 : Nat) (Option.some Jvm.ClassFile.FieldType.int)).before args0 about1 = true := code_word (m := ⟨23, 1⟩) (meth := k23m1) (c := k23c1) (by decide +kernel) rfl rfl rfl (by decide +kernel)
set_option maxRecDepth 65536 in
theorem w_c33 : (Jvm.Cond.code ({ cls := "java/util/ArrayList", name := "elementData", desc := "(I)Ljava/lang/Object;" } : Jvm.MethodName) jdk_38_method_18_code (2 : Nat) (Option.some (Jvm.ClassFile.FieldType.object "java/lang/Object"))).before args0 about1 = true := code_word (m := ⟨17, 5⟩) (meth := k17m5) (c := k17c5) (by decide +kernel) rfl rfl rfl (by decide +kernel)
set_option maxRecDepth 65536 in
theorem w_c34 : (Jvm.Cond.code ({ cls := "java/lang/String", name := "equals", desc := "(Ljava/lang/Object;)Z" } : Jvm.MethodName) jdk_42_method_66_code (3 : Nat) (Option.some Jvm.ClassFile.FieldType.boolean)).before args0 about1 = true := code_word (m := ⟨7, 1⟩) (meth := k7m1) (c := k7c1) (by decide +kernel) rfl rfl rfl (by decide +kernel)
set_option maxRecDepth 65536 in
theorem w_c35 : (Jvm.Cond.code ({ cls := "java/lang/Math", name := "min", desc := "(JJ)J" } : Jvm.MethodName) jdk_29_method_70_code (4 : Nat) (Option.some Jvm.ClassFile.FieldType.long)).before args0 about1 = true := code_word (m := ⟨21, 3⟩) (meth := k21m3) (c := k21c3) (by decide +kernel) rfl rfl rfl (by decide +kernel)
def codes1 : List Jvm.Cond := [Jvm.Cond.code x code maxLocals ret, Jvm.Cond.code ({ cls := "java/lang/String", name := "valueOf", desc := "(C)Ljava/lang/String;" } : Jvm.MethodName) jdk_42_method_139_code (1 : Nat) (Option.some (Jvm.ClassFile.FieldType.object "java/lang/String")), Jvm.Cond.code ({ cls := "java/lang/StringLatin1", name := "canEncode", desc := "(C)Z" } : Jvm.MethodName) jdk_43_method_3_code (1 : Nat) (Option.some Jvm.ClassFile.FieldType.boolean), Jvm.Cond.code ({ cls := "java/lang/StringLatin1", name := "toBytes", desc := "(C)[B" } : Jvm.MethodName) jdk_43_method_46_code (1 : Nat) (Option.some (Jvm.ClassFile.FieldType.array Jvm.ClassFile.FieldType.byte)), Jvm.Cond.code ({ cls := "java/lang/String", name := "<init>", desc := "([BB)V" } : Jvm.MethodName) jdk_42_method_151_code (3 : Nat) (Option.none : Option Jvm.ClassFile.FieldType), Jvm.Cond.code ({ cls := "java/lang/Object", name := "<init>", desc := "()V" } : Jvm.MethodName) object_method_1_code (1 : Nat) (Option.none : Option Jvm.ClassFile.FieldType), Jvm.Cond.code ({ cls := "java/util/ArrayList", name := "<init>", desc := "()V" } : Jvm.MethodName) jdk_38_method_2_code (1 : Nat) (Option.none : Option Jvm.ClassFile.FieldType), Jvm.Cond.code ({ cls := "java/util/AbstractList", name := "<init>", desc := "()V" } : Jvm.MethodName) jdk_39_method_1_code (1 : Nat) (Option.none : Option Jvm.ClassFile.FieldType), Jvm.Cond.code ({ cls := "java/util/AbstractCollection", name := "<init>", desc := "()V" } : Jvm.MethodName) jdk_22_method_1_code (1 : Nat) (Option.none : Option Jvm.ClassFile.FieldType), Jvm.Cond.code ({ cls := "com/example/kleinbasel/kleinbasel/content/RecentChanges", name := "<init>", desc := "()V" } : Jvm.MethodName) prog_14_method_1_code (1 : Nat) (Option.none : Option Jvm.ClassFile.FieldType), Jvm.Cond.code ({ cls := "com/example/kleinbasel/kleinbasel/content/RecentChanges", name := "add", desc := "(Ljava/util/Collection;)V" } : Jvm.MethodName) prog_14_method_4_code (4 : Nat) (Option.none : Option Jvm.ClassFile.FieldType), Jvm.Cond.code ({ cls := "java/util/ArrayList", name := "iterator", desc := "()Ljava/util/Iterator;" } : Jvm.MethodName) jdk_38_method_55_code (1 : Nat) (Option.some (Jvm.ClassFile.FieldType.object "java/util/Iterator")), Jvm.Cond.code ({ cls := "java/util/ArrayList$Itr", name := "<init>", desc := "(Ljava/util/ArrayList;)V" } : Jvm.MethodName) jdk_49_method_1_code (2 : Nat) (Option.none : Option Jvm.ClassFile.FieldType), Jvm.Cond.code ({ cls := "java/util/ArrayList$Itr", name := "hasNext", desc := "()Z" } : Jvm.MethodName) jdk_49_method_2_code (1 : Nat) (Option.some Jvm.ClassFile.FieldType.boolean), Jvm.Cond.code ({ cls := "com/example/kleinbasel/kleinbasel/content/RecentChanges", name := "keepAtLeast", desc := "(I)V" } : Jvm.MethodName) prog_14_method_3_code (7 : Nat) (Option.none : Option Jvm.ClassFile.FieldType), Jvm.Cond.code ({ cls := "com/example/kleinbasel/kleinbasel/content/RecentChanges", name := "count", desc := "()J" } : Jvm.MethodName) prog_14_method_2_code (1 : Nat) (Option.some Jvm.ClassFile.FieldType.long), Jvm.Cond.code ({ cls := "com/example/kleinbasel/kleinbasel/content/RecentChanges", name := "since", desc := "(JI)Ljava/util/List;" } : Jvm.MethodName) prog_14_method_5_code (7 : Nat) (Option.some (Jvm.ClassFile.FieldType.object "java/util/List")), Jvm.Cond.code ({ cls := "com/example/kleinbasel/kleinbasel/content/RecentChanges", name := "oldestKept", desc := "()J" } : Jvm.MethodName) prog_14_method_6_code (1 : Nat) (Option.some Jvm.ClassFile.FieldType.long), Jvm.Cond.code ({ cls := "java/lang/Math", name := "max", desc := "(JJ)J" } : Jvm.MethodName) jdk_29_method_66_code (4 : Nat) (Option.some Jvm.ClassFile.FieldType.long), Jvm.Cond.code ({ cls := "java/util/ArrayList", name := "<init>", desc := "(I)V" } : Jvm.MethodName) jdk_38_method_1_code (2 : Nat) (Option.none : Option Jvm.ClassFile.FieldType), Jvm.Cond.code ({ cls := "com/example/kleinbasel/kleinbasel/content/RecentChangesKeepAtLeastPinLaw", name := "matches", desc := "(Ljava/util/List;[Ljava/lang/String;III)Z" } : Jvm.MethodName) method_4_code (5 : Nat) (Option.some Jvm.ClassFile.FieldType.boolean), Jvm.Cond.code ({ cls := "java/util/ArrayList", name := "size", desc := "()I" } : Jvm.MethodName) jdk_38_method_8_code (1 : Nat) (Option.some Jvm.ClassFile.FieldType.int), Jvm.Cond.code ({ cls := "java/util/ArrayList", name := "add", desc := "(Ljava/lang/Object;)Z" } : Jvm.MethodName) jdk_38_method_25_code (2 : Nat) (Option.some Jvm.ClassFile.FieldType.boolean), Jvm.Cond.code ({ cls := "java/util/ArrayList", name := "add", desc := "(Ljava/lang/Object;[Ljava/lang/Object;I)V" } : Jvm.MethodName) jdk_38_method_24_code (4 : Nat) (Option.none : Option Jvm.ClassFile.FieldType), Jvm.Cond.code ({ cls := "java/util/ArrayList", name := "grow", desc := "()[Ljava/lang/Object;" } : Jvm.MethodName) jdk_38_method_7_code (1 : Nat) (Option.some (Jvm.ClassFile.FieldType.array (Jvm.ClassFile.FieldType.object "java/lang/Object"))), Jvm.Cond.code ({ cls := "java/util/ArrayList", name := "grow", desc := "(I)[Ljava/lang/Object;" } : Jvm.MethodName) jdk_38_method_6_code (4 : Nat) (Option.some (Jvm.ClassFile.FieldType.array (Jvm.ClassFile.FieldType.object "java/lang/Object"))), Jvm.Cond.code ({ cls := "java/lang/Math", name := "max", desc := "(II)I" } : Jvm.MethodName) jdk_29_method_65_code (2 : Nat) (Option.some Jvm.ClassFile.FieldType.int), Jvm.Cond.code ({ cls := "java/util/ArrayList$Itr", name := "next", desc := "()Ljava/lang/Object;" } : Jvm.MethodName) jdk_49_method_3_code (3 : Nat) (Option.some (Jvm.ClassFile.FieldType.object "java/lang/Object")), Jvm.Cond.code ({ cls := "java/util/ArrayList$Itr", name := "checkForComodification", desc := "()V" } : Jvm.MethodName) jdk_49_method_6_code (1 : Nat) (Option.none : Option Jvm.ClassFile.FieldType), Jvm.Cond.code ({ cls := "com/example/kleinbasel/kleinbasel/content/RecentChangesKeepAtLeastPinLaw", name := "expected", desc := "([Ljava/lang/String;II)Ljava/lang/String;" } : Jvm.MethodName) method_3_code (3 : Nat) (Option.some (Jvm.ClassFile.FieldType.object "java/lang/String")), Jvm.Cond.code ({ cls := "java/util/ArrayList", name := "get", desc := "(I)Ljava/lang/Object;" } : Jvm.MethodName) jdk_38_method_20_code (2 : Nat) (Option.some (Jvm.ClassFile.FieldType.object "java/lang/Object")), Jvm.Cond.code ({ cls := "java/util/Objects", name := "checkIndex", desc := "(II)I" } : Jvm.MethodName) jdk_31_method_17_code (2 : Nat) (Option.some Jvm.ClassFile.FieldType.int), Jvm.Cond.code ({ cls := "jdk/internal/util/Preconditions", name := "checkIndex", desc := "(IILjava/util/function/BiFunction;)I" } : Jvm.MethodName) jdk_41_method_11_code (3 : Nat) (Option.some Jvm.ClassFile.FieldType.int), Jvm.Cond.code ({ cls := "java/util/ArrayList", name := "elementData", desc := "(I)Ljava/lang/Object;" } : Jvm.MethodName) jdk_38_method_18_code (2 : Nat) (Option.some (Jvm.ClassFile.FieldType.object "java/lang/Object")), Jvm.Cond.code ({ cls := "java/lang/String", name := "equals", desc := "(Ljava/lang/Object;)Z" } : Jvm.MethodName) jdk_42_method_66_code (3 : Nat) (Option.some Jvm.ClassFile.FieldType.boolean), Jvm.Cond.code ({ cls := "java/lang/Math", name := "min", desc := "(JJ)J" } : Jvm.MethodName) jdk_29_method_70_code (4 : Nat) (Option.some Jvm.ClassFile.FieldType.long)]
set_option maxRecDepth 65536 in
theorem codes_eq : words1.filter isCode = codes1 := rfl
theorem w_codes : ∀ c ∈ words1.filter isCode, c.before args0 about1 = true := by
  rw [codes_eq]
  intro c hc
  simp only [codes1, List.mem_cons, List.not_mem_nil, or_false] at hc
  rcases hc with rfl | rfl | rfl | rfl | rfl | rfl | rfl | rfl | rfl | rfl | rfl | rfl | rfl | rfl | rfl | rfl | rfl | rfl | rfl | rfl | rfl | rfl | rfl | rfl | rfl | rfl | rfl | rfl | rfl | rfl | rfl | rfl | rfl | rfl | rfl | rfl
  · exact w_c0
  · exact w_c1
  · exact w_c2
  · exact w_c3
  · exact w_c4
  · exact w_c5
  · exact w_c6
  · exact w_c7
  · exact w_c8
  · exact w_c9
  · exact w_c10
  · exact w_c11
  · exact w_c12
  · exact w_c13
  · exact w_c14
  · exact w_c15
  · exact w_c16
  · exact w_c17
  · exact w_c18
  · exact w_c19
  · exact w_c20
  · exact w_c21
  · exact w_c22
  · exact w_c23
  · exact w_c24
  · exact w_c25
  · exact w_c26
  · exact w_c27
  · exact w_c28
  · exact w_c29
  · exact w_c30
  · exact w_c31
  · exact w_c32
  · exact w_c33
  · exact w_c34
  · exact w_c35
set_option maxRecDepth 65536 in
theorem w_t1 : (words1.take 24).all (fun c => isCode c || c.before args0 about1) = true := by decide +kernel
set_option maxRecDepth 65536 in
theorem w_t2 : ((words1.drop 24).take 24).all (fun c => isCode c || c.before args0 about1) = true := by decide +kernel
set_option maxRecDepth 65536 in
theorem w_t3 : (((words1.drop 24).drop 24).take 24).all (fun c => isCode c || c.before args0 about1) = true := by decide +kernel
set_option maxRecDepth 65536 in
theorem w_t4 : ((((words1.drop 24).drop 24).drop 24).take 24).all (fun c => isCode c || c.before args0 about1) = true := by decide +kernel
set_option maxRecDepth 65536 in
theorem w_t5 : (((((words1.drop 24).drop 24).drop 24).drop 24).take 24).all (fun c => isCode c || c.before args0 about1) = true := by decide +kernel
set_option maxRecDepth 65536 in
theorem w_t6 : ((((((words1.drop 24).drop 24).drop 24).drop 24).drop 24).take 24).all (fun c => isCode c || c.before args0 about1) = true := by decide +kernel
set_option maxRecDepth 65536 in
theorem w_t7 : (((((((words1.drop 24).drop 24).drop 24).drop 24).drop 24).drop 24).take 24).all (fun c => isCode c || c.before args0 about1) = true := by decide +kernel
set_option maxRecDepth 65536 in
theorem w_t8 : ((((((((words1.drop 24).drop 24).drop 24).drop 24).drop 24).drop 24).drop 24).take 24).all (fun c => isCode c || c.before args0 about1) = true := by decide +kernel
set_option maxRecDepth 65536 in
theorem w_t9 : (((((((((words1.drop 24).drop 24).drop 24).drop 24).drop 24).drop 24).drop 24).drop 24).take 24).all (fun c => isCode c || c.before args0 about1) = true := by decide +kernel
set_option maxRecDepth 65536 in
theorem w_t10 : (((((((((words1.drop 24).drop 24).drop 24).drop 24).drop 24).drop 24).drop 24).drop 24).drop 24).all (fun c => isCode c || c.before args0 about1) = true := by decide +kernel
theorem w_tables : (allAtoms (Jvm.Cond.code x code maxLocals ret :: tables_1)).before args0 about1 = true := by
  rw [allAtoms_all]
  show words1.all (fun c => c.before args0 about1) = true
  refine all_split ?_ w_codes
  rw [← List.take_append_drop 24 words1, List.all_append, w_t1, ← List.take_append_drop 24 (words1.drop 24), List.all_append, w_t2, ← List.take_append_drop 24 ((words1.drop 24).drop 24), List.all_append, w_t3, ← List.take_append_drop 24 (((words1.drop 24).drop 24).drop 24), List.all_append, w_t4, ← List.take_append_drop 24 ((((words1.drop 24).drop 24).drop 24).drop 24), List.all_append, w_t5, ← List.take_append_drop 24 (((((words1.drop 24).drop 24).drop 24).drop 24).drop 24), List.all_append, w_t6, ← List.take_append_drop 24 ((((((words1.drop 24).drop 24).drop 24).drop 24).drop 24).drop 24), List.all_append, w_t7, ← List.take_append_drop 24 (((((((words1.drop 24).drop 24).drop 24).drop 24).drop 24).drop 24).drop 24), List.all_append, w_t8, ← List.take_append_drop 24 ((((((((words1.drop 24).drop 24).drop 24).drop 24).drop 24).drop 24).drop 24).drop 24), List.all_append, w_t9, w_t10]
  rfl
set_option maxRecDepth 65536 in
theorem w_rest : rest_1_c.before args0 about1 = true := by decide +kernel
set_option maxRecDepth 65536 in
theorem w_case : (Jvm.Cond.and given_1 narrow_1).before args0 about1 = true := by decide +kernel
theorem w_applies : (headSpec (Jvm.Cond.code x code maxLocals ret :: tables_1) room_1).applies x e0.platform about1 = true :=
  (Spec.applies_iff w_frames).mpr ⟨w_running, w_runnable, w_alone, w_named, w_hears, w_ripe, w_room, w_tables⟩
theorem atStart : AtStart classFile x code maxLocals ret World_1 tables_1 room_1 Calls_1 rest_1 Pre_1 launch0 p0 e0 about1 theMethod args0 below0 :=
  ⟨lists_1, trivial, launch0.admits_env _ _ _, launch0.least_env, fairChoices_fair.cas, fairChoices_fair.clock, w_frames, w_args, w_heap, w_applies, trivial, w_rest, w_case⟩
end start1
theorem witness_1 : WitnessClaimed_1 := ⟨start1.p0, start1.e0, start1.about1, start1.theMethod, start1.args0, start1.below0, start1.atStart⟩
end Jvm.Pilot.@@N@@
