import JvmDerived
import JvmDerived.Pilot.@@N@@Statement
import JvmDerived.Pilot.@@N@@Code
set_option linter.unusedVariables false
set_option linter.unusedSimpArgs false
namespace Jvm.Pilot.@@N@@
open Jvm Jvm.ClassFile Sem Op Lib Jvm.Free Jvm.Stand Jvm.LawKit Jvm.RoadKit Bundle Jvm.Pilot.@@N@@.Jvm.D
section OwnLayer
variable {p : Program} {l : Launch} {e : Env} {R : Room} {s : State} {m : MethodId} {args : Array Value} {below : List Frame} {meth : Method} {c : Code} {T T' : State} {locs : List Loc} {cells slots : Nat} {Z : State} {h h' : Heap}
/-- from T at the frame g the body runs to its end, and the end is as Q says -/
def own_Go (p : Program) (e : Env) (below : List Frame) (s : State) (Q : Option Value → Heap → List Loc → Prop) (k n : Nat) (T : State) (g : JFrame) : Prop :=
  ∃ s₂ o, Steps p.tables e below (T.setTop g) s₂ ∧ s₂.status = .running ∧ Ended s₂ below o ∧ ∃ v L, o = .returned v ∧ Q v s₂.heap L ∧ FrameEnd s o s₂ L k n
theorem own_st {Q : Option Value → Heap → List Loc → Prop} {k n : Nat} {g g' : JFrame} (st : ∀ t, Steps p.tables e below (T'.setTop g') t → Steps p.tables e below (T.setTop g) t) (G : own_Go p e below s Q k n T' g') : own_Go p e below s Q k n T g := by
  obtain ⟨s₂, o, h1, h2⟩ := G
  exact ⟨s₂, o, st _ h1, h2⟩
theorem own_tr {Q : Option Value → Heap → List Loc → Prop} {k n : Nat} {g g' : JFrame} (st : Steps p.tables e below (T.setTop g) (T'.setTop g')) (G : own_Go p e below s Q k n T' g') : own_Go p e below s Q k n T g :=
  own_st (fun _ q => st.trans q) G
theorem own_nm {α : Type} {Q : Option Value → Heap → List Loc → Prop} {k n : Nat} {f : α → JFrame} (v : α) (G : ∀ z, z = v → own_Go p e below s Q k n T (f z)) : own_Go p e below s Q k n T (f v) := G v rfl
theorem own_ret {Q : Option Value → Heap → List Loc → Prop} {k n : Nat} (X : Stand p l e R s m args below meth c T locs cells slots) (hx : p.tables.exec = Jvm.exec) {pc : Nat} {Ls : Array Slot} {w : Value} {t : FieldType} {i : Instr} {rest : List Value} (hret : meth.sig.returnType = some t) (hlk : meth.locks = false) (hn : narrow t w = w)
    (hi : (i = .ireturn ∧ (t = .int ∨ t = .boolean ∨ t = .byte ∨ t = .char ∨ t = .short) ∧ ∃ z, w = .int z) ∨ (i = .lreturn ∧ t = .long ∧ ∃ z, w = .long z) ∨ (i = .dreturn ∧ t = .double ∧ ∃ z, w = .double z) ∨ (i = .freturn ∧ t = .float ∧ ∃ z, w = .float z) ∨ (i = .areturn ∧ t.isReference = true ∧ w.isRef = true))
    (hd : decode c.code pc = .ok (i, 1)) (eT : T.heap = h) (hk : cells ≤ k) (hl : slots ≤ n) (hq : Q (some w) h locs) : own_Go p e below s Q k n T (mkF m pc Ls (w :: rest)) := by
  obtain ⟨fs, hr, hrun, hended, hW, hsame⟩ := X.leave (v := some w) (fun q => by rw [hret] at q; cases q) hlk
  exact ⟨_, _, retOut X hx hret hn hi hd hr, hrun, hended, _, _, rfl, by show Q (some w) T.heap locs; rw [eT]; exact hq, ⟨_, rfl⟩, hW, hsame.mono hk hl⟩
theorem own_ret0 {Q : Option Value → Heap → List Loc → Prop} {k n : Nat} (X : Stand p l e R s m args below meth c T locs cells slots) (hx : p.tables.exec = Jvm.exec) {pc : Nat} {Ls : Array Slot} (hret : meth.sig.returnType = none) (hlk : meth.locks = false)
    (hd : decode c.code pc = .ok (.return_, 1)) (eT : T.heap = h) (hk : cells ≤ k) (hl : slots ≤ n) (hq : Q none h locs) : own_Go p e below s Q k n T (mkF m pc Ls []) := by
  obtain ⟨fs, hr, hrun, hended, hW, hsame⟩ := X.leave (v := none) (fun _ => rfl) hlk
  exact ⟨_, _, X.returnOut hx hret hd hr, hrun, hended, _, _, rfl, by show Q none T.heap locs; rw [eT]; exact hq, ⟨_, rfl⟩, hW, hsame.mono hk hl⟩
theorem own_cat {v : Value} (q : v.isRef = true) : v.category = 1 := by cases v <;> first | rfl | cases q
theorem own_Ins_keep {a : Addr} {C : String} {b : Bool} {ws : List Addr} (F : Ins Z h a C b) (K : Keep h h' ws) : Ins Z h' a C b := by
  obtain ⟨cell, cT, h1, h2, h3⟩ := F
  obtain ⟨c', q1, q2, q3, -⟩ := K.2.2 _ _ h1
  exact ⟨c', cT, q1, h2, by rw [q2, q3]; exact h3⟩
end OwnLayer
theorem own_ltlt {x y : Int64} (h : x < y) : ifCond.holds .lt (lcmpW x y) = true ∧ ifCond.holds .ge (lcmpW x y) = false ∧ ifCond.holds .gt (lcmpW y x) = true ∧ ifCond.holds .le (lcmpW y x) = false := by
  have a : lcmpW x y < 0 := (lw_lt x y).mpr h
  have b : 0 < lcmpW y x := (lw_gt y x).mpr h
  exact ⟨(if0 _ _).trans (tlt a).1, (if0 _ _).trans (tlt a).2.1, (if0 _ _).trans (tlt b).2.2.1, (if0 _ _).trans (tlt b).2.2.2⟩
theorem own_lflt {x y : Int64} (h : ¬ x < y) : ifCond.holds .lt (lcmpW x y) = false ∧ ifCond.holds .ge (lcmpW x y) = true ∧ ifCond.holds .gt (lcmpW y x) = false ∧ ifCond.holds .le (lcmpW y x) = true := by
  have a : ¬ lcmpW x y < 0 := fun q => h ((lw_lt x y).mp q)
  have b : ¬ 0 < lcmpW y x := fun q => h ((lw_gt y x).mp q)
  exact ⟨(if0 _ _).trans (flt a).1, (if0 _ _).trans (flt a).2.1, (if0 _ _).trans (flt b).2.2.1, (if0 _ _).trans (flt b).2.2.2⟩
theorem own_lteq {x y : Int64} (h : x = y) : ifCond.holds .eq (lcmpW x y) = true ∧ ifCond.holds .ne (lcmpW x y) = false := by
  have a : lcmpW x y = 0 := (lw_eq x y).mpr h
  exact ⟨(if0 _ _).trans (teq a).1, (if0 _ _).trans (teq a).2⟩
theorem own_lfeq {x y : Int64} (h : ¬ x = y) : ifCond.holds .eq (lcmpW x y) = false ∧ ifCond.holds .ne (lcmpW x y) = true := by
  have a : ¬ lcmpW x y = 0 := fun q => h ((lw_eq x y).mp q)
  exact ⟨(if0 _ _).trans (feq a).1, (if0 _ _).trans (feq a).2⟩
theorem own_ifc {α : Type} {P Q : Prop} [Decidable P] [Decidable Q] {x y : α} (h : P ↔ Q) : (if P then x else y) = if Q then x else y := by
  by_cases q : P
  · rw [if_pos q, if_pos (h.mp q)]
  · rw [if_neg q, if_neg (fun r => q (h.mpr r))]
def own_rate (q : Int64) : Int64 := if (0 : Int64) < q then q &&& (281474976710655 : Int64) else q
def own_sf (u q : Int64) : Int64 := if (0 : Int64) < q then (((180000 : Int64) * u) + q) / ((2 : Int64) * q) else 0
def own_ref (u q : Int64) : Int64 := if (0 : Int64) < q then (if ((2 : Int64) * (((90000 : Int64) * u) - (((90000 : Int64) * u) / q) * q)) < q then ((90000 : Int64) * u) / q else (((90000 : Int64) * u) / q) + (1 : Int64)) else 0
theorem own_rb (x : Int64) (h : (0 : Int64) < own_rate x) : 0 < (own_rate x).toInt ∧ (own_rate x).toInt < 281474976710656 := by
  have a := Int64.lt_iff_toInt_lt.mp h
  have z : (0 : Int64).toInt = 0 := rfl
  refine ⟨by omega, ?_⟩
  unfold own_rate at h ⊢
  split
  · rw [c_maskL x (281474976710655 : Int64) 48 (by decide) (by decide +kernel)]; omega
  · next q => rw [if_neg q] at h; exact absurd h q
theorem own_nz (x : Int64) (h : (0 : Int64) < own_rate x) : ¬ (((2 : Int64) * own_rate x) = (0 : Int64)) := fun q => by
  have b := own_rb x h
  have c := c_lmul (2 : Int64) (own_rate x)
  have d : (2 : Int64).toInt = 2 := rfl
  have z : (0 : Int64).toInt = 0 := rfl
  rw [d, q, z] at c
  omega
theorem own_dv (n p q r A : Int) (hp : 0 < p) (hn : 0 ≤ n) (hq : q = n / p) (hr : r = n % p) (hA : A = (2 * n + p) / (2 * p)) : A = if 2 * r < p then q else q + 1 := by
  have h1 : n = p * q + r := by rw [hq, hr]; exact (Int.mul_ediv_add_emod n p).symm
  have h2 : 0 ≤ r := hr ▸ Int.emod_nonneg _ (by omega)
  have h3 : r < p := hr ▸ Int.emod_lt_of_pos _ hp
  have h4 : 2 * n + p = (2 * r + p) + q * (2 * p) := by rw [h1, Int.mul_add, Int.mul_comm q, ← Int.mul_assoc, Int.mul_assoc 2 p q]; omega
  rw [hA, h4, Int.add_mul_ediv_right _ _ (by omega)]
  split
  · next c => rw [Int.ediv_eq_zero_of_lt (by omega) (by omega)]; omega
  · next c =>
    have h5 : 2 * r + p = (2 * r - p) + 1 * (2 * p) := by omega
    rw [h5, Int.add_mul_ediv_right _ _ (by omega), Int.ediv_eq_zero_of_lt (by omega) (by omega)]; omega
theorem own_same (x k : Int64) : own_sf (x &&& (17179869183 : Int64)) (own_rate k) = own_ref (x &&& (17179869183 : Int64)) (own_rate k) := by
  unfold own_sf own_ref
  by_cases h : (0 : Int64) < own_rate k
  case neg => rw [if_neg h, if_neg h]
  rw [if_pos h, if_pos h]
  have hp := own_rb k h
  have hu : (x &&& (17179869183 : Int64)).toInt = x.toInt % 17179869184 := c_maskL x (17179869183 : Int64) 34 (by decide) (by decide +kernel)
  generalize x &&& (17179869183 : Int64) = u at hu ⊢
  generalize own_rate k = p at hp h ⊢
  have k1 : (180000 : Int64).toInt = 180000 := rfl
  have k2 : (90000 : Int64).toInt = 90000 := rfl
  have k3 : (2 : Int64).toInt = 2 := rfl
  have k4 : (1 : Int64).toInt = 1 := rfl
  have m1 := c_lmul (180000 : Int64) u
  have m2 := c_lmul (90000 : Int64) u
  have m3 := c_lmul (2 : Int64) p
  have r1 := rng64 ((180000 : Int64) * u)
  have r2 := rng64 ((90000 : Int64) * u)
  have r3 := rng64 ((2 : Int64) * p)
  have e1 : ((180000 : Int64) * u).toInt = 180000 * u.toInt := by rw [k1] at m1; omega
  have e2 : ((90000 : Int64) * u).toInt = 90000 * u.toInt := by rw [k2] at m2; omega
  have e3 : ((2 : Int64) * p).toInt = 2 * p.toInt := by rw [k3] at m3; omega
  have a4 := c_ladd ((180000 : Int64) * u) p
  have r4 := rng64 ((180000 : Int64) * u + p)
  have e4 : ((180000 : Int64) * u + p).toInt = 2 * (90000 * u.toInt) + p.toInt := by omega
  have p1 : p ≠ -1 := fun q => by have := congrArg Int64.toInt q; have : (-1 : Int64).toInt = -1 := rfl; omega
  have p2 : (2 : Int64) * p ≠ -1 := fun q => by have := congrArg Int64.toInt q; have : (-1 : Int64).toInt = -1 := rfl; omega
  have d1 : (((180000 : Int64) * u + p) / ((2 : Int64) * p)).toInt = (2 * (90000 * u.toInt) + p.toInt) / (2 * p.toInt) := by
    rw [Int64.toInt_div_of_ne_right _ _ p2, e4, e3, Int.tdiv_eq_ediv_of_nonneg (by omega)]
  have d2 : (((90000 : Int64) * u) / p).toInt = (90000 * u.toInt) / p.toInt := by
    rw [Int64.toInt_div_of_ne_right _ _ p1, e2, Int.tdiv_eq_ediv_of_nonneg (by omega)]
  have d3 : (((90000 : Int64) * u) - (((90000 : Int64) * u) / p) * p).toInt = (90000 * u.toInt) % p.toInt := by
    rw [lrem_mod, Int64.toInt_mod, e2, Int.tmod_eq_emod_of_nonneg (by omega)]
  generalize ((90000 : Int64) * u) - (((90000 : Int64) * u) / p) * p = rr at d3 ⊢
  have b1 : 0 ≤ rr.toInt := d3 ▸ Int.emod_nonneg _ (by omega)
  have b2 : rr.toInt < p.toInt := d3 ▸ Int.emod_lt_of_pos _ (by omega)
  have m5 := c_lmul (2 : Int64) rr
  have r5 := rng64 ((2 : Int64) * rr)
  have e5 : ((2 : Int64) * rr).toInt = 2 * rr.toInt := by rw [k3] at m5; omega
  have key := own_dv (90000 * u.toInt) p.toInt _ _ _ (by omega) (by omega) d2 d3 d1
  have q1 : 0 ≤ (((90000 : Int64) * u) / p).toInt := d2 ▸ Int.ediv_nonneg (by omega) (by omega)
  have q2 : (((90000 : Int64) * u) / p).toInt ≤ 90000 * u.toInt := d2 ▸ Int.ediv_le_self _ (by omega)
  apply Int64.toInt_inj.mp
  rw [key]
  by_cases c : (2 : Int64) * rr < p
  · rw [if_pos c, if_pos (by have := Int64.lt_iff_toInt_lt.mp c; omega)]
  · rw [if_neg c, if_neg (fun z => c (Int64.lt_iff_toInt_lt.mpr (by omega)))]
    have a6 := c_ladd (((90000 : Int64) * u) / p) (1 : Int64)
    have r6 := rng64 (((90000 : Int64) * u) / p + (1 : Int64))
    omega
theorem own_pn0 : plainName "com/example/bunko/bunko/format/ElementaryStreamSetFramePinLaw" = true := by first | (simp [plainName, overriddenIn]; done) | decide +kernel
theorem own_d_m2_0 : decode method_2_code 0 = .ok (.lload_n 0, 1) := by decide +kernel
theorem own_d_m2_1 : decode method_2_code 1 = .ok (.lconst 0, 1) := by decide +kernel
theorem own_d_m2_2 : decode method_2_code 2 = .ok (.lcmp, 1) := by decide +kernel
theorem own_d_m2_3 : decode method_2_code 3 = .ok (.ifCond .gt 7, 3) := by decide +kernel
theorem own_d_m2_10 : decode method_2_code 10 = .ok (.lload_n 0, 1) := by decide +kernel
theorem own_d_m2_11 : decode method_2_code 11 = .ok (.ldc2_w 7, 3) := by decide +kernel
theorem own_d_m2_14 : decode method_2_code 14 = .ok (.land, 1) := by decide +kernel
theorem own_d_m2_15 : decode method_2_code 15 = .ok (.lreturn, 1) := by decide +kernel
theorem own_d_m2_6 : decode method_2_code 6 = .ok (.lload_n 0, 1) := by decide +kernel
theorem own_d_m2_7 : decode method_2_code 7 = .ok (.goto 8, 3) := by decide +kernel
theorem own_pn1 : plainName "com/example/bunko/bunko/format/ElementaryStream" = true := by first | (simp [plainName, overriddenIn]; done) | decide +kernel
theorem own_d_prog_33_m1_0 : decode prog_33_method_1_code 0 = .ok (.aload_n 0, 1) := by decide +kernel
theorem own_d_prog_33_m1_1 : decode prog_33_method_1_code 1 = .ok (.invokespecial 1, 3) := by decide +kernel
theorem own_d_prog_33_m1_4 : decode prog_33_method_1_code 4 = .ok (.aload_n 0, 1) := by decide +kernel
theorem own_d_prog_33_m1_5 : decode prog_33_method_1_code 5 = .ok (.ldc2_w 9, 3) := by decide +kernel
theorem own_d_prog_33_m1_8 : decode prog_33_method_1_code 8 = .ok (.putfield 11, 3) := by decide +kernel
theorem own_d_prog_33_m1_11 : decode prog_33_method_1_code 11 = .ok (.aload_n 0, 1) := by decide +kernel
theorem own_d_prog_33_m1_12 : decode prog_33_method_1_code 12 = .ok (.aload_n 1, 1) := by decide +kernel
theorem own_d_prog_33_m1_13 : decode prog_33_method_1_code 13 = .ok (.putfield 17, 3) := by decide +kernel
theorem own_d_prog_33_m1_16 : decode prog_33_method_1_code 16 = .ok (.aload_n 0, 1) := by decide +kernel
theorem own_d_prog_33_m1_17 : decode prog_33_method_1_code 17 = .ok (.iload_n 2, 1) := by decide +kernel
theorem own_d_prog_33_m1_18 : decode prog_33_method_1_code 18 = .ok (.ifCond .eq 10, 3) := by decide +kernel
theorem own_d_prog_33_m1_28 : decode prog_33_method_1_code 28 = .ok (.aconst_null, 1) := by decide +kernel
theorem own_d_prog_33_m1_29 : decode prog_33_method_1_code 29 = .ok (.putfield 22, 3) := by decide +kernel
theorem own_d_prog_33_m1_32 : decode prog_33_method_1_code 32 = .ok (.return_, 1) := by decide +kernel
theorem own_d_prog_33_m6_0 : decode prog_33_method_6_code 0 = .ok (.aload_n 0, 1) := by decide +kernel
theorem own_d_prog_33_m6_1 : decode prog_33_method_6_code 1 = .ok (.lload_n 3, 1) := by decide +kernel
theorem own_d_prog_33_m6_2 : decode prog_33_method_6_code 2 = .ok (.lconst 0, 1) := by decide +kernel
theorem own_d_prog_33_m6_3 : decode prog_33_method_6_code 3 = .ok (.lcmp, 1) := by decide +kernel
theorem own_d_prog_33_m6_4 : decode prog_33_method_6_code 4 = .ok (.ifCond .le 19, 3) := by decide +kernel
theorem own_d_prog_33_m6_7 : decode prog_33_method_6_code 7 = .ok (.ldc2_w 65, 3) := by decide +kernel
theorem own_d_prog_33_m6_10 : decode prog_33_method_6_code 10 = .ok (.lload_n 1, 1) := by decide +kernel
theorem own_d_prog_33_m6_11 : decode prog_33_method_6_code 11 = .ok (.lmul, 1) := by decide +kernel
theorem own_d_prog_33_m6_12 : decode prog_33_method_6_code 12 = .ok (.lload_n 3, 1) := by decide +kernel
theorem own_d_prog_33_m6_13 : decode prog_33_method_6_code 13 = .ok (.ladd, 1) := by decide +kernel
theorem own_d_prog_33_m6_14 : decode prog_33_method_6_code 14 = .ok (.ldc2_w 67, 3) := by decide +kernel
theorem own_d_prog_33_m6_17 : decode prog_33_method_6_code 17 = .ok (.lload_n 3, 1) := by decide +kernel
theorem own_d_prog_33_m6_18 : decode prog_33_method_6_code 18 = .ok (.lmul, 1) := by decide +kernel
theorem own_d_prog_33_m6_19 : decode prog_33_method_6_code 19 = .ok (.ldiv, 1) := by decide +kernel
theorem own_d_prog_33_m6_20 : decode prog_33_method_6_code 20 = .ok (.goto 4, 3) := by decide +kernel
theorem own_d_prog_33_m6_23 : decode prog_33_method_6_code 23 = .ok (.lconst 0, 1) := by decide +kernel
theorem own_d_prog_33_m6_24 : decode prog_33_method_6_code 24 = .ok (.putfield 69, 3) := by decide +kernel
theorem own_d_prog_33_m6_27 : decode prog_33_method_6_code 27 = .ok (.return_, 1) := by decide +kernel
theorem own_d_prog_33_m7_0 : decode prog_33_method_7_code 0 = .ok (.aload_n 0, 1) := by decide +kernel
theorem own_d_prog_33_m7_1 : decode prog_33_method_7_code 1 = .ok (.getfield 69, 3) := by decide +kernel
theorem own_d_prog_33_m7_4 : decode prog_33_method_7_code 4 = .ok (.lreturn, 1) := by decide +kernel
theorem own_d_prog_33_m9_0 : decode prog_33_method_9_code 0 = .ok (.aload_n 0, 1) := by decide +kernel
theorem own_d_prog_33_m9_1 : decode prog_33_method_9_code 1 = .ok (.getfield 11, 3) := by decide +kernel
theorem own_d_prog_33_m9_4 : decode prog_33_method_9_code 4 = .ok (.lreturn, 1) := by decide +kernel
theorem own_d_m3_0 : decode method_3_code 0 = .ok (.lload_n 2, 1) := by decide +kernel
theorem own_d_m3_1 : decode method_3_code 1 = .ok (.lconst 0, 1) := by decide +kernel
theorem own_d_m3_2 : decode method_3_code 2 = .ok (.lcmp, 1) := by decide +kernel
theorem own_d_m3_3 : decode method_3_code 3 = .ok (.ifCond .gt 5, 3) := by decide +kernel
theorem own_d_m3_8 : decode method_3_code 8 = .ok (.ldc2_w 9, 3) := by decide +kernel
theorem own_d_m3_11 : decode method_3_code 11 = .ok (.lload_n 0, 1) := by decide +kernel
theorem own_d_m3_12 : decode method_3_code 12 = .ok (.lmul, 1) := by decide +kernel
theorem own_d_m3_13 : decode method_3_code 13 = .ok (.lstore 4, 2) := by decide +kernel
theorem own_d_m3_15 : decode method_3_code 15 = .ok (.lload 4, 2) := by decide +kernel
theorem own_d_m3_17 : decode method_3_code 17 = .ok (.lload_n 2, 1) := by decide +kernel
theorem own_d_m3_18 : decode method_3_code 18 = .ok (.ldiv, 1) := by decide +kernel
theorem own_d_m3_19 : decode method_3_code 19 = .ok (.lstore 6, 2) := by decide +kernel
theorem own_d_m3_21 : decode method_3_code 21 = .ok (.lload 4, 2) := by decide +kernel
theorem own_d_m3_23 : decode method_3_code 23 = .ok (.lload_n 2, 1) := by decide +kernel
theorem own_d_m3_24 : decode method_3_code 24 = .ok (.lrem, 1) := by decide +kernel
theorem own_d_m3_25 : decode method_3_code 25 = .ok (.lstore 8, 2) := by decide +kernel
theorem own_d_m3_27 : decode method_3_code 27 = .ok (.ldc2_w 11, 3) := by decide +kernel
theorem own_d_m3_30 : decode method_3_code 30 = .ok (.lload 8, 2) := by decide +kernel
theorem own_d_m3_32 : decode method_3_code 32 = .ok (.lmul, 1) := by decide +kernel
theorem own_d_m3_33 : decode method_3_code 33 = .ok (.lload_n 2, 1) := by decide +kernel
theorem own_d_m3_34 : decode method_3_code 34 = .ok (.lcmp, 1) := by decide +kernel
theorem own_d_m3_35 : decode method_3_code 35 = .ok (.ifCond .lt 10, 3) := by decide +kernel
theorem own_d_m3_45 : decode method_3_code 45 = .ok (.lload 6, 2) := by decide +kernel
theorem own_d_m3_47 : decode method_3_code 47 = .ok (.lreturn, 1) := by decide +kernel
theorem own_d_m3_38 : decode method_3_code 38 = .ok (.lload 6, 2) := by decide +kernel
theorem own_d_m3_40 : decode method_3_code 40 = .ok (.lconst 1, 1) := by decide +kernel
theorem own_d_m3_41 : decode method_3_code 41 = .ok (.ladd, 1) := by decide +kernel
theorem own_d_m3_42 : decode method_3_code 42 = .ok (.goto 5, 3) := by decide +kernel
theorem own_d_m3_6 : decode method_3_code 6 = .ok (.lconst 0, 1) := by decide +kernel
theorem own_d_m3_7 : decode method_3_code 7 = .ok (.lreturn, 1) := by decide +kernel
theorem own_pd0 : parseMethodDescriptor "(J)J" = some ⟨[.long], some .long⟩ := by decide +kernel
theorem own_pd1 : parseMethodDescriptor "(Lcom/example/bunko/bunko/format/ElementaryStream$Codec;Z)V" = some ⟨[(.object "com/example/bunko/bunko/format/ElementaryStream$Codec"), .boolean], none⟩ := by decide +kernel
theorem own_pd2 : parseMethodDescriptor "(JJ)V" = some ⟨[.long, .long], none⟩ := by decide +kernel
theorem own_pd3 : parseMethodDescriptor "()J" = some ⟨[], some .long⟩ := by decide +kernel
theorem own_pd4 : parseMethodDescriptor "(JJ)J" = some ⟨[.long, .long], some .long⟩ := by decide +kernel
def Q_rate (Z : State) (q : Int64) (h0 : Heap) (n0 : Nat) (v : Option Value) (h : Heap) (L : List Loc) : Prop := v = some (.long (own_rate q)) ∧ Fr n0 L ∧ (h = h0)
theorem ef_rate (m : MethodId) (x0 : Int64)  : entryFrame m #[(.long x0)] 2 = mkF m 0 #[.val (.long x0), .second] [] := by first | (simp [entryFrame, mkF, argsToLocals, Value.category]; done) | rfl
set_option maxRecDepth 65536 in
set_option maxHeartbeats 40000000 in
theorem rm_rate (l : Launch) (Z : State) (a0 : Array Value) (hw : ∀ d ∈ tables_1, d.before a0 Z = true) (ws : List Jvm.Cond) (q : Int64) (h0 : Heap) (n0 : Nat) (Zs : n0 ≤ h0.size)  :
    MetFree l (⟨"com/example/bunko/bunko/format/ElementaryStreamSetFramePinLaw", "rate", "(J)J"⟩ : MethodName) (head1 (Jvm.Cond.code (⟨"com/example/bunko/bunko/format/ElementaryStreamSetFramePinLaw", "rate", "(J)J"⟩ : MethodName) method_2_code 2 (some .long) :: ws) ({ frames := 0, cells := 0, slots := 0, locals := 0 } : Room)) (fun a U => a = #[(.long q)] ∧ Z.Warmed39 U.vm ∧ U.heap = h0) (fun _ _ _ _ _ => True) (fun _ U o U' => ∃ v L, o = .returned v ∧ (Q_rate Z q h0 n0) v U'.heap L ∧ FrameEnd U o U' L ({ frames := 0, cells := 0, slots := 0, locals := 0 } : Room).cells ({ frames := 0, cells := 0, slots := 0, locals := 0 } : Room).slots) := by
  refine MetFree.of_bodySF (plainFor_of_name own_pn0) hisR ?_
  intro p e s m args below meth c s₁ Bd hml0 hP hK
  obtain ⟨rfl, hZ, hh⟩ := hP
  have hx := Bd.exec
  have hby := Bd.bytes
  have hlk := BodyLoose.notSynchronized Bd
  have hret := Bd.returns
  have hml : c.maxLocals = 2 := hml0
  have hown : s.vm.findClass "com/example/bunko/bunko/format/ElementaryStreamSetFramePinLaw" = some m.cls := findClass_of_methodNamed Bd.named
  have hnm := (name_of_methodNamed Bd.named Bd.method).1
  have X : Stand p l e ({ frames := 0, cells := 0, slots := 0, locals := 0 } : Room) s m #[(.long q)] below meth c s₁ [] 0 0 := Stand.of_body Bd
  have eT : s₁.heap = h0 := by rw [← hh, Bd.state]; rfl
  have N := Fr.nil n0
  have K0 : Keep h0 h0 [] := Keep.refl _ _
  show own_Go p e below s (Q_rate Z q h0 n0) ({ frames := 0, cells := 0, slots := 0, locals := 0 } : Room).cells ({ frames := 0, cells := 0, slots := 0, locals := 0 } : Room).slots s₁ (entryFrame m #[(.long q)] 2)
  rw [ef_rate m q]
  refine own_st (T' := s₁) (g' := (mkF m 1 #[.val (.long q), .second] [(.long q)])) (fun _ zq => XS.lloadN X.here hx rfl (hb hby own_d_m2_0) rfl zq) ?_
  refine own_st (T' := s₁) (g' := (mkF m 2 #[.val (.long q), .second] [(.long (0 : Int64)), (.long q)])) (fun _ zq => XS.lconst X.here hx rfl (hb hby own_d_m2_1) zq) ?_
  refine own_st (T' := s₁) (g' := (mkF m 3 #[.val (.long q), .second] [(.int (lcmpW q (0 : Int64)))])) (fun _ zq => XS.lcmp X.here hx rfl (hb hby own_d_m2_2) rfl zq) ?_
  by_cases hc : (0 : Int64) < q
  · skip
    refine own_st (T' := s₁) (g' := (mkF m 10 #[.val (.long q), .second] [])) (fun _ zq => XS.ifYes X.here hx rfl (pc0 := 3) (pc' := 10) rfl (hb hby own_d_m2_3) rfl (own_ltlt hc).2.2.1 (by decide) (by decide) zq) ?_
    refine own_st (T' := s₁) (g' := (mkF m 11 #[.val (.long q), .second] [(.long q)])) (fun _ zq => XS.lloadN X.here hx rfl (hb hby own_d_m2_10) rfl zq) ?_
    refine own_st (T' := s₁) (g' := (mkF m 14 #[.val (.long q), .second] [(.long (281474976710655 : Int64)), (.long q)])) (fun _ zq => X.ldc2Long hx hown (mvT hZ (hw _ (List.mem_of_getElem? (i := 5) rfl))) (g := (mkF m 11 #[.val (.long q), .second] [(.long q)])) rfl (hb hby own_d_m2_11) _ zq) ?_
    refine own_st (T' := s₁) (g' := (mkF m 15 #[.val (.long q), .second] [(.long (q &&& (281474976710655 : Int64)))])) (fun _ zq => XS.land X.here hx rfl (hb hby own_d_m2_14) rfl zq) ?_
    exact own_ret X hx hret hlk (i := .lreturn) rfl (Or.inr (Or.inl ⟨rfl, rfl, _, rfl⟩)) (hb hby own_d_m2_15) eT (Nat.le_of_ble_eq_true rfl) (Nat.le_of_ble_eq_true rfl) ⟨by rw [own_rate, if_pos hc], N, rfl⟩
  · skip
    refine own_st (T' := s₁) (g' := (mkF m 6 #[.val (.long q), .second] [])) (fun _ zq => XS.ifNo X.here hx rfl (hb hby own_d_m2_3) rfl (own_lflt hc).2.2.1 zq) ?_
    refine own_st (T' := s₁) (g' := (mkF m 7 #[.val (.long q), .second] [(.long q)])) (fun _ zq => XS.lloadN X.here hx rfl (hb hby own_d_m2_6) rfl zq) ?_
    refine own_st (T' := s₁) (g' := (mkF m 15 #[.val (.long q), .second] [(.long q)])) (fun _ zq => XS.goto X.here hx rfl (pc0 := 7) (pc' := 15) rfl (hb hby own_d_m2_7) (by decide) (by decide) zq) ?_
    exact own_ret X hx hret hlk (i := .lreturn) rfl (Or.inr (Or.inl ⟨rfl, rfl, _, rfl⟩)) (hb hby own_d_m2_15) eT (Nat.le_of_ble_eq_true rfl) (Nat.le_of_ble_eq_true rfl) ⟨by rw [own_rate, if_neg hc], N, rfl⟩
def Q_init (Z : State) (a1 : Addr) (a2 : Addr) (h0 : Heap) (n0 : Nat) (v : Option Value) (h : Heap) (L : List Loc) : Prop := v = none ∧ Fr n0 L ∧ (Keep h0 h [a1]) ∧ (Exa Z h a1 "com/example/bunko/bunko/format/ElementaryStream") ∧ (Fld Z h a1 "com/example/bunko/bunko/format/ElementaryStream" "latest" "J" (.long (-9223372036854775808 : Int64))) ∧ (Fld Z h a1 "com/example/bunko/bunko/format/ElementaryStream" "frameTicks" "J" (.long (0 : Int64)))
theorem ef_init (m : MethodId) (x0 : Addr) (x1 : Addr) (x2 : Int32)  : entryFrame m #[(.ref x0), (.ref x1), (.int x2)] 3 = mkF m 0 #[.val (.ref x0), .val (.ref x1), .val (.int x2)] [] := by first | (simp [entryFrame, mkF, argsToLocals, Value.category]; done) | rfl
set_option maxRecDepth 65536 in
set_option maxHeartbeats 40000000 in
theorem rm_init (l : Launch) (Z : State) (a0 : Array Value) (hw : ∀ d ∈ tables_1, d.before a0 Z = true) (ws : List Jvm.Cond) (a1 : Addr) (a2 : Addr) (h0 : Heap) (n0 : Nat) (Zs : n0 ≤ h0.size) (E_a1 : Exa Z h0 a1 "com/example/bunko/bunko/format/ElementaryStream") (F_latest : Fld Z h0 a1 "com/example/bunko/bunko/format/ElementaryStream" "latest" "J" (.long (0 : Int64))) (F_codec : Fld Z h0 a1 "com/example/bunko/bunko/format/ElementaryStream" "codec" "Lcom/example/bunko/bunko/format/ElementaryStream$Codec;" .null) (F_held : Fld Z h0 a1 "com/example/bunko/bunko/format/ElementaryStream" "held" "[B" .null) (F_ft : Fld Z h0 a1 "com/example/bunko/bunko/format/ElementaryStream" "frameTicks" "J" (.long (0 : Int64))) (g_a1 : n0 ≤ a1) :
    MetFree l (⟨"com/example/bunko/bunko/format/ElementaryStream", "<init>", "(Lcom/example/bunko/bunko/format/ElementaryStream$Codec;Z)V"⟩ : MethodName) (head1 (Jvm.Cond.code (⟨"com/example/bunko/bunko/format/ElementaryStream", "<init>", "(Lcom/example/bunko/bunko/format/ElementaryStream$Codec;Z)V"⟩ : MethodName) prog_33_method_1_code 3 none :: ws) ({ frames := 1, cells := 0, slots := 0, locals := 24 } : Room)) (fun a U => a = #[(.ref a1), (.ref a2), (.int (0 : Int32))] ∧ Z.Warmed39 U.vm ∧ U.heap = h0) (fun _ _ _ _ _ => True) (fun _ U o U' => ∃ v L, o = .returned v ∧ (Q_init Z a1 a2 h0 n0) v U'.heap L ∧ FrameEnd U o U' L ({ frames := 1, cells := 0, slots := 0, locals := 24 } : Room).cells ({ frames := 1, cells := 0, slots := 0, locals := 24 } : Room).slots) := by
  refine MetFree.of_bodySF (plainFor_of_name own_pn1) hisR ?_
  intro p e s m args below meth c s₁ Bd hml0 hP hK
  obtain ⟨rfl, hZ, hh⟩ := hP
  have hx := Bd.exec
  have hby := Bd.bytes
  have hlk := BodyLoose.notSynchronized Bd
  have hret := Bd.returns
  have hml : c.maxLocals = 3 := hml0
  have hown : s.vm.findClass "com/example/bunko/bunko/format/ElementaryStream" = some m.cls := findClass_of_methodNamed Bd.named
  have hnm := (name_of_methodNamed Bd.named Bd.method).1
  have X : Stand p l e ({ frames := 1, cells := 0, slots := 0, locals := 24 } : Room) s m #[(.ref a1), (.ref a2), (.int (0 : Int32))] below meth c s₁ [] 0 0 := Stand.of_body Bd
  have eT : s₁.heap = h0 := by rw [← hh, Bd.state]; rfl
  have N := Fr.nil n0
  have K0 : Keep h0 h0 [a1] := Keep.refl _ _
  show own_Go p e below s (Q_init Z a1 a2 h0 n0) ({ frames := 1, cells := 0, slots := 0, locals := 24 } : Room).cells ({ frames := 1, cells := 0, slots := 0, locals := 24 } : Room).slots s₁ (entryFrame m #[(.ref a1), (.ref a2), (.int (0 : Int32))] 3)
  rw [ef_init m a1 a2 (0 : Int32)]
  refine own_st (T' := s₁) (g' := (mkF m 1 #[.val (.ref a1), .val (.ref a2), .val (.int (0 : Int32))] [(.ref a1)])) (fun _ zq => XS.aloadN X.here hx rfl (hb hby own_d_prog_33_m1_0) rfl rfl zq) ?_
  obtain ⟨T1, X1, e1, st1⟩ := initO X hx hZ hown (hw _ (List.mem_of_getElem? (i := 15) rfl)) (hw _ (List.mem_of_getElem? (i := 16) rfl)) (hw _ (List.mem_of_getElem? (i := 17) rfl)) eT (g := (mkF m 1 #[.val (.ref a1), .val (.ref a2), .val (.int (0 : Int32))] [(.ref a1)])) rfl (by rw [hml]; rfl) rfl (hb hby own_d_prog_33_m1_1) (by decide) (W := 0) (by show 2 * 0 + _ ≤ _; exact Nat.le_of_eq rfl) (by decide)
  refine own_st (g' := (mkF m 4 #[.val (.ref a1), .val (.ref a2), .val (.int (0 : Int32))] [])) st1 ?_
  refine own_st (T' := T1) (g' := (mkF m 5 #[.val (.ref a1), .val (.ref a2), .val (.int (0 : Int32))] [(.ref a1)])) (fun _ zq => XS.aloadN X1.here hx rfl (hb hby own_d_prog_33_m1_4) rfl rfl zq) ?_
  refine own_st (T' := T1) (g' := (mkF m 8 #[.val (.ref a1), .val (.ref a2), .val (.int (0 : Int32))] [(.long (-9223372036854775808 : Int64)), (.ref a1)])) (fun _ zq => X1.ldc2Long hx hown (mvT hZ (hw _ (List.mem_of_getElem? (i := 18) rfl))) (g := (mkF m 5 #[.val (.ref a1), .val (.ref a2), .val (.int (0 : Int32))] [(.ref a1)])) rfl (hb hby own_d_prog_33_m1_5) _ zq) ?_
  obtain ⟨T2, h2, X2, e2, W2, st2⟩ := putF X1 hx hZ hown (host := "") (Or.inl (hw _ (List.mem_of_getElem? (i := 19) rfl))) Via.refl e1 F_latest E_a1 (Or.inl (hw _ (List.mem_of_getElem? (i := 20) rfl))) (hw _ (List.mem_of_getElem? (i := 7) rfl)) (ty := .long) (by decide) rfl rfl (g := (mkF m 8 #[.val (.ref a1), .val (.ref a2), .val (.int (0 : Int32))] [(.long (-9223372036854775808 : Int64)), (.ref a1)])) rfl rfl (hb hby own_d_prog_33_m1_8)
  replace E_a1 := E_a1.wr W2
  replace F_latest := F_latest.same W2
  replace F_codec := F_codec.other W2 (Or.inr (slot_ne (C := "com/example/bunko/bunko/format/ElementaryStream") (Or.inr (hw _ (List.mem_of_getElem? (i := 22) rfl))) (Or.inl (hw _ (List.mem_of_getElem? (i := 20) rfl))) (by decide) (t := (.object "com/example/bunko/bunko/format/ElementaryStream$Codec")) (by decide) (t' := .long) (by decide)))
  replace F_held := F_held.other W2 (Or.inr (slot_ne (C := "com/example/bunko/bunko/format/ElementaryStream") (Or.inl (hw _ (List.mem_of_getElem? (i := 24) rfl))) (Or.inl (hw _ (List.mem_of_getElem? (i := 20) rfl))) (by decide) (t := (.array .byte)) (by decide) (t' := .long) (by decide)))
  replace F_ft := F_ft.other W2 (Or.inr (slot_ne (C := "com/example/bunko/bunko/format/ElementaryStream") (Or.inl (hw _ (List.mem_of_getElem? (i := 33) rfl))) (Or.inl (hw _ (List.mem_of_getElem? (i := 20) rfl))) (by decide) (t := .long) (by decide) (t' := .long) (by decide)))
  replace Zs := Nat.le_trans Zs (Keep.of_wr W2).1
  replace K0 := K0.wr W2 (Or.inl (List.mem_of_getElem? (i := 0) rfl))
  replace N := Fr.snoc X2 N g_a1
  refine own_st (g' := (mkF m 11 #[.val (.ref a1), .val (.ref a2), .val (.int (0 : Int32))] [])) st2 ?_
  refine own_st (T' := T2) (g' := (mkF m 12 #[.val (.ref a1), .val (.ref a2), .val (.int (0 : Int32))] [(.ref a1)])) (fun _ zq => XS.aloadN X2.here hx rfl (hb hby own_d_prog_33_m1_11) rfl rfl zq) ?_
  refine own_st (T' := T2) (g' := (mkF m 13 #[.val (.ref a1), .val (.ref a2), .val (.int (0 : Int32))] [(.ref a2), (.ref a1)])) (fun _ zq => XS.aloadN X2.here hx rfl (hb hby own_d_prog_33_m1_12) rfl rfl zq) ?_
  obtain ⟨T3, h3, X3, e3, W3, st3⟩ := putF X2 hx hZ hown (host := "") (Or.inl (hw _ (List.mem_of_getElem? (i := 21) rfl))) Via.refl e2 F_codec E_a1 (Or.inr ⟨(hw _ (List.mem_of_getElem? (i := 22) rfl)), rfl, hnm⟩) (hw _ (List.mem_of_getElem? (i := 7) rfl)) (ty := (.object "com/example/bunko/bunko/format/ElementaryStream$Codec")) (by decide) rfl rfl (g := (mkF m 13 #[.val (.ref a1), .val (.ref a2), .val (.int (0 : Int32))] [(.ref a2), (.ref a1)])) rfl rfl (hb hby own_d_prog_33_m1_13)
  replace E_a1 := E_a1.wr W3
  replace F_latest := F_latest.other W3 (Or.inr (slot_ne (C := "com/example/bunko/bunko/format/ElementaryStream") (Or.inl (hw _ (List.mem_of_getElem? (i := 20) rfl))) (Or.inr (hw _ (List.mem_of_getElem? (i := 22) rfl))) (by decide) (t := .long) (by decide) (t' := (.object "com/example/bunko/bunko/format/ElementaryStream$Codec")) (by decide)))
  replace F_codec := F_codec.same W3
  replace F_held := F_held.other W3 (Or.inr (slot_ne (C := "com/example/bunko/bunko/format/ElementaryStream") (Or.inl (hw _ (List.mem_of_getElem? (i := 24) rfl))) (Or.inr (hw _ (List.mem_of_getElem? (i := 22) rfl))) (by decide) (t := (.array .byte)) (by decide) (t' := (.object "com/example/bunko/bunko/format/ElementaryStream$Codec")) (by decide)))
  replace F_ft := F_ft.other W3 (Or.inr (slot_ne (C := "com/example/bunko/bunko/format/ElementaryStream") (Or.inl (hw _ (List.mem_of_getElem? (i := 33) rfl))) (Or.inr (hw _ (List.mem_of_getElem? (i := 22) rfl))) (by decide) (t := .long) (by decide) (t' := (.object "com/example/bunko/bunko/format/ElementaryStream$Codec")) (by decide)))
  replace Zs := Nat.le_trans Zs (Keep.of_wr W3).1
  replace K0 := K0.wr W3 (Or.inl (List.mem_of_getElem? (i := 0) rfl))
  replace N := Fr.snoc X3 N g_a1
  refine own_st (g' := (mkF m 16 #[.val (.ref a1), .val (.ref a2), .val (.int (0 : Int32))] [])) st3 ?_
  refine own_st (T' := T3) (g' := (mkF m 17 #[.val (.ref a1), .val (.ref a2), .val (.int (0 : Int32))] [(.ref a1)])) (fun _ zq => XS.aloadN X3.here hx rfl (hb hby own_d_prog_33_m1_16) rfl rfl zq) ?_
  refine own_st (T' := T3) (g' := (mkF m 18 #[.val (.ref a1), .val (.ref a2), .val (.int (0 : Int32))] [(.int (0 : Int32)), (.ref a1)])) (fun _ zq => XS.iloadN X3.here hx rfl (hb hby own_d_prog_33_m1_17) rfl zq) ?_
  refine own_st (T' := T3) (g' := (mkF m 28 #[.val (.ref a1), .val (.ref a2), .val (.int (0 : Int32))] [(.ref a1)])) (fun _ zq => XS.ifYes X3.here hx rfl (pc0 := 18) (pc' := 28) rfl (hb hby own_d_prog_33_m1_18) rfl ((if0 _ _).trans (teq rfl).1) (by decide) (by decide) zq) ?_
  refine own_st (T' := T3) (g' := (mkF m 29 #[.val (.ref a1), .val (.ref a2), .val (.int (0 : Int32))] [.null, (.ref a1)])) (fun _ zq => XS.aconstNull X3.here hx rfl (hb hby own_d_prog_33_m1_28) zq) ?_
  obtain ⟨T4, h4, X4, e4, W4, st4⟩ := putF X3 hx hZ hown (host := "") (Or.inl (hw _ (List.mem_of_getElem? (i := 23) rfl))) Via.refl e3 F_held E_a1 (Or.inl (hw _ (List.mem_of_getElem? (i := 24) rfl))) (hw _ (List.mem_of_getElem? (i := 7) rfl)) (ty := (.array .byte)) (by decide) rfl rfl (g := (mkF m 29 #[.val (.ref a1), .val (.ref a2), .val (.int (0 : Int32))] [.null, (.ref a1)])) rfl rfl (hb hby own_d_prog_33_m1_29)
  replace E_a1 := E_a1.wr W4
  replace F_latest := F_latest.other W4 (Or.inr (slot_ne (C := "com/example/bunko/bunko/format/ElementaryStream") (Or.inl (hw _ (List.mem_of_getElem? (i := 20) rfl))) (Or.inl (hw _ (List.mem_of_getElem? (i := 24) rfl))) (by decide) (t := .long) (by decide) (t' := (.array .byte)) (by decide)))
  replace F_codec := F_codec.other W4 (Or.inr (slot_ne (C := "com/example/bunko/bunko/format/ElementaryStream") (Or.inr (hw _ (List.mem_of_getElem? (i := 22) rfl))) (Or.inl (hw _ (List.mem_of_getElem? (i := 24) rfl))) (by decide) (t := (.object "com/example/bunko/bunko/format/ElementaryStream$Codec")) (by decide) (t' := (.array .byte)) (by decide)))
  replace F_held := F_held.same W4
  replace F_ft := F_ft.other W4 (Or.inr (slot_ne (C := "com/example/bunko/bunko/format/ElementaryStream") (Or.inl (hw _ (List.mem_of_getElem? (i := 33) rfl))) (Or.inl (hw _ (List.mem_of_getElem? (i := 24) rfl))) (by decide) (t := .long) (by decide) (t' := (.array .byte)) (by decide)))
  replace Zs := Nat.le_trans Zs (Keep.of_wr W4).1
  replace K0 := K0.wr W4 (Or.inl (List.mem_of_getElem? (i := 0) rfl))
  replace N := Fr.snoc X4 N g_a1
  refine own_st (g' := (mkF m 32 #[.val (.ref a1), .val (.ref a2), .val (.int (0 : Int32))] [])) st4 ?_
  exact own_ret0 X4 hx hret hlk (hb hby own_d_prog_33_m1_32) e4 (Nat.le_of_ble_eq_true rfl) (Nat.le_of_ble_eq_true rfl) ⟨rfl, N, K0, E_a1, F_latest, F_ft⟩
def Q_setf (Z : State) (a1 : Addr) (u : Int64) (q : Int64) (t : Int64) (lt : Int64) (h0 : Heap) (n0 : Nat) (v : Option Value) (h : Heap) (L : List Loc) : Prop := v = none ∧ Fr n0 L ∧ (Keep h0 h [a1]) ∧ (Exa Z h a1 "com/example/bunko/bunko/format/ElementaryStream") ∧ (Fld Z h a1 "com/example/bunko/bunko/format/ElementaryStream" "frameTicks" "J" (.long (own_sf u q))) ∧ (Fld Z h a1 "com/example/bunko/bunko/format/ElementaryStream" "latest" "J" (.long lt))
theorem ef_setf (m : MethodId) (x0 : Addr) (x1 : Int64) (x2 : Int64)  : entryFrame m #[(.ref x0), (.long x1), (.long x2)] 5 = mkF m 0 #[.val (.ref x0), .val (.long x1), .second, .val (.long x2), .second] [] := by first | (simp [entryFrame, mkF, argsToLocals, Value.category]; done) | rfl
set_option maxRecDepth 65536 in
set_option maxHeartbeats 40000000 in
theorem rm_setf (l : Launch) (Z : State) (a0 : Array Value) (hw : ∀ d ∈ tables_1, d.before a0 Z = true) (ws : List Jvm.Cond) (a1 : Addr) (u : Int64) (q : Int64) (t : Int64) (lt : Int64) (h0 : Heap) (n0 : Nat) (Zs : n0 ≤ h0.size) (E_a1 : Exa Z h0 a1 "com/example/bunko/bunko/format/ElementaryStream") (F_ft : Fld Z h0 a1 "com/example/bunko/bunko/format/ElementaryStream" "frameTicks" "J" (.long t)) (F_l : Fld Z h0 a1 "com/example/bunko/bunko/format/ElementaryStream" "latest" "J" (.long lt)) (hnz : (0 : Int64) < q → ¬ (((2 : Int64) * q) = (0 : Int64))) (g_a1 : n0 ≤ a1) :
    MetFree l (⟨"com/example/bunko/bunko/format/ElementaryStream", "setFrame", "(JJ)V"⟩ : MethodName) (head1 (Jvm.Cond.code (⟨"com/example/bunko/bunko/format/ElementaryStream", "setFrame", "(JJ)V"⟩ : MethodName) prog_33_method_6_code 5 none :: ws) ({ frames := 0, cells := 0, slots := 0, locals := 0 } : Room)) (fun a U => a = #[(.ref a1), (.long u), (.long q)] ∧ Z.Warmed39 U.vm ∧ U.heap = h0) (fun _ _ _ _ _ => True) (fun _ U o U' => ∃ v L, o = .returned v ∧ (Q_setf Z a1 u q t lt h0 n0) v U'.heap L ∧ FrameEnd U o U' L ({ frames := 0, cells := 0, slots := 0, locals := 0 } : Room).cells ({ frames := 0, cells := 0, slots := 0, locals := 0 } : Room).slots) := by
  refine MetFree.of_bodySF (plainFor_of_name own_pn1) hisR ?_
  intro p e s m args below meth c s₁ Bd hml0 hP hK
  obtain ⟨rfl, hZ, hh⟩ := hP
  have hx := Bd.exec
  have hby := Bd.bytes
  have hlk := BodyLoose.notSynchronized Bd
  have hret := Bd.returns
  have hml : c.maxLocals = 5 := hml0
  have hown : s.vm.findClass "com/example/bunko/bunko/format/ElementaryStream" = some m.cls := findClass_of_methodNamed Bd.named
  have hnm := (name_of_methodNamed Bd.named Bd.method).1
  have X : Stand p l e ({ frames := 0, cells := 0, slots := 0, locals := 0 } : Room) s m #[(.ref a1), (.long u), (.long q)] below meth c s₁ [] 0 0 := Stand.of_body Bd
  have eT : s₁.heap = h0 := by rw [← hh, Bd.state]; rfl
  have N := Fr.nil n0
  have K0 : Keep h0 h0 [a1] := Keep.refl _ _
  show own_Go p e below s (Q_setf Z a1 u q t lt h0 n0) ({ frames := 0, cells := 0, slots := 0, locals := 0 } : Room).cells ({ frames := 0, cells := 0, slots := 0, locals := 0 } : Room).slots s₁ (entryFrame m #[(.ref a1), (.long u), (.long q)] 5)
  rw [ef_setf m a1 u q]
  refine own_st (T' := s₁) (g' := (mkF m 1 #[.val (.ref a1), .val (.long u), .second, .val (.long q), .second] [(.ref a1)])) (fun _ zq => XS.aloadN X.here hx rfl (hb hby own_d_prog_33_m6_0) rfl rfl zq) ?_
  refine own_st (T' := s₁) (g' := (mkF m 2 #[.val (.ref a1), .val (.long u), .second, .val (.long q), .second] [(.long q), (.ref a1)])) (fun _ zq => XS.lloadN X.here hx rfl (hb hby own_d_prog_33_m6_1) rfl zq) ?_
  refine own_st (T' := s₁) (g' := (mkF m 3 #[.val (.ref a1), .val (.long u), .second, .val (.long q), .second] [(.long (0 : Int64)), (.long q), (.ref a1)])) (fun _ zq => XS.lconst X.here hx rfl (hb hby own_d_prog_33_m6_2) zq) ?_
  refine own_st (T' := s₁) (g' := (mkF m 4 #[.val (.ref a1), .val (.long u), .second, .val (.long q), .second] [(.int (lcmpW q (0 : Int64))), (.ref a1)])) (fun _ zq => XS.lcmp X.here hx rfl (hb hby own_d_prog_33_m6_3) rfl zq) ?_
  suffices J24 : ∀ (z : Int64) (hz : z = own_sf u q), own_Go p e below s (Q_setf Z a1 u q t lt h0 n0) ({ frames := 0, cells := 0, slots := 0, locals := 0 } : Room).cells ({ frames := 0, cells := 0, slots := 0, locals := 0 } : Room).slots s₁ (mkF m 24 #[.val (.ref a1), .val (.long u), .second, .val (.long q), .second] [(.long z), (.ref a1)]) by
    by_cases hc : (0 : Int64) < q
    · skip
      refine own_st (T' := s₁) (g' := (mkF m 7 #[.val (.ref a1), .val (.long u), .second, .val (.long q), .second] [(.ref a1)])) (fun _ zq => XS.ifNo X.here hx rfl (hb hby own_d_prog_33_m6_4) rfl (own_ltlt hc).2.2.2 zq) ?_
      refine own_st (T' := s₁) (g' := (mkF m 10 #[.val (.ref a1), .val (.long u), .second, .val (.long q), .second] [(.long (180000 : Int64)), (.ref a1)])) (fun _ zq => X.ldc2Long hx hown (mvT hZ (hw _ (List.mem_of_getElem? (i := 30) rfl))) (g := (mkF m 7 #[.val (.ref a1), .val (.long u), .second, .val (.long q), .second] [(.ref a1)])) rfl (hb hby own_d_prog_33_m6_7) _ zq) ?_
      refine own_st (T' := s₁) (g' := (mkF m 11 #[.val (.ref a1), .val (.long u), .second, .val (.long q), .second] [(.long u), (.long (180000 : Int64)), (.ref a1)])) (fun _ zq => XS.lloadN X.here hx rfl (hb hby own_d_prog_33_m6_10) rfl zq) ?_
      refine own_st (T' := s₁) (g' := (mkF m 12 #[.val (.ref a1), .val (.long u), .second, .val (.long q), .second] [(.long ((180000 : Int64) * u)), (.ref a1)])) (fun _ zq => XS.lmul X.here hx rfl (hb hby own_d_prog_33_m6_11) rfl zq) ?_
      refine own_st (T' := s₁) (g' := (mkF m 13 #[.val (.ref a1), .val (.long u), .second, .val (.long q), .second] [(.long q), (.long ((180000 : Int64) * u)), (.ref a1)])) (fun _ zq => XS.lloadN X.here hx rfl (hb hby own_d_prog_33_m6_12) rfl zq) ?_
      refine own_st (T' := s₁) (g' := (mkF m 14 #[.val (.ref a1), .val (.long u), .second, .val (.long q), .second] [(.long (((180000 : Int64) * u) + q)), (.ref a1)])) (fun _ zq => XS.ladd X.here hx rfl (hb hby own_d_prog_33_m6_13) rfl zq) ?_
      refine own_st (T' := s₁) (g' := (mkF m 17 #[.val (.ref a1), .val (.long u), .second, .val (.long q), .second] [(.long (2 : Int64)), (.long (((180000 : Int64) * u) + q)), (.ref a1)])) (fun _ zq => X.ldc2Long hx hown (mvT hZ (hw _ (List.mem_of_getElem? (i := 31) rfl))) (g := (mkF m 14 #[.val (.ref a1), .val (.long u), .second, .val (.long q), .second] [(.long (((180000 : Int64) * u) + q)), (.ref a1)])) rfl (hb hby own_d_prog_33_m6_14) _ zq) ?_
      refine own_st (T' := s₁) (g' := (mkF m 18 #[.val (.ref a1), .val (.long u), .second, .val (.long q), .second] [(.long q), (.long (2 : Int64)), (.long (((180000 : Int64) * u) + q)), (.ref a1)])) (fun _ zq => XS.lloadN X.here hx rfl (hb hby own_d_prog_33_m6_17) rfl zq) ?_
      refine own_st (T' := s₁) (g' := (mkF m 19 #[.val (.ref a1), .val (.long u), .second, .val (.long q), .second] [(.long ((2 : Int64) * q)), (.long (((180000 : Int64) * u) + q)), (.ref a1)])) (fun _ zq => XS.lmul X.here hx rfl (hb hby own_d_prog_33_m6_18) rfl zq) ?_
      refine own_st (T' := s₁) (g' := (mkF m 20 #[.val (.ref a1), .val (.long u), .second, .val (.long q), .second] [(.long ((((180000 : Int64) * u) + q) / ((2 : Int64) * q))), (.ref a1)])) (fun _ zq => XS.ldiv X.here hx rfl (hb hby own_d_prog_33_m6_19) rfl (hnz hc) zq) ?_
      refine own_st (T' := s₁) (g' := (mkF m 24 #[.val (.ref a1), .val (.long u), .second, .val (.long q), .second] [(.long ((((180000 : Int64) * u) + q) / ((2 : Int64) * q))), (.ref a1)])) (fun _ zq => XS.goto X.here hx rfl (pc0 := 20) (pc' := 24) rfl (hb hby own_d_prog_33_m6_20) (by decide) (by decide) zq) ?_
      exact J24 _ (by rw [own_sf, if_pos hc])
    · skip
      refine own_st (T' := s₁) (g' := (mkF m 23 #[.val (.ref a1), .val (.long u), .second, .val (.long q), .second] [(.ref a1)])) (fun _ zq => XS.ifYes X.here hx rfl (pc0 := 4) (pc' := 23) rfl (hb hby own_d_prog_33_m6_4) rfl (own_lflt hc).2.2.2 (by decide) (by decide) zq) ?_
      refine own_st (T' := s₁) (g' := (mkF m 24 #[.val (.ref a1), .val (.long u), .second, .val (.long q), .second] [(.long (0 : Int64)), (.ref a1)])) (fun _ zq => XS.lconst X.here hx rfl (hb hby own_d_prog_33_m6_23) zq) ?_
      exact J24 _ (by rw [own_sf, if_neg hc])
  intro z hz
  subst hz
  obtain ⟨T5, h5, X5, e5, W5, st5⟩ := putF X hx hZ hown (host := "") (Or.inl (hw _ (List.mem_of_getElem? (i := 32) rfl))) Via.refl eT F_ft E_a1 (Or.inl (hw _ (List.mem_of_getElem? (i := 33) rfl))) (hw _ (List.mem_of_getElem? (i := 7) rfl)) (ty := .long) (by decide) rfl rfl (g := (mkF m 24 #[.val (.ref a1), .val (.long u), .second, .val (.long q), .second] [(.long (own_sf u q)), (.ref a1)])) rfl rfl (hb hby own_d_prog_33_m6_24)
  replace E_a1 := E_a1.wr W5
  replace F_ft := F_ft.same W5
  replace F_l := F_l.other W5 (Or.inr (slot_ne (C := "com/example/bunko/bunko/format/ElementaryStream") (Or.inl (hw _ (List.mem_of_getElem? (i := 20) rfl))) (Or.inl (hw _ (List.mem_of_getElem? (i := 33) rfl))) (by decide) (t := .long) (by decide) (t' := .long) (by decide)))
  replace Zs := Nat.le_trans Zs (Keep.of_wr W5).1
  replace K0 := K0.wr W5 (Or.inl (List.mem_of_getElem? (i := 0) rfl))
  replace N := Fr.snoc X5 N g_a1
  refine own_st (g' := (mkF m 27 #[.val (.ref a1), .val (.long u), .second, .val (.long q), .second] [])) st5 ?_
  exact own_ret0 X5 hx hret hlk (hb hby own_d_prog_33_m6_27) e5 (Nat.le_of_ble_eq_true rfl) (Nat.le_of_ble_eq_true rfl) ⟨rfl, N, K0, E_a1, F_ft, F_l⟩
def Q_frameTicks (Z : State) (a1 : Addr) (t : Int64) (h0 : Heap) (n0 : Nat) (v : Option Value) (h : Heap) (L : List Loc) : Prop := v = some (.long t) ∧ Fr n0 L ∧ (h = h0)
theorem ef_frameTicks (m : MethodId) (x0 : Addr)  : entryFrame m #[(.ref x0)] 1 = mkF m 0 #[.val (.ref x0)] [] := by first | (simp [entryFrame, mkF, argsToLocals, Value.category]; done) | rfl
set_option maxRecDepth 65536 in
set_option maxHeartbeats 40000000 in
theorem rm_frameTicks (l : Launch) (Z : State) (a0 : Array Value) (hw : ∀ d ∈ tables_1, d.before a0 Z = true) (ws : List Jvm.Cond) (a1 : Addr) (t : Int64) (h0 : Heap) (n0 : Nat) (Zs : n0 ≤ h0.size) (F_a1 : Fld Z h0 a1 "com/example/bunko/bunko/format/ElementaryStream" "frameTicks" "J" (.long t)) :
    MetFree l (⟨"com/example/bunko/bunko/format/ElementaryStream", "frameTicks", "()J"⟩ : MethodName) (head1 (Jvm.Cond.code (⟨"com/example/bunko/bunko/format/ElementaryStream", "frameTicks", "()J"⟩ : MethodName) prog_33_method_7_code 1 (some .long) :: ws) ({ frames := 0, cells := 0, slots := 0, locals := 0 } : Room)) (fun a U => a = #[(.ref a1)] ∧ Z.Warmed39 U.vm ∧ U.heap = h0) (fun _ _ _ _ _ => True) (fun _ U o U' => ∃ v L, o = .returned v ∧ (Q_frameTicks Z a1 t h0 n0) v U'.heap L ∧ FrameEnd U o U' L ({ frames := 0, cells := 0, slots := 0, locals := 0 } : Room).cells ({ frames := 0, cells := 0, slots := 0, locals := 0 } : Room).slots) := by
  refine MetFree.of_bodySF (plainFor_of_name own_pn1) hisR ?_
  intro p e s m args below meth c s₁ Bd hml0 hP hK
  obtain ⟨rfl, hZ, hh⟩ := hP
  have hx := Bd.exec
  have hby := Bd.bytes
  have hlk := BodyLoose.notSynchronized Bd
  have hret := Bd.returns
  have hml : c.maxLocals = 1 := hml0
  have hown : s.vm.findClass "com/example/bunko/bunko/format/ElementaryStream" = some m.cls := findClass_of_methodNamed Bd.named
  have hnm := (name_of_methodNamed Bd.named Bd.method).1
  have X : Stand p l e ({ frames := 0, cells := 0, slots := 0, locals := 0 } : Room) s m #[(.ref a1)] below meth c s₁ [] 0 0 := Stand.of_body Bd
  have eT : s₁.heap = h0 := by rw [← hh, Bd.state]; rfl
  have N := Fr.nil n0
  have K0 : Keep h0 h0 [] := Keep.refl _ _
  show own_Go p e below s (Q_frameTicks Z a1 t h0 n0) ({ frames := 0, cells := 0, slots := 0, locals := 0 } : Room).cells ({ frames := 0, cells := 0, slots := 0, locals := 0 } : Room).slots s₁ (entryFrame m #[(.ref a1)] 1)
  rw [ef_frameTicks m a1]
  refine own_st (T' := s₁) (g' := (mkF m 1 #[.val (.ref a1)] [(.ref a1)])) (fun _ zq => XS.aloadN X.here hx rfl (hb hby own_d_prog_33_m7_0) rfl rfl zq) ?_
  obtain ⟨T6, X6, e6, st6⟩ := getF X hx hZ hown (host := "") (Or.inl (hw _ (List.mem_of_getElem? (i := 32) rfl))) Via.refl eT F_a1 (g := (mkF m 1 #[.val (.ref a1)] [(.ref a1)])) rfl rfl (hb hby own_d_prog_33_m7_1)
  refine own_st (g' := (mkF m 4 #[.val (.ref a1)] [(.long t)])) st6 ?_
  exact own_ret X6 hx hret hlk (i := .lreturn) rfl (Or.inr (Or.inl ⟨rfl, rfl, _, rfl⟩)) (hb hby own_d_prog_33_m7_4) e6 (Nat.le_of_ble_eq_true rfl) (Nat.le_of_ble_eq_true rfl) ⟨rfl, N, rfl⟩
def Q_latest (Z : State) (a1 : Addr) (t : Int64) (h0 : Heap) (n0 : Nat) (v : Option Value) (h : Heap) (L : List Loc) : Prop := v = some (.long t) ∧ Fr n0 L ∧ (h = h0)
theorem ef_latest (m : MethodId) (x0 : Addr)  : entryFrame m #[(.ref x0)] 1 = mkF m 0 #[.val (.ref x0)] [] := by first | (simp [entryFrame, mkF, argsToLocals, Value.category]; done) | rfl
set_option maxRecDepth 65536 in
set_option maxHeartbeats 40000000 in
theorem rm_latest (l : Launch) (Z : State) (a0 : Array Value) (hw : ∀ d ∈ tables_1, d.before a0 Z = true) (ws : List Jvm.Cond) (a1 : Addr) (t : Int64) (h0 : Heap) (n0 : Nat) (Zs : n0 ≤ h0.size) (F_a1 : Fld Z h0 a1 "com/example/bunko/bunko/format/ElementaryStream" "latest" "J" (.long t)) :
    MetFree l (⟨"com/example/bunko/bunko/format/ElementaryStream", "latest", "()J"⟩ : MethodName) (head1 (Jvm.Cond.code (⟨"com/example/bunko/bunko/format/ElementaryStream", "latest", "()J"⟩ : MethodName) prog_33_method_9_code 1 (some .long) :: ws) ({ frames := 0, cells := 0, slots := 0, locals := 0 } : Room)) (fun a U => a = #[(.ref a1)] ∧ Z.Warmed39 U.vm ∧ U.heap = h0) (fun _ _ _ _ _ => True) (fun _ U o U' => ∃ v L, o = .returned v ∧ (Q_latest Z a1 t h0 n0) v U'.heap L ∧ FrameEnd U o U' L ({ frames := 0, cells := 0, slots := 0, locals := 0 } : Room).cells ({ frames := 0, cells := 0, slots := 0, locals := 0 } : Room).slots) := by
  refine MetFree.of_bodySF (plainFor_of_name own_pn1) hisR ?_
  intro p e s m args below meth c s₁ Bd hml0 hP hK
  obtain ⟨rfl, hZ, hh⟩ := hP
  have hx := Bd.exec
  have hby := Bd.bytes
  have hlk := BodyLoose.notSynchronized Bd
  have hret := Bd.returns
  have hml : c.maxLocals = 1 := hml0
  have hown : s.vm.findClass "com/example/bunko/bunko/format/ElementaryStream" = some m.cls := findClass_of_methodNamed Bd.named
  have hnm := (name_of_methodNamed Bd.named Bd.method).1
  have X : Stand p l e ({ frames := 0, cells := 0, slots := 0, locals := 0 } : Room) s m #[(.ref a1)] below meth c s₁ [] 0 0 := Stand.of_body Bd
  have eT : s₁.heap = h0 := by rw [← hh, Bd.state]; rfl
  have N := Fr.nil n0
  have K0 : Keep h0 h0 [] := Keep.refl _ _
  show own_Go p e below s (Q_latest Z a1 t h0 n0) ({ frames := 0, cells := 0, slots := 0, locals := 0 } : Room).cells ({ frames := 0, cells := 0, slots := 0, locals := 0 } : Room).slots s₁ (entryFrame m #[(.ref a1)] 1)
  rw [ef_latest m a1]
  refine own_st (T' := s₁) (g' := (mkF m 1 #[.val (.ref a1)] [(.ref a1)])) (fun _ zq => XS.aloadN X.here hx rfl (hb hby own_d_prog_33_m9_0) rfl rfl zq) ?_
  obtain ⟨T7, X7, e7, st7⟩ := getF X hx hZ hown (host := "") (Or.inl (hw _ (List.mem_of_getElem? (i := 19) rfl))) Via.refl eT F_a1 (g := (mkF m 1 #[.val (.ref a1)] [(.ref a1)])) rfl rfl (hb hby own_d_prog_33_m9_1)
  refine own_st (g' := (mkF m 4 #[.val (.ref a1)] [(.long t)])) st7 ?_
  exact own_ret X7 hx hret hlk (i := .lreturn) rfl (Or.inr (Or.inl ⟨rfl, rfl, _, rfl⟩)) (hb hby own_d_prog_33_m9_4) e7 (Nat.le_of_ble_eq_true rfl) (Nat.le_of_ble_eq_true rfl) ⟨rfl, N, rfl⟩
def Q_ref (Z : State) (u : Int64) (q : Int64) (h0 : Heap) (n0 : Nat) (v : Option Value) (h : Heap) (L : List Loc) : Prop := v = some (.long (own_ref u q)) ∧ Fr n0 L ∧ (h = h0)
theorem ef_ref (m : MethodId) (x0 : Int64) (x1 : Int64)  : entryFrame m #[(.long x0), (.long x1)] 10 = mkF m 0 #[.val (.long x0), .second, .val (.long x1), .second, .unset, .unset, .unset, .unset, .unset, .unset] [] := by first | (simp [entryFrame, mkF, argsToLocals, Value.category]; done) | rfl
set_option maxRecDepth 65536 in
set_option maxHeartbeats 40000000 in
theorem rm_ref (l : Launch) (Z : State) (a0 : Array Value) (hw : ∀ d ∈ tables_1, d.before a0 Z = true) (ws : List Jvm.Cond) (u : Int64) (q : Int64) (h0 : Heap) (n0 : Nat) (Zs : n0 ≤ h0.size)  :
    MetFree l (⟨"com/example/bunko/bunko/format/ElementaryStreamSetFramePinLaw", "ref", "(JJ)J"⟩ : MethodName) (head1 (Jvm.Cond.code (⟨"com/example/bunko/bunko/format/ElementaryStreamSetFramePinLaw", "ref", "(JJ)J"⟩ : MethodName) method_3_code 10 (some .long) :: ws) ({ frames := 0, cells := 0, slots := 0, locals := 0 } : Room)) (fun a U => a = #[(.long u), (.long q)] ∧ Z.Warmed39 U.vm ∧ U.heap = h0) (fun _ _ _ _ _ => True) (fun _ U o U' => ∃ v L, o = .returned v ∧ (Q_ref Z u q h0 n0) v U'.heap L ∧ FrameEnd U o U' L ({ frames := 0, cells := 0, slots := 0, locals := 0 } : Room).cells ({ frames := 0, cells := 0, slots := 0, locals := 0 } : Room).slots) := by
  refine MetFree.of_bodySF (plainFor_of_name own_pn0) hisR ?_
  intro p e s m args below meth c s₁ Bd hml0 hP hK
  obtain ⟨rfl, hZ, hh⟩ := hP
  have hx := Bd.exec
  have hby := Bd.bytes
  have hlk := BodyLoose.notSynchronized Bd
  have hret := Bd.returns
  have hml : c.maxLocals = 10 := hml0
  have hown : s.vm.findClass "com/example/bunko/bunko/format/ElementaryStreamSetFramePinLaw" = some m.cls := findClass_of_methodNamed Bd.named
  have hnm := (name_of_methodNamed Bd.named Bd.method).1
  have X : Stand p l e ({ frames := 0, cells := 0, slots := 0, locals := 0 } : Room) s m #[(.long u), (.long q)] below meth c s₁ [] 0 0 := Stand.of_body Bd
  have eT : s₁.heap = h0 := by rw [← hh, Bd.state]; rfl
  have N := Fr.nil n0
  have K0 : Keep h0 h0 [] := Keep.refl _ _
  show own_Go p e below s (Q_ref Z u q h0 n0) ({ frames := 0, cells := 0, slots := 0, locals := 0 } : Room).cells ({ frames := 0, cells := 0, slots := 0, locals := 0 } : Room).slots s₁ (entryFrame m #[(.long u), (.long q)] 10)
  rw [ef_ref m u q]
  refine own_st (T' := s₁) (g' := (mkF m 1 #[.val (.long u), .second, .val (.long q), .second, .unset, .unset, .unset, .unset, .unset, .unset] [(.long q)])) (fun _ zq => XS.lloadN X.here hx rfl (hb hby own_d_m3_0) rfl zq) ?_
  refine own_st (T' := s₁) (g' := (mkF m 2 #[.val (.long u), .second, .val (.long q), .second, .unset, .unset, .unset, .unset, .unset, .unset] [(.long (0 : Int64)), (.long q)])) (fun _ zq => XS.lconst X.here hx rfl (hb hby own_d_m3_1) zq) ?_
  refine own_st (T' := s₁) (g' := (mkF m 3 #[.val (.long u), .second, .val (.long q), .second, .unset, .unset, .unset, .unset, .unset, .unset] [(.int (lcmpW q (0 : Int64)))])) (fun _ zq => XS.lcmp X.here hx rfl (hb hby own_d_m3_2) rfl zq) ?_
  by_cases hc : (0 : Int64) < q
  · skip
    refine own_st (T' := s₁) (g' := (mkF m 8 #[.val (.long u), .second, .val (.long q), .second, .unset, .unset, .unset, .unset, .unset, .unset] [])) (fun _ zq => XS.ifYes X.here hx rfl (pc0 := 3) (pc' := 8) rfl (hb hby own_d_m3_3) rfl (own_ltlt hc).2.2.1 (by decide) (by decide) zq) ?_
    refine own_st (T' := s₁) (g' := (mkF m 11 #[.val (.long u), .second, .val (.long q), .second, .unset, .unset, .unset, .unset, .unset, .unset] [(.long (90000 : Int64))])) (fun _ zq => X.ldc2Long hx hown (mvT hZ (hw _ (List.mem_of_getElem? (i := 42) rfl))) (g := (mkF m 8 #[.val (.long u), .second, .val (.long q), .second, .unset, .unset, .unset, .unset, .unset, .unset] [])) rfl (hb hby own_d_m3_8) _ zq) ?_
    refine own_st (T' := s₁) (g' := (mkF m 12 #[.val (.long u), .second, .val (.long q), .second, .unset, .unset, .unset, .unset, .unset, .unset] [(.long u), (.long (90000 : Int64))])) (fun _ zq => XS.lloadN X.here hx rfl (hb hby own_d_m3_11) rfl zq) ?_
    refine own_st (T' := s₁) (g' := (mkF m 13 #[.val (.long u), .second, .val (.long q), .second, .unset, .unset, .unset, .unset, .unset, .unset] [(.long ((90000 : Int64) * u))])) (fun _ zq => XS.lmul X.here hx rfl (hb hby own_d_m3_12) rfl zq) ?_
    refine own_st (T' := s₁) (g' := (mkF m 15 #[.val (.long u), .second, .val (.long q), .second, .val (.long ((90000 : Int64) * u)), .second, .unset, .unset, .unset, .unset] [])) (fun _ zq => XS.lstore X.here hx rfl (hb hby own_d_m3_13) rfl (l' := #[.val (.long u), .second, .val (.long q), .second, .val (.long ((90000 : Int64) * u)), .second, .unset, .unset, .unset, .unset]) rfl zq) ?_
    refine own_st (T' := s₁) (g' := (mkF m 17 #[.val (.long u), .second, .val (.long q), .second, .val (.long ((90000 : Int64) * u)), .second, .unset, .unset, .unset, .unset] [(.long ((90000 : Int64) * u))])) (fun _ zq => XS.lload X.here hx rfl (hb hby own_d_m3_15) rfl zq) ?_
    refine own_st (T' := s₁) (g' := (mkF m 18 #[.val (.long u), .second, .val (.long q), .second, .val (.long ((90000 : Int64) * u)), .second, .unset, .unset, .unset, .unset] [(.long q), (.long ((90000 : Int64) * u))])) (fun _ zq => XS.lloadN X.here hx rfl (hb hby own_d_m3_17) rfl zq) ?_
    have hq : ¬ (q = (0 : Int64)) := fun z => by rw [z] at hc; exact absurd hc (by decide)
    refine own_st (T' := s₁) (g' := (mkF m 19 #[.val (.long u), .second, .val (.long q), .second, .val (.long ((90000 : Int64) * u)), .second, .unset, .unset, .unset, .unset] [(.long (((90000 : Int64) * u) / q))])) (fun _ zq => XS.ldiv X.here hx rfl (hb hby own_d_m3_18) rfl hq zq) ?_
    refine own_st (T' := s₁) (g' := (mkF m 21 #[.val (.long u), .second, .val (.long q), .second, .val (.long ((90000 : Int64) * u)), .second, .val (.long (((90000 : Int64) * u) / q)), .second, .unset, .unset] [])) (fun _ zq => XS.lstore X.here hx rfl (hb hby own_d_m3_19) rfl (l' := #[.val (.long u), .second, .val (.long q), .second, .val (.long ((90000 : Int64) * u)), .second, .val (.long (((90000 : Int64) * u) / q)), .second, .unset, .unset]) rfl zq) ?_
    refine own_st (T' := s₁) (g' := (mkF m 23 #[.val (.long u), .second, .val (.long q), .second, .val (.long ((90000 : Int64) * u)), .second, .val (.long (((90000 : Int64) * u) / q)), .second, .unset, .unset] [(.long ((90000 : Int64) * u))])) (fun _ zq => XS.lload X.here hx rfl (hb hby own_d_m3_21) rfl zq) ?_
    refine own_st (T' := s₁) (g' := (mkF m 24 #[.val (.long u), .second, .val (.long q), .second, .val (.long ((90000 : Int64) * u)), .second, .val (.long (((90000 : Int64) * u) / q)), .second, .unset, .unset] [(.long q), (.long ((90000 : Int64) * u))])) (fun _ zq => XS.lloadN X.here hx rfl (hb hby own_d_m3_23) rfl zq) ?_
    refine own_st (T' := s₁) (g' := (mkF m 25 #[.val (.long u), .second, .val (.long q), .second, .val (.long ((90000 : Int64) * u)), .second, .val (.long (((90000 : Int64) * u) / q)), .second, .unset, .unset] [(.long (((90000 : Int64) * u) - (((90000 : Int64) * u) / q) * q))])) (fun _ zq => XS.lrem X.here hx rfl (hb hby own_d_m3_24) rfl hq zq) ?_
    refine own_st (T' := s₁) (g' := (mkF m 27 #[.val (.long u), .second, .val (.long q), .second, .val (.long ((90000 : Int64) * u)), .second, .val (.long (((90000 : Int64) * u) / q)), .second, .val (.long (((90000 : Int64) * u) - (((90000 : Int64) * u) / q) * q)), .second] [])) (fun _ zq => XS.lstore X.here hx rfl (hb hby own_d_m3_25) rfl (l' := #[.val (.long u), .second, .val (.long q), .second, .val (.long ((90000 : Int64) * u)), .second, .val (.long (((90000 : Int64) * u) / q)), .second, .val (.long (((90000 : Int64) * u) - (((90000 : Int64) * u) / q) * q)), .second]) rfl zq) ?_
    refine own_st (T' := s₁) (g' := (mkF m 30 #[.val (.long u), .second, .val (.long q), .second, .val (.long ((90000 : Int64) * u)), .second, .val (.long (((90000 : Int64) * u) / q)), .second, .val (.long (((90000 : Int64) * u) - (((90000 : Int64) * u) / q) * q)), .second] [(.long (2 : Int64))])) (fun _ zq => X.ldc2Long hx hown (mvT hZ (hw _ (List.mem_of_getElem? (i := 43) rfl))) (g := (mkF m 27 #[.val (.long u), .second, .val (.long q), .second, .val (.long ((90000 : Int64) * u)), .second, .val (.long (((90000 : Int64) * u) / q)), .second, .val (.long (((90000 : Int64) * u) - (((90000 : Int64) * u) / q) * q)), .second] [])) rfl (hb hby own_d_m3_27) _ zq) ?_
    refine own_st (T' := s₁) (g' := (mkF m 32 #[.val (.long u), .second, .val (.long q), .second, .val (.long ((90000 : Int64) * u)), .second, .val (.long (((90000 : Int64) * u) / q)), .second, .val (.long (((90000 : Int64) * u) - (((90000 : Int64) * u) / q) * q)), .second] [(.long (((90000 : Int64) * u) - (((90000 : Int64) * u) / q) * q)), (.long (2 : Int64))])) (fun _ zq => XS.lload X.here hx rfl (hb hby own_d_m3_30) rfl zq) ?_
    refine own_st (T' := s₁) (g' := (mkF m 33 #[.val (.long u), .second, .val (.long q), .second, .val (.long ((90000 : Int64) * u)), .second, .val (.long (((90000 : Int64) * u) / q)), .second, .val (.long (((90000 : Int64) * u) - (((90000 : Int64) * u) / q) * q)), .second] [(.long ((2 : Int64) * (((90000 : Int64) * u) - (((90000 : Int64) * u) / q) * q)))])) (fun _ zq => XS.lmul X.here hx rfl (hb hby own_d_m3_32) rfl zq) ?_
    refine own_st (T' := s₁) (g' := (mkF m 34 #[.val (.long u), .second, .val (.long q), .second, .val (.long ((90000 : Int64) * u)), .second, .val (.long (((90000 : Int64) * u) / q)), .second, .val (.long (((90000 : Int64) * u) - (((90000 : Int64) * u) / q) * q)), .second] [(.long q), (.long ((2 : Int64) * (((90000 : Int64) * u) - (((90000 : Int64) * u) / q) * q)))])) (fun _ zq => XS.lloadN X.here hx rfl (hb hby own_d_m3_33) rfl zq) ?_
    refine own_st (T' := s₁) (g' := (mkF m 35 #[.val (.long u), .second, .val (.long q), .second, .val (.long ((90000 : Int64) * u)), .second, .val (.long (((90000 : Int64) * u) / q)), .second, .val (.long (((90000 : Int64) * u) - (((90000 : Int64) * u) / q) * q)), .second] [(.int (lcmpW ((2 : Int64) * (((90000 : Int64) * u) - (((90000 : Int64) * u) / q) * q)) q))])) (fun _ zq => XS.lcmp X.here hx rfl (hb hby own_d_m3_34) rfl zq) ?_
    by_cases hd : ((2 : Int64) * (((90000 : Int64) * u) - (((90000 : Int64) * u) / q) * q)) < q
    · skip
      refine own_st (T' := s₁) (g' := (mkF m 45 #[.val (.long u), .second, .val (.long q), .second, .val (.long ((90000 : Int64) * u)), .second, .val (.long (((90000 : Int64) * u) / q)), .second, .val (.long (((90000 : Int64) * u) - (((90000 : Int64) * u) / q) * q)), .second] [])) (fun _ zq => XS.ifYes X.here hx rfl (pc0 := 35) (pc' := 45) rfl (hb hby own_d_m3_35) rfl (own_ltlt hd).1 (by decide) (by decide) zq) ?_
      refine own_st (T' := s₁) (g' := (mkF m 47 #[.val (.long u), .second, .val (.long q), .second, .val (.long ((90000 : Int64) * u)), .second, .val (.long (((90000 : Int64) * u) / q)), .second, .val (.long (((90000 : Int64) * u) - (((90000 : Int64) * u) / q) * q)), .second] [(.long (((90000 : Int64) * u) / q))])) (fun _ zq => XS.lload X.here hx rfl (hb hby own_d_m3_45) rfl zq) ?_
      exact own_ret X hx hret hlk (i := .lreturn) rfl (Or.inr (Or.inl ⟨rfl, rfl, _, rfl⟩)) (hb hby own_d_m3_47) eT (Nat.le_of_ble_eq_true rfl) (Nat.le_of_ble_eq_true rfl) ⟨by rw [own_ref, if_pos hc, if_pos hd], N, rfl⟩
    · skip
      refine own_st (T' := s₁) (g' := (mkF m 38 #[.val (.long u), .second, .val (.long q), .second, .val (.long ((90000 : Int64) * u)), .second, .val (.long (((90000 : Int64) * u) / q)), .second, .val (.long (((90000 : Int64) * u) - (((90000 : Int64) * u) / q) * q)), .second] [])) (fun _ zq => XS.ifNo X.here hx rfl (hb hby own_d_m3_35) rfl (own_lflt hd).1 zq) ?_
      refine own_st (T' := s₁) (g' := (mkF m 40 #[.val (.long u), .second, .val (.long q), .second, .val (.long ((90000 : Int64) * u)), .second, .val (.long (((90000 : Int64) * u) / q)), .second, .val (.long (((90000 : Int64) * u) - (((90000 : Int64) * u) / q) * q)), .second] [(.long (((90000 : Int64) * u) / q))])) (fun _ zq => XS.lload X.here hx rfl (hb hby own_d_m3_38) rfl zq) ?_
      refine own_st (T' := s₁) (g' := (mkF m 41 #[.val (.long u), .second, .val (.long q), .second, .val (.long ((90000 : Int64) * u)), .second, .val (.long (((90000 : Int64) * u) / q)), .second, .val (.long (((90000 : Int64) * u) - (((90000 : Int64) * u) / q) * q)), .second] [(.long (1 : Int64)), (.long (((90000 : Int64) * u) / q))])) (fun _ zq => XS.lconst X.here hx rfl (hb hby own_d_m3_40) zq) ?_
      refine own_st (T' := s₁) (g' := (mkF m 42 #[.val (.long u), .second, .val (.long q), .second, .val (.long ((90000 : Int64) * u)), .second, .val (.long (((90000 : Int64) * u) / q)), .second, .val (.long (((90000 : Int64) * u) - (((90000 : Int64) * u) / q) * q)), .second] [(.long ((((90000 : Int64) * u) / q) + (1 : Int64)))])) (fun _ zq => XS.ladd X.here hx rfl (hb hby own_d_m3_41) rfl zq) ?_
      refine own_st (T' := s₁) (g' := (mkF m 47 #[.val (.long u), .second, .val (.long q), .second, .val (.long ((90000 : Int64) * u)), .second, .val (.long (((90000 : Int64) * u) / q)), .second, .val (.long (((90000 : Int64) * u) - (((90000 : Int64) * u) / q) * q)), .second] [(.long ((((90000 : Int64) * u) / q) + (1 : Int64)))])) (fun _ zq => XS.goto X.here hx rfl (pc0 := 42) (pc' := 47) rfl (hb hby own_d_m3_42) (by decide) (by decide) zq) ?_
      exact own_ret X hx hret hlk (i := .lreturn) rfl (Or.inr (Or.inl ⟨rfl, rfl, _, rfl⟩)) (hb hby own_d_m3_47) eT (Nat.le_of_ble_eq_true rfl) (Nat.le_of_ble_eq_true rfl) ⟨by rw [own_ref, if_pos hc, if_neg hd], N, rfl⟩
  · skip
    refine own_st (T' := s₁) (g' := (mkF m 6 #[.val (.long u), .second, .val (.long q), .second, .unset, .unset, .unset, .unset, .unset, .unset] [])) (fun _ zq => XS.ifNo X.here hx rfl (hb hby own_d_m3_3) rfl (own_lflt hc).2.2.1 zq) ?_
    refine own_st (T' := s₁) (g' := (mkF m 7 #[.val (.long u), .second, .val (.long q), .second, .unset, .unset, .unset, .unset, .unset, .unset] [(.long (0 : Int64))])) (fun _ zq => XS.lconst X.here hx rfl (hb hby own_d_m3_6) zq) ?_
    exact own_ret X hx hret hlk (i := .lreturn) rfl (Or.inr (Or.inl ⟨rfl, rfl, _, rfl⟩)) (hb hby own_d_m3_7) eT (Nat.le_of_ble_eq_true rfl) (Nat.le_of_ble_eq_true rfl) ⟨by rw [own_ref, if_neg hc], N, rfl⟩
def Q_law (Z : State) (p0 : Int64) (p1 : Int64) (p2 : Int64) (p3 : Int64) (cA : Addr) (h0 : Heap) (n0 : Nat) (v : Option Value) (h : Heap) (L : List Loc) : Prop := v = some (.int 1) ∧ Fr n0 L
theorem ef_law (m : MethodId) (x0 : Int64) (x1 : Int64) (x2 : Int64) (x3 : Int64)  : entryFrame m #[(.long x0), (.long x1), (.long x2), (.long x3)] maxLocals = mkF m 0 #[.val (.long x0), .second, .val (.long x1), .second, .val (.long x2), .second, .val (.long x3), .second, .unset, .unset, .unset, .unset, .unset, .unset, .unset, .unset, .unset, .unset, .unset] [] := by first | (simp [entryFrame, mkF, argsToLocals, Value.category, maxLocals]; done) | rfl
set_option maxRecDepth 65536 in
set_option maxHeartbeats 40000000 in
theorem rm_law (l : Launch) (Z : State) (a0 : Array Value) (hw : ∀ d ∈ tables_1, d.before a0 Z = true) (ws : List Jvm.Cond) (p0 : Int64) (p1 : Int64) (p2 : Int64) (p3 : Int64) (cA : Addr) (h0 : Heap) (n0 : Nat) (Zs : n0 ≤ h0.size) (S_A : Sta Z h0 "com/example/bunko/bunko/format/ElementaryStream$Codec" "ADTS" "Lcom/example/bunko/bunko/format/ElementaryStream$Codec;" (.ref cA)) :
    MetFree l x (head1 (Jvm.Cond.code x code maxLocals ret :: ws) room_1) (fun a U => a = #[(.long p0), (.long p1), (.long p2), (.long p3)] ∧ Z.Warmed39 U.vm ∧ U.heap = h0) (fun _ _ _ _ _ => True) (fun _ U o U' => ∃ v L, o = .returned v ∧ (Q_law Z p0 p1 p2 p3 cA h0 n0) v U'.heap L ∧ FrameEnd U o U' L 16 128) := by
  refine MetFree.of_bodySF (plainFor_of_name own_pn0) hisR ?_
  intro p e s m args below meth c s₁ Bd hml0 hP hK
  obtain ⟨rfl, hZ, hh⟩ := hP
  have hx := Bd.exec
  have hby := Bd.bytes
  have hlk := BodyLoose.notSynchronized Bd
  have hret := Bd.returns
  have hml : c.maxLocals = 19 := hml0
  have hown : s.vm.findClass "com/example/bunko/bunko/format/ElementaryStreamSetFramePinLaw" = some m.cls := findClass_of_methodNamed Bd.named
  have hnm := (name_of_methodNamed Bd.named Bd.method).1
  have X : Stand p l e room_1 s m #[(.long p0), (.long p1), (.long p2), (.long p3)] below meth c s₁ [] 0 0 := Stand.of_body Bd
  have eT : s₁.heap = h0 := by rw [← hh, Bd.state]; rfl
  have N := Fr.nil n0
  have K0 : Keep h0 h0 [] := Keep.refl _ _
  show own_Go p e below s (Q_law Z p0 p1 p2 p3 cA h0 n0) 16 128 s₁ (entryFrame m #[(.long p0), (.long p1), (.long p2), (.long p3)] maxLocals)
  rw [ef_law m p0 p1 p2 p3]
  refine own_st (T' := s₁) (g' := (mkF m 2 #[.val (.long p0), .second, .val (.long p1), .second, .val (.long p2), .second, .val (.long p3), .second, .unset, .unset, .unset, .unset, .unset, .unset, .unset, .unset, .unset, .unset, .unset] [(.long p2)])) (fun _ zq => XS.lload X.here hx rfl (hb hby at_0) rfl zq) ?_
  refine own_st (T' := s₁) (g' := (mkF m 5 #[.val (.long p0), .second, .val (.long p1), .second, .val (.long p2), .second, .val (.long p3), .second, .unset, .unset, .unset, .unset, .unset, .unset, .unset, .unset, .unset, .unset, .unset] [(.long (17179869183 : Int64)), (.long p2)])) (fun _ zq => X.ldc2Long hx hown (mvT hZ (hw _ (List.mem_of_getElem? (i := 0) rfl))) (g := (mkF m 2 #[.val (.long p0), .second, .val (.long p1), .second, .val (.long p2), .second, .val (.long p3), .second, .unset, .unset, .unset, .unset, .unset, .unset, .unset, .unset, .unset, .unset, .unset] [(.long p2)])) rfl (hb hby at_2) _ zq) ?_
  refine own_st (T' := s₁) (g' := (mkF m 6 #[.val (.long p0), .second, .val (.long p1), .second, .val (.long p2), .second, .val (.long p3), .second, .unset, .unset, .unset, .unset, .unset, .unset, .unset, .unset, .unset, .unset, .unset] [(.long (p2 &&& (17179869183 : Int64)))])) (fun _ zq => XS.land X.here hx rfl (hb hby at_5) rfl zq) ?_
  refine own_nm (f := fun z_ => (mkF m 6 #[.val (.long p0), .second, .val (.long p1), .second, .val (.long p2), .second, .val (.long p3), .second, .unset, .unset, .unset, .unset, .unset, .unset, .unset, .unset, .unset, .unset, .unset] [(.long z_)])) (p2 &&& (17179869183 : Int64)) (fun u1 hu1 => ?_)
  show own_Go p e below s (Q_law Z p0 p1 p2 p3 cA h0 n0) 16 128 s₁ (mkF m 6 #[.val (.long p0), .second, .val (.long p1), .second, .val (.long p2), .second, .val (.long p3), .second, .unset, .unset, .unset, .unset, .unset, .unset, .unset, .unset, .unset, .unset, .unset] [(.long u1)])
  refine own_st (T' := s₁) (g' := (mkF m 8 #[.val (.long p0), .second, .val (.long p1), .second, .val (.long p2), .second, .val (.long p3), .second, .val (.long u1), .second, .unset, .unset, .unset, .unset, .unset, .unset, .unset, .unset, .unset] [])) (fun _ zq => XS.lstore X.here hx rfl (hb hby at_6) rfl (l' := #[.val (.long p0), .second, .val (.long p1), .second, .val (.long p2), .second, .val (.long p3), .second, .val (.long u1), .second, .unset, .unset, .unset, .unset, .unset, .unset, .unset, .unset, .unset]) rfl zq) ?_
  refine own_st (T' := s₁) (g' := (mkF m 10 #[.val (.long p0), .second, .val (.long p1), .second, .val (.long p2), .second, .val (.long p3), .second, .val (.long u1), .second, .unset, .unset, .unset, .unset, .unset, .unset, .unset, .unset, .unset] [(.long p3)])) (fun _ zq => XS.lload X.here hx rfl (hb hby at_8) rfl zq) ?_
  obtain ⟨_, _, ⟨T8, L8, k8, n8⟩, -, X8, ⟨Lc8, hQ8, l8, y8, z8⟩, st8⟩ := Jvm.LawKit.callS X hx (y := (⟨"com/example/bunko/bunko/format/ElementaryStreamSetFramePinLaw", "rate", "(J)J"⟩ : MethodName)) hown (mvT hZ (hw _ (List.mem_of_getElem? (i := 1) rfl))) (mvT hZ (hw _ (List.mem_of_getElem? (i := 2) rfl))) (mvT hZ (hw _ (List.mem_of_getElem? (i := 3) rfl))) (mvT hZ (hw _ (List.mem_of_getElem? (i := 4) rfl))) (by decide) (backOf (W := 0) (rm_rate l Z a0 hw [] p3 h0 n0 Zs ) hZ (hw _ (List.mem_of_getElem? (i := 4) rfl)) (hw _ (List.mem_of_getElem? (i := 3) rfl)) (by decide) (by decide)) (g := (mkF m 10 #[.val (.long p0), .second, .val (.long p1), .second, .val (.long p2), .second, .val (.long p3), .second, .val (.long u1), .second, .unset, .unset, .unset, .unset, .unset, .unset, .unset, .unset, .unset] [(.long p3)])) rfl (by rw [hml]; rfl) (argsL := [(.long p3)]) (rest := []) (lenOf own_pd0 rfl) rfl (by show 2 * 0 + _ ≤ _; exact Nat.le_of_eq rfl) (hb hby at_10) (fun _ _ => ⟨rfl, eT, (by decide : 0 + 0 ≤ _), (by decide : 0 + 0 ≤ _)⟩)
  dsimp only [Pt.U, Pt.locs, Pt.cells, Pt.slots] at X8 l8 y8 z8 st8 hQ8
  subst l8 y8 z8
  obtain ⟨rfl, Nq8, eq8⟩ := hQ8
  replace N := Fr.app N Nq8
  refine own_st (g' := (mkF m 13 #[.val (.long p0), .second, .val (.long p1), .second, .val (.long p2), .second, .val (.long p3), .second, .val (.long u1), .second, .unset, .unset, .unset, .unset, .unset, .unset, .unset, .unset, .unset] [(.long (own_rate p3))])) st8 ?_
  refine own_nm (f := fun z_ => (mkF m 13 #[.val (.long p0), .second, .val (.long p1), .second, .val (.long p2), .second, .val (.long p3), .second, .val (.long u1), .second, .unset, .unset, .unset, .unset, .unset, .unset, .unset, .unset, .unset] [(.long z_)])) (own_rate p3) (fun q1 hq1 => ?_)
  show own_Go p e below s (Q_law Z p0 p1 p2 p3 cA h0 n0) 16 128 T8 (mkF m 13 #[.val (.long p0), .second, .val (.long p1), .second, .val (.long p2), .second, .val (.long p3), .second, .val (.long u1), .second, .unset, .unset, .unset, .unset, .unset, .unset, .unset, .unset, .unset] [(.long q1)])
  refine own_st (T' := T8) (g' := (mkF m 15 #[.val (.long p0), .second, .val (.long p1), .second, .val (.long p2), .second, .val (.long p3), .second, .val (.long u1), .second, .val (.long q1), .second, .unset, .unset, .unset, .unset, .unset, .unset, .unset] [])) (fun _ zq => XS.lstore X8.here hx rfl (hb hby at_13) rfl (l' := #[.val (.long p0), .second, .val (.long p1), .second, .val (.long p2), .second, .val (.long p3), .second, .val (.long u1), .second, .val (.long q1), .second, .unset, .unset, .unset, .unset, .unset, .unset, .unset]) rfl zq) ?_
  refine own_st (T' := T8) (g' := (mkF m 16 #[.val (.long p0), .second, .val (.long p1), .second, .val (.long p2), .second, .val (.long p3), .second, .val (.long u1), .second, .val (.long q1), .second, .unset, .unset, .unset, .unset, .unset, .unset, .unset] [(.long p0)])) (fun _ zq => XS.lloadN X8.here hx rfl (hb hby at_15) rfl zq) ?_
  refine own_st (T' := T8) (g' := (mkF m 19 #[.val (.long p0), .second, .val (.long p1), .second, .val (.long p2), .second, .val (.long p3), .second, .val (.long u1), .second, .val (.long q1), .second, .unset, .unset, .unset, .unset, .unset, .unset, .unset] [(.long (17179869183 : Int64)), (.long p0)])) (fun _ zq => X8.ldc2Long hx hown (mvT hZ (hw _ (List.mem_of_getElem? (i := 0) rfl))) (g := (mkF m 16 #[.val (.long p0), .second, .val (.long p1), .second, .val (.long p2), .second, .val (.long p3), .second, .val (.long u1), .second, .val (.long q1), .second, .unset, .unset, .unset, .unset, .unset, .unset, .unset] [(.long p0)])) rfl (hb hby at_16) _ zq) ?_
  refine own_st (T' := T8) (g' := (mkF m 20 #[.val (.long p0), .second, .val (.long p1), .second, .val (.long p2), .second, .val (.long p3), .second, .val (.long u1), .second, .val (.long q1), .second, .unset, .unset, .unset, .unset, .unset, .unset, .unset] [(.long (p0 &&& (17179869183 : Int64)))])) (fun _ zq => XS.land X8.here hx rfl (hb hby at_19) rfl zq) ?_
  refine own_nm (f := fun z_ => (mkF m 20 #[.val (.long p0), .second, .val (.long p1), .second, .val (.long p2), .second, .val (.long p3), .second, .val (.long u1), .second, .val (.long q1), .second, .unset, .unset, .unset, .unset, .unset, .unset, .unset] [(.long z_)])) (p0 &&& (17179869183 : Int64)) (fun u2 hu2 => ?_)
  show own_Go p e below s (Q_law Z p0 p1 p2 p3 cA h0 n0) 16 128 T8 (mkF m 20 #[.val (.long p0), .second, .val (.long p1), .second, .val (.long p2), .second, .val (.long p3), .second, .val (.long u1), .second, .val (.long q1), .second, .unset, .unset, .unset, .unset, .unset, .unset, .unset] [(.long u2)])
  refine own_st (T' := T8) (g' := (mkF m 22 #[.val (.long p0), .second, .val (.long p1), .second, .val (.long p2), .second, .val (.long p3), .second, .val (.long u1), .second, .val (.long q1), .second, .val (.long u2), .second, .unset, .unset, .unset, .unset, .unset] [])) (fun _ zq => XS.lstore X8.here hx rfl (hb hby at_20) rfl (l' := #[.val (.long p0), .second, .val (.long p1), .second, .val (.long p2), .second, .val (.long p3), .second, .val (.long u1), .second, .val (.long q1), .second, .val (.long u2), .second, .unset, .unset, .unset, .unset, .unset]) rfl zq) ?_
  refine own_st (T' := T8) (g' := (mkF m 23 #[.val (.long p0), .second, .val (.long p1), .second, .val (.long p2), .second, .val (.long p3), .second, .val (.long u1), .second, .val (.long q1), .second, .val (.long u2), .second, .unset, .unset, .unset, .unset, .unset] [(.long p1)])) (fun _ zq => XS.lloadN X8.here hx rfl (hb hby at_22) rfl zq) ?_
  obtain ⟨_, _, ⟨T9, L9, k9, n9⟩, -, X9, ⟨Lc9, hQ9, l9, y9, z9⟩, st9⟩ := Jvm.LawKit.callS X8 hx (y := (⟨"com/example/bunko/bunko/format/ElementaryStreamSetFramePinLaw", "rate", "(J)J"⟩ : MethodName)) hown (mvT hZ (hw _ (List.mem_of_getElem? (i := 1) rfl))) (mvT hZ (hw _ (List.mem_of_getElem? (i := 2) rfl))) (mvT hZ (hw _ (List.mem_of_getElem? (i := 3) rfl))) (mvT hZ (hw _ (List.mem_of_getElem? (i := 4) rfl))) (by decide) (backOf (W := 0) (rm_rate l Z a0 hw [] p1 h0 n0 Zs ) hZ (hw _ (List.mem_of_getElem? (i := 4) rfl)) (hw _ (List.mem_of_getElem? (i := 3) rfl)) (by decide) (by decide)) (g := (mkF m 23 #[.val (.long p0), .second, .val (.long p1), .second, .val (.long p2), .second, .val (.long p3), .second, .val (.long u1), .second, .val (.long q1), .second, .val (.long u2), .second, .unset, .unset, .unset, .unset, .unset] [(.long p1)])) rfl (by rw [hml]; rfl) (argsL := [(.long p1)]) (rest := []) (lenOf own_pd0 rfl) rfl (by show 2 * 0 + _ ≤ _; exact Nat.le_of_eq rfl) (hb hby at_23) (fun _ _ => ⟨rfl, (eq8), (by decide : 0 + 0 ≤ _), (by decide : 0 + 0 ≤ _)⟩)
  dsimp only [Pt.U, Pt.locs, Pt.cells, Pt.slots] at X9 l9 y9 z9 st9 hQ9
  subst l9 y9 z9
  obtain ⟨rfl, Nq9, eq9⟩ := hQ9
  replace N := Fr.app N Nq9
  refine own_st (g' := (mkF m 26 #[.val (.long p0), .second, .val (.long p1), .second, .val (.long p2), .second, .val (.long p3), .second, .val (.long u1), .second, .val (.long q1), .second, .val (.long u2), .second, .unset, .unset, .unset, .unset, .unset] [(.long (own_rate p1))])) st9 ?_
  refine own_nm (f := fun z_ => (mkF m 26 #[.val (.long p0), .second, .val (.long p1), .second, .val (.long p2), .second, .val (.long p3), .second, .val (.long u1), .second, .val (.long q1), .second, .val (.long u2), .second, .unset, .unset, .unset, .unset, .unset] [(.long z_)])) (own_rate p1) (fun q2 hq2 => ?_)
  show own_Go p e below s (Q_law Z p0 p1 p2 p3 cA h0 n0) 16 128 T9 (mkF m 26 #[.val (.long p0), .second, .val (.long p1), .second, .val (.long p2), .second, .val (.long p3), .second, .val (.long u1), .second, .val (.long q1), .second, .val (.long u2), .second, .unset, .unset, .unset, .unset, .unset] [(.long q2)])
  have hnz1 : (0 : Int64) < q1 → ¬ (((2 : Int64) * q1) = (0 : Int64)) := hq1 ▸ own_nz p3
  have hnz2 : (0 : Int64) < q2 → ¬ (((2 : Int64) * q2) = (0 : Int64)) := hq2 ▸ own_nz p1
  have heq1 : own_sf u1 q1 = own_ref u1 q1 := by rw [hu1, hq1]; exact own_same _ _
  have heq2 : own_sf u2 q2 = own_ref u2 q2 := by rw [hu2, hq2]; exact own_same _ _
  refine own_st (T' := T9) (g' := (mkF m 28 #[.val (.long p0), .second, .val (.long p1), .second, .val (.long p2), .second, .val (.long p3), .second, .val (.long u1), .second, .val (.long q1), .second, .val (.long u2), .second, .val (.long q2), .second, .unset, .unset, .unset] [])) (fun _ zq => XS.lstore X9.here hx rfl (hb hby at_26) rfl (l' := #[.val (.long p0), .second, .val (.long p1), .second, .val (.long p2), .second, .val (.long p3), .second, .val (.long u1), .second, .val (.long q1), .second, .val (.long u2), .second, .val (.long q2), .second, .unset, .unset, .unset]) rfl zq) ?_
  obtain ⟨T10, h10, X10, e10, E10, A10, D10, -, st10⟩ := newO X9 hx hZ hown (hw _ (List.mem_of_getElem? (i := 6) rfl)) (hw _ (List.mem_of_getElem? (i := 7) rfl)) (hw _ (List.mem_of_getElem? (i := 8) rfl)) (eq9) (g := (mkF m 28 #[.val (.long p0), .second, .val (.long p1), .second, .val (.long p2), .second, .val (.long p3), .second, .val (.long u1), .second, .val (.long q1), .second, .val (.long u2), .second, .val (.long q2), .second, .unset, .unset, .unset] [])) rfl (hb hby at_28) (by decide) (by decide)
  obtain ⟨b10, ga10⟩ : ∃ z, z = h0.size := ⟨_, rfl⟩
  rw [← ga10] at A10 D10 st10
  have g_b10 : n0 ≤ b10 := Nat.le_trans Zs (Nat.le_of_eq ga10.symm)
  have E_b10 := A10
  replace S_A := S_A.ext E10
  replace Zs := Nat.le_trans Zs E10.1
  have F_b10_latest : Fld Z h10 b10 "com/example/bunko/bunko/format/ElementaryStream" "latest" "J" (.long (0 : Int64)) := D10 (Or.inl (hw _ (List.mem_of_getElem? (i := 20) rfl))) (ty := .long) (by decide)
  have F_b10_codec : Fld Z h10 b10 "com/example/bunko/bunko/format/ElementaryStream" "codec" "Lcom/example/bunko/bunko/format/ElementaryStream$Codec;" .null := D10 (Or.inr (hw _ (List.mem_of_getElem? (i := 22) rfl))) (ty := (.object "com/example/bunko/bunko/format/ElementaryStream$Codec")) (by decide)
  have F_b10_held : Fld Z h10 b10 "com/example/bunko/bunko/format/ElementaryStream" "held" "[B" .null := D10 (Or.inl (hw _ (List.mem_of_getElem? (i := 24) rfl))) (ty := (.array .byte)) (by decide)
  have F_b10_frameTicks : Fld Z h10 b10 "com/example/bunko/bunko/format/ElementaryStream" "frameTicks" "J" (.long (0 : Int64)) := D10 (Or.inl (hw _ (List.mem_of_getElem? (i := 33) rfl))) (ty := .long) (by decide)
  refine own_st (g' := (mkF m 31 #[.val (.long p0), .second, .val (.long p1), .second, .val (.long p2), .second, .val (.long p3), .second, .val (.long u1), .second, .val (.long q1), .second, .val (.long u2), .second, .val (.long q2), .second, .unset, .unset, .unset] [(.ref b10)])) st10 ?_
  refine own_st (T' := T10) (g' := (mkF m 32 #[.val (.long p0), .second, .val (.long p1), .second, .val (.long p2), .second, .val (.long p3), .second, .val (.long u1), .second, .val (.long q1), .second, .val (.long u2), .second, .val (.long q2), .second, .unset, .unset, .unset] [(.ref b10), (.ref b10)])) (fun _ zq => XS.dup X10.here hx rfl (hb hby at_31) rfl rfl zq) ?_
  obtain ⟨T11, X11, e11, st11⟩ := getS2 X10 hx hZ hown (host := "") (Or.inl (hw _ (List.mem_of_getElem? (i := 9) rfl))) Via.refl e10 S_A (g := (mkF m 32 #[.val (.long p0), .second, .val (.long p1), .second, .val (.long p2), .second, .val (.long p3), .second, .val (.long u1), .second, .val (.long q1), .second, .val (.long u2), .second, .val (.long q2), .second, .unset, .unset, .unset] [(.ref b10), (.ref b10)])) rfl (hb hby at_32)
  refine own_st (g' := (mkF m 35 #[.val (.long p0), .second, .val (.long p1), .second, .val (.long p2), .second, .val (.long p3), .second, .val (.long u1), .second, .val (.long q1), .second, .val (.long u2), .second, .val (.long q2), .second, .unset, .unset, .unset] [(.ref cA), (.ref b10), (.ref b10)])) st11 ?_
  refine own_st (T' := T11) (g' := (mkF m 36 #[.val (.long p0), .second, .val (.long p1), .second, .val (.long p2), .second, .val (.long p3), .second, .val (.long u1), .second, .val (.long q1), .second, .val (.long u2), .second, .val (.long q2), .second, .unset, .unset, .unset] [(.int (0 : Int32)), (.ref cA), (.ref b10), (.ref b10)])) (fun _ zq => XS.iconst X11.here hx rfl (hb hby at_35) zq) ?_
  obtain ⟨_, _, ⟨T12, L12, k12, n12⟩, -, X12, ⟨Lc12, hQ12, l12, y12, z12⟩, st12⟩ := X11.specialBack hx (y := (⟨"com/example/bunko/bunko/format/ElementaryStream", "<init>", "(Lcom/example/bunko/bunko/format/ElementaryStream$Codec;Z)V"⟩ : MethodName)) rfl hown (mvT hZ (hw _ (List.mem_of_getElem? (i := 12) rfl))) (mvT hZ (hw _ (List.mem_of_getElem? (i := 13) rfl))) (mvT hZ (hw _ (List.mem_of_getElem? (i := 14) rfl))) (by decide) (backOf (W := 1) (rm_init l Z a0 hw [] b10 cA h10 n0 Zs E_b10 F_b10_latest F_b10_codec F_b10_held F_b10_frameTicks g_b10) hZ (hw _ (List.mem_of_getElem? (i := 14) rfl)) (hw _ (List.mem_of_getElem? (i := 8) rfl)) (by decide) (by decide)) (g := (mkF m 36 #[.val (.long p0), .second, .val (.long p1), .second, .val (.long p2), .second, .val (.long p3), .second, .val (.long u1), .second, .val (.long q1), .second, .val (.long u2), .second, .val (.long q2), .second, .unset, .unset, .unset] [(.int (0 : Int32)), (.ref cA), (.ref b10), (.ref b10)])) rfl (by rw [hml]; rfl) (Steps.refl _) (a := b10) (argsL := [(.ref cA), (.int (0 : Int32))]) (rest := [(.ref b10)]) (lenOf own_pd1 rfl) rfl (by show 2 * 0 + _ ≤ _; exact Nat.le_of_eq rfl) (hb hby at_36) (fun _ _ => ⟨rfl, e11, (by decide : 1 + 0 ≤ _), (by decide : 9 + 0 ≤ _)⟩)
  dsimp only [Pt.U, Pt.locs, Pt.cells, Pt.slots] at X12 l12 y12 z12 st12 hQ12
  subst l12 y12 z12
  obtain ⟨rfl, Nq12, Kq12, E_b10, F_b10_latest, F_b10_frameTicks⟩ := hQ12
  replace N := Fr.app N Nq12
  replace Zs := Nat.le_trans Zs Kq12.1
  refine own_tr (g' := (mkF m 39 #[.val (.long p0), .second, .val (.long p1), .second, .val (.long p2), .second, .val (.long p3), .second, .val (.long u1), .second, .val (.long q1), .second, .val (.long u2), .second, .val (.long q2), .second, .unset, .unset, .unset] [(.ref b10)])) st12 ?_
  refine own_st (T' := T12) (g' := (mkF m 41 #[.val (.long p0), .second, .val (.long p1), .second, .val (.long p2), .second, .val (.long p3), .second, .val (.long u1), .second, .val (.long q1), .second, .val (.long u2), .second, .val (.long q2), .second, .val (.ref b10), .unset, .unset] [])) (fun _ zq => XS.astore X12.here hx rfl (hb hby at_39) rfl rfl (l' := #[.val (.long p0), .second, .val (.long p1), .second, .val (.long p2), .second, .val (.long p3), .second, .val (.long u1), .second, .val (.long q1), .second, .val (.long u2), .second, .val (.long q2), .second, .val (.ref b10), .unset, .unset]) rfl zq) ?_
  refine own_st (T' := T12) (g' := (mkF m 43 #[.val (.long p0), .second, .val (.long p1), .second, .val (.long p2), .second, .val (.long p3), .second, .val (.long u1), .second, .val (.long q1), .second, .val (.long u2), .second, .val (.long q2), .second, .val (.ref b10), .unset, .unset] [(.ref b10)])) (fun _ zq => XS.aload X12.here hx rfl (hb hby at_41) rfl rfl zq) ?_
  refine own_st (T' := T12) (g' := (mkF m 45 #[.val (.long p0), .second, .val (.long p1), .second, .val (.long p2), .second, .val (.long p3), .second, .val (.long u1), .second, .val (.long q1), .second, .val (.long u2), .second, .val (.long q2), .second, .val (.ref b10), .unset, .unset] [(.long u1), (.ref b10)])) (fun _ zq => XS.lload X12.here hx rfl (hb hby at_43) rfl zq) ?_
  refine own_st (T' := T12) (g' := (mkF m 47 #[.val (.long p0), .second, .val (.long p1), .second, .val (.long p2), .second, .val (.long p3), .second, .val (.long u1), .second, .val (.long q1), .second, .val (.long u2), .second, .val (.long q2), .second, .val (.ref b10), .unset, .unset] [(.long q1), (.long u1), (.ref b10)])) (fun _ zq => XS.lload X12.here hx rfl (hb hby at_45) rfl zq) ?_
  obtain ⟨cq13, kq13, q13a, q13b, q13c⟩ := isOf hZ rfl E_b10
  obtain ⟨_, _, ⟨T13, L13, k13, n13⟩, -, X13, ⟨Lc13, hQ13, l13, y13, z13⟩, st13⟩ := X12.virtualBack hx (y := (⟨"com/example/bunko/bunko/format/ElementaryStream", "setFrame", "(JJ)V"⟩ : MethodName)) (z := (⟨"com/example/bunko/bunko/format/ElementaryStream", "setFrame", "(JJ)V"⟩ : MethodName)) hown (mvT hZ (hw _ (List.mem_of_getElem? (i := 25) rfl))) (mvT hZ (hw _ (List.mem_of_getElem? (i := 26) rfl))) (notFace_of_selects (args := #[]) (mvT hZ (hw _ (List.mem_of_getElem? (i := 28) rfl)))) (mvT hZ (hw _ (List.mem_of_getElem? (i := 28) rfl))) (mvT hZ (hw _ (List.mem_of_getElem? (i := 27) rfl))) (by decide) (backOf (W := 0) (rm_setf l Z a0 hw [] b10 u1 q1 (0 : Int64) (-9223372036854775808 : Int64) T12.heap n0 Zs E_b10 F_b10_frameTicks F_b10_latest hnz1 g_b10) hZ (hw _ (List.mem_of_getElem? (i := 29) rfl)) (hw _ (List.mem_of_getElem? (i := 8) rfl)) (by decide) (by decide)) q13a q13c (g := (mkF m 47 #[.val (.long p0), .second, .val (.long p1), .second, .val (.long p2), .second, .val (.long p3), .second, .val (.long u1), .second, .val (.long q1), .second, .val (.long u2), .second, .val (.long q2), .second, .val (.ref b10), .unset, .unset] [(.long q1), (.long u1), (.ref b10)])) rfl (by rw [hml]; rfl) (Steps.refl _) (argsL := [(.long u1), (.long q1)]) (rest := []) (lenOf own_pd2 rfl) rfl (by show 2 * 0 + _ ≤ _; exact Nat.le_of_eq rfl) (hb hby at_47) (fun _ _ => ⟨rfl, rfl, (by decide : 1 + 0 ≤ _), (by decide : 9 + 0 ≤ _)⟩)
  dsimp only [Pt.U, Pt.locs, Pt.cells, Pt.slots] at X13 l13 y13 z13 st13 hQ13
  subst l13 y13 z13
  obtain ⟨rfl, Nq13, Kq13, E_b10, F_b10_frameTicks, F_b10_latest⟩ := hQ13
  replace N := Fr.app N Nq13
  replace Zs := Nat.le_trans Zs Kq13.1
  refine own_tr (g' := (mkF m 50 #[.val (.long p0), .second, .val (.long p1), .second, .val (.long p2), .second, .val (.long p3), .second, .val (.long u1), .second, .val (.long q1), .second, .val (.long u2), .second, .val (.long q2), .second, .val (.ref b10), .unset, .unset] [])) st13 ?_
  refine own_st (T' := T13) (g' := (mkF m 52 #[.val (.long p0), .second, .val (.long p1), .second, .val (.long p2), .second, .val (.long p3), .second, .val (.long u1), .second, .val (.long q1), .second, .val (.long u2), .second, .val (.long q2), .second, .val (.ref b10), .unset, .unset] [(.ref b10)])) (fun _ zq => XS.aload X13.here hx rfl (hb hby at_50) rfl rfl zq) ?_
  obtain ⟨cq14, kq14, q14a, q14b, q14c⟩ := isOf hZ rfl E_b10
  obtain ⟨_, _, ⟨T14, L14, k14, n14⟩, -, X14, ⟨Lc14, hQ14, l14, y14, z14⟩, st14⟩ := X13.virtualBack hx (y := (⟨"com/example/bunko/bunko/format/ElementaryStream", "frameTicks", "()J"⟩ : MethodName)) (z := (⟨"com/example/bunko/bunko/format/ElementaryStream", "frameTicks", "()J"⟩ : MethodName)) hown (mvT hZ (hw _ (List.mem_of_getElem? (i := 34) rfl))) (mvT hZ (hw _ (List.mem_of_getElem? (i := 35) rfl))) (notFace_of_selects (args := #[]) (mvT hZ (hw _ (List.mem_of_getElem? (i := 37) rfl)))) (mvT hZ (hw _ (List.mem_of_getElem? (i := 37) rfl))) (mvT hZ (hw _ (List.mem_of_getElem? (i := 36) rfl))) (by decide) (backOf (W := 0) (rm_frameTicks l Z a0 hw [] b10 (own_sf u1 q1) T13.heap n0 Zs F_b10_frameTicks) hZ (hw _ (List.mem_of_getElem? (i := 38) rfl)) (hw _ (List.mem_of_getElem? (i := 8) rfl)) (by decide) (by decide)) q14a q14c (g := (mkF m 52 #[.val (.long p0), .second, .val (.long p1), .second, .val (.long p2), .second, .val (.long p3), .second, .val (.long u1), .second, .val (.long q1), .second, .val (.long u2), .second, .val (.long q2), .second, .val (.ref b10), .unset, .unset] [(.ref b10)])) rfl (by rw [hml]; rfl) (Steps.refl _) (argsL := []) (rest := []) (lenOf own_pd3 rfl) rfl (by show 2 * 0 + _ ≤ _; exact Nat.le_of_eq rfl) (hb hby at_52) (fun _ _ => ⟨rfl, rfl, (by decide : 1 + 0 ≤ _), (by decide : 9 + 0 ≤ _)⟩)
  dsimp only [Pt.U, Pt.locs, Pt.cells, Pt.slots] at X14 l14 y14 z14 st14 hQ14
  subst l14 y14 z14
  obtain ⟨rfl, Nq14, eq14⟩ := hQ14
  replace N := Fr.app N Nq14
  refine own_tr (g' := (mkF m 55 #[.val (.long p0), .second, .val (.long p1), .second, .val (.long p2), .second, .val (.long p3), .second, .val (.long u1), .second, .val (.long q1), .second, .val (.long u2), .second, .val (.long q2), .second, .val (.ref b10), .unset, .unset] [(.long (own_sf u1 q1))])) st14 ?_
  refine own_st (T' := T14) (g' := (mkF m 57 #[.val (.long p0), .second, .val (.long p1), .second, .val (.long p2), .second, .val (.long p3), .second, .val (.long u1), .second, .val (.long q1), .second, .val (.long u2), .second, .val (.long q2), .second, .val (.ref b10), .unset, .unset] [(.long u1), (.long (own_sf u1 q1))])) (fun _ zq => XS.lload X14.here hx rfl (hb hby at_55) rfl zq) ?_
  refine own_st (T' := T14) (g' := (mkF m 59 #[.val (.long p0), .second, .val (.long p1), .second, .val (.long p2), .second, .val (.long p3), .second, .val (.long u1), .second, .val (.long q1), .second, .val (.long u2), .second, .val (.long q2), .second, .val (.ref b10), .unset, .unset] [(.long q1), (.long u1), (.long (own_sf u1 q1))])) (fun _ zq => XS.lload X14.here hx rfl (hb hby at_57) rfl zq) ?_
  obtain ⟨_, _, ⟨T15, L15, k15, n15⟩, -, X15, ⟨Lc15, hQ15, l15, y15, z15⟩, st15⟩ := Jvm.LawKit.callS X14 hx (y := (⟨"com/example/bunko/bunko/format/ElementaryStreamSetFramePinLaw", "ref", "(JJ)J"⟩ : MethodName)) hown (mvT hZ (hw _ (List.mem_of_getElem? (i := 39) rfl))) (mvT hZ (hw _ (List.mem_of_getElem? (i := 40) rfl))) (mvT hZ (hw _ (List.mem_of_getElem? (i := 3) rfl))) (mvT hZ (hw _ (List.mem_of_getElem? (i := 41) rfl))) (by decide) (backOf (W := 2) (rm_ref l Z a0 hw [] u1 q1 T13.heap n0 Zs ) hZ (hw _ (List.mem_of_getElem? (i := 41) rfl)) (hw _ (List.mem_of_getElem? (i := 3) rfl)) (by decide) (by decide)) (g := (mkF m 59 #[.val (.long p0), .second, .val (.long p1), .second, .val (.long p2), .second, .val (.long p3), .second, .val (.long u1), .second, .val (.long q1), .second, .val (.long u2), .second, .val (.long q2), .second, .val (.ref b10), .unset, .unset] [(.long q1), (.long u1), (.long (own_sf u1 q1))])) rfl (by rw [hml]; rfl) (argsL := [(.long u1), (.long q1)]) (rest := [(.long (own_sf u1 q1))]) (lenOf own_pd4 rfl) rfl (by show 2 * 0 + _ ≤ _; exact Nat.le_of_eq rfl) (hb hby at_59) (fun _ _ => ⟨rfl, (eq14), (by decide : 1 + 0 ≤ _), (by decide : 9 + 0 ≤ _)⟩)
  dsimp only [Pt.U, Pt.locs, Pt.cells, Pt.slots] at X15 l15 y15 z15 st15 hQ15
  subst l15 y15 z15
  obtain ⟨rfl, Nq15, eq15⟩ := hQ15
  replace N := Fr.app N Nq15
  refine own_st (g' := (mkF m 62 #[.val (.long p0), .second, .val (.long p1), .second, .val (.long p2), .second, .val (.long p3), .second, .val (.long u1), .second, .val (.long q1), .second, .val (.long u2), .second, .val (.long q2), .second, .val (.ref b10), .unset, .unset] [(.long (own_ref u1 q1)), (.long (own_sf u1 q1))])) st15 ?_
  refine own_st (T' := T15) (g' := (mkF m 63 #[.val (.long p0), .second, .val (.long p1), .second, .val (.long p2), .second, .val (.long p3), .second, .val (.long u1), .second, .val (.long q1), .second, .val (.long u2), .second, .val (.long q2), .second, .val (.ref b10), .unset, .unset] [(.int (lcmpW (own_sf u1 q1) (own_ref u1 q1)))])) (fun _ zq => XS.lcmp X15.here hx rfl (hb hby at_62) rfl zq) ?_
  refine own_st (T' := T15) (g' := (mkF m 66 #[.val (.long p0), .second, .val (.long p1), .second, .val (.long p2), .second, .val (.long p3), .second, .val (.long u1), .second, .val (.long q1), .second, .val (.long u2), .second, .val (.long q2), .second, .val (.ref b10), .unset, .unset] [])) (fun _ zq => XS.ifNo X15.here hx rfl (hb hby at_63) rfl (own_lteq heq1).2 zq) ?_
  refine own_st (T' := T15) (g' := (mkF m 67 #[.val (.long p0), .second, .val (.long p1), .second, .val (.long p2), .second, .val (.long p3), .second, .val (.long u1), .second, .val (.long q1), .second, .val (.long u2), .second, .val (.long q2), .second, .val (.ref b10), .unset, .unset] [(.int (1 : Int32))])) (fun _ zq => XS.iconst X15.here hx rfl (hb hby at_66) zq) ?_
  refine own_st (T' := T15) (g' := (mkF m 71 #[.val (.long p0), .second, .val (.long p1), .second, .val (.long p2), .second, .val (.long p3), .second, .val (.long u1), .second, .val (.long q1), .second, .val (.long u2), .second, .val (.long q2), .second, .val (.ref b10), .unset, .unset] [(.int (1 : Int32))])) (fun _ zq => XS.goto X15.here hx rfl (pc0 := 67) (pc' := 71) rfl (hb hby at_67) (by decide) (by decide) zq) ?_
  refine own_st (T' := T15) (g' := (mkF m 73 #[.val (.long p0), .second, .val (.long p1), .second, .val (.long p2), .second, .val (.long p3), .second, .val (.long u1), .second, .val (.long q1), .second, .val (.long u2), .second, .val (.long q2), .second, .val (.ref b10), .val (.int (1 : Int32)), .unset] [])) (fun _ zq => XS.istore X15.here hx rfl (hb hby at_71) rfl (l' := #[.val (.long p0), .second, .val (.long p1), .second, .val (.long p2), .second, .val (.long p3), .second, .val (.long u1), .second, .val (.long q1), .second, .val (.long u2), .second, .val (.long q2), .second, .val (.ref b10), .val (.int (1 : Int32)), .unset]) rfl zq) ?_
  refine own_st (T' := T15) (g' := (mkF m 75 #[.val (.long p0), .second, .val (.long p1), .second, .val (.long p2), .second, .val (.long p3), .second, .val (.long u1), .second, .val (.long q1), .second, .val (.long u2), .second, .val (.long q2), .second, .val (.ref b10), .val (.int (1 : Int32)), .unset] [(.ref b10)])) (fun _ zq => XS.aload X15.here hx rfl (hb hby at_73) rfl rfl zq) ?_
  refine own_st (T' := T15) (g' := (mkF m 77 #[.val (.long p0), .second, .val (.long p1), .second, .val (.long p2), .second, .val (.long p3), .second, .val (.long u1), .second, .val (.long q1), .second, .val (.long u2), .second, .val (.long q2), .second, .val (.ref b10), .val (.int (1 : Int32)), .unset] [(.long u2), (.ref b10)])) (fun _ zq => XS.lload X15.here hx rfl (hb hby at_75) rfl zq) ?_
  refine own_st (T' := T15) (g' := (mkF m 79 #[.val (.long p0), .second, .val (.long p1), .second, .val (.long p2), .second, .val (.long p3), .second, .val (.long u1), .second, .val (.long q1), .second, .val (.long u2), .second, .val (.long q2), .second, .val (.ref b10), .val (.int (1 : Int32)), .unset] [(.long q2), (.long u2), (.ref b10)])) (fun _ zq => XS.lload X15.here hx rfl (hb hby at_77) rfl zq) ?_
  obtain ⟨cq16, kq16, q16a, q16b, q16c⟩ := isOf hZ (eq15) E_b10
  obtain ⟨_, _, ⟨T16, L16, k16, n16⟩, -, X16, ⟨Lc16, hQ16, l16, y16, z16⟩, st16⟩ := X15.virtualBack hx (y := (⟨"com/example/bunko/bunko/format/ElementaryStream", "setFrame", "(JJ)V"⟩ : MethodName)) (z := (⟨"com/example/bunko/bunko/format/ElementaryStream", "setFrame", "(JJ)V"⟩ : MethodName)) hown (mvT hZ (hw _ (List.mem_of_getElem? (i := 25) rfl))) (mvT hZ (hw _ (List.mem_of_getElem? (i := 26) rfl))) (notFace_of_selects (args := #[]) (mvT hZ (hw _ (List.mem_of_getElem? (i := 28) rfl)))) (mvT hZ (hw _ (List.mem_of_getElem? (i := 28) rfl))) (mvT hZ (hw _ (List.mem_of_getElem? (i := 27) rfl))) (by decide) (backOf (W := 0) (rm_setf l Z a0 hw [] b10 u2 q2 (own_sf u1 q1) (-9223372036854775808 : Int64) T13.heap n0 Zs E_b10 F_b10_frameTicks F_b10_latest hnz2 g_b10) hZ (hw _ (List.mem_of_getElem? (i := 29) rfl)) (hw _ (List.mem_of_getElem? (i := 8) rfl)) (by decide) (by decide)) q16a q16c (g := (mkF m 79 #[.val (.long p0), .second, .val (.long p1), .second, .val (.long p2), .second, .val (.long p3), .second, .val (.long u1), .second, .val (.long q1), .second, .val (.long u2), .second, .val (.long q2), .second, .val (.ref b10), .val (.int (1 : Int32)), .unset] [(.long q2), (.long u2), (.ref b10)])) rfl (by rw [hml]; rfl) (Steps.refl _) (argsL := [(.long u2), (.long q2)]) (rest := []) (lenOf own_pd2 rfl) rfl (by show 2 * 0 + _ ≤ _; exact Nat.le_of_eq rfl) (hb hby at_79) (fun _ _ => ⟨rfl, (eq15), (by decide : 1 + 0 ≤ _), (by decide : 9 + 0 ≤ _)⟩)
  dsimp only [Pt.U, Pt.locs, Pt.cells, Pt.slots] at X16 l16 y16 z16 st16 hQ16
  subst l16 y16 z16
  obtain ⟨rfl, Nq16, Kq16, E_b10, F_b10_frameTicks, F_b10_latest⟩ := hQ16
  replace N := Fr.app N Nq16
  replace Zs := Nat.le_trans Zs Kq16.1
  refine own_tr (g' := (mkF m 82 #[.val (.long p0), .second, .val (.long p1), .second, .val (.long p2), .second, .val (.long p3), .second, .val (.long u1), .second, .val (.long q1), .second, .val (.long u2), .second, .val (.long q2), .second, .val (.ref b10), .val (.int (1 : Int32)), .unset] [])) st16 ?_
  refine own_st (T' := T16) (g' := (mkF m 84 #[.val (.long p0), .second, .val (.long p1), .second, .val (.long p2), .second, .val (.long p3), .second, .val (.long u1), .second, .val (.long q1), .second, .val (.long u2), .second, .val (.long q2), .second, .val (.ref b10), .val (.int (1 : Int32)), .unset] [(.ref b10)])) (fun _ zq => XS.aload X16.here hx rfl (hb hby at_82) rfl rfl zq) ?_
  obtain ⟨cq17, kq17, q17a, q17b, q17c⟩ := isOf hZ rfl E_b10
  obtain ⟨_, _, ⟨T17, L17, k17, n17⟩, -, X17, ⟨Lc17, hQ17, l17, y17, z17⟩, st17⟩ := X16.virtualBack hx (y := (⟨"com/example/bunko/bunko/format/ElementaryStream", "frameTicks", "()J"⟩ : MethodName)) (z := (⟨"com/example/bunko/bunko/format/ElementaryStream", "frameTicks", "()J"⟩ : MethodName)) hown (mvT hZ (hw _ (List.mem_of_getElem? (i := 34) rfl))) (mvT hZ (hw _ (List.mem_of_getElem? (i := 35) rfl))) (notFace_of_selects (args := #[]) (mvT hZ (hw _ (List.mem_of_getElem? (i := 37) rfl)))) (mvT hZ (hw _ (List.mem_of_getElem? (i := 37) rfl))) (mvT hZ (hw _ (List.mem_of_getElem? (i := 36) rfl))) (by decide) (backOf (W := 0) (rm_frameTicks l Z a0 hw [] b10 (own_sf u2 q2) T16.heap n0 Zs F_b10_frameTicks) hZ (hw _ (List.mem_of_getElem? (i := 38) rfl)) (hw _ (List.mem_of_getElem? (i := 8) rfl)) (by decide) (by decide)) q17a q17c (g := (mkF m 84 #[.val (.long p0), .second, .val (.long p1), .second, .val (.long p2), .second, .val (.long p3), .second, .val (.long u1), .second, .val (.long q1), .second, .val (.long u2), .second, .val (.long q2), .second, .val (.ref b10), .val (.int (1 : Int32)), .unset] [(.ref b10)])) rfl (by rw [hml]; rfl) (Steps.refl _) (argsL := []) (rest := []) (lenOf own_pd3 rfl) rfl (by show 2 * 0 + _ ≤ _; exact Nat.le_of_eq rfl) (hb hby at_84) (fun _ _ => ⟨rfl, rfl, (by decide : 1 + 0 ≤ _), (by decide : 9 + 0 ≤ _)⟩)
  dsimp only [Pt.U, Pt.locs, Pt.cells, Pt.slots] at X17 l17 y17 z17 st17 hQ17
  subst l17 y17 z17
  obtain ⟨rfl, Nq17, eq17⟩ := hQ17
  replace N := Fr.app N Nq17
  refine own_tr (g' := (mkF m 87 #[.val (.long p0), .second, .val (.long p1), .second, .val (.long p2), .second, .val (.long p3), .second, .val (.long u1), .second, .val (.long q1), .second, .val (.long u2), .second, .val (.long q2), .second, .val (.ref b10), .val (.int (1 : Int32)), .unset] [(.long (own_sf u2 q2))])) st17 ?_
  refine own_st (T' := T17) (g' := (mkF m 89 #[.val (.long p0), .second, .val (.long p1), .second, .val (.long p2), .second, .val (.long p3), .second, .val (.long u1), .second, .val (.long q1), .second, .val (.long u2), .second, .val (.long q2), .second, .val (.ref b10), .val (.int (1 : Int32)), .unset] [(.long u2), (.long (own_sf u2 q2))])) (fun _ zq => XS.lload X17.here hx rfl (hb hby at_87) rfl zq) ?_
  refine own_st (T' := T17) (g' := (mkF m 91 #[.val (.long p0), .second, .val (.long p1), .second, .val (.long p2), .second, .val (.long p3), .second, .val (.long u1), .second, .val (.long q1), .second, .val (.long u2), .second, .val (.long q2), .second, .val (.ref b10), .val (.int (1 : Int32)), .unset] [(.long q2), (.long u2), (.long (own_sf u2 q2))])) (fun _ zq => XS.lload X17.here hx rfl (hb hby at_89) rfl zq) ?_
  obtain ⟨_, _, ⟨T18, L18, k18, n18⟩, -, X18, ⟨Lc18, hQ18, l18, y18, z18⟩, st18⟩ := Jvm.LawKit.callS X17 hx (y := (⟨"com/example/bunko/bunko/format/ElementaryStreamSetFramePinLaw", "ref", "(JJ)J"⟩ : MethodName)) hown (mvT hZ (hw _ (List.mem_of_getElem? (i := 39) rfl))) (mvT hZ (hw _ (List.mem_of_getElem? (i := 40) rfl))) (mvT hZ (hw _ (List.mem_of_getElem? (i := 3) rfl))) (mvT hZ (hw _ (List.mem_of_getElem? (i := 41) rfl))) (by decide) (backOf (W := 2) (rm_ref l Z a0 hw [] u2 q2 T16.heap n0 Zs ) hZ (hw _ (List.mem_of_getElem? (i := 41) rfl)) (hw _ (List.mem_of_getElem? (i := 3) rfl)) (by decide) (by decide)) (g := (mkF m 91 #[.val (.long p0), .second, .val (.long p1), .second, .val (.long p2), .second, .val (.long p3), .second, .val (.long u1), .second, .val (.long q1), .second, .val (.long u2), .second, .val (.long q2), .second, .val (.ref b10), .val (.int (1 : Int32)), .unset] [(.long q2), (.long u2), (.long (own_sf u2 q2))])) rfl (by rw [hml]; rfl) (argsL := [(.long u2), (.long q2)]) (rest := [(.long (own_sf u2 q2))]) (lenOf own_pd4 rfl) rfl (by show 2 * 0 + _ ≤ _; exact Nat.le_of_eq rfl) (hb hby at_91) (fun _ _ => ⟨rfl, (eq17), (by decide : 1 + 0 ≤ _), (by decide : 9 + 0 ≤ _)⟩)
  dsimp only [Pt.U, Pt.locs, Pt.cells, Pt.slots] at X18 l18 y18 z18 st18 hQ18
  subst l18 y18 z18
  obtain ⟨rfl, Nq18, eq18⟩ := hQ18
  replace N := Fr.app N Nq18
  refine own_st (g' := (mkF m 94 #[.val (.long p0), .second, .val (.long p1), .second, .val (.long p2), .second, .val (.long p3), .second, .val (.long u1), .second, .val (.long q1), .second, .val (.long u2), .second, .val (.long q2), .second, .val (.ref b10), .val (.int (1 : Int32)), .unset] [(.long (own_ref u2 q2)), (.long (own_sf u2 q2))])) st18 ?_
  refine own_st (T' := T18) (g' := (mkF m 95 #[.val (.long p0), .second, .val (.long p1), .second, .val (.long p2), .second, .val (.long p3), .second, .val (.long u1), .second, .val (.long q1), .second, .val (.long u2), .second, .val (.long q2), .second, .val (.ref b10), .val (.int (1 : Int32)), .unset] [(.int (lcmpW (own_sf u2 q2) (own_ref u2 q2)))])) (fun _ zq => XS.lcmp X18.here hx rfl (hb hby at_94) rfl zq) ?_
  refine own_st (T' := T18) (g' := (mkF m 98 #[.val (.long p0), .second, .val (.long p1), .second, .val (.long p2), .second, .val (.long p3), .second, .val (.long u1), .second, .val (.long q1), .second, .val (.long u2), .second, .val (.long q2), .second, .val (.ref b10), .val (.int (1 : Int32)), .unset] [])) (fun _ zq => XS.ifNo X18.here hx rfl (hb hby at_95) rfl (own_lteq heq2).2 zq) ?_
  refine own_st (T' := T18) (g' := (mkF m 99 #[.val (.long p0), .second, .val (.long p1), .second, .val (.long p2), .second, .val (.long p3), .second, .val (.long u1), .second, .val (.long q1), .second, .val (.long u2), .second, .val (.long q2), .second, .val (.ref b10), .val (.int (1 : Int32)), .unset] [(.int (1 : Int32))])) (fun _ zq => XS.iconst X18.here hx rfl (hb hby at_98) zq) ?_
  refine own_st (T' := T18) (g' := (mkF m 103 #[.val (.long p0), .second, .val (.long p1), .second, .val (.long p2), .second, .val (.long p3), .second, .val (.long u1), .second, .val (.long q1), .second, .val (.long u2), .second, .val (.long q2), .second, .val (.ref b10), .val (.int (1 : Int32)), .unset] [(.int (1 : Int32))])) (fun _ zq => XS.goto X18.here hx rfl (pc0 := 99) (pc' := 103) rfl (hb hby at_99) (by decide) (by decide) zq) ?_
  refine own_st (T' := T18) (g' := (mkF m 105 #[.val (.long p0), .second, .val (.long p1), .second, .val (.long p2), .second, .val (.long p3), .second, .val (.long u1), .second, .val (.long q1), .second, .val (.long u2), .second, .val (.long q2), .second, .val (.ref b10), .val (.int (1 : Int32)), .val (.int (1 : Int32))] [])) (fun _ zq => XS.istore X18.here hx rfl (hb hby at_103) rfl (l' := #[.val (.long p0), .second, .val (.long p1), .second, .val (.long p2), .second, .val (.long p3), .second, .val (.long u1), .second, .val (.long q1), .second, .val (.long u2), .second, .val (.long q2), .second, .val (.ref b10), .val (.int (1 : Int32)), .val (.int (1 : Int32))]) rfl zq) ?_
  refine own_st (T' := T18) (g' := (mkF m 107 #[.val (.long p0), .second, .val (.long p1), .second, .val (.long p2), .second, .val (.long p3), .second, .val (.long u1), .second, .val (.long q1), .second, .val (.long u2), .second, .val (.long q2), .second, .val (.ref b10), .val (.int (1 : Int32)), .val (.int (1 : Int32))] [(.int (1 : Int32))])) (fun _ zq => XS.iload X18.here hx rfl (hb hby at_105) rfl zq) ?_
  refine own_st (T' := T18) (g' := (mkF m 110 #[.val (.long p0), .second, .val (.long p1), .second, .val (.long p2), .second, .val (.long p3), .second, .val (.long u1), .second, .val (.long q1), .second, .val (.long u2), .second, .val (.long q2), .second, .val (.ref b10), .val (.int (1 : Int32)), .val (.int (1 : Int32))] [])) (fun _ zq => XS.ifNo X18.here hx rfl (hb hby at_107) rfl ((if0 _ _).trans (feq (by decide)).1) zq) ?_
  refine own_st (T' := T18) (g' := (mkF m 112 #[.val (.long p0), .second, .val (.long p1), .second, .val (.long p2), .second, .val (.long p3), .second, .val (.long u1), .second, .val (.long q1), .second, .val (.long u2), .second, .val (.long q2), .second, .val (.ref b10), .val (.int (1 : Int32)), .val (.int (1 : Int32))] [(.int (1 : Int32))])) (fun _ zq => XS.iload X18.here hx rfl (hb hby at_110) rfl zq) ?_
  refine own_st (T' := T18) (g' := (mkF m 115 #[.val (.long p0), .second, .val (.long p1), .second, .val (.long p2), .second, .val (.long p3), .second, .val (.long u1), .second, .val (.long q1), .second, .val (.long u2), .second, .val (.long q2), .second, .val (.ref b10), .val (.int (1 : Int32)), .val (.int (1 : Int32))] [])) (fun _ zq => XS.ifNo X18.here hx rfl (hb hby at_112) rfl ((if0 _ _).trans (feq (by decide)).1) zq) ?_
  refine own_st (T' := T18) (g' := (mkF m 117 #[.val (.long p0), .second, .val (.long p1), .second, .val (.long p2), .second, .val (.long p3), .second, .val (.long u1), .second, .val (.long q1), .second, .val (.long u2), .second, .val (.long q2), .second, .val (.ref b10), .val (.int (1 : Int32)), .val (.int (1 : Int32))] [(.ref b10)])) (fun _ zq => XS.aload X18.here hx rfl (hb hby at_115) rfl rfl zq) ?_
  obtain ⟨cq19, kq19, q19a, q19b, q19c⟩ := isOf hZ (eq18) E_b10
  obtain ⟨_, _, ⟨T19, L19, k19, n19⟩, -, X19, ⟨Lc19, hQ19, l19, y19, z19⟩, st19⟩ := X18.virtualBack hx (y := (⟨"com/example/bunko/bunko/format/ElementaryStream", "latest", "()J"⟩ : MethodName)) (z := (⟨"com/example/bunko/bunko/format/ElementaryStream", "latest", "()J"⟩ : MethodName)) hown (mvT hZ (hw _ (List.mem_of_getElem? (i := 44) rfl))) (mvT hZ (hw _ (List.mem_of_getElem? (i := 45) rfl))) (notFace_of_selects (args := #[]) (mvT hZ (hw _ (List.mem_of_getElem? (i := 47) rfl)))) (mvT hZ (hw _ (List.mem_of_getElem? (i := 47) rfl))) (mvT hZ (hw _ (List.mem_of_getElem? (i := 46) rfl))) (by decide) (backOf (W := 0) (rm_latest l Z a0 hw [] b10 (-9223372036854775808 : Int64) T16.heap n0 Zs F_b10_latest) hZ (hw _ (List.mem_of_getElem? (i := 48) rfl)) (hw _ (List.mem_of_getElem? (i := 8) rfl)) (by decide) (by decide)) q19a q19c (g := (mkF m 117 #[.val (.long p0), .second, .val (.long p1), .second, .val (.long p2), .second, .val (.long p3), .second, .val (.long u1), .second, .val (.long q1), .second, .val (.long u2), .second, .val (.long q2), .second, .val (.ref b10), .val (.int (1 : Int32)), .val (.int (1 : Int32))] [(.ref b10)])) rfl (by rw [hml]; rfl) (Steps.refl _) (argsL := []) (rest := []) (lenOf own_pd3 rfl) rfl (by show 2 * 0 + _ ≤ _; exact Nat.le_of_eq rfl) (hb hby at_117) (fun _ _ => ⟨rfl, (eq18), (by decide : 1 + 0 ≤ _), (by decide : 9 + 0 ≤ _)⟩)
  dsimp only [Pt.U, Pt.locs, Pt.cells, Pt.slots] at X19 l19 y19 z19 st19 hQ19
  subst l19 y19 z19
  obtain ⟨rfl, Nq19, eq19⟩ := hQ19
  replace N := Fr.app N Nq19
  refine own_tr (g' := (mkF m 120 #[.val (.long p0), .second, .val (.long p1), .second, .val (.long p2), .second, .val (.long p3), .second, .val (.long u1), .second, .val (.long q1), .second, .val (.long u2), .second, .val (.long q2), .second, .val (.ref b10), .val (.int (1 : Int32)), .val (.int (1 : Int32))] [(.long (-9223372036854775808 : Int64))])) st19 ?_
  refine own_st (T' := T19) (g' := (mkF m 123 #[.val (.long p0), .second, .val (.long p1), .second, .val (.long p2), .second, .val (.long p3), .second, .val (.long u1), .second, .val (.long q1), .second, .val (.long u2), .second, .val (.long q2), .second, .val (.ref b10), .val (.int (1 : Int32)), .val (.int (1 : Int32))] [(.long (-9223372036854775808 : Int64)), (.long (-9223372036854775808 : Int64))])) (fun _ zq => X19.ldc2Long hx hown (mvT hZ (hw _ (List.mem_of_getElem? (i := 49) rfl))) (g := (mkF m 120 #[.val (.long p0), .second, .val (.long p1), .second, .val (.long p2), .second, .val (.long p3), .second, .val (.long u1), .second, .val (.long q1), .second, .val (.long u2), .second, .val (.long q2), .second, .val (.ref b10), .val (.int (1 : Int32)), .val (.int (1 : Int32))] [(.long (-9223372036854775808 : Int64))])) rfl (hb hby at_120) _ zq) ?_
  refine own_st (T' := T19) (g' := (mkF m 124 #[.val (.long p0), .second, .val (.long p1), .second, .val (.long p2), .second, .val (.long p3), .second, .val (.long u1), .second, .val (.long q1), .second, .val (.long u2), .second, .val (.long q2), .second, .val (.ref b10), .val (.int (1 : Int32)), .val (.int (1 : Int32))] [(.int (lcmpW (-9223372036854775808 : Int64) (-9223372036854775808 : Int64)))])) (fun _ zq => XS.lcmp X19.here hx rfl (hb hby at_123) rfl zq) ?_
  refine own_st (T' := T19) (g' := (mkF m 127 #[.val (.long p0), .second, .val (.long p1), .second, .val (.long p2), .second, .val (.long p3), .second, .val (.long u1), .second, .val (.long q1), .second, .val (.long u2), .second, .val (.long q2), .second, .val (.ref b10), .val (.int (1 : Int32)), .val (.int (1 : Int32))] [])) (fun _ zq => XS.ifNo X19.here hx rfl (hb hby at_124) rfl (own_lteq rfl).2 zq) ?_
  refine own_st (T' := T19) (g' := (mkF m 128 #[.val (.long p0), .second, .val (.long p1), .second, .val (.long p2), .second, .val (.long p3), .second, .val (.long u1), .second, .val (.long q1), .second, .val (.long u2), .second, .val (.long q2), .second, .val (.ref b10), .val (.int (1 : Int32)), .val (.int (1 : Int32))] [(.int (1 : Int32))])) (fun _ zq => XS.iconst X19.here hx rfl (hb hby at_127) zq) ?_
  refine own_st (T' := T19) (g' := (mkF m 132 #[.val (.long p0), .second, .val (.long p1), .second, .val (.long p2), .second, .val (.long p3), .second, .val (.long u1), .second, .val (.long q1), .second, .val (.long u2), .second, .val (.long q2), .second, .val (.ref b10), .val (.int (1 : Int32)), .val (.int (1 : Int32))] [(.int (1 : Int32))])) (fun _ zq => XS.goto X19.here hx rfl (pc0 := 128) (pc' := 132) rfl (hb hby at_128) (by decide) (by decide) zq) ?_
  exact own_ret X19 hx hret hlk (i := .ireturn) rfl (Or.inl ⟨rfl, by decide, _, rfl⟩) (hb hby at_132) (eq19) (Nat.le_of_ble_eq_true rfl) (Nat.le_of_ble_eq_true rfl) ⟨rfl, N⟩
set_option maxRecDepth 65536 in
set_option maxHeartbeats 40000000 in
theorem comes_1 {Post : Tables → Env → Array Value → State → Outcome → State → Prop} (hpost : ∀ tb e args s v u, (limb_1_1.after args s (.returned v) u = true ∧ limb_1_2.after args s (.returned v) u = true ∧ True) → FrameEnd s (.returned v) u (Jvm.fieldLocs frame_1_writes args s ++ Jvm.arrayLocs frame_1_arrays args s ++ Jvm.staticLocs frame_1_statics s) 16 128 → Post tb e args s (.returned v) u) :
    ArmFor flags0 classFile x code maxLocals ret World_1 tables_1 room_1 Calls_1 rest_1 Pre_1 Post := by
  intro l hfl _ _ p e ha hc hk s m args below hf hA hF happ hP
  obtain ⟨hcalls, hrest, hpre⟩ := hP
  obtain ⟨-, -, -, hnamed, -, -, -, hat⟩ := (Spec.applies_iff hf).mp happ
  obtain ⟨hg, hn⟩ := and_e (Cond.before_iff.mp (show (Jvm.Cond.and given_1 narrow_1).before args s = true from hpre))
  obtain ⟨hcnt, hgs⟩ := and_e hg
  obtain ⟨w0, w1, w2, w3, rfl⟩ : ∃ w0 w1 w2 w3 : Value, args = #[w0, w1, w2, w3] := by
    have hs : args.size = 4 := by simpa [Cond.value, given_1] using hcnt
    obtain ⟨L⟩ := args
    match L, hs with
    | [w0, w1, w2, w3], _ => exact ⟨w0, w1, w2, w3, rfl⟩
  have hw := fun d (hd : d ∈ tables_1) => atoms_spec (ws := Jvm.Cond.code x code maxLocals ret :: tables_1) hat d (List.mem_cons_of_mem _ hd)
  have hfit : Fit s := fun {y c} hc i hi => by
    obtain ⟨ha, rfl⟩ := Array.getElem?_eq_some_iff.mp hc
    have q := List.all_eq_true.mp ((Array.all_eq_true_iff_forall_mem.mp hF) _ (Array.getElem_mem ha)) i (List.mem_range.mpr hi)
    simpa [Array.getElem?_eq_getElem hi] using q
  obtain ⟨k0, hgs⟩ := and_e hgs
  obtain ⟨i0, q0⟩ := isL_v k0
  obtain rfl : w0 = (.long i0) := Option.some.inj q0
  obtain ⟨k1, hgs⟩ := and_e hgs
  obtain ⟨i1, q1⟩ := isL_v k1
  obtain rfl : w1 = (.long i1) := Option.some.inj q1
  obtain ⟨k2, hgs⟩ := and_e hgs
  obtain ⟨i2, q2⟩ := isL_v k2
  obtain rfl : w2 = (.long i2) := Option.some.inj q2
  obtain ⟨i3, q3⟩ := isL_v hgs
  obtain rfl : w3 = (.long i3) := Option.some.inj q3
  obtain ⟨cA, evA⟩ := exa_v hn
  have SA := Sta.start evA (Or.inr ⟨(hw _ (List.mem_of_getElem? (i := 10) rfl)), (hw _ (List.mem_of_getElem? (i := 11) rfl))⟩)
  obtain ⟨n, o, h1, h2, h3, _, L, rfl, ⟨rfl, N⟩, hq⟩ := rm_law l s _ hw tables_1 i0 i1 i2 i3 cA s.heap s.heap.size (Nat.le_refl _) SA p e ha hc hk s m _ below hf ((Spec.applies_iff_loose hf).mp happ).1 ⟨rfl, State.Warmed39.refl s, rfl⟩ trivial
  refine ⟨n, _, h1, h2, h3, hpost _ _ _ _ _ _ ⟨Cond.after_iff.mpr rfl, Cond.after_iff.mpr (eq_i res_at (Term.int_eval (1)) rfl), trivial⟩ ⟨hq.1, hq.2.1, (hq.2.2.sift fun y hy => Or.inr (N y hy)).mono (by decide) (by decide)⟩⟩
theorem main_1_1 : Claimed_1_1 := comes_1 fun _ _ _ _ _ _ h hF => ⟨h.1, hF⟩
theorem main_1_2 : Claimed_1_2 := comes_1 fun _ _ _ _ _ _ h hF => ⟨h.2.1, hF⟩
end Jvm.Pilot.@@N@@
namespace Jvm.Pilot.@@N@@
open Jvm Jvm.ClassFile Sem Op Lib Jvm.Free Jvm.Stand Jvm.Pilot.@@N@@.Jvm.D
/-! MADE BY PROGRAM (witnessworld.py) out of the Statement's table words and the real class files: 13 classes; the members and pool entries that the words name. The judged class is class 1, her method 3. -/
namespace start1
open Jvm.ClassFile
def u (s : String) : CpInfo := .utf8 (stringToUtf16 s)
/-- a pool by its gaps: so many unusable entries, then the entry; so many at the end -/
def gap : Nat → List CpInfo → List CpInfo
  | 0, r => r
  | n + 1, r => .unusable :: gap n r
def poolList (es : List (Nat × CpInfo)) (last : Nat) : List CpInfo := es.foldr (fun e r => gap e.1 (e.2 :: r)) (gap last [])
def pool (es : List (Nat × CpInfo)) (last : Nat) : Array CpInfo := ⟨poolList es last⟩
def fileOf (pool : Array CpInfo) (this : Nat) (attrs : Array Attribute := #[]) (ms : Array MethodInfo := #[]) (fl : Nat := 33) (sup : Nat := 0) (ifs : Array Nat := #[]) (fds : Array FieldInfo := #[]) : ClassFile where
  minorVersion := 0
  majorVersion := 65
  constantPool := pool
  accessFlags := fl
  thisClass := this
  superClass := sup
  interfaces := ifs
  fields := fds
  methods := ms
  attributes := attrs
def plain (name : String) (sup : Option ClassId) : Class where
  name := name
  kind := .ordinary
  loader := none
  accessFlags := 33
  super := sup
  interfaces := #[]
  cf := none
  fields := #[]
  methods := #[]
  instanceTypes := #[]
  staticTypes := #[]
  resolved := #[]
  callSites := []
  init := .initialized
  statics := none
  mirror := none

def pool0 : Array CpInfo := pool [(5, u "<init>"), (0, u "()V"), (1, .class_ 10), (1, u "java/lang/Object")] 113

def k0c0 : Code := { maxStack := 0, maxLocals := 1, code := object_method_1_code, exceptionTable := #[], attributes := #[] }
def k0m0 : Method := { name := "<init>", desc := "()V", sig := { parameters := [], returnType := none }, accessFlags := 1, code := some k0c0 }
/-- java/lang/Object -/
def k0 : Class := { plain "java/lang/Object" none with
  accessFlags := 33
  interfaces := #[]
  cf := some (fileOf pool0 8 #[] #[{ accessFlags := 1, nameIndex := 5, descriptorIndex := 6, attributes := #[] }] 33 0 #[] #[])
  fields := #[]
  methods := #[k0m0]
  instanceTypes := #[]
  staticTypes := #[]
  resolved := Array.replicate 124 none
  statics := none }

def pool1 : Array CpInfo := pool [(2, .class_ 4), (1, u "java/lang/Object"), (0, u "<init>"), (0, u "()V"), (0, .long 281474976710655), (1, .long 90000), (1, .long 2), (1, .long 17179869183), (1, .methodref 16 17), (0, .class_ 18), (0, .nameAndType 19 20), (0, u "com/example/bunko/bunko/format/ElementaryStreamSetFramePinLaw"), (0, u "rate"), (0, u "(J)J"), (0, .class_ 22), (0, u "com/example/bunko/bunko/format/ElementaryStream"), (0, .fieldref 24 25), (0, .class_ 26), (0, .nameAndType 27 28), (0, u "com/example/bunko/bunko/format/ElementaryStream$Codec"), (0, u "ADTS"), (0, u "Lcom/example/bunko/bunko/format/ElementaryStream$Codec;"), (0, .methodref 21 30), (0, .nameAndType 5 31), (0, u "(Lcom/example/bunko/bunko/format/ElementaryStream$Codec;Z)V"), (0, .methodref 21 33), (0, .nameAndType 34 35), (0, u "setFrame"), (0, u "(JJ)V"), (0, .methodref 21 37), (0, .nameAndType 38 39), (0, u "frameTicks"), (0, u "()J"), (0, .methodref 16 41), (0, .nameAndType 42 43), (0, u "ref"), (0, u "(JJ)J"), (0, .methodref 21 45), (0, .nameAndType 46 39), (0, u "latest"), (2, .long 9223372036854775808), (4, u "law"), (0, u "(JJJJ)Z")] 4

def k1m0 : Method := { name := "<init>", desc := "()V", sig := { parameters := [], returnType := none }, accessFlags := 2, code := none }
def k1c1 : Code := { maxStack := 4, maxLocals := 2, code := method_2_code, exceptionTable := #[], attributes := #[] }
def k1m1 : Method := { name := "rate", desc := "(J)J", sig := { parameters := [.long], returnType := some .long }, accessFlags := 10, code := some k1c1 }
def k1c2 : Code := { maxStack := 4, maxLocals := 10, code := method_3_code, exceptionTable := #[], attributes := #[] }
def k1m2 : Method := { name := "ref", desc := "(JJ)J", sig := { parameters := [.long, .long], returnType := some .long }, accessFlags := 10, code := some k1c2 }
def k1c3 : Code := { maxStack := 6, maxLocals := 19, code := code, exceptionTable := #[], attributes := #[] }
def k1m3 : Method := { name := "law", desc := "(JJJJ)Z", sig := { parameters := [.long, .long, .long, .long], returnType := some .boolean }, accessFlags := 9, code := some k1c3 }
/-- com/example/bunko/bunko/format/ElementaryStreamSetFramePinLaw -/
def k1 : Class := { plain "com/example/bunko/bunko/format/ElementaryStreamSetFramePinLaw" (some 0) with
  accessFlags := 49
  interfaces := #[]
  cf := some (fileOf pool1 16 #[] #[{ accessFlags := 2, nameIndex := 5, descriptorIndex := 6, attributes := #[] }, { accessFlags := 10, nameIndex := 19, descriptorIndex := 20, attributes := #[] }, { accessFlags := 10, nameIndex := 42, descriptorIndex := 43, attributes := #[] }, { accessFlags := 9, nameIndex := 54, descriptorIndex := 55, attributes := #[] }] 49 2 #[] #[])
  fields := #[]
  methods := #[k1m0, k1m1, k1m2, k1m3]
  instanceTypes := #[]
  staticTypes := #[]
  resolved := Array.replicate 60 none
  statics := none }

def pool2 : Array CpInfo := pool [(1, .methodref 2 3), (0, .class_ 4), (0, .nameAndType 5 6), (0, u "java/lang/Object"), (0, u "<init>"), (0, u "()V"), (2, .long 9223372036854775808), (1, .fieldref 12 13), (0, .class_ 14), (0, .nameAndType 15 16), (0, u "com/example/bunko/bunko/format/ElementaryStream"), (0, u "latest"), (0, u "J"), (0, .fieldref 12 18), (0, .nameAndType 19 20), (0, u "codec"), (0, u "Lcom/example/bunko/bunko/format/ElementaryStream$Codec;"), (0, .integer 65536), (0, .fieldref 12 23), (0, .nameAndType 24 25), (0, u "held"), (0, u "[B"), (2, u "heldLength"), (0, u "I"), (24, u "width"), (0, u "Ljava/lang/Integer;"), (2, u "height"), (2, u "sampleRate"), (2, u "channels"), (0, .long 180000), (1, .long 2), (1, .fieldref 12 70), (0, .nameAndType 71 16), (0, u "frameTicks"), (5, .class_ 79), (1, u "com/example/bunko/bunko/format/ElementaryStream$Codec"), (28, .class_ 110), (1, u "com/example/bunko/bunko/format/ElementaryStream$HeaderSearch"), (2, u "TICKS_PER_SECOND"), (3, u "HELD"), (0, u "(Lcom/example/bunko/bunko/format/ElementaryStream$Codec;Z)V"), (8, u "(JJ)V"), (2, u "setFrame"), (0, u "()J")] 12

def k2c0 : Code := { maxStack := 3, maxLocals := 3, code := prog_33_method_1_code, exceptionTable := #[], attributes := #[] }
def k2m0 : Method := { name := "<init>", desc := "(Lcom/example/bunko/bunko/format/ElementaryStream$Codec;Z)V", sig := { parameters := [(.object "com/example/bunko/bunko/format/ElementaryStream$Codec"), .boolean], returnType := none }, accessFlags := 0, code := some k2c0 }
def k2c1 : Code := { maxStack := 7, maxLocals := 5, code := prog_33_method_6_code, exceptionTable := #[], attributes := #[] }
def k2m1 : Method := { name := "setFrame", desc := "(JJ)V", sig := { parameters := [.long, .long], returnType := none }, accessFlags := 0, code := some k2c1 }
def k2c2 : Code := { maxStack := 2, maxLocals := 1, code := prog_33_method_7_code, exceptionTable := #[], attributes := #[] }
def k2m2 : Method := { name := "frameTicks", desc := "()J", sig := { parameters := [], returnType := some .long }, accessFlags := 0, code := some k2c2 }
def k2c3 : Code := { maxStack := 2, maxLocals := 1, code := prog_33_method_9_code, exceptionTable := #[], attributes := #[] }
def k2m3 : Method := { name := "latest", desc := "()J", sig := { parameters := [], returnType := some .long }, accessFlags := 0, code := some k2c3 }
/-- com/example/bunko/bunko/format/ElementaryStream -/
def k2 : Class := { plain "com/example/bunko/bunko/format/ElementaryStream" (some 0) with
  accessFlags := 48
  interfaces := #[]
  cf := some (fileOf pool2 12 #[.nestMembers #[108, 77]] #[{ accessFlags := 0, nameIndex := 5, descriptorIndex := 118, attributes := #[] }, { accessFlags := 0, nameIndex := 130, descriptorIndex := 127, attributes := #[] }, { accessFlags := 0, nameIndex := 71, descriptorIndex := 131, attributes := #[] }, { accessFlags := 0, nameIndex := 15, descriptorIndex := 131, attributes := #[] }] 48 2 #[] #[{ accessFlags := 24, nameIndex := 113, descriptorIndex := 16, attributes := #[] }, { accessFlags := 26, nameIndex := 117, descriptorIndex := 29, attributes := #[] }, { accessFlags := 18, nameIndex := 19, descriptorIndex := 20, attributes := #[] }, { accessFlags := 2, nameIndex := 24, descriptorIndex := 25, attributes := #[] }, { accessFlags := 2, nameIndex := 28, descriptorIndex := 29, attributes := #[] }, { accessFlags := 2, nameIndex := 54, descriptorIndex := 55, attributes := #[] }, { accessFlags := 2, nameIndex := 58, descriptorIndex := 55, attributes := #[] }, { accessFlags := 2, nameIndex := 61, descriptorIndex := 55, attributes := #[] }, { accessFlags := 2, nameIndex := 64, descriptorIndex := 55, attributes := #[] }, { accessFlags := 2, nameIndex := 71, descriptorIndex := 16, attributes := #[] }, { accessFlags := 2, nameIndex := 15, descriptorIndex := 16, attributes := #[] }])
  fields := #[{ name := "TICKS_PER_SECOND", type := .long, accessFlags := 24, slot := 0, constantValue := 0 }, { name := "HELD", type := .int, accessFlags := 26, slot := 1, constantValue := 0 }, { name := "codec", type := (.object "com/example/bunko/bunko/format/ElementaryStream$Codec"), accessFlags := 18, slot := 0, constantValue := 0 }, { name := "held", type := (.array .byte), accessFlags := 2, slot := 1, constantValue := 0 }, { name := "heldLength", type := .int, accessFlags := 2, slot := 2, constantValue := 0 }, { name := "width", type := (.object "java/lang/Integer"), accessFlags := 2, slot := 3, constantValue := 0 }, { name := "height", type := (.object "java/lang/Integer"), accessFlags := 2, slot := 4, constantValue := 0 }, { name := "sampleRate", type := (.object "java/lang/Integer"), accessFlags := 2, slot := 5, constantValue := 0 }, { name := "channels", type := (.object "java/lang/Integer"), accessFlags := 2, slot := 6, constantValue := 0 }, { name := "frameTicks", type := .long, accessFlags := 2, slot := 7, constantValue := 0 }, { name := "latest", type := .long, accessFlags := 2, slot := 8, constantValue := 0 }]
  methods := #[k2m0, k2m1, k2m2, k2m3]
  instanceTypes := #[(.object "com/example/bunko/bunko/format/ElementaryStream$Codec"), (.array .byte), .int, (.object "java/lang/Integer"), (.object "java/lang/Integer"), (.object "java/lang/Integer"), (.object "java/lang/Integer"), .long, .long]
  staticTypes := #[.long, .int]
  resolved := Array.replicate 144 none
  statics := none }

def pool3 : Array CpInfo := pool [(1, .class_ 2), (0, u "java/lang/constant/Constable"), (0, .class_ 4), (0, u "java/lang/Object")] 6

/-- java/lang/constant/Constable -/
def k3 : Class := { plain "java/lang/constant/Constable" (some 0) with
  accessFlags := 1537
  interfaces := #[]
  cf := some (fileOf pool3 1 #[] #[] 1537 3 #[] #[])
  fields := #[]
  methods := #[]
  instanceTypes := #[]
  staticTypes := #[]
  resolved := Array.replicate 11 none
  statics := none }

def pool4 : Array CpInfo := pool [(1, .class_ 2), (0, u "java/lang/Comparable"), (0, .class_ 4), (0, u "java/lang/Object")] 7

/-- java/lang/Comparable -/
def k4 : Class := { plain "java/lang/Comparable" (some 0) with
  accessFlags := 1537
  interfaces := #[]
  cf := some (fileOf pool4 1 #[] #[] 1537 3 #[] #[])
  fields := #[]
  methods := #[]
  instanceTypes := #[]
  staticTypes := #[]
  resolved := Array.replicate 12 none
  statics := none }

def pool5 : Array CpInfo := pool [(1, .class_ 2), (0, u "java/io/Serializable"), (0, .class_ 4), (0, u "java/lang/Object")] 2

/-- java/io/Serializable -/
def k5 : Class := { plain "java/io/Serializable" (some 0) with
  accessFlags := 1537
  interfaces := #[]
  cf := some (fileOf pool5 1 #[] #[] 1537 3 #[] #[])
  fields := #[]
  methods := #[]
  instanceTypes := #[]
  staticTypes := #[]
  resolved := Array.replicate 7 none
  statics := none }

def pool6 : Array CpInfo := pool [(2, .class_ 4), (1, u "java/lang/Enum"), (0, u "name"), (0, u "Ljava/lang/String;"), (2, u "ordinal"), (0, u "I"), (1, .class_ 14), (1, u "java/lang/Object"), (4, u "hash"), (86, .class_ 108), (1, u "java/lang/Enum$EnumDesc"), (2, .class_ 112), (0, u "java/lang/constant/Constable"), (0, .class_ 114), (0, u "java/lang/Comparable"), (0, .class_ 116), (0, u "java/io/Serializable")] 87

/-- java/lang/Enum -/
def k6 : Class := { plain "java/lang/Enum" (some 0) with
  accessFlags := 1057
  interfaces := #[3, 4, 5]
  cf := some (fileOf pool6 2 #[.nestMembers #[106]] #[] 1057 12 #[111, 113, 115] #[{ accessFlags := 18, nameIndex := 5, descriptorIndex := 6, attributes := #[] }, { accessFlags := 18, nameIndex := 9, descriptorIndex := 10, attributes := #[] }, { accessFlags := 2, nameIndex := 19, descriptorIndex := 10, attributes := #[] }])
  fields := #[{ name := "name", type := (.object "java/lang/String"), accessFlags := 18, slot := 0, constantValue := 0 }, { name := "ordinal", type := .int, accessFlags := 18, slot := 1, constantValue := 0 }, { name := "hash", type := .int, accessFlags := 2, slot := 2, constantValue := 0 }]
  methods := #[]
  instanceTypes := #[(.object "java/lang/String"), .int, .int]
  staticTypes := #[]
  resolved := Array.replicate 204 none
  statics := none }

def pool7 : Array CpInfo := pool [(1, .class_ 2), (0, u "com/example/bunko/bunko/format/ElementaryStream$Codec"), (2, u "MPEG_VIDEO"), (0, u "Lcom/example/bunko/bunko/format/ElementaryStream$Codec;"), (2, u "H264"), (2, u "MPEG_AUDIO"), (2, u "ADTS"), (2, u "$VALUES"), (0, u "[Lcom/example/bunko/bunko/format/ElementaryStream$Codec;"), (6, .class_ 28), (1, u "java/lang/Enum"), (8, u "video"), (0, u "Z"), (2, u "reach"), (0, u "I"), (2, u "search"), (0, u "Lcom/example/bunko/bunko/format/ElementaryStream$HeaderSearch;"), (47, .class_ 95), (0, u "com/example/bunko/bunko/format/ElementaryStream")] 33

/-- com/example/bunko/bunko/format/ElementaryStream$Codec -/
def k7 : Class := { plain "com/example/bunko/bunko/format/ElementaryStream$Codec" (some 6) with
  accessFlags := 16432
  interfaces := #[]
  cf := some (fileOf pool7 1 #[.nestHost 94] #[] 16432 26 #[] #[{ accessFlags := 16409, nameIndex := 5, descriptorIndex := 6, attributes := #[] }, { accessFlags := 16409, nameIndex := 9, descriptorIndex := 6, attributes := #[] }, { accessFlags := 16409, nameIndex := 12, descriptorIndex := 6, attributes := #[] }, { accessFlags := 16409, nameIndex := 15, descriptorIndex := 6, attributes := #[] }, { accessFlags := 18, nameIndex := 37, descriptorIndex := 38, attributes := #[] }, { accessFlags := 18, nameIndex := 41, descriptorIndex := 42, attributes := #[] }, { accessFlags := 18, nameIndex := 45, descriptorIndex := 46, attributes := #[] }, { accessFlags := 4122, nameIndex := 18, descriptorIndex := 19, attributes := #[] }])
  fields := #[{ name := "MPEG_VIDEO", type := (.object "com/example/bunko/bunko/format/ElementaryStream$Codec"), accessFlags := 16409, slot := 0, constantValue := 0 }, { name := "H264", type := (.object "com/example/bunko/bunko/format/ElementaryStream$Codec"), accessFlags := 16409, slot := 1, constantValue := 0 }, { name := "MPEG_AUDIO", type := (.object "com/example/bunko/bunko/format/ElementaryStream$Codec"), accessFlags := 16409, slot := 2, constantValue := 0 }, { name := "ADTS", type := (.object "com/example/bunko/bunko/format/ElementaryStream$Codec"), accessFlags := 16409, slot := 3, constantValue := 0 }, { name := "video", type := .boolean, accessFlags := 18, slot := 3, constantValue := 0 }, { name := "reach", type := .int, accessFlags := 18, slot := 4, constantValue := 0 }, { name := "search", type := (.object "com/example/bunko/bunko/format/ElementaryStream$HeaderSearch"), accessFlags := 18, slot := 5, constantValue := 0 }, { name := "$VALUES", type := (.array (.object "com/example/bunko/bunko/format/ElementaryStream$Codec")), accessFlags := 4122, slot := 4, constantValue := 0 }]
  methods := #[]
  instanceTypes := #[(.object "java/lang/String"), .int, .int, .boolean, .int, (.object "com/example/bunko/bunko/format/ElementaryStream$HeaderSearch")]
  staticTypes := #[(.object "com/example/bunko/bunko/format/ElementaryStream$Codec"), (.object "com/example/bunko/bunko/format/ElementaryStream$Codec"), (.object "com/example/bunko/bunko/format/ElementaryStream$Codec"), (.object "com/example/bunko/bunko/format/ElementaryStream$Codec"), (.array (.object "com/example/bunko/bunko/format/ElementaryStream$Codec"))]
  resolved := Array.replicate 129 none
  statics := some 0 }

def pool8 : Array CpInfo := pool [(1, u "java/lang/Cloneable"), (0, .class_ 1), (0, u "java/lang/Object"), (0, .class_ 3)] 3

/-- java/lang/Cloneable -/
def k8 : Class := { plain "java/lang/Cloneable" (some 0) with
  accessFlags := 1537
  interfaces := #[]
  cf := some (fileOf pool8 2 #[] #[] 1537 4 #[] #[])
  fields := #[]
  methods := #[]
  instanceTypes := #[]
  staticTypes := #[]
  resolved := Array.replicate 8 none
  statics := none }

/-- the primitive byte -/
def k9 : Class := { plain "byte" none with kind := .primitive 'B', accessFlags := 0x411 }
/-- [B -/
def k10 : Class := { plain "[B" (some 0) with kind := .array 9 .byte, interfaces := #[8, 5], accessFlags := 1041 }

/-- the primitive int -/
def k11 : Class := { plain "int" none with kind := .primitive 'I', accessFlags := 0x411 }
/-- [I -/
def k12 : Class := { plain "[I" (some 0) with kind := .array 11 .int, interfaces := #[8, 5], accessFlags := 1041 }

def heap : Heap := #[{ cls := 7, slots := #[.null, .null, .null, .ref 1, .null], vm := .statics 7 },
  { cls := 7, slots := #[.null, .int 0, .int 0, .int 0, .int 0, .null], vm := .none }]
def classes : Array Class := #[k0, k1, k2, k3, k4, k5, k6, k7, k8, k9, k10, k11, k12]
def interned : List (Array UInt16 × Addr) := []
def slotsUsed : Nat := 11
def theMethod : MethodId := ⟨1, 3⟩
def args0 : Array Value := #[.long 5, .long 6, .long 7, .long 8]
def aboutOver (below : List Frame) : State where
  vm := { classes := classes, interned := interned.toArray }
  heap := heap
  slotsUsed := slotsUsed
  threads := #[{ frames := .invoking theMethod args0 :: below }]
def below0 : List Frame := [.native { method := ⟨0, 0⟩, args := #[] }]
def about1 : State := aboutOver below0
def p0 : Program := .bare "" "" ""
def e0 : Env := launch0.env 0 0 0
theorem w_frames : about1.frames = Frame.invoking theMethod args0 :: below0 := rfl
set_option maxRecDepth 65536 in
theorem w_args : argsFit about1.vm theMethod args0 = true := by decide +kernel
set_option maxRecDepth 65536 in
theorem w_heap : heapFits about1 = true := by decide +kernel
set_option maxRecDepth 65536 in
theorem w_runnable : about1.curStatus? = some .runnable := by decide +kernel
set_option maxRecDepth 65536 in
theorem w_alone : about1.alone = true := by decide +kernel
set_option maxRecDepth 65536 in
theorem w_named : about1.methodNamed? x = some theMethod := by decide +kernel
set_option maxRecDepth 65536 in
theorem w_hears : about1.hears theMethod below0 = true := by decide +kernel
set_option maxRecDepth 65536 in
theorem w_ripe : about1.ripe theMethod args0 below0 = true := by decide +kernel
theorem w_running : about1.status = .running := rfl
set_option maxRecDepth 65536 in
theorem w_room : about1.hasRoom e0.platform room_1 = true :=
  launch0.hasRoom_least _ room_1 (by decide +kernel) (by decide +kernel) (by decide +kernel) (by decide +kernel) (by decide +kernel) (by decide +kernel)
theorem allAtoms_all (ts : List Jvm.Cond) (a : Array Jvm.Value) (st : Jvm.State) : (allAtoms ts).before a st = ts.all (fun c => c.before a st) := by
  induction ts with
  | nil => rfl
  | cons c t ih =>
    show (Jvm.Cond.and c (allAtoms t)).before a st = _
    rw [Jvm.Cond.before_and, ih, List.all_cons]
def words1 : List Jvm.Cond := Jvm.Cond.code x code maxLocals ret :: tables_1
/-- a 'code' word, met by the world's own term for the bytes: nothing is compared byte by byte -/
theorem code_word {y : MethodName} {bytes : ByteArray} {mx : Nat} {rt : Option FieldType} {a : Array Value} {s : State} {m : MethodId} {meth : Method} {c : Code} (h1 : s.methodNamed? y = some m) (h2 : s.vm.method? m = some meth) (h3 : meth.code = some c) (h4 : c.code = bytes)
    (h5 : (c.maxLocals == mx && c.exceptionTable.isEmpty && decide (c.maxStack ≤ mostOperands) && decide (meth.sig.returnType = rt) && !meth.locks && decide (parseMethodDescriptor y.desc = some meth.sig)) = true) : (Jvm.Cond.code y bytes mx rt).before a s = true := by
  simp only [Bool.and_eq_true, beq_iff_eq, Bool.not_eq_true', decide_eq_true_eq] at h5
  obtain ⟨⟨⟨⟨⟨g1, g2⟩, g3⟩, g4⟩, g5⟩, g6⟩ := h5
  simp [Cond.before, Cond.holds, Cond.value, h1, h2, h3, h4, g1, g2, g3, g4, g5, g6]
def isCode : Jvm.Cond → Bool
  | .code _ _ _ _ => true
  | _ => false
theorem all_split {L : List Jvm.Cond} {P : Jvm.Cond → Bool} (h1 : L.all (fun c => isCode c || P c) = true) (h2 : ∀ c ∈ L.filter isCode, P c = true) : L.all P = true := by
  refine List.all_eq_true.mpr fun c hc => ?_
  have h := List.all_eq_true.mp h1 c hc
  rcases Bool.eq_false_or_eq_true (isCode c) with hi | hi
  · exact h2 c (List.mem_filter.mpr ⟨hc, hi⟩)
  · simpa [hi] using h
set_option maxRecDepth 65536 in
theorem w_c0 : (Jvm.Cond.code x code maxLocals ret).before args0 about1 = true := code_word (m := ⟨1, 3⟩) (meth := k1m3) (c := k1c3) (by decide +kernel) rfl rfl rfl (by decide +kernel)
set_option maxRecDepth 65536 in
theorem w_c1 : (Jvm.Cond.code ({ cls := "com/example/bunko/bunko/format/ElementaryStreamSetFramePinLaw", name := "rate", desc := "(J)J" } : Jvm.MethodName) method_2_code (2 : Nat) (Option.some Jvm.ClassFile.FieldType.long)).before args0 about1 = true := code_word (m := ⟨1, 1⟩) (meth := k1m1) (c := k1c1) (by decide +kernel) rfl rfl rfl (by decide +kernel)
set_option maxRecDepth 65536 in
theorem w_c2 : (Jvm.Cond.code ({ cls := "com/example/bunko/bunko/format/ElementaryStream", name := "<init>", desc := "(Lcom/example/bunko/bunko/format/ElementaryStream$Codec;Z)V" } : Jvm.MethodName) prog_33_method_1_code (3 : Nat) (Option.none : Option Jvm.ClassFile.FieldType)).before args0 about1 = true := code_word (m := ⟨2, 0⟩) (meth := k2m0) (c := k2c0) (by decide +kernel) rfl rfl rfl (by decide +kernel)
set_option maxRecDepth 65536 in
theorem w_c3 : (Jvm.Cond.code ({ cls := "java/lang/Object", name := "<init>", desc := "()V" } : Jvm.MethodName) object_method_1_code (1 : Nat) (Option.none : Option Jvm.ClassFile.FieldType)).before args0 about1 = true := code_word (m := ⟨0, 0⟩) (meth := k0m0) (c := k0c0) (by decide +kernel) rfl rfl rfl (by decide +kernel)
set_option maxRecDepth 65536 in
theorem w_c4 : (Jvm.Cond.code ({ cls := "com/example/bunko/bunko/format/ElementaryStream", name := "setFrame", desc := "(JJ)V" } : Jvm.MethodName) prog_33_method_6_code (5 : Nat) (Option.none : Option Jvm.ClassFile.FieldType)).before args0 about1 = true := code_word (m := ⟨2, 1⟩) (meth := k2m1) (c := k2c1) (by decide +kernel) rfl rfl rfl (by decide +kernel)
set_option maxRecDepth 65536 in
theorem w_c5 : (Jvm.Cond.code ({ cls := "com/example/bunko/bunko/format/ElementaryStream", name := "frameTicks", desc := "()J" } : Jvm.MethodName) prog_33_method_7_code (1 : Nat) (Option.some Jvm.ClassFile.FieldType.long)).before args0 about1 = true := code_word (m := ⟨2, 2⟩) (meth := k2m2) (c := k2c2) (by decide +kernel) rfl rfl rfl (by decide +kernel)
set_option maxRecDepth 65536 in
theorem w_c6 : (Jvm.Cond.code ({ cls := "com/example/bunko/bunko/format/ElementaryStreamSetFramePinLaw", name := "ref", desc := "(JJ)J" } : Jvm.MethodName) method_3_code (10 : Nat) (Option.some Jvm.ClassFile.FieldType.long)).before args0 about1 = true := code_word (m := ⟨1, 2⟩) (meth := k1m2) (c := k1c2) (by decide +kernel) rfl rfl rfl (by decide +kernel)
set_option maxRecDepth 65536 in
theorem w_c7 : (Jvm.Cond.code ({ cls := "com/example/bunko/bunko/format/ElementaryStream", name := "latest", desc := "()J" } : Jvm.MethodName) prog_33_method_9_code (1 : Nat) (Option.some Jvm.ClassFile.FieldType.long)).before args0 about1 = true := code_word (m := ⟨2, 3⟩) (meth := k2m3) (c := k2c3) (by decide +kernel) rfl rfl rfl (by decide +kernel)
def codes1 : List Jvm.Cond := [Jvm.Cond.code x code maxLocals ret, Jvm.Cond.code ({ cls := "com/example/bunko/bunko/format/ElementaryStreamSetFramePinLaw", name := "rate", desc := "(J)J" } : Jvm.MethodName) method_2_code (2 : Nat) (Option.some Jvm.ClassFile.FieldType.long), Jvm.Cond.code ({ cls := "com/example/bunko/bunko/format/ElementaryStream", name := "<init>", desc := "(Lcom/example/bunko/bunko/format/ElementaryStream$Codec;Z)V" } : Jvm.MethodName) prog_33_method_1_code (3 : Nat) (Option.none : Option Jvm.ClassFile.FieldType), Jvm.Cond.code ({ cls := "java/lang/Object", name := "<init>", desc := "()V" } : Jvm.MethodName) object_method_1_code (1 : Nat) (Option.none : Option Jvm.ClassFile.FieldType), Jvm.Cond.code ({ cls := "com/example/bunko/bunko/format/ElementaryStream", name := "setFrame", desc := "(JJ)V" } : Jvm.MethodName) prog_33_method_6_code (5 : Nat) (Option.none : Option Jvm.ClassFile.FieldType), Jvm.Cond.code ({ cls := "com/example/bunko/bunko/format/ElementaryStream", name := "frameTicks", desc := "()J" } : Jvm.MethodName) prog_33_method_7_code (1 : Nat) (Option.some Jvm.ClassFile.FieldType.long), Jvm.Cond.code ({ cls := "com/example/bunko/bunko/format/ElementaryStreamSetFramePinLaw", name := "ref", desc := "(JJ)J" } : Jvm.MethodName) method_3_code (10 : Nat) (Option.some Jvm.ClassFile.FieldType.long), Jvm.Cond.code ({ cls := "com/example/bunko/bunko/format/ElementaryStream", name := "latest", desc := "()J" } : Jvm.MethodName) prog_33_method_9_code (1 : Nat) (Option.some Jvm.ClassFile.FieldType.long)]
set_option maxRecDepth 65536 in
theorem codes_eq : words1.filter isCode = codes1 := rfl
theorem w_codes : ∀ c ∈ words1.filter isCode, c.before args0 about1 = true := by
  rw [codes_eq]
  intro c hc
  simp only [codes1, List.mem_cons, List.not_mem_nil, or_false] at hc
  rcases hc with rfl | rfl | rfl | rfl | rfl | rfl | rfl | rfl
  · exact w_c0
  · exact w_c1
  · exact w_c2
  · exact w_c3
  · exact w_c4
  · exact w_c5
  · exact w_c6
  · exact w_c7
set_option maxRecDepth 65536 in
theorem w_t1 : (words1.take 24).all (fun c => isCode c || c.before args0 about1) = true := by decide +kernel
set_option maxRecDepth 65536 in
theorem w_t2 : ((words1.drop 24).take 24).all (fun c => isCode c || c.before args0 about1) = true := by decide +kernel
set_option maxRecDepth 65536 in
theorem w_t3 : ((words1.drop 24).drop 24).all (fun c => isCode c || c.before args0 about1) = true := by decide +kernel
theorem w_tables : (allAtoms (Jvm.Cond.code x code maxLocals ret :: tables_1)).before args0 about1 = true := by
  rw [allAtoms_all]
  show words1.all (fun c => c.before args0 about1) = true
  refine all_split ?_ w_codes
  rw [← List.take_append_drop 24 words1, List.all_append, w_t1, ← List.take_append_drop 24 (words1.drop 24), List.all_append, w_t2, w_t3]
  rfl
set_option maxRecDepth 65536 in
theorem w_case : (Jvm.Cond.and given_1 narrow_1).before args0 about1 = true := by decide +kernel
theorem w_applies : (headSpec (Jvm.Cond.code x code maxLocals ret :: tables_1) room_1).applies x e0.platform about1 = true :=
  (Spec.applies_iff w_frames).mpr ⟨w_running, w_runnable, w_alone, w_named, w_hears, w_ripe, w_room, w_tables⟩
theorem atStart : AtStart classFile x code maxLocals ret World_1 tables_1 room_1 Calls_1 rest_1 Pre_1 launch0 p0 e0 about1 theMethod args0 below0 :=
  ⟨lists_1, trivial, launch0.admits_env _ _ _, launch0.least_env, fairChoices_fair.cas, fairChoices_fair.clock, w_frames, w_args, w_heap, w_applies, trivial, trivial, w_case⟩
end start1
theorem witness_1 : WitnessClaimed_1 := ⟨start1.p0, start1.e0, start1.about1, start1.theMethod, start1.args0, start1.below0, start1.atStart⟩
end Jvm.Pilot.@@N@@
