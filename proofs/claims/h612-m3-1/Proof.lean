import JvmDerived
import JvmDerived.Pilot.@@N@@Statement
import JvmDerived.Pilot.@@N@@Code
set_option linter.unusedVariables false
set_option linter.unusedSimpArgs false
namespace Jvm.Pilot.@@N@@
open Jvm Jvm.ClassFile Sem Op Lib Jvm.Free Jvm.Stand Jvm.LawKit Jvm.RoadKit Bundle Jvm.Pilot.@@N@@.Jvm.D
section OwnLayer
variable {p : Program} {l : Launch} {e : Env} {R : Room} {s : State} {m : MethodId} {args : Array Value} {below : List Frame} {meth : Method} {c : Code} {T T' : State} {locs : List Loc} {cells slots : Nat} {Z : State} {h h' : Heap}
/-- from T at the frame g the body runs to its end, and the end is as Q says -/
def own_Go (p : Program) (e : Env) (below : List Frame) (s : State) (Q : Option Value → Heap → List Loc → Prop) (k n : Nat) (T : State) (g : JFrame) : Prop :=
  ∃ s₂ o, Steps p.tables e below (T.setTop g) s₂ ∧ s₂.status = .running ∧ Ended s₂ below o ∧ ∃ v L, o = .returned v ∧ Q v s₂.heap L ∧ FrameEnd s o s₂ L k n
theorem own_st {Q : Option Value → Heap → List Loc → Prop} {k n : Nat} {g g' : JFrame} (st : ∀ t, Steps p.tables e below (T'.setTop g') t → Steps p.tables e below (T.setTop g) t) (G : own_Go p e below s Q k n T' g') : own_Go p e below s Q k n T g := by
  obtain ⟨s₂, o, h1, h2⟩ := G
  exact ⟨s₂, o, st _ h1, h2⟩
theorem own_tr {Q : Option Value → Heap → List Loc → Prop} {k n : Nat} {g g' : JFrame} (st : Steps p.tables e below (T.setTop g) (T'.setTop g')) (G : own_Go p e below s Q k n T' g') : own_Go p e below s Q k n T g :=
  own_st (fun _ q => st.trans q) G
theorem own_nm {α : Type} {Q : Option Value → Heap → List Loc → Prop} {k n : Nat} {f : α → JFrame} (v : α) (G : ∀ z, z = v → own_Go p e below s Q k n T (f z)) : own_Go p e below s Q k n T (f v) := G v rfl
theorem own_ret {Q : Option Value → Heap → List Loc → Prop} {k n : Nat} (X : Stand p l e R s m args below meth c T locs cells slots) (hx : p.tables.exec = Jvm.exec) {pc : Nat} {Ls : Array Slot} {w : Value} {t : FieldType} {i : Instr} {rest : List Value} (hret : meth.sig.returnType = some t) (hlk : meth.locks = false) (hn : narrow t w = w)
    (hi : (i = .ireturn ∧ (t = .int ∨ t = .boolean ∨ t = .byte ∨ t = .char ∨ t = .short) ∧ ∃ z, w = .int z) ∨ (i = .lreturn ∧ t = .long ∧ ∃ z, w = .long z) ∨ (i = .dreturn ∧ t = .double ∧ ∃ z, w = .double z) ∨ (i = .freturn ∧ t = .float ∧ ∃ z, w = .float z) ∨ (i = .areturn ∧ t.isReference = true ∧ w.isRef = true))
    (hd : decode c.code pc = .ok (i, 1)) (eT : T.heap = h) (hk : cells ≤ k) (hl : slots ≤ n) (hq : Q (some w) h locs) : own_Go p e below s Q k n T (mkF m pc Ls (w :: rest)) := by
  obtain ⟨fs, hr, hrun, hended, hW, hsame⟩ := X.leave (v := some w) (fun q => by rw [hret] at q; cases q) hlk
  exact ⟨_, _, retOut X hx hret hn hi hd hr, hrun, hended, _, _, rfl, by show Q (some w) T.heap locs; rw [eT]; exact hq, ⟨_, rfl⟩, hW, hsame.mono hk hl⟩
theorem own_ret0 {Q : Option Value → Heap → List Loc → Prop} {k n : Nat} (X : Stand p l e R s m args below meth c T locs cells slots) (hx : p.tables.exec = Jvm.exec) {pc : Nat} {Ls : Array Slot} (hret : meth.sig.returnType = none) (hlk : meth.locks = false)
    (hd : decode c.code pc = .ok (.return_, 1)) (eT : T.heap = h) (hk : cells ≤ k) (hl : slots ≤ n) (hq : Q none h locs) : own_Go p e below s Q k n T (mkF m pc Ls []) := by
  obtain ⟨fs, hr, hrun, hended, hW, hsame⟩ := X.leave (v := none) (fun _ => rfl) hlk
  exact ⟨_, _, X.returnOut hx hret hd hr, hrun, hended, _, _, rfl, by show Q none T.heap locs; rw [eT]; exact hq, ⟨_, rfl⟩, hW, hsame.mono hk hl⟩
theorem own_cat {v : Value} (q : v.isRef = true) : v.category = 1 := by cases v <;> first | rfl | cases q
theorem own_Ins_keep {a : Addr} {C : String} {b : Bool} {ws : List Addr} (F : Ins Z h a C b) (K : Keep h h' ws) : Ins Z h' a C b := by
  obtain ⟨cell, cT, h1, h2, h3⟩ := F
  obtain ⟨c', q1, q2, q3, -⟩ := K.2.2 _ _ h1
  exact ⟨c', cT, q1, h2, by rw [q2, q3]; exact h3⟩
end OwnLayer
theorem own_ltlt {x y : Int64} (h : x < y) : ifCond.holds .lt (lcmpW x y) = true ∧ ifCond.holds .ge (lcmpW x y) = false ∧ ifCond.holds .gt (lcmpW y x) = true ∧ ifCond.holds .le (lcmpW y x) = false := by
  have a : lcmpW x y < 0 := (lw_lt x y).mpr h
  have b : 0 < lcmpW y x := (lw_gt y x).mpr h
  exact ⟨(if0 _ _).trans (tlt a).1, (if0 _ _).trans (tlt a).2.1, (if0 _ _).trans (tlt b).2.2.1, (if0 _ _).trans (tlt b).2.2.2⟩
theorem own_lflt {x y : Int64} (h : ¬ x < y) : ifCond.holds .lt (lcmpW x y) = false ∧ ifCond.holds .ge (lcmpW x y) = true ∧ ifCond.holds .gt (lcmpW y x) = false ∧ ifCond.holds .le (lcmpW y x) = true := by
  have a : ¬ lcmpW x y < 0 := fun q => h ((lw_lt x y).mp q)
  have b : ¬ 0 < lcmpW y x := fun q => h ((lw_gt y x).mp q)
  exact ⟨(if0 _ _).trans (flt a).1, (if0 _ _).trans (flt a).2.1, (if0 _ _).trans (flt b).2.2.1, (if0 _ _).trans (flt b).2.2.2⟩
theorem own_lteq {x y : Int64} (h : x = y) : ifCond.holds .eq (lcmpW x y) = true ∧ ifCond.holds .ne (lcmpW x y) = false := by
  have a : lcmpW x y = 0 := (lw_eq x y).mpr h
  exact ⟨(if0 _ _).trans (teq a).1, (if0 _ _).trans (teq a).2⟩
theorem own_lfeq {x y : Int64} (h : ¬ x = y) : ifCond.holds .eq (lcmpW x y) = false ∧ ifCond.holds .ne (lcmpW x y) = true := by
  have a : ¬ lcmpW x y = 0 := fun q => h ((lw_eq x y).mp q)
  exact ⟨(if0 _ _).trans (feq a).1, (if0 _ _).trans (feq a).2⟩
theorem own_ifc {α : Type} {P Q : Prop} [Decidable P] [Decidable Q] {x y : α} (h : P ↔ Q) : (if P then x else y) = if Q then x else y := by
  by_cases q : P
  · rw [if_pos q, if_pos (h.mp q)]
  · rw [if_neg q, if_neg (fun r => q (h.mpr r))]
def own_ush (x : Int64) (k : Int32) : Int64 := ((x.toUInt64 >>> (k &&& 0x3f).toInt64.toUInt64).toInt64)
def own_mix1 (z : Int64) : Int64 := (z ^^^ own_ush z (30 : Int32)) * (-4658895280553007687 : Int64)
def own_mix2 (z : Int64) : Int64 := (z ^^^ own_ush z (27 : Int32)) * (-7723592293110705685 : Int64)
def own_mix3 (z : Int64) : Int64 := z ^^^ own_ush z (31 : Int32)
def own_mix (z : Int64) : Int64 := own_mix3 (own_mix2 (own_mix1 z))
def own_nw (m x : Int64) : Int64 := x * ((2 : Int64) - m * x)
def own_inv (m : Int64) : Int64 := own_nw m (own_nw m (own_nw m (own_nw m (own_nw m m))))
def own_un3 (y : Int64) : Int64 := (y ^^^ own_ush y (31 : Int32)) ^^^ own_ush y (62 : Int32)
def own_un2 (y : Int64) : Int64 := ((y * own_inv (-7723592293110705685 : Int64)) ^^^ own_ush (y * own_inv (-7723592293110705685 : Int64)) (27 : Int32)) ^^^ own_ush (y * own_inv (-7723592293110705685 : Int64)) (54 : Int32)
def own_un1 (y : Int64) : Int64 := ((y * own_inv (-4658895280553007687 : Int64)) ^^^ own_ush (y * own_inv (-4658895280553007687 : Int64)) (30 : Int32)) ^^^ own_ush (y * own_inv (-4658895280553007687 : Int64)) (60 : Int32)
def own_unmix (y : Int64) : Int64 := own_un1 (own_un2 (own_un3 y))
theorem own_ush_bv (x : Int64) (k : Int32) (j : Nat) (hj : (k &&& 0x3f).toInt64.toUInt64.toBitVec.toNat % 64 = j) : (own_ush x k).toBitVec = x.toBitVec >>> j := by
  show (x.toUInt64 >>> (k &&& 0x3f).toInt64.toUInt64).toBitVec = _
  rw [UInt64.toBitVec_shiftRight]
  show x.toBitVec >>> ((k &&& 0x3f).toInt64.toUInt64.toBitVec % 64) = _
  rw [BitVec.ushiftRight_eq', BitVec.toNat_umod]
  exact congrArg _ hj
theorem own_xs (z : BitVec 64) (j k : Nat) (hk : k = 2 * j) (h3 : 64 ≤ 3 * j) : ((z ^^^ z >>> j) ^^^ (z ^^^ z >>> j) >>> j) ^^^ (z ^^^ z >>> j) >>> k = z := by
  subst hk
  apply BitVec.eq_of_getLsbD_eq
  intro i hi
  simp only [BitVec.getLsbD_xor, BitVec.getLsbD_ushiftRight]
  have a : z.getLsbD (j + (2 * j + i)) = false := BitVec.getLsbD_of_ge _ _ (by omega)
  have b : j + (j + i) = 2 * j + i := by omega
  rw [a, b]
  cases z.getLsbD i <;> cases z.getLsbD (j + i) <;> cases z.getLsbD (2 * j + i) <;> rfl
theorem own_xs64 (z : Int64) (a b : Int32) (j k : Nat) (ha : (a &&& 0x3f).toInt64.toUInt64.toBitVec.toNat % 64 = j) (hb : (b &&& 0x3f).toInt64.toUInt64.toBitVec.toNat % 64 = k) (hk : k = 2 * j) (h3 : 64 ≤ 3 * j) :
    ((z ^^^ own_ush z a) ^^^ own_ush (z ^^^ own_ush z a) a) ^^^ own_ush (z ^^^ own_ush z a) b = z := by
  apply Int64.toBitVec_inj.mp
  simp only [Int64.toBitVec_xor, own_ush_bv _ a j ha, own_ush_bv _ b k hb]
  exact own_xs z.toBitVec j k hk h3
theorem own_mi (z a b : Int64) (h : a * b = 1) : (z * a) * b = z := by rw [Int64.mul_assoc, h, Int64.mul_one]
theorem own_u3 (z : Int64) : own_un3 (own_mix3 z) = z := own_xs64 z 31 62 31 62 (by decide +kernel) (by decide +kernel) rfl (by decide)
theorem own_u2 (z : Int64) : own_un2 (own_mix2 z) = z := by
  unfold own_un2 own_mix2
  rw [own_mi _ _ _ (by decide +kernel)]
  exact own_xs64 z 27 54 27 54 (by decide +kernel) (by decide +kernel) rfl (by decide)
theorem own_u1 (z : Int64) : own_un1 (own_mix1 z) = z := by
  unfold own_un1 own_mix1
  rw [own_mi _ _ _ (by decide +kernel)]
  exact own_xs64 z 30 60 30 60 (by decide +kernel) (by decide +kernel) rfl (by decide)
theorem own_un (z : Int64) : own_unmix (own_mix z) = z := by
  unfold own_unmix own_mix
  rw [own_u3, own_u2, own_u1]
theorem own_pn0 : plainName "com/example/settlewright/settlewright/SplitMix64" = true := by first | (simp [plainName, overriddenIn]; done) | decide +kernel
theorem own_d_prog_82_m1_0 : decode prog_82_method_1_code 0 = .ok (.aload_n 0, 1) := by decide +kernel
theorem own_d_prog_82_m1_1 : decode prog_82_method_1_code 1 = .ok (.invokespecial 1, 3) := by decide +kernel
theorem own_d_prog_82_m1_4 : decode prog_82_method_1_code 4 = .ok (.aload_n 0, 1) := by decide +kernel
theorem own_d_prog_82_m1_5 : decode prog_82_method_1_code 5 = .ok (.lload_n 1, 1) := by decide +kernel
theorem own_d_prog_82_m1_6 : decode prog_82_method_1_code 6 = .ok (.putfield 7, 3) := by decide +kernel
theorem own_d_prog_82_m1_9 : decode prog_82_method_1_code 9 = .ok (.return_, 1) := by decide +kernel
theorem own_d_prog_82_m2_0 : decode prog_82_method_2_code 0 = .ok (.aload_n 0, 1) := by decide +kernel
theorem own_d_prog_82_m2_1 : decode prog_82_method_2_code 1 = .ok (.dup, 1) := by decide +kernel
theorem own_d_prog_82_m2_2 : decode prog_82_method_2_code 2 = .ok (.getfield 7, 3) := by decide +kernel
theorem own_d_prog_82_m2_5 : decode prog_82_method_2_code 5 = .ok (.ldc2_w 13, 3) := by decide +kernel
theorem own_d_prog_82_m2_8 : decode prog_82_method_2_code 8 = .ok (.ladd, 1) := by decide +kernel
theorem own_d_prog_82_m2_9 : decode prog_82_method_2_code 9 = .ok (.putfield 7, 3) := by decide +kernel
theorem own_d_prog_82_m2_12 : decode prog_82_method_2_code 12 = .ok (.aload_n 0, 1) := by decide +kernel
theorem own_d_prog_82_m2_13 : decode prog_82_method_2_code 13 = .ok (.getfield 7, 3) := by decide +kernel
theorem own_d_prog_82_m2_16 : decode prog_82_method_2_code 16 = .ok (.lstore_n 1, 1) := by decide +kernel
theorem own_d_prog_82_m2_17 : decode prog_82_method_2_code 17 = .ok (.lload_n 1, 1) := by decide +kernel
theorem own_d_prog_82_m2_18 : decode prog_82_method_2_code 18 = .ok (.lload_n 1, 1) := by decide +kernel
theorem own_d_prog_82_m2_19 : decode prog_82_method_2_code 19 = .ok (.bipush 30, 2) := by decide +kernel
theorem own_d_prog_82_m2_21 : decode prog_82_method_2_code 21 = .ok (.lushr, 1) := by decide +kernel
theorem own_d_prog_82_m2_22 : decode prog_82_method_2_code 22 = .ok (.lxor, 1) := by decide +kernel
theorem own_d_prog_82_m2_23 : decode prog_82_method_2_code 23 = .ok (.ldc2_w 15, 3) := by decide +kernel
theorem own_d_prog_82_m2_26 : decode prog_82_method_2_code 26 = .ok (.lmul, 1) := by decide +kernel
theorem own_d_prog_82_m2_27 : decode prog_82_method_2_code 27 = .ok (.lstore_n 1, 1) := by decide +kernel
theorem own_d_prog_82_m2_28 : decode prog_82_method_2_code 28 = .ok (.lload_n 1, 1) := by decide +kernel
theorem own_d_prog_82_m2_29 : decode prog_82_method_2_code 29 = .ok (.lload_n 1, 1) := by decide +kernel
theorem own_d_prog_82_m2_30 : decode prog_82_method_2_code 30 = .ok (.bipush 27, 2) := by decide +kernel
theorem own_d_prog_82_m2_32 : decode prog_82_method_2_code 32 = .ok (.lushr, 1) := by decide +kernel
theorem own_d_prog_82_m2_33 : decode prog_82_method_2_code 33 = .ok (.lxor, 1) := by decide +kernel
theorem own_d_prog_82_m2_34 : decode prog_82_method_2_code 34 = .ok (.ldc2_w 17, 3) := by decide +kernel
theorem own_d_prog_82_m2_37 : decode prog_82_method_2_code 37 = .ok (.lmul, 1) := by decide +kernel
theorem own_d_prog_82_m2_38 : decode prog_82_method_2_code 38 = .ok (.lstore_n 1, 1) := by decide +kernel
theorem own_d_prog_82_m2_39 : decode prog_82_method_2_code 39 = .ok (.lload_n 1, 1) := by decide +kernel
theorem own_d_prog_82_m2_40 : decode prog_82_method_2_code 40 = .ok (.lload_n 1, 1) := by decide +kernel
theorem own_d_prog_82_m2_41 : decode prog_82_method_2_code 41 = .ok (.bipush 31, 2) := by decide +kernel
theorem own_d_prog_82_m2_43 : decode prog_82_method_2_code 43 = .ok (.lushr, 1) := by decide +kernel
theorem own_d_prog_82_m2_44 : decode prog_82_method_2_code 44 = .ok (.lxor, 1) := by decide +kernel
theorem own_d_prog_82_m2_45 : decode prog_82_method_2_code 45 = .ok (.lreturn, 1) := by decide +kernel
theorem own_pn1 : plainName "com/example/settlewright/settlewright/SplitMix64NextPinLaw" = true := by first | (simp [plainName, overriddenIn]; done) | decide +kernel
theorem own_d_m2_0 : decode method_2_code 0 = .ok (.lload_n 0, 1) := by decide +kernel
theorem own_d_m2_1 : decode method_2_code 1 = .ok (.lstore_n 2, 1) := by decide +kernel
theorem own_d_m2_2 : decode method_2_code 2 = .ok (.lload_n 2, 1) := by decide +kernel
theorem own_d_m2_3 : decode method_2_code 3 = .ok (.ldc2_w 7, 3) := by decide +kernel
theorem own_d_m2_6 : decode method_2_code 6 = .ok (.lload_n 0, 1) := by decide +kernel
theorem own_d_m2_7 : decode method_2_code 7 = .ok (.lload_n 2, 1) := by decide +kernel
theorem own_d_m2_8 : decode method_2_code 8 = .ok (.lmul, 1) := by decide +kernel
theorem own_d_m2_9 : decode method_2_code 9 = .ok (.lsub, 1) := by decide +kernel
theorem own_d_m2_10 : decode method_2_code 10 = .ok (.lmul, 1) := by decide +kernel
theorem own_d_m2_11 : decode method_2_code 11 = .ok (.lstore_n 2, 1) := by decide +kernel
theorem own_d_m2_12 : decode method_2_code 12 = .ok (.lload_n 2, 1) := by decide +kernel
theorem own_d_m2_13 : decode method_2_code 13 = .ok (.ldc2_w 7, 3) := by decide +kernel
theorem own_d_m2_16 : decode method_2_code 16 = .ok (.lload_n 0, 1) := by decide +kernel
theorem own_d_m2_17 : decode method_2_code 17 = .ok (.lload_n 2, 1) := by decide +kernel
theorem own_d_m2_18 : decode method_2_code 18 = .ok (.lmul, 1) := by decide +kernel
theorem own_d_m2_19 : decode method_2_code 19 = .ok (.lsub, 1) := by decide +kernel
theorem own_d_m2_20 : decode method_2_code 20 = .ok (.lmul, 1) := by decide +kernel
theorem own_d_m2_21 : decode method_2_code 21 = .ok (.lstore_n 2, 1) := by decide +kernel
theorem own_d_m2_22 : decode method_2_code 22 = .ok (.lload_n 2, 1) := by decide +kernel
theorem own_d_m2_23 : decode method_2_code 23 = .ok (.ldc2_w 7, 3) := by decide +kernel
theorem own_d_m2_26 : decode method_2_code 26 = .ok (.lload_n 0, 1) := by decide +kernel
theorem own_d_m2_27 : decode method_2_code 27 = .ok (.lload_n 2, 1) := by decide +kernel
theorem own_d_m2_28 : decode method_2_code 28 = .ok (.lmul, 1) := by decide +kernel
theorem own_d_m2_29 : decode method_2_code 29 = .ok (.lsub, 1) := by decide +kernel
theorem own_d_m2_30 : decode method_2_code 30 = .ok (.lmul, 1) := by decide +kernel
theorem own_d_m2_31 : decode method_2_code 31 = .ok (.lstore_n 2, 1) := by decide +kernel
theorem own_d_m2_32 : decode method_2_code 32 = .ok (.lload_n 2, 1) := by decide +kernel
theorem own_d_m2_33 : decode method_2_code 33 = .ok (.ldc2_w 7, 3) := by decide +kernel
theorem own_d_m2_36 : decode method_2_code 36 = .ok (.lload_n 0, 1) := by decide +kernel
theorem own_d_m2_37 : decode method_2_code 37 = .ok (.lload_n 2, 1) := by decide +kernel
theorem own_d_m2_38 : decode method_2_code 38 = .ok (.lmul, 1) := by decide +kernel
theorem own_d_m2_39 : decode method_2_code 39 = .ok (.lsub, 1) := by decide +kernel
theorem own_d_m2_40 : decode method_2_code 40 = .ok (.lmul, 1) := by decide +kernel
theorem own_d_m2_41 : decode method_2_code 41 = .ok (.lstore_n 2, 1) := by decide +kernel
theorem own_d_m2_42 : decode method_2_code 42 = .ok (.lload_n 2, 1) := by decide +kernel
theorem own_d_m2_43 : decode method_2_code 43 = .ok (.ldc2_w 7, 3) := by decide +kernel
theorem own_d_m2_46 : decode method_2_code 46 = .ok (.lload_n 0, 1) := by decide +kernel
theorem own_d_m2_47 : decode method_2_code 47 = .ok (.lload_n 2, 1) := by decide +kernel
theorem own_d_m2_48 : decode method_2_code 48 = .ok (.lmul, 1) := by decide +kernel
theorem own_d_m2_49 : decode method_2_code 49 = .ok (.lsub, 1) := by decide +kernel
theorem own_d_m2_50 : decode method_2_code 50 = .ok (.lmul, 1) := by decide +kernel
theorem own_d_m2_51 : decode method_2_code 51 = .ok (.lstore_n 2, 1) := by decide +kernel
theorem own_d_m2_52 : decode method_2_code 52 = .ok (.lload_n 2, 1) := by decide +kernel
theorem own_d_m2_53 : decode method_2_code 53 = .ok (.lreturn, 1) := by decide +kernel
theorem own_d_m3_0 : decode method_3_code 0 = .ok (.lload_n 0, 1) := by decide +kernel
theorem own_d_m3_1 : decode method_3_code 1 = .ok (.lload_n 0, 1) := by decide +kernel
theorem own_d_m3_2 : decode method_3_code 2 = .ok (.bipush 31, 2) := by decide +kernel
theorem own_d_m3_4 : decode method_3_code 4 = .ok (.lushr, 1) := by decide +kernel
theorem own_d_m3_5 : decode method_3_code 5 = .ok (.lxor, 1) := by decide +kernel
theorem own_d_m3_6 : decode method_3_code 6 = .ok (.lload_n 0, 1) := by decide +kernel
theorem own_d_m3_7 : decode method_3_code 7 = .ok (.bipush 62, 2) := by decide +kernel
theorem own_d_m3_9 : decode method_3_code 9 = .ok (.lushr, 1) := by decide +kernel
theorem own_d_m3_10 : decode method_3_code 10 = .ok (.lxor, 1) := by decide +kernel
theorem own_d_m3_11 : decode method_3_code 11 = .ok (.lstore_n 2, 1) := by decide +kernel
theorem own_d_m3_12 : decode method_3_code 12 = .ok (.lload_n 2, 1) := by decide +kernel
theorem own_d_m3_13 : decode method_3_code 13 = .ok (.ldc2_w 9, 3) := by decide +kernel
theorem own_d_m3_16 : decode method_3_code 16 = .ok (.invokestatic 11, 3) := by decide +kernel
theorem own_pd0 : parseMethodDescriptor "(J)J" = some ⟨[.long], some .long⟩ := by decide +kernel
theorem own_d_m3_19 : decode method_3_code 19 = .ok (.lmul, 1) := by decide +kernel
theorem own_d_m3_20 : decode method_3_code 20 = .ok (.lstore_n 2, 1) := by decide +kernel
theorem own_d_m3_21 : decode method_3_code 21 = .ok (.lload_n 2, 1) := by decide +kernel
theorem own_d_m3_22 : decode method_3_code 22 = .ok (.lload_n 2, 1) := by decide +kernel
theorem own_d_m3_23 : decode method_3_code 23 = .ok (.bipush 27, 2) := by decide +kernel
theorem own_d_m3_25 : decode method_3_code 25 = .ok (.lushr, 1) := by decide +kernel
theorem own_d_m3_26 : decode method_3_code 26 = .ok (.lxor, 1) := by decide +kernel
theorem own_d_m3_27 : decode method_3_code 27 = .ok (.lload_n 2, 1) := by decide +kernel
theorem own_d_m3_28 : decode method_3_code 28 = .ok (.bipush 54, 2) := by decide +kernel
theorem own_d_m3_30 : decode method_3_code 30 = .ok (.lushr, 1) := by decide +kernel
theorem own_d_m3_31 : decode method_3_code 31 = .ok (.lxor, 1) := by decide +kernel
theorem own_d_m3_32 : decode method_3_code 32 = .ok (.lstore_n 2, 1) := by decide +kernel
theorem own_d_m3_33 : decode method_3_code 33 = .ok (.lload_n 2, 1) := by decide +kernel
theorem own_d_m3_34 : decode method_3_code 34 = .ok (.ldc2_w 17, 3) := by decide +kernel
theorem own_d_m3_37 : decode method_3_code 37 = .ok (.invokestatic 11, 3) := by decide +kernel
theorem own_d_m3_40 : decode method_3_code 40 = .ok (.lmul, 1) := by decide +kernel
theorem own_d_m3_41 : decode method_3_code 41 = .ok (.lstore_n 2, 1) := by decide +kernel
theorem own_d_m3_42 : decode method_3_code 42 = .ok (.lload_n 2, 1) := by decide +kernel
theorem own_d_m3_43 : decode method_3_code 43 = .ok (.lload_n 2, 1) := by decide +kernel
theorem own_d_m3_44 : decode method_3_code 44 = .ok (.bipush 30, 2) := by decide +kernel
theorem own_d_m3_46 : decode method_3_code 46 = .ok (.lushr, 1) := by decide +kernel
theorem own_d_m3_47 : decode method_3_code 47 = .ok (.lxor, 1) := by decide +kernel
theorem own_d_m3_48 : decode method_3_code 48 = .ok (.lload_n 2, 1) := by decide +kernel
theorem own_d_m3_49 : decode method_3_code 49 = .ok (.bipush 60, 2) := by decide +kernel
theorem own_d_m3_51 : decode method_3_code 51 = .ok (.lushr, 1) := by decide +kernel
theorem own_d_m3_52 : decode method_3_code 52 = .ok (.lxor, 1) := by decide +kernel
theorem own_d_m3_53 : decode method_3_code 53 = .ok (.lreturn, 1) := by decide +kernel
theorem own_pd1 : parseMethodDescriptor "(J)V" = some ⟨[.long], none⟩ := by decide +kernel
theorem own_pd2 : parseMethodDescriptor "()J" = some ⟨[], some .long⟩ := by decide +kernel
def Q_init (Z : State) (a1 : Addr) (q : Int64) (h0 : Heap) (n0 : Nat) (v : Option Value) (h : Heap) (L : List Loc) : Prop := v = none ∧ Fr n0 L ∧ (Keep h0 h [a1]) ∧ (Exa Z h a1 "com/example/settlewright/settlewright/SplitMix64") ∧ (Fld Z h a1 "com/example/settlewright/settlewright/SplitMix64" "state" "J" (.long q))
theorem ef_init (m : MethodId) (x0 : Addr) (x1 : Int64)  : entryFrame m #[(.ref x0), (.long x1)] 3 = mkF m 0 #[.val (.ref x0), .val (.long x1), .second] [] := by first | (simp [entryFrame, mkF, argsToLocals, Value.category]; done) | rfl
set_option maxRecDepth 65536 in
set_option maxHeartbeats 40000000 in
theorem rm_init (l : Launch) (Z : State) (a0 : Array Value) (hw : ∀ d ∈ tables_1, d.before a0 Z = true) (ws : List Jvm.Cond) (a1 : Addr) (q : Int64) (h0 : Heap) (n0 : Nat) (Zs : n0 ≤ h0.size) (E_a1 : Exa Z h0 a1 "com/example/settlewright/settlewright/SplitMix64") (F_a1 : Fld Z h0 a1 "com/example/settlewright/settlewright/SplitMix64" "state" "J" (.long (0 : Int64))) (g_a1 : n0 ≤ a1) :
    MetFree l (⟨"com/example/settlewright/settlewright/SplitMix64", "<init>", "(J)V"⟩ : MethodName) (head1 (Jvm.Cond.code (⟨"com/example/settlewright/settlewright/SplitMix64", "<init>", "(J)V"⟩ : MethodName) prog_82_method_1_code 3 none :: ws) ({ frames := 1, cells := 0, slots := 0, locals := 12 } : Room)) (fun a U => a = #[(.ref a1), (.long q)] ∧ Z.Warmed39 U.vm ∧ U.heap = h0) (fun _ _ _ _ _ => True) (fun _ U o U' => ∃ v L, o = .returned v ∧ (Q_init Z a1 q h0 n0) v U'.heap L ∧ FrameEnd U o U' L ({ frames := 1, cells := 0, slots := 0, locals := 12 } : Room).cells ({ frames := 1, cells := 0, slots := 0, locals := 12 } : Room).slots) := by
  refine MetFree.of_bodySF (plainFor_of_name own_pn0) hisR ?_
  intro p e s m args below meth c s₁ Bd hml0 hP hK
  obtain ⟨rfl, hZ, hh⟩ := hP
  have hx := Bd.exec
  have hby := Bd.bytes
  have hlk := BodyLoose.notSynchronized Bd
  have hret := Bd.returns
  have hml : c.maxLocals = 3 := hml0
  have hown : s.vm.findClass "com/example/settlewright/settlewright/SplitMix64" = some m.cls := findClass_of_methodNamed Bd.named
  have hnm := (name_of_methodNamed Bd.named Bd.method).1
  have X : Stand p l e ({ frames := 1, cells := 0, slots := 0, locals := 12 } : Room) s m #[(.ref a1), (.long q)] below meth c s₁ [] 0 0 := Stand.of_body Bd
  have eT : s₁.heap = h0 := by rw [← hh, Bd.state]; rfl
  have N := Fr.nil n0
  have K0 : Keep h0 h0 [a1] := Keep.refl _ _
  show own_Go p e below s (Q_init Z a1 q h0 n0) ({ frames := 1, cells := 0, slots := 0, locals := 12 } : Room).cells ({ frames := 1, cells := 0, slots := 0, locals := 12 } : Room).slots s₁ (entryFrame m #[(.ref a1), (.long q)] 3)
  rw [ef_init m a1 q]
  refine own_st (T' := s₁) (g' := (mkF m 1 #[.val (.ref a1), .val (.long q), .second] [(.ref a1)])) (fun _ zq => XS.aloadN X.here hx rfl (hb hby own_d_prog_82_m1_0) rfl rfl zq) ?_
  obtain ⟨T1, X1, e1, st1⟩ := initO X hx hZ hown (hw _ (List.mem_of_getElem? (i := 6) rfl)) (hw _ (List.mem_of_getElem? (i := 7) rfl)) (hw _ (List.mem_of_getElem? (i := 8) rfl)) eT (g := (mkF m 1 #[.val (.ref a1), .val (.long q), .second] [(.ref a1)])) rfl (by rw [hml]; rfl) rfl (hb hby own_d_prog_82_m1_1) (by decide) (W := 0) (by show 2 * 0 + _ ≤ _; exact Nat.le_of_eq rfl) (by decide)
  refine own_st (g' := (mkF m 4 #[.val (.ref a1), .val (.long q), .second] [])) st1 ?_
  refine own_st (T' := T1) (g' := (mkF m 5 #[.val (.ref a1), .val (.long q), .second] [(.ref a1)])) (fun _ zq => XS.aloadN X1.here hx rfl (hb hby own_d_prog_82_m1_4) rfl rfl zq) ?_
  refine own_st (T' := T1) (g' := (mkF m 6 #[.val (.ref a1), .val (.long q), .second] [(.long q), (.ref a1)])) (fun _ zq => XS.lloadN X1.here hx rfl (hb hby own_d_prog_82_m1_5) rfl zq) ?_
  obtain ⟨T2, h2, X2, e2, W2, st2⟩ := putF X1 hx hZ hown (host := "") (Or.inl (hw _ (List.mem_of_getElem? (i := 9) rfl))) Via.refl e1 F_a1 E_a1 (Or.inl (hw _ (List.mem_of_getElem? (i := 10) rfl))) (hw _ (List.mem_of_getElem? (i := 1) rfl)) (ty := .long) (by decide) rfl rfl (g := (mkF m 6 #[.val (.ref a1), .val (.long q), .second] [(.long q), (.ref a1)])) rfl rfl (hb hby own_d_prog_82_m1_6)
  replace E_a1 := E_a1.wr W2
  replace F_a1 := F_a1.same W2
  replace Zs := Nat.le_trans Zs (Keep.of_wr W2).1
  replace K0 := K0.wr W2 (Or.inl (List.mem_of_getElem? (i := 0) rfl))
  replace N := Fr.snoc X2 N g_a1
  refine own_st (g' := (mkF m 9 #[.val (.ref a1), .val (.long q), .second] [])) st2 ?_
  exact own_ret0 X2 hx hret hlk (hb hby own_d_prog_82_m1_9) e2 (Nat.le_of_ble_eq_true rfl) (Nat.le_of_ble_eq_true rfl) ⟨rfl, N, K0, E_a1, F_a1⟩
def Q_next (Z : State) (a1 : Addr) (t : Int64) (h0 : Heap) (n0 : Nat) (v : Option Value) (h : Heap) (L : List Loc) : Prop := v = some (.long (own_mix (t + (-7046029254386353131 : Int64)))) ∧ Fr n0 L ∧ (Keep h0 h [a1]) ∧ (Exa Z h a1 "com/example/settlewright/settlewright/SplitMix64") ∧ (Fld Z h a1 "com/example/settlewright/settlewright/SplitMix64" "state" "J" (.long (t + (-7046029254386353131 : Int64))))
theorem ef_next (m : MethodId) (x0 : Addr)  : entryFrame m #[(.ref x0)] 3 = mkF m 0 #[.val (.ref x0), .unset, .unset] [] := by first | (simp [entryFrame, mkF, argsToLocals, Value.category]; done) | rfl
set_option maxRecDepth 65536 in
set_option maxHeartbeats 40000000 in
theorem rm_next (l : Launch) (Z : State) (a0 : Array Value) (hw : ∀ d ∈ tables_1, d.before a0 Z = true) (ws : List Jvm.Cond) (a1 : Addr) (t : Int64) (h0 : Heap) (n0 : Nat) (Zs : n0 ≤ h0.size) (E_a1 : Exa Z h0 a1 "com/example/settlewright/settlewright/SplitMix64") (F_a1 : Fld Z h0 a1 "com/example/settlewright/settlewright/SplitMix64" "state" "J" (.long t)) (g_a1 : n0 ≤ a1) :
    MetFree l (⟨"com/example/settlewright/settlewright/SplitMix64", "next", "()J"⟩ : MethodName) (head1 (Jvm.Cond.code (⟨"com/example/settlewright/settlewright/SplitMix64", "next", "()J"⟩ : MethodName) prog_82_method_2_code 3 (some .long) :: ws) ({ frames := 0, cells := 0, slots := 0, locals := 0 } : Room)) (fun a U => a = #[(.ref a1)] ∧ Z.Warmed39 U.vm ∧ U.heap = h0) (fun _ _ _ _ _ => True) (fun _ U o U' => ∃ v L, o = .returned v ∧ (Q_next Z a1 t h0 n0) v U'.heap L ∧ FrameEnd U o U' L ({ frames := 0, cells := 0, slots := 0, locals := 0 } : Room).cells ({ frames := 0, cells := 0, slots := 0, locals := 0 } : Room).slots) := by
  refine MetFree.of_bodySF (plainFor_of_name own_pn0) hisR ?_
  intro p e s m args below meth c s₁ Bd hml0 hP hK
  obtain ⟨rfl, hZ, hh⟩ := hP
  have hx := Bd.exec
  have hby := Bd.bytes
  have hlk := BodyLoose.notSynchronized Bd
  have hret := Bd.returns
  have hml : c.maxLocals = 3 := hml0
  have hown : s.vm.findClass "com/example/settlewright/settlewright/SplitMix64" = some m.cls := findClass_of_methodNamed Bd.named
  have hnm := (name_of_methodNamed Bd.named Bd.method).1
  have X : Stand p l e ({ frames := 0, cells := 0, slots := 0, locals := 0 } : Room) s m #[(.ref a1)] below meth c s₁ [] 0 0 := Stand.of_body Bd
  have eT : s₁.heap = h0 := by rw [← hh, Bd.state]; rfl
  have N := Fr.nil n0
  have K0 : Keep h0 h0 [a1] := Keep.refl _ _
  show own_Go p e below s (Q_next Z a1 t h0 n0) ({ frames := 0, cells := 0, slots := 0, locals := 0 } : Room).cells ({ frames := 0, cells := 0, slots := 0, locals := 0 } : Room).slots s₁ (entryFrame m #[(.ref a1)] 3)
  rw [ef_next m a1]
  refine own_st (T' := s₁) (g' := (mkF m 1 #[.val (.ref a1), .unset, .unset] [(.ref a1)])) (fun _ zq => XS.aloadN X.here hx rfl (hb hby own_d_prog_82_m2_0) rfl rfl zq) ?_
  refine own_st (T' := s₁) (g' := (mkF m 2 #[.val (.ref a1), .unset, .unset] [(.ref a1), (.ref a1)])) (fun _ zq => XS.dup X.here hx rfl (hb hby own_d_prog_82_m2_1) rfl rfl zq) ?_
  obtain ⟨T3, X3, e3, st3⟩ := getF X hx hZ hown (host := "") (Or.inl (hw _ (List.mem_of_getElem? (i := 9) rfl))) Via.refl eT F_a1 (g := (mkF m 2 #[.val (.ref a1), .unset, .unset] [(.ref a1), (.ref a1)])) rfl rfl (hb hby own_d_prog_82_m2_2)
  refine own_st (g' := (mkF m 5 #[.val (.ref a1), .unset, .unset] [(.long t), (.ref a1)])) st3 ?_
  refine own_st (T' := T3) (g' := (mkF m 8 #[.val (.ref a1), .unset, .unset] [(.long (-7046029254386353131 : Int64)), (.long t), (.ref a1)])) (fun _ zq => X3.ldc2Long hx hown (mvT hZ (hw _ (List.mem_of_getElem? (i := 16) rfl))) (g := (mkF m 5 #[.val (.ref a1), .unset, .unset] [(.long t), (.ref a1)])) rfl (hb hby own_d_prog_82_m2_5) _ zq) ?_
  refine own_st (T' := T3) (g' := (mkF m 9 #[.val (.ref a1), .unset, .unset] [(.long (t + (-7046029254386353131 : Int64))), (.ref a1)])) (fun _ zq => XS.ladd X3.here hx rfl (hb hby own_d_prog_82_m2_8) rfl zq) ?_
  obtain ⟨T4, h4, X4, e4, W4, st4⟩ := putF X3 hx hZ hown (host := "") (Or.inl (hw _ (List.mem_of_getElem? (i := 9) rfl))) Via.refl e3 F_a1 E_a1 (Or.inl (hw _ (List.mem_of_getElem? (i := 10) rfl))) (hw _ (List.mem_of_getElem? (i := 1) rfl)) (ty := .long) (by decide) rfl rfl (g := (mkF m 9 #[.val (.ref a1), .unset, .unset] [(.long (t + (-7046029254386353131 : Int64))), (.ref a1)])) rfl rfl (hb hby own_d_prog_82_m2_9)
  replace E_a1 := E_a1.wr W4
  replace F_a1 := F_a1.same W4
  replace Zs := Nat.le_trans Zs (Keep.of_wr W4).1
  replace K0 := K0.wr W4 (Or.inl (List.mem_of_getElem? (i := 0) rfl))
  replace N := Fr.snoc X4 N g_a1
  refine own_st (g' := (mkF m 12 #[.val (.ref a1), .unset, .unset] [])) st4 ?_
  refine own_st (T' := T4) (g' := (mkF m 13 #[.val (.ref a1), .unset, .unset] [(.ref a1)])) (fun _ zq => XS.aloadN X4.here hx rfl (hb hby own_d_prog_82_m2_12) rfl rfl zq) ?_
  obtain ⟨T5, X5, e5, st5⟩ := getF X4 hx hZ hown (host := "") (Or.inl (hw _ (List.mem_of_getElem? (i := 9) rfl))) Via.refl e4 F_a1 (g := (mkF m 13 #[.val (.ref a1), .unset, .unset] [(.ref a1)])) rfl rfl (hb hby own_d_prog_82_m2_13)
  refine own_st (g' := (mkF m 16 #[.val (.ref a1), .unset, .unset] [(.long (t + (-7046029254386353131 : Int64)))])) st5 ?_
  refine own_nm (f := fun z_ => (mkF m 16 #[.val (.ref a1), .unset, .unset] [(.long z_)])) (t + (-7046029254386353131 : Int64)) (fun z0 hz0 => ?_)
  show own_Go p e below s (Q_next Z a1 t h0 n0) ({ frames := 0, cells := 0, slots := 0, locals := 0 } : Room).cells ({ frames := 0, cells := 0, slots := 0, locals := 0 } : Room).slots T5 (mkF m 16 #[.val (.ref a1), .unset, .unset] [(.long z0)])
  refine own_st (T' := T5) (g' := (mkF m 17 #[.val (.ref a1), .val (.long z0), .second] [])) (fun _ zq => XS.lstoreN X5.here hx rfl (hb hby own_d_prog_82_m2_16) rfl (l' := #[.val (.ref a1), .val (.long z0), .second]) rfl zq) ?_
  refine own_st (T' := T5) (g' := (mkF m 18 #[.val (.ref a1), .val (.long z0), .second] [(.long z0)])) (fun _ zq => XS.lloadN X5.here hx rfl (hb hby own_d_prog_82_m2_17) rfl zq) ?_
  refine own_st (T' := T5) (g' := (mkF m 19 #[.val (.ref a1), .val (.long z0), .second] [(.long z0), (.long z0)])) (fun _ zq => XS.lloadN X5.here hx rfl (hb hby own_d_prog_82_m2_18) rfl zq) ?_
  refine own_st (T' := T5) (g' := (mkF m 21 #[.val (.ref a1), .val (.long z0), .second] [(.int (30 : Int32)), (.long z0), (.long z0)])) (fun _ zq => XS.bipush X5.here hx rfl (hb hby own_d_prog_82_m2_19) zq) ?_
  refine own_st (T' := T5) (g' := (mkF m 22 #[.val (.ref a1), .val (.long z0), .second] [(.long ((z0.toUInt64 >>> ((30 : Int32) &&& 0x3f).toInt64.toUInt64).toInt64)), (.long z0)])) (fun _ zq => XS.lushr X5.here hx rfl (hb hby own_d_prog_82_m2_21) rfl zq) ?_
  refine own_st (T' := T5) (g' := (mkF m 23 #[.val (.ref a1), .val (.long z0), .second] [(.long (z0 ^^^ ((z0.toUInt64 >>> ((30 : Int32) &&& 0x3f).toInt64.toUInt64).toInt64)))])) (fun _ zq => XS.lxor X5.here hx rfl (hb hby own_d_prog_82_m2_22) rfl zq) ?_
  refine own_st (T' := T5) (g' := (mkF m 26 #[.val (.ref a1), .val (.long z0), .second] [(.long (-4658895280553007687 : Int64)), (.long (z0 ^^^ ((z0.toUInt64 >>> ((30 : Int32) &&& 0x3f).toInt64.toUInt64).toInt64)))])) (fun _ zq => X5.ldc2Long hx hown (mvT hZ (hw _ (List.mem_of_getElem? (i := 17) rfl))) (g := (mkF m 23 #[.val (.ref a1), .val (.long z0), .second] [(.long (z0 ^^^ ((z0.toUInt64 >>> ((30 : Int32) &&& 0x3f).toInt64.toUInt64).toInt64)))])) rfl (hb hby own_d_prog_82_m2_23) _ zq) ?_
  refine own_st (T' := T5) (g' := (mkF m 27 #[.val (.ref a1), .val (.long z0), .second] [(.long ((z0 ^^^ ((z0.toUInt64 >>> ((30 : Int32) &&& 0x3f).toInt64.toUInt64).toInt64)) * (-4658895280553007687 : Int64)))])) (fun _ zq => XS.lmul X5.here hx rfl (hb hby own_d_prog_82_m2_26) rfl zq) ?_
  refine own_nm (f := fun z_ => (mkF m 27 #[.val (.ref a1), .val (.long z0), .second] [(.long z_)])) ((z0 ^^^ ((z0.toUInt64 >>> ((30 : Int32) &&& 0x3f).toInt64.toUInt64).toInt64)) * (-4658895280553007687 : Int64)) (fun z1 hz1 => ?_)
  show own_Go p e below s (Q_next Z a1 t h0 n0) ({ frames := 0, cells := 0, slots := 0, locals := 0 } : Room).cells ({ frames := 0, cells := 0, slots := 0, locals := 0 } : Room).slots T5 (mkF m 27 #[.val (.ref a1), .val (.long z0), .second] [(.long z1)])
  refine own_st (T' := T5) (g' := (mkF m 28 #[.val (.ref a1), .val (.long z1), .second] [])) (fun _ zq => XS.lstoreN X5.here hx rfl (hb hby own_d_prog_82_m2_27) rfl (l' := #[.val (.ref a1), .val (.long z1), .second]) rfl zq) ?_
  refine own_st (T' := T5) (g' := (mkF m 29 #[.val (.ref a1), .val (.long z1), .second] [(.long z1)])) (fun _ zq => XS.lloadN X5.here hx rfl (hb hby own_d_prog_82_m2_28) rfl zq) ?_
  refine own_st (T' := T5) (g' := (mkF m 30 #[.val (.ref a1), .val (.long z1), .second] [(.long z1), (.long z1)])) (fun _ zq => XS.lloadN X5.here hx rfl (hb hby own_d_prog_82_m2_29) rfl zq) ?_
  refine own_st (T' := T5) (g' := (mkF m 32 #[.val (.ref a1), .val (.long z1), .second] [(.int (27 : Int32)), (.long z1), (.long z1)])) (fun _ zq => XS.bipush X5.here hx rfl (hb hby own_d_prog_82_m2_30) zq) ?_
  refine own_st (T' := T5) (g' := (mkF m 33 #[.val (.ref a1), .val (.long z1), .second] [(.long ((z1.toUInt64 >>> ((27 : Int32) &&& 0x3f).toInt64.toUInt64).toInt64)), (.long z1)])) (fun _ zq => XS.lushr X5.here hx rfl (hb hby own_d_prog_82_m2_32) rfl zq) ?_
  refine own_st (T' := T5) (g' := (mkF m 34 #[.val (.ref a1), .val (.long z1), .second] [(.long (z1 ^^^ ((z1.toUInt64 >>> ((27 : Int32) &&& 0x3f).toInt64.toUInt64).toInt64)))])) (fun _ zq => XS.lxor X5.here hx rfl (hb hby own_d_prog_82_m2_33) rfl zq) ?_
  refine own_st (T' := T5) (g' := (mkF m 37 #[.val (.ref a1), .val (.long z1), .second] [(.long (-7723592293110705685 : Int64)), (.long (z1 ^^^ ((z1.toUInt64 >>> ((27 : Int32) &&& 0x3f).toInt64.toUInt64).toInt64)))])) (fun _ zq => X5.ldc2Long hx hown (mvT hZ (hw _ (List.mem_of_getElem? (i := 18) rfl))) (g := (mkF m 34 #[.val (.ref a1), .val (.long z1), .second] [(.long (z1 ^^^ ((z1.toUInt64 >>> ((27 : Int32) &&& 0x3f).toInt64.toUInt64).toInt64)))])) rfl (hb hby own_d_prog_82_m2_34) _ zq) ?_
  refine own_st (T' := T5) (g' := (mkF m 38 #[.val (.ref a1), .val (.long z1), .second] [(.long ((z1 ^^^ ((z1.toUInt64 >>> ((27 : Int32) &&& 0x3f).toInt64.toUInt64).toInt64)) * (-7723592293110705685 : Int64)))])) (fun _ zq => XS.lmul X5.here hx rfl (hb hby own_d_prog_82_m2_37) rfl zq) ?_
  refine own_nm (f := fun z_ => (mkF m 38 #[.val (.ref a1), .val (.long z1), .second] [(.long z_)])) ((z1 ^^^ ((z1.toUInt64 >>> ((27 : Int32) &&& 0x3f).toInt64.toUInt64).toInt64)) * (-7723592293110705685 : Int64)) (fun z2 hz2 => ?_)
  show own_Go p e below s (Q_next Z a1 t h0 n0) ({ frames := 0, cells := 0, slots := 0, locals := 0 } : Room).cells ({ frames := 0, cells := 0, slots := 0, locals := 0 } : Room).slots T5 (mkF m 38 #[.val (.ref a1), .val (.long z1), .second] [(.long z2)])
  refine own_st (T' := T5) (g' := (mkF m 39 #[.val (.ref a1), .val (.long z2), .second] [])) (fun _ zq => XS.lstoreN X5.here hx rfl (hb hby own_d_prog_82_m2_38) rfl (l' := #[.val (.ref a1), .val (.long z2), .second]) rfl zq) ?_
  refine own_st (T' := T5) (g' := (mkF m 40 #[.val (.ref a1), .val (.long z2), .second] [(.long z2)])) (fun _ zq => XS.lloadN X5.here hx rfl (hb hby own_d_prog_82_m2_39) rfl zq) ?_
  refine own_st (T' := T5) (g' := (mkF m 41 #[.val (.ref a1), .val (.long z2), .second] [(.long z2), (.long z2)])) (fun _ zq => XS.lloadN X5.here hx rfl (hb hby own_d_prog_82_m2_40) rfl zq) ?_
  refine own_st (T' := T5) (g' := (mkF m 43 #[.val (.ref a1), .val (.long z2), .second] [(.int (31 : Int32)), (.long z2), (.long z2)])) (fun _ zq => XS.bipush X5.here hx rfl (hb hby own_d_prog_82_m2_41) zq) ?_
  refine own_st (T' := T5) (g' := (mkF m 44 #[.val (.ref a1), .val (.long z2), .second] [(.long ((z2.toUInt64 >>> ((31 : Int32) &&& 0x3f).toInt64.toUInt64).toInt64)), (.long z2)])) (fun _ zq => XS.lushr X5.here hx rfl (hb hby own_d_prog_82_m2_43) rfl zq) ?_
  refine own_st (T' := T5) (g' := (mkF m 45 #[.val (.ref a1), .val (.long z2), .second] [(.long (z2 ^^^ ((z2.toUInt64 >>> ((31 : Int32) &&& 0x3f).toInt64.toUInt64).toInt64)))])) (fun _ zq => XS.lxor X5.here hx rfl (hb hby own_d_prog_82_m2_44) rfl zq) ?_
  exact own_ret X5 hx hret hlk (i := .lreturn) rfl (Or.inr (Or.inl ⟨rfl, rfl, _, rfl⟩)) (hb hby own_d_prog_82_m2_45) e5 (Nat.le_of_ble_eq_true rfl) (Nat.le_of_ble_eq_true rfl) ⟨by rw [hz2, hz1, hz0]; rfl, N, K0, E_a1, F_a1⟩
def Q_inverse (Z : State) (q : Int64) (h0 : Heap) (n0 : Nat) (v : Option Value) (h : Heap) (L : List Loc) : Prop := v = some (.long (own_inv q)) ∧ Fr n0 L ∧ (h = h0)
theorem ef_inverse (m : MethodId) (x0 : Int64)  : entryFrame m #[(.long x0)] 4 = mkF m 0 #[.val (.long x0), .second, .unset, .unset] [] := by first | (simp [entryFrame, mkF, argsToLocals, Value.category]; done) | rfl
set_option maxRecDepth 65536 in
set_option maxHeartbeats 40000000 in
theorem rm_inverse (l : Launch) (Z : State) (a0 : Array Value) (hw : ∀ d ∈ tables_1, d.before a0 Z = true) (ws : List Jvm.Cond) (q : Int64) (h0 : Heap) (n0 : Nat) (Zs : n0 ≤ h0.size)  :
    MetFree l (⟨"com/example/settlewright/settlewright/SplitMix64NextPinLaw", "inverse", "(J)J"⟩ : MethodName) (head1 (Jvm.Cond.code (⟨"com/example/settlewright/settlewright/SplitMix64NextPinLaw", "inverse", "(J)J"⟩ : MethodName) method_2_code 4 (some .long) :: ws) ({ frames := 0, cells := 0, slots := 0, locals := 0 } : Room)) (fun a U => a = #[(.long q)] ∧ Z.Warmed39 U.vm ∧ U.heap = h0) (fun _ _ _ _ _ => True) (fun _ U o U' => ∃ v L, o = .returned v ∧ (Q_inverse Z q h0 n0) v U'.heap L ∧ FrameEnd U o U' L ({ frames := 0, cells := 0, slots := 0, locals := 0 } : Room).cells ({ frames := 0, cells := 0, slots := 0, locals := 0 } : Room).slots) := by
  refine MetFree.of_bodySF (plainFor_of_name own_pn1) hisR ?_
  intro p e s m args below meth c s₁ Bd hml0 hP hK
  obtain ⟨rfl, hZ, hh⟩ := hP
  have hx := Bd.exec
  have hby := Bd.bytes
  have hlk := BodyLoose.notSynchronized Bd
  have hret := Bd.returns
  have hml : c.maxLocals = 4 := hml0
  have hown : s.vm.findClass "com/example/settlewright/settlewright/SplitMix64NextPinLaw" = some m.cls := findClass_of_methodNamed Bd.named
  have hnm := (name_of_methodNamed Bd.named Bd.method).1
  have X : Stand p l e ({ frames := 0, cells := 0, slots := 0, locals := 0 } : Room) s m #[(.long q)] below meth c s₁ [] 0 0 := Stand.of_body Bd
  have eT : s₁.heap = h0 := by rw [← hh, Bd.state]; rfl
  have N := Fr.nil n0
  have K0 : Keep h0 h0 [] := Keep.refl _ _
  show own_Go p e below s (Q_inverse Z q h0 n0) ({ frames := 0, cells := 0, slots := 0, locals := 0 } : Room).cells ({ frames := 0, cells := 0, slots := 0, locals := 0 } : Room).slots s₁ (entryFrame m #[(.long q)] 4)
  rw [ef_inverse m q]
  refine own_st (T' := s₁) (g' := (mkF m 1 #[.val (.long q), .second, .unset, .unset] [(.long q)])) (fun _ zq => XS.lloadN X.here hx rfl (hb hby own_d_m2_0) rfl zq) ?_
  refine own_st (T' := s₁) (g' := (mkF m 2 #[.val (.long q), .second, .val (.long q), .second] [])) (fun _ zq => XS.lstoreN X.here hx rfl (hb hby own_d_m2_1) rfl (l' := #[.val (.long q), .second, .val (.long q), .second]) rfl zq) ?_
  refine own_st (T' := s₁) (g' := (mkF m 3 #[.val (.long q), .second, .val (.long q), .second] [(.long q)])) (fun _ zq => XS.lloadN X.here hx rfl (hb hby own_d_m2_2) rfl zq) ?_
  refine own_st (T' := s₁) (g' := (mkF m 6 #[.val (.long q), .second, .val (.long q), .second] [(.long (2 : Int64)), (.long q)])) (fun _ zq => X.ldc2Long hx hown (mvT hZ (hw _ (List.mem_of_getElem? (i := 28) rfl))) (g := (mkF m 3 #[.val (.long q), .second, .val (.long q), .second] [(.long q)])) rfl (hb hby own_d_m2_3) _ zq) ?_
  refine own_st (T' := s₁) (g' := (mkF m 7 #[.val (.long q), .second, .val (.long q), .second] [(.long q), (.long (2 : Int64)), (.long q)])) (fun _ zq => XS.lloadN X.here hx rfl (hb hby own_d_m2_6) rfl zq) ?_
  refine own_st (T' := s₁) (g' := (mkF m 8 #[.val (.long q), .second, .val (.long q), .second] [(.long q), (.long q), (.long (2 : Int64)), (.long q)])) (fun _ zq => XS.lloadN X.here hx rfl (hb hby own_d_m2_7) rfl zq) ?_
  refine own_st (T' := s₁) (g' := (mkF m 9 #[.val (.long q), .second, .val (.long q), .second] [(.long (q * q)), (.long (2 : Int64)), (.long q)])) (fun _ zq => XS.lmul X.here hx rfl (hb hby own_d_m2_8) rfl zq) ?_
  refine own_st (T' := s₁) (g' := (mkF m 10 #[.val (.long q), .second, .val (.long q), .second] [(.long ((2 : Int64) - (q * q))), (.long q)])) (fun _ zq => XS.lsub X.here hx rfl (hb hby own_d_m2_9) rfl zq) ?_
  refine own_st (T' := s₁) (g' := (mkF m 11 #[.val (.long q), .second, .val (.long q), .second] [(.long (q * ((2 : Int64) - (q * q))))])) (fun _ zq => XS.lmul X.here hx rfl (hb hby own_d_m2_10) rfl zq) ?_
  refine own_nm (f := fun z_ => (mkF m 11 #[.val (.long q), .second, .val (.long q), .second] [(.long z_)])) (q * ((2 : Int64) - (q * q))) (fun x1 hx1 => ?_)
  show own_Go p e below s (Q_inverse Z q h0 n0) ({ frames := 0, cells := 0, slots := 0, locals := 0 } : Room).cells ({ frames := 0, cells := 0, slots := 0, locals := 0 } : Room).slots s₁ (mkF m 11 #[.val (.long q), .second, .val (.long q), .second] [(.long x1)])
  refine own_st (T' := s₁) (g' := (mkF m 12 #[.val (.long q), .second, .val (.long x1), .second] [])) (fun _ zq => XS.lstoreN X.here hx rfl (hb hby own_d_m2_11) rfl (l' := #[.val (.long q), .second, .val (.long x1), .second]) rfl zq) ?_
  refine own_st (T' := s₁) (g' := (mkF m 13 #[.val (.long q), .second, .val (.long x1), .second] [(.long x1)])) (fun _ zq => XS.lloadN X.here hx rfl (hb hby own_d_m2_12) rfl zq) ?_
  refine own_st (T' := s₁) (g' := (mkF m 16 #[.val (.long q), .second, .val (.long x1), .second] [(.long (2 : Int64)), (.long x1)])) (fun _ zq => X.ldc2Long hx hown (mvT hZ (hw _ (List.mem_of_getElem? (i := 28) rfl))) (g := (mkF m 13 #[.val (.long q), .second, .val (.long x1), .second] [(.long x1)])) rfl (hb hby own_d_m2_13) _ zq) ?_
  refine own_st (T' := s₁) (g' := (mkF m 17 #[.val (.long q), .second, .val (.long x1), .second] [(.long q), (.long (2 : Int64)), (.long x1)])) (fun _ zq => XS.lloadN X.here hx rfl (hb hby own_d_m2_16) rfl zq) ?_
  refine own_st (T' := s₁) (g' := (mkF m 18 #[.val (.long q), .second, .val (.long x1), .second] [(.long x1), (.long q), (.long (2 : Int64)), (.long x1)])) (fun _ zq => XS.lloadN X.here hx rfl (hb hby own_d_m2_17) rfl zq) ?_
  refine own_st (T' := s₁) (g' := (mkF m 19 #[.val (.long q), .second, .val (.long x1), .second] [(.long (q * x1)), (.long (2 : Int64)), (.long x1)])) (fun _ zq => XS.lmul X.here hx rfl (hb hby own_d_m2_18) rfl zq) ?_
  refine own_st (T' := s₁) (g' := (mkF m 20 #[.val (.long q), .second, .val (.long x1), .second] [(.long ((2 : Int64) - (q * x1))), (.long x1)])) (fun _ zq => XS.lsub X.here hx rfl (hb hby own_d_m2_19) rfl zq) ?_
  refine own_st (T' := s₁) (g' := (mkF m 21 #[.val (.long q), .second, .val (.long x1), .second] [(.long (x1 * ((2 : Int64) - (q * x1))))])) (fun _ zq => XS.lmul X.here hx rfl (hb hby own_d_m2_20) rfl zq) ?_
  refine own_nm (f := fun z_ => (mkF m 21 #[.val (.long q), .second, .val (.long x1), .second] [(.long z_)])) (x1 * ((2 : Int64) - (q * x1))) (fun x2 hx2 => ?_)
  show own_Go p e below s (Q_inverse Z q h0 n0) ({ frames := 0, cells := 0, slots := 0, locals := 0 } : Room).cells ({ frames := 0, cells := 0, slots := 0, locals := 0 } : Room).slots s₁ (mkF m 21 #[.val (.long q), .second, .val (.long x1), .second] [(.long x2)])
  refine own_st (T' := s₁) (g' := (mkF m 22 #[.val (.long q), .second, .val (.long x2), .second] [])) (fun _ zq => XS.lstoreN X.here hx rfl (hb hby own_d_m2_21) rfl (l' := #[.val (.long q), .second, .val (.long x2), .second]) rfl zq) ?_
  refine own_st (T' := s₁) (g' := (mkF m 23 #[.val (.long q), .second, .val (.long x2), .second] [(.long x2)])) (fun _ zq => XS.lloadN X.here hx rfl (hb hby own_d_m2_22) rfl zq) ?_
  refine own_st (T' := s₁) (g' := (mkF m 26 #[.val (.long q), .second, .val (.long x2), .second] [(.long (2 : Int64)), (.long x2)])) (fun _ zq => X.ldc2Long hx hown (mvT hZ (hw _ (List.mem_of_getElem? (i := 28) rfl))) (g := (mkF m 23 #[.val (.long q), .second, .val (.long x2), .second] [(.long x2)])) rfl (hb hby own_d_m2_23) _ zq) ?_
  refine own_st (T' := s₁) (g' := (mkF m 27 #[.val (.long q), .second, .val (.long x2), .second] [(.long q), (.long (2 : Int64)), (.long x2)])) (fun _ zq => XS.lloadN X.here hx rfl (hb hby own_d_m2_26) rfl zq) ?_
  refine own_st (T' := s₁) (g' := (mkF m 28 #[.val (.long q), .second, .val (.long x2), .second] [(.long x2), (.long q), (.long (2 : Int64)), (.long x2)])) (fun _ zq => XS.lloadN X.here hx rfl (hb hby own_d_m2_27) rfl zq) ?_
  refine own_st (T' := s₁) (g' := (mkF m 29 #[.val (.long q), .second, .val (.long x2), .second] [(.long (q * x2)), (.long (2 : Int64)), (.long x2)])) (fun _ zq => XS.lmul X.here hx rfl (hb hby own_d_m2_28) rfl zq) ?_
  refine own_st (T' := s₁) (g' := (mkF m 30 #[.val (.long q), .second, .val (.long x2), .second] [(.long ((2 : Int64) - (q * x2))), (.long x2)])) (fun _ zq => XS.lsub X.here hx rfl (hb hby own_d_m2_29) rfl zq) ?_
  refine own_st (T' := s₁) (g' := (mkF m 31 #[.val (.long q), .second, .val (.long x2), .second] [(.long (x2 * ((2 : Int64) - (q * x2))))])) (fun _ zq => XS.lmul X.here hx rfl (hb hby own_d_m2_30) rfl zq) ?_
  refine own_nm (f := fun z_ => (mkF m 31 #[.val (.long q), .second, .val (.long x2), .second] [(.long z_)])) (x2 * ((2 : Int64) - (q * x2))) (fun x3 hx3 => ?_)
  show own_Go p e below s (Q_inverse Z q h0 n0) ({ frames := 0, cells := 0, slots := 0, locals := 0 } : Room).cells ({ frames := 0, cells := 0, slots := 0, locals := 0 } : Room).slots s₁ (mkF m 31 #[.val (.long q), .second, .val (.long x2), .second] [(.long x3)])
  refine own_st (T' := s₁) (g' := (mkF m 32 #[.val (.long q), .second, .val (.long x3), .second] [])) (fun _ zq => XS.lstoreN X.here hx rfl (hb hby own_d_m2_31) rfl (l' := #[.val (.long q), .second, .val (.long x3), .second]) rfl zq) ?_
  refine own_st (T' := s₁) (g' := (mkF m 33 #[.val (.long q), .second, .val (.long x3), .second] [(.long x3)])) (fun _ zq => XS.lloadN X.here hx rfl (hb hby own_d_m2_32) rfl zq) ?_
  refine own_st (T' := s₁) (g' := (mkF m 36 #[.val (.long q), .second, .val (.long x3), .second] [(.long (2 : Int64)), (.long x3)])) (fun _ zq => X.ldc2Long hx hown (mvT hZ (hw _ (List.mem_of_getElem? (i := 28) rfl))) (g := (mkF m 33 #[.val (.long q), .second, .val (.long x3), .second] [(.long x3)])) rfl (hb hby own_d_m2_33) _ zq) ?_
  refine own_st (T' := s₁) (g' := (mkF m 37 #[.val (.long q), .second, .val (.long x3), .second] [(.long q), (.long (2 : Int64)), (.long x3)])) (fun _ zq => XS.lloadN X.here hx rfl (hb hby own_d_m2_36) rfl zq) ?_
  refine own_st (T' := s₁) (g' := (mkF m 38 #[.val (.long q), .second, .val (.long x3), .second] [(.long x3), (.long q), (.long (2 : Int64)), (.long x3)])) (fun _ zq => XS.lloadN X.here hx rfl (hb hby own_d_m2_37) rfl zq) ?_
  refine own_st (T' := s₁) (g' := (mkF m 39 #[.val (.long q), .second, .val (.long x3), .second] [(.long (q * x3)), (.long (2 : Int64)), (.long x3)])) (fun _ zq => XS.lmul X.here hx rfl (hb hby own_d_m2_38) rfl zq) ?_
  refine own_st (T' := s₁) (g' := (mkF m 40 #[.val (.long q), .second, .val (.long x3), .second] [(.long ((2 : Int64) - (q * x3))), (.long x3)])) (fun _ zq => XS.lsub X.here hx rfl (hb hby own_d_m2_39) rfl zq) ?_
  refine own_st (T' := s₁) (g' := (mkF m 41 #[.val (.long q), .second, .val (.long x3), .second] [(.long (x3 * ((2 : Int64) - (q * x3))))])) (fun _ zq => XS.lmul X.here hx rfl (hb hby own_d_m2_40) rfl zq) ?_
  refine own_nm (f := fun z_ => (mkF m 41 #[.val (.long q), .second, .val (.long x3), .second] [(.long z_)])) (x3 * ((2 : Int64) - (q * x3))) (fun x4 hx4 => ?_)
  show own_Go p e below s (Q_inverse Z q h0 n0) ({ frames := 0, cells := 0, slots := 0, locals := 0 } : Room).cells ({ frames := 0, cells := 0, slots := 0, locals := 0 } : Room).slots s₁ (mkF m 41 #[.val (.long q), .second, .val (.long x3), .second] [(.long x4)])
  refine own_st (T' := s₁) (g' := (mkF m 42 #[.val (.long q), .second, .val (.long x4), .second] [])) (fun _ zq => XS.lstoreN X.here hx rfl (hb hby own_d_m2_41) rfl (l' := #[.val (.long q), .second, .val (.long x4), .second]) rfl zq) ?_
  refine own_st (T' := s₁) (g' := (mkF m 43 #[.val (.long q), .second, .val (.long x4), .second] [(.long x4)])) (fun _ zq => XS.lloadN X.here hx rfl (hb hby own_d_m2_42) rfl zq) ?_
  refine own_st (T' := s₁) (g' := (mkF m 46 #[.val (.long q), .second, .val (.long x4), .second] [(.long (2 : Int64)), (.long x4)])) (fun _ zq => X.ldc2Long hx hown (mvT hZ (hw _ (List.mem_of_getElem? (i := 28) rfl))) (g := (mkF m 43 #[.val (.long q), .second, .val (.long x4), .second] [(.long x4)])) rfl (hb hby own_d_m2_43) _ zq) ?_
  refine own_st (T' := s₁) (g' := (mkF m 47 #[.val (.long q), .second, .val (.long x4), .second] [(.long q), (.long (2 : Int64)), (.long x4)])) (fun _ zq => XS.lloadN X.here hx rfl (hb hby own_d_m2_46) rfl zq) ?_
  refine own_st (T' := s₁) (g' := (mkF m 48 #[.val (.long q), .second, .val (.long x4), .second] [(.long x4), (.long q), (.long (2 : Int64)), (.long x4)])) (fun _ zq => XS.lloadN X.here hx rfl (hb hby own_d_m2_47) rfl zq) ?_
  refine own_st (T' := s₁) (g' := (mkF m 49 #[.val (.long q), .second, .val (.long x4), .second] [(.long (q * x4)), (.long (2 : Int64)), (.long x4)])) (fun _ zq => XS.lmul X.here hx rfl (hb hby own_d_m2_48) rfl zq) ?_
  refine own_st (T' := s₁) (g' := (mkF m 50 #[.val (.long q), .second, .val (.long x4), .second] [(.long ((2 : Int64) - (q * x4))), (.long x4)])) (fun _ zq => XS.lsub X.here hx rfl (hb hby own_d_m2_49) rfl zq) ?_
  refine own_st (T' := s₁) (g' := (mkF m 51 #[.val (.long q), .second, .val (.long x4), .second] [(.long (x4 * ((2 : Int64) - (q * x4))))])) (fun _ zq => XS.lmul X.here hx rfl (hb hby own_d_m2_50) rfl zq) ?_
  refine own_nm (f := fun z_ => (mkF m 51 #[.val (.long q), .second, .val (.long x4), .second] [(.long z_)])) (x4 * ((2 : Int64) - (q * x4))) (fun x5 hx5 => ?_)
  show own_Go p e below s (Q_inverse Z q h0 n0) ({ frames := 0, cells := 0, slots := 0, locals := 0 } : Room).cells ({ frames := 0, cells := 0, slots := 0, locals := 0 } : Room).slots s₁ (mkF m 51 #[.val (.long q), .second, .val (.long x4), .second] [(.long x5)])
  refine own_st (T' := s₁) (g' := (mkF m 52 #[.val (.long q), .second, .val (.long x5), .second] [])) (fun _ zq => XS.lstoreN X.here hx rfl (hb hby own_d_m2_51) rfl (l' := #[.val (.long q), .second, .val (.long x5), .second]) rfl zq) ?_
  refine own_st (T' := s₁) (g' := (mkF m 53 #[.val (.long q), .second, .val (.long x5), .second] [(.long x5)])) (fun _ zq => XS.lloadN X.here hx rfl (hb hby own_d_m2_52) rfl zq) ?_
  exact own_ret X hx hret hlk (i := .lreturn) rfl (Or.inr (Or.inl ⟨rfl, rfl, _, rfl⟩)) (hb hby own_d_m2_53) eT (Nat.le_of_ble_eq_true rfl) (Nat.le_of_ble_eq_true rfl) ⟨by rw [hx5, hx4, hx3, hx2, hx1]; rfl, N, rfl⟩
def Q_unmix (Z : State) (q : Int64) (h0 : Heap) (n0 : Nat) (v : Option Value) (h : Heap) (L : List Loc) : Prop := v = some (.long (own_unmix q)) ∧ Fr n0 L ∧ (h = h0)
theorem ef_unmix (m : MethodId) (x0 : Int64)  : entryFrame m #[(.long x0)] 4 = mkF m 0 #[.val (.long x0), .second, .unset, .unset] [] := by first | (simp [entryFrame, mkF, argsToLocals, Value.category]; done) | rfl
set_option maxRecDepth 65536 in
set_option maxHeartbeats 40000000 in
theorem rm_unmix (l : Launch) (Z : State) (a0 : Array Value) (hw : ∀ d ∈ tables_1, d.before a0 Z = true) (ws : List Jvm.Cond) (q : Int64) (h0 : Heap) (n0 : Nat) (Zs : n0 ≤ h0.size)  :
    MetFree l (⟨"com/example/settlewright/settlewright/SplitMix64NextPinLaw", "unmix", "(J)J"⟩ : MethodName) (head1 (Jvm.Cond.code (⟨"com/example/settlewright/settlewright/SplitMix64NextPinLaw", "unmix", "(J)J"⟩ : MethodName) method_3_code 4 (some .long) :: ws) ({ frames := 1, cells := 0, slots := 0, locals := 24 } : Room)) (fun a U => a = #[(.long q)] ∧ Z.Warmed39 U.vm ∧ U.heap = h0) (fun _ _ _ _ _ => True) (fun _ U o U' => ∃ v L, o = .returned v ∧ (Q_unmix Z q h0 n0) v U'.heap L ∧ FrameEnd U o U' L ({ frames := 1, cells := 0, slots := 0, locals := 24 } : Room).cells ({ frames := 1, cells := 0, slots := 0, locals := 24 } : Room).slots) := by
  refine MetFree.of_bodySF (plainFor_of_name own_pn1) hisR ?_
  intro p e s m args below meth c s₁ Bd hml0 hP hK
  obtain ⟨rfl, hZ, hh⟩ := hP
  have hx := Bd.exec
  have hby := Bd.bytes
  have hlk := BodyLoose.notSynchronized Bd
  have hret := Bd.returns
  have hml : c.maxLocals = 4 := hml0
  have hown : s.vm.findClass "com/example/settlewright/settlewright/SplitMix64NextPinLaw" = some m.cls := findClass_of_methodNamed Bd.named
  have hnm := (name_of_methodNamed Bd.named Bd.method).1
  have X : Stand p l e ({ frames := 1, cells := 0, slots := 0, locals := 24 } : Room) s m #[(.long q)] below meth c s₁ [] 0 0 := Stand.of_body Bd
  have eT : s₁.heap = h0 := by rw [← hh, Bd.state]; rfl
  have N := Fr.nil n0
  have K0 : Keep h0 h0 [] := Keep.refl _ _
  show own_Go p e below s (Q_unmix Z q h0 n0) ({ frames := 1, cells := 0, slots := 0, locals := 24 } : Room).cells ({ frames := 1, cells := 0, slots := 0, locals := 24 } : Room).slots s₁ (entryFrame m #[(.long q)] 4)
  rw [ef_unmix m q]
  refine own_st (T' := s₁) (g' := (mkF m 1 #[.val (.long q), .second, .unset, .unset] [(.long q)])) (fun _ zq => XS.lloadN X.here hx rfl (hb hby own_d_m3_0) rfl zq) ?_
  refine own_st (T' := s₁) (g' := (mkF m 2 #[.val (.long q), .second, .unset, .unset] [(.long q), (.long q)])) (fun _ zq => XS.lloadN X.here hx rfl (hb hby own_d_m3_1) rfl zq) ?_
  refine own_st (T' := s₁) (g' := (mkF m 4 #[.val (.long q), .second, .unset, .unset] [(.int (31 : Int32)), (.long q), (.long q)])) (fun _ zq => XS.bipush X.here hx rfl (hb hby own_d_m3_2) zq) ?_
  refine own_st (T' := s₁) (g' := (mkF m 5 #[.val (.long q), .second, .unset, .unset] [(.long ((q.toUInt64 >>> ((31 : Int32) &&& 0x3f).toInt64.toUInt64).toInt64)), (.long q)])) (fun _ zq => XS.lushr X.here hx rfl (hb hby own_d_m3_4) rfl zq) ?_
  refine own_st (T' := s₁) (g' := (mkF m 6 #[.val (.long q), .second, .unset, .unset] [(.long (q ^^^ ((q.toUInt64 >>> ((31 : Int32) &&& 0x3f).toInt64.toUInt64).toInt64)))])) (fun _ zq => XS.lxor X.here hx rfl (hb hby own_d_m3_5) rfl zq) ?_
  refine own_st (T' := s₁) (g' := (mkF m 7 #[.val (.long q), .second, .unset, .unset] [(.long q), (.long (q ^^^ ((q.toUInt64 >>> ((31 : Int32) &&& 0x3f).toInt64.toUInt64).toInt64)))])) (fun _ zq => XS.lloadN X.here hx rfl (hb hby own_d_m3_6) rfl zq) ?_
  refine own_st (T' := s₁) (g' := (mkF m 9 #[.val (.long q), .second, .unset, .unset] [(.int (62 : Int32)), (.long q), (.long (q ^^^ ((q.toUInt64 >>> ((31 : Int32) &&& 0x3f).toInt64.toUInt64).toInt64)))])) (fun _ zq => XS.bipush X.here hx rfl (hb hby own_d_m3_7) zq) ?_
  refine own_st (T' := s₁) (g' := (mkF m 10 #[.val (.long q), .second, .unset, .unset] [(.long ((q.toUInt64 >>> ((62 : Int32) &&& 0x3f).toInt64.toUInt64).toInt64)), (.long (q ^^^ ((q.toUInt64 >>> ((31 : Int32) &&& 0x3f).toInt64.toUInt64).toInt64)))])) (fun _ zq => XS.lushr X.here hx rfl (hb hby own_d_m3_9) rfl zq) ?_
  refine own_st (T' := s₁) (g' := (mkF m 11 #[.val (.long q), .second, .unset, .unset] [(.long ((q ^^^ ((q.toUInt64 >>> ((31 : Int32) &&& 0x3f).toInt64.toUInt64).toInt64)) ^^^ ((q.toUInt64 >>> ((62 : Int32) &&& 0x3f).toInt64.toUInt64).toInt64)))])) (fun _ zq => XS.lxor X.here hx rfl (hb hby own_d_m3_10) rfl zq) ?_
  refine own_nm (f := fun z_ => (mkF m 11 #[.val (.long q), .second, .unset, .unset] [(.long z_)])) ((q ^^^ ((q.toUInt64 >>> ((31 : Int32) &&& 0x3f).toInt64.toUInt64).toInt64)) ^^^ ((q.toUInt64 >>> ((62 : Int32) &&& 0x3f).toInt64.toUInt64).toInt64)) (fun y1 hy1 => ?_)
  show own_Go p e below s (Q_unmix Z q h0 n0) ({ frames := 1, cells := 0, slots := 0, locals := 24 } : Room).cells ({ frames := 1, cells := 0, slots := 0, locals := 24 } : Room).slots s₁ (mkF m 11 #[.val (.long q), .second, .unset, .unset] [(.long y1)])
  refine own_st (T' := s₁) (g' := (mkF m 12 #[.val (.long q), .second, .val (.long y1), .second] [])) (fun _ zq => XS.lstoreN X.here hx rfl (hb hby own_d_m3_11) rfl (l' := #[.val (.long q), .second, .val (.long y1), .second]) rfl zq) ?_
  refine own_st (T' := s₁) (g' := (mkF m 13 #[.val (.long q), .second, .val (.long y1), .second] [(.long y1)])) (fun _ zq => XS.lloadN X.here hx rfl (hb hby own_d_m3_12) rfl zq) ?_
  refine own_st (T' := s₁) (g' := (mkF m 16 #[.val (.long q), .second, .val (.long y1), .second] [(.long (-7723592293110705685 : Int64)), (.long y1)])) (fun _ zq => X.ldc2Long hx hown (mvT hZ (hw _ (List.mem_of_getElem? (i := 24) rfl))) (g := (mkF m 13 #[.val (.long q), .second, .val (.long y1), .second] [(.long y1)])) rfl (hb hby own_d_m3_13) _ zq) ?_
  obtain ⟨_, _, ⟨T6, L6, k6, n6⟩, -, X6, ⟨Lc6, hQ6, l6, y6, z6⟩, st6⟩ := Jvm.LawKit.callS X hx (y := (⟨"com/example/settlewright/settlewright/SplitMix64NextPinLaw", "inverse", "(J)J"⟩ : MethodName)) hown (mvT hZ (hw _ (List.mem_of_getElem? (i := 25) rfl))) (mvT hZ (hw _ (List.mem_of_getElem? (i := 26) rfl))) (mvT hZ (hw _ (List.mem_of_getElem? (i := 22) rfl))) (mvT hZ (hw _ (List.mem_of_getElem? (i := 27) rfl))) (by decide) (backOf (W := 2) (rm_inverse l Z a0 hw [] (-7723592293110705685 : Int64) h0 n0 Zs ) hZ (hw _ (List.mem_of_getElem? (i := 27) rfl)) (hw _ (List.mem_of_getElem? (i := 22) rfl)) (by decide) (by decide)) (g := (mkF m 16 #[.val (.long q), .second, .val (.long y1), .second] [(.long (-7723592293110705685 : Int64)), (.long y1)])) rfl (by rw [hml]; rfl) (argsL := [(.long (-7723592293110705685 : Int64))]) (rest := [(.long y1)]) (lenOf own_pd0 rfl) rfl (by show 2 * 0 + _ ≤ _; exact Nat.le_of_eq rfl) (hb hby own_d_m3_16) (fun _ _ => ⟨rfl, eT, (by decide : 0 + 0 ≤ _), (by decide : 0 + 0 ≤ _)⟩)
  dsimp only [Pt.U, Pt.locs, Pt.cells, Pt.slots] at X6 l6 y6 z6 st6 hQ6
  subst l6 y6 z6
  obtain ⟨rfl, Nq6, eq6⟩ := hQ6
  replace N := Fr.app N Nq6
  refine own_st (g' := (mkF m 19 #[.val (.long q), .second, .val (.long y1), .second] [(.long (own_inv (-7723592293110705685 : Int64))), (.long y1)])) st6 ?_
  refine own_st (T' := T6) (g' := (mkF m 20 #[.val (.long q), .second, .val (.long y1), .second] [(.long (y1 * (own_inv (-7723592293110705685 : Int64))))])) (fun _ zq => XS.lmul X6.here hx rfl (hb hby own_d_m3_19) rfl zq) ?_
  refine own_nm (f := fun z_ => (mkF m 20 #[.val (.long q), .second, .val (.long y1), .second] [(.long z_)])) (y1 * (own_inv (-7723592293110705685 : Int64))) (fun y2 hy2 => ?_)
  show own_Go p e below s (Q_unmix Z q h0 n0) ({ frames := 1, cells := 0, slots := 0, locals := 24 } : Room).cells ({ frames := 1, cells := 0, slots := 0, locals := 24 } : Room).slots T6 (mkF m 20 #[.val (.long q), .second, .val (.long y1), .second] [(.long y2)])
  refine own_st (T' := T6) (g' := (mkF m 21 #[.val (.long q), .second, .val (.long y2), .second] [])) (fun _ zq => XS.lstoreN X6.here hx rfl (hb hby own_d_m3_20) rfl (l' := #[.val (.long q), .second, .val (.long y2), .second]) rfl zq) ?_
  refine own_st (T' := T6) (g' := (mkF m 22 #[.val (.long q), .second, .val (.long y2), .second] [(.long y2)])) (fun _ zq => XS.lloadN X6.here hx rfl (hb hby own_d_m3_21) rfl zq) ?_
  refine own_st (T' := T6) (g' := (mkF m 23 #[.val (.long q), .second, .val (.long y2), .second] [(.long y2), (.long y2)])) (fun _ zq => XS.lloadN X6.here hx rfl (hb hby own_d_m3_22) rfl zq) ?_
  refine own_st (T' := T6) (g' := (mkF m 25 #[.val (.long q), .second, .val (.long y2), .second] [(.int (27 : Int32)), (.long y2), (.long y2)])) (fun _ zq => XS.bipush X6.here hx rfl (hb hby own_d_m3_23) zq) ?_
  refine own_st (T' := T6) (g' := (mkF m 26 #[.val (.long q), .second, .val (.long y2), .second] [(.long ((y2.toUInt64 >>> ((27 : Int32) &&& 0x3f).toInt64.toUInt64).toInt64)), (.long y2)])) (fun _ zq => XS.lushr X6.here hx rfl (hb hby own_d_m3_25) rfl zq) ?_
  refine own_st (T' := T6) (g' := (mkF m 27 #[.val (.long q), .second, .val (.long y2), .second] [(.long (y2 ^^^ ((y2.toUInt64 >>> ((27 : Int32) &&& 0x3f).toInt64.toUInt64).toInt64)))])) (fun _ zq => XS.lxor X6.here hx rfl (hb hby own_d_m3_26) rfl zq) ?_
  refine own_st (T' := T6) (g' := (mkF m 28 #[.val (.long q), .second, .val (.long y2), .second] [(.long y2), (.long (y2 ^^^ ((y2.toUInt64 >>> ((27 : Int32) &&& 0x3f).toInt64.toUInt64).toInt64)))])) (fun _ zq => XS.lloadN X6.here hx rfl (hb hby own_d_m3_27) rfl zq) ?_
  refine own_st (T' := T6) (g' := (mkF m 30 #[.val (.long q), .second, .val (.long y2), .second] [(.int (54 : Int32)), (.long y2), (.long (y2 ^^^ ((y2.toUInt64 >>> ((27 : Int32) &&& 0x3f).toInt64.toUInt64).toInt64)))])) (fun _ zq => XS.bipush X6.here hx rfl (hb hby own_d_m3_28) zq) ?_
  refine own_st (T' := T6) (g' := (mkF m 31 #[.val (.long q), .second, .val (.long y2), .second] [(.long ((y2.toUInt64 >>> ((54 : Int32) &&& 0x3f).toInt64.toUInt64).toInt64)), (.long (y2 ^^^ ((y2.toUInt64 >>> ((27 : Int32) &&& 0x3f).toInt64.toUInt64).toInt64)))])) (fun _ zq => XS.lushr X6.here hx rfl (hb hby own_d_m3_30) rfl zq) ?_
  refine own_st (T' := T6) (g' := (mkF m 32 #[.val (.long q), .second, .val (.long y2), .second] [(.long ((y2 ^^^ ((y2.toUInt64 >>> ((27 : Int32) &&& 0x3f).toInt64.toUInt64).toInt64)) ^^^ ((y2.toUInt64 >>> ((54 : Int32) &&& 0x3f).toInt64.toUInt64).toInt64)))])) (fun _ zq => XS.lxor X6.here hx rfl (hb hby own_d_m3_31) rfl zq) ?_
  refine own_nm (f := fun z_ => (mkF m 32 #[.val (.long q), .second, .val (.long y2), .second] [(.long z_)])) ((y2 ^^^ ((y2.toUInt64 >>> ((27 : Int32) &&& 0x3f).toInt64.toUInt64).toInt64)) ^^^ ((y2.toUInt64 >>> ((54 : Int32) &&& 0x3f).toInt64.toUInt64).toInt64)) (fun y3 hy3 => ?_)
  show own_Go p e below s (Q_unmix Z q h0 n0) ({ frames := 1, cells := 0, slots := 0, locals := 24 } : Room).cells ({ frames := 1, cells := 0, slots := 0, locals := 24 } : Room).slots T6 (mkF m 32 #[.val (.long q), .second, .val (.long y2), .second] [(.long y3)])
  refine own_st (T' := T6) (g' := (mkF m 33 #[.val (.long q), .second, .val (.long y3), .second] [])) (fun _ zq => XS.lstoreN X6.here hx rfl (hb hby own_d_m3_32) rfl (l' := #[.val (.long q), .second, .val (.long y3), .second]) rfl zq) ?_
  refine own_st (T' := T6) (g' := (mkF m 34 #[.val (.long q), .second, .val (.long y3), .second] [(.long y3)])) (fun _ zq => XS.lloadN X6.here hx rfl (hb hby own_d_m3_33) rfl zq) ?_
  refine own_st (T' := T6) (g' := (mkF m 37 #[.val (.long q), .second, .val (.long y3), .second] [(.long (-4658895280553007687 : Int64)), (.long y3)])) (fun _ zq => X6.ldc2Long hx hown (mvT hZ (hw _ (List.mem_of_getElem? (i := 29) rfl))) (g := (mkF m 34 #[.val (.long q), .second, .val (.long y3), .second] [(.long y3)])) rfl (hb hby own_d_m3_34) _ zq) ?_
  obtain ⟨_, _, ⟨T7, L7, k7, n7⟩, -, X7, ⟨Lc7, hQ7, l7, y7, z7⟩, st7⟩ := Jvm.LawKit.callS X6 hx (y := (⟨"com/example/settlewright/settlewright/SplitMix64NextPinLaw", "inverse", "(J)J"⟩ : MethodName)) hown (mvT hZ (hw _ (List.mem_of_getElem? (i := 25) rfl))) (mvT hZ (hw _ (List.mem_of_getElem? (i := 26) rfl))) (mvT hZ (hw _ (List.mem_of_getElem? (i := 22) rfl))) (mvT hZ (hw _ (List.mem_of_getElem? (i := 27) rfl))) (by decide) (backOf (W := 2) (rm_inverse l Z a0 hw [] (-4658895280553007687 : Int64) h0 n0 Zs ) hZ (hw _ (List.mem_of_getElem? (i := 27) rfl)) (hw _ (List.mem_of_getElem? (i := 22) rfl)) (by decide) (by decide)) (g := (mkF m 37 #[.val (.long q), .second, .val (.long y3), .second] [(.long (-4658895280553007687 : Int64)), (.long y3)])) rfl (by rw [hml]; rfl) (argsL := [(.long (-4658895280553007687 : Int64))]) (rest := [(.long y3)]) (lenOf own_pd0 rfl) rfl (by show 2 * 0 + _ ≤ _; exact Nat.le_of_eq rfl) (hb hby own_d_m3_37) (fun _ _ => ⟨rfl, (eq6), (by decide : 0 + 0 ≤ _), (by decide : 0 + 0 ≤ _)⟩)
  dsimp only [Pt.U, Pt.locs, Pt.cells, Pt.slots] at X7 l7 y7 z7 st7 hQ7
  subst l7 y7 z7
  obtain ⟨rfl, Nq7, eq7⟩ := hQ7
  replace N := Fr.app N Nq7
  refine own_st (g' := (mkF m 40 #[.val (.long q), .second, .val (.long y3), .second] [(.long (own_inv (-4658895280553007687 : Int64))), (.long y3)])) st7 ?_
  refine own_st (T' := T7) (g' := (mkF m 41 #[.val (.long q), .second, .val (.long y3), .second] [(.long (y3 * (own_inv (-4658895280553007687 : Int64))))])) (fun _ zq => XS.lmul X7.here hx rfl (hb hby own_d_m3_40) rfl zq) ?_
  refine own_nm (f := fun z_ => (mkF m 41 #[.val (.long q), .second, .val (.long y3), .second] [(.long z_)])) (y3 * (own_inv (-4658895280553007687 : Int64))) (fun y4 hy4 => ?_)
  show own_Go p e below s (Q_unmix Z q h0 n0) ({ frames := 1, cells := 0, slots := 0, locals := 24 } : Room).cells ({ frames := 1, cells := 0, slots := 0, locals := 24 } : Room).slots T7 (mkF m 41 #[.val (.long q), .second, .val (.long y3), .second] [(.long y4)])
  refine own_st (T' := T7) (g' := (mkF m 42 #[.val (.long q), .second, .val (.long y4), .second] [])) (fun _ zq => XS.lstoreN X7.here hx rfl (hb hby own_d_m3_41) rfl (l' := #[.val (.long q), .second, .val (.long y4), .second]) rfl zq) ?_
  refine own_st (T' := T7) (g' := (mkF m 43 #[.val (.long q), .second, .val (.long y4), .second] [(.long y4)])) (fun _ zq => XS.lloadN X7.here hx rfl (hb hby own_d_m3_42) rfl zq) ?_
  refine own_st (T' := T7) (g' := (mkF m 44 #[.val (.long q), .second, .val (.long y4), .second] [(.long y4), (.long y4)])) (fun _ zq => XS.lloadN X7.here hx rfl (hb hby own_d_m3_43) rfl zq) ?_
  refine own_st (T' := T7) (g' := (mkF m 46 #[.val (.long q), .second, .val (.long y4), .second] [(.int (30 : Int32)), (.long y4), (.long y4)])) (fun _ zq => XS.bipush X7.here hx rfl (hb hby own_d_m3_44) zq) ?_
  refine own_st (T' := T7) (g' := (mkF m 47 #[.val (.long q), .second, .val (.long y4), .second] [(.long ((y4.toUInt64 >>> ((30 : Int32) &&& 0x3f).toInt64.toUInt64).toInt64)), (.long y4)])) (fun _ zq => XS.lushr X7.here hx rfl (hb hby own_d_m3_46) rfl zq) ?_
  refine own_st (T' := T7) (g' := (mkF m 48 #[.val (.long q), .second, .val (.long y4), .second] [(.long (y4 ^^^ ((y4.toUInt64 >>> ((30 : Int32) &&& 0x3f).toInt64.toUInt64).toInt64)))])) (fun _ zq => XS.lxor X7.here hx rfl (hb hby own_d_m3_47) rfl zq) ?_
  refine own_st (T' := T7) (g' := (mkF m 49 #[.val (.long q), .second, .val (.long y4), .second] [(.long y4), (.long (y4 ^^^ ((y4.toUInt64 >>> ((30 : Int32) &&& 0x3f).toInt64.toUInt64).toInt64)))])) (fun _ zq => XS.lloadN X7.here hx rfl (hb hby own_d_m3_48) rfl zq) ?_
  refine own_st (T' := T7) (g' := (mkF m 51 #[.val (.long q), .second, .val (.long y4), .second] [(.int (60 : Int32)), (.long y4), (.long (y4 ^^^ ((y4.toUInt64 >>> ((30 : Int32) &&& 0x3f).toInt64.toUInt64).toInt64)))])) (fun _ zq => XS.bipush X7.here hx rfl (hb hby own_d_m3_49) zq) ?_
  refine own_st (T' := T7) (g' := (mkF m 52 #[.val (.long q), .second, .val (.long y4), .second] [(.long ((y4.toUInt64 >>> ((60 : Int32) &&& 0x3f).toInt64.toUInt64).toInt64)), (.long (y4 ^^^ ((y4.toUInt64 >>> ((30 : Int32) &&& 0x3f).toInt64.toUInt64).toInt64)))])) (fun _ zq => XS.lushr X7.here hx rfl (hb hby own_d_m3_51) rfl zq) ?_
  refine own_st (T' := T7) (g' := (mkF m 53 #[.val (.long q), .second, .val (.long y4), .second] [(.long ((y4 ^^^ ((y4.toUInt64 >>> ((30 : Int32) &&& 0x3f).toInt64.toUInt64).toInt64)) ^^^ ((y4.toUInt64 >>> ((60 : Int32) &&& 0x3f).toInt64.toUInt64).toInt64)))])) (fun _ zq => XS.lxor X7.here hx rfl (hb hby own_d_m3_52) rfl zq) ?_
  exact own_ret X7 hx hret hlk (i := .lreturn) rfl (Or.inr (Or.inl ⟨rfl, rfl, _, rfl⟩)) (hb hby own_d_m3_53) (eq7) (Nat.le_of_ble_eq_true rfl) (Nat.le_of_ble_eq_true rfl) ⟨by rw [hy4, hy3, hy2, hy1]; rfl, N, rfl⟩
def Q_law (Z : State) (s1 : Int64) (h0 : Heap) (n0 : Nat) (v : Option Value) (h : Heap) (L : List Loc) : Prop := v = some (.int 1) ∧ Fr n0 L
theorem ef_law (m : MethodId) (x0 : Int64)  : entryFrame m #[(.long x0)] maxLocals = mkF m 0 #[.val (.long x0), .second, .unset, .unset, .unset, .unset, .unset, .unset, .unset] [] := by first | (simp [entryFrame, mkF, argsToLocals, Value.category, maxLocals]; done) | rfl
set_option maxRecDepth 65536 in
set_option maxHeartbeats 40000000 in
theorem rm_law (l : Launch) (Z : State) (a0 : Array Value) (hw : ∀ d ∈ tables_1, d.before a0 Z = true) (ws : List Jvm.Cond) (s1 : Int64) (h0 : Heap) (n0 : Nat) (Zs : n0 ≤ h0.size)  :
    MetFree l x (head1 (Jvm.Cond.code x code maxLocals ret :: ws) room_1) (fun a U => a = #[(.long s1)] ∧ Z.Warmed39 U.vm ∧ U.heap = h0) (fun _ _ _ _ _ => True) (fun _ U o U' => ∃ v L, o = .returned v ∧ (Q_law Z s1 h0 n0) v U'.heap L ∧ FrameEnd U o U' L 16 128) := by
  refine MetFree.of_bodySF (plainFor_of_name own_pn1) hisR ?_
  intro p e s m args below meth c s₁ Bd hml0 hP hK
  obtain ⟨rfl, hZ, hh⟩ := hP
  have hx := Bd.exec
  have hby := Bd.bytes
  have hlk := BodyLoose.notSynchronized Bd
  have hret := Bd.returns
  have hml : c.maxLocals = 9 := hml0
  have hown : s.vm.findClass "com/example/settlewright/settlewright/SplitMix64NextPinLaw" = some m.cls := findClass_of_methodNamed Bd.named
  have hnm := (name_of_methodNamed Bd.named Bd.method).1
  have X : Stand p l e room_1 s m #[(.long s1)] below meth c s₁ [] 0 0 := Stand.of_body Bd
  have eT : s₁.heap = h0 := by rw [← hh, Bd.state]; rfl
  have N := Fr.nil n0
  have K0 : Keep h0 h0 [] := Keep.refl _ _
  show own_Go p e below s (Q_law Z s1 h0 n0) 16 128 s₁ (entryFrame m #[(.long s1)] maxLocals)
  rw [ef_law m s1]
  obtain ⟨T8, h8, X8, e8, E8, A8, D8, -, st8⟩ := newO X hx hZ hown (hw _ (List.mem_of_getElem? (i := 0) rfl)) (hw _ (List.mem_of_getElem? (i := 1) rfl)) (hw _ (List.mem_of_getElem? (i := 2) rfl)) eT (g := (mkF m 0 #[.val (.long s1), .second, .unset, .unset, .unset, .unset, .unset, .unset, .unset] [])) rfl (hb hby at_0) (by decide) (by decide)
  obtain ⟨b8, ga8⟩ : ∃ z, z = h0.size := ⟨_, rfl⟩
  rw [← ga8] at A8 D8 st8
  have g_b8 : n0 ≤ b8 := Nat.le_trans Zs (Nat.le_of_eq ga8.symm)
  have E_b8 := A8
  replace Zs := Nat.le_trans Zs E8.1
  have F_b8_state : Fld Z h8 b8 "com/example/settlewright/settlewright/SplitMix64" "state" "J" (.long (0 : Int64)) := D8 (Or.inl (hw _ (List.mem_of_getElem? (i := 10) rfl))) (ty := .long) (by decide)
  refine own_st (g' := (mkF m 3 #[.val (.long s1), .second, .unset, .unset, .unset, .unset, .unset, .unset, .unset] [(.ref b8)])) st8 ?_
  refine own_st (T' := T8) (g' := (mkF m 4 #[.val (.long s1), .second, .unset, .unset, .unset, .unset, .unset, .unset, .unset] [(.ref b8), (.ref b8)])) (fun _ zq => XS.dup X8.here hx rfl (hb hby at_3) rfl rfl zq) ?_
  refine own_st (T' := T8) (g' := (mkF m 5 #[.val (.long s1), .second, .unset, .unset, .unset, .unset, .unset, .unset, .unset] [(.long s1), (.ref b8), (.ref b8)])) (fun _ zq => XS.lloadN X8.here hx rfl (hb hby at_4) rfl zq) ?_
  obtain ⟨_, _, ⟨T9, L9, k9, n9⟩, -, X9, ⟨Lc9, hQ9, l9, y9, z9⟩, st9⟩ := X8.specialBack hx (y := (⟨"com/example/settlewright/settlewright/SplitMix64", "<init>", "(J)V"⟩ : MethodName)) rfl hown (mvT hZ (hw _ (List.mem_of_getElem? (i := 3) rfl))) (mvT hZ (hw _ (List.mem_of_getElem? (i := 4) rfl))) (mvT hZ (hw _ (List.mem_of_getElem? (i := 5) rfl))) (by decide) (backOf (W := 1) (rm_init l Z a0 hw [] b8 s1 h8 n0 Zs E_b8 F_b8_state g_b8) hZ (hw _ (List.mem_of_getElem? (i := 5) rfl)) (hw _ (List.mem_of_getElem? (i := 2) rfl)) (by decide) (by decide)) (g := (mkF m 5 #[.val (.long s1), .second, .unset, .unset, .unset, .unset, .unset, .unset, .unset] [(.long s1), (.ref b8), (.ref b8)])) rfl (by rw [hml]; rfl) (Steps.refl _) (a := b8) (argsL := [(.long s1)]) (rest := [(.ref b8)]) (lenOf own_pd1 rfl) rfl (by show 2 * 0 + _ ≤ _; exact Nat.le_of_eq rfl) (hb hby at_5) (fun _ _ => ⟨rfl, e8, (by decide : 1 + 0 ≤ _), (by decide : 1 + 0 ≤ _)⟩)
  dsimp only [Pt.U, Pt.locs, Pt.cells, Pt.slots] at X9 l9 y9 z9 st9 hQ9
  subst l9 y9 z9
  obtain ⟨rfl, Nq9, Kq9, E_b8, F_b8_state⟩ := hQ9
  replace N := Fr.app N Nq9
  replace Zs := Nat.le_trans Zs Kq9.1
  refine own_tr (g' := (mkF m 8 #[.val (.long s1), .second, .unset, .unset, .unset, .unset, .unset, .unset, .unset] [(.ref b8)])) st9 ?_
  refine own_st (T' := T9) (g' := (mkF m 9 #[.val (.long s1), .second, .val (.ref b8), .unset, .unset, .unset, .unset, .unset, .unset] [])) (fun _ zq => XS.astoreN X9.here hx rfl (hb hby at_8) rfl rfl (l' := #[.val (.long s1), .second, .val (.ref b8), .unset, .unset, .unset, .unset, .unset, .unset]) rfl zq) ?_
  refine own_st (T' := T9) (g' := (mkF m 10 #[.val (.long s1), .second, .val (.ref b8), .unset, .unset, .unset, .unset, .unset, .unset] [(.ref b8)])) (fun _ zq => XS.aloadN X9.here hx rfl (hb hby at_9) rfl rfl zq) ?_
  obtain ⟨cq10, kq10, q10a, q10b, q10c⟩ := isOf hZ rfl E_b8
  obtain ⟨_, _, ⟨T10, L10, k10, n10⟩, -, X10, ⟨Lc10, hQ10, l10, y10, z10⟩, st10⟩ := X9.virtualBack hx (y := (⟨"com/example/settlewright/settlewright/SplitMix64", "next", "()J"⟩ : MethodName)) (z := (⟨"com/example/settlewright/settlewright/SplitMix64", "next", "()J"⟩ : MethodName)) hown (mvT hZ (hw _ (List.mem_of_getElem? (i := 11) rfl))) (mvT hZ (hw _ (List.mem_of_getElem? (i := 12) rfl))) (notFace_of_selects (args := #[]) (mvT hZ (hw _ (List.mem_of_getElem? (i := 14) rfl)))) (mvT hZ (hw _ (List.mem_of_getElem? (i := 14) rfl))) (mvT hZ (hw _ (List.mem_of_getElem? (i := 13) rfl))) (by decide) (backOf (W := 0) (rm_next l Z a0 hw [] b8 s1 T9.heap n0 Zs E_b8 F_b8_state g_b8) hZ (hw _ (List.mem_of_getElem? (i := 15) rfl)) (hw _ (List.mem_of_getElem? (i := 2) rfl)) (by decide) (by decide)) q10a q10c (g := (mkF m 10 #[.val (.long s1), .second, .val (.ref b8), .unset, .unset, .unset, .unset, .unset, .unset] [(.ref b8)])) rfl (by rw [hml]; rfl) (Steps.refl _) (argsL := []) (rest := []) (lenOf own_pd2 rfl) rfl (by show 2 * 0 + _ ≤ _; exact Nat.le_of_eq rfl) (hb hby at_10) (fun _ _ => ⟨rfl, rfl, (by decide : 1 + 0 ≤ _), (by decide : 1 + 0 ≤ _)⟩)
  dsimp only [Pt.U, Pt.locs, Pt.cells, Pt.slots] at X10 l10 y10 z10 st10 hQ10
  subst l10 y10 z10
  obtain ⟨rfl, Nq10, Kq10, E_b8, F_b8_state⟩ := hQ10
  replace N := Fr.app N Nq10
  replace Zs := Nat.le_trans Zs Kq10.1
  refine own_tr (g' := (mkF m 13 #[.val (.long s1), .second, .val (.ref b8), .unset, .unset, .unset, .unset, .unset, .unset] [(.long (own_mix (s1 + (-7046029254386353131 : Int64))))])) st10 ?_
  refine own_st (T' := T10) (g' := (mkF m 14 #[.val (.long s1), .second, .val (.ref b8), .val (.long (own_mix (s1 + (-7046029254386353131 : Int64)))), .second, .unset, .unset, .unset, .unset] [])) (fun _ zq => XS.lstoreN X10.here hx rfl (hb hby at_13) rfl (l' := #[.val (.long s1), .second, .val (.ref b8), .val (.long (own_mix (s1 + (-7046029254386353131 : Int64)))), .second, .unset, .unset, .unset, .unset]) rfl zq) ?_
  refine own_st (T' := T10) (g' := (mkF m 15 #[.val (.long s1), .second, .val (.ref b8), .val (.long (own_mix (s1 + (-7046029254386353131 : Int64)))), .second, .unset, .unset, .unset, .unset] [(.ref b8)])) (fun _ zq => XS.aloadN X10.here hx rfl (hb hby at_14) rfl rfl zq) ?_
  obtain ⟨cq11, kq11, q11a, q11b, q11c⟩ := isOf hZ rfl E_b8
  obtain ⟨_, _, ⟨T11, L11, k11, n11⟩, -, X11, ⟨Lc11, hQ11, l11, y11, z11⟩, st11⟩ := X10.virtualBack hx (y := (⟨"com/example/settlewright/settlewright/SplitMix64", "next", "()J"⟩ : MethodName)) (z := (⟨"com/example/settlewright/settlewright/SplitMix64", "next", "()J"⟩ : MethodName)) hown (mvT hZ (hw _ (List.mem_of_getElem? (i := 11) rfl))) (mvT hZ (hw _ (List.mem_of_getElem? (i := 12) rfl))) (notFace_of_selects (args := #[]) (mvT hZ (hw _ (List.mem_of_getElem? (i := 14) rfl)))) (mvT hZ (hw _ (List.mem_of_getElem? (i := 14) rfl))) (mvT hZ (hw _ (List.mem_of_getElem? (i := 13) rfl))) (by decide) (backOf (W := 0) (rm_next l Z a0 hw [] b8 (s1 + (-7046029254386353131 : Int64)) T10.heap n0 Zs E_b8 F_b8_state g_b8) hZ (hw _ (List.mem_of_getElem? (i := 15) rfl)) (hw _ (List.mem_of_getElem? (i := 2) rfl)) (by decide) (by decide)) q11a q11c (g := (mkF m 15 #[.val (.long s1), .second, .val (.ref b8), .val (.long (own_mix (s1 + (-7046029254386353131 : Int64)))), .second, .unset, .unset, .unset, .unset] [(.ref b8)])) rfl (by rw [hml]; rfl) (Steps.refl _) (argsL := []) (rest := []) (lenOf own_pd2 rfl) rfl (by show 2 * 0 + _ ≤ _; exact Nat.le_of_eq rfl) (hb hby at_15) (fun _ _ => ⟨rfl, rfl, (by decide : 1 + 0 ≤ _), (by decide : 1 + 0 ≤ _)⟩)
  dsimp only [Pt.U, Pt.locs, Pt.cells, Pt.slots] at X11 l11 y11 z11 st11 hQ11
  subst l11 y11 z11
  obtain ⟨rfl, Nq11, Kq11, E_b8, F_b8_state⟩ := hQ11
  replace N := Fr.app N Nq11
  replace Zs := Nat.le_trans Zs Kq11.1
  refine own_tr (g' := (mkF m 18 #[.val (.long s1), .second, .val (.ref b8), .val (.long (own_mix (s1 + (-7046029254386353131 : Int64)))), .second, .unset, .unset, .unset, .unset] [(.long (own_mix ((s1 + (-7046029254386353131 : Int64)) + (-7046029254386353131 : Int64))))])) st11 ?_
  refine own_st (T' := T11) (g' := (mkF m 20 #[.val (.long s1), .second, .val (.ref b8), .val (.long (own_mix (s1 + (-7046029254386353131 : Int64)))), .second, .val (.long (own_mix ((s1 + (-7046029254386353131 : Int64)) + (-7046029254386353131 : Int64)))), .second, .unset, .unset] [])) (fun _ zq => XS.lstore X11.here hx rfl (hb hby at_18) rfl (l' := #[.val (.long s1), .second, .val (.ref b8), .val (.long (own_mix (s1 + (-7046029254386353131 : Int64)))), .second, .val (.long (own_mix ((s1 + (-7046029254386353131 : Int64)) + (-7046029254386353131 : Int64)))), .second, .unset, .unset]) rfl zq) ?_
  refine own_st (T' := T11) (g' := (mkF m 23 #[.val (.long s1), .second, .val (.ref b8), .val (.long (own_mix (s1 + (-7046029254386353131 : Int64)))), .second, .val (.long (own_mix ((s1 + (-7046029254386353131 : Int64)) + (-7046029254386353131 : Int64)))), .second, .unset, .unset] [(.long (-7046029254386353131 : Int64))])) (fun _ zq => X11.ldc2Long hx hown (mvT hZ (hw _ (List.mem_of_getElem? (i := 19) rfl))) (g := (mkF m 20 #[.val (.long s1), .second, .val (.ref b8), .val (.long (own_mix (s1 + (-7046029254386353131 : Int64)))), .second, .val (.long (own_mix ((s1 + (-7046029254386353131 : Int64)) + (-7046029254386353131 : Int64)))), .second, .unset, .unset] [])) rfl (hb hby at_20) _ zq) ?_
  refine own_st (T' := T11) (g' := (mkF m 25 #[.val (.long s1), .second, .val (.ref b8), .val (.long (own_mix (s1 + (-7046029254386353131 : Int64)))), .second, .val (.long (own_mix ((s1 + (-7046029254386353131 : Int64)) + (-7046029254386353131 : Int64)))), .second, .val (.long (-7046029254386353131 : Int64)), .second] [])) (fun _ zq => XS.lstore X11.here hx rfl (hb hby at_23) rfl (l' := #[.val (.long s1), .second, .val (.ref b8), .val (.long (own_mix (s1 + (-7046029254386353131 : Int64)))), .second, .val (.long (own_mix ((s1 + (-7046029254386353131 : Int64)) + (-7046029254386353131 : Int64)))), .second, .val (.long (-7046029254386353131 : Int64)), .second]) rfl zq) ?_
  refine own_st (T' := T11) (g' := (mkF m 26 #[.val (.long s1), .second, .val (.ref b8), .val (.long (own_mix (s1 + (-7046029254386353131 : Int64)))), .second, .val (.long (own_mix ((s1 + (-7046029254386353131 : Int64)) + (-7046029254386353131 : Int64)))), .second, .val (.long (-7046029254386353131 : Int64)), .second] [(.long (own_mix (s1 + (-7046029254386353131 : Int64))))])) (fun _ zq => XS.lloadN X11.here hx rfl (hb hby at_25) rfl zq) ?_
  obtain ⟨_, _, ⟨T12, L12, k12, n12⟩, -, X12, ⟨Lc12, hQ12, l12, y12, z12⟩, st12⟩ := Jvm.LawKit.callS X11 hx (y := (⟨"com/example/settlewright/settlewright/SplitMix64NextPinLaw", "unmix", "(J)J"⟩ : MethodName)) hown (mvT hZ (hw _ (List.mem_of_getElem? (i := 20) rfl))) (mvT hZ (hw _ (List.mem_of_getElem? (i := 21) rfl))) (mvT hZ (hw _ (List.mem_of_getElem? (i := 22) rfl))) (mvT hZ (hw _ (List.mem_of_getElem? (i := 23) rfl))) (by decide) (backOf (W := 0) (rm_unmix l Z a0 hw [] (own_mix (s1 + (-7046029254386353131 : Int64))) T11.heap n0 Zs ) hZ (hw _ (List.mem_of_getElem? (i := 23) rfl)) (hw _ (List.mem_of_getElem? (i := 22) rfl)) (by decide) (by decide)) (g := (mkF m 26 #[.val (.long s1), .second, .val (.ref b8), .val (.long (own_mix (s1 + (-7046029254386353131 : Int64)))), .second, .val (.long (own_mix ((s1 + (-7046029254386353131 : Int64)) + (-7046029254386353131 : Int64)))), .second, .val (.long (-7046029254386353131 : Int64)), .second] [(.long (own_mix (s1 + (-7046029254386353131 : Int64))))])) rfl (by rw [hml]; rfl) (argsL := [(.long (own_mix (s1 + (-7046029254386353131 : Int64))))]) (rest := []) (lenOf own_pd0 rfl) rfl (by show 2 * 0 + _ ≤ _; exact Nat.le_of_eq rfl) (hb hby at_26) (fun _ _ => ⟨rfl, rfl, (by decide : 1 + 0 ≤ _), (by decide : 1 + 0 ≤ _)⟩)
  dsimp only [Pt.U, Pt.locs, Pt.cells, Pt.slots] at X12 l12 y12 z12 st12 hQ12
  subst l12 y12 z12
  obtain ⟨rfl, Nq12, eq12⟩ := hQ12
  replace N := Fr.app N Nq12
  refine own_st (g' := (mkF m 29 #[.val (.long s1), .second, .val (.ref b8), .val (.long (own_mix (s1 + (-7046029254386353131 : Int64)))), .second, .val (.long (own_mix ((s1 + (-7046029254386353131 : Int64)) + (-7046029254386353131 : Int64)))), .second, .val (.long (-7046029254386353131 : Int64)), .second] [(.long (own_unmix (own_mix (s1 + (-7046029254386353131 : Int64)))))])) st12 ?_
  refine own_st (T' := T12) (g' := (mkF m 30 #[.val (.long s1), .second, .val (.ref b8), .val (.long (own_mix (s1 + (-7046029254386353131 : Int64)))), .second, .val (.long (own_mix ((s1 + (-7046029254386353131 : Int64)) + (-7046029254386353131 : Int64)))), .second, .val (.long (-7046029254386353131 : Int64)), .second] [(.long s1), (.long (own_unmix (own_mix (s1 + (-7046029254386353131 : Int64)))))])) (fun _ zq => XS.lloadN X12.here hx rfl (hb hby at_29) rfl zq) ?_
  refine own_st (T' := T12) (g' := (mkF m 32 #[.val (.long s1), .second, .val (.ref b8), .val (.long (own_mix (s1 + (-7046029254386353131 : Int64)))), .second, .val (.long (own_mix ((s1 + (-7046029254386353131 : Int64)) + (-7046029254386353131 : Int64)))), .second, .val (.long (-7046029254386353131 : Int64)), .second] [(.long (-7046029254386353131 : Int64)), (.long s1), (.long (own_unmix (own_mix (s1 + (-7046029254386353131 : Int64)))))])) (fun _ zq => XS.lload X12.here hx rfl (hb hby at_30) rfl zq) ?_
  refine own_st (T' := T12) (g' := (mkF m 33 #[.val (.long s1), .second, .val (.ref b8), .val (.long (own_mix (s1 + (-7046029254386353131 : Int64)))), .second, .val (.long (own_mix ((s1 + (-7046029254386353131 : Int64)) + (-7046029254386353131 : Int64)))), .second, .val (.long (-7046029254386353131 : Int64)), .second] [(.long (s1 + (-7046029254386353131 : Int64))), (.long (own_unmix (own_mix (s1 + (-7046029254386353131 : Int64)))))])) (fun _ zq => XS.ladd X12.here hx rfl (hb hby at_32) rfl zq) ?_
  refine own_st (T' := T12) (g' := (mkF m 34 #[.val (.long s1), .second, .val (.ref b8), .val (.long (own_mix (s1 + (-7046029254386353131 : Int64)))), .second, .val (.long (own_mix ((s1 + (-7046029254386353131 : Int64)) + (-7046029254386353131 : Int64)))), .second, .val (.long (-7046029254386353131 : Int64)), .second] [(.int (lcmpW (own_unmix (own_mix (s1 + (-7046029254386353131 : Int64)))) (s1 + (-7046029254386353131 : Int64))))])) (fun _ zq => XS.lcmp X12.here hx rfl (hb hby at_33) rfl zq) ?_
  refine own_st (T' := T12) (g' := (mkF m 37 #[.val (.long s1), .second, .val (.ref b8), .val (.long (own_mix (s1 + (-7046029254386353131 : Int64)))), .second, .val (.long (own_mix ((s1 + (-7046029254386353131 : Int64)) + (-7046029254386353131 : Int64)))), .second, .val (.long (-7046029254386353131 : Int64)), .second] [])) (fun _ zq => XS.ifNo X12.here hx rfl (hb hby at_34) rfl (own_lteq (own_un _)).2 zq) ?_
  refine own_st (T' := T12) (g' := (mkF m 39 #[.val (.long s1), .second, .val (.ref b8), .val (.long (own_mix (s1 + (-7046029254386353131 : Int64)))), .second, .val (.long (own_mix ((s1 + (-7046029254386353131 : Int64)) + (-7046029254386353131 : Int64)))), .second, .val (.long (-7046029254386353131 : Int64)), .second] [(.long (own_mix ((s1 + (-7046029254386353131 : Int64)) + (-7046029254386353131 : Int64))))])) (fun _ zq => XS.lload X12.here hx rfl (hb hby at_37) rfl zq) ?_
  obtain ⟨_, _, ⟨T13, L13, k13, n13⟩, -, X13, ⟨Lc13, hQ13, l13, y13, z13⟩, st13⟩ := Jvm.LawKit.callS X12 hx (y := (⟨"com/example/settlewright/settlewright/SplitMix64NextPinLaw", "unmix", "(J)J"⟩ : MethodName)) hown (mvT hZ (hw _ (List.mem_of_getElem? (i := 20) rfl))) (mvT hZ (hw _ (List.mem_of_getElem? (i := 21) rfl))) (mvT hZ (hw _ (List.mem_of_getElem? (i := 22) rfl))) (mvT hZ (hw _ (List.mem_of_getElem? (i := 23) rfl))) (by decide) (backOf (W := 0) (rm_unmix l Z a0 hw [] (own_mix ((s1 + (-7046029254386353131 : Int64)) + (-7046029254386353131 : Int64))) T11.heap n0 Zs ) hZ (hw _ (List.mem_of_getElem? (i := 23) rfl)) (hw _ (List.mem_of_getElem? (i := 22) rfl)) (by decide) (by decide)) (g := (mkF m 39 #[.val (.long s1), .second, .val (.ref b8), .val (.long (own_mix (s1 + (-7046029254386353131 : Int64)))), .second, .val (.long (own_mix ((s1 + (-7046029254386353131 : Int64)) + (-7046029254386353131 : Int64)))), .second, .val (.long (-7046029254386353131 : Int64)), .second] [(.long (own_mix ((s1 + (-7046029254386353131 : Int64)) + (-7046029254386353131 : Int64))))])) rfl (by rw [hml]; rfl) (argsL := [(.long (own_mix ((s1 + (-7046029254386353131 : Int64)) + (-7046029254386353131 : Int64))))]) (rest := []) (lenOf own_pd0 rfl) rfl (by show 2 * 0 + _ ≤ _; exact Nat.le_of_eq rfl) (hb hby at_39) (fun _ _ => ⟨rfl, (eq12), (by decide : 1 + 0 ≤ _), (by decide : 1 + 0 ≤ _)⟩)
  dsimp only [Pt.U, Pt.locs, Pt.cells, Pt.slots] at X13 l13 y13 z13 st13 hQ13
  subst l13 y13 z13
  obtain ⟨rfl, Nq13, eq13⟩ := hQ13
  replace N := Fr.app N Nq13
  refine own_st (g' := (mkF m 42 #[.val (.long s1), .second, .val (.ref b8), .val (.long (own_mix (s1 + (-7046029254386353131 : Int64)))), .second, .val (.long (own_mix ((s1 + (-7046029254386353131 : Int64)) + (-7046029254386353131 : Int64)))), .second, .val (.long (-7046029254386353131 : Int64)), .second] [(.long (own_unmix (own_mix ((s1 + (-7046029254386353131 : Int64)) + (-7046029254386353131 : Int64)))))])) st13 ?_
  refine own_st (T' := T13) (g' := (mkF m 43 #[.val (.long s1), .second, .val (.ref b8), .val (.long (own_mix (s1 + (-7046029254386353131 : Int64)))), .second, .val (.long (own_mix ((s1 + (-7046029254386353131 : Int64)) + (-7046029254386353131 : Int64)))), .second, .val (.long (-7046029254386353131 : Int64)), .second] [(.long s1), (.long (own_unmix (own_mix ((s1 + (-7046029254386353131 : Int64)) + (-7046029254386353131 : Int64)))))])) (fun _ zq => XS.lloadN X13.here hx rfl (hb hby at_42) rfl zq) ?_
  refine own_st (T' := T13) (g' := (mkF m 45 #[.val (.long s1), .second, .val (.ref b8), .val (.long (own_mix (s1 + (-7046029254386353131 : Int64)))), .second, .val (.long (own_mix ((s1 + (-7046029254386353131 : Int64)) + (-7046029254386353131 : Int64)))), .second, .val (.long (-7046029254386353131 : Int64)), .second] [(.long (-7046029254386353131 : Int64)), (.long s1), (.long (own_unmix (own_mix ((s1 + (-7046029254386353131 : Int64)) + (-7046029254386353131 : Int64)))))])) (fun _ zq => XS.lload X13.here hx rfl (hb hby at_43) rfl zq) ?_
  refine own_st (T' := T13) (g' := (mkF m 46 #[.val (.long s1), .second, .val (.ref b8), .val (.long (own_mix (s1 + (-7046029254386353131 : Int64)))), .second, .val (.long (own_mix ((s1 + (-7046029254386353131 : Int64)) + (-7046029254386353131 : Int64)))), .second, .val (.long (-7046029254386353131 : Int64)), .second] [(.long (s1 + (-7046029254386353131 : Int64))), (.long (own_unmix (own_mix ((s1 + (-7046029254386353131 : Int64)) + (-7046029254386353131 : Int64)))))])) (fun _ zq => XS.ladd X13.here hx rfl (hb hby at_45) rfl zq) ?_
  refine own_st (T' := T13) (g' := (mkF m 48 #[.val (.long s1), .second, .val (.ref b8), .val (.long (own_mix (s1 + (-7046029254386353131 : Int64)))), .second, .val (.long (own_mix ((s1 + (-7046029254386353131 : Int64)) + (-7046029254386353131 : Int64)))), .second, .val (.long (-7046029254386353131 : Int64)), .second] [(.long (-7046029254386353131 : Int64)), (.long (s1 + (-7046029254386353131 : Int64))), (.long (own_unmix (own_mix ((s1 + (-7046029254386353131 : Int64)) + (-7046029254386353131 : Int64)))))])) (fun _ zq => XS.lload X13.here hx rfl (hb hby at_46) rfl zq) ?_
  refine own_st (T' := T13) (g' := (mkF m 49 #[.val (.long s1), .second, .val (.ref b8), .val (.long (own_mix (s1 + (-7046029254386353131 : Int64)))), .second, .val (.long (own_mix ((s1 + (-7046029254386353131 : Int64)) + (-7046029254386353131 : Int64)))), .second, .val (.long (-7046029254386353131 : Int64)), .second] [(.long ((s1 + (-7046029254386353131 : Int64)) + (-7046029254386353131 : Int64))), (.long (own_unmix (own_mix ((s1 + (-7046029254386353131 : Int64)) + (-7046029254386353131 : Int64)))))])) (fun _ zq => XS.ladd X13.here hx rfl (hb hby at_48) rfl zq) ?_
  refine own_st (T' := T13) (g' := (mkF m 50 #[.val (.long s1), .second, .val (.ref b8), .val (.long (own_mix (s1 + (-7046029254386353131 : Int64)))), .second, .val (.long (own_mix ((s1 + (-7046029254386353131 : Int64)) + (-7046029254386353131 : Int64)))), .second, .val (.long (-7046029254386353131 : Int64)), .second] [(.int (lcmpW (own_unmix (own_mix ((s1 + (-7046029254386353131 : Int64)) + (-7046029254386353131 : Int64)))) ((s1 + (-7046029254386353131 : Int64)) + (-7046029254386353131 : Int64))))])) (fun _ zq => XS.lcmp X13.here hx rfl (hb hby at_49) rfl zq) ?_
  refine own_st (T' := T13) (g' := (mkF m 53 #[.val (.long s1), .second, .val (.ref b8), .val (.long (own_mix (s1 + (-7046029254386353131 : Int64)))), .second, .val (.long (own_mix ((s1 + (-7046029254386353131 : Int64)) + (-7046029254386353131 : Int64)))), .second, .val (.long (-7046029254386353131 : Int64)), .second] [])) (fun _ zq => XS.ifNo X13.here hx rfl (hb hby at_50) rfl (own_lteq (own_un _)).2 zq) ?_
  refine own_st (T' := T13) (g' := (mkF m 54 #[.val (.long s1), .second, .val (.ref b8), .val (.long (own_mix (s1 + (-7046029254386353131 : Int64)))), .second, .val (.long (own_mix ((s1 + (-7046029254386353131 : Int64)) + (-7046029254386353131 : Int64)))), .second, .val (.long (-7046029254386353131 : Int64)), .second] [(.int (1 : Int32))])) (fun _ zq => XS.iconst X13.here hx rfl (hb hby at_53) zq) ?_
  refine own_st (T' := T13) (g' := (mkF m 58 #[.val (.long s1), .second, .val (.ref b8), .val (.long (own_mix (s1 + (-7046029254386353131 : Int64)))), .second, .val (.long (own_mix ((s1 + (-7046029254386353131 : Int64)) + (-7046029254386353131 : Int64)))), .second, .val (.long (-7046029254386353131 : Int64)), .second] [(.int (1 : Int32))])) (fun _ zq => XS.goto X13.here hx rfl (pc0 := 54) (pc' := 58) rfl (hb hby at_54) (by decide) (by decide) zq) ?_
  exact own_ret X13 hx hret hlk (i := .ireturn) rfl (Or.inl ⟨rfl, by decide, _, rfl⟩) (hb hby at_58) (eq13) (Nat.le_of_ble_eq_true rfl) (Nat.le_of_ble_eq_true rfl) ⟨rfl, N⟩
set_option maxRecDepth 65536 in
set_option maxHeartbeats 40000000 in
theorem comes_1 {Post : Tables → Env → Array Value → State → Outcome → State → Prop} (hpost : ∀ tb e args s v u, (limb_1_1.after args s (.returned v) u = true ∧ limb_1_2.after args s (.returned v) u = true ∧ True) → FrameEnd s (.returned v) u (Jvm.fieldLocs frame_1_writes args s ++ Jvm.arrayLocs frame_1_arrays args s ++ Jvm.staticLocs frame_1_statics s) 16 128 → Post tb e args s (.returned v) u) :
    ArmFor flags0 classFile x code maxLocals ret World_1 tables_1 room_1 Calls_1 rest_1 Pre_1 Post := by
  intro l hfl _ _ p e ha hc hk s m args below hf hA hF happ hP
  obtain ⟨hcalls, hrest, hpre⟩ := hP
  obtain ⟨-, -, -, hnamed, -, -, -, hat⟩ := (Spec.applies_iff hf).mp happ
  obtain ⟨hg, hn⟩ := and_e (Cond.before_iff.mp (show (Jvm.Cond.and given_1 narrow_1).before args s = true from hpre))
  obtain ⟨hcnt, hgs⟩ := and_e hg
  obtain ⟨w0, rfl⟩ : ∃ w0 : Value, args = #[w0] := by
    have hs : args.size = 1 := by simpa [Cond.value, given_1] using hcnt
    obtain ⟨L⟩ := args
    match L, hs with
    | [w0], _ => exact ⟨w0, rfl⟩
  have hw := fun d (hd : d ∈ tables_1) => atoms_spec (ws := Jvm.Cond.code x code maxLocals ret :: tables_1) hat d (List.mem_cons_of_mem _ hd)
  have hfit : Fit s := fun {y c} hc i hi => by
    obtain ⟨ha, rfl⟩ := Array.getElem?_eq_some_iff.mp hc
    have q := List.all_eq_true.mp ((Array.all_eq_true_iff_forall_mem.mp hF) _ (Array.getElem_mem ha)) i (List.mem_range.mpr hi)
    simpa [Array.getElem?_eq_getElem hi] using q
  obtain ⟨i0, q0⟩ := isL_v hgs
  obtain rfl : w0 = (.long i0) := Option.some.inj q0
  obtain ⟨n, o, h1, h2, h3, _, L, rfl, ⟨rfl, N⟩, hq⟩ := rm_law l s _ hw tables_1 i0  s.heap s.heap.size (Nat.le_refl _)  p e ha hc hk s m _ below hf ((Spec.applies_iff_loose hf).mp happ).1 ⟨rfl, State.Warmed39.refl s, rfl⟩ trivial
  refine ⟨n, _, h1, h2, h3, hpost _ _ _ _ _ _ ⟨Cond.after_iff.mpr rfl, Cond.after_iff.mpr (eq_i res_at (Term.int_eval (1)) rfl), trivial⟩ ⟨hq.1, hq.2.1, (hq.2.2.sift fun y hy => Or.inr (N y hy)).mono (by decide) (by decide)⟩⟩
theorem main_1_1 : Claimed_1_1 := comes_1 fun _ _ _ _ _ _ h hF => ⟨h.1, hF⟩
theorem main_1_2 : Claimed_1_2 := comes_1 fun _ _ _ _ _ _ h hF => ⟨h.2.1, hF⟩
end Jvm.Pilot.@@N@@
namespace Jvm.Pilot.@@N@@
open Jvm Jvm.ClassFile Sem Op Lib Jvm.Free Jvm.Stand Jvm.Pilot.@@N@@.Jvm.D
/-! MADE BY PROGRAM (witnessworld.py) out of the Statement's table words and the real class files: 9 classes; the members and pool entries that the words name. The judged class is class 1, her method 3. -/
namespace start1
open Jvm.ClassFile
def u (s : String) : CpInfo := .utf8 (stringToUtf16 s)
/-- a pool by its gaps: so many unusable entries, then the entry; so many at the end -/
def gap : Nat → List CpInfo → List CpInfo
  | 0, r => r
  | n + 1, r => .unusable :: gap n r
def poolList (es : List (Nat × CpInfo)) (last : Nat) : List CpInfo := es.foldr (fun e r => gap e.1 (e.2 :: r)) (gap last [])
def pool (es : List (Nat × CpInfo)) (last : Nat) : Array CpInfo := ⟨poolList es last⟩
def fileOf (pool : Array CpInfo) (this : Nat) (attrs : Array Attribute := #[]) (ms : Array MethodInfo := #[]) (fl : Nat := 33) (sup : Nat := 0) (ifs : Array Nat := #[]) (fds : Array FieldInfo := #[]) : ClassFile where
  minorVersion := 0
  majorVersion := 65
  constantPool := pool
  accessFlags := fl
  thisClass := this
  superClass := sup
  interfaces := ifs
  fields := fds
  methods := ms
  attributes := attrs
def plain (name : String) (sup : Option ClassId) : Class where
  name := name
  kind := .ordinary
  loader := none
  accessFlags := 33
  super := sup
  interfaces := #[]
  cf := none
  fields := #[]
  methods := #[]
  instanceTypes := #[]
  staticTypes := #[]
  resolved := #[]
  callSites := []
  init := .initialized
  statics := none
  mirror := none

def pool0 : Array CpInfo := pool [(5, u "<init>"), (0, u "()V"), (1, .class_ 10), (1, u "java/lang/Object")] 113

def k0c0 : Code := { maxStack := 0, maxLocals := 1, code := object_method_1_code, exceptionTable := #[], attributes := #[] }
def k0m0 : Method := { name := "<init>", desc := "()V", sig := { parameters := [], returnType := none }, accessFlags := 1, code := some k0c0 }
/-- java/lang/Object -/
def k0 : Class := { plain "java/lang/Object" none with
  accessFlags := 33
  interfaces := #[]
  cf := some (fileOf pool0 8 #[] #[{ accessFlags := 1, nameIndex := 5, descriptorIndex := 6, attributes := #[] }] 33 0 #[] #[])
  fields := #[]
  methods := #[k0m0]
  instanceTypes := #[]
  staticTypes := #[]
  resolved := Array.replicate 124 none
  statics := none }

def pool1 : Array CpInfo := pool [(2, .class_ 4), (1, u "java/lang/Object"), (0, u "<init>"), (0, u "()V"), (0, .long 2), (1, .long 10723151780598845931), (1, .methodref 12 13), (0, .class_ 14), (0, .nameAndType 15 16), (0, u "com/example/settlewright/settlewright/SplitMix64NextPinLaw"), (0, u "inverse"), (0, u "(J)J"), (0, .long 13787848793156543929), (1, .class_ 20), (0, u "com/example/settlewright/settlewright/SplitMix64"), (0, .methodref 19 22), (0, .nameAndType 5 23), (0, u "(J)V"), (0, .methodref 19 25), (0, .nameAndType 26 27), (0, u "next"), (0, u "()J"), (0, .long 11400714819323198485), (1, .methodref 12 31), (0, .nameAndType 32 16), (0, u "unmix"), (2, u "law"), (0, u "(J)Z")] 3

def k1m0 : Method := { name := "<init>", desc := "()V", sig := { parameters := [], returnType := none }, accessFlags := 2, code := none }
def k1c1 : Code := { maxStack := 8, maxLocals := 4, code := method_2_code, exceptionTable := #[], attributes := #[] }
def k1m1 : Method := { name := "inverse", desc := "(J)J", sig := { parameters := [.long], returnType := some .long }, accessFlags := 10, code := some k1c1 }
def k1c2 : Code := { maxStack := 5, maxLocals := 4, code := method_3_code, exceptionTable := #[], attributes := #[] }
def k1m2 : Method := { name := "unmix", desc := "(J)J", sig := { parameters := [.long], returnType := some .long }, accessFlags := 10, code := some k1c2 }
def k1c3 : Code := { maxStack := 6, maxLocals := 9, code := code, exceptionTable := #[], attributes := #[] }
def k1m3 : Method := { name := "law", desc := "(J)Z", sig := { parameters := [.long], returnType := some .boolean }, accessFlags := 9, code := some k1c3 }
/-- com/example/settlewright/settlewright/SplitMix64NextPinLaw -/
def k1 : Class := { plain "com/example/settlewright/settlewright/SplitMix64NextPinLaw" (some 0) with
  accessFlags := 49
  interfaces := #[]
  cf := some (fileOf pool1 12 #[] #[{ accessFlags := 2, nameIndex := 5, descriptorIndex := 6, attributes := #[] }, { accessFlags := 10, nameIndex := 15, descriptorIndex := 16, attributes := #[] }, { accessFlags := 10, nameIndex := 32, descriptorIndex := 16, attributes := #[] }, { accessFlags := 9, nameIndex := 35, descriptorIndex := 36, attributes := #[] }] 49 2 #[] #[])
  fields := #[]
  methods := #[k1m0, k1m1, k1m2, k1m3]
  instanceTypes := #[]
  staticTypes := #[]
  resolved := Array.replicate 40 none
  statics := none }

def pool2 : Array CpInfo := pool [(1, .methodref 2 3), (0, .class_ 4), (0, .nameAndType 5 6), (0, u "java/lang/Object"), (0, u "<init>"), (0, u "()V"), (0, .fieldref 8 9), (0, .class_ 10), (0, .nameAndType 11 12), (0, u "com/example/settlewright/settlewright/SplitMix64"), (0, u "state"), (0, u "J"), (0, .long 11400714819323198485), (1, .long 13787848793156543929), (1, .long 10723151780598845931), (3, u "next"), (0, u "()J"), (6, u "INCREMENT"), (1, u "FIRST_MULTIPLIER"), (0, u "SECOND_MULTIPLIER"), (0, u "(J)V")] 6

def k2c0 : Code := { maxStack := 3, maxLocals := 3, code := prog_82_method_1_code, exceptionTable := #[], attributes := #[] }
def k2m0 : Method := { name := "<init>", desc := "(J)V", sig := { parameters := [.long], returnType := none }, accessFlags := 0, code := some k2c0 }
def k2c1 : Code := { maxStack := 5, maxLocals := 3, code := prog_82_method_2_code, exceptionTable := #[], attributes := #[] }
def k2m1 : Method := { name := "next", desc := "()J", sig := { parameters := [], returnType := some .long }, accessFlags := 0, code := some k2c1 }
/-- com/example/settlewright/settlewright/SplitMix64 -/
def k2 : Class := { plain "com/example/settlewright/settlewright/SplitMix64" (some 0) with
  accessFlags := 48
  interfaces := #[]
  cf := some (fileOf pool2 8 #[] #[{ accessFlags := 0, nameIndex := 5, descriptorIndex := 33, attributes := #[] }, { accessFlags := 0, nameIndex := 21, descriptorIndex := 22, attributes := #[] }] 48 2 #[] #[{ accessFlags := 26, nameIndex := 29, descriptorIndex := 12, attributes := #[] }, { accessFlags := 26, nameIndex := 31, descriptorIndex := 12, attributes := #[] }, { accessFlags := 26, nameIndex := 32, descriptorIndex := 12, attributes := #[] }, { accessFlags := 2, nameIndex := 11, descriptorIndex := 12, attributes := #[] }])
  fields := #[{ name := "INCREMENT", type := .long, accessFlags := 26, slot := 0, constantValue := 0 }, { name := "FIRST_MULTIPLIER", type := .long, accessFlags := 26, slot := 1, constantValue := 0 }, { name := "SECOND_MULTIPLIER", type := .long, accessFlags := 26, slot := 2, constantValue := 0 }, { name := "state", type := .long, accessFlags := 2, slot := 0, constantValue := 0 }]
  methods := #[k2m0, k2m1]
  instanceTypes := #[.long]
  staticTypes := #[.long, .long, .long]
  resolved := Array.replicate 40 none
  statics := none }

def pool3 : Array CpInfo := pool [(1, u "java/lang/Cloneable"), (0, .class_ 1), (0, u "java/lang/Object"), (0, .class_ 3)] 3

/-- java/lang/Cloneable -/
def k3 : Class := { plain "java/lang/Cloneable" (some 0) with
  accessFlags := 1537
  interfaces := #[]
  cf := some (fileOf pool3 2 #[] #[] 1537 4 #[] #[])
  fields := #[]
  methods := #[]
  instanceTypes := #[]
  staticTypes := #[]
  resolved := Array.replicate 8 none
  statics := none }

def pool4 : Array CpInfo := pool [(1, u "java/io/Serializable"), (0, .class_ 1), (0, u "java/lang/Object"), (0, .class_ 3)] 3

/-- java/io/Serializable -/
def k4 : Class := { plain "java/io/Serializable" (some 0) with
  accessFlags := 1537
  interfaces := #[]
  cf := some (fileOf pool4 2 #[] #[] 1537 4 #[] #[])
  fields := #[]
  methods := #[]
  instanceTypes := #[]
  staticTypes := #[]
  resolved := Array.replicate 8 none
  statics := none }

/-- the primitive byte -/
def k5 : Class := { plain "byte" none with kind := .primitive 'B', accessFlags := 0x411 }
/-- [B -/
def k6 : Class := { plain "[B" (some 0) with kind := .array 5 .byte, interfaces := #[3, 4], accessFlags := 1041 }

/-- the primitive int -/
def k7 : Class := { plain "int" none with kind := .primitive 'I', accessFlags := 0x411 }
/-- [I -/
def k8 : Class := { plain "[I" (some 0) with kind := .array 7 .int, interfaces := #[3, 4], accessFlags := 1041 }

def heap : Heap := #[]
def classes : Array Class := #[k0, k1, k2, k3, k4, k5, k6, k7, k8]
def interned : List (Array UInt16 × Addr) := []
def slotsUsed : Nat := 0
def theMethod : MethodId := ⟨1, 3⟩
def args0 : Array Value := #[.long 5]
def aboutOver (below : List Frame) : State where
  vm := { classes := classes, interned := interned.toArray }
  heap := heap
  slotsUsed := slotsUsed
  threads := #[{ frames := .invoking theMethod args0 :: below }]
def below0 : List Frame := [.native { method := ⟨0, 0⟩, args := #[] }]
def about1 : State := aboutOver below0
def p0 : Program := .bare "" "" ""
def e0 : Env := launch0.env 0 0 0
theorem w_frames : about1.frames = Frame.invoking theMethod args0 :: below0 := rfl
set_option maxRecDepth 65536 in
theorem w_args : argsFit about1.vm theMethod args0 = true := by decide +kernel
set_option maxRecDepth 65536 in
theorem w_heap : heapFits about1 = true := by decide +kernel
set_option maxRecDepth 65536 in
theorem w_runnable : about1.curStatus? = some .runnable := by decide +kernel
set_option maxRecDepth 65536 in
theorem w_alone : about1.alone = true := by decide +kernel
set_option maxRecDepth 65536 in
theorem w_named : about1.methodNamed? x = some theMethod := by decide +kernel
set_option maxRecDepth 65536 in
theorem w_hears : about1.hears theMethod below0 = true := by decide +kernel
set_option maxRecDepth 65536 in
theorem w_ripe : about1.ripe theMethod args0 below0 = true := by decide +kernel
theorem w_running : about1.status = .running := rfl
set_option maxRecDepth 65536 in
theorem w_room : about1.hasRoom e0.platform room_1 = true :=
  launch0.hasRoom_least _ room_1 (by decide +kernel) (by decide +kernel) (by decide +kernel) (by decide +kernel) (by decide +kernel) (by decide +kernel)
theorem allAtoms_all (ts : List Jvm.Cond) (a : Array Jvm.Value) (st : Jvm.State) : (allAtoms ts).before a st = ts.all (fun c => c.before a st) := by
  induction ts with
  | nil => rfl
  | cons c t ih =>
    show (Jvm.Cond.and c (allAtoms t)).before a st = _
    rw [Jvm.Cond.before_and, ih, List.all_cons]
def words1 : List Jvm.Cond := Jvm.Cond.code x code maxLocals ret :: tables_1
/-- a 'code' word, met by the world's own term for the bytes: nothing is compared byte by byte -/
theorem code_word {y : MethodName} {bytes : ByteArray} {mx : Nat} {rt : Option FieldType} {a : Array Value} {s : State} {m : MethodId} {meth : Method} {c : Code} (h1 : s.methodNamed? y = some m) (h2 : s.vm.method? m = some meth) (h3 : meth.code = some c) (h4 : c.code = bytes)
    (h5 : (c.maxLocals == mx && c.exceptionTable.isEmpty && decide (c.maxStack ≤ mostOperands) && decide (meth.sig.returnType = rt) && !meth.locks && decide (parseMethodDescriptor y.desc = some meth.sig)) = true) : (Jvm.Cond.code y bytes mx rt).before a s = true := by
  simp only [Bool.and_eq_true, beq_iff_eq, Bool.not_eq_true', decide_eq_true_eq] at h5
  obtain ⟨⟨⟨⟨⟨g1, g2⟩, g3⟩, g4⟩, g5⟩, g6⟩ := h5
  simp [Cond.before, Cond.holds, Cond.value, h1, h2, h3, h4, g1, g2, g3, g4, g5, g6]
def isCode : Jvm.Cond → Bool
  | .code _ _ _ _ => true
  | _ => false
theorem all_split {L : List Jvm.Cond} {P : Jvm.Cond → Bool} (h1 : L.all (fun c => isCode c || P c) = true) (h2 : ∀ c ∈ L.filter isCode, P c = true) : L.all P = true := by
  refine List.all_eq_true.mpr fun c hc => ?_
  have h := List.all_eq_true.mp h1 c hc
  rcases Bool.eq_false_or_eq_true (isCode c) with hi | hi
  · exact h2 c (List.mem_filter.mpr ⟨hc, hi⟩)
  · simpa [hi] using h
set_option maxRecDepth 65536 in
theorem w_c0 : (Jvm.Cond.code x code maxLocals ret).before args0 about1 = true := code_word (m := ⟨1, 3⟩) (meth := k1m3) (c := k1c3) (by decide +kernel) rfl rfl rfl (by decide +kernel)
set_option maxRecDepth 65536 in
theorem w_c1 : (Jvm.Cond.code ({ cls := "com/example/settlewright/settlewright/SplitMix64", name := "<init>", desc := "(J)V" } : Jvm.MethodName) prog_82_method_1_code (3 : Nat) (Option.none : Option Jvm.ClassFile.FieldType)).before args0 about1 = true := code_word (m := ⟨2, 0⟩) (meth := k2m0) (c := k2c0) (by decide +kernel) rfl rfl rfl (by decide +kernel)
set_option maxRecDepth 65536 in
theorem w_c2 : (Jvm.Cond.code ({ cls := "java/lang/Object", name := "<init>", desc := "()V" } : Jvm.MethodName) object_method_1_code (1 : Nat) (Option.none : Option Jvm.ClassFile.FieldType)).before args0 about1 = true := code_word (m := ⟨0, 0⟩) (meth := k0m0) (c := k0c0) (by decide +kernel) rfl rfl rfl (by decide +kernel)
set_option maxRecDepth 65536 in
theorem w_c3 : (Jvm.Cond.code ({ cls := "com/example/settlewright/settlewright/SplitMix64", name := "next", desc := "()J" } : Jvm.MethodName) prog_82_method_2_code (3 : Nat) (Option.some Jvm.ClassFile.FieldType.long)).before args0 about1 = true := code_word (m := ⟨2, 1⟩) (meth := k2m1) (c := k2c1) (by decide +kernel) rfl rfl rfl (by decide +kernel)
set_option maxRecDepth 65536 in
theorem w_c4 : (Jvm.Cond.code ({ cls := "com/example/settlewright/settlewright/SplitMix64NextPinLaw", name := "unmix", desc := "(J)J" } : Jvm.MethodName) method_3_code (4 : Nat) (Option.some Jvm.ClassFile.FieldType.long)).before args0 about1 = true := code_word (m := ⟨1, 2⟩) (meth := k1m2) (c := k1c2) (by decide +kernel) rfl rfl rfl (by decide +kernel)
set_option maxRecDepth 65536 in
theorem w_c5 : (Jvm.Cond.code ({ cls := "com/example/settlewright/settlewright/SplitMix64NextPinLaw", name := "inverse", desc := "(J)J" } : Jvm.MethodName) method_2_code (4 : Nat) (Option.some Jvm.ClassFile.FieldType.long)).before args0 about1 = true := code_word (m := ⟨1, 1⟩) (meth := k1m1) (c := k1c1) (by decide +kernel) rfl rfl rfl (by decide +kernel)
def codes1 : List Jvm.Cond := [Jvm.Cond.code x code maxLocals ret, Jvm.Cond.code ({ cls := "com/example/settlewright/settlewright/SplitMix64", name := "<init>", desc := "(J)V" } : Jvm.MethodName) prog_82_method_1_code (3 : Nat) (Option.none : Option Jvm.ClassFile.FieldType), Jvm.Cond.code ({ cls := "java/lang/Object", name := "<init>", desc := "()V" } : Jvm.MethodName) object_method_1_code (1 : Nat) (Option.none : Option Jvm.ClassFile.FieldType), Jvm.Cond.code ({ cls := "com/example/settlewright/settlewright/SplitMix64", name := "next", desc := "()J" } : Jvm.MethodName) prog_82_method_2_code (3 : Nat) (Option.some Jvm.ClassFile.FieldType.long), Jvm.Cond.code ({ cls := "com/example/settlewright/settlewright/SplitMix64NextPinLaw", name := "unmix", desc := "(J)J" } : Jvm.MethodName) method_3_code (4 : Nat) (Option.some Jvm.ClassFile.FieldType.long), Jvm.Cond.code ({ cls := "com/example/settlewright/settlewright/SplitMix64NextPinLaw", name := "inverse", desc := "(J)J" } : Jvm.MethodName) method_2_code (4 : Nat) (Option.some Jvm.ClassFile.FieldType.long)]
set_option maxRecDepth 65536 in
theorem codes_eq : words1.filter isCode = codes1 := rfl
theorem w_codes : ∀ c ∈ words1.filter isCode, c.before args0 about1 = true := by
  rw [codes_eq]
  intro c hc
  simp only [codes1, List.mem_cons, List.not_mem_nil, or_false] at hc
  rcases hc with rfl | rfl | rfl | rfl | rfl | rfl
  · exact w_c0
  · exact w_c1
  · exact w_c2
  · exact w_c3
  · exact w_c4
  · exact w_c5
set_option maxRecDepth 65536 in
theorem w_t1 : (words1.take 24).all (fun c => isCode c || c.before args0 about1) = true := by decide +kernel
set_option maxRecDepth 65536 in
theorem w_t2 : (words1.drop 24).all (fun c => isCode c || c.before args0 about1) = true := by decide +kernel
theorem w_tables : (allAtoms (Jvm.Cond.code x code maxLocals ret :: tables_1)).before args0 about1 = true := by
  rw [allAtoms_all]
  show words1.all (fun c => c.before args0 about1) = true
  refine all_split ?_ w_codes
  rw [← List.take_append_drop 24 words1, List.all_append, w_t1, w_t2]
  rfl
set_option maxRecDepth 65536 in
theorem w_case : (Jvm.Cond.and given_1 narrow_1).before args0 about1 = true := by decide +kernel
theorem w_applies : (headSpec (Jvm.Cond.code x code maxLocals ret :: tables_1) room_1).applies x e0.platform about1 = true :=
  (Spec.applies_iff w_frames).mpr ⟨w_running, w_runnable, w_alone, w_named, w_hears, w_ripe, w_room, w_tables⟩
theorem atStart : AtStart classFile x code maxLocals ret World_1 tables_1 room_1 Calls_1 rest_1 Pre_1 launch0 p0 e0 about1 theMethod args0 below0 :=
  ⟨lists_1, trivial, launch0.admits_env _ _ _, launch0.least_env, fairChoices_fair.cas, fairChoices_fair.clock, w_frames, w_args, w_heap, w_applies, trivial, trivial, w_case⟩
end start1
theorem witness_1 : WitnessClaimed_1 := ⟨start1.p0, start1.e0, start1.about1, start1.theMethod, start1.args0, start1.below0, start1.atStart⟩
end Jvm.Pilot.@@N@@
