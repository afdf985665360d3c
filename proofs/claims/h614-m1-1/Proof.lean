import JvmDerived
import JvmDerived.Pilot.@@N@@Statement
import JvmDerived.Pilot.@@N@@Code
set_option linter.unusedVariables false
set_option linter.unusedSimpArgs false
namespace Jvm.Pilot.@@N@@
open Jvm Jvm.ClassFile Sem Op Lib Jvm.Free Jvm.Stand Jvm.LawKit Jvm.RoadKit Bundle Jvm.Pilot.@@N@@.Jvm.D
section OwnLayer
variable {p : Program} {l : Launch} {e : Env} {R : Room} {s : State} {m : MethodId} {args : Array Value} {below : List Frame} {meth : Method} {c : Code} {T T' : State} {locs : List Loc} {cells slots : Nat} {Z : State} {h h' : Heap}
/-- from T at the frame g the body runs to its end, and the end is as Q says -/
def own_Go (p : Program) (e : Env) (below : List Frame) (s : State) (Q : Option Value → Heap → List Loc → Prop) (k n : Nat) (T : State) (g : JFrame) : Prop :=
  ∃ s₂ o, Steps p.tables e below (T.setTop g) s₂ ∧ s₂.status = .running ∧ Ended s₂ below o ∧ ∃ v L, o = .returned v ∧ Q v s₂.heap L ∧ FrameEnd s o s₂ L k n
theorem own_st {Q : Option Value → Heap → List Loc → Prop} {k n : Nat} {g g' : JFrame} (st : ∀ t, Steps p.tables e below (T'.setTop g') t → Steps p.tables e below (T.setTop g) t) (G : own_Go p e below s Q k n T' g') : own_Go p e below s Q k n T g := by
  obtain ⟨s₂, o, h1, h2⟩ := G
  exact ⟨s₂, o, st _ h1, h2⟩
theorem own_tr {Q : Option Value → Heap → List Loc → Prop} {k n : Nat} {g g' : JFrame} (st : Steps p.tables e below (T.setTop g) (T'.setTop g')) (G : own_Go p e below s Q k n T' g') : own_Go p e below s Q k n T g :=
  own_st (fun _ q => st.trans q) G
theorem own_nm {α : Type} {Q : Option Value → Heap → List Loc → Prop} {k n : Nat} {f : α → JFrame} (v : α) (G : ∀ z, z = v → own_Go p e below s Q k n T (f z)) : own_Go p e below s Q k n T (f v) := G v rfl
theorem own_ret {Q : Option Value → Heap → List Loc → Prop} {k n : Nat} (X : Stand p l e R s m args below meth c T locs cells slots) (hx : p.tables.exec = Jvm.exec) {pc : Nat} {Ls : Array Slot} {w : Value} {t : FieldType} {i : Instr} {rest : List Value} (hret : meth.sig.returnType = some t) (hlk : meth.locks = false) (hn : narrow t w = w)
    (hi : (i = .ireturn ∧ (t = .int ∨ t = .boolean ∨ t = .byte ∨ t = .char ∨ t = .short) ∧ ∃ z, w = .int z) ∨ (i = .lreturn ∧ t = .long ∧ ∃ z, w = .long z) ∨ (i = .dreturn ∧ t = .double ∧ ∃ z, w = .double z) ∨ (i = .freturn ∧ t = .float ∧ ∃ z, w = .float z) ∨ (i = .areturn ∧ t.isReference = true ∧ w.isRef = true))
    (hd : decode c.code pc = .ok (i, 1)) (eT : T.heap = h) (hk : cells ≤ k) (hl : slots ≤ n) (hq : Q (some w) h locs) : own_Go p e below s Q k n T (mkF m pc Ls (w :: rest)) := by
  obtain ⟨fs, hr, hrun, hended, hW, hsame⟩ := X.leave (v := some w) (fun q => by rw [hret] at q; cases q) hlk
  exact ⟨_, _, retOut X hx hret hn hi hd hr, hrun, hended, _, _, rfl, by show Q (some w) T.heap locs; rw [eT]; exact hq, ⟨_, rfl⟩, hW, hsame.mono hk hl⟩
theorem own_ret0 {Q : Option Value → Heap → List Loc → Prop} {k n : Nat} (X : Stand p l e R s m args below meth c T locs cells slots) (hx : p.tables.exec = Jvm.exec) {pc : Nat} {Ls : Array Slot} (hret : meth.sig.returnType = none) (hlk : meth.locks = false)
    (hd : decode c.code pc = .ok (.return_, 1)) (eT : T.heap = h) (hk : cells ≤ k) (hl : slots ≤ n) (hq : Q none h locs) : own_Go p e below s Q k n T (mkF m pc Ls []) := by
  obtain ⟨fs, hr, hrun, hended, hW, hsame⟩ := X.leave (v := none) (fun _ => rfl) hlk
  exact ⟨_, _, X.returnOut hx hret hd hr, hrun, hended, _, _, rfl, by show Q none T.heap locs; rw [eT]; exact hq, ⟨_, rfl⟩, hW, hsame.mono hk hl⟩
theorem own_cat {v : Value} (q : v.isRef = true) : v.category = 1 := by cases v <;> first | rfl | cases q
theorem own_Ins_keep {a : Addr} {C : String} {b : Bool} {ws : List Addr} (F : Ins Z h a C b) (K : Keep h h' ws) : Ins Z h' a C b := by
  obtain ⟨cell, cT, h1, h2, h3⟩ := F
  obtain ⟨c', q1, q2, q3, -⟩ := K.2.2 _ _ h1
  exact ⟨c', cT, q1, h2, by rw [q2, q3]; exact h3⟩
end OwnLayer
theorem own_ltlt {x y : Int64} (h : x < y) : ifCond.holds .lt (lcmpW x y) = true ∧ ifCond.holds .ge (lcmpW x y) = false ∧ ifCond.holds .gt (lcmpW y x) = true ∧ ifCond.holds .le (lcmpW y x) = false := by
  have a : lcmpW x y < 0 := (lw_lt x y).mpr h
  have b : 0 < lcmpW y x := (lw_gt y x).mpr h
  exact ⟨(if0 _ _).trans (tlt a).1, (if0 _ _).trans (tlt a).2.1, (if0 _ _).trans (tlt b).2.2.1, (if0 _ _).trans (tlt b).2.2.2⟩
theorem own_lflt {x y : Int64} (h : ¬ x < y) : ifCond.holds .lt (lcmpW x y) = false ∧ ifCond.holds .ge (lcmpW x y) = true ∧ ifCond.holds .gt (lcmpW y x) = false ∧ ifCond.holds .le (lcmpW y x) = true := by
  have a : ¬ lcmpW x y < 0 := fun q => h ((lw_lt x y).mp q)
  have b : ¬ 0 < lcmpW y x := fun q => h ((lw_gt y x).mp q)
  exact ⟨(if0 _ _).trans (flt a).1, (if0 _ _).trans (flt a).2.1, (if0 _ _).trans (flt b).2.2.1, (if0 _ _).trans (flt b).2.2.2⟩
theorem own_lteq {x y : Int64} (h : x = y) : ifCond.holds .eq (lcmpW x y) = true ∧ ifCond.holds .ne (lcmpW x y) = false := by
  have a : lcmpW x y = 0 := (lw_eq x y).mpr h
  exact ⟨(if0 _ _).trans (teq a).1, (if0 _ _).trans (teq a).2⟩
theorem own_lfeq {x y : Int64} (h : ¬ x = y) : ifCond.holds .eq (lcmpW x y) = false ∧ ifCond.holds .ne (lcmpW x y) = true := by
  have a : ¬ lcmpW x y = 0 := fun q => h ((lw_eq x y).mp q)
  exact ⟨(if0 _ _).trans (feq a).1, (if0 _ _).trans (feq a).2⟩
theorem own_ifc {α : Type} {P Q : Prop} [Decidable P] [Decidable Q] {x y : α} (h : P ↔ Q) : (if P then x else y) = if Q then x else y := by
  by_cases q : P
  · rw [if_pos q, if_pos (h.mp q)]
  · rw [if_neg q, if_neg (fun r => q (h.mpr r))]
section OwnBox
variable {Z : State} {h h' : Heap} {a0 args : Array Value} {a : Addr}
/-- a cache of boxes: an array of 256 places, each an object of exactly the class C -/
def own_box (Z : State) (h : Heap) (a : Addr) (C : String) : Prop := ∃ c : Cell, Arr Z h a c (.object C) ∧ c.slots.size = 256 ∧ ∀ i, i < 256 → ∃ b, c.slots[i]? = some (.ref b) ∧ Exa Z h b C
theorem own_box_ext {C : String} (F : own_box Z h a C) (E : Ext h h') : own_box Z h' a C := by
  obtain ⟨c, A, n, H⟩ := F
  exact ⟨c, A.ext E, n, fun i hi => by obtain ⟨b, q1, q2⟩ := H i hi; exact ⟨b, q1, q2.ext E⟩⟩
theorem own_elemE {A : Term} {i : Nat} {c : Cell} (evi : A.eval args Z none [i] Z = some (.ref a)) (hnn : ¬ i.toInt32 < 0) (hback : i.toInt32.toNatClampNeg = i) (hat : Z.arrayAt? a = some c) : (Term.elem A (.index 0)).eval args Z none [i] Z = c.slots[i]? := by simp [Term.eval, evi, hnn, hat, hback]
theorem own_box_start {C D f ds : String} {d : Jvm.Cond} (ev : (Term.static D f ds).eval args Z none [] Z = some (.ref a)) (hA : (Jvm.Cond.arrayOf (Term.static D f ds) (.object C)).before args Z = true)
    (hL : (Jvm.Cond.eq (.length (Term.static D f ds)) (.int 256)).before args Z = true) (hall : (Jvm.Cond.all (Term.static D f ds) (.and (.exactly (.elem (Term.static D f ds) (.index 0)) C) d)).before args Z = true) : own_box Z Z.heap a C := by
  obtain ⟨a', c, q1, hc, harr, hvm⟩ := Jvm.Free.IntBox.arrayOf_fwd hA ev
  cases q1
  have hat := Jvm.Free.IntBox.arrayAt_of hc harr hvm
  obtain ⟨hsz, hlen⟩ := Jvm.Free.IntBox.length_fwd hL ev hc harr hvm
  have h256 : c.slots.size = 256 := by
    have q := len_toInt hsz
    rw [hlen] at q
    have : ((256 : Int32)).toInt = 256 := by decide
    omega
  have hal := Cond.all_elim (c := .and (.exactly (.elem (Term.static D f ds) (.index 0)) C) d) ev hat (by simpa [Jvm.Cond.before, Jvm.Cond.holds] using hall)
  refine ⟨c, ⟨hc, harr, hvm⟩, h256, fun i hi => ?_⟩
  have hv : (Jvm.Cond.and (.exactly (.elem (Term.static D f ds) (.index 0)) C) d).value args Z none Z [i] = some true := hal i (by rw [h256]; exact hi)
  have hx := (and_e hv).1
  obtain ⟨b, cB, cell, k, e1, e2, e3, e4, e5, rfl, e7⟩ := Cond.exactly_spec (beq_iff_eq.mpr hx : (Jvm.Cond.exactly (.elem (Term.static D f ds) (.index 0)) C).holds args Z none Z [i] = true)
  have evi : (Term.static D f ds).eval args Z none [i] Z = some (.ref a) := by rw [← ev]; simp [Term.eval]
  obtain ⟨hnn, hback⟩ := Jvm.Free.IntBox.place_nonneg i hi
  have ev2 : (Term.elem (Term.static D f ds) (.index 0)).eval args Z none [i] Z = c.slots[i]? := own_elemE evi hnn hback hat
  exact ⟨b, ev2.symm.trans e1, cell, k, e3, e2, e4, e5, e7⟩
theorem own_NSroot {O K : String} {n : Nat} (w : (Jvm.Cond.noSuperclass O).before a0 Z = true) (wk : (Jvm.Cond.instantiable K n).before a0 Z = true) (hn : O ≠ K) : NS Z O K := by
  obtain ⟨c, k, h1, h2, h3, -, -⟩ := Cond.noSuperclass_spec w
  obtain ⟨t, kt, g1, -⟩ := Cond.instantiable_spec wk
  have ne := ids_ne h1 g1 hn
  refine ⟨c, t, h1, g1, fun fuel => ?_⟩
  cases fuel with
  | zero => rfl
  | succ f => simp [Vm.isSubclassAux, ne, h2, h3]
theorem own_NSno {C S K : String} {n : Nat} (w : (Jvm.Cond.superclass C S).before a0 Z = true) (wk : (Jvm.Cond.instantiable K n).before a0 Z = true) (q : NS Z C K) (hn : C ≠ K) : ∃ c t, Z.vm.findClass C = some c ∧ Z.vm.findClass K = some t ∧ Z.vm.assignable c t = false := by
  obtain ⟨c, t, h0, g0, n3⟩ := q
  obtain ⟨p, k, kp, h1, h2, h3, h4, h5, -, h7⟩ := Cond.superclass_spec h0 w
  obtain ⟨t', kt, g1, g2, g5, g6, -, -⟩ := Cond.instantiable_spec wk
  cases g0.symm.trans g1
  have g7 : kt.isInterface = false := (Bool.or_eq_false_iff.mp g6).1
  have ne := ids_ne h0 g0 hn
  refine ⟨c, t, h0, g0, ?_⟩
  show Z.vm.assignableAux (255 + 1) c t = false
  simp [Vm.assignableAux, ne, h2, g2, h5, g5, g7, Vm.isSubclass, n3]
theorem own_plc {j : Int32} {x : Int} (e : j.toInt = x + 128) (h1 : -128 ≤ x) (h2 : x ≤ 127) : ¬ (j < 0 ∨ 256 ≤ j.toNatClampNeg) ∧ j.toNatClampNeg < 256 := by
  have z : (0 : Int32).toInt = 0 := rfl
  have q : ¬ j < 0 := fun r => by have := Int32.lt_iff_toInt_lt.mp r; omega
  have r := nat_of q
  exact ⟨fun u => u.elim q (fun v => by omega), by omega⟩
theorem own_plcL (q : Int64) (h1 : ¬ q < (-128 : Int64)) (h2 : ¬ (127 : Int64) < q) : ¬ ((q.toInt32 + (128 : Int32)) < 0 ∨ 256 ≤ (q.toInt32 + (128 : Int32)).toNatClampNeg) ∧ (q.toInt32 + (128 : Int32)).toNatClampNeg < 256 := by
  have a : ¬ q.toInt < (-128 : Int64).toInt := fun z => h1 (Int64.lt_iff_toInt_lt.mpr z)
  have b : ¬ (127 : Int64).toInt < q.toInt := fun z => h2 (Int64.lt_iff_toInt_lt.mpr z)
  have a' : (-128 : Int64).toInt = -128 := rfl
  have b' : (127 : Int64).toInt = 127 := rfl
  have c := c_l2i q
  have d := rng32 q.toInt32
  have f := c_iadd q.toInt32 (128 : Int32)
  have f' : (128 : Int32).toInt = 128 := rfl
  have g := rng32 (q.toInt32 + (128 : Int32))
  exact own_plc (x := q.toInt) (by omega) (by omega) (by omega)
theorem own_plcI (q : Int32) (h1 : ¬ q < (-128 : Int32)) (h2 : ¬ (127 : Int32) < q) : ¬ ((q + (128 : Int32)) < 0 ∨ 256 ≤ (q + (128 : Int32)).toNatClampNeg) ∧ (q + (128 : Int32)).toNatClampNeg < 256 := by
  have a : ¬ q.toInt < (-128 : Int32).toInt := fun z => h1 (Int32.lt_iff_toInt_lt.mpr z)
  have b : ¬ (127 : Int32).toInt < q.toInt := fun z => h2 (Int32.lt_iff_toInt_lt.mpr z)
  have a' : (-128 : Int32).toInt = -128 := rfl
  have b' : (127 : Int32).toInt = 127 := rfl
  have f := c_iadd q (128 : Int32)
  have f' : (128 : Int32).toInt = 128 := rfl
  have g := rng32 (q + (128 : Int32))
  exact own_plc (x := q.toInt) (by omega) (by omega) (by omega)
end OwnBox
theorem own_sets {args : Array Value} {s : State} {r : Jvm.Cond} : ∀ {L : List Jvm.Cond}, (L.foldr Jvm.Cond.and r).before args s = true → ∀ c ∈ L, c.before args s = true
  | [], _ => fun _ h => nomatch h
  | d :: L, h => fun c hc => by
    have q : (Jvm.Cond.and d (L.foldr Jvm.Cond.and r)).before args s = true := h
    rw [Jvm.Cond.before_and, Bool.and_eq_true] at q
    rcases List.mem_cons.mp hc with rfl | hc
    · exact q.1
    · exact own_sets q.2 c hc
def own_fix (v : Int64) : Int64 := if v = (-9223372036854775808 : Int64) then (9223372036854775807 : Int64) else v
theorem own_fixne (v : Int64) : ¬ own_fix v = (-9223372036854775808 : Int64) := by
  unfold own_fix
  split
  · decide
  · assumption
theorem own_i2l (v : Int32) : ¬ v.toInt64 = (-9223372036854775808 : Int64) := fun q => by
  have a := congrArg Int64.toInt q
  rw [Int32.toInt_toInt64] at a
  have b := v.le_toInt
  have c : (-9223372036854775808 : Int64).toInt = -9223372036854775808 := rfl
  omega

theorem own_pn0 : plainName "java/lang/Number" = true := by first | (simp [plainName, overriddenIn]; done) | decide +kernel
theorem own_d_jdk_18_m1_0 : decode jdk_18_method_1_code 0 = .ok (.aload_n 0, 1) := by decide +kernel
theorem own_d_jdk_18_m1_1 : decode jdk_18_method_1_code 1 = .ok (.invokespecial 1, 3) := by decide +kernel
theorem own_d_jdk_18_m1_4 : decode jdk_18_method_1_code 4 = .ok (.return_, 1) := by decide +kernel
theorem own_pn1 : plainName "java/lang/Long" = true := by first | (simp [plainName, overriddenIn]; done) | decide +kernel
theorem own_d_jdk_35_m26_0 : decode jdk_35_method_26_code 0 = .ok (.aload_n 0, 1) := by decide +kernel
theorem own_d_jdk_35_m26_1 : decode jdk_35_method_26_code 1 = .ok (.invokespecial 270, 3) := by decide +kernel
theorem own_pd0 : parseMethodDescriptor "()V" = some ⟨[], none⟩ := by decide +kernel
theorem own_d_jdk_35_m26_4 : decode jdk_35_method_26_code 4 = .ok (.aload_n 0, 1) := by decide +kernel
theorem own_d_jdk_35_m26_5 : decode jdk_35_method_26_code 5 = .ok (.lload_n 1, 1) := by decide +kernel
theorem own_d_jdk_35_m26_6 : decode jdk_35_method_26_code 6 = .ok (.putfield 273, 3) := by decide +kernel
theorem own_d_jdk_35_m26_9 : decode jdk_35_method_26_code 9 = .ok (.return_, 1) := by decide +kernel
theorem own_d_jdk_35_m24_0 : decode jdk_35_method_24_code 0 = .ok (.sipush 128, 3) := by decide +kernel
theorem own_d_jdk_35_m24_3 : decode jdk_35_method_24_code 3 = .ok (.istore_n 2, 1) := by decide +kernel
theorem own_d_jdk_35_m24_4 : decode jdk_35_method_24_code 4 = .ok (.lload_n 0, 1) := by decide +kernel
theorem own_d_jdk_35_m24_5 : decode jdk_35_method_24_code 5 = .ok (.ldc2_w 230, 3) := by decide +kernel
theorem own_d_jdk_35_m24_8 : decode jdk_35_method_24_code 8 = .ok (.lcmp, 1) := by decide +kernel
theorem own_d_jdk_35_m24_9 : decode jdk_35_method_24_code 9 = .ok (.ifCond .lt 22, 3) := by decide +kernel
theorem own_d_jdk_35_m24_12 : decode jdk_35_method_24_code 12 = .ok (.lload_n 0, 1) := by decide +kernel
theorem own_d_jdk_35_m24_13 : decode jdk_35_method_24_code 13 = .ok (.ldc2_w 232, 3) := by decide +kernel
theorem own_d_jdk_35_m24_16 : decode jdk_35_method_24_code 16 = .ok (.lcmp, 1) := by decide +kernel
theorem own_d_jdk_35_m24_17 : decode jdk_35_method_24_code 17 = .ok (.ifCond .gt 14, 3) := by decide +kernel
theorem own_d_jdk_35_m24_20 : decode jdk_35_method_24_code 20 = .ok (.getstatic 234, 3) := by decide +kernel
theorem own_d_jdk_35_m24_23 : decode jdk_35_method_24_code 23 = .ok (.lload_n 0, 1) := by decide +kernel
theorem own_d_jdk_35_m24_24 : decode jdk_35_method_24_code 24 = .ok (.l2i, 1) := by decide +kernel
theorem own_d_jdk_35_m24_25 : decode jdk_35_method_24_code 25 = .ok (.sipush 128, 3) := by decide +kernel
theorem own_d_jdk_35_m24_28 : decode jdk_35_method_24_code 28 = .ok (.iadd, 1) := by decide +kernel
theorem own_d_jdk_35_m24_29 : decode jdk_35_method_24_code 29 = .ok (.aaload, 1) := by decide +kernel
theorem own_d_jdk_35_m24_30 : decode jdk_35_method_24_code 30 = .ok (.areturn, 1) := by decide +kernel
theorem own_d_jdk_35_m24_31 : decode jdk_35_method_24_code 31 = .ok (.new 1, 3) := by decide +kernel
theorem own_d_jdk_35_m24_34 : decode jdk_35_method_24_code 34 = .ok (.dup, 1) := by decide +kernel
theorem own_d_jdk_35_m24_35 : decode jdk_35_method_24_code 35 = .ok (.lload_n 0, 1) := by decide +kernel
theorem own_d_jdk_35_m24_36 : decode jdk_35_method_24_code 36 = .ok (.invokespecial 240, 3) := by decide +kernel
theorem own_pd1 : parseMethodDescriptor "(J)V" = some ⟨[.long], none⟩ := by decide +kernel
theorem own_d_jdk_35_m24_39 : decode jdk_35_method_24_code 39 = .ok (.areturn, 1) := by decide +kernel
theorem own_pn2 : plainName "java/lang/Record" = true := by first | (simp [plainName, overriddenIn]; done) | decide +kernel
theorem own_d_jdk_30_m1_0 : decode jdk_30_method_1_code 0 = .ok (.aload_n 0, 1) := by decide +kernel
theorem own_d_jdk_30_m1_1 : decode jdk_30_method_1_code 1 = .ok (.invokespecial 1, 3) := by decide +kernel
theorem own_d_jdk_30_m1_4 : decode jdk_30_method_1_code 4 = .ok (.return_, 1) := by decide +kernel
theorem own_pn3 : plainName "boxwood/YearsAndMonthsDurationEqualsPinLaw" = true := by first | (simp [plainName, overriddenIn]; done) | decide +kernel
theorem own_d_m2_0 : decode method_2_code 0 = .ok (.lload_n 0, 1) := by decide +kernel
theorem own_d_m2_1 : decode method_2_code 1 = .ok (.ldc2_w 9, 3) := by decide +kernel
theorem own_d_m2_4 : decode method_2_code 4 = .ok (.lcmp, 1) := by decide +kernel
theorem own_d_m2_5 : decode method_2_code 5 = .ok (.ifCond .ne 9, 3) := by decide +kernel
theorem own_d_m2_8 : decode method_2_code 8 = .ok (.ldc2_w 11, 3) := by decide +kernel
theorem own_d_m2_11 : decode method_2_code 11 = .ok (.goto 4, 3) := by decide +kernel
theorem own_d_m2_15 : decode method_2_code 15 = .ok (.lreturn, 1) := by decide +kernel
theorem own_d_m2_14 : decode method_2_code 14 = .ok (.lload_n 0, 1) := by decide +kernel
theorem own_pn4 : plainName "boxwood/Temporal$YearsAndMonthsDuration" = true := by first | (simp [plainName, overriddenIn]; done) | decide +kernel
theorem own_d_prog_138_m1_0 : decode prog_138_method_1_code 0 = .ok (.aload_n 0, 1) := by decide +kernel
theorem own_d_prog_138_m1_1 : decode prog_138_method_1_code 1 = .ok (.invokespecial 1, 3) := by decide +kernel
theorem own_d_prog_138_m1_4 : decode prog_138_method_1_code 4 = .ok (.lload_n 1, 1) := by decide +kernel
theorem own_d_prog_138_m1_5 : decode prog_138_method_1_code 5 = .ok (.ldc2_w 9, 3) := by decide +kernel
theorem own_d_prog_138_m1_8 : decode prog_138_method_1_code 8 = .ok (.lcmp, 1) := by decide +kernel
theorem own_d_prog_138_m1_9 : decode prog_138_method_1_code 9 = .ok (.ifCond .ne 13, 3) := by decide +kernel
theorem own_d_prog_138_m1_22 : decode prog_138_method_1_code 22 = .ok (.aload_n 0, 1) := by decide +kernel
theorem own_d_prog_138_m1_23 : decode prog_138_method_1_code 23 = .ok (.lload_n 1, 1) := by decide +kernel
theorem own_d_prog_138_m1_24 : decode prog_138_method_1_code 24 = .ok (.putfield 18, 3) := by decide +kernel
theorem own_d_prog_138_m1_27 : decode prog_138_method_1_code 27 = .ok (.return_, 1) := by decide +kernel
theorem own_d_prog_138_m12_0 : decode prog_138_method_12_code 0 = .ok (.aload_n 1, 1) := by decide +kernel
theorem own_d_prog_138_m12_1 : decode prog_138_method_12_code 1 = .ok (.instanceof 19, 3) := by decide +kernel
theorem own_d_prog_138_m12_4 : decode prog_138_method_12_code 4 = .ok (.ifCond .eq 24, 3) := by decide +kernel
theorem own_d_prog_138_m12_7 : decode prog_138_method_12_code 7 = .ok (.aload_n 1, 1) := by decide +kernel
theorem own_d_prog_138_m12_8 : decode prog_138_method_12_code 8 = .ok (.checkcast 19, 3) := by decide +kernel
theorem own_d_prog_138_m12_11 : decode prog_138_method_12_code 11 = .ok (.astore_n 2, 1) := by decide +kernel
theorem own_d_prog_138_m12_12 : decode prog_138_method_12_code 12 = .ok (.aload_n 0, 1) := by decide +kernel
theorem own_d_prog_138_m12_13 : decode prog_138_method_12_code 13 = .ok (.getfield 18, 3) := by decide +kernel
theorem own_d_prog_138_m12_16 : decode prog_138_method_12_code 16 = .ok (.aload_n 2, 1) := by decide +kernel
theorem own_d_prog_138_m12_17 : decode prog_138_method_12_code 17 = .ok (.getfield 18, 3) := by decide +kernel
theorem own_d_prog_138_m12_20 : decode prog_138_method_12_code 20 = .ok (.lcmp, 1) := by decide +kernel
theorem own_d_prog_138_m12_21 : decode prog_138_method_12_code 21 = .ok (.ifCond .ne 7, 3) := by decide +kernel
theorem own_d_prog_138_m12_28 : decode prog_138_method_12_code 28 = .ok (.iconst 0, 1) := by decide +kernel
theorem own_d_prog_138_m12_29 : decode prog_138_method_12_code 29 = .ok (.ireturn, 1) := by decide +kernel
theorem own_d_prog_138_m12_24 : decode prog_138_method_12_code 24 = .ok (.iconst 1, 1) := by decide +kernel
theorem own_d_prog_138_m12_25 : decode prog_138_method_12_code 25 = .ok (.goto 4, 3) := by decide +kernel
theorem own_pd2 : parseMethodDescriptor "(J)J" = some ⟨[.long], some .long⟩ := by decide +kernel
theorem own_pd3 : parseMethodDescriptor "(Ljava/lang/Object;)Z" = some ⟨[(.object "java/lang/Object")], some .boolean⟩ := by decide +kernel
theorem own_pd4 : parseMethodDescriptor "(J)Ljava/lang/Long;" = some ⟨[.long], some (.object "java/lang/Long")⟩ := by decide +kernel
def Q_numinit (Z : State) (a1 : Addr) (h0 : Heap) (n0 : Nat) (v : Option Value) (h : Heap) (L : List Loc) : Prop := v = none ∧ Fr n0 L ∧ (h = h0)
theorem ef_numinit (m : MethodId) (x0 : Addr)  : entryFrame m #[(.ref x0)] 1 = mkF m 0 #[.val (.ref x0)] [] := by first | (simp [entryFrame, mkF, argsToLocals, Value.category]; done) | rfl
set_option maxRecDepth 65536 in
set_option maxHeartbeats 40000000 in
theorem rm_numinit (l : Launch) (Z : State) (a0 : Array Value) (hw : ∀ d ∈ tables_1, d.before a0 Z = true) (ws : List Jvm.Cond) (a1 : Addr) (h0 : Heap) (n0 : Nat) (Zs : n0 ≤ h0.size)  :
    MetFree l (⟨"java/lang/Number", "<init>", "()V"⟩ : MethodName) (head1 (Jvm.Cond.code (⟨"java/lang/Number", "<init>", "()V"⟩ : MethodName) jdk_18_method_1_code 1 none :: ws) ({ frames := 1, cells := 0, slots := 0, locals := 12 } : Room)) (fun a U => a = #[(.ref a1)] ∧ Z.Warmed39 U.vm ∧ U.heap = h0) (fun _ _ _ _ _ => True) (fun _ U o U' => ∃ v L, o = .returned v ∧ (Q_numinit Z a1 h0 n0) v U'.heap L ∧ FrameEnd U o U' L ({ frames := 1, cells := 0, slots := 0, locals := 12 } : Room).cells ({ frames := 1, cells := 0, slots := 0, locals := 12 } : Room).slots) := by
  refine MetFree.of_bodySF (plainFor_of_name own_pn0) hisR ?_
  intro p e s m args below meth c s₁ Bd hml0 hP hK
  obtain ⟨rfl, hZ, hh⟩ := hP
  have hx := Bd.exec
  have hby := Bd.bytes
  have hlk := BodyLoose.notSynchronized Bd
  have hret := Bd.returns
  have hml : c.maxLocals = 1 := hml0
  have hown : s.vm.findClass "java/lang/Number" = some m.cls := findClass_of_methodNamed Bd.named
  have hnm := (name_of_methodNamed Bd.named Bd.method).1
  have X : Stand p l e ({ frames := 1, cells := 0, slots := 0, locals := 12 } : Room) s m #[(.ref a1)] below meth c s₁ [] 0 0 := Stand.of_body Bd
  have eT : s₁.heap = h0 := by rw [← hh, Bd.state]; rfl
  have N := Fr.nil n0
  have K0 : Keep h0 h0 [] := Keep.refl _ _
  show own_Go p e below s (Q_numinit Z a1 h0 n0) ({ frames := 1, cells := 0, slots := 0, locals := 12 } : Room).cells ({ frames := 1, cells := 0, slots := 0, locals := 12 } : Room).slots s₁ (entryFrame m #[(.ref a1)] 1)
  rw [ef_numinit m a1]
  refine own_st (T' := s₁) (g' := (mkF m 1 #[.val (.ref a1)] [(.ref a1)])) (fun _ zq => XS.aloadN X.here hx rfl (hb hby own_d_jdk_18_m1_0) rfl rfl zq) ?_
  obtain ⟨T1, X1, e1, st1⟩ := initO X hx hZ hown (hw _ (List.mem_of_getElem? (i := 52) rfl)) (hw _ (List.mem_of_getElem? (i := 17) rfl)) (hw _ (List.mem_of_getElem? (i := 18) rfl)) eT (g := (mkF m 1 #[.val (.ref a1)] [(.ref a1)])) rfl (by rw [hml]; rfl) rfl (hb hby own_d_jdk_18_m1_1) (by decide) (W := 0) (by show 2 * 0 + _ ≤ _; exact Nat.le_of_eq rfl) (by decide)
  refine own_st (g' := (mkF m 4 #[.val (.ref a1)] [])) st1 ?_
  exact own_ret0 X1 hx hret hlk (hb hby own_d_jdk_18_m1_4) e1 (Nat.le_of_ble_eq_true rfl) (Nat.le_of_ble_eq_true rfl) ⟨rfl, N, rfl⟩
def Q_boxinit (Z : State) (a1 : Addr) (q : Int64) (h0 : Heap) (n0 : Nat) (v : Option Value) (h : Heap) (L : List Loc) : Prop := v = none ∧ Fr n0 L ∧ (Keep h0 h [a1]) ∧ (Exa Z h a1 "java/lang/Long")
theorem ef_boxinit (m : MethodId) (x0 : Addr) (x1 : Int64)  : entryFrame m #[(.ref x0), (.long x1)] 3 = mkF m 0 #[.val (.ref x0), .val (.long x1), .second] [] := by first | (simp [entryFrame, mkF, argsToLocals, Value.category]; done) | rfl
set_option maxRecDepth 65536 in
set_option maxHeartbeats 40000000 in
theorem rm_boxinit (l : Launch) (Z : State) (a0 : Array Value) (hw : ∀ d ∈ tables_1, d.before a0 Z = true) (ws : List Jvm.Cond) (a1 : Addr) (q : Int64) (h0 : Heap) (n0 : Nat) (Zs : n0 ≤ h0.size) (E_a1 : Exa Z h0 a1 "java/lang/Long") (F_a1 : Fld Z h0 a1 "java/lang/Long" "value" "J" (.long (0 : Int64))) (g_a1 : n0 ≤ a1) :
    MetFree l (⟨"java/lang/Long", "<init>", "(J)V"⟩ : MethodName) (head1 (Jvm.Cond.code (⟨"java/lang/Long", "<init>", "(J)V"⟩ : MethodName) jdk_35_method_26_code 3 none :: ws) ({ frames := 2, cells := 0, slots := 0, locals := 26 } : Room)) (fun a U => a = #[(.ref a1), (.long q)] ∧ Z.Warmed39 U.vm ∧ U.heap = h0) (fun _ _ _ _ _ => True) (fun _ U o U' => ∃ v L, o = .returned v ∧ (Q_boxinit Z a1 q h0 n0) v U'.heap L ∧ FrameEnd U o U' L ({ frames := 2, cells := 0, slots := 0, locals := 26 } : Room).cells ({ frames := 2, cells := 0, slots := 0, locals := 26 } : Room).slots) := by
  refine MetFree.of_bodySF (plainFor_of_name own_pn1) hisR ?_
  intro p e s m args below meth c s₁ Bd hml0 hP hK
  obtain ⟨rfl, hZ, hh⟩ := hP
  have hx := Bd.exec
  have hby := Bd.bytes
  have hlk := BodyLoose.notSynchronized Bd
  have hret := Bd.returns
  have hml : c.maxLocals = 3 := hml0
  have hown : s.vm.findClass "java/lang/Long" = some m.cls := findClass_of_methodNamed Bd.named
  have hnm := (name_of_methodNamed Bd.named Bd.method).1
  have X : Stand p l e ({ frames := 2, cells := 0, slots := 0, locals := 26 } : Room) s m #[(.ref a1), (.long q)] below meth c s₁ [] 0 0 := Stand.of_body Bd
  have eT : s₁.heap = h0 := by rw [← hh, Bd.state]; rfl
  have N := Fr.nil n0
  have K0 : Keep h0 h0 [a1] := Keep.refl _ _
  show own_Go p e below s (Q_boxinit Z a1 q h0 n0) ({ frames := 2, cells := 0, slots := 0, locals := 26 } : Room).cells ({ frames := 2, cells := 0, slots := 0, locals := 26 } : Room).slots s₁ (entryFrame m #[(.ref a1), (.long q)] 3)
  rw [ef_boxinit m a1 q]
  refine own_st (T' := s₁) (g' := (mkF m 1 #[.val (.ref a1), .val (.long q), .second] [(.ref a1)])) (fun _ zq => XS.aloadN X.here hx rfl (hb hby own_d_jdk_35_m26_0) rfl rfl zq) ?_
  obtain ⟨_, _, ⟨T2, L2, k2, n2⟩, -, X2, ⟨Lc2, hQ2, l2, y2, z2⟩, st2⟩ := X.specialBack hx (y := (⟨"java/lang/Number", "<init>", "()V"⟩ : MethodName)) rfl hown (mvT hZ (hw _ (List.mem_of_getElem? (i := 46) rfl))) (mvT hZ (hw _ (List.mem_of_getElem? (i := 47) rfl))) (mvT hZ (hw _ (List.mem_of_getElem? (i := 51) rfl))) (by decide) (backOf (W := 0) (rm_numinit l Z a0 hw [] a1 h0 n0 Zs ) hZ (hw _ (List.mem_of_getElem? (i := 51) rfl)) (hw _ (List.mem_of_getElem? (i := 50) rfl)) (by decide) (by decide)) (g := (mkF m 1 #[.val (.ref a1), .val (.long q), .second] [(.ref a1)])) rfl (by rw [hml]; rfl) (Steps.refl _) (a := a1) (argsL := []) (rest := []) (lenOf own_pd0 rfl) rfl (by show 2 * 0 + _ ≤ _; exact Nat.le_of_eq rfl) (hb hby own_d_jdk_35_m26_1) (fun _ _ => ⟨rfl, eT, (by decide : 0 + 0 ≤ _), (by decide : 0 + 0 ≤ _)⟩)
  dsimp only [Pt.U, Pt.locs, Pt.cells, Pt.slots] at X2 l2 y2 z2 st2 hQ2
  subst l2 y2 z2
  obtain ⟨rfl, Nq2, eq2⟩ := hQ2
  replace N := Fr.app N Nq2
  refine own_tr (g' := (mkF m 4 #[.val (.ref a1), .val (.long q), .second] [])) st2 ?_
  refine own_st (T' := T2) (g' := (mkF m 5 #[.val (.ref a1), .val (.long q), .second] [(.ref a1)])) (fun _ zq => XS.aloadN X2.here hx rfl (hb hby own_d_jdk_35_m26_4) rfl rfl zq) ?_
  refine own_st (T' := T2) (g' := (mkF m 6 #[.val (.ref a1), .val (.long q), .second] [(.long q), (.ref a1)])) (fun _ zq => XS.lloadN X2.here hx rfl (hb hby own_d_jdk_35_m26_5) rfl zq) ?_
  obtain ⟨T3, h3, X3, e3, W3, st3⟩ := putF X2 hx hZ hown (host := "") (Or.inl (hw _ (List.mem_of_getElem? (i := 53) rfl))) Via.refl (eq2) F_a1 E_a1 (Or.inr ⟨(hw _ (List.mem_of_getElem? (i := 54) rfl)), rfl, hnm⟩) (hw _ (List.mem_of_getElem? (i := 41) rfl)) (ty := .long) (by decide) rfl rfl (g := (mkF m 6 #[.val (.ref a1), .val (.long q), .second] [(.long q), (.ref a1)])) rfl rfl (hb hby own_d_jdk_35_m26_6)
  replace E_a1 := E_a1.wr W3
  replace F_a1 := F_a1.same W3
  replace Zs := Nat.le_trans Zs (Keep.of_wr W3).1
  replace K0 := K0.wr W3 (Or.inl (List.mem_of_getElem? (i := 0) rfl))
  replace N := Fr.snoc X3 N g_a1
  refine own_st (g' := (mkF m 9 #[.val (.ref a1), .val (.long q), .second] [])) st3 ?_
  exact own_ret0 X3 hx hret hlk (hb hby own_d_jdk_35_m26_9) e3 (Nat.le_of_ble_eq_true rfl) (Nat.le_of_ble_eq_true rfl) ⟨rfl, N, K0, E_a1⟩
def Q_valueOf (Z : State) (q : Int64) (cC : Addr) (h0 : Heap) (n0 : Nat) (v : Option Value) (h : Heap) (L : List Loc) : Prop := ∃ r : Addr, v = some (.ref r) ∧ Fr n0 L ∧ (Keep h0 h []) ∧ (Exa Z h r "java/lang/Long")
theorem ef_valueOf (m : MethodId) (x0 : Int64)  : entryFrame m #[(.long x0)] 3 = mkF m 0 #[.val (.long x0), .second, .unset] [] := by first | (simp [entryFrame, mkF, argsToLocals, Value.category]; done) | rfl
set_option maxRecDepth 65536 in
set_option maxHeartbeats 40000000 in
theorem rm_valueOf (l : Launch) (Z : State) (a0 : Array Value) (hw : ∀ d ∈ tables_1, d.before a0 Z = true) (ws : List Jvm.Cond) (q : Int64) (cC : Addr) (h0 : Heap) (n0 : Nat) (Zs : n0 ≤ h0.size) (O : Old Z n0 h0) (S0 : Sta Z Z.heap "java/lang/Long$LongCache" "cache" "[Ljava/lang/Long;" (.ref cC)) (B0 : own_box Z Z.heap cC "java/lang/Long") :
    MetFree l (⟨"java/lang/Long", "valueOf", "(J)Ljava/lang/Long;"⟩ : MethodName) (head1 (Jvm.Cond.code (⟨"java/lang/Long", "valueOf", "(J)Ljava/lang/Long;"⟩ : MethodName) jdk_35_method_24_code 3 (some (.object "java/lang/Long")) :: ws) ({ frames := 3, cells := 1, slots := 1, locals := 60 } : Room)) (fun a U => a = #[(.long q)] ∧ Z.Warmed39 U.vm ∧ U.heap = h0) (fun _ _ _ _ _ => True) (fun _ U o U' => ∃ v L, o = .returned v ∧ (Q_valueOf Z q cC h0 n0) v U'.heap L ∧ FrameEnd U o U' L ({ frames := 3, cells := 1, slots := 1, locals := 60 } : Room).cells ({ frames := 3, cells := 1, slots := 1, locals := 60 } : Room).slots) := by
  refine MetFree.of_bodySF (plainFor_of_name own_pn1) hisR ?_
  intro p e s m args below meth c s₁ Bd hml0 hP hK
  obtain ⟨rfl, hZ, hh⟩ := hP
  have hx := Bd.exec
  have hby := Bd.bytes
  have hlk := BodyLoose.notSynchronized Bd
  have hret := Bd.returns
  have hml : c.maxLocals = 3 := hml0
  have hown : s.vm.findClass "java/lang/Long" = some m.cls := findClass_of_methodNamed Bd.named
  have hnm := (name_of_methodNamed Bd.named Bd.method).1
  have X : Stand p l e ({ frames := 3, cells := 1, slots := 1, locals := 60 } : Room) s m #[(.long q)] below meth c s₁ [] 0 0 := Stand.of_body Bd
  have eT : s₁.heap = h0 := by rw [← hh, Bd.state]; rfl
  have N := Fr.nil n0
  have K0 : Keep h0 h0 [] := Keep.refl _ _
  show own_Go p e below s (Q_valueOf Z q cC h0 n0) ({ frames := 3, cells := 1, slots := 1, locals := 60 } : Room).cells ({ frames := 3, cells := 1, slots := 1, locals := 60 } : Room).slots s₁ (entryFrame m #[(.long q)] 3)
  rw [ef_valueOf m q]
  refine own_st (T' := s₁) (g' := (mkF m 3 #[.val (.long q), .second, .unset] [(.int (128 : Int32))])) (fun _ zq => XS.sipush X.here hx rfl (hb hby own_d_jdk_35_m24_0) zq) ?_
  refine own_st (T' := s₁) (g' := (mkF m 4 #[.val (.long q), .second, .val (.int (128 : Int32))] [])) (fun _ zq => XS.istoreN X.here hx rfl (hb hby own_d_jdk_35_m24_3) rfl (l' := #[.val (.long q), .second, .val (.int (128 : Int32))]) rfl zq) ?_
  refine own_st (T' := s₁) (g' := (mkF m 5 #[.val (.long q), .second, .val (.int (128 : Int32))] [(.long q)])) (fun _ zq => XS.lloadN X.here hx rfl (hb hby own_d_jdk_35_m24_4) rfl zq) ?_
  refine own_st (T' := s₁) (g' := (mkF m 8 #[.val (.long q), .second, .val (.int (128 : Int32))] [(.long (-128 : Int64)), (.long q)])) (fun _ zq => X.ldc2Long hx hown (mvT hZ (hw _ (List.mem_of_getElem? (i := 33) rfl))) (g := (mkF m 5 #[.val (.long q), .second, .val (.int (128 : Int32))] [(.long q)])) rfl (hb hby own_d_jdk_35_m24_5) _ zq) ?_
  refine own_st (T' := s₁) (g' := (mkF m 9 #[.val (.long q), .second, .val (.int (128 : Int32))] [(.int (lcmpW q (-128 : Int64)))])) (fun _ zq => XS.lcmp X.here hx rfl (hb hby own_d_jdk_35_m24_8) rfl zq) ?_
  suffices J31 : own_Go p e below s (Q_valueOf Z q cC h0 n0) ({ frames := 3, cells := 1, slots := 1, locals := 60 } : Room).cells ({ frames := 3, cells := 1, slots := 1, locals := 60 } : Room).slots s₁ (mkF m 31 #[.val (.long q), .second, .val (.int (128 : Int32))] []) by
    by_cases hc1 : q < (-128 : Int64)
    · skip
      refine own_st (T' := s₁) (g' := (mkF m 31 #[.val (.long q), .second, .val (.int (128 : Int32))] [])) (fun _ zq => XS.ifYes X.here hx rfl (pc0 := 9) (pc' := 31) rfl (hb hby own_d_jdk_35_m24_9) rfl (own_ltlt hc1).1 (by decide) (by decide) zq) ?_
      exact J31
    · skip
      refine own_st (T' := s₁) (g' := (mkF m 12 #[.val (.long q), .second, .val (.int (128 : Int32))] [])) (fun _ zq => XS.ifNo X.here hx rfl (hb hby own_d_jdk_35_m24_9) rfl (own_lflt hc1).1 zq) ?_
      refine own_st (T' := s₁) (g' := (mkF m 13 #[.val (.long q), .second, .val (.int (128 : Int32))] [(.long q)])) (fun _ zq => XS.lloadN X.here hx rfl (hb hby own_d_jdk_35_m24_12) rfl zq) ?_
      refine own_st (T' := s₁) (g' := (mkF m 16 #[.val (.long q), .second, .val (.int (128 : Int32))] [(.long (127 : Int64)), (.long q)])) (fun _ zq => X.ldc2Long hx hown (mvT hZ (hw _ (List.mem_of_getElem? (i := 34) rfl))) (g := (mkF m 13 #[.val (.long q), .second, .val (.int (128 : Int32))] [(.long q)])) rfl (hb hby own_d_jdk_35_m24_13) _ zq) ?_
      refine own_st (T' := s₁) (g' := (mkF m 17 #[.val (.long q), .second, .val (.int (128 : Int32))] [(.int (lcmpW q (127 : Int64)))])) (fun _ zq => XS.lcmp X.here hx rfl (hb hby own_d_jdk_35_m24_16) rfl zq) ?_
      by_cases hc2 : (127 : Int64) < q
      · skip
        refine own_st (T' := s₁) (g' := (mkF m 31 #[.val (.long q), .second, .val (.int (128 : Int32))] [])) (fun _ zq => XS.ifYes X.here hx rfl (pc0 := 17) (pc' := 31) rfl (hb hby own_d_jdk_35_m24_17) rfl (own_ltlt hc2).2.2.1 (by decide) (by decide) zq) ?_
        exact J31
      · skip
        refine own_st (T' := s₁) (g' := (mkF m 20 #[.val (.long q), .second, .val (.int (128 : Int32))] [])) (fun _ zq => XS.ifNo X.here hx rfl (hb hby own_d_jdk_35_m24_17) rfl (own_lflt hc2).2.2.1 zq) ?_
        have S_0 := S0.ext O.2
        obtain ⟨T4, X4, e4, st4⟩ := getS2 X hx hZ hown (host := "") (Or.inl (hw _ (List.mem_of_getElem? (i := 35) rfl))) Via.refl eT S_0 (g := (mkF m 20 #[.val (.long q), .second, .val (.int (128 : Int32))] [])) rfl (hb hby own_d_jdk_35_m24_20)
        refine own_st (g' := (mkF m 23 #[.val (.long q), .second, .val (.int (128 : Int32))] [(.ref cC)])) st4 ?_
        refine own_st (T' := T4) (g' := (mkF m 24 #[.val (.long q), .second, .val (.int (128 : Int32))] [(.long q), (.ref cC)])) (fun _ zq => XS.lloadN X4.here hx rfl (hb hby own_d_jdk_35_m24_23) rfl zq) ?_
        refine own_st (T' := T4) (g' := (mkF m 25 #[.val (.long q), .second, .val (.int (128 : Int32))] [(.int (q.toInt32)), (.ref cC)])) (fun _ zq => XS.l2i X4.here hx rfl (hb hby own_d_jdk_35_m24_24) rfl zq) ?_
        refine own_st (T' := T4) (g' := (mkF m 28 #[.val (.long q), .second, .val (.int (128 : Int32))] [(.int (128 : Int32)), (.int (q.toInt32)), (.ref cC)])) (fun _ zq => XS.sipush X4.here hx rfl (hb hby own_d_jdk_35_m24_25) zq) ?_
        refine own_st (T' := T4) (g' := (mkF m 29 #[.val (.long q), .second, .val (.int (128 : Int32))] [(.int ((q.toInt32) + (128 : Int32))), (.ref cC)])) (fun _ zq => XS.iadd X4.here hx rfl (hb hby own_d_jdk_35_m24_28) rfl zq) ?_
        obtain ⟨cc, Ar, Sz, Hb⟩ := own_box_ext B0 O.2
        obtain ⟨bx, hat, Ebx⟩ := Hb _ (own_plcL q hc1 hc2).2
        refine own_st (T' := T4) (g' := (mkF m 30 #[.val (.long q), .second, .val (.int (128 : Int32))] [(.ref bx)])) (fun _ zq => X4.aaload hx (j := ((q.toInt32) + (128 : Int32))) (v := .ref bx) (by rw [e4]; exact Ar.1) (State.isArrayOf_alike hZ.alike Ar.2.1) rfl Ar.2.2 (by rw [Sz]; exact (own_plcL q hc1 hc2).1) hat (g := (mkF m 29 #[.val (.long q), .second, .val (.int (128 : Int32))] [(.int ((q.toInt32) + (128 : Int32))), (.ref cC)])) rfl rfl (hb hby own_d_jdk_35_m24_29) _ zq) ?_
        exact own_ret X4 hx hret hlk (i := .areturn) rfl (Or.inr (Or.inr (Or.inr (Or.inr ⟨rfl, rfl, rfl⟩)))) (hb hby own_d_jdk_35_m24_30) e4 (Nat.le_of_ble_eq_true rfl) (Nat.le_of_ble_eq_true rfl) ⟨bx, rfl, N, K0, Ebx⟩
  obtain ⟨T5, h5, X5, e5, E5, A5, D5, -, st5⟩ := newO X hx hZ hown (hw _ (List.mem_of_getElem? (i := 40) rfl)) (hw _ (List.mem_of_getElem? (i := 41) rfl)) (hw _ (List.mem_of_getElem? (i := 31) rfl)) eT (g := (mkF m 31 #[.val (.long q), .second, .val (.int (128 : Int32))] [])) rfl (hb hby own_d_jdk_35_m24_31) (by decide) (by decide)
  obtain ⟨b5, ga5⟩ : ∃ z, z = h0.size := ⟨_, rfl⟩
  rw [← ga5] at A5 D5 st5
  have g_b5 : n0 ≤ b5 := Nat.le_trans Zs (Nat.le_of_eq ga5.symm)
  have sz_b5 : h0.size ≤ b5 := Nat.le_trans K0.1 (Nat.le_of_eq ga5.symm)
  have E_b5 := A5
  replace O := O.ext E5
  replace Zs := Nat.le_trans Zs E5.1
  replace K0 := K0.ext E5
  have F_b5_value : Fld Z h5 b5 "java/lang/Long" "value" "J" (.long (0 : Int64)) := D5 (Or.inr (hw _ (List.mem_of_getElem? (i := 54) rfl))) (ty := .long) (by decide)
  refine own_st (g' := (mkF m 34 #[.val (.long q), .second, .val (.int (128 : Int32))] [(.ref b5)])) st5 ?_
  refine own_st (T' := T5) (g' := (mkF m 35 #[.val (.long q), .second, .val (.int (128 : Int32))] [(.ref b5), (.ref b5)])) (fun _ zq => XS.dup X5.here hx rfl (hb hby own_d_jdk_35_m24_34) rfl rfl zq) ?_
  refine own_st (T' := T5) (g' := (mkF m 36 #[.val (.long q), .second, .val (.int (128 : Int32))] [(.long q), (.ref b5), (.ref b5)])) (fun _ zq => XS.lloadN X5.here hx rfl (hb hby own_d_jdk_35_m24_35) rfl zq) ?_
  obtain ⟨_, _, ⟨T6, L6, k6, n6⟩, -, X6, ⟨Lc6, hQ6, l6, y6, z6⟩, st6⟩ := X5.specialBack hx (y := (⟨"java/lang/Long", "<init>", "(J)V"⟩ : MethodName)) rfl hown (mvT hZ (hw _ (List.mem_of_getElem? (i := 42) rfl))) (mvT hZ (hw _ (List.mem_of_getElem? (i := 43) rfl))) (mvT hZ (hw _ (List.mem_of_getElem? (i := 45) rfl))) (by decide) (backOf (W := 1) (rm_boxinit l Z a0 hw [] b5 q h5 n0 Zs E_b5 F_b5_value g_b5) hZ (hw _ (List.mem_of_getElem? (i := 45) rfl)) (hw _ (List.mem_of_getElem? (i := 31) rfl)) (by decide) (by decide)) (g := (mkF m 36 #[.val (.long q), .second, .val (.int (128 : Int32))] [(.long q), (.ref b5), (.ref b5)])) rfl (by rw [hml]; rfl) (Steps.refl _) (a := b5) (argsL := [(.long q)]) (rest := [(.ref b5)]) (lenOf own_pd1 rfl) rfl (by show 2 * 0 + _ ≤ _; exact Nat.le_of_eq rfl) (hb hby own_d_jdk_35_m24_36) (fun _ _ => ⟨rfl, e5, (by decide : 1 + 0 ≤ _), (by decide : 1 + 0 ≤ _)⟩)
  dsimp only [Pt.U, Pt.locs, Pt.cells, Pt.slots] at X6 l6 y6 z6 st6 hQ6
  subst l6 y6 z6
  obtain ⟨rfl, Nq6, Kq6, E_b5⟩ := hQ6
  replace N := Fr.app N Nq6
  replace O := O.keep Kq6 (allS g_b5 all0)
  replace Zs := Nat.le_trans Zs Kq6.1
  replace K0 := K0.trans Kq6 (allS (Or.inr sz_b5) all0)
  refine own_tr (g' := (mkF m 39 #[.val (.long q), .second, .val (.int (128 : Int32))] [(.ref b5)])) st6 ?_
  exact own_ret X6 hx hret hlk (i := .areturn) rfl (Or.inr (Or.inr (Or.inr (Or.inr ⟨rfl, rfl, rfl⟩)))) (hb hby own_d_jdk_35_m24_39) rfl (Nat.le_of_ble_eq_true rfl) (Nat.le_of_ble_eq_true rfl) ⟨b5, rfl, N, K0, E_b5⟩
def Q_recinit (Z : State) (a1 : Addr) (h0 : Heap) (n0 : Nat) (v : Option Value) (h : Heap) (L : List Loc) : Prop := v = none ∧ Fr n0 L ∧ (h = h0)
theorem ef_recinit (m : MethodId) (x0 : Addr)  : entryFrame m #[(.ref x0)] 1 = mkF m 0 #[.val (.ref x0)] [] := by first | (simp [entryFrame, mkF, argsToLocals, Value.category]; done) | rfl
set_option maxRecDepth 65536 in
set_option maxHeartbeats 40000000 in
theorem rm_recinit (l : Launch) (Z : State) (a0 : Array Value) (hw : ∀ d ∈ tables_1, d.before a0 Z = true) (ws : List Jvm.Cond) (a1 : Addr) (h0 : Heap) (n0 : Nat) (Zs : n0 ≤ h0.size)  :
    MetFree l (⟨"java/lang/Record", "<init>", "()V"⟩ : MethodName) (head1 (Jvm.Cond.code (⟨"java/lang/Record", "<init>", "()V"⟩ : MethodName) jdk_30_method_1_code 1 none :: ws) ({ frames := 1, cells := 0, slots := 0, locals := 12 } : Room)) (fun a U => a = #[(.ref a1)] ∧ Z.Warmed39 U.vm ∧ U.heap = h0) (fun _ _ _ _ _ => True) (fun _ U o U' => ∃ v L, o = .returned v ∧ (Q_recinit Z a1 h0 n0) v U'.heap L ∧ FrameEnd U o U' L ({ frames := 1, cells := 0, slots := 0, locals := 12 } : Room).cells ({ frames := 1, cells := 0, slots := 0, locals := 12 } : Room).slots) := by
  refine MetFree.of_bodySF (plainFor_of_name own_pn2) hisR ?_
  intro p e s m args below meth c s₁ Bd hml0 hP hK
  obtain ⟨rfl, hZ, hh⟩ := hP
  have hx := Bd.exec
  have hby := Bd.bytes
  have hlk := BodyLoose.notSynchronized Bd
  have hret := Bd.returns
  have hml : c.maxLocals = 1 := hml0
  have hown : s.vm.findClass "java/lang/Record" = some m.cls := findClass_of_methodNamed Bd.named
  have hnm := (name_of_methodNamed Bd.named Bd.method).1
  have X : Stand p l e ({ frames := 1, cells := 0, slots := 0, locals := 12 } : Room) s m #[(.ref a1)] below meth c s₁ [] 0 0 := Stand.of_body Bd
  have eT : s₁.heap = h0 := by rw [← hh, Bd.state]; rfl
  have N := Fr.nil n0
  have K0 : Keep h0 h0 [] := Keep.refl _ _
  show own_Go p e below s (Q_recinit Z a1 h0 n0) ({ frames := 1, cells := 0, slots := 0, locals := 12 } : Room).cells ({ frames := 1, cells := 0, slots := 0, locals := 12 } : Room).slots s₁ (entryFrame m #[(.ref a1)] 1)
  rw [ef_recinit m a1]
  refine own_st (T' := s₁) (g' := (mkF m 1 #[.val (.ref a1)] [(.ref a1)])) (fun _ zq => XS.aloadN X.here hx rfl (hb hby own_d_jdk_30_m1_0) rfl rfl zq) ?_
  obtain ⟨T7, X7, e7, st7⟩ := initO X hx hZ hown (hw _ (List.mem_of_getElem? (i := 16) rfl)) (hw _ (List.mem_of_getElem? (i := 17) rfl)) (hw _ (List.mem_of_getElem? (i := 18) rfl)) eT (g := (mkF m 1 #[.val (.ref a1)] [(.ref a1)])) rfl (by rw [hml]; rfl) rfl (hb hby own_d_jdk_30_m1_1) (by decide) (W := 0) (by show 2 * 0 + _ ≤ _; exact Nat.le_of_eq rfl) (by decide)
  refine own_st (g' := (mkF m 4 #[.val (.ref a1)] [])) st7 ?_
  exact own_ret0 X7 hx hret hlk (hb hby own_d_jdk_30_m1_4) e7 (Nat.le_of_ble_eq_true rfl) (Nat.le_of_ble_eq_true rfl) ⟨rfl, N, rfl⟩
def Q_fix (Z : State) (q : Int64) (h0 : Heap) (n0 : Nat) (v : Option Value) (h : Heap) (L : List Loc) : Prop := v = some (.long (own_fix q)) ∧ Fr n0 L ∧ (h = h0)
theorem ef_fix (m : MethodId) (x0 : Int64)  : entryFrame m #[(.long x0)] 2 = mkF m 0 #[.val (.long x0), .second] [] := by first | (simp [entryFrame, mkF, argsToLocals, Value.category]; done) | rfl
set_option maxRecDepth 65536 in
set_option maxHeartbeats 40000000 in
theorem rm_fix (l : Launch) (Z : State) (a0 : Array Value) (hw : ∀ d ∈ tables_1, d.before a0 Z = true) (ws : List Jvm.Cond) (q : Int64) (h0 : Heap) (n0 : Nat) (Zs : n0 ≤ h0.size)  :
    MetFree l (⟨"boxwood/YearsAndMonthsDurationEqualsPinLaw", "fix", "(J)J"⟩ : MethodName) (head1 (Jvm.Cond.code (⟨"boxwood/YearsAndMonthsDurationEqualsPinLaw", "fix", "(J)J"⟩ : MethodName) method_2_code 2 (some .long) :: ws) ({ frames := 0, cells := 0, slots := 0, locals := 0 } : Room)) (fun a U => a = #[(.long q)] ∧ Z.Warmed39 U.vm ∧ U.heap = h0) (fun _ _ _ _ _ => True) (fun _ U o U' => ∃ v L, o = .returned v ∧ (Q_fix Z q h0 n0) v U'.heap L ∧ FrameEnd U o U' L ({ frames := 0, cells := 0, slots := 0, locals := 0 } : Room).cells ({ frames := 0, cells := 0, slots := 0, locals := 0 } : Room).slots) := by
  refine MetFree.of_bodySF (plainFor_of_name own_pn3) hisR ?_
  intro p e s m args below meth c s₁ Bd hml0 hP hK
  obtain ⟨rfl, hZ, hh⟩ := hP
  have hx := Bd.exec
  have hby := Bd.bytes
  have hlk := BodyLoose.notSynchronized Bd
  have hret := Bd.returns
  have hml : c.maxLocals = 2 := hml0
  have hown : s.vm.findClass "boxwood/YearsAndMonthsDurationEqualsPinLaw" = some m.cls := findClass_of_methodNamed Bd.named
  have hnm := (name_of_methodNamed Bd.named Bd.method).1
  have X : Stand p l e ({ frames := 0, cells := 0, slots := 0, locals := 0 } : Room) s m #[(.long q)] below meth c s₁ [] 0 0 := Stand.of_body Bd
  have eT : s₁.heap = h0 := by rw [← hh, Bd.state]; rfl
  have N := Fr.nil n0
  have K0 : Keep h0 h0 [] := Keep.refl _ _
  show own_Go p e below s (Q_fix Z q h0 n0) ({ frames := 0, cells := 0, slots := 0, locals := 0 } : Room).cells ({ frames := 0, cells := 0, slots := 0, locals := 0 } : Room).slots s₁ (entryFrame m #[(.long q)] 2)
  rw [ef_fix m q]
  refine own_st (T' := s₁) (g' := (mkF m 1 #[.val (.long q), .second] [(.long q)])) (fun _ zq => XS.lloadN X.here hx rfl (hb hby own_d_m2_0) rfl zq) ?_
  refine own_st (T' := s₁) (g' := (mkF m 4 #[.val (.long q), .second] [(.long (-9223372036854775808 : Int64)), (.long q)])) (fun _ zq => X.ldc2Long hx hown (mvT hZ (hw _ (List.mem_of_getElem? (i := 4) rfl))) (g := (mkF m 1 #[.val (.long q), .second] [(.long q)])) rfl (hb hby own_d_m2_1) _ zq) ?_
  refine own_st (T' := s₁) (g' := (mkF m 5 #[.val (.long q), .second] [(.int (lcmpW q (-9223372036854775808 : Int64)))])) (fun _ zq => XS.lcmp X.here hx rfl (hb hby own_d_m2_4) rfl zq) ?_
  by_cases hc : q = (-9223372036854775808 : Int64)
  · skip
    refine own_st (T' := s₁) (g' := (mkF m 8 #[.val (.long q), .second] [])) (fun _ zq => XS.ifNo X.here hx rfl (hb hby own_d_m2_5) rfl (own_lteq hc).2 zq) ?_
    refine own_st (T' := s₁) (g' := (mkF m 11 #[.val (.long q), .second] [(.long (9223372036854775807 : Int64))])) (fun _ zq => X.ldc2Long hx hown (mvT hZ (hw _ (List.mem_of_getElem? (i := 55) rfl))) (g := (mkF m 8 #[.val (.long q), .second] [])) rfl (hb hby own_d_m2_8) _ zq) ?_
    refine own_st (T' := s₁) (g' := (mkF m 15 #[.val (.long q), .second] [(.long (9223372036854775807 : Int64))])) (fun _ zq => XS.goto X.here hx rfl (pc0 := 11) (pc' := 15) rfl (hb hby own_d_m2_11) (by decide) (by decide) zq) ?_
    exact own_ret X hx hret hlk (i := .lreturn) rfl (Or.inr (Or.inl ⟨rfl, rfl, _, rfl⟩)) (hb hby own_d_m2_15) eT (Nat.le_of_ble_eq_true rfl) (Nat.le_of_ble_eq_true rfl) ⟨by rw [own_fix, if_pos hc], N, rfl⟩
  · skip
    refine own_st (T' := s₁) (g' := (mkF m 14 #[.val (.long q), .second] [])) (fun _ zq => XS.ifYes X.here hx rfl (pc0 := 5) (pc' := 14) rfl (hb hby own_d_m2_5) rfl (own_lfeq hc).2 (by decide) (by decide) zq) ?_
    refine own_st (T' := s₁) (g' := (mkF m 15 #[.val (.long q), .second] [(.long q)])) (fun _ zq => XS.lloadN X.here hx rfl (hb hby own_d_m2_14) rfl zq) ?_
    exact own_ret X hx hret hlk (i := .lreturn) rfl (Or.inr (Or.inl ⟨rfl, rfl, _, rfl⟩)) (hb hby own_d_m2_15) eT (Nat.le_of_ble_eq_true rfl) (Nat.le_of_ble_eq_true rfl) ⟨by rw [own_fix, if_neg hc], N, rfl⟩
def Q_init (Z : State) (a1 : Addr) (q : Int64) (h0 : Heap) (n0 : Nat) (v : Option Value) (h : Heap) (L : List Loc) : Prop := v = none ∧ Fr n0 L ∧ (Keep h0 h [a1]) ∧ (Exa Z h a1 "boxwood/Temporal$YearsAndMonthsDuration") ∧ (Fld Z h a1 "boxwood/Temporal$YearsAndMonthsDuration" "months" "J" (.long q))
theorem ef_init (m : MethodId) (x0 : Addr) (x1 : Int64)  : entryFrame m #[(.ref x0), (.long x1)] 3 = mkF m 0 #[.val (.ref x0), .val (.long x1), .second] [] := by first | (simp [entryFrame, mkF, argsToLocals, Value.category]; done) | rfl
set_option maxRecDepth 65536 in
set_option maxHeartbeats 40000000 in
theorem rm_init (l : Launch) (Z : State) (a0 : Array Value) (hw : ∀ d ∈ tables_1, d.before a0 Z = true) (ws : List Jvm.Cond) (a1 : Addr) (q : Int64) (h0 : Heap) (n0 : Nat) (Zs : n0 ≤ h0.size) (E_a1 : Exa Z h0 a1 "boxwood/Temporal$YearsAndMonthsDuration") (F_a1 : Fld Z h0 a1 "boxwood/Temporal$YearsAndMonthsDuration" "months" "J" (.long (0 : Int64))) (hq : ¬ q = (-9223372036854775808 : Int64)) (g_a1 : n0 ≤ a1) :
    MetFree l (⟨"boxwood/Temporal$YearsAndMonthsDuration", "<init>", "(J)V"⟩ : MethodName) (head1 (Jvm.Cond.code (⟨"boxwood/Temporal$YearsAndMonthsDuration", "<init>", "(J)V"⟩ : MethodName) prog_138_method_1_code 3 none :: ws) ({ frames := 2, cells := 0, slots := 0, locals := 26 } : Room)) (fun a U => a = #[(.ref a1), (.long q)] ∧ Z.Warmed39 U.vm ∧ U.heap = h0) (fun _ _ _ _ _ => True) (fun _ U o U' => ∃ v L, o = .returned v ∧ (Q_init Z a1 q h0 n0) v U'.heap L ∧ FrameEnd U o U' L ({ frames := 2, cells := 0, slots := 0, locals := 26 } : Room).cells ({ frames := 2, cells := 0, slots := 0, locals := 26 } : Room).slots) := by
  refine MetFree.of_bodySF (plainFor_of_name own_pn4) hisR ?_
  intro p e s m args below meth c s₁ Bd hml0 hP hK
  obtain ⟨rfl, hZ, hh⟩ := hP
  have hx := Bd.exec
  have hby := Bd.bytes
  have hlk := BodyLoose.notSynchronized Bd
  have hret := Bd.returns
  have hml : c.maxLocals = 3 := hml0
  have hown : s.vm.findClass "boxwood/Temporal$YearsAndMonthsDuration" = some m.cls := findClass_of_methodNamed Bd.named
  have hnm := (name_of_methodNamed Bd.named Bd.method).1
  have X : Stand p l e ({ frames := 2, cells := 0, slots := 0, locals := 26 } : Room) s m #[(.ref a1), (.long q)] below meth c s₁ [] 0 0 := Stand.of_body Bd
  have eT : s₁.heap = h0 := by rw [← hh, Bd.state]; rfl
  have N := Fr.nil n0
  have K0 : Keep h0 h0 [a1] := Keep.refl _ _
  show own_Go p e below s (Q_init Z a1 q h0 n0) ({ frames := 2, cells := 0, slots := 0, locals := 26 } : Room).cells ({ frames := 2, cells := 0, slots := 0, locals := 26 } : Room).slots s₁ (entryFrame m #[(.ref a1), (.long q)] 3)
  rw [ef_init m a1 q]
  refine own_st (T' := s₁) (g' := (mkF m 1 #[.val (.ref a1), .val (.long q), .second] [(.ref a1)])) (fun _ zq => XS.aloadN X.here hx rfl (hb hby own_d_prog_138_m1_0) rfl rfl zq) ?_
  obtain ⟨_, _, ⟨T8, L8, k8, n8⟩, -, X8, ⟨Lc8, hQ8, l8, y8, z8⟩, st8⟩ := X.specialBack hx (y := (⟨"java/lang/Record", "<init>", "()V"⟩ : MethodName)) rfl hown (mvT hZ (hw _ (List.mem_of_getElem? (i := 11) rfl))) (mvT hZ (hw _ (List.mem_of_getElem? (i := 12) rfl))) (mvT hZ (hw _ (List.mem_of_getElem? (i := 15) rfl))) (by decide) (backOf (W := 0) (rm_recinit l Z a0 hw [] a1 h0 n0 Zs ) hZ (hw _ (List.mem_of_getElem? (i := 15) rfl)) (hw _ (List.mem_of_getElem? (i := 14) rfl)) (by decide) (by decide)) (g := (mkF m 1 #[.val (.ref a1), .val (.long q), .second] [(.ref a1)])) rfl (by rw [hml]; rfl) (Steps.refl _) (a := a1) (argsL := []) (rest := []) (lenOf own_pd0 rfl) rfl (by show 2 * 0 + _ ≤ _; exact Nat.le_of_eq rfl) (hb hby own_d_prog_138_m1_1) (fun _ _ => ⟨rfl, eT, (by decide : 0 + 0 ≤ _), (by decide : 0 + 0 ≤ _)⟩)
  dsimp only [Pt.U, Pt.locs, Pt.cells, Pt.slots] at X8 l8 y8 z8 st8 hQ8
  subst l8 y8 z8
  obtain ⟨rfl, Nq8, eq8⟩ := hQ8
  replace N := Fr.app N Nq8
  refine own_tr (g' := (mkF m 4 #[.val (.ref a1), .val (.long q), .second] [])) st8 ?_
  refine own_st (T' := T8) (g' := (mkF m 5 #[.val (.ref a1), .val (.long q), .second] [(.long q)])) (fun _ zq => XS.lloadN X8.here hx rfl (hb hby own_d_prog_138_m1_4) rfl zq) ?_
  refine own_st (T' := T8) (g' := (mkF m 8 #[.val (.ref a1), .val (.long q), .second] [(.long (-9223372036854775808 : Int64)), (.long q)])) (fun _ zq => X8.ldc2Long hx hown (mvT hZ (hw _ (List.mem_of_getElem? (i := 19) rfl))) (g := (mkF m 5 #[.val (.ref a1), .val (.long q), .second] [(.long q)])) rfl (hb hby own_d_prog_138_m1_5) _ zq) ?_
  refine own_st (T' := T8) (g' := (mkF m 9 #[.val (.ref a1), .val (.long q), .second] [(.int (lcmpW q (-9223372036854775808 : Int64)))])) (fun _ zq => XS.lcmp X8.here hx rfl (hb hby own_d_prog_138_m1_8) rfl zq) ?_
  refine own_st (T' := T8) (g' := (mkF m 22 #[.val (.ref a1), .val (.long q), .second] [])) (fun _ zq => XS.ifYes X8.here hx rfl (pc0 := 9) (pc' := 22) rfl (hb hby own_d_prog_138_m1_9) rfl (own_lfeq hq).2 (by decide) (by decide) zq) ?_
  refine own_st (T' := T8) (g' := (mkF m 23 #[.val (.ref a1), .val (.long q), .second] [(.ref a1)])) (fun _ zq => XS.aloadN X8.here hx rfl (hb hby own_d_prog_138_m1_22) rfl rfl zq) ?_
  refine own_st (T' := T8) (g' := (mkF m 24 #[.val (.ref a1), .val (.long q), .second] [(.long q), (.ref a1)])) (fun _ zq => XS.lloadN X8.here hx rfl (hb hby own_d_prog_138_m1_23) rfl zq) ?_
  obtain ⟨T9, h9, X9, e9, W9, st9⟩ := putF X8 hx hZ hown (host := "") (Or.inl (hw _ (List.mem_of_getElem? (i := 20) rfl))) Via.refl (eq8) F_a1 E_a1 (Or.inr ⟨(hw _ (List.mem_of_getElem? (i := 21) rfl)), rfl, hnm⟩) (hw _ (List.mem_of_getElem? (i := 6) rfl)) (ty := .long) (by decide) rfl rfl (g := (mkF m 24 #[.val (.ref a1), .val (.long q), .second] [(.long q), (.ref a1)])) rfl rfl (hb hby own_d_prog_138_m1_24)
  replace E_a1 := E_a1.wr W9
  replace F_a1 := F_a1.same W9
  replace Zs := Nat.le_trans Zs (Keep.of_wr W9).1
  replace K0 := K0.wr W9 (Or.inl (List.mem_of_getElem? (i := 0) rfl))
  replace N := Fr.snoc X9 N g_a1
  refine own_st (g' := (mkF m 27 #[.val (.ref a1), .val (.long q), .second] [])) st9 ?_
  exact own_ret0 X9 hx hret hlk (hb hby own_d_prog_138_m1_27) e9 (Nat.le_of_ble_eq_true rfl) (Nat.le_of_ble_eq_true rfl) ⟨rfl, N, K0, E_a1, F_a1⟩
def Q_eq (Z : State) (a1 : Addr) (a2 : Addr) (c0 : Int64) (d0 : Int64) (h0 : Heap) (n0 : Nat) (v : Option Value) (h : Heap) (L : List Loc) : Prop := v = some (.int (if c0 = d0 then 1 else 0)) ∧ Fr n0 L ∧ (h = h0)
theorem ef_eq (m : MethodId) (x0 : Addr) (x1 : Addr)  : entryFrame m #[(.ref x0), (.ref x1)] 3 = mkF m 0 #[.val (.ref x0), .val (.ref x1), .unset] [] := by first | (simp [entryFrame, mkF, argsToLocals, Value.category]; done) | rfl
set_option maxRecDepth 65536 in
set_option maxHeartbeats 40000000 in
theorem rm_eq (l : Launch) (Z : State) (a0 : Array Value) (hw : ∀ d ∈ tables_1, d.before a0 Z = true) (ws : List Jvm.Cond) (a1 : Addr) (a2 : Addr) (c0 : Int64) (d0 : Int64) (h0 : Heap) (n0 : Nat) (Zs : n0 ≤ h0.size) (E_a2 : Exa Z h0 a2 "boxwood/Temporal$YearsAndMonthsDuration") (F_1 : Fld Z h0 a1 "boxwood/Temporal$YearsAndMonthsDuration" "months" "J" (.long c0)) (F_2 : Fld Z h0 a2 "boxwood/Temporal$YearsAndMonthsDuration" "months" "J" (.long d0)) :
    MetFree l (⟨"boxwood/Temporal$YearsAndMonthsDuration", "equals", "(Ljava/lang/Object;)Z"⟩ : MethodName) (head1 (Jvm.Cond.code (⟨"boxwood/Temporal$YearsAndMonthsDuration", "equals", "(Ljava/lang/Object;)Z"⟩ : MethodName) prog_138_method_12_code 3 (some .boolean) :: ws) ({ frames := 0, cells := 0, slots := 0, locals := 0 } : Room)) (fun a U => a = #[(.ref a1), (.ref a2)] ∧ Z.Warmed39 U.vm ∧ U.heap = h0) (fun _ _ _ _ _ => True) (fun _ U o U' => ∃ v L, o = .returned v ∧ (Q_eq Z a1 a2 c0 d0 h0 n0) v U'.heap L ∧ FrameEnd U o U' L ({ frames := 0, cells := 0, slots := 0, locals := 0 } : Room).cells ({ frames := 0, cells := 0, slots := 0, locals := 0 } : Room).slots) := by
  refine MetFree.of_bodySF (plainFor_of_name own_pn4) hisR ?_
  intro p e s m args below meth c s₁ Bd hml0 hP hK
  obtain ⟨rfl, hZ, hh⟩ := hP
  have hx := Bd.exec
  have hby := Bd.bytes
  have hlk := BodyLoose.notSynchronized Bd
  have hret := Bd.returns
  have hml : c.maxLocals = 3 := hml0
  have hown : s.vm.findClass "boxwood/Temporal$YearsAndMonthsDuration" = some m.cls := findClass_of_methodNamed Bd.named
  have hnm := (name_of_methodNamed Bd.named Bd.method).1
  have X : Stand p l e ({ frames := 0, cells := 0, slots := 0, locals := 0 } : Room) s m #[(.ref a1), (.ref a2)] below meth c s₁ [] 0 0 := Stand.of_body Bd
  have eT : s₁.heap = h0 := by rw [← hh, Bd.state]; rfl
  have N := Fr.nil n0
  have K0 : Keep h0 h0 [] := Keep.refl _ _
  show own_Go p e below s (Q_eq Z a1 a2 c0 d0 h0 n0) ({ frames := 0, cells := 0, slots := 0, locals := 0 } : Room).cells ({ frames := 0, cells := 0, slots := 0, locals := 0 } : Room).slots s₁ (entryFrame m #[(.ref a1), (.ref a2)] 3)
  rw [ef_eq m a1 a2]
  refine own_st (T' := s₁) (g' := (mkF m 1 #[.val (.ref a1), .val (.ref a2), .unset] [(.ref a2)])) (fun _ zq => XS.aloadN X.here hx rfl (hb hby own_d_prog_138_m12_0) rfl rfl zq) ?_
  obtain ⟨T10, X10, e10, st10⟩ := instY X hx hZ hown (hw _ (List.mem_of_getElem? (i := 27) rfl)) eT (Ins.self E_a2) (g := (mkF m 1 #[.val (.ref a1), .val (.ref a2), .unset] [(.ref a2)])) rfl rfl (hb hby own_d_prog_138_m12_1)
  refine own_st (g' := (mkF m 4 #[.val (.ref a1), .val (.ref a2), .unset] [(.int (1 : Int32))])) st10 ?_
  refine own_st (T' := T10) (g' := (mkF m 7 #[.val (.ref a1), .val (.ref a2), .unset] [])) (fun _ zq => XS.ifNo X10.here hx rfl (hb hby own_d_prog_138_m12_4) rfl ((if0 _ _).trans (feq (by decide)).1) zq) ?_
  refine own_st (T' := T10) (g' := (mkF m 8 #[.val (.ref a1), .val (.ref a2), .unset] [(.ref a2)])) (fun _ zq => XS.aloadN X10.here hx rfl (hb hby own_d_prog_138_m12_7) rfl rfl zq) ?_
  obtain ⟨T11, X11, e11, st11⟩ := castY X10 hx hZ hown (hw _ (List.mem_of_getElem? (i := 27) rfl)) e10 (Ins.self E_a2) (g := (mkF m 8 #[.val (.ref a1), .val (.ref a2), .unset] [(.ref a2)])) rfl rfl (hb hby own_d_prog_138_m12_8)
  refine own_st (g' := (mkF m 11 #[.val (.ref a1), .val (.ref a2), .unset] [(.ref a2)])) st11 ?_
  refine own_st (T' := T11) (g' := (mkF m 12 #[.val (.ref a1), .val (.ref a2), .val (.ref a2)] [])) (fun _ zq => XS.astoreN X11.here hx rfl (hb hby own_d_prog_138_m12_11) rfl rfl (l' := #[.val (.ref a1), .val (.ref a2), .val (.ref a2)]) rfl zq) ?_
  refine own_st (T' := T11) (g' := (mkF m 13 #[.val (.ref a1), .val (.ref a2), .val (.ref a2)] [(.ref a1)])) (fun _ zq => XS.aloadN X11.here hx rfl (hb hby own_d_prog_138_m12_12) rfl rfl zq) ?_
  obtain ⟨T12, X12, e12, st12⟩ := getF X11 hx hZ hown (host := "") (Or.inl (hw _ (List.mem_of_getElem? (i := 20) rfl))) Via.refl e11 F_1 (g := (mkF m 13 #[.val (.ref a1), .val (.ref a2), .val (.ref a2)] [(.ref a1)])) rfl rfl (hb hby own_d_prog_138_m12_13)
  refine own_st (g' := (mkF m 16 #[.val (.ref a1), .val (.ref a2), .val (.ref a2)] [(.long c0)])) st12 ?_
  refine own_st (T' := T12) (g' := (mkF m 17 #[.val (.ref a1), .val (.ref a2), .val (.ref a2)] [(.ref a2), (.long c0)])) (fun _ zq => XS.aloadN X12.here hx rfl (hb hby own_d_prog_138_m12_16) rfl rfl zq) ?_
  obtain ⟨T13, X13, e13, st13⟩ := getF X12 hx hZ hown (host := "") (Or.inl (hw _ (List.mem_of_getElem? (i := 20) rfl))) Via.refl e12 F_2 (g := (mkF m 17 #[.val (.ref a1), .val (.ref a2), .val (.ref a2)] [(.ref a2), (.long c0)])) rfl rfl (hb hby own_d_prog_138_m12_17)
  refine own_st (g' := (mkF m 20 #[.val (.ref a1), .val (.ref a2), .val (.ref a2)] [(.long d0), (.long c0)])) st13 ?_
  refine own_st (T' := T13) (g' := (mkF m 21 #[.val (.ref a1), .val (.ref a2), .val (.ref a2)] [(.int (lcmpW c0 d0))])) (fun _ zq => XS.lcmp X13.here hx rfl (hb hby own_d_prog_138_m12_20) rfl zq) ?_
  by_cases hc : c0 = d0
  case neg =>
    refine own_st (T' := T13) (g' := (mkF m 28 #[.val (.ref a1), .val (.ref a2), .val (.ref a2)] [])) (fun _ zq => XS.ifYes X13.here hx rfl (pc0 := 21) (pc' := 28) rfl (hb hby own_d_prog_138_m12_21) rfl (own_lfeq hc).2 (by decide) (by decide) zq) ?_
    refine own_st (T' := T13) (g' := (mkF m 29 #[.val (.ref a1), .val (.ref a2), .val (.ref a2)] [(.int (0 : Int32))])) (fun _ zq => XS.iconst X13.here hx rfl (hb hby own_d_prog_138_m12_28) zq) ?_
    exact own_ret X13 hx hret hlk (i := .ireturn) rfl (Or.inl ⟨rfl, by decide, _, rfl⟩) (hb hby own_d_prog_138_m12_29) e13 (Nat.le_of_ble_eq_true rfl) (Nat.le_of_ble_eq_true rfl) ⟨by rw [if_neg hc], N, rfl⟩
  · skip
    refine own_st (T' := T13) (g' := (mkF m 24 #[.val (.ref a1), .val (.ref a2), .val (.ref a2)] [])) (fun _ zq => XS.ifNo X13.here hx rfl (hb hby own_d_prog_138_m12_21) rfl (own_lteq hc).2 zq) ?_
    refine own_st (T' := T13) (g' := (mkF m 25 #[.val (.ref a1), .val (.ref a2), .val (.ref a2)] [(.int (1 : Int32))])) (fun _ zq => XS.iconst X13.here hx rfl (hb hby own_d_prog_138_m12_24) zq) ?_
    refine own_st (T' := T13) (g' := (mkF m 29 #[.val (.ref a1), .val (.ref a2), .val (.ref a2)] [(.int (1 : Int32))])) (fun _ zq => XS.goto X13.here hx rfl (pc0 := 25) (pc' := 29) rfl (hb hby own_d_prog_138_m12_25) (by decide) (by decide) zq) ?_
    exact own_ret X13 hx hret hlk (i := .ireturn) rfl (Or.inl ⟨rfl, by decide, _, rfl⟩) (hb hby own_d_prog_138_m12_29) e13 (Nat.le_of_ble_eq_true rfl) (Nat.le_of_ble_eq_true rfl) ⟨by rw [if_pos hc], N, rfl⟩
def Q_eqnull (Z : State) (a1 : Addr) (h0 : Heap) (n0 : Nat) (v : Option Value) (h : Heap) (L : List Loc) : Prop := v = some (.int 0) ∧ Fr n0 L ∧ (h = h0)
theorem ef_eqnull (m : MethodId) (x0 : Addr)  : entryFrame m #[(.ref x0), .null] 3 = mkF m 0 #[.val (.ref x0), .val .null, .unset] [] := by first | (simp [entryFrame, mkF, argsToLocals, Value.category]; done) | rfl
set_option maxRecDepth 65536 in
set_option maxHeartbeats 40000000 in
theorem rm_eqnull (l : Launch) (Z : State) (a0 : Array Value) (hw : ∀ d ∈ tables_1, d.before a0 Z = true) (ws : List Jvm.Cond) (a1 : Addr) (h0 : Heap) (n0 : Nat) (Zs : n0 ≤ h0.size)  :
    MetFree l (⟨"boxwood/Temporal$YearsAndMonthsDuration", "equals", "(Ljava/lang/Object;)Z"⟩ : MethodName) (head1 (Jvm.Cond.code (⟨"boxwood/Temporal$YearsAndMonthsDuration", "equals", "(Ljava/lang/Object;)Z"⟩ : MethodName) prog_138_method_12_code 3 (some .boolean) :: ws) ({ frames := 0, cells := 0, slots := 0, locals := 0 } : Room)) (fun a U => a = #[(.ref a1), .null] ∧ Z.Warmed39 U.vm ∧ U.heap = h0) (fun _ _ _ _ _ => True) (fun _ U o U' => ∃ v L, o = .returned v ∧ (Q_eqnull Z a1 h0 n0) v U'.heap L ∧ FrameEnd U o U' L ({ frames := 0, cells := 0, slots := 0, locals := 0 } : Room).cells ({ frames := 0, cells := 0, slots := 0, locals := 0 } : Room).slots) := by
  refine MetFree.of_bodySF (plainFor_of_name own_pn4) hisR ?_
  intro p e s m args below meth c s₁ Bd hml0 hP hK
  obtain ⟨rfl, hZ, hh⟩ := hP
  have hx := Bd.exec
  have hby := Bd.bytes
  have hlk := BodyLoose.notSynchronized Bd
  have hret := Bd.returns
  have hml : c.maxLocals = 3 := hml0
  have hown : s.vm.findClass "boxwood/Temporal$YearsAndMonthsDuration" = some m.cls := findClass_of_methodNamed Bd.named
  have hnm := (name_of_methodNamed Bd.named Bd.method).1
  have X : Stand p l e ({ frames := 0, cells := 0, slots := 0, locals := 0 } : Room) s m #[(.ref a1), .null] below meth c s₁ [] 0 0 := Stand.of_body Bd
  have eT : s₁.heap = h0 := by rw [← hh, Bd.state]; rfl
  have N := Fr.nil n0
  have K0 : Keep h0 h0 [] := Keep.refl _ _
  show own_Go p e below s (Q_eqnull Z a1 h0 n0) ({ frames := 0, cells := 0, slots := 0, locals := 0 } : Room).cells ({ frames := 0, cells := 0, slots := 0, locals := 0 } : Room).slots s₁ (entryFrame m #[(.ref a1), .null] 3)
  rw [ef_eqnull m a1]
  refine own_st (T' := s₁) (g' := (mkF m 1 #[.val (.ref a1), .val .null, .unset] [.null])) (fun _ zq => XS.aloadN X.here hx rfl (hb hby own_d_prog_138_m12_0) rfl rfl zq) ?_
  refine own_st (T' := s₁) (g' := (mkF m 4 #[.val (.ref a1), .val .null, .unset] [(.int (0 : Int32))])) (fun _ zq => X.instanceofNull hx (g := (mkF m 1 #[.val (.ref a1), .val .null, .unset] [.null])) rfl rfl (hb hby own_d_prog_138_m12_1) _ zq) ?_
  refine own_st (T' := s₁) (g' := (mkF m 28 #[.val (.ref a1), .val .null, .unset] [])) (fun _ zq => XS.ifYes X.here hx rfl (pc0 := 4) (pc' := 28) rfl (hb hby own_d_prog_138_m12_4) rfl ((if0 _ _).trans (teq rfl).1) (by decide) (by decide) zq) ?_
  refine own_st (T' := s₁) (g' := (mkF m 29 #[.val (.ref a1), .val .null, .unset] [(.int (0 : Int32))])) (fun _ zq => XS.iconst X.here hx rfl (hb hby own_d_prog_138_m12_28) zq) ?_
  exact own_ret X hx hret hlk (i := .ireturn) rfl (Or.inl ⟨rfl, by decide, _, rfl⟩) (hb hby own_d_prog_138_m12_29) eT (Nat.le_of_ble_eq_true rfl) (Nat.le_of_ble_eq_true rfl) ⟨rfl, N, rfl⟩
def Q_eqlong (Z : State) (a1 : Addr) (a2 : Addr) (h0 : Heap) (n0 : Nat) (v : Option Value) (h : Heap) (L : List Loc) : Prop := v = some (.int 0) ∧ Fr n0 L ∧ (h = h0)
theorem ef_eqlong (m : MethodId) (x0 : Addr) (x1 : Addr)  : entryFrame m #[(.ref x0), (.ref x1)] 3 = mkF m 0 #[.val (.ref x0), .val (.ref x1), .unset] [] := by first | (simp [entryFrame, mkF, argsToLocals, Value.category]; done) | rfl
set_option maxRecDepth 65536 in
set_option maxHeartbeats 40000000 in
theorem rm_eqlong (l : Launch) (Z : State) (a0 : Array Value) (hw : ∀ d ∈ tables_1, d.before a0 Z = true) (ws : List Jvm.Cond) (a1 : Addr) (a2 : Addr) (h0 : Heap) (n0 : Nat) (Zs : n0 ≤ h0.size) (E_a2 : Exa Z h0 a2 "java/lang/Long") :
    MetFree l (⟨"boxwood/Temporal$YearsAndMonthsDuration", "equals", "(Ljava/lang/Object;)Z"⟩ : MethodName) (head1 (Jvm.Cond.code (⟨"boxwood/Temporal$YearsAndMonthsDuration", "equals", "(Ljava/lang/Object;)Z"⟩ : MethodName) prog_138_method_12_code 3 (some .boolean) :: ws) ({ frames := 0, cells := 0, slots := 0, locals := 0 } : Room)) (fun a U => a = #[(.ref a1), (.ref a2)] ∧ Z.Warmed39 U.vm ∧ U.heap = h0) (fun _ _ _ _ _ => True) (fun _ U o U' => ∃ v L, o = .returned v ∧ (Q_eqlong Z a1 a2 h0 n0) v U'.heap L ∧ FrameEnd U o U' L ({ frames := 0, cells := 0, slots := 0, locals := 0 } : Room).cells ({ frames := 0, cells := 0, slots := 0, locals := 0 } : Room).slots) := by
  refine MetFree.of_bodySF (plainFor_of_name own_pn4) hisR ?_
  intro p e s m args below meth c s₁ Bd hml0 hP hK
  obtain ⟨rfl, hZ, hh⟩ := hP
  have hx := Bd.exec
  have hby := Bd.bytes
  have hlk := BodyLoose.notSynchronized Bd
  have hret := Bd.returns
  have hml : c.maxLocals = 3 := hml0
  have hown : s.vm.findClass "boxwood/Temporal$YearsAndMonthsDuration" = some m.cls := findClass_of_methodNamed Bd.named
  have hnm := (name_of_methodNamed Bd.named Bd.method).1
  have X : Stand p l e ({ frames := 0, cells := 0, slots := 0, locals := 0 } : Room) s m #[(.ref a1), (.ref a2)] below meth c s₁ [] 0 0 := Stand.of_body Bd
  have eT : s₁.heap = h0 := by rw [← hh, Bd.state]; rfl
  have N := Fr.nil n0
  have K0 : Keep h0 h0 [] := Keep.refl _ _
  show own_Go p e below s (Q_eqlong Z a1 a2 h0 n0) ({ frames := 0, cells := 0, slots := 0, locals := 0 } : Room).cells ({ frames := 0, cells := 0, slots := 0, locals := 0 } : Room).slots s₁ (entryFrame m #[(.ref a1), (.ref a2)] 3)
  rw [ef_eqlong m a1 a2]
  refine own_st (T' := s₁) (g' := (mkF m 1 #[.val (.ref a1), .val (.ref a2), .unset] [(.ref a2)])) (fun _ zq => XS.aloadN X.here hx rfl (hb hby own_d_prog_138_m12_0) rfl rfl zq) ?_
  obtain ⟨T14, X14, e14, st14⟩ := instNo X hx hZ hown (hw _ (List.mem_of_getElem? (i := 27) rfl)) eT E_a2 (own_NSno (hw _ (List.mem_of_getElem? (i := 37) rfl)) (hw _ (List.mem_of_getElem? (i := 6) rfl)) (NS.step (hw _ (List.mem_of_getElem? (i := 37) rfl)) (NS.step (hw _ (List.mem_of_getElem? (i := 38) rfl)) (own_NSroot (hw _ (List.mem_of_getElem? (i := 39) rfl)) (hw _ (List.mem_of_getElem? (i := 6) rfl)) (by decide)) (by decide)) (by decide)) (by decide)) (g := (mkF m 1 #[.val (.ref a1), .val (.ref a2), .unset] [(.ref a2)])) rfl rfl (hb hby own_d_prog_138_m12_1)
  refine own_st (g' := (mkF m 4 #[.val (.ref a1), .val (.ref a2), .unset] [(.int (0 : Int32))])) st14 ?_
  refine own_st (T' := T14) (g' := (mkF m 28 #[.val (.ref a1), .val (.ref a2), .unset] [])) (fun _ zq => XS.ifYes X14.here hx rfl (pc0 := 4) (pc' := 28) rfl (hb hby own_d_prog_138_m12_4) rfl ((if0 _ _).trans (teq rfl).1) (by decide) (by decide) zq) ?_
  refine own_st (T' := T14) (g' := (mkF m 29 #[.val (.ref a1), .val (.ref a2), .unset] [(.int (0 : Int32))])) (fun _ zq => XS.iconst X14.here hx rfl (hb hby own_d_prog_138_m12_28) zq) ?_
  exact own_ret X14 hx hret hlk (i := .ireturn) rfl (Or.inl ⟨rfl, by decide, _, rfl⟩) (hb hby own_d_prog_138_m12_29) e14 (Nat.le_of_ble_eq_true rfl) (Nat.le_of_ble_eq_true rfl) ⟨rfl, N, rfl⟩
def Q_law (Z : State) (p0 : Int64) (p1 : Int64) (md : Int32) (cC : Addr) (h0 : Heap) (n0 : Nat) (v : Option Value) (h : Heap) (L : List Loc) : Prop := v = some (.int 1) ∧ Fr n0 L
theorem ef_law (m : MethodId) (x0 : Int64) (x1 : Int64) (x2 : Int32)  : entryFrame m #[(.long x0), (.long x1), (.int x2)] maxLocals = mkF m 0 #[.val (.long x0), .second, .val (.long x1), .second, .val (.int x2), .unset, .unset, .unset, .unset, .unset, .unset, .unset, .unset] [] := by first | (simp [entryFrame, mkF, argsToLocals, Value.category, maxLocals]; done) | rfl
set_option maxRecDepth 65536 in
set_option maxHeartbeats 40000000 in
theorem rm_law (l : Launch) (Z : State) (a0 : Array Value) (hw : ∀ d ∈ tables_1, d.before a0 Z = true) (ws : List Jvm.Cond) (p0 : Int64) (p1 : Int64) (md : Int32) (cC : Addr) (h0 : Heap) (n0 : Nat) (Zs : n0 ≤ h0.size) (O : Old Z n0 h0) (S0 : Sta Z Z.heap "java/lang/Long$LongCache" "cache" "[Ljava/lang/Long;" (.ref cC)) (B0 : own_box Z Z.heap cC "java/lang/Long") :
    MetFree l x (head1 (Jvm.Cond.code x code maxLocals ret :: ws) room_1) (fun a U => a = #[(.long p0), (.long p1), (.int md)] ∧ Z.Warmed39 U.vm ∧ U.heap = h0) (fun _ _ _ _ _ => True) (fun _ U o U' => ∃ v L, o = .returned v ∧ (Q_law Z p0 p1 md cC h0 n0) v U'.heap L ∧ FrameEnd U o U' L 16 128) := by
  refine MetFree.of_bodySF (plainFor_of_name own_pn3) hisR ?_
  intro p e s m args below meth c s₁ Bd hml0 hP hK
  obtain ⟨rfl, hZ, hh⟩ := hP
  have hx := Bd.exec
  have hby := Bd.bytes
  have hlk := BodyLoose.notSynchronized Bd
  have hret := Bd.returns
  have hml : c.maxLocals = 13 := hml0
  have hown : s.vm.findClass "boxwood/YearsAndMonthsDurationEqualsPinLaw" = some m.cls := findClass_of_methodNamed Bd.named
  have hnm := (name_of_methodNamed Bd.named Bd.method).1
  have X : Stand p l e room_1 s m #[(.long p0), (.long p1), (.int md)] below meth c s₁ [] 0 0 := Stand.of_body Bd
  have eT : s₁.heap = h0 := by rw [← hh, Bd.state]; rfl
  have N := Fr.nil n0
  have K0 : Keep h0 h0 [] := Keep.refl _ _
  show own_Go p e below s (Q_law Z p0 p1 md cC h0 n0) 16 128 s₁ (entryFrame m #[(.long p0), (.long p1), (.int md)] maxLocals)
  rw [ef_law m p0 p1 md]
  refine own_st (T' := s₁) (g' := (mkF m 1 #[.val (.long p0), .second, .val (.long p1), .second, .val (.int md), .unset, .unset, .unset, .unset, .unset, .unset, .unset, .unset] [(.long p0)])) (fun _ zq => XS.lloadN X.here hx rfl (hb hby at_0) rfl zq) ?_
  obtain ⟨_, _, ⟨T15, L15, k15, n15⟩, -, X15, ⟨Lc15, hQ15, l15, y15, z15⟩, st15⟩ := Jvm.LawKit.callS X hx (y := (⟨"boxwood/YearsAndMonthsDurationEqualsPinLaw", "fix", "(J)J"⟩ : MethodName)) hown (mvT hZ (hw _ (List.mem_of_getElem? (i := 0) rfl))) (mvT hZ (hw _ (List.mem_of_getElem? (i := 1) rfl))) (mvT hZ (hw _ (List.mem_of_getElem? (i := 2) rfl))) (mvT hZ (hw _ (List.mem_of_getElem? (i := 3) rfl))) (by decide) (backOf (W := 0) (rm_fix l Z a0 hw [] p0 h0 n0 Zs ) hZ (hw _ (List.mem_of_getElem? (i := 3) rfl)) (hw _ (List.mem_of_getElem? (i := 2) rfl)) (by decide) (by decide)) (g := (mkF m 1 #[.val (.long p0), .second, .val (.long p1), .second, .val (.int md), .unset, .unset, .unset, .unset, .unset, .unset, .unset, .unset] [(.long p0)])) rfl (by rw [hml]; rfl) (argsL := [(.long p0)]) (rest := []) (lenOf own_pd2 rfl) rfl (by show 2 * 0 + _ ≤ _; exact Nat.le_of_eq rfl) (hb hby at_1) (fun _ _ => ⟨rfl, eT, (by decide : 0 + 0 ≤ _), (by decide : 0 + 0 ≤ _)⟩)
  dsimp only [Pt.U, Pt.locs, Pt.cells, Pt.slots] at X15 l15 y15 z15 st15 hQ15
  subst l15 y15 z15
  obtain ⟨rfl, Nq15, eq15⟩ := hQ15
  replace N := Fr.app N Nq15
  refine own_st (g' := (mkF m 4 #[.val (.long p0), .second, .val (.long p1), .second, .val (.int md), .unset, .unset, .unset, .unset, .unset, .unset, .unset, .unset] [(.long (own_fix p0))])) st15 ?_
  refine own_nm (f := fun z_ => (mkF m 4 #[.val (.long p0), .second, .val (.long p1), .second, .val (.int md), .unset, .unset, .unset, .unset, .unset, .unset, .unset, .unset] [(.long z_)])) (own_fix p0) (fun mm hmm => ?_)
  show own_Go p e below s (Q_law Z p0 p1 md cC h0 n0) 16 128 T15 (mkF m 4 #[.val (.long p0), .second, .val (.long p1), .second, .val (.int md), .unset, .unset, .unset, .unset, .unset, .unset, .unset, .unset] [(.long mm)])
  have hm : ¬ mm = (-9223372036854775808 : Int64) := hmm ▸ own_fixne p0
  refine own_st (T' := T15) (g' := (mkF m 6 #[.val (.long p0), .second, .val (.long p1), .second, .val (.int md), .val (.long mm), .second, .unset, .unset, .unset, .unset, .unset, .unset] [])) (fun _ zq => XS.lstore X15.here hx rfl (hb hby at_4) rfl (l' := #[.val (.long p0), .second, .val (.long p1), .second, .val (.int md), .val (.long mm), .second, .unset, .unset, .unset, .unset, .unset, .unset]) rfl zq) ?_
  refine own_st (T' := T15) (g' := (mkF m 8 #[.val (.long p0), .second, .val (.long p1), .second, .val (.int md), .val (.long mm), .second, .unset, .unset, .unset, .unset, .unset, .unset] [(.int md)])) (fun _ zq => XS.iload X15.here hx rfl (hb hby at_6) rfl zq) ?_
  refine own_st (T' := T15) (g' := (mkF m 10 #[.val (.long p0), .second, .val (.long p1), .second, .val (.int md), .val (.long mm), .second, .unset, .unset, .unset, .unset, .unset, .unset] [(.int (7 : Int32)), (.int md)])) (fun _ zq => XS.bipush X15.here hx rfl (hb hby at_8) zq) ?_
  refine own_st (T' := T15) (g' := (mkF m 11 #[.val (.long p0), .second, .val (.long p1), .second, .val (.int md), .val (.long mm), .second, .unset, .unset, .unset, .unset, .unset, .unset] [(.int (md &&& (7 : Int32)))])) (fun _ zq => XS.iand X15.here hx rfl (hb hby at_10) rfl zq) ?_
  refine own_nm (f := fun z_ => (mkF m 11 #[.val (.long p0), .second, .val (.long p1), .second, .val (.int md), .val (.long mm), .second, .unset, .unset, .unset, .unset, .unset, .unset] [(.int z_)])) (md &&& (7 : Int32)) (fun se hse => ?_)
  show own_Go p e below s (Q_law Z p0 p1 md cC h0 n0) 16 128 T15 (mkF m 11 #[.val (.long p0), .second, .val (.long p1), .second, .val (.int md), .val (.long mm), .second, .unset, .unset, .unset, .unset, .unset, .unset] [(.int se)])
  refine own_st (T' := T15) (g' := (mkF m 13 #[.val (.long p0), .second, .val (.long p1), .second, .val (.int md), .val (.long mm), .second, .val (.int se), .unset, .unset, .unset, .unset, .unset] [])) (fun _ zq => XS.istore X15.here hx rfl (hb hby at_11) rfl (l' := #[.val (.long p0), .second, .val (.long p1), .second, .val (.int md), .val (.long mm), .second, .val (.int se), .unset, .unset, .unset, .unset, .unset]) rfl zq) ?_
  obtain ⟨T16, h16, X16, e16, E16, A16, D16, -, st16⟩ := newO X15 hx hZ hown (hw _ (List.mem_of_getElem? (i := 5) rfl)) (hw _ (List.mem_of_getElem? (i := 6) rfl)) (hw _ (List.mem_of_getElem? (i := 7) rfl)) (eq15) (g := (mkF m 13 #[.val (.long p0), .second, .val (.long p1), .second, .val (.int md), .val (.long mm), .second, .val (.int se), .unset, .unset, .unset, .unset, .unset] [])) rfl (hb hby at_13) (by decide) (by decide)
  obtain ⟨b16, ga16⟩ : ∃ z, z = h0.size := ⟨_, rfl⟩
  rw [← ga16] at A16 D16 st16
  have g_b16 : n0 ≤ b16 := Nat.le_trans Zs (Nat.le_of_eq ga16.symm)
  have E_b16 := A16
  replace O := O.ext E16
  replace Zs := Nat.le_trans Zs E16.1
  have F_b16_months : Fld Z h16 b16 "boxwood/Temporal$YearsAndMonthsDuration" "months" "J" (.long (0 : Int64)) := D16 (Or.inr (hw _ (List.mem_of_getElem? (i := 21) rfl))) (ty := .long) (by decide)
  refine own_st (g' := (mkF m 16 #[.val (.long p0), .second, .val (.long p1), .second, .val (.int md), .val (.long mm), .second, .val (.int se), .unset, .unset, .unset, .unset, .unset] [(.ref b16)])) st16 ?_
  refine own_st (T' := T16) (g' := (mkF m 17 #[.val (.long p0), .second, .val (.long p1), .second, .val (.int md), .val (.long mm), .second, .val (.int se), .unset, .unset, .unset, .unset, .unset] [(.ref b16), (.ref b16)])) (fun _ zq => XS.dup X16.here hx rfl (hb hby at_16) rfl rfl zq) ?_
  refine own_st (T' := T16) (g' := (mkF m 19 #[.val (.long p0), .second, .val (.long p1), .second, .val (.int md), .val (.long mm), .second, .val (.int se), .unset, .unset, .unset, .unset, .unset] [(.long mm), (.ref b16), (.ref b16)])) (fun _ zq => XS.lload X16.here hx rfl (hb hby at_17) rfl zq) ?_
  obtain ⟨_, _, ⟨T17, L17, k17, n17⟩, -, X17, ⟨Lc17, hQ17, l17, y17, z17⟩, st17⟩ := X16.specialBack hx (y := (⟨"boxwood/Temporal$YearsAndMonthsDuration", "<init>", "(J)V"⟩ : MethodName)) rfl hown (mvT hZ (hw _ (List.mem_of_getElem? (i := 8) rfl))) (mvT hZ (hw _ (List.mem_of_getElem? (i := 9) rfl))) (mvT hZ (hw _ (List.mem_of_getElem? (i := 10) rfl))) (by decide) (backOf (W := 1) (rm_init l Z a0 hw [] b16 mm h16 n0 Zs E_b16 F_b16_months hm g_b16) hZ (hw _ (List.mem_of_getElem? (i := 10) rfl)) (hw _ (List.mem_of_getElem? (i := 7) rfl)) (by decide) (by decide)) (g := (mkF m 19 #[.val (.long p0), .second, .val (.long p1), .second, .val (.int md), .val (.long mm), .second, .val (.int se), .unset, .unset, .unset, .unset, .unset] [(.long mm), (.ref b16), (.ref b16)])) rfl (by rw [hml]; rfl) (Steps.refl _) (a := b16) (argsL := [(.long mm)]) (rest := [(.ref b16)]) (lenOf own_pd1 rfl) rfl (by show 2 * 0 + _ ≤ _; exact Nat.le_of_eq rfl) (hb hby at_19) (fun _ _ => ⟨rfl, e16, (by decide : 1 + 0 ≤ _), (by decide : 1 + 0 ≤ _)⟩)
  dsimp only [Pt.U, Pt.locs, Pt.cells, Pt.slots] at X17 l17 y17 z17 st17 hQ17
  subst l17 y17 z17
  obtain ⟨rfl, Nq17, Kq17, E_b16, F_b16_months⟩ := hQ17
  replace N := Fr.app N Nq17
  replace O := O.keep Kq17 (allS g_b16 all0)
  replace Zs := Nat.le_trans Zs Kq17.1
  refine own_tr (g' := (mkF m 22 #[.val (.long p0), .second, .val (.long p1), .second, .val (.int md), .val (.long mm), .second, .val (.int se), .unset, .unset, .unset, .unset, .unset] [(.ref b16)])) st17 ?_
  refine own_st (T' := T17) (g' := (mkF m 24 #[.val (.long p0), .second, .val (.long p1), .second, .val (.int md), .val (.long mm), .second, .val (.int se), .val (.ref b16), .unset, .unset, .unset, .unset] [])) (fun _ zq => XS.astore X17.here hx rfl (hb hby at_22) rfl rfl (l' := #[.val (.long p0), .second, .val (.long p1), .second, .val (.int md), .val (.long mm), .second, .val (.int se), .val (.ref b16), .unset, .unset, .unset, .unset]) rfl zq) ?_
  refine own_st (T' := T17) (g' := (mkF m 26 #[.val (.long p0), .second, .val (.long p1), .second, .val (.int md), .val (.long mm), .second, .val (.int se), .val (.ref b16), .unset, .unset, .unset, .unset] [(.int se)])) (fun _ zq => XS.iload X17.here hx rfl (hb hby at_24) rfl zq) ?_
  refine own_st (T' := T17) (g' := (mkF m 27 #[.val (.long p0), .second, .val (.long p1), .second, .val (.int md), .val (.long mm), .second, .val (.int se), .val (.ref b16), .unset, .unset, .unset, .unset] [(.int (5 : Int32)), (.int se)])) (fun _ zq => XS.iconst X17.here hx rfl (hb hby at_26) zq) ?_
  by_cases hk5 : se = (5 : Int32)
  · skip
    refine own_st (T' := T17) (g' := (mkF m 30 #[.val (.long p0), .second, .val (.long p1), .second, .val (.int md), .val (.long mm), .second, .val (.int se), .val (.ref b16), .unset, .unset, .unset, .unset] [])) (fun _ zq => XS.icmpNo X17.here hx rfl (hb hby at_27) rfl (teq hk5).2 zq) ?_
    refine own_st (T' := T17) (g' := (mkF m 32 #[.val (.long p0), .second, .val (.long p1), .second, .val (.int md), .val (.long mm), .second, .val (.int se), .val (.ref b16), .unset, .unset, .unset, .unset] [(.ref b16)])) (fun _ zq => XS.aload X17.here hx rfl (hb hby at_30) rfl rfl zq) ?_
    refine own_st (T' := T17) (g' := (mkF m 33 #[.val (.long p0), .second, .val (.long p1), .second, .val (.int md), .val (.long mm), .second, .val (.int se), .val (.ref b16), .unset, .unset, .unset, .unset] [.null, (.ref b16)])) (fun _ zq => XS.aconstNull X17.here hx rfl (hb hby at_32) zq) ?_
    obtain ⟨cq18, kq18, q18a, q18b, q18c⟩ := isOf hZ rfl E_b16
    obtain ⟨_, _, ⟨T18, L18, k18, n18⟩, -, X18, ⟨Lc18, hQ18, l18, y18, z18⟩, st18⟩ := X17.virtualBack hx (y := (⟨"boxwood/Temporal$YearsAndMonthsDuration", "equals", "(Ljava/lang/Object;)Z"⟩ : MethodName)) (z := (⟨"boxwood/Temporal$YearsAndMonthsDuration", "equals", "(Ljava/lang/Object;)Z"⟩ : MethodName)) hown (mvT hZ (hw _ (List.mem_of_getElem? (i := 22) rfl))) (mvT hZ (hw _ (List.mem_of_getElem? (i := 23) rfl))) (notFace_of_selects (args := #[]) (mvT hZ (hw _ (List.mem_of_getElem? (i := 25) rfl)))) (mvT hZ (hw _ (List.mem_of_getElem? (i := 25) rfl))) (mvT hZ (hw _ (List.mem_of_getElem? (i := 24) rfl))) (by decide) (backOf (W := 0) (rm_eqnull l Z a0 hw [] b16 T17.heap n0 Zs ) hZ (hw _ (List.mem_of_getElem? (i := 26) rfl)) (hw _ (List.mem_of_getElem? (i := 7) rfl)) (by decide) (by decide)) q18a q18c (g := (mkF m 33 #[.val (.long p0), .second, .val (.long p1), .second, .val (.int md), .val (.long mm), .second, .val (.int se), .val (.ref b16), .unset, .unset, .unset, .unset] [.null, (.ref b16)])) rfl (by rw [hml]; rfl) (Steps.refl _) (argsL := [.null]) (rest := []) (lenOf own_pd3 rfl) rfl (by show 2 * 0 + _ ≤ _; exact Nat.le_of_eq rfl) (hb hby at_33) (fun _ _ => ⟨rfl, rfl, (by decide : 1 + 0 ≤ _), (by decide : 1 + 0 ≤ _)⟩)
    dsimp only [Pt.U, Pt.locs, Pt.cells, Pt.slots] at X18 l18 y18 z18 st18 hQ18
    subst l18 y18 z18
    obtain ⟨rfl, Nq18, eq18⟩ := hQ18
    replace N := Fr.app N Nq18
    refine own_tr (g' := (mkF m 36 #[.val (.long p0), .second, .val (.long p1), .second, .val (.int md), .val (.long mm), .second, .val (.int se), .val (.ref b16), .unset, .unset, .unset, .unset] [(.int (0 : Int32))])) st18 ?_
    refine own_st (T' := T18) (g' := (mkF m 39 #[.val (.long p0), .second, .val (.long p1), .second, .val (.int md), .val (.long mm), .second, .val (.int se), .val (.ref b16), .unset, .unset, .unset, .unset] [])) (fun _ zq => XS.ifNo X18.here hx rfl (hb hby at_36) rfl ((if0 _ _).trans (teq rfl).2) zq) ?_
    refine own_st (T' := T18) (g' := (mkF m 41 #[.val (.long p0), .second, .val (.long p1), .second, .val (.int md), .val (.long mm), .second, .val (.int se), .val (.ref b16), .unset, .unset, .unset, .unset] [(.ref b16)])) (fun _ zq => XS.aload X18.here hx rfl (hb hby at_39) rfl rfl zq) ?_
    refine own_st (T' := T18) (g' := (mkF m 43 #[.val (.long p0), .second, .val (.long p1), .second, .val (.int md), .val (.long mm), .second, .val (.int se), .val (.ref b16), .unset, .unset, .unset, .unset] [(.ref b16), (.ref b16)])) (fun _ zq => XS.aload X18.here hx rfl (hb hby at_41) rfl rfl zq) ?_
    obtain ⟨cq19, kq19, q19a, q19b, q19c⟩ := isOf hZ (eq18) E_b16
    obtain ⟨_, _, ⟨T19, L19, k19, n19⟩, -, X19, ⟨Lc19, hQ19, l19, y19, z19⟩, st19⟩ := X18.virtualBack hx (y := (⟨"boxwood/Temporal$YearsAndMonthsDuration", "equals", "(Ljava/lang/Object;)Z"⟩ : MethodName)) (z := (⟨"boxwood/Temporal$YearsAndMonthsDuration", "equals", "(Ljava/lang/Object;)Z"⟩ : MethodName)) hown (mvT hZ (hw _ (List.mem_of_getElem? (i := 22) rfl))) (mvT hZ (hw _ (List.mem_of_getElem? (i := 23) rfl))) (notFace_of_selects (args := #[]) (mvT hZ (hw _ (List.mem_of_getElem? (i := 25) rfl)))) (mvT hZ (hw _ (List.mem_of_getElem? (i := 25) rfl))) (mvT hZ (hw _ (List.mem_of_getElem? (i := 24) rfl))) (by decide) (backOf (W := 0) (rm_eq l Z a0 hw [] b16 b16 mm mm T17.heap n0 Zs E_b16 F_b16_months F_b16_months) hZ (hw _ (List.mem_of_getElem? (i := 26) rfl)) (hw _ (List.mem_of_getElem? (i := 7) rfl)) (by decide) (by decide)) q19a q19c (g := (mkF m 43 #[.val (.long p0), .second, .val (.long p1), .second, .val (.int md), .val (.long mm), .second, .val (.int se), .val (.ref b16), .unset, .unset, .unset, .unset] [(.ref b16), (.ref b16)])) rfl (by rw [hml]; rfl) (Steps.refl _) (argsL := [(.ref b16)]) (rest := []) (lenOf own_pd3 rfl) rfl (by show 2 * 0 + _ ≤ _; exact Nat.le_of_eq rfl) (hb hby at_43) (fun _ _ => ⟨rfl, (eq18), (by decide : 1 + 0 ≤ _), (by decide : 1 + 0 ≤ _)⟩)
    dsimp only [Pt.U, Pt.locs, Pt.cells, Pt.slots] at X19 l19 y19 z19 st19 hQ19
    subst l19 y19 z19
    obtain ⟨rfl, Nq19, eq19⟩ := hQ19
    replace N := Fr.app N Nq19
    refine own_tr (g' := (mkF m 46 #[.val (.long p0), .second, .val (.long p1), .second, .val (.int md), .val (.long mm), .second, .val (.int se), .val (.ref b16), .unset, .unset, .unset, .unset] [(.int (if mm = mm then 1 else 0))])) st19 ?_
    refine own_st (T' := T19) (g' := (mkF m 49 #[.val (.long p0), .second, .val (.long p1), .second, .val (.int md), .val (.long mm), .second, .val (.int se), .val (.ref b16), .unset, .unset, .unset, .unset] [])) (fun _ zq => XS.ifNo X19.here hx rfl (hb hby at_46) rfl ((if0 _ _).trans (feq (by rw [if_pos rfl]; decide)).1) zq) ?_
    refine own_st (T' := T19) (g' := (mkF m 50 #[.val (.long p0), .second, .val (.long p1), .second, .val (.int md), .val (.long mm), .second, .val (.int se), .val (.ref b16), .unset, .unset, .unset, .unset] [(.int (1 : Int32))])) (fun _ zq => XS.iconst X19.here hx rfl (hb hby at_49) zq) ?_
    refine own_st (T' := T19) (g' := (mkF m 54 #[.val (.long p0), .second, .val (.long p1), .second, .val (.int md), .val (.long mm), .second, .val (.int se), .val (.ref b16), .unset, .unset, .unset, .unset] [(.int (1 : Int32))])) (fun _ zq => XS.goto X19.here hx rfl (pc0 := 50) (pc' := 54) rfl (hb hby at_50) (by decide) (by decide) zq) ?_
    exact own_ret X19 hx hret hlk (i := .ireturn) rfl (Or.inl ⟨rfl, by decide, _, rfl⟩) (hb hby at_54) (eq19) (Nat.le_of_ble_eq_true rfl) (Nat.le_of_ble_eq_true rfl) ⟨rfl, N⟩
  · skip
    refine own_st (T' := T17) (g' := (mkF m 55 #[.val (.long p0), .second, .val (.long p1), .second, .val (.int md), .val (.long mm), .second, .val (.int se), .val (.ref b16), .unset, .unset, .unset, .unset] [])) (fun _ zq => XS.icmpYes X17.here hx rfl (pc0 := 27) (pc' := 55) rfl (hb hby at_27) rfl (feq hk5).2 (by decide) (by decide) zq) ?_
    refine own_st (T' := T17) (g' := (mkF m 57 #[.val (.long p0), .second, .val (.long p1), .second, .val (.int md), .val (.long mm), .second, .val (.int se), .val (.ref b16), .unset, .unset, .unset, .unset] [(.int se)])) (fun _ zq => XS.iload X17.here hx rfl (hb hby at_55) rfl zq) ?_
    refine own_st (T' := T17) (g' := (mkF m 59 #[.val (.long p0), .second, .val (.long p1), .second, .val (.int md), .val (.long mm), .second, .val (.int se), .val (.ref b16), .unset, .unset, .unset, .unset] [(.int (6 : Int32)), (.int se)])) (fun _ zq => XS.bipush X17.here hx rfl (hb hby at_57) zq) ?_
    by_cases hk6 : se = (6 : Int32)
    · skip
      refine own_st (T' := T17) (g' := (mkF m 62 #[.val (.long p0), .second, .val (.long p1), .second, .val (.int md), .val (.long mm), .second, .val (.int se), .val (.ref b16), .unset, .unset, .unset, .unset] [])) (fun _ zq => XS.icmpNo X17.here hx rfl (hb hby at_59) rfl (teq hk6).2 zq) ?_
      refine own_st (T' := T17) (g' := (mkF m 64 #[.val (.long p0), .second, .val (.long p1), .second, .val (.int md), .val (.long mm), .second, .val (.int se), .val (.ref b16), .unset, .unset, .unset, .unset] [(.ref b16)])) (fun _ zq => XS.aload X17.here hx rfl (hb hby at_62) rfl rfl zq) ?_
      refine own_st (T' := T17) (g' := (mkF m 66 #[.val (.long p0), .second, .val (.long p1), .second, .val (.int md), .val (.long mm), .second, .val (.int se), .val (.ref b16), .unset, .unset, .unset, .unset] [(.long mm), (.ref b16)])) (fun _ zq => XS.lload X17.here hx rfl (hb hby at_64) rfl zq) ?_
      obtain ⟨_, _, ⟨T20, L20, k20, n20⟩, -, X20, ⟨Lc20, hQ20, l20, y20, z20⟩, st20⟩ := Jvm.LawKit.callS X17 hx (y := (⟨"java/lang/Long", "valueOf", "(J)Ljava/lang/Long;"⟩ : MethodName)) hown (mvT hZ (hw _ (List.mem_of_getElem? (i := 29) rfl))) (mvT hZ (hw _ (List.mem_of_getElem? (i := 30) rfl))) (mvT hZ (hw _ (List.mem_of_getElem? (i := 31) rfl))) (mvT hZ (hw _ (List.mem_of_getElem? (i := 32) rfl))) (by decide) (backOf (W := 1) (rm_valueOf l Z a0 hw [] mm cC T17.heap n0 Zs O S0 B0) hZ (hw _ (List.mem_of_getElem? (i := 32) rfl)) (hw _ (List.mem_of_getElem? (i := 31) rfl)) (by decide) (by decide)) (g := (mkF m 66 #[.val (.long p0), .second, .val (.long p1), .second, .val (.int md), .val (.long mm), .second, .val (.int se), .val (.ref b16), .unset, .unset, .unset, .unset] [(.long mm), (.ref b16)])) rfl (by rw [hml]; rfl) (argsL := [(.long mm)]) (rest := [(.ref b16)]) (lenOf own_pd4 rfl) rfl (by show 2 * 0 + _ ≤ _; exact Nat.le_of_eq rfl) (hb hby at_66) (fun _ _ => ⟨rfl, rfl, (by decide : 1 + 1 ≤ _), (by decide : 1 + 1 ≤ _)⟩)
      dsimp only [Pt.U, Pt.locs, Pt.cells, Pt.slots] at X20 l20 y20 z20 st20 hQ20
      subst l20 y20 z20
      obtain ⟨rr, rfl, Nq20, Kq20, E_r⟩ := hQ20
      replace N := Fr.app N Nq20
      replace O := O.keep Kq20 all0
      replace E_b16 := E_b16.keep Kq20
      replace F_b16_months := F_b16_months.keep Kq20 nin0
      replace Zs := Nat.le_trans Zs Kq20.1
      refine own_st (g' := (mkF m 69 #[.val (.long p0), .second, .val (.long p1), .second, .val (.int md), .val (.long mm), .second, .val (.int se), .val (.ref b16), .unset, .unset, .unset, .unset] [(.ref rr), (.ref b16)])) st20 ?_
      obtain ⟨cq21, kq21, q21a, q21b, q21c⟩ := isOf hZ rfl E_b16
      obtain ⟨_, _, ⟨T21, L21, k21, n21⟩, -, X21, ⟨Lc21, hQ21, l21, y21, z21⟩, st21⟩ := X20.virtualBack hx (y := (⟨"boxwood/Temporal$YearsAndMonthsDuration", "equals", "(Ljava/lang/Object;)Z"⟩ : MethodName)) (z := (⟨"boxwood/Temporal$YearsAndMonthsDuration", "equals", "(Ljava/lang/Object;)Z"⟩ : MethodName)) hown (mvT hZ (hw _ (List.mem_of_getElem? (i := 22) rfl))) (mvT hZ (hw _ (List.mem_of_getElem? (i := 23) rfl))) (notFace_of_selects (args := #[]) (mvT hZ (hw _ (List.mem_of_getElem? (i := 25) rfl)))) (mvT hZ (hw _ (List.mem_of_getElem? (i := 25) rfl))) (mvT hZ (hw _ (List.mem_of_getElem? (i := 24) rfl))) (by decide) (backOf (W := 0) (rm_eqlong l Z a0 hw [] b16 rr T20.heap n0 Zs E_r) hZ (hw _ (List.mem_of_getElem? (i := 26) rfl)) (hw _ (List.mem_of_getElem? (i := 7) rfl)) (by decide) (by decide)) q21a q21c (g := (mkF m 69 #[.val (.long p0), .second, .val (.long p1), .second, .val (.int md), .val (.long mm), .second, .val (.int se), .val (.ref b16), .unset, .unset, .unset, .unset] [(.ref rr), (.ref b16)])) rfl (by rw [hml]; rfl) (Steps.refl _) (argsL := [(.ref rr)]) (rest := []) (lenOf own_pd3 rfl) rfl (by show 2 * 0 + _ ≤ _; exact Nat.le_of_eq rfl) (hb hby at_69) (fun _ _ => ⟨rfl, rfl, (by decide : 2 + 0 ≤ _), (by decide : 2 + 0 ≤ _)⟩)
      dsimp only [Pt.U, Pt.locs, Pt.cells, Pt.slots] at X21 l21 y21 z21 st21 hQ21
      subst l21 y21 z21
      obtain ⟨rfl, Nq21, eq21⟩ := hQ21
      replace N := Fr.app N Nq21
      refine own_tr (g' := (mkF m 72 #[.val (.long p0), .second, .val (.long p1), .second, .val (.int md), .val (.long mm), .second, .val (.int se), .val (.ref b16), .unset, .unset, .unset, .unset] [(.int (0 : Int32))])) st21 ?_
      refine own_st (T' := T21) (g' := (mkF m 75 #[.val (.long p0), .second, .val (.long p1), .second, .val (.int md), .val (.long mm), .second, .val (.int se), .val (.ref b16), .unset, .unset, .unset, .unset] [])) (fun _ zq => XS.ifNo X21.here hx rfl (hb hby at_72) rfl ((if0 _ _).trans (teq rfl).2) zq) ?_
      refine own_st (T' := T21) (g' := (mkF m 77 #[.val (.long p0), .second, .val (.long p1), .second, .val (.int md), .val (.long mm), .second, .val (.int se), .val (.ref b16), .unset, .unset, .unset, .unset] [(.ref b16)])) (fun _ zq => XS.aload X21.here hx rfl (hb hby at_75) rfl rfl zq) ?_
      refine own_st (T' := T21) (g' := (mkF m 79 #[.val (.long p0), .second, .val (.long p1), .second, .val (.int md), .val (.long mm), .second, .val (.int se), .val (.ref b16), .unset, .unset, .unset, .unset] [(.ref b16), (.ref b16)])) (fun _ zq => XS.aload X21.here hx rfl (hb hby at_77) rfl rfl zq) ?_
      obtain ⟨cq22, kq22, q22a, q22b, q22c⟩ := isOf hZ (eq21) E_b16
      obtain ⟨_, _, ⟨T22, L22, k22, n22⟩, -, X22, ⟨Lc22, hQ22, l22, y22, z22⟩, st22⟩ := X21.virtualBack hx (y := (⟨"boxwood/Temporal$YearsAndMonthsDuration", "equals", "(Ljava/lang/Object;)Z"⟩ : MethodName)) (z := (⟨"boxwood/Temporal$YearsAndMonthsDuration", "equals", "(Ljava/lang/Object;)Z"⟩ : MethodName)) hown (mvT hZ (hw _ (List.mem_of_getElem? (i := 22) rfl))) (mvT hZ (hw _ (List.mem_of_getElem? (i := 23) rfl))) (notFace_of_selects (args := #[]) (mvT hZ (hw _ (List.mem_of_getElem? (i := 25) rfl)))) (mvT hZ (hw _ (List.mem_of_getElem? (i := 25) rfl))) (mvT hZ (hw _ (List.mem_of_getElem? (i := 24) rfl))) (by decide) (backOf (W := 0) (rm_eq l Z a0 hw [] b16 b16 mm mm T20.heap n0 Zs E_b16 F_b16_months F_b16_months) hZ (hw _ (List.mem_of_getElem? (i := 26) rfl)) (hw _ (List.mem_of_getElem? (i := 7) rfl)) (by decide) (by decide)) q22a q22c (g := (mkF m 79 #[.val (.long p0), .second, .val (.long p1), .second, .val (.int md), .val (.long mm), .second, .val (.int se), .val (.ref b16), .unset, .unset, .unset, .unset] [(.ref b16), (.ref b16)])) rfl (by rw [hml]; rfl) (Steps.refl _) (argsL := [(.ref b16)]) (rest := []) (lenOf own_pd3 rfl) rfl (by show 2 * 0 + _ ≤ _; exact Nat.le_of_eq rfl) (hb hby at_79) (fun _ _ => ⟨rfl, (eq21), (by decide : 2 + 0 ≤ _), (by decide : 2 + 0 ≤ _)⟩)
      dsimp only [Pt.U, Pt.locs, Pt.cells, Pt.slots] at X22 l22 y22 z22 st22 hQ22
      subst l22 y22 z22
      obtain ⟨rfl, Nq22, eq22⟩ := hQ22
      replace N := Fr.app N Nq22
      refine own_tr (g' := (mkF m 82 #[.val (.long p0), .second, .val (.long p1), .second, .val (.int md), .val (.long mm), .second, .val (.int se), .val (.ref b16), .unset, .unset, .unset, .unset] [(.int (if mm = mm then 1 else 0))])) st22 ?_
      refine own_st (T' := T22) (g' := (mkF m 85 #[.val (.long p0), .second, .val (.long p1), .second, .val (.int md), .val (.long mm), .second, .val (.int se), .val (.ref b16), .unset, .unset, .unset, .unset] [])) (fun _ zq => XS.ifNo X22.here hx rfl (hb hby at_82) rfl ((if0 _ _).trans (feq (by rw [if_pos rfl]; decide)).1) zq) ?_
      refine own_st (T' := T22) (g' := (mkF m 86 #[.val (.long p0), .second, .val (.long p1), .second, .val (.int md), .val (.long mm), .second, .val (.int se), .val (.ref b16), .unset, .unset, .unset, .unset] [(.int (1 : Int32))])) (fun _ zq => XS.iconst X22.here hx rfl (hb hby at_85) zq) ?_
      refine own_st (T' := T22) (g' := (mkF m 90 #[.val (.long p0), .second, .val (.long p1), .second, .val (.int md), .val (.long mm), .second, .val (.int se), .val (.ref b16), .unset, .unset, .unset, .unset] [(.int (1 : Int32))])) (fun _ zq => XS.goto X22.here hx rfl (pc0 := 86) (pc' := 90) rfl (hb hby at_86) (by decide) (by decide) zq) ?_
      exact own_ret X22 hx hret hlk (i := .ireturn) rfl (Or.inl ⟨rfl, by decide, _, rfl⟩) (hb hby at_90) (eq22) (Nat.le_of_ble_eq_true rfl) (Nat.le_of_ble_eq_true rfl) ⟨rfl, N⟩
    · skip
      refine own_st (T' := T17) (g' := (mkF m 91 #[.val (.long p0), .second, .val (.long p1), .second, .val (.int md), .val (.long mm), .second, .val (.int se), .val (.ref b16), .unset, .unset, .unset, .unset] [])) (fun _ zq => XS.icmpYes X17.here hx rfl (pc0 := 59) (pc' := 91) rfl (hb hby at_59) rfl (feq hk6).2 (by decide) (by decide) zq) ?_
      refine own_st (T' := T17) (g' := (mkF m 93 #[.val (.long p0), .second, .val (.long p1), .second, .val (.int md), .val (.long mm), .second, .val (.int se), .val (.ref b16), .unset, .unset, .unset, .unset] [(.int se)])) (fun _ zq => XS.iload X17.here hx rfl (hb hby at_91) rfl zq) ?_
      suffices J179 : ∀ (T23 : State) (lo23 : List Loc) (h23 : Heap) (X23 : Stand p l e room_1 s m #[(.long p0), (.long p1), (.int md)] below meth c T23 lo23 1 1) (e23 : T23.heap = h23) (N23 : Fr n0 lo23) (Z23 : n0 ≤ h23.size) (nn : Int64) (O : Old Z n0 h23) (E_b16 : Exa Z h23 b16 "boxwood/Temporal$YearsAndMonthsDuration") (F_b16_months : Fld Z h23 b16 "boxwood/Temporal$YearsAndMonthsDuration" "months" "J" (.long mm)) (hn : ¬ nn = (-9223372036854775808 : Int64)), own_Go p e below s (Q_law Z p0 p1 md cC h0 n0) 16 128 T23 (mkF m 179 #[.val (.long p0), .second, .val (.long p1), .second, .val (.int md), .val (.long mm), .second, .val (.int se), .val (.ref b16), .val (.long nn), .second, .unset, .unset] []) by
        by_cases hk0 : se = (0 : Int32)
        · skip
          refine own_st (T' := T17) (g' := (mkF m 96 #[.val (.long p0), .second, .val (.long p1), .second, .val (.int md), .val (.long mm), .second, .val (.int se), .val (.ref b16), .unset, .unset, .unset, .unset] [])) (fun _ zq => XS.ifNo X17.here hx rfl (hb hby at_93) rfl ((if0 _ _).trans (teq hk0).2) zq) ?_
          refine own_st (T' := T17) (g' := (mkF m 98 #[.val (.long p0), .second, .val (.long p1), .second, .val (.int md), .val (.long mm), .second, .val (.int se), .val (.ref b16), .unset, .unset, .unset, .unset] [(.long mm)])) (fun _ zq => XS.lload X17.here hx rfl (hb hby at_96) rfl zq) ?_
          refine own_st (T' := T17) (g' := (mkF m 100 #[.val (.long p0), .second, .val (.long p1), .second, .val (.int md), .val (.long mm), .second, .val (.int se), .val (.ref b16), .val (.long mm), .second, .unset, .unset] [])) (fun _ zq => XS.lstore X17.here hx rfl (hb hby at_98) rfl (l' := #[.val (.long p0), .second, .val (.long p1), .second, .val (.int md), .val (.long mm), .second, .val (.int se), .val (.ref b16), .val (.long mm), .second, .unset, .unset]) rfl zq) ?_
          refine own_st (T' := T17) (g' := (mkF m 179 #[.val (.long p0), .second, .val (.long p1), .second, .val (.int md), .val (.long mm), .second, .val (.int se), .val (.ref b16), .val (.long mm), .second, .unset, .unset] [])) (fun _ zq => XS.goto X17.here hx rfl (pc0 := 100) (pc' := 179) rfl (hb hby at_100) (by decide) (by decide) zq) ?_
          exact J179 T17 _ T17.heap (X17.more (Nat.le_of_ble_eq_true rfl) (Nat.le_of_ble_eq_true rfl)) rfl N Zs _ O E_b16 F_b16_months hm
        · skip
          refine own_st (T' := T17) (g' := (mkF m 103 #[.val (.long p0), .second, .val (.long p1), .second, .val (.int md), .val (.long mm), .second, .val (.int se), .val (.ref b16), .unset, .unset, .unset, .unset] [])) (fun _ zq => XS.ifYes X17.here hx rfl (pc0 := 93) (pc' := 103) rfl (hb hby at_93) rfl ((if0 _ _).trans (feq hk0).2) (by decide) (by decide) zq) ?_
          refine own_st (T' := T17) (g' := (mkF m 105 #[.val (.long p0), .second, .val (.long p1), .second, .val (.int md), .val (.long mm), .second, .val (.int se), .val (.ref b16), .unset, .unset, .unset, .unset] [(.int se)])) (fun _ zq => XS.iload X17.here hx rfl (hb hby at_103) rfl zq) ?_
          refine own_st (T' := T17) (g' := (mkF m 106 #[.val (.long p0), .second, .val (.long p1), .second, .val (.int md), .val (.long mm), .second, .val (.int se), .val (.ref b16), .unset, .unset, .unset, .unset] [(.int (1 : Int32)), (.int se)])) (fun _ zq => XS.iconst X17.here hx rfl (hb hby at_105) zq) ?_
          by_cases hk1 : se = (1 : Int32)
          · skip
            refine own_st (T' := T17) (g' := (mkF m 109 #[.val (.long p0), .second, .val (.long p1), .second, .val (.int md), .val (.long mm), .second, .val (.int se), .val (.ref b16), .unset, .unset, .unset, .unset] [])) (fun _ zq => XS.icmpNo X17.here hx rfl (hb hby at_106) rfl (teq hk1).2 zq) ?_
            refine own_st (T' := T17) (g' := (mkF m 110 #[.val (.long p0), .second, .val (.long p1), .second, .val (.int md), .val (.long mm), .second, .val (.int se), .val (.ref b16), .unset, .unset, .unset, .unset] [(.long p1)])) (fun _ zq => XS.lloadN X17.here hx rfl (hb hby at_109) rfl zq) ?_
            obtain ⟨_, _, ⟨T24, L24, k24, n24⟩, -, X24, ⟨Lc24, hQ24, l24, y24, z24⟩, st24⟩ := Jvm.LawKit.callS X17 hx (y := (⟨"boxwood/YearsAndMonthsDurationEqualsPinLaw", "fix", "(J)J"⟩ : MethodName)) hown (mvT hZ (hw _ (List.mem_of_getElem? (i := 0) rfl))) (mvT hZ (hw _ (List.mem_of_getElem? (i := 1) rfl))) (mvT hZ (hw _ (List.mem_of_getElem? (i := 2) rfl))) (mvT hZ (hw _ (List.mem_of_getElem? (i := 3) rfl))) (by decide) (backOf (W := 0) (rm_fix l Z a0 hw [] p1 T17.heap n0 Zs ) hZ (hw _ (List.mem_of_getElem? (i := 3) rfl)) (hw _ (List.mem_of_getElem? (i := 2) rfl)) (by decide) (by decide)) (g := (mkF m 110 #[.val (.long p0), .second, .val (.long p1), .second, .val (.int md), .val (.long mm), .second, .val (.int se), .val (.ref b16), .unset, .unset, .unset, .unset] [(.long p1)])) rfl (by rw [hml]; rfl) (argsL := [(.long p1)]) (rest := []) (lenOf own_pd2 rfl) rfl (by show 2 * 0 + _ ≤ _; exact Nat.le_of_eq rfl) (hb hby at_110) (fun _ _ => ⟨rfl, rfl, (by decide : 1 + 0 ≤ _), (by decide : 1 + 0 ≤ _)⟩)
            dsimp only [Pt.U, Pt.locs, Pt.cells, Pt.slots] at X24 l24 y24 z24 st24 hQ24
            subst l24 y24 z24
            obtain ⟨rfl, Nq24, eq24⟩ := hQ24
            replace N := Fr.app N Nq24
            refine own_st (g' := (mkF m 113 #[.val (.long p0), .second, .val (.long p1), .second, .val (.int md), .val (.long mm), .second, .val (.int se), .val (.ref b16), .unset, .unset, .unset, .unset] [(.long (own_fix p1))])) st24 ?_
            refine own_st (T' := T24) (g' := (mkF m 115 #[.val (.long p0), .second, .val (.long p1), .second, .val (.int md), .val (.long mm), .second, .val (.int se), .val (.ref b16), .val (.long (own_fix p1)), .second, .unset, .unset] [])) (fun _ zq => XS.lstore X24.here hx rfl (hb hby at_113) rfl (l' := #[.val (.long p0), .second, .val (.long p1), .second, .val (.int md), .val (.long mm), .second, .val (.int se), .val (.ref b16), .val (.long (own_fix p1)), .second, .unset, .unset]) rfl zq) ?_
            refine own_st (T' := T24) (g' := (mkF m 179 #[.val (.long p0), .second, .val (.long p1), .second, .val (.int md), .val (.long mm), .second, .val (.int se), .val (.ref b16), .val (.long (own_fix p1)), .second, .unset, .unset] [])) (fun _ zq => XS.goto X24.here hx rfl (pc0 := 115) (pc' := 179) rfl (hb hby at_115) (by decide) (by decide) zq) ?_
            exact J179 T24 _ T17.heap (X24.more (Nat.le_of_ble_eq_true rfl) (Nat.le_of_ble_eq_true rfl)) (eq24) N Zs _ O E_b16 F_b16_months (own_fixne _)
          · skip
            refine own_st (T' := T17) (g' := (mkF m 118 #[.val (.long p0), .second, .val (.long p1), .second, .val (.int md), .val (.long mm), .second, .val (.int se), .val (.ref b16), .unset, .unset, .unset, .unset] [])) (fun _ zq => XS.icmpYes X17.here hx rfl (pc0 := 106) (pc' := 118) rfl (hb hby at_106) rfl (feq hk1).2 (by decide) (by decide) zq) ?_
            refine own_st (T' := T17) (g' := (mkF m 120 #[.val (.long p0), .second, .val (.long p1), .second, .val (.int md), .val (.long mm), .second, .val (.int se), .val (.ref b16), .unset, .unset, .unset, .unset] [(.int se)])) (fun _ zq => XS.iload X17.here hx rfl (hb hby at_118) rfl zq) ?_
            refine own_st (T' := T17) (g' := (mkF m 121 #[.val (.long p0), .second, .val (.long p1), .second, .val (.int md), .val (.long mm), .second, .val (.int se), .val (.ref b16), .unset, .unset, .unset, .unset] [(.int (2 : Int32)), (.int se)])) (fun _ zq => XS.iconst X17.here hx rfl (hb hby at_120) zq) ?_
            by_cases hk2 : se = (2 : Int32)
            · skip
              refine own_st (T' := T17) (g' := (mkF m 124 #[.val (.long p0), .second, .val (.long p1), .second, .val (.int md), .val (.long mm), .second, .val (.int se), .val (.ref b16), .unset, .unset, .unset, .unset] [])) (fun _ zq => XS.icmpNo X17.here hx rfl (hb hby at_121) rfl (teq hk2).2 zq) ?_
              refine own_st (T' := T17) (g' := (mkF m 126 #[.val (.long p0), .second, .val (.long p1), .second, .val (.int md), .val (.long mm), .second, .val (.int se), .val (.ref b16), .unset, .unset, .unset, .unset] [(.long mm)])) (fun _ zq => XS.lload X17.here hx rfl (hb hby at_124) rfl zq) ?_
              refine own_st (T' := T17) (g' := (mkF m 127 #[.val (.long p0), .second, .val (.long p1), .second, .val (.int md), .val (.long mm), .second, .val (.int se), .val (.ref b16), .unset, .unset, .unset, .unset] [(.long (1 : Int64)), (.long mm)])) (fun _ zq => XS.lconst X17.here hx rfl (hb hby at_126) zq) ?_
              refine own_st (T' := T17) (g' := (mkF m 128 #[.val (.long p0), .second, .val (.long p1), .second, .val (.int md), .val (.long mm), .second, .val (.int se), .val (.ref b16), .unset, .unset, .unset, .unset] [(.long (mm ^^^ (1 : Int64)))])) (fun _ zq => XS.lxor X17.here hx rfl (hb hby at_127) rfl zq) ?_
              obtain ⟨_, _, ⟨T25, L25, k25, n25⟩, -, X25, ⟨Lc25, hQ25, l25, y25, z25⟩, st25⟩ := Jvm.LawKit.callS X17 hx (y := (⟨"boxwood/YearsAndMonthsDurationEqualsPinLaw", "fix", "(J)J"⟩ : MethodName)) hown (mvT hZ (hw _ (List.mem_of_getElem? (i := 0) rfl))) (mvT hZ (hw _ (List.mem_of_getElem? (i := 1) rfl))) (mvT hZ (hw _ (List.mem_of_getElem? (i := 2) rfl))) (mvT hZ (hw _ (List.mem_of_getElem? (i := 3) rfl))) (by decide) (backOf (W := 0) (rm_fix l Z a0 hw [] (mm ^^^ (1 : Int64)) T17.heap n0 Zs ) hZ (hw _ (List.mem_of_getElem? (i := 3) rfl)) (hw _ (List.mem_of_getElem? (i := 2) rfl)) (by decide) (by decide)) (g := (mkF m 128 #[.val (.long p0), .second, .val (.long p1), .second, .val (.int md), .val (.long mm), .second, .val (.int se), .val (.ref b16), .unset, .unset, .unset, .unset] [(.long (mm ^^^ (1 : Int64)))])) rfl (by rw [hml]; rfl) (argsL := [(.long (mm ^^^ (1 : Int64)))]) (rest := []) (lenOf own_pd2 rfl) rfl (by show 2 * 0 + _ ≤ _; exact Nat.le_of_eq rfl) (hb hby at_128) (fun _ _ => ⟨rfl, rfl, (by decide : 1 + 0 ≤ _), (by decide : 1 + 0 ≤ _)⟩)
              dsimp only [Pt.U, Pt.locs, Pt.cells, Pt.slots] at X25 l25 y25 z25 st25 hQ25
              subst l25 y25 z25
              obtain ⟨rfl, Nq25, eq25⟩ := hQ25
              replace N := Fr.app N Nq25
              refine own_st (g' := (mkF m 131 #[.val (.long p0), .second, .val (.long p1), .second, .val (.int md), .val (.long mm), .second, .val (.int se), .val (.ref b16), .unset, .unset, .unset, .unset] [(.long (own_fix (mm ^^^ (1 : Int64))))])) st25 ?_
              refine own_st (T' := T25) (g' := (mkF m 133 #[.val (.long p0), .second, .val (.long p1), .second, .val (.int md), .val (.long mm), .second, .val (.int se), .val (.ref b16), .val (.long (own_fix (mm ^^^ (1 : Int64)))), .second, .unset, .unset] [])) (fun _ zq => XS.lstore X25.here hx rfl (hb hby at_131) rfl (l' := #[.val (.long p0), .second, .val (.long p1), .second, .val (.int md), .val (.long mm), .second, .val (.int se), .val (.ref b16), .val (.long (own_fix (mm ^^^ (1 : Int64)))), .second, .unset, .unset]) rfl zq) ?_
              refine own_st (T' := T25) (g' := (mkF m 179 #[.val (.long p0), .second, .val (.long p1), .second, .val (.int md), .val (.long mm), .second, .val (.int se), .val (.ref b16), .val (.long (own_fix (mm ^^^ (1 : Int64)))), .second, .unset, .unset] [])) (fun _ zq => XS.goto X25.here hx rfl (pc0 := 133) (pc' := 179) rfl (hb hby at_133) (by decide) (by decide) zq) ?_
              exact J179 T25 _ T17.heap (X25.more (Nat.le_of_ble_eq_true rfl) (Nat.le_of_ble_eq_true rfl)) (eq25) N Zs _ O E_b16 F_b16_months (own_fixne _)
            · skip
              refine own_st (T' := T17) (g' := (mkF m 136 #[.val (.long p0), .second, .val (.long p1), .second, .val (.int md), .val (.long mm), .second, .val (.int se), .val (.ref b16), .unset, .unset, .unset, .unset] [])) (fun _ zq => XS.icmpYes X17.here hx rfl (pc0 := 121) (pc' := 136) rfl (hb hby at_121) rfl (feq hk2).2 (by decide) (by decide) zq) ?_
              refine own_st (T' := T17) (g' := (mkF m 138 #[.val (.long p0), .second, .val (.long p1), .second, .val (.int md), .val (.long mm), .second, .val (.int se), .val (.ref b16), .unset, .unset, .unset, .unset] [(.int se)])) (fun _ zq => XS.iload X17.here hx rfl (hb hby at_136) rfl zq) ?_
              refine own_st (T' := T17) (g' := (mkF m 139 #[.val (.long p0), .second, .val (.long p1), .second, .val (.int md), .val (.long mm), .second, .val (.int se), .val (.ref b16), .unset, .unset, .unset, .unset] [(.int (3 : Int32)), (.int se)])) (fun _ zq => XS.iconst X17.here hx rfl (hb hby at_138) zq) ?_
              by_cases hk3 : se = (3 : Int32)
              · skip
                refine own_st (T' := T17) (g' := (mkF m 142 #[.val (.long p0), .second, .val (.long p1), .second, .val (.int md), .val (.long mm), .second, .val (.int se), .val (.ref b16), .unset, .unset, .unset, .unset] [])) (fun _ zq => XS.icmpNo X17.here hx rfl (hb hby at_139) rfl (teq hk3).2 zq) ?_
                refine own_st (T' := T17) (g' := (mkF m 144 #[.val (.long p0), .second, .val (.long p1), .second, .val (.int md), .val (.long mm), .second, .val (.int se), .val (.ref b16), .unset, .unset, .unset, .unset] [(.long mm)])) (fun _ zq => XS.lload X17.here hx rfl (hb hby at_142) rfl zq) ?_
                refine own_st (T' := T17) (g' := (mkF m 147 #[.val (.long p0), .second, .val (.long p1), .second, .val (.int md), .val (.long mm), .second, .val (.int se), .val (.ref b16), .unset, .unset, .unset, .unset] [(.long (-9223372036854775808 : Int64)), (.long mm)])) (fun _ zq => X17.ldc2Long hx hown (mvT hZ (hw _ (List.mem_of_getElem? (i := 4) rfl))) (g := (mkF m 144 #[.val (.long p0), .second, .val (.long p1), .second, .val (.int md), .val (.long mm), .second, .val (.int se), .val (.ref b16), .unset, .unset, .unset, .unset] [(.long mm)])) rfl (hb hby at_144) _ zq) ?_
                refine own_st (T' := T17) (g' := (mkF m 148 #[.val (.long p0), .second, .val (.long p1), .second, .val (.int md), .val (.long mm), .second, .val (.int se), .val (.ref b16), .unset, .unset, .unset, .unset] [(.long (mm ^^^ (-9223372036854775808 : Int64)))])) (fun _ zq => XS.lxor X17.here hx rfl (hb hby at_147) rfl zq) ?_
                obtain ⟨_, _, ⟨T26, L26, k26, n26⟩, -, X26, ⟨Lc26, hQ26, l26, y26, z26⟩, st26⟩ := Jvm.LawKit.callS X17 hx (y := (⟨"boxwood/YearsAndMonthsDurationEqualsPinLaw", "fix", "(J)J"⟩ : MethodName)) hown (mvT hZ (hw _ (List.mem_of_getElem? (i := 0) rfl))) (mvT hZ (hw _ (List.mem_of_getElem? (i := 1) rfl))) (mvT hZ (hw _ (List.mem_of_getElem? (i := 2) rfl))) (mvT hZ (hw _ (List.mem_of_getElem? (i := 3) rfl))) (by decide) (backOf (W := 0) (rm_fix l Z a0 hw [] (mm ^^^ (-9223372036854775808 : Int64)) T17.heap n0 Zs ) hZ (hw _ (List.mem_of_getElem? (i := 3) rfl)) (hw _ (List.mem_of_getElem? (i := 2) rfl)) (by decide) (by decide)) (g := (mkF m 148 #[.val (.long p0), .second, .val (.long p1), .second, .val (.int md), .val (.long mm), .second, .val (.int se), .val (.ref b16), .unset, .unset, .unset, .unset] [(.long (mm ^^^ (-9223372036854775808 : Int64)))])) rfl (by rw [hml]; rfl) (argsL := [(.long (mm ^^^ (-9223372036854775808 : Int64)))]) (rest := []) (lenOf own_pd2 rfl) rfl (by show 2 * 0 + _ ≤ _; exact Nat.le_of_eq rfl) (hb hby at_148) (fun _ _ => ⟨rfl, rfl, (by decide : 1 + 0 ≤ _), (by decide : 1 + 0 ≤ _)⟩)
                dsimp only [Pt.U, Pt.locs, Pt.cells, Pt.slots] at X26 l26 y26 z26 st26 hQ26
                subst l26 y26 z26
                obtain ⟨rfl, Nq26, eq26⟩ := hQ26
                replace N := Fr.app N Nq26
                refine own_st (g' := (mkF m 151 #[.val (.long p0), .second, .val (.long p1), .second, .val (.int md), .val (.long mm), .second, .val (.int se), .val (.ref b16), .unset, .unset, .unset, .unset] [(.long (own_fix (mm ^^^ (-9223372036854775808 : Int64))))])) st26 ?_
                refine own_st (T' := T26) (g' := (mkF m 153 #[.val (.long p0), .second, .val (.long p1), .second, .val (.int md), .val (.long mm), .second, .val (.int se), .val (.ref b16), .val (.long (own_fix (mm ^^^ (-9223372036854775808 : Int64)))), .second, .unset, .unset] [])) (fun _ zq => XS.lstore X26.here hx rfl (hb hby at_151) rfl (l' := #[.val (.long p0), .second, .val (.long p1), .second, .val (.int md), .val (.long mm), .second, .val (.int se), .val (.ref b16), .val (.long (own_fix (mm ^^^ (-9223372036854775808 : Int64)))), .second, .unset, .unset]) rfl zq) ?_
                refine own_st (T' := T26) (g' := (mkF m 179 #[.val (.long p0), .second, .val (.long p1), .second, .val (.int md), .val (.long mm), .second, .val (.int se), .val (.ref b16), .val (.long (own_fix (mm ^^^ (-9223372036854775808 : Int64)))), .second, .unset, .unset] [])) (fun _ zq => XS.goto X26.here hx rfl (pc0 := 153) (pc' := 179) rfl (hb hby at_153) (by decide) (by decide) zq) ?_
                exact J179 T26 _ T17.heap (X26.more (Nat.le_of_ble_eq_true rfl) (Nat.le_of_ble_eq_true rfl)) (eq26) N Zs _ O E_b16 F_b16_months (own_fixne _)
              · skip
                refine own_st (T' := T17) (g' := (mkF m 156 #[.val (.long p0), .second, .val (.long p1), .second, .val (.int md), .val (.long mm), .second, .val (.int se), .val (.ref b16), .unset, .unset, .unset, .unset] [])) (fun _ zq => XS.icmpYes X17.here hx rfl (pc0 := 139) (pc' := 156) rfl (hb hby at_139) rfl (feq hk3).2 (by decide) (by decide) zq) ?_
                refine own_st (T' := T17) (g' := (mkF m 158 #[.val (.long p0), .second, .val (.long p1), .second, .val (.int md), .val (.long mm), .second, .val (.int se), .val (.ref b16), .unset, .unset, .unset, .unset] [(.int se)])) (fun _ zq => XS.iload X17.here hx rfl (hb hby at_156) rfl zq) ?_
                refine own_st (T' := T17) (g' := (mkF m 159 #[.val (.long p0), .second, .val (.long p1), .second, .val (.int md), .val (.long mm), .second, .val (.int se), .val (.ref b16), .unset, .unset, .unset, .unset] [(.int (4 : Int32)), (.int se)])) (fun _ zq => XS.iconst X17.here hx rfl (hb hby at_158) zq) ?_
                by_cases hk4 : se = (4 : Int32)
                · skip
                  refine own_st (T' := T17) (g' := (mkF m 162 #[.val (.long p0), .second, .val (.long p1), .second, .val (.int md), .val (.long mm), .second, .val (.int se), .val (.ref b16), .unset, .unset, .unset, .unset] [])) (fun _ zq => XS.icmpNo X17.here hx rfl (hb hby at_159) rfl (teq hk4).2 zq) ?_
                  refine own_st (T' := T17) (g' := (mkF m 164 #[.val (.long p0), .second, .val (.long p1), .second, .val (.int md), .val (.long mm), .second, .val (.int se), .val (.ref b16), .unset, .unset, .unset, .unset] [(.long mm)])) (fun _ zq => XS.lload X17.here hx rfl (hb hby at_162) rfl zq) ?_
                  refine own_st (T' := T17) (g' := (mkF m 165 #[.val (.long p0), .second, .val (.long p1), .second, .val (.int md), .val (.long mm), .second, .val (.int se), .val (.ref b16), .unset, .unset, .unset, .unset] [(.int (mm.toInt32))])) (fun _ zq => XS.l2i X17.here hx rfl (hb hby at_164) rfl zq) ?_
                  refine own_st (T' := T17) (g' := (mkF m 166 #[.val (.long p0), .second, .val (.long p1), .second, .val (.int md), .val (.long mm), .second, .val (.int se), .val (.ref b16), .unset, .unset, .unset, .unset] [(.long ((mm.toInt32).toInt64))])) (fun _ zq => XS.i2l X17.here hx rfl (hb hby at_165) rfl zq) ?_
                  refine own_st (T' := T17) (g' := (mkF m 168 #[.val (.long p0), .second, .val (.long p1), .second, .val (.int md), .val (.long mm), .second, .val (.int se), .val (.ref b16), .val (.long ((mm.toInt32).toInt64)), .second, .unset, .unset] [])) (fun _ zq => XS.lstore X17.here hx rfl (hb hby at_166) rfl (l' := #[.val (.long p0), .second, .val (.long p1), .second, .val (.int md), .val (.long mm), .second, .val (.int se), .val (.ref b16), .val (.long ((mm.toInt32).toInt64)), .second, .unset, .unset]) rfl zq) ?_
                  refine own_st (T' := T17) (g' := (mkF m 179 #[.val (.long p0), .second, .val (.long p1), .second, .val (.int md), .val (.long mm), .second, .val (.int se), .val (.ref b16), .val (.long ((mm.toInt32).toInt64)), .second, .unset, .unset] [])) (fun _ zq => XS.goto X17.here hx rfl (pc0 := 168) (pc' := 179) rfl (hb hby at_168) (by decide) (by decide) zq) ?_
                  exact J179 T17 _ T17.heap (X17.more (Nat.le_of_ble_eq_true rfl) (Nat.le_of_ble_eq_true rfl)) rfl N Zs _ O E_b16 F_b16_months (own_i2l _)
                · skip
                  refine own_st (T' := T17) (g' := (mkF m 171 #[.val (.long p0), .second, .val (.long p1), .second, .val (.int md), .val (.long mm), .second, .val (.int se), .val (.ref b16), .unset, .unset, .unset, .unset] [])) (fun _ zq => XS.icmpYes X17.here hx rfl (pc0 := 159) (pc' := 171) rfl (hb hby at_159) rfl (feq hk4).2 (by decide) (by decide) zq) ?_
                  refine own_st (T' := T17) (g' := (mkF m 173 #[.val (.long p0), .second, .val (.long p1), .second, .val (.int md), .val (.long mm), .second, .val (.int se), .val (.ref b16), .unset, .unset, .unset, .unset] [(.long mm)])) (fun _ zq => XS.lload X17.here hx rfl (hb hby at_171) rfl zq) ?_
                  refine own_st (T' := T17) (g' := (mkF m 174 #[.val (.long p0), .second, .val (.long p1), .second, .val (.int md), .val (.long mm), .second, .val (.int se), .val (.ref b16), .unset, .unset, .unset, .unset] [(.long (-mm))])) (fun _ zq => XS.lneg X17.here hx rfl (hb hby at_173) rfl zq) ?_
                  obtain ⟨_, _, ⟨T27, L27, k27, n27⟩, -, X27, ⟨Lc27, hQ27, l27, y27, z27⟩, st27⟩ := Jvm.LawKit.callS X17 hx (y := (⟨"boxwood/YearsAndMonthsDurationEqualsPinLaw", "fix", "(J)J"⟩ : MethodName)) hown (mvT hZ (hw _ (List.mem_of_getElem? (i := 0) rfl))) (mvT hZ (hw _ (List.mem_of_getElem? (i := 1) rfl))) (mvT hZ (hw _ (List.mem_of_getElem? (i := 2) rfl))) (mvT hZ (hw _ (List.mem_of_getElem? (i := 3) rfl))) (by decide) (backOf (W := 0) (rm_fix l Z a0 hw [] (-mm) T17.heap n0 Zs ) hZ (hw _ (List.mem_of_getElem? (i := 3) rfl)) (hw _ (List.mem_of_getElem? (i := 2) rfl)) (by decide) (by decide)) (g := (mkF m 174 #[.val (.long p0), .second, .val (.long p1), .second, .val (.int md), .val (.long mm), .second, .val (.int se), .val (.ref b16), .unset, .unset, .unset, .unset] [(.long (-mm))])) rfl (by rw [hml]; rfl) (argsL := [(.long (-mm))]) (rest := []) (lenOf own_pd2 rfl) rfl (by show 2 * 0 + _ ≤ _; exact Nat.le_of_eq rfl) (hb hby at_174) (fun _ _ => ⟨rfl, rfl, (by decide : 1 + 0 ≤ _), (by decide : 1 + 0 ≤ _)⟩)
                  dsimp only [Pt.U, Pt.locs, Pt.cells, Pt.slots] at X27 l27 y27 z27 st27 hQ27
                  subst l27 y27 z27
                  obtain ⟨rfl, Nq27, eq27⟩ := hQ27
                  replace N := Fr.app N Nq27
                  refine own_st (g' := (mkF m 177 #[.val (.long p0), .second, .val (.long p1), .second, .val (.int md), .val (.long mm), .second, .val (.int se), .val (.ref b16), .unset, .unset, .unset, .unset] [(.long (own_fix (-mm)))])) st27 ?_
                  refine own_st (T' := T27) (g' := (mkF m 179 #[.val (.long p0), .second, .val (.long p1), .second, .val (.int md), .val (.long mm), .second, .val (.int se), .val (.ref b16), .val (.long (own_fix (-mm))), .second, .unset, .unset] [])) (fun _ zq => XS.lstore X27.here hx rfl (hb hby at_177) rfl (l' := #[.val (.long p0), .second, .val (.long p1), .second, .val (.int md), .val (.long mm), .second, .val (.int se), .val (.ref b16), .val (.long (own_fix (-mm))), .second, .unset, .unset]) rfl zq) ?_
                  exact J179 T27 _ T17.heap (X27.more (Nat.le_of_ble_eq_true rfl) (Nat.le_of_ble_eq_true rfl)) (eq27) N Zs _ O E_b16 F_b16_months (own_fixne _)
      intro T23 lo23 h23 X23 e23 N23 Z23 nn O E_b16 F_b16_months hn
      obtain ⟨T28, h28, X28, e28, E28, A28, D28, -, st28⟩ := newO X23 hx hZ hown (hw _ (List.mem_of_getElem? (i := 5) rfl)) (hw _ (List.mem_of_getElem? (i := 6) rfl)) (hw _ (List.mem_of_getElem? (i := 7) rfl)) e23 (g := (mkF m 179 #[.val (.long p0), .second, .val (.long p1), .second, .val (.int md), .val (.long mm), .second, .val (.int se), .val (.ref b16), .val (.long nn), .second, .unset, .unset] [])) rfl (hb hby at_179) (by decide) (by decide)
      obtain ⟨b28, ga28⟩ : ∃ z, z = h23.size := ⟨_, rfl⟩
      rw [← ga28] at A28 D28 st28
      have g_b28 : n0 ≤ b28 := Nat.le_trans Z23 (Nat.le_of_eq ga28.symm)
      have ne_b16_b28 : b16 ≠ b28 := fun q => Nat.lt_irrefl _ (Nat.lt_of_lt_of_eq E_b16.lt (ga28.symm.trans q.symm))
      have E_b28 := A28
      replace O := O.ext E28
      replace E_b16 := E_b16.ext E28
      replace F_b16_months := F_b16_months.ext E28
      replace Z23 := Nat.le_trans Z23 E28.1
      have F_b28_months : Fld Z h28 b28 "boxwood/Temporal$YearsAndMonthsDuration" "months" "J" (.long (0 : Int64)) := D28 (Or.inr (hw _ (List.mem_of_getElem? (i := 21) rfl))) (ty := .long) (by decide)
      refine own_st (g' := (mkF m 182 #[.val (.long p0), .second, .val (.long p1), .second, .val (.int md), .val (.long mm), .second, .val (.int se), .val (.ref b16), .val (.long nn), .second, .unset, .unset] [(.ref b28)])) st28 ?_
      refine own_st (T' := T28) (g' := (mkF m 183 #[.val (.long p0), .second, .val (.long p1), .second, .val (.int md), .val (.long mm), .second, .val (.int se), .val (.ref b16), .val (.long nn), .second, .unset, .unset] [(.ref b28), (.ref b28)])) (fun _ zq => XS.dup X28.here hx rfl (hb hby at_182) rfl rfl zq) ?_
      refine own_st (T' := T28) (g' := (mkF m 185 #[.val (.long p0), .second, .val (.long p1), .second, .val (.int md), .val (.long mm), .second, .val (.int se), .val (.ref b16), .val (.long nn), .second, .unset, .unset] [(.long nn), (.ref b28), (.ref b28)])) (fun _ zq => XS.lload X28.here hx rfl (hb hby at_183) rfl zq) ?_
      obtain ⟨_, _, ⟨T29, L29, k29, n29⟩, -, X29, ⟨Lc29, hQ29, l29, y29, z29⟩, st29⟩ := X28.specialBack hx (y := (⟨"boxwood/Temporal$YearsAndMonthsDuration", "<init>", "(J)V"⟩ : MethodName)) rfl hown (mvT hZ (hw _ (List.mem_of_getElem? (i := 8) rfl))) (mvT hZ (hw _ (List.mem_of_getElem? (i := 9) rfl))) (mvT hZ (hw _ (List.mem_of_getElem? (i := 10) rfl))) (by decide) (backOf (W := 1) (rm_init l Z a0 hw [] b28 nn h28 n0 Z23 E_b28 F_b28_months hn g_b28) hZ (hw _ (List.mem_of_getElem? (i := 10) rfl)) (hw _ (List.mem_of_getElem? (i := 7) rfl)) (by decide) (by decide)) (g := (mkF m 185 #[.val (.long p0), .second, .val (.long p1), .second, .val (.int md), .val (.long mm), .second, .val (.int se), .val (.ref b16), .val (.long nn), .second, .unset, .unset] [(.long nn), (.ref b28), (.ref b28)])) rfl (by rw [hml]; rfl) (Steps.refl _) (a := b28) (argsL := [(.long nn)]) (rest := [(.ref b28)]) (lenOf own_pd1 rfl) rfl (by show 2 * 0 + _ ≤ _; exact Nat.le_of_eq rfl) (hb hby at_185) (fun _ _ => ⟨rfl, e28, (by decide : 2 + 0 ≤ _), (by decide : 2 + 0 ≤ _)⟩)
      dsimp only [Pt.U, Pt.locs, Pt.cells, Pt.slots] at X29 l29 y29 z29 st29 hQ29
      subst l29 y29 z29
      obtain ⟨rfl, Nq29, Kq29, E_b28, F_b28_months⟩ := hQ29
      replace N23 := Fr.app N23 Nq29
      replace O := O.keep Kq29 (allS g_b28 all0)
      replace E_b16 := E_b16.keep Kq29
      replace F_b16_months := F_b16_months.keep Kq29 (ninS ne_b16_b28 nin0)
      replace Z23 := Nat.le_trans Z23 Kq29.1
      refine own_tr (g' := (mkF m 188 #[.val (.long p0), .second, .val (.long p1), .second, .val (.int md), .val (.long mm), .second, .val (.int se), .val (.ref b16), .val (.long nn), .second, .unset, .unset] [(.ref b28)])) st29 ?_
      refine own_st (T' := T29) (g' := (mkF m 190 #[.val (.long p0), .second, .val (.long p1), .second, .val (.int md), .val (.long mm), .second, .val (.int se), .val (.ref b16), .val (.long nn), .second, .val (.ref b28), .unset] [])) (fun _ zq => XS.astore X29.here hx rfl (hb hby at_188) rfl rfl (l' := #[.val (.long p0), .second, .val (.long p1), .second, .val (.int md), .val (.long mm), .second, .val (.int se), .val (.ref b16), .val (.long nn), .second, .val (.ref b28), .unset]) rfl zq) ?_
      refine own_st (T' := T29) (g' := (mkF m 192 #[.val (.long p0), .second, .val (.long p1), .second, .val (.int md), .val (.long mm), .second, .val (.int se), .val (.ref b16), .val (.long nn), .second, .val (.ref b28), .unset] [(.long mm)])) (fun _ zq => XS.lload X29.here hx rfl (hb hby at_190) rfl zq) ?_
      refine own_st (T' := T29) (g' := (mkF m 194 #[.val (.long p0), .second, .val (.long p1), .second, .val (.int md), .val (.long mm), .second, .val (.int se), .val (.ref b16), .val (.long nn), .second, .val (.ref b28), .unset] [(.long nn), (.long mm)])) (fun _ zq => XS.lload X29.here hx rfl (hb hby at_192) rfl zq) ?_
      refine own_st (T' := T29) (g' := (mkF m 195 #[.val (.long p0), .second, .val (.long p1), .second, .val (.int md), .val (.long mm), .second, .val (.int se), .val (.ref b16), .val (.long nn), .second, .val (.ref b28), .unset] [(.int (lcmpW mm nn))])) (fun _ zq => XS.lcmp X29.here hx rfl (hb hby at_194) rfl zq) ?_
      suffices J203 : ∀ (ex : Int32) (hex : ex = if mm = nn then 1 else 0), own_Go p e below s (Q_law Z p0 p1 md cC h0 n0) 16 128 T29 (mkF m 203 #[.val (.long p0), .second, .val (.long p1), .second, .val (.int md), .val (.long mm), .second, .val (.int se), .val (.ref b16), .val (.long nn), .second, .val (.ref b28), .unset] [(.int ex)]) by
        by_cases hc : mm = nn
        case neg =>
          refine own_st (T' := T29) (g' := (mkF m 202 #[.val (.long p0), .second, .val (.long p1), .second, .val (.int md), .val (.long mm), .second, .val (.int se), .val (.ref b16), .val (.long nn), .second, .val (.ref b28), .unset] [])) (fun _ zq => XS.ifYes X29.here hx rfl (pc0 := 195) (pc' := 202) rfl (hb hby at_195) rfl (own_lfeq hc).2 (by decide) (by decide) zq) ?_
          refine own_st (T' := T29) (g' := (mkF m 203 #[.val (.long p0), .second, .val (.long p1), .second, .val (.int md), .val (.long mm), .second, .val (.int se), .val (.ref b16), .val (.long nn), .second, .val (.ref b28), .unset] [(.int (0 : Int32))])) (fun _ zq => XS.iconst X29.here hx rfl (hb hby at_202) zq) ?_
          exact J203 _ (if_neg hc).symm
        · skip
          refine own_st (T' := T29) (g' := (mkF m 198 #[.val (.long p0), .second, .val (.long p1), .second, .val (.int md), .val (.long mm), .second, .val (.int se), .val (.ref b16), .val (.long nn), .second, .val (.ref b28), .unset] [])) (fun _ zq => XS.ifNo X29.here hx rfl (hb hby at_195) rfl (own_lteq hc).2 zq) ?_
          refine own_st (T' := T29) (g' := (mkF m 199 #[.val (.long p0), .second, .val (.long p1), .second, .val (.int md), .val (.long mm), .second, .val (.int se), .val (.ref b16), .val (.long nn), .second, .val (.ref b28), .unset] [(.int (1 : Int32))])) (fun _ zq => XS.iconst X29.here hx rfl (hb hby at_198) zq) ?_
          refine own_st (T' := T29) (g' := (mkF m 203 #[.val (.long p0), .second, .val (.long p1), .second, .val (.int md), .val (.long mm), .second, .val (.int se), .val (.ref b16), .val (.long nn), .second, .val (.ref b28), .unset] [(.int (1 : Int32))])) (fun _ zq => XS.goto X29.here hx rfl (pc0 := 199) (pc' := 203) rfl (hb hby at_199) (by decide) (by decide) zq) ?_
          exact J203 _ (if_pos hc).symm
      intro ex hex
      refine own_st (T' := T29) (g' := (mkF m 205 #[.val (.long p0), .second, .val (.long p1), .second, .val (.int md), .val (.long mm), .second, .val (.int se), .val (.ref b16), .val (.long nn), .second, .val (.ref b28), .val (.int ex)] [])) (fun _ zq => XS.istore X29.here hx rfl (hb hby at_203) rfl (l' := #[.val (.long p0), .second, .val (.long p1), .second, .val (.int md), .val (.long mm), .second, .val (.int se), .val (.ref b16), .val (.long nn), .second, .val (.ref b28), .val (.int ex)]) rfl zq) ?_
      refine own_st (T' := T29) (g' := (mkF m 207 #[.val (.long p0), .second, .val (.long p1), .second, .val (.int md), .val (.long mm), .second, .val (.int se), .val (.ref b16), .val (.long nn), .second, .val (.ref b28), .val (.int ex)] [(.ref b16)])) (fun _ zq => XS.aload X29.here hx rfl (hb hby at_205) rfl rfl zq) ?_
      refine own_st (T' := T29) (g' := (mkF m 209 #[.val (.long p0), .second, .val (.long p1), .second, .val (.int md), .val (.long mm), .second, .val (.int se), .val (.ref b16), .val (.long nn), .second, .val (.ref b28), .val (.int ex)] [(.ref b28), (.ref b16)])) (fun _ zq => XS.aload X29.here hx rfl (hb hby at_207) rfl rfl zq) ?_
      obtain ⟨cq30, kq30, q30a, q30b, q30c⟩ := isOf hZ rfl E_b16
      obtain ⟨_, _, ⟨T30, L30, k30, n30⟩, -, X30, ⟨Lc30, hQ30, l30, y30, z30⟩, st30⟩ := X29.virtualBack hx (y := (⟨"boxwood/Temporal$YearsAndMonthsDuration", "equals", "(Ljava/lang/Object;)Z"⟩ : MethodName)) (z := (⟨"boxwood/Temporal$YearsAndMonthsDuration", "equals", "(Ljava/lang/Object;)Z"⟩ : MethodName)) hown (mvT hZ (hw _ (List.mem_of_getElem? (i := 22) rfl))) (mvT hZ (hw _ (List.mem_of_getElem? (i := 23) rfl))) (notFace_of_selects (args := #[]) (mvT hZ (hw _ (List.mem_of_getElem? (i := 25) rfl)))) (mvT hZ (hw _ (List.mem_of_getElem? (i := 25) rfl))) (mvT hZ (hw _ (List.mem_of_getElem? (i := 24) rfl))) (by decide) (backOf (W := 0) (rm_eq l Z a0 hw [] b16 b28 mm nn T29.heap n0 Z23 E_b28 F_b16_months F_b28_months) hZ (hw _ (List.mem_of_getElem? (i := 26) rfl)) (hw _ (List.mem_of_getElem? (i := 7) rfl)) (by decide) (by decide)) q30a q30c (g := (mkF m 209 #[.val (.long p0), .second, .val (.long p1), .second, .val (.int md), .val (.long mm), .second, .val (.int se), .val (.ref b16), .val (.long nn), .second, .val (.ref b28), .val (.int ex)] [(.ref b28), (.ref b16)])) rfl (by rw [hml]; rfl) (Steps.refl _) (argsL := [(.ref b28)]) (rest := []) (lenOf own_pd3 rfl) rfl (by show 2 * 0 + _ ≤ _; exact Nat.le_of_eq rfl) (hb hby at_209) (fun _ _ => ⟨rfl, rfl, (by decide : 2 + 0 ≤ _), (by decide : 2 + 0 ≤ _)⟩)
      dsimp only [Pt.U, Pt.locs, Pt.cells, Pt.slots] at X30 l30 y30 z30 st30 hQ30
      subst l30 y30 z30
      obtain ⟨rfl, Nq30, eq30⟩ := hQ30
      replace N23 := Fr.app N23 Nq30
      refine own_tr (g' := (mkF m 212 #[.val (.long p0), .second, .val (.long p1), .second, .val (.int md), .val (.long mm), .second, .val (.int se), .val (.ref b16), .val (.long nn), .second, .val (.ref b28), .val (.int ex)] [(.int (if mm = nn then 1 else 0))])) st30 ?_
      refine own_st (T' := T30) (g' := (mkF m 214 #[.val (.long p0), .second, .val (.long p1), .second, .val (.int md), .val (.long mm), .second, .val (.int se), .val (.ref b16), .val (.long nn), .second, .val (.ref b28), .val (.int ex)] [(.int ex), (.int (if mm = nn then 1 else 0))])) (fun _ zq => XS.iload X30.here hx rfl (hb hby at_212) rfl zq) ?_
      refine own_st (T' := T30) (g' := (mkF m 217 #[.val (.long p0), .second, .val (.long p1), .second, .val (.int md), .val (.long mm), .second, .val (.int se), .val (.ref b16), .val (.long nn), .second, .val (.ref b28), .val (.int ex)] [])) (fun _ zq => XS.icmpNo X30.here hx rfl (hb hby at_214) rfl (teq hex.symm).2 zq) ?_
      refine own_st (T' := T30) (g' := (mkF m 219 #[.val (.long p0), .second, .val (.long p1), .second, .val (.int md), .val (.long mm), .second, .val (.int se), .val (.ref b16), .val (.long nn), .second, .val (.ref b28), .val (.int ex)] [(.ref b28)])) (fun _ zq => XS.aload X30.here hx rfl (hb hby at_217) rfl rfl zq) ?_
      refine own_st (T' := T30) (g' := (mkF m 221 #[.val (.long p0), .second, .val (.long p1), .second, .val (.int md), .val (.long mm), .second, .val (.int se), .val (.ref b16), .val (.long nn), .second, .val (.ref b28), .val (.int ex)] [(.ref b16), (.ref b28)])) (fun _ zq => XS.aload X30.here hx rfl (hb hby at_219) rfl rfl zq) ?_
      obtain ⟨cq31, kq31, q31a, q31b, q31c⟩ := isOf hZ (eq30) E_b28
      obtain ⟨_, _, ⟨T31, L31, k31, n31⟩, -, X31, ⟨Lc31, hQ31, l31, y31, z31⟩, st31⟩ := X30.virtualBack hx (y := (⟨"boxwood/Temporal$YearsAndMonthsDuration", "equals", "(Ljava/lang/Object;)Z"⟩ : MethodName)) (z := (⟨"boxwood/Temporal$YearsAndMonthsDuration", "equals", "(Ljava/lang/Object;)Z"⟩ : MethodName)) hown (mvT hZ (hw _ (List.mem_of_getElem? (i := 22) rfl))) (mvT hZ (hw _ (List.mem_of_getElem? (i := 23) rfl))) (notFace_of_selects (args := #[]) (mvT hZ (hw _ (List.mem_of_getElem? (i := 25) rfl)))) (mvT hZ (hw _ (List.mem_of_getElem? (i := 25) rfl))) (mvT hZ (hw _ (List.mem_of_getElem? (i := 24) rfl))) (by decide) (backOf (W := 0) (rm_eq l Z a0 hw [] b28 b16 nn mm T29.heap n0 Z23 E_b16 F_b28_months F_b16_months) hZ (hw _ (List.mem_of_getElem? (i := 26) rfl)) (hw _ (List.mem_of_getElem? (i := 7) rfl)) (by decide) (by decide)) q31a q31c (g := (mkF m 221 #[.val (.long p0), .second, .val (.long p1), .second, .val (.int md), .val (.long mm), .second, .val (.int se), .val (.ref b16), .val (.long nn), .second, .val (.ref b28), .val (.int ex)] [(.ref b16), (.ref b28)])) rfl (by rw [hml]; rfl) (Steps.refl _) (argsL := [(.ref b16)]) (rest := []) (lenOf own_pd3 rfl) rfl (by show 2 * 0 + _ ≤ _; exact Nat.le_of_eq rfl) (hb hby at_221) (fun _ _ => ⟨rfl, (eq30), (by decide : 2 + 0 ≤ _), (by decide : 2 + 0 ≤ _)⟩)
      dsimp only [Pt.U, Pt.locs, Pt.cells, Pt.slots] at X31 l31 y31 z31 st31 hQ31
      subst l31 y31 z31
      obtain ⟨rfl, Nq31, eq31⟩ := hQ31
      replace N23 := Fr.app N23 Nq31
      refine own_tr (g' := (mkF m 224 #[.val (.long p0), .second, .val (.long p1), .second, .val (.int md), .val (.long mm), .second, .val (.int se), .val (.ref b16), .val (.long nn), .second, .val (.ref b28), .val (.int ex)] [(.int (if nn = mm then 1 else 0))])) st31 ?_
      refine own_st (T' := T31) (g' := (mkF m 226 #[.val (.long p0), .second, .val (.long p1), .second, .val (.int md), .val (.long mm), .second, .val (.int se), .val (.ref b16), .val (.long nn), .second, .val (.ref b28), .val (.int ex)] [(.int ex), (.int (if nn = mm then 1 else 0))])) (fun _ zq => XS.iload X31.here hx rfl (hb hby at_224) rfl zq) ?_
      refine own_st (T' := T31) (g' := (mkF m 229 #[.val (.long p0), .second, .val (.long p1), .second, .val (.int md), .val (.long mm), .second, .val (.int se), .val (.ref b16), .val (.long nn), .second, .val (.ref b28), .val (.int ex)] [])) (fun _ zq => XS.icmpNo X31.here hx rfl (hb hby at_226) rfl (teq ((own_ifc eq_comm).trans hex.symm)).2 zq) ?_
      refine own_st (T' := T31) (g' := (mkF m 231 #[.val (.long p0), .second, .val (.long p1), .second, .val (.int md), .val (.long mm), .second, .val (.int se), .val (.ref b16), .val (.long nn), .second, .val (.ref b28), .val (.int ex)] [(.ref b16)])) (fun _ zq => XS.aload X31.here hx rfl (hb hby at_229) rfl rfl zq) ?_
      refine own_st (T' := T31) (g' := (mkF m 233 #[.val (.long p0), .second, .val (.long p1), .second, .val (.int md), .val (.long mm), .second, .val (.int se), .val (.ref b16), .val (.long nn), .second, .val (.ref b28), .val (.int ex)] [(.ref b16), (.ref b16)])) (fun _ zq => XS.aload X31.here hx rfl (hb hby at_231) rfl rfl zq) ?_
      obtain ⟨cq32, kq32, q32a, q32b, q32c⟩ := isOf hZ (eq31) E_b16
      obtain ⟨_, _, ⟨T32, L32, k32, n32⟩, -, X32, ⟨Lc32, hQ32, l32, y32, z32⟩, st32⟩ := X31.virtualBack hx (y := (⟨"boxwood/Temporal$YearsAndMonthsDuration", "equals", "(Ljava/lang/Object;)Z"⟩ : MethodName)) (z := (⟨"boxwood/Temporal$YearsAndMonthsDuration", "equals", "(Ljava/lang/Object;)Z"⟩ : MethodName)) hown (mvT hZ (hw _ (List.mem_of_getElem? (i := 22) rfl))) (mvT hZ (hw _ (List.mem_of_getElem? (i := 23) rfl))) (notFace_of_selects (args := #[]) (mvT hZ (hw _ (List.mem_of_getElem? (i := 25) rfl)))) (mvT hZ (hw _ (List.mem_of_getElem? (i := 25) rfl))) (mvT hZ (hw _ (List.mem_of_getElem? (i := 24) rfl))) (by decide) (backOf (W := 0) (rm_eq l Z a0 hw [] b16 b16 mm mm T29.heap n0 Z23 E_b16 F_b16_months F_b16_months) hZ (hw _ (List.mem_of_getElem? (i := 26) rfl)) (hw _ (List.mem_of_getElem? (i := 7) rfl)) (by decide) (by decide)) q32a q32c (g := (mkF m 233 #[.val (.long p0), .second, .val (.long p1), .second, .val (.int md), .val (.long mm), .second, .val (.int se), .val (.ref b16), .val (.long nn), .second, .val (.ref b28), .val (.int ex)] [(.ref b16), (.ref b16)])) rfl (by rw [hml]; rfl) (Steps.refl _) (argsL := [(.ref b16)]) (rest := []) (lenOf own_pd3 rfl) rfl (by show 2 * 0 + _ ≤ _; exact Nat.le_of_eq rfl) (hb hby at_233) (fun _ _ => ⟨rfl, (eq31), (by decide : 2 + 0 ≤ _), (by decide : 2 + 0 ≤ _)⟩)
      dsimp only [Pt.U, Pt.locs, Pt.cells, Pt.slots] at X32 l32 y32 z32 st32 hQ32
      subst l32 y32 z32
      obtain ⟨rfl, Nq32, eq32⟩ := hQ32
      replace N23 := Fr.app N23 Nq32
      refine own_tr (g' := (mkF m 236 #[.val (.long p0), .second, .val (.long p1), .second, .val (.int md), .val (.long mm), .second, .val (.int se), .val (.ref b16), .val (.long nn), .second, .val (.ref b28), .val (.int ex)] [(.int (if mm = mm then 1 else 0))])) st32 ?_
      refine own_st (T' := T32) (g' := (mkF m 239 #[.val (.long p0), .second, .val (.long p1), .second, .val (.int md), .val (.long mm), .second, .val (.int se), .val (.ref b16), .val (.long nn), .second, .val (.ref b28), .val (.int ex)] [])) (fun _ zq => XS.ifNo X32.here hx rfl (hb hby at_236) rfl ((if0 _ _).trans (feq (by rw [if_pos rfl]; decide)).1) zq) ?_
      refine own_st (T' := T32) (g' := (mkF m 240 #[.val (.long p0), .second, .val (.long p1), .second, .val (.int md), .val (.long mm), .second, .val (.int se), .val (.ref b16), .val (.long nn), .second, .val (.ref b28), .val (.int ex)] [(.int (1 : Int32))])) (fun _ zq => XS.iconst X32.here hx rfl (hb hby at_239) zq) ?_
      refine own_st (T' := T32) (g' := (mkF m 244 #[.val (.long p0), .second, .val (.long p1), .second, .val (.int md), .val (.long mm), .second, .val (.int se), .val (.ref b16), .val (.long nn), .second, .val (.ref b28), .val (.int ex)] [(.int (1 : Int32))])) (fun _ zq => XS.goto X32.here hx rfl (pc0 := 240) (pc' := 244) rfl (hb hby at_240) (by decide) (by decide) zq) ?_
      exact own_ret X32 hx hret hlk (i := .ireturn) rfl (Or.inl ⟨rfl, by decide, _, rfl⟩) (hb hby at_244) (eq32) (Nat.le_of_ble_eq_true rfl) (Nat.le_of_ble_eq_true rfl) ⟨rfl, N23⟩
set_option maxRecDepth 65536 in
set_option maxHeartbeats 40000000 in
theorem comes_1 {Post : Tables → Env → Array Value → State → Outcome → State → Prop} (hpost : ∀ tb e args s v u, (limb_1_1.after args s (.returned v) u = true ∧ limb_1_2.after args s (.returned v) u = true ∧ True) → FrameEnd s (.returned v) u (Jvm.fieldLocs frame_1_writes args s ++ Jvm.arrayLocs frame_1_arrays args s ++ Jvm.staticLocs frame_1_statics s) 16 128 → Post tb e args s (.returned v) u) :
    ArmFor flags0 classFile x code maxLocals ret World_1 tables_1 room_1 Calls_1 rest_1 Pre_1 Post := by
  intro l hfl _ _ p e ha hc hk s m args below hf hA hF happ hP
  obtain ⟨hcalls, hrest, hpre⟩ := hP
  obtain ⟨-, -, -, hnamed, -, -, -, hat⟩ := (Spec.applies_iff hf).mp happ
  obtain ⟨hg, hn⟩ := and_e (Cond.before_iff.mp (show (Jvm.Cond.and given_1 narrow_1).before args s = true from hpre))
  obtain ⟨hcnt, hgs⟩ := and_e hg
  obtain ⟨w0, w1, w2, rfl⟩ : ∃ w0 w1 w2 : Value, args = #[w0, w1, w2] := by
    have hs : args.size = 3 := by simpa [Cond.value, given_1] using hcnt
    obtain ⟨L⟩ := args
    match L, hs with
    | [w0, w1, w2], _ => exact ⟨w0, w1, w2, rfl⟩
  have hw := fun d (hd : d ∈ tables_1) => atoms_spec (ws := Jvm.Cond.code x code maxLocals ret :: tables_1) hat d (List.mem_cons_of_mem _ hd)
  have hfit : Fit s := fun {y c} hc i hi => by
    obtain ⟨ha, rfl⟩ := Array.getElem?_eq_some_iff.mp hc
    have q := List.all_eq_true.mp ((Array.all_eq_true_iff_forall_mem.mp hF) _ (Array.getElem_mem ha)) i (List.mem_range.mpr hi)
    simpa [Array.getElem?_eq_getElem hi] using q
  obtain ⟨k0, hgs⟩ := and_e hgs
  obtain ⟨i0, q0⟩ := isL_v k0
  obtain rfl : w0 = (.long i0) := Option.some.inj q0
  obtain ⟨k1, hgs⟩ := and_e hgs
  obtain ⟨i1, q1⟩ := isL_v k1
  obtain rfl : w1 = (.long i1) := Option.some.inj q1
  obtain ⟨i2, q2⟩ := is_v hgs
  obtain rfl : w2 = (.int i2) := Option.some.inj q2
  have hr0 : rest_1_c.before _ s = true := hrest
  rw [rest_1_c_eq] at hr0
  have hsets := fun c hc => own_sets hr0 c hc
  obtain ⟨cC, evC⟩ := arr_v (Cond.before_iff.mp (hsets _ (List.mem_of_getElem? (i := 2) rfl)))
  have S0 := Sta.start evC (Or.inr ⟨(hw _ (List.mem_of_getElem? (i := 36) rfl)), (hsets _ (List.mem_of_getElem? (i := 0) rfl))⟩)
  have B0 := own_box_start evC (hsets _ (List.mem_of_getElem? (i := 2) rfl)) (hsets _ (List.mem_of_getElem? (i := 4) rfl)) (hsets _ (List.mem_of_getElem? (i := 5) rfl))
  obtain ⟨n, o, h1, h2, h3, _, L, rfl, ⟨rfl, N⟩, hq⟩ := rm_law l s _ hw tables_1 i0 i1 i2 cC s.heap s.heap.size (Nat.le_refl _) (Old.start s) S0 B0 p e ha hc hk s m _ below hf ((Spec.applies_iff_loose hf).mp happ).1 ⟨rfl, State.Warmed39.refl s, rfl⟩ trivial
  refine ⟨n, _, h1, h2, h3, hpost _ _ _ _ _ _ ⟨Cond.after_iff.mpr rfl, Cond.after_iff.mpr (eq_i res_at (Term.int_eval (1)) rfl), trivial⟩ ⟨hq.1, hq.2.1, (hq.2.2.sift fun y hy => Or.inr (N y hy)).mono (by decide) (by decide)⟩⟩
theorem main_1_1 : Claimed_1_1 := comes_1 fun _ _ _ _ _ _ h hF => ⟨h.1, hF⟩
theorem main_1_2 : Claimed_1_2 := comes_1 fun _ _ _ _ _ _ h hF => ⟨h.2.1, hF⟩
end Jvm.Pilot.@@N@@
namespace Jvm.Pilot.@@N@@
open Jvm Jvm.ClassFile Sem Op Lib Jvm.Free Jvm.Stand Jvm.Pilot.@@N@@.Jvm.D
/-! MADE BY PROGRAM (witnessworld.py) out of the Statement's table words and the real class files: 18 classes; the members and pool entries that the words name. The judged class is class 1, her method 2. -/
namespace start1
open Jvm.ClassFile
def u (s : String) : CpInfo := .utf8 (stringToUtf16 s)
/-- a pool by its gaps: so many unusable entries, then the entry; so many at the end -/
def gap : Nat → List CpInfo → List CpInfo
  | 0, r => r
  | n + 1, r => .unusable :: gap n r
def poolList (es : List (Nat × CpInfo)) (last : Nat) : List CpInfo := es.foldr (fun e r => gap e.1 (e.2 :: r)) (gap last [])
def pool (es : List (Nat × CpInfo)) (last : Nat) : Array CpInfo := ⟨poolList es last⟩
def fileOf (pool : Array CpInfo) (this : Nat) (attrs : Array Attribute := #[]) (ms : Array MethodInfo := #[]) (fl : Nat := 33) (sup : Nat := 0) (ifs : Array Nat := #[]) (fds : Array FieldInfo := #[]) : ClassFile where
  minorVersion := 0
  majorVersion := 65
  constantPool := pool
  accessFlags := fl
  thisClass := this
  superClass := sup
  interfaces := ifs
  fields := fds
  methods := ms
  attributes := attrs
def plain (name : String) (sup : Option ClassId) : Class where
  name := name
  kind := .ordinary
  loader := none
  accessFlags := 33
  super := sup
  interfaces := #[]
  cf := none
  fields := #[]
  methods := #[]
  instanceTypes := #[]
  staticTypes := #[]
  resolved := #[]
  callSites := []
  init := .initialized
  statics := none
  mirror := none

def pool0 : Array CpInfo := pool [(5, u "<init>"), (0, u "()V"), (1, .class_ 10), (1, u "java/lang/Object")] 113

def k0c0 : Code := { maxStack := 0, maxLocals := 1, code := object_method_1_code, exceptionTable := #[], attributes := #[] }
def k0m0 : Method := { name := "<init>", desc := "()V", sig := { parameters := [], returnType := none }, accessFlags := 1, code := some k0c0 }
/-- java/lang/Object -/
def k0 : Class := { plain "java/lang/Object" none with
  accessFlags := 33
  interfaces := #[]
  cf := some (fileOf pool0 8 #[] #[{ accessFlags := 1, nameIndex := 5, descriptorIndex := 6, attributes := #[] }] 33 0 #[] #[])
  fields := #[]
  methods := #[k0m0]
  instanceTypes := #[]
  staticTypes := #[]
  resolved := Array.replicate 124 none
  statics := none }

def pool1 : Array CpInfo := pool [(2, .class_ 4), (1, u "java/lang/Object"), (0, u "<init>"), (0, u "()V"), (0, .class_ 8), (0, u "java/lang/Long"), (0, .long 9223372036854775808), (1, .long 9223372036854775807), (1, .methodref 14 15), (0, .class_ 16), (0, .nameAndType 17 18), (0, u "boxwood/YearsAndMonthsDurationEqualsPinLaw"), (0, u "fix"), (0, u "(J)J"), (0, .class_ 20), (0, u "boxwood/Temporal$YearsAndMonthsDuration"), (0, .methodref 19 22), (0, .nameAndType 5 23), (0, u "(J)V"), (0, .methodref 19 25), (0, .nameAndType 26 27), (0, u "equals"), (0, u "(Ljava/lang/Object;)Z"), (0, .methodref 7 29), (0, .nameAndType 30 31), (0, u "valueOf"), (0, u "(J)Ljava/lang/Long;"), (3, u "law"), (0, u "(JJI)Z")] 6

def k1m0 : Method := { name := "<init>", desc := "()V", sig := { parameters := [], returnType := none }, accessFlags := 1, code := none }
def k1c1 : Code := { maxStack := 4, maxLocals := 2, code := method_2_code, exceptionTable := #[], attributes := #[] }
def k1m1 : Method := { name := "fix", desc := "(J)J", sig := { parameters := [.long], returnType := some .long }, accessFlags := 10, code := some k1c1 }
def k1c2 : Code := { maxStack := 4, maxLocals := 13, code := code, exceptionTable := #[], attributes := #[] }
def k1m2 : Method := { name := "law", desc := "(JJI)Z", sig := { parameters := [.long, .long, .int], returnType := some .boolean }, accessFlags := 9, code := some k1c2 }
/-- boxwood/YearsAndMonthsDurationEqualsPinLaw -/
def k1 : Class := { plain "boxwood/YearsAndMonthsDurationEqualsPinLaw" (some 0) with
  accessFlags := 49
  interfaces := #[]
  cf := some (fileOf pool1 14 #[] #[{ accessFlags := 1, nameIndex := 5, descriptorIndex := 6, attributes := #[] }, { accessFlags := 10, nameIndex := 17, descriptorIndex := 18, attributes := #[] }, { accessFlags := 9, nameIndex := 35, descriptorIndex := 36, attributes := #[] }] 49 2 #[] #[])
  fields := #[]
  methods := #[k1m0, k1m1, k1m2]
  instanceTypes := #[]
  staticTypes := #[]
  resolved := Array.replicate 43 none
  statics := none }

def pool2 : Array CpInfo := pool [(1, .methodref 2 3), (0, .class_ 4), (0, .nameAndType 5 6), (0, u "java/lang/Object"), (0, u "<init>"), (0, u "()V"), (0, .class_ 8), (0, u "java/lang/Record")] 13

def k2c0 : Code := { maxStack := 1, maxLocals := 1, code := jdk_30_method_1_code, exceptionTable := #[], attributes := #[] }
def k2m0 : Method := { name := "<init>", desc := "()V", sig := { parameters := [], returnType := none }, accessFlags := 4, code := some k2c0 }
/-- java/lang/Record -/
def k2 : Class := { plain "java/lang/Record" (some 0) with
  accessFlags := 1057
  interfaces := #[]
  cf := some (fileOf pool2 7 #[] #[{ accessFlags := 4, nameIndex := 5, descriptorIndex := 6, attributes := #[] }] 1057 2 #[] #[])
  fields := #[]
  methods := #[k2m0]
  instanceTypes := #[]
  staticTypes := #[]
  resolved := Array.replicate 22 none
  statics := none }

def pool3 : Array CpInfo := pool [(2, .class_ 4), (1, u "boxwood/Temporal"), (28, .class_ 35), (1, u "boxwood/Temporal$Date"), (3, .class_ 41), (1, u "boxwood/Temporal$Time"), (2, .class_ 46), (1, u "boxwood/Temporal$DateTime"), (6, .class_ 55), (1, u "boxwood/Temporal$DaysAndTimeDuration"), (41, .class_ 98), (0, u "boxwood/Temporal$YearsAndMonthsDuration"), (239, u "SCHEMA_TYPES"), (0, u "Ljava/util/Map;"), (0, .class_ 341), (0, u "java/lang/Object")] 73

/-- boxwood/Temporal -/
def k3 : Class := { plain "boxwood/Temporal" (some 0) with
  accessFlags := 1536
  interfaces := #[]
  cf := some (fileOf pool3 2 #[.nestMembers #[97, 53, 44, 39, 33]] #[] 1536 340 #[] #[{ accessFlags := 25, nameIndex := 338, descriptorIndex := 339, attributes := #[] }])
  fields := #[{ name := "SCHEMA_TYPES", type := (.object "java/util/Map"), accessFlags := 25, slot := 0, constantValue := 0 }]
  methods := #[]
  instanceTypes := #[]
  staticTypes := #[(.object "java/util/Map")]
  resolved := Array.replicate 415 none
  statics := none }

def pool4 : Array CpInfo := pool [(1, .methodref 2 3), (0, .class_ 4), (0, .nameAndType 5 6), (0, u "java/lang/Record"), (0, u "<init>"), (0, u "()V"), (2, .long 9223372036854775808), (8, .fieldref 19 20), (0, .class_ 21), (0, .nameAndType 22 23), (0, u "boxwood/Temporal$YearsAndMonthsDuration"), (0, u "months"), (0, u "J"), (1, .class_ 27), (1, u "boxwood/Temporal"), (14, u "(J)V"), (84, u "equals"), (0, u "(Ljava/lang/Object;)Z")] 98

def k4c0 : Code := { maxStack := 4, maxLocals := 3, code := prog_138_method_1_code, exceptionTable := #[], attributes := #[] }
def k4m0 : Method := { name := "<init>", desc := "(J)V", sig := { parameters := [.long], returnType := none }, accessFlags := 1, code := some k4c0 }
def k4c1 : Code := { maxStack := 4, maxLocals := 3, code := prog_138_method_12_code, exceptionTable := #[], attributes := #[] }
def k4m1 : Method := { name := "equals", desc := "(Ljava/lang/Object;)Z", sig := { parameters := [(.object "java/lang/Object")], returnType := some .boolean }, accessFlags := 1, code := some k4c1 }
/-- boxwood/Temporal$YearsAndMonthsDuration -/
def k4 : Class := { plain "boxwood/Temporal$YearsAndMonthsDuration" (some 2) with
  accessFlags := 49
  interfaces := #[3]
  cf := some (fileOf pool4 19 #[.nestHost 25] #[{ accessFlags := 1, nameIndex := 5, descriptorIndex := 42, attributes := #[] }, { accessFlags := 1, nameIndex := 127, descriptorIndex := 128, attributes := #[] }] 49 2 #[25] #[{ accessFlags := 18, nameIndex := 22, descriptorIndex := 23, attributes := #[] }])
  fields := #[{ name := "months", type := .long, accessFlags := 18, slot := 0, constantValue := 0 }]
  methods := #[k4m0, k4m1]
  instanceTypes := #[.long]
  staticTypes := #[]
  resolved := Array.replicate 227 none
  statics := none }

def pool5 : Array CpInfo := pool [(1, .class_ 2), (0, u "java/io/Serializable"), (0, .class_ 4), (0, u "java/lang/Object")] 2

/-- java/io/Serializable -/
def k5 : Class := { plain "java/io/Serializable" (some 0) with
  accessFlags := 1537
  interfaces := #[]
  cf := some (fileOf pool5 1 #[] #[] 1537 3 #[] #[])
  fields := #[]
  methods := #[]
  instanceTypes := #[]
  staticTypes := #[]
  resolved := Array.replicate 7 none
  statics := none }

def pool6 : Array CpInfo := pool [(1, .methodref 2 3), (0, .class_ 4), (0, .nameAndType 5 6), (0, u "java/lang/Object"), (0, u "<init>"), (0, u "()V"), (1, .class_ 10), (1, u "java/lang/Number"), (2, .class_ 14), (0, u "java/io/Serializable"), (0, u "serialVersionUID"), (0, u "J")] 20

def k6c0 : Code := { maxStack := 1, maxLocals := 1, code := jdk_18_method_1_code, exceptionTable := #[], attributes := #[] }
def k6m0 : Method := { name := "<init>", desc := "()V", sig := { parameters := [], returnType := none }, accessFlags := 1, code := some k6c0 }
/-- java/lang/Number -/
def k6 : Class := { plain "java/lang/Number" (some 0) with
  accessFlags := 1057
  interfaces := #[5]
  cf := some (fileOf pool6 8 #[] #[{ accessFlags := 1, nameIndex := 5, descriptorIndex := 6, attributes := #[] }] 1057 2 #[13] #[{ accessFlags := 26, nameIndex := 15, descriptorIndex := 16, attributes := #[] }])
  fields := #[{ name := "serialVersionUID", type := .long, accessFlags := 26, slot := 0, constantValue := 0 }]
  methods := #[k6m0]
  instanceTypes := #[]
  staticTypes := #[.long]
  resolved := Array.replicate 37 none
  statics := none }

def pool7 : Array CpInfo := pool [(1, .class_ 2), (0, u "java/lang/Comparable"), (0, .class_ 4), (0, u "java/lang/Object")] 7

/-- java/lang/Comparable -/
def k7 : Class := { plain "java/lang/Comparable" (some 0) with
  accessFlags := 1537
  interfaces := #[]
  cf := some (fileOf pool7 1 #[] #[] 1537 3 #[] #[])
  fields := #[]
  methods := #[]
  instanceTypes := #[]
  staticTypes := #[]
  resolved := Array.replicate 12 none
  statics := none }

def pool8 : Array CpInfo := pool [(1, .class_ 2), (0, u "java/lang/constant/Constable"), (0, .class_ 4), (0, u "java/lang/Object")] 6

/-- java/lang/constant/Constable -/
def k8 : Class := { plain "java/lang/constant/Constable" (some 0) with
  accessFlags := 1537
  interfaces := #[]
  cf := some (fileOf pool8 1 #[] #[] 1537 3 #[] #[])
  fields := #[]
  methods := #[]
  instanceTypes := #[]
  staticTypes := #[]
  resolved := Array.replicate 11 none
  statics := none }

def pool9 : Array CpInfo := pool [(1, .class_ 2), (0, u "java/lang/constant/ConstantDesc"), (0, .class_ 4), (0, u "java/lang/Object")] 32

/-- java/lang/constant/ConstantDesc -/
def k9 : Class := { plain "java/lang/constant/ConstantDesc" (some 0) with
  accessFlags := 1537
  interfaces := #[]
  cf := some (fileOf pool9 1 #[] #[] 1537 3 #[] #[])
  fields := #[]
  methods := #[]
  instanceTypes := #[]
  staticTypes := #[]
  resolved := Array.replicate 37 none
  statics := none }

def pool10 : Array CpInfo := pool [(1, .class_ 2), (0, u "java/lang/Long"), (55, .nameAndType 59 60), (0, u "<init>"), (0, u "()V"), (24, u "valueOf"), (143, u "(J)Ljava/lang/Long;"), (0, .long 18446744073709551488), (1, .long 127), (1, .fieldref 235 236), (0, .class_ 237), (0, .nameAndType 238 239), (0, u "java/lang/Long$LongCache"), (0, u "cache"), (0, u "[Ljava/lang/Long;"), (0, .methodref 1 241), (0, .nameAndType 59 242), (0, u "(J)V"), (27, .methodref 271 58), (0, .class_ 272), (0, u "java/lang/Number"), (0, .fieldref 1 274), (0, .nameAndType 275 276), (0, u "value"), (0, u "J"), (84, u "TYPE"), (0, u "Ljava/lang/Class;"), (0, .class_ 364), (0, u "java/lang/Comparable"), (0, .class_ 366), (0, u "java/lang/constant/Constable"), (0, .class_ 368), (0, u "java/lang/constant/ConstantDesc"), (0, u "MIN_VALUE"), (1, u "MAX_VALUE"), (4, u "SIZE"), (0, u "I"), (1, u "BYTES"), (1, u "serialVersionUID")] 142

def k10c0 : Code := { maxStack := 4, maxLocals := 3, code := jdk_35_method_24_code, exceptionTable := #[], attributes := #[] }
def k10m0 : Method := { name := "valueOf", desc := "(J)Ljava/lang/Long;", sig := { parameters := [.long], returnType := some (.object "java/lang/Long") }, accessFlags := 9, code := some k10c0 }
def k10c1 : Code := { maxStack := 3, maxLocals := 3, code := jdk_35_method_26_code, exceptionTable := #[], attributes := #[] }
def k10m1 : Method := { name := "<init>", desc := "(J)V", sig := { parameters := [.long], returnType := none }, accessFlags := 1, code := some k10c1 }
/-- java/lang/Long -/
def k10 : Class := { plain "java/lang/Long" (some 6) with
  accessFlags := 49
  interfaces := #[7, 8, 9]
  cf := some (fileOf pool10 1 #[.nestMembers #[235]] #[{ accessFlags := 9, nameIndex := 85, descriptorIndex := 229, attributes := #[] }, { accessFlags := 1, nameIndex := 59, descriptorIndex := 242, attributes := #[] }] 49 271 #[363, 365, 367] #[{ accessFlags := 25, nameIndex := 369, descriptorIndex := 276, attributes := #[] }, { accessFlags := 25, nameIndex := 371, descriptorIndex := 276, attributes := #[] }, { accessFlags := 25, nameIndex := 361, descriptorIndex := 362, attributes := #[] }, { accessFlags := 18, nameIndex := 275, descriptorIndex := 276, attributes := #[] }, { accessFlags := 25, nameIndex := 376, descriptorIndex := 377, attributes := #[] }, { accessFlags := 25, nameIndex := 379, descriptorIndex := 377, attributes := #[] }, { accessFlags := 26, nameIndex := 381, descriptorIndex := 276, attributes := #[] }])
  fields := #[{ name := "MIN_VALUE", type := .long, accessFlags := 25, slot := 0, constantValue := 0 }, { name := "MAX_VALUE", type := .long, accessFlags := 25, slot := 1, constantValue := 0 }, { name := "TYPE", type := (.object "java/lang/Class"), accessFlags := 25, slot := 2, constantValue := 0 }, { name := "value", type := .long, accessFlags := 18, slot := 0, constantValue := 0 }, { name := "SIZE", type := .int, accessFlags := 25, slot := 3, constantValue := 0 }, { name := "BYTES", type := .int, accessFlags := 25, slot := 4, constantValue := 0 }, { name := "serialVersionUID", type := .long, accessFlags := 26, slot := 5, constantValue := 0 }]
  methods := #[k10m0, k10m1]
  instanceTypes := #[.long]
  staticTypes := #[.long, .long, (.object "java/lang/Class"), .int, .int, .long]
  resolved := Array.replicate 524 none
  statics := none }

def pool11 : Array CpInfo := pool [(2, .class_ 4), (1, u "java/lang/Object"), (0, u "<init>"), (0, u "()V"), (0, .class_ 8), (0, u "java/lang/Long"), (7, .class_ 18), (1, u "java/lang/Long$LongCache"), (0, u "$assertionsDisabled"), (0, u "Z"), (8, u "archivedCache"), (0, u "[Ljava/lang/Long;"), (7, u "cache")] 24

def k11m0 : Method := { name := "<init>", desc := "()V", sig := { parameters := [], returnType := none }, accessFlags := 2, code := none }
/-- java/lang/Long$LongCache -/
def k11 : Class := { plain "java/lang/Long$LongCache" (some 0) with
  accessFlags := 48
  interfaces := #[]
  cf := some (fileOf pool11 16 #[.nestHost 7] #[{ accessFlags := 2, nameIndex := 5, descriptorIndex := 6, attributes := #[] }] 48 2 #[] #[{ accessFlags := 24, nameIndex := 38, descriptorIndex := 30, attributes := #[] }, { accessFlags := 8, nameIndex := 29, descriptorIndex := 30, attributes := #[] }, { accessFlags := 4120, nameIndex := 19, descriptorIndex := 20, attributes := #[] }])
  fields := #[{ name := "cache", type := (.array (.object "java/lang/Long")), accessFlags := 24, slot := 0, constantValue := 0 }, { name := "archivedCache", type := (.array (.object "java/lang/Long")), accessFlags := 8, slot := 1, constantValue := 0 }, { name := "$assertionsDisabled", type := .boolean, accessFlags := 4120, slot := 2, constantValue := 0 }]
  methods := #[k11m0]
  instanceTypes := #[]
  staticTypes := #[(.array (.object "java/lang/Long")), (.array (.object "java/lang/Long")), .boolean]
  resolved := Array.replicate 63 none
  statics := some 0 }

def pool12 : Array CpInfo := pool [(1, u "java/lang/Cloneable"), (0, .class_ 1), (0, u "java/lang/Object"), (0, .class_ 3)] 3

/-- java/lang/Cloneable -/
def k12 : Class := { plain "java/lang/Cloneable" (some 0) with
  accessFlags := 1537
  interfaces := #[]
  cf := some (fileOf pool12 2 #[] #[] 1537 4 #[] #[])
  fields := #[]
  methods := #[]
  instanceTypes := #[]
  staticTypes := #[]
  resolved := Array.replicate 8 none
  statics := none }

/-- the primitive byte -/
def k13 : Class := { plain "byte" none with kind := .primitive 'B', accessFlags := 0x411 }
/-- [B -/
def k14 : Class := { plain "[B" (some 0) with kind := .array 13 .byte, interfaces := #[12, 5], accessFlags := 1041 }

/-- the primitive int -/
def k15 : Class := { plain "int" none with kind := .primitive 'I', accessFlags := 0x411 }
/-- [I -/
def k16 : Class := { plain "[I" (some 0) with kind := .array 15 .int, interfaces := #[12, 5], accessFlags := 1041 }

/-- [Ljava/lang/Long; -/
def k17 : Class := { plain "[Ljava/lang/Long;" (some 0) with kind := .array 10 (.object "java/lang/Long"), interfaces := #[12, 5], accessFlags := 1041 }

def heap : Heap := #[{ cls := 11, slots := #[.ref 1, .null, .int 0], vm := .statics 11 },
  { cls := 17, slots := #[.ref 2, .ref 3, .ref 4, .ref 5, .ref 6, .ref 7, .ref 8, .ref 9, .ref 10, .ref 11, .ref 12, .ref 13, .ref 14, .ref 15, .ref 16, .ref 17, .ref 18, .ref 19, .ref 20, .ref 21, .ref 22, .ref 23, .ref 24, .ref 25, .ref 26, .ref 27, .ref 28, .ref 29, .ref 30, .ref 31, .ref 32, .ref 33, .ref 34, .ref 35, .ref 36, .ref 37, .ref 38, .ref 39, .ref 40, .ref 41, .ref 42, .ref 43, .ref 44, .ref 45, .ref 46, .ref 47, .ref 48, .ref 49, .ref 50, .ref 51, .ref 52, .ref 53, .ref 54, .ref 55, .ref 56, .ref 57, .ref 58, .ref 59, .ref 60, .ref 61, .ref 62, .ref 63, .ref 64, .ref 65, .ref 66, .ref 67, .ref 68, .ref 69, .ref 70, .ref 71, .ref 72, .ref 73, .ref 74, .ref 75, .ref 76, .ref 77, .ref 78, .ref 79, .ref 80, .ref 81, .ref 82, .ref 83, .ref 84, .ref 85, .ref 86, .ref 87, .ref 88, .ref 89, .ref 90, .ref 91, .ref 92, .ref 93, .ref 94, .ref 95, .ref 96, .ref 97, .ref 98, .ref 99, .ref 100, .ref 101, .ref 102, .ref 103, .ref 104, .ref 105, .ref 106, .ref 107, .ref 108, .ref 109, .ref 110, .ref 111, .ref 112, .ref 113, .ref 114, .ref 115, .ref 116, .ref 117, .ref 118, .ref 119, .ref 120, .ref 121, .ref 122, .ref 123, .ref 124, .ref 125, .ref 126, .ref 127, .ref 128, .ref 129, .ref 130, .ref 131, .ref 132, .ref 133, .ref 134, .ref 135, .ref 136, .ref 137, .ref 138, .ref 139, .ref 140, .ref 141, .ref 142, .ref 143, .ref 144, .ref 145, .ref 146, .ref 147, .ref 148, .ref 149, .ref 150, .ref 151, .ref 152, .ref 153, .ref 154, .ref 155, .ref 156, .ref 157, .ref 158, .ref 159, .ref 160, .ref 161, .ref 162, .ref 163, .ref 164, .ref 165, .ref 166, .ref 167, .ref 168, .ref 169, .ref 170, .ref 171, .ref 172, .ref 173, .ref 174, .ref 175, .ref 176, .ref 177, .ref 178, .ref 179, .ref 180, .ref 181, .ref 182, .ref 183, .ref 184, .ref 185, .ref 186, .ref 187, .ref 188, .ref 189, .ref 190, .ref 191, .ref 192, .ref 193, .ref 194, .ref 195, .ref 196, .ref 197, .ref 198, .ref 199, .ref 200, .ref 201, .ref 202, .ref 203, .ref 204, .ref 205, .ref 206, .ref 207, .ref 208, .ref 209, .ref 210, .ref 211, .ref 212, .ref 213, .ref 214, .ref 215, .ref 216, .ref 217, .ref 218, .ref 219, .ref 220, .ref 221, .ref 222, .ref 223, .ref 224, .ref 225, .ref 226, .ref 227, .ref 228, .ref 229, .ref 230, .ref 231, .ref 232, .ref 233, .ref 234, .ref 235, .ref 236, .ref 237, .ref 238, .ref 239, .ref 240, .ref 241, .ref 242, .ref 243, .ref 244, .ref 245, .ref 246, .ref 247, .ref 248, .ref 249, .ref 250, .ref 251, .ref 252, .ref 253, .ref 254, .ref 255, .ref 256, .ref 257], vm := .none },
  { cls := 10, slots := #[.long (-128)], vm := .none },
  { cls := 10, slots := #[.long (-127)], vm := .none },
  { cls := 10, slots := #[.long (-126)], vm := .none },
  { cls := 10, slots := #[.long (-125)], vm := .none },
  { cls := 10, slots := #[.long (-124)], vm := .none },
  { cls := 10, slots := #[.long (-123)], vm := .none },
  { cls := 10, slots := #[.long (-122)], vm := .none },
  { cls := 10, slots := #[.long (-121)], vm := .none },
  { cls := 10, slots := #[.long (-120)], vm := .none },
  { cls := 10, slots := #[.long (-119)], vm := .none },
  { cls := 10, slots := #[.long (-118)], vm := .none },
  { cls := 10, slots := #[.long (-117)], vm := .none },
  { cls := 10, slots := #[.long (-116)], vm := .none },
  { cls := 10, slots := #[.long (-115)], vm := .none },
  { cls := 10, slots := #[.long (-114)], vm := .none },
  { cls := 10, slots := #[.long (-113)], vm := .none },
  { cls := 10, slots := #[.long (-112)], vm := .none },
  { cls := 10, slots := #[.long (-111)], vm := .none },
  { cls := 10, slots := #[.long (-110)], vm := .none },
  { cls := 10, slots := #[.long (-109)], vm := .none },
  { cls := 10, slots := #[.long (-108)], vm := .none },
  { cls := 10, slots := #[.long (-107)], vm := .none },
  { cls := 10, slots := #[.long (-106)], vm := .none },
  { cls := 10, slots := #[.long (-105)], vm := .none },
  { cls := 10, slots := #[.long (-104)], vm := .none },
  { cls := 10, slots := #[.long (-103)], vm := .none },
  { cls := 10, slots := #[.long (-102)], vm := .none },
  { cls := 10, slots := #[.long (-101)], vm := .none },
  { cls := 10, slots := #[.long (-100)], vm := .none },
  { cls := 10, slots := #[.long (-99)], vm := .none },
  { cls := 10, slots := #[.long (-98)], vm := .none },
  { cls := 10, slots := #[.long (-97)], vm := .none },
  { cls := 10, slots := #[.long (-96)], vm := .none },
  { cls := 10, slots := #[.long (-95)], vm := .none },
  { cls := 10, slots := #[.long (-94)], vm := .none },
  { cls := 10, slots := #[.long (-93)], vm := .none },
  { cls := 10, slots := #[.long (-92)], vm := .none },
  { cls := 10, slots := #[.long (-91)], vm := .none },
  { cls := 10, slots := #[.long (-90)], vm := .none },
  { cls := 10, slots := #[.long (-89)], vm := .none },
  { cls := 10, slots := #[.long (-88)], vm := .none },
  { cls := 10, slots := #[.long (-87)], vm := .none },
  { cls := 10, slots := #[.long (-86)], vm := .none },
  { cls := 10, slots := #[.long (-85)], vm := .none },
  { cls := 10, slots := #[.long (-84)], vm := .none },
  { cls := 10, slots := #[.long (-83)], vm := .none },
  { cls := 10, slots := #[.long (-82)], vm := .none },
  { cls := 10, slots := #[.long (-81)], vm := .none },
  { cls := 10, slots := #[.long (-80)], vm := .none },
  { cls := 10, slots := #[.long (-79)], vm := .none },
  { cls := 10, slots := #[.long (-78)], vm := .none },
  { cls := 10, slots := #[.long (-77)], vm := .none },
  { cls := 10, slots := #[.long (-76)], vm := .none },
  { cls := 10, slots := #[.long (-75)], vm := .none },
  { cls := 10, slots := #[.long (-74)], vm := .none },
  { cls := 10, slots := #[.long (-73)], vm := .none },
  { cls := 10, slots := #[.long (-72)], vm := .none },
  { cls := 10, slots := #[.long (-71)], vm := .none },
  { cls := 10, slots := #[.long (-70)], vm := .none },
  { cls := 10, slots := #[.long (-69)], vm := .none },
  { cls := 10, slots := #[.long (-68)], vm := .none },
  { cls := 10, slots := #[.long (-67)], vm := .none },
  { cls := 10, slots := #[.long (-66)], vm := .none },
  { cls := 10, slots := #[.long (-65)], vm := .none },
  { cls := 10, slots := #[.long (-64)], vm := .none },
  { cls := 10, slots := #[.long (-63)], vm := .none },
  { cls := 10, slots := #[.long (-62)], vm := .none },
  { cls := 10, slots := #[.long (-61)], vm := .none },
  { cls := 10, slots := #[.long (-60)], vm := .none },
  { cls := 10, slots := #[.long (-59)], vm := .none },
  { cls := 10, slots := #[.long (-58)], vm := .none },
  { cls := 10, slots := #[.long (-57)], vm := .none },
  { cls := 10, slots := #[.long (-56)], vm := .none },
  { cls := 10, slots := #[.long (-55)], vm := .none },
  { cls := 10, slots := #[.long (-54)], vm := .none },
  { cls := 10, slots := #[.long (-53)], vm := .none },
  { cls := 10, slots := #[.long (-52)], vm := .none },
  { cls := 10, slots := #[.long (-51)], vm := .none },
  { cls := 10, slots := #[.long (-50)], vm := .none },
  { cls := 10, slots := #[.long (-49)], vm := .none },
  { cls := 10, slots := #[.long (-48)], vm := .none },
  { cls := 10, slots := #[.long (-47)], vm := .none },
  { cls := 10, slots := #[.long (-46)], vm := .none },
  { cls := 10, slots := #[.long (-45)], vm := .none },
  { cls := 10, slots := #[.long (-44)], vm := .none },
  { cls := 10, slots := #[.long (-43)], vm := .none },
  { cls := 10, slots := #[.long (-42)], vm := .none },
  { cls := 10, slots := #[.long (-41)], vm := .none },
  { cls := 10, slots := #[.long (-40)], vm := .none },
  { cls := 10, slots := #[.long (-39)], vm := .none },
  { cls := 10, slots := #[.long (-38)], vm := .none },
  { cls := 10, slots := #[.long (-37)], vm := .none },
  { cls := 10, slots := #[.long (-36)], vm := .none },
  { cls := 10, slots := #[.long (-35)], vm := .none },
  { cls := 10, slots := #[.long (-34)], vm := .none },
  { cls := 10, slots := #[.long (-33)], vm := .none },
  { cls := 10, slots := #[.long (-32)], vm := .none },
  { cls := 10, slots := #[.long (-31)], vm := .none },
  { cls := 10, slots := #[.long (-30)], vm := .none },
  { cls := 10, slots := #[.long (-29)], vm := .none },
  { cls := 10, slots := #[.long (-28)], vm := .none },
  { cls := 10, slots := #[.long (-27)], vm := .none },
  { cls := 10, slots := #[.long (-26)], vm := .none },
  { cls := 10, slots := #[.long (-25)], vm := .none },
  { cls := 10, slots := #[.long (-24)], vm := .none },
  { cls := 10, slots := #[.long (-23)], vm := .none },
  { cls := 10, slots := #[.long (-22)], vm := .none },
  { cls := 10, slots := #[.long (-21)], vm := .none },
  { cls := 10, slots := #[.long (-20)], vm := .none },
  { cls := 10, slots := #[.long (-19)], vm := .none },
  { cls := 10, slots := #[.long (-18)], vm := .none },
  { cls := 10, slots := #[.long (-17)], vm := .none },
  { cls := 10, slots := #[.long (-16)], vm := .none },
  { cls := 10, slots := #[.long (-15)], vm := .none },
  { cls := 10, slots := #[.long (-14)], vm := .none },
  { cls := 10, slots := #[.long (-13)], vm := .none },
  { cls := 10, slots := #[.long (-12)], vm := .none },
  { cls := 10, slots := #[.long (-11)], vm := .none },
  { cls := 10, slots := #[.long (-10)], vm := .none },
  { cls := 10, slots := #[.long (-9)], vm := .none },
  { cls := 10, slots := #[.long (-8)], vm := .none },
  { cls := 10, slots := #[.long (-7)], vm := .none },
  { cls := 10, slots := #[.long (-6)], vm := .none },
  { cls := 10, slots := #[.long (-5)], vm := .none },
  { cls := 10, slots := #[.long (-4)], vm := .none },
  { cls := 10, slots := #[.long (-3)], vm := .none },
  { cls := 10, slots := #[.long (-2)], vm := .none },
  { cls := 10, slots := #[.long (-1)], vm := .none },
  { cls := 10, slots := #[.long (0)], vm := .none },
  { cls := 10, slots := #[.long (1)], vm := .none },
  { cls := 10, slots := #[.long (2)], vm := .none },
  { cls := 10, slots := #[.long (3)], vm := .none },
  { cls := 10, slots := #[.long (4)], vm := .none },
  { cls := 10, slots := #[.long (5)], vm := .none },
  { cls := 10, slots := #[.long (6)], vm := .none },
  { cls := 10, slots := #[.long (7)], vm := .none },
  { cls := 10, slots := #[.long (8)], vm := .none },
  { cls := 10, slots := #[.long (9)], vm := .none },
  { cls := 10, slots := #[.long (10)], vm := .none },
  { cls := 10, slots := #[.long (11)], vm := .none },
  { cls := 10, slots := #[.long (12)], vm := .none },
  { cls := 10, slots := #[.long (13)], vm := .none },
  { cls := 10, slots := #[.long (14)], vm := .none },
  { cls := 10, slots := #[.long (15)], vm := .none },
  { cls := 10, slots := #[.long (16)], vm := .none },
  { cls := 10, slots := #[.long (17)], vm := .none },
  { cls := 10, slots := #[.long (18)], vm := .none },
  { cls := 10, slots := #[.long (19)], vm := .none },
  { cls := 10, slots := #[.long (20)], vm := .none },
  { cls := 10, slots := #[.long (21)], vm := .none },
  { cls := 10, slots := #[.long (22)], vm := .none },
  { cls := 10, slots := #[.long (23)], vm := .none },
  { cls := 10, slots := #[.long (24)], vm := .none },
  { cls := 10, slots := #[.long (25)], vm := .none },
  { cls := 10, slots := #[.long (26)], vm := .none },
  { cls := 10, slots := #[.long (27)], vm := .none },
  { cls := 10, slots := #[.long (28)], vm := .none },
  { cls := 10, slots := #[.long (29)], vm := .none },
  { cls := 10, slots := #[.long (30)], vm := .none },
  { cls := 10, slots := #[.long (31)], vm := .none },
  { cls := 10, slots := #[.long (32)], vm := .none },
  { cls := 10, slots := #[.long (33)], vm := .none },
  { cls := 10, slots := #[.long (34)], vm := .none },
  { cls := 10, slots := #[.long (35)], vm := .none },
  { cls := 10, slots := #[.long (36)], vm := .none },
  { cls := 10, slots := #[.long (37)], vm := .none },
  { cls := 10, slots := #[.long (38)], vm := .none },
  { cls := 10, slots := #[.long (39)], vm := .none },
  { cls := 10, slots := #[.long (40)], vm := .none },
  { cls := 10, slots := #[.long (41)], vm := .none },
  { cls := 10, slots := #[.long (42)], vm := .none },
  { cls := 10, slots := #[.long (43)], vm := .none },
  { cls := 10, slots := #[.long (44)], vm := .none },
  { cls := 10, slots := #[.long (45)], vm := .none },
  { cls := 10, slots := #[.long (46)], vm := .none },
  { cls := 10, slots := #[.long (47)], vm := .none },
  { cls := 10, slots := #[.long (48)], vm := .none },
  { cls := 10, slots := #[.long (49)], vm := .none },
  { cls := 10, slots := #[.long (50)], vm := .none },
  { cls := 10, slots := #[.long (51)], vm := .none },
  { cls := 10, slots := #[.long (52)], vm := .none },
  { cls := 10, slots := #[.long (53)], vm := .none },
  { cls := 10, slots := #[.long (54)], vm := .none },
  { cls := 10, slots := #[.long (55)], vm := .none },
  { cls := 10, slots := #[.long (56)], vm := .none },
  { cls := 10, slots := #[.long (57)], vm := .none },
  { cls := 10, slots := #[.long (58)], vm := .none },
  { cls := 10, slots := #[.long (59)], vm := .none },
  { cls := 10, slots := #[.long (60)], vm := .none },
  { cls := 10, slots := #[.long (61)], vm := .none },
  { cls := 10, slots := #[.long (62)], vm := .none },
  { cls := 10, slots := #[.long (63)], vm := .none },
  { cls := 10, slots := #[.long (64)], vm := .none },
  { cls := 10, slots := #[.long (65)], vm := .none },
  { cls := 10, slots := #[.long (66)], vm := .none },
  { cls := 10, slots := #[.long (67)], vm := .none },
  { cls := 10, slots := #[.long (68)], vm := .none },
  { cls := 10, slots := #[.long (69)], vm := .none },
  { cls := 10, slots := #[.long (70)], vm := .none },
  { cls := 10, slots := #[.long (71)], vm := .none },
  { cls := 10, slots := #[.long (72)], vm := .none },
  { cls := 10, slots := #[.long (73)], vm := .none },
  { cls := 10, slots := #[.long (74)], vm := .none },
  { cls := 10, slots := #[.long (75)], vm := .none },
  { cls := 10, slots := #[.long (76)], vm := .none },
  { cls := 10, slots := #[.long (77)], vm := .none },
  { cls := 10, slots := #[.long (78)], vm := .none },
  { cls := 10, slots := #[.long (79)], vm := .none },
  { cls := 10, slots := #[.long (80)], vm := .none },
  { cls := 10, slots := #[.long (81)], vm := .none },
  { cls := 10, slots := #[.long (82)], vm := .none },
  { cls := 10, slots := #[.long (83)], vm := .none },
  { cls := 10, slots := #[.long (84)], vm := .none },
  { cls := 10, slots := #[.long (85)], vm := .none },
  { cls := 10, slots := #[.long (86)], vm := .none },
  { cls := 10, slots := #[.long (87)], vm := .none },
  { cls := 10, slots := #[.long (88)], vm := .none },
  { cls := 10, slots := #[.long (89)], vm := .none },
  { cls := 10, slots := #[.long (90)], vm := .none },
  { cls := 10, slots := #[.long (91)], vm := .none },
  { cls := 10, slots := #[.long (92)], vm := .none },
  { cls := 10, slots := #[.long (93)], vm := .none },
  { cls := 10, slots := #[.long (94)], vm := .none },
  { cls := 10, slots := #[.long (95)], vm := .none },
  { cls := 10, slots := #[.long (96)], vm := .none },
  { cls := 10, slots := #[.long (97)], vm := .none },
  { cls := 10, slots := #[.long (98)], vm := .none },
  { cls := 10, slots := #[.long (99)], vm := .none },
  { cls := 10, slots := #[.long (100)], vm := .none },
  { cls := 10, slots := #[.long (101)], vm := .none },
  { cls := 10, slots := #[.long (102)], vm := .none },
  { cls := 10, slots := #[.long (103)], vm := .none },
  { cls := 10, slots := #[.long (104)], vm := .none },
  { cls := 10, slots := #[.long (105)], vm := .none },
  { cls := 10, slots := #[.long (106)], vm := .none },
  { cls := 10, slots := #[.long (107)], vm := .none },
  { cls := 10, slots := #[.long (108)], vm := .none },
  { cls := 10, slots := #[.long (109)], vm := .none },
  { cls := 10, slots := #[.long (110)], vm := .none },
  { cls := 10, slots := #[.long (111)], vm := .none },
  { cls := 10, slots := #[.long (112)], vm := .none },
  { cls := 10, slots := #[.long (113)], vm := .none },
  { cls := 10, slots := #[.long (114)], vm := .none },
  { cls := 10, slots := #[.long (115)], vm := .none },
  { cls := 10, slots := #[.long (116)], vm := .none },
  { cls := 10, slots := #[.long (117)], vm := .none },
  { cls := 10, slots := #[.long (118)], vm := .none },
  { cls := 10, slots := #[.long (119)], vm := .none },
  { cls := 10, slots := #[.long (120)], vm := .none },
  { cls := 10, slots := #[.long (121)], vm := .none },
  { cls := 10, slots := #[.long (122)], vm := .none },
  { cls := 10, slots := #[.long (123)], vm := .none },
  { cls := 10, slots := #[.long (124)], vm := .none },
  { cls := 10, slots := #[.long (125)], vm := .none },
  { cls := 10, slots := #[.long (126)], vm := .none },
  { cls := 10, slots := #[.long (127)], vm := .none }]
def classes : Array Class := #[k0, k1, k2, k3, k4, k5, k6, k7, k8, k9, k10, k11, k12, k13, k14, k15, k16, k17]
def interned : List (Array UInt16 × Addr) := []
def slotsUsed : Nat := 515
def theMethod : MethodId := ⟨1, 2⟩
def args0 : Array Value := #[.long 5, .long 7, .int 3]
def aboutOver (below : List Frame) : State where
  vm := { classes := classes, interned := interned.toArray }
  heap := heap
  slotsUsed := slotsUsed
  threads := #[{ frames := .invoking theMethod args0 :: below }]
def below0 : List Frame := [.native { method := ⟨0, 0⟩, args := #[] }]
def about1 : State := aboutOver below0
def p0 : Program := .bare "" "" ""
def e0 : Env := launch0.env 0 0 0
theorem w_frames : about1.frames = Frame.invoking theMethod args0 :: below0 := rfl
set_option maxRecDepth 65536 in
theorem w_args : argsFit about1.vm theMethod args0 = true := by decide +kernel
set_option maxRecDepth 65536 in
theorem w_heap : heapFits about1 = true := by decide +kernel
set_option maxRecDepth 65536 in
theorem w_runnable : about1.curStatus? = some .runnable := by decide +kernel
set_option maxRecDepth 65536 in
theorem w_alone : about1.alone = true := by decide +kernel
set_option maxRecDepth 65536 in
theorem w_named : about1.methodNamed? x = some theMethod := by decide +kernel
set_option maxRecDepth 65536 in
theorem w_hears : about1.hears theMethod below0 = true := by decide +kernel
set_option maxRecDepth 65536 in
theorem w_ripe : about1.ripe theMethod args0 below0 = true := by decide +kernel
theorem w_running : about1.status = .running := rfl
set_option maxRecDepth 65536 in
theorem w_room : about1.hasRoom e0.platform room_1 = true :=
  launch0.hasRoom_least _ room_1 (by decide +kernel) (by decide +kernel) (by decide +kernel) (by decide +kernel) (by decide +kernel) (by decide +kernel)
theorem allAtoms_all (ts : List Jvm.Cond) (a : Array Jvm.Value) (st : Jvm.State) : (allAtoms ts).before a st = ts.all (fun c => c.before a st) := by
  induction ts with
  | nil => rfl
  | cons c t ih =>
    show (Jvm.Cond.and c (allAtoms t)).before a st = _
    rw [Jvm.Cond.before_and, ih, List.all_cons]
def words1 : List Jvm.Cond := Jvm.Cond.code x code maxLocals ret :: tables_1
/-- a 'code' word, met by the world's own term for the bytes: nothing is compared byte by byte -/
theorem code_word {y : MethodName} {bytes : ByteArray} {mx : Nat} {rt : Option FieldType} {a : Array Value} {s : State} {m : MethodId} {meth : Method} {c : Code} (h1 : s.methodNamed? y = some m) (h2 : s.vm.method? m = some meth) (h3 : meth.code = some c) (h4 : c.code = bytes)
    (h5 : (c.maxLocals == mx && c.exceptionTable.isEmpty && decide (c.maxStack ≤ mostOperands) && decide (meth.sig.returnType = rt) && !meth.locks && decide (parseMethodDescriptor y.desc = some meth.sig)) = true) : (Jvm.Cond.code y bytes mx rt).before a s = true := by
  simp only [Bool.and_eq_true, beq_iff_eq, Bool.not_eq_true', decide_eq_true_eq] at h5
  obtain ⟨⟨⟨⟨⟨g1, g2⟩, g3⟩, g4⟩, g5⟩, g6⟩ := h5
  simp [Cond.before, Cond.holds, Cond.value, h1, h2, h3, h4, g1, g2, g3, g4, g5, g6]
def isCode : Jvm.Cond → Bool
  | .code _ _ _ _ => true
  | _ => false
theorem all_split {L : List Jvm.Cond} {P : Jvm.Cond → Bool} (h1 : L.all (fun c => isCode c || P c) = true) (h2 : ∀ c ∈ L.filter isCode, P c = true) : L.all P = true := by
  refine List.all_eq_true.mpr fun c hc => ?_
  have h := List.all_eq_true.mp h1 c hc
  rcases Bool.eq_false_or_eq_true (isCode c) with hi | hi
  · exact h2 c (List.mem_filter.mpr ⟨hc, hi⟩)
  · simpa [hi] using h
set_option maxRecDepth 65536 in
theorem w_c0 : (Jvm.Cond.code x code maxLocals ret).before args0 about1 = true := code_word (m := ⟨1, 2⟩) (meth := k1m2) (c := k1c2) (by decide +kernel) rfl rfl rfl (by decide +kernel)
set_option maxRecDepth 65536 in
theorem w_c1 : (Jvm.Cond.code ({ cls := "boxwood/YearsAndMonthsDurationEqualsPinLaw", name := "fix", desc := "(J)J" } : Jvm.MethodName) method_2_code (2 : Nat) (Option.some Jvm.ClassFile.FieldType.long)).before args0 about1 = true := code_word (m := ⟨1, 1⟩) (meth := k1m1) (c := k1c1) (by decide +kernel) rfl rfl rfl (by decide +kernel)
set_option maxRecDepth 65536 in
theorem w_c2 : (Jvm.Cond.code ({ cls := "boxwood/Temporal$YearsAndMonthsDuration", name := "<init>", desc := "(J)V" } : Jvm.MethodName) prog_138_method_1_code (3 : Nat) (Option.none : Option Jvm.ClassFile.FieldType)).before args0 about1 = true := code_word (m := ⟨4, 0⟩) (meth := k4m0) (c := k4c0) (by decide +kernel) rfl rfl rfl (by decide +kernel)
set_option maxRecDepth 65536 in
theorem w_c3 : (Jvm.Cond.code ({ cls := "java/lang/Record", name := "<init>", desc := "()V" } : Jvm.MethodName) jdk_30_method_1_code (1 : Nat) (Option.none : Option Jvm.ClassFile.FieldType)).before args0 about1 = true := code_word (m := ⟨2, 0⟩) (meth := k2m0) (c := k2c0) (by decide +kernel) rfl rfl rfl (by decide +kernel)
set_option maxRecDepth 65536 in
theorem w_c4 : (Jvm.Cond.code ({ cls := "java/lang/Object", name := "<init>", desc := "()V" } : Jvm.MethodName) object_method_1_code (1 : Nat) (Option.none : Option Jvm.ClassFile.FieldType)).before args0 about1 = true := code_word (m := ⟨0, 0⟩) (meth := k0m0) (c := k0c0) (by decide +kernel) rfl rfl rfl (by decide +kernel)
set_option maxRecDepth 65536 in
theorem w_c5 : (Jvm.Cond.code ({ cls := "boxwood/Temporal$YearsAndMonthsDuration", name := "equals", desc := "(Ljava/lang/Object;)Z" } : Jvm.MethodName) prog_138_method_12_code (3 : Nat) (Option.some Jvm.ClassFile.FieldType.boolean)).before args0 about1 = true := code_word (m := ⟨4, 1⟩) (meth := k4m1) (c := k4c1) (by decide +kernel) rfl rfl rfl (by decide +kernel)
set_option maxRecDepth 65536 in
theorem w_c6 : (Jvm.Cond.code ({ cls := "java/lang/Long", name := "valueOf", desc := "(J)Ljava/lang/Long;" } : Jvm.MethodName) jdk_35_method_24_code (3 : Nat) (Option.some (Jvm.ClassFile.FieldType.object "java/lang/Long"))).before args0 about1 = true := code_word (m := ⟨10, 0⟩) (meth := k10m0) (c := k10c0) (by decide +kernel) rfl rfl rfl (by decide +kernel)
set_option maxRecDepth 65536 in
theorem w_c7 : (Jvm.Cond.code ({ cls := "java/lang/Long", name := "<init>", desc := "(J)V" } : Jvm.MethodName) jdk_35_method_26_code (3 : Nat) (Option.none : Option Jvm.ClassFile.FieldType)).before args0 about1 = true := code_word (m := ⟨10, 1⟩) (meth := k10m1) (c := k10c1) (by decide +kernel) rfl rfl rfl (by decide +kernel)
set_option maxRecDepth 65536 in
theorem w_c8 : (Jvm.Cond.code ({ cls := "java/lang/Number", name := "<init>", desc := "()V" } : Jvm.MethodName) jdk_18_method_1_code (1 : Nat) (Option.none : Option Jvm.ClassFile.FieldType)).before args0 about1 = true := code_word (m := ⟨6, 0⟩) (meth := k6m0) (c := k6c0) (by decide +kernel) rfl rfl rfl (by decide +kernel)
def codes1 : List Jvm.Cond := [Jvm.Cond.code x code maxLocals ret, Jvm.Cond.code ({ cls := "boxwood/YearsAndMonthsDurationEqualsPinLaw", name := "fix", desc := "(J)J" } : Jvm.MethodName) method_2_code (2 : Nat) (Option.some Jvm.ClassFile.FieldType.long), Jvm.Cond.code ({ cls := "boxwood/Temporal$YearsAndMonthsDuration", name := "<init>", desc := "(J)V" } : Jvm.MethodName) prog_138_method_1_code (3 : Nat) (Option.none : Option Jvm.ClassFile.FieldType), Jvm.Cond.code ({ cls := "java/lang/Record", name := "<init>", desc := "()V" } : Jvm.MethodName) jdk_30_method_1_code (1 : Nat) (Option.none : Option Jvm.ClassFile.FieldType), Jvm.Cond.code ({ cls := "java/lang/Object", name := "<init>", desc := "()V" } : Jvm.MethodName) object_method_1_code (1 : Nat) (Option.none : Option Jvm.ClassFile.FieldType), Jvm.Cond.code ({ cls := "boxwood/Temporal$YearsAndMonthsDuration", name := "equals", desc := "(Ljava/lang/Object;)Z" } : Jvm.MethodName) prog_138_method_12_code (3 : Nat) (Option.some Jvm.ClassFile.FieldType.boolean), Jvm.Cond.code ({ cls := "java/lang/Long", name := "valueOf", desc := "(J)Ljava/lang/Long;" } : Jvm.MethodName) jdk_35_method_24_code (3 : Nat) (Option.some (Jvm.ClassFile.FieldType.object "java/lang/Long")), Jvm.Cond.code ({ cls := "java/lang/Long", name := "<init>", desc := "(J)V" } : Jvm.MethodName) jdk_35_method_26_code (3 : Nat) (Option.none : Option Jvm.ClassFile.FieldType), Jvm.Cond.code ({ cls := "java/lang/Number", name := "<init>", desc := "()V" } : Jvm.MethodName) jdk_18_method_1_code (1 : Nat) (Option.none : Option Jvm.ClassFile.FieldType)]
set_option maxRecDepth 65536 in
theorem codes_eq : words1.filter isCode = codes1 := rfl
theorem w_codes : ∀ c ∈ words1.filter isCode, c.before args0 about1 = true := by
  rw [codes_eq]
  intro c hc
  simp only [codes1, List.mem_cons, List.not_mem_nil, or_false] at hc
  rcases hc with rfl | rfl | rfl | rfl | rfl | rfl | rfl | rfl | rfl
  · exact w_c0
  · exact w_c1
  · exact w_c2
  · exact w_c3
  · exact w_c4
  · exact w_c5
  · exact w_c6
  · exact w_c7
  · exact w_c8
set_option maxRecDepth 65536 in
theorem w_t1 : (words1.take 24).all (fun c => isCode c || c.before args0 about1) = true := by decide +kernel
set_option maxRecDepth 65536 in
theorem w_t2 : ((words1.drop 24).take 24).all (fun c => isCode c || c.before args0 about1) = true := by decide +kernel
set_option maxRecDepth 65536 in
theorem w_t3 : ((words1.drop 24).drop 24).all (fun c => isCode c || c.before args0 about1) = true := by decide +kernel
theorem w_tables : (allAtoms (Jvm.Cond.code x code maxLocals ret :: tables_1)).before args0 about1 = true := by
  rw [allAtoms_all]
  show words1.all (fun c => c.before args0 about1) = true
  refine all_split ?_ w_codes
  rw [← List.take_append_drop 24 words1, List.all_append, w_t1, ← List.take_append_drop 24 (words1.drop 24), List.all_append, w_t2, w_t3]
  rfl
set_option maxRecDepth 65536 in
theorem w_rest : rest_1_c.before args0 about1 = true := by decide +kernel
set_option maxRecDepth 65536 in
theorem w_case : (Jvm.Cond.and given_1 narrow_1).before args0 about1 = true := by decide +kernel
theorem w_applies : (headSpec (Jvm.Cond.code x code maxLocals ret :: tables_1) room_1).applies x e0.platform about1 = true :=
  (Spec.applies_iff w_frames).mpr ⟨w_running, w_runnable, w_alone, w_named, w_hears, w_ripe, w_room, w_tables⟩
theorem atStart : AtStart classFile x code maxLocals ret World_1 tables_1 room_1 Calls_1 rest_1 Pre_1 launch0 p0 e0 about1 theMethod args0 below0 :=
  ⟨lists_1, trivial, launch0.admits_env _ _ _, launch0.least_env, fairChoices_fair.cas, fairChoices_fair.clock, w_frames, w_args, w_heap, w_applies, trivial, w_rest, w_case⟩
end start1
theorem witness_1 : WitnessClaimed_1 := ⟨start1.p0, start1.e0, start1.about1, start1.theMethod, start1.args0, start1.below0, start1.atStart⟩
end Jvm.Pilot.@@N@@
