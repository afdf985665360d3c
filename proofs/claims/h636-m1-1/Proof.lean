import JvmDerived
import JvmDerived.Pilot.@@N@@Statement
import JvmDerived.Pilot.@@N@@Code
set_option linter.unusedVariables false
set_option linter.unusedSimpArgs false
namespace Jvm.Pilot.@@N@@
open Jvm Jvm.ClassFile Sem Op Lib Jvm.Free Jvm.Stand Jvm.LawKit Jvm.RoadKit Bundle Jvm.Pilot.@@N@@.Jvm.D
section OwnLayer
variable {p : Program} {l : Launch} {e : Env} {R : Room} {s : State} {m : MethodId} {args : Array Value} {below : List Frame} {meth : Method} {c : Code} {T T' : State} {locs : List Loc} {cells slots : Nat} {Z : State} {h h' : Heap}
/-- from T at the frame g the body runs to its end, and the end is as Q says -/
def own_Go (p : Program) (e : Env) (below : List Frame) (s : State) (Q : Option Value → Heap → List Loc → Prop) (k n : Nat) (T : State) (g : JFrame) : Prop :=
  ∃ s₂ o, Steps p.tables e below (T.setTop g) s₂ ∧ s₂.status = .running ∧ Ended s₂ below o ∧ ∃ v L, o = .returned v ∧ Q v s₂.heap L ∧ FrameEnd s o s₂ L k n
theorem own_st {Q : Option Value → Heap → List Loc → Prop} {k n : Nat} {g g' : JFrame} (st : ∀ t, Steps p.tables e below (T'.setTop g') t → Steps p.tables e below (T.setTop g) t) (G : own_Go p e below s Q k n T' g') : own_Go p e below s Q k n T g := by
  obtain ⟨s₂, o, h1, h2⟩ := G
  exact ⟨s₂, o, st _ h1, h2⟩
theorem own_tr {Q : Option Value → Heap → List Loc → Prop} {k n : Nat} {g g' : JFrame} (st : Steps p.tables e below (T.setTop g) (T'.setTop g')) (G : own_Go p e below s Q k n T' g') : own_Go p e below s Q k n T g :=
  own_st (fun _ q => st.trans q) G
theorem own_nm {α : Type} {Q : Option Value → Heap → List Loc → Prop} {k n : Nat} {f : α → JFrame} (v : α) (G : ∀ z, z = v → own_Go p e below s Q k n T (f z)) : own_Go p e below s Q k n T (f v) := G v rfl
theorem own_ret {Q : Option Value → Heap → List Loc → Prop} {k n : Nat} (X : Stand p l e R s m args below meth c T locs cells slots) (hx : p.tables.exec = Jvm.exec) {pc : Nat} {Ls : Array Slot} {w : Value} {t : FieldType} {i : Instr} {rest : List Value} (hret : meth.sig.returnType = some t) (hlk : meth.locks = false) (hn : narrow t w = w)
    (hi : (i = .ireturn ∧ (t = .int ∨ t = .boolean ∨ t = .byte ∨ t = .char ∨ t = .short) ∧ ∃ z, w = .int z) ∨ (i = .lreturn ∧ t = .long ∧ ∃ z, w = .long z) ∨ (i = .dreturn ∧ t = .double ∧ ∃ z, w = .double z) ∨ (i = .freturn ∧ t = .float ∧ ∃ z, w = .float z) ∨ (i = .areturn ∧ t.isReference = true ∧ w.isRef = true))
    (hd : decode c.code pc = .ok (i, 1)) (eT : T.heap = h) (hk : cells ≤ k) (hl : slots ≤ n) (hq : Q (some w) h locs) : own_Go p e below s Q k n T (mkF m pc Ls (w :: rest)) := by
  obtain ⟨fs, hr, hrun, hended, hW, hsame⟩ := X.leave (v := some w) (fun q => by rw [hret] at q; cases q) hlk
  exact ⟨_, _, retOut X hx hret hn hi hd hr, hrun, hended, _, _, rfl, by show Q (some w) T.heap locs; rw [eT]; exact hq, ⟨_, rfl⟩, hW, hsame.mono hk hl⟩
theorem own_ret0 {Q : Option Value → Heap → List Loc → Prop} {k n : Nat} (X : Stand p l e R s m args below meth c T locs cells slots) (hx : p.tables.exec = Jvm.exec) {pc : Nat} {Ls : Array Slot} (hret : meth.sig.returnType = none) (hlk : meth.locks = false)
    (hd : decode c.code pc = .ok (.return_, 1)) (eT : T.heap = h) (hk : cells ≤ k) (hl : slots ≤ n) (hq : Q none h locs) : own_Go p e below s Q k n T (mkF m pc Ls []) := by
  obtain ⟨fs, hr, hrun, hended, hW, hsame⟩ := X.leave (v := none) (fun _ => rfl) hlk
  exact ⟨_, _, X.returnOut hx hret hd hr, hrun, hended, _, _, rfl, by show Q none T.heap locs; rw [eT]; exact hq, ⟨_, rfl⟩, hW, hsame.mono hk hl⟩
theorem own_cat {v : Value} (q : v.isRef = true) : v.category = 1 := by cases v <;> first | rfl | cases q
theorem own_Ins_keep {a : Addr} {C : String} {b : Bool} {ws : List Addr} (F : Ins Z h a C b) (K : Keep h h' ws) : Ins Z h' a C b := by
  obtain ⟨cell, cT, h1, h2, h3⟩ := F
  obtain ⟨c', q1, q2, q3, -⟩ := K.2.2 _ _ h1
  exact ⟨c', cT, q1, h2, by rw [q2, q3]; exact h3⟩
end OwnLayer
theorem own_ltlt {x y : Int64} (h : x < y) : ifCond.holds .lt (lcmpW x y) = true ∧ ifCond.holds .ge (lcmpW x y) = false ∧ ifCond.holds .gt (lcmpW y x) = true ∧ ifCond.holds .le (lcmpW y x) = false := by
  have a : lcmpW x y < 0 := (lw_lt x y).mpr h
  have b : 0 < lcmpW y x := (lw_gt y x).mpr h
  exact ⟨(if0 _ _).trans (tlt a).1, (if0 _ _).trans (tlt a).2.1, (if0 _ _).trans (tlt b).2.2.1, (if0 _ _).trans (tlt b).2.2.2⟩
theorem own_lflt {x y : Int64} (h : ¬ x < y) : ifCond.holds .lt (lcmpW x y) = false ∧ ifCond.holds .ge (lcmpW x y) = true ∧ ifCond.holds .gt (lcmpW y x) = false ∧ ifCond.holds .le (lcmpW y x) = true := by
  have a : ¬ lcmpW x y < 0 := fun q => h ((lw_lt x y).mp q)
  have b : ¬ 0 < lcmpW y x := fun q => h ((lw_gt y x).mp q)
  exact ⟨(if0 _ _).trans (flt a).1, (if0 _ _).trans (flt a).2.1, (if0 _ _).trans (flt b).2.2.1, (if0 _ _).trans (flt b).2.2.2⟩
theorem own_lteq {x y : Int64} (h : x = y) : ifCond.holds .eq (lcmpW x y) = true ∧ ifCond.holds .ne (lcmpW x y) = false := by
  have a : lcmpW x y = 0 := (lw_eq x y).mpr h
  exact ⟨(if0 _ _).trans (teq a).1, (if0 _ _).trans (teq a).2⟩
theorem own_lfeq {x y : Int64} (h : ¬ x = y) : ifCond.holds .eq (lcmpW x y) = false ∧ ifCond.holds .ne (lcmpW x y) = true := by
  have a : ¬ lcmpW x y = 0 := fun q => h ((lw_eq x y).mp q)
  exact ⟨(if0 _ _).trans (feq a).1, (if0 _ _).trans (feq a).2⟩
theorem own_ifc {α : Type} {P Q : Prop} [Decidable P] [Decidable Q] {x y : α} (h : P ↔ Q) : (if P then x else y) = if Q then x else y := by
  by_cases q : P
  · rw [if_pos q, if_pos (h.mp q)]
  · rw [if_neg q, if_neg (fun r => q (h.mpr r))]
theorem own_min (x : Int64) : ¬ x < (-9223372036854775808 : Int64) := fun q => by have := Int64.lt_iff_toInt_lt.mp q; have := x.le_toInt; simp at * <;> omega
theorem own_d_jdk_29_m66_0 : decode jdk_29_method_66_code 0 = .ok (.lload_n 0, 1) := by decide +kernel
theorem own_d_jdk_29_m66_1 : decode jdk_29_method_66_code 1 = .ok (.lload_n 2, 1) := by decide +kernel
theorem own_d_jdk_29_m66_2 : decode jdk_29_method_66_code 2 = .ok (.lcmp, 1) := by decide +kernel
theorem own_d_jdk_29_m66_3 : decode jdk_29_method_66_code 3 = .ok (.ifCond .lt 7, 3) := by decide +kernel
theorem own_d_jdk_29_m66_10 : decode jdk_29_method_66_code 10 = .ok (.lload_n 2, 1) := by decide +kernel
theorem own_d_jdk_29_m66_11 : decode jdk_29_method_66_code 11 = .ok (.lreturn, 1) := by decide +kernel
theorem own_d_jdk_29_m66_6 : decode jdk_29_method_66_code 6 = .ok (.lload_n 0, 1) := by decide +kernel
theorem own_d_jdk_29_m66_7 : decode jdk_29_method_66_code 7 = .ok (.goto 4, 3) := by decide +kernel
theorem own_pn0 : plainName "com/example/coterie/coterie/message/LamportClock" = true := by first | (simp [plainName, overriddenIn]; done) | decide +kernel
theorem own_d_prog_63_m1_0 : decode prog_63_method_1_code 0 = .ok (.aload_n 0, 1) := by decide +kernel
theorem own_d_prog_63_m1_1 : decode prog_63_method_1_code 1 = .ok (.invokespecial 1, 3) := by decide +kernel
theorem own_d_prog_63_m1_4 : decode prog_63_method_1_code 4 = .ok (.return_, 1) := by decide +kernel
theorem own_d_prog_63_m2_0 : decode prog_63_method_2_code 0 = .ok (.aload_n 0, 1) := by decide +kernel
theorem own_d_prog_63_m2_1 : decode prog_63_method_2_code 1 = .ok (.dup, 1) := by decide +kernel
theorem own_d_prog_63_m2_2 : decode prog_63_method_2_code 2 = .ok (.getfield 7, 3) := by decide +kernel
theorem own_d_prog_63_m2_5 : decode prog_63_method_2_code 5 = .ok (.lconst 1, 1) := by decide +kernel
theorem own_d_prog_63_m2_6 : decode prog_63_method_2_code 6 = .ok (.ladd, 1) := by decide +kernel
theorem own_d_prog_63_m2_7 : decode prog_63_method_2_code 7 = .ok (.putfield 7, 3) := by decide +kernel
theorem own_d_prog_63_m2_10 : decode prog_63_method_2_code 10 = .ok (.aload_n 0, 1) := by decide +kernel
theorem own_d_prog_63_m2_11 : decode prog_63_method_2_code 11 = .ok (.getfield 7, 3) := by decide +kernel
theorem own_d_prog_63_m2_14 : decode prog_63_method_2_code 14 = .ok (.lreturn, 1) := by decide +kernel
theorem own_d_prog_63_m3_0 : decode prog_63_method_3_code 0 = .ok (.aload_n 0, 1) := by decide +kernel
theorem own_d_prog_63_m3_1 : decode prog_63_method_3_code 1 = .ok (.aload_n 0, 1) := by decide +kernel
theorem own_d_prog_63_m3_2 : decode prog_63_method_3_code 2 = .ok (.getfield 7, 3) := by decide +kernel
theorem own_d_prog_63_m3_5 : decode prog_63_method_3_code 5 = .ok (.lload_n 1, 1) := by decide +kernel
theorem own_d_prog_63_m3_6 : decode prog_63_method_3_code 6 = .ok (.invokestatic 13, 3) := by decide +kernel
theorem own_pd0 : parseMethodDescriptor "(JJ)J" = some ⟨[.long, .long], some .long⟩ := by decide +kernel
theorem own_d_prog_63_m3_9 : decode prog_63_method_3_code 9 = .ok (.lconst 1, 1) := by decide +kernel
theorem own_d_prog_63_m3_10 : decode prog_63_method_3_code 10 = .ok (.ladd, 1) := by decide +kernel
theorem own_d_prog_63_m3_11 : decode prog_63_method_3_code 11 = .ok (.putfield 7, 3) := by decide +kernel
theorem own_d_prog_63_m3_14 : decode prog_63_method_3_code 14 = .ok (.aload_n 0, 1) := by decide +kernel
theorem own_d_prog_63_m3_15 : decode prog_63_method_3_code 15 = .ok (.getfield 7, 3) := by decide +kernel
theorem own_d_prog_63_m3_18 : decode prog_63_method_3_code 18 = .ok (.lreturn, 1) := by decide +kernel
theorem own_pn1 : plainName "com/example/coterie/coterie/message/LamportClockTickPinLaw" = true := by first | (simp [plainName, overriddenIn]; done) | decide +kernel
theorem own_pd1 : parseMethodDescriptor "()V" = some ⟨[], none⟩ := by decide +kernel
theorem own_pd2 : parseMethodDescriptor "()J" = some ⟨[], some .long⟩ := by decide +kernel
theorem own_pd3 : parseMethodDescriptor "(J)J" = some ⟨[.long], some .long⟩ := by decide +kernel
def Q_max (Z : State) (q1 : Int64) (q2 : Int64) (h0 : Heap) (n0 : Nat) (v : Option Value) (h : Heap) (L : List Loc) : Prop := v = some (.long (if q1 < q2 then q2 else q1)) ∧ Fr n0 L ∧ (h = h0)
theorem ef_max (m : MethodId) (x0 : Int64) (x1 : Int64)  : entryFrame m #[(.long x0), (.long x1)] 4 = mkF m 0 #[.val (.long x0), .second, .val (.long x1), .second] [] := by first | (simp [entryFrame, mkF, argsToLocals, Value.category]; done) | rfl
set_option maxRecDepth 65536 in
set_option maxHeartbeats 40000000 in
theorem rm_max (l : Launch) (Z : State) (a0 : Array Value) (hw : ∀ d ∈ tables_1, d.before a0 Z = true) (ws : List Jvm.Cond) (q1 : Int64) (q2 : Int64) (h0 : Heap) (n0 : Nat) (Zs : n0 ≤ h0.size)  :
    MetFree l (⟨"java/lang/Math", "max", "(JJ)J"⟩ : MethodName) (head1 (Jvm.Cond.code (⟨"java/lang/Math", "max", "(JJ)J"⟩ : MethodName) jdk_29_method_66_code 4 (some .long) :: ws) ({ frames := 0, cells := 0, slots := 0, locals := 0 } : Room)) (fun a U => a = #[(.long q1), (.long q2)] ∧ Z.Warmed39 U.vm ∧ U.heap = h0) (fun _ _ _ _ _ => True) (fun _ U o U' => ∃ v L, o = .returned v ∧ (Q_max Z q1 q2 h0 n0) v U'.heap L ∧ FrameEnd U o U' L ({ frames := 0, cells := 0, slots := 0, locals := 0 } : Room).cells ({ frames := 0, cells := 0, slots := 0, locals := 0 } : Room).slots) := by
  refine MetFree.of_bodySF (Jvm.Free.JP.mathPlain rfl (by decide +kernel)) hisR ?_
  intro p e s m args below meth c s₁ Bd hml0 hP hK
  obtain ⟨rfl, hZ, hh⟩ := hP
  have hx := Bd.exec
  have hby := Bd.bytes
  have hlk := BodyLoose.notSynchronized Bd
  have hret := Bd.returns
  have hml : c.maxLocals = 4 := hml0
  have hown : s.vm.findClass "java/lang/Math" = some m.cls := findClass_of_methodNamed Bd.named
  have hnm := (name_of_methodNamed Bd.named Bd.method).1
  have X : Stand p l e ({ frames := 0, cells := 0, slots := 0, locals := 0 } : Room) s m #[(.long q1), (.long q2)] below meth c s₁ [] 0 0 := Stand.of_body Bd
  have eT : s₁.heap = h0 := by rw [← hh, Bd.state]; rfl
  have N := Fr.nil n0
  have K0 : Keep h0 h0 [] := Keep.refl _ _
  show own_Go p e below s (Q_max Z q1 q2 h0 n0) ({ frames := 0, cells := 0, slots := 0, locals := 0 } : Room).cells ({ frames := 0, cells := 0, slots := 0, locals := 0 } : Room).slots s₁ (entryFrame m #[(.long q1), (.long q2)] 4)
  rw [ef_max m q1 q2]
  refine own_st (T' := s₁) (g' := (mkF m 1 #[.val (.long q1), .second, .val (.long q2), .second] [(.long q1)])) (fun _ zq => XS.lloadN X.here hx rfl (hb hby own_d_jdk_29_m66_0) rfl zq) ?_
  refine own_st (T' := s₁) (g' := (mkF m 2 #[.val (.long q1), .second, .val (.long q2), .second] [(.long q2), (.long q1)])) (fun _ zq => XS.lloadN X.here hx rfl (hb hby own_d_jdk_29_m66_1) rfl zq) ?_
  refine own_st (T' := s₁) (g' := (mkF m 3 #[.val (.long q1), .second, .val (.long q2), .second] [(.int (lcmpW q1 q2))])) (fun _ zq => XS.lcmp X.here hx rfl (hb hby own_d_jdk_29_m66_2) rfl zq) ?_
  by_cases hc : q1 < q2
  · skip
    refine own_st (T' := s₁) (g' := (mkF m 10 #[.val (.long q1), .second, .val (.long q2), .second] [])) (fun _ zq => XS.ifYes X.here hx rfl (pc0 := 3) (pc' := 10) rfl (hb hby own_d_jdk_29_m66_3) rfl (own_ltlt hc).1 (by decide) (by decide) zq) ?_
    refine own_st (T' := s₁) (g' := (mkF m 11 #[.val (.long q1), .second, .val (.long q2), .second] [(.long q2)])) (fun _ zq => XS.lloadN X.here hx rfl (hb hby own_d_jdk_29_m66_10) rfl zq) ?_
    exact own_ret X hx hret hlk (i := .lreturn) rfl (Or.inr (Or.inl ⟨rfl, rfl, _, rfl⟩)) (hb hby own_d_jdk_29_m66_11) eT (Nat.le_of_ble_eq_true rfl) (Nat.le_of_ble_eq_true rfl) ⟨by rw [if_pos hc], N, rfl⟩
  · skip
    refine own_st (T' := s₁) (g' := (mkF m 6 #[.val (.long q1), .second, .val (.long q2), .second] [])) (fun _ zq => XS.ifNo X.here hx rfl (hb hby own_d_jdk_29_m66_3) rfl (own_lflt hc).1 zq) ?_
    refine own_st (T' := s₁) (g' := (mkF m 7 #[.val (.long q1), .second, .val (.long q2), .second] [(.long q1)])) (fun _ zq => XS.lloadN X.here hx rfl (hb hby own_d_jdk_29_m66_6) rfl zq) ?_
    refine own_st (T' := s₁) (g' := (mkF m 11 #[.val (.long q1), .second, .val (.long q2), .second] [(.long q1)])) (fun _ zq => XS.goto X.here hx rfl (pc0 := 7) (pc' := 11) rfl (hb hby own_d_jdk_29_m66_7) (by decide) (by decide) zq) ?_
    exact own_ret X hx hret hlk (i := .lreturn) rfl (Or.inr (Or.inl ⟨rfl, rfl, _, rfl⟩)) (hb hby own_d_jdk_29_m66_11) eT (Nat.le_of_ble_eq_true rfl) (Nat.le_of_ble_eq_true rfl) ⟨by rw [if_neg hc], N, rfl⟩
def Q_init (Z : State) (a1 : Addr) (h0 : Heap) (n0 : Nat) (v : Option Value) (h : Heap) (L : List Loc) : Prop := v = none ∧ Fr n0 L ∧ (h = h0)
theorem ef_init (m : MethodId) (x0 : Addr)  : entryFrame m #[(.ref x0)] 1 = mkF m 0 #[.val (.ref x0)] [] := by first | (simp [entryFrame, mkF, argsToLocals, Value.category]; done) | rfl
set_option maxRecDepth 65536 in
set_option maxHeartbeats 40000000 in
theorem rm_init (l : Launch) (Z : State) (a0 : Array Value) (hw : ∀ d ∈ tables_1, d.before a0 Z = true) (ws : List Jvm.Cond) (a1 : Addr) (h0 : Heap) (n0 : Nat) (Zs : n0 ≤ h0.size)  :
    MetFree l (⟨"com/example/coterie/coterie/message/LamportClock", "<init>", "()V"⟩ : MethodName) (head1 (Jvm.Cond.code (⟨"com/example/coterie/coterie/message/LamportClock", "<init>", "()V"⟩ : MethodName) prog_63_method_1_code 1 none :: ws) ({ frames := 1, cells := 0, slots := 0, locals := 12 } : Room)) (fun a U => a = #[(.ref a1)] ∧ Z.Warmed39 U.vm ∧ U.heap = h0) (fun _ _ _ _ _ => True) (fun _ U o U' => ∃ v L, o = .returned v ∧ (Q_init Z a1 h0 n0) v U'.heap L ∧ FrameEnd U o U' L ({ frames := 1, cells := 0, slots := 0, locals := 12 } : Room).cells ({ frames := 1, cells := 0, slots := 0, locals := 12 } : Room).slots) := by
  refine MetFree.of_bodySF (plainFor_of_name own_pn0) hisR ?_
  intro p e s m args below meth c s₁ Bd hml0 hP hK
  obtain ⟨rfl, hZ, hh⟩ := hP
  have hx := Bd.exec
  have hby := Bd.bytes
  have hlk := BodyLoose.notSynchronized Bd
  have hret := Bd.returns
  have hml : c.maxLocals = 1 := hml0
  have hown : s.vm.findClass "com/example/coterie/coterie/message/LamportClock" = some m.cls := findClass_of_methodNamed Bd.named
  have hnm := (name_of_methodNamed Bd.named Bd.method).1
  have X : Stand p l e ({ frames := 1, cells := 0, slots := 0, locals := 12 } : Room) s m #[(.ref a1)] below meth c s₁ [] 0 0 := Stand.of_body Bd
  have eT : s₁.heap = h0 := by rw [← hh, Bd.state]; rfl
  have N := Fr.nil n0
  have K0 : Keep h0 h0 [] := Keep.refl _ _
  show own_Go p e below s (Q_init Z a1 h0 n0) ({ frames := 1, cells := 0, slots := 0, locals := 12 } : Room).cells ({ frames := 1, cells := 0, slots := 0, locals := 12 } : Room).slots s₁ (entryFrame m #[(.ref a1)] 1)
  rw [ef_init m a1]
  refine own_st (T' := s₁) (g' := (mkF m 1 #[.val (.ref a1)] [(.ref a1)])) (fun _ zq => XS.aloadN X.here hx rfl (hb hby own_d_prog_63_m1_0) rfl rfl zq) ?_
  obtain ⟨T1, X1, e1, st1⟩ := initO X hx hZ hown (hw _ (List.mem_of_getElem? (i := 6) rfl)) (hw _ (List.mem_of_getElem? (i := 7) rfl)) (hw _ (List.mem_of_getElem? (i := 8) rfl)) eT (g := (mkF m 1 #[.val (.ref a1)] [(.ref a1)])) rfl (by rw [hml]; rfl) rfl (hb hby own_d_prog_63_m1_1) (by decide) (W := 0) (by show 2 * 0 + _ ≤ _; exact Nat.le_of_eq rfl) (by decide)
  refine own_st (g' := (mkF m 4 #[.val (.ref a1)] [])) st1 ?_
  exact own_ret0 X1 hx hret hlk (hb hby own_d_prog_63_m1_4) e1 (Nat.le_of_ble_eq_true rfl) (Nat.le_of_ble_eq_true rfl) ⟨rfl, N, rfl⟩
def Q_tick (Z : State) (a1 : Addr) (t : Int64) (h0 : Heap) (n0 : Nat) (v : Option Value) (h : Heap) (L : List Loc) : Prop := v = some (.long (t + 1)) ∧ Fr n0 L ∧ (Keep h0 h [a1]) ∧ (Exa Z h a1 "com/example/coterie/coterie/message/LamportClock") ∧ (Fld Z h a1 "com/example/coterie/coterie/message/LamportClock" "time" "J" (.long (t + 1)))
theorem ef_tick (m : MethodId) (x0 : Addr)  : entryFrame m #[(.ref x0)] 1 = mkF m 0 #[.val (.ref x0)] [] := by first | (simp [entryFrame, mkF, argsToLocals, Value.category]; done) | rfl
set_option maxRecDepth 65536 in
set_option maxHeartbeats 40000000 in
theorem rm_tick (l : Launch) (Z : State) (a0 : Array Value) (hw : ∀ d ∈ tables_1, d.before a0 Z = true) (ws : List Jvm.Cond) (a1 : Addr) (t : Int64) (h0 : Heap) (n0 : Nat) (Zs : n0 ≤ h0.size) (E_a1 : Exa Z h0 a1 "com/example/coterie/coterie/message/LamportClock") (F_a1 : Fld Z h0 a1 "com/example/coterie/coterie/message/LamportClock" "time" "J" (.long t)) (g_a1 : n0 ≤ a1) :
    MetFree l (⟨"com/example/coterie/coterie/message/LamportClock", "tick", "()J"⟩ : MethodName) (head1 (Jvm.Cond.code (⟨"com/example/coterie/coterie/message/LamportClock", "tick", "()J"⟩ : MethodName) prog_63_method_2_code 1 (some .long) :: ws) ({ frames := 0, cells := 0, slots := 0, locals := 0 } : Room)) (fun a U => a = #[(.ref a1)] ∧ Z.Warmed39 U.vm ∧ U.heap = h0) (fun _ _ _ _ _ => True) (fun _ U o U' => ∃ v L, o = .returned v ∧ (Q_tick Z a1 t h0 n0) v U'.heap L ∧ FrameEnd U o U' L ({ frames := 0, cells := 0, slots := 0, locals := 0 } : Room).cells ({ frames := 0, cells := 0, slots := 0, locals := 0 } : Room).slots) := by
  refine MetFree.of_bodySF (plainFor_of_name own_pn0) hisR ?_
  intro p e s m args below meth c s₁ Bd hml0 hP hK
  obtain ⟨rfl, hZ, hh⟩ := hP
  have hx := Bd.exec
  have hby := Bd.bytes
  have hlk := BodyLoose.notSynchronized Bd
  have hret := Bd.returns
  have hml : c.maxLocals = 1 := hml0
  have hown : s.vm.findClass "com/example/coterie/coterie/message/LamportClock" = some m.cls := findClass_of_methodNamed Bd.named
  have hnm := (name_of_methodNamed Bd.named Bd.method).1
  have X : Stand p l e ({ frames := 0, cells := 0, slots := 0, locals := 0 } : Room) s m #[(.ref a1)] below meth c s₁ [] 0 0 := Stand.of_body Bd
  have eT : s₁.heap = h0 := by rw [← hh, Bd.state]; rfl
  have N := Fr.nil n0
  have K0 : Keep h0 h0 [a1] := Keep.refl _ _
  show own_Go p e below s (Q_tick Z a1 t h0 n0) ({ frames := 0, cells := 0, slots := 0, locals := 0 } : Room).cells ({ frames := 0, cells := 0, slots := 0, locals := 0 } : Room).slots s₁ (entryFrame m #[(.ref a1)] 1)
  rw [ef_tick m a1]
  refine own_st (T' := s₁) (g' := (mkF m 1 #[.val (.ref a1)] [(.ref a1)])) (fun _ zq => XS.aloadN X.here hx rfl (hb hby own_d_prog_63_m2_0) rfl rfl zq) ?_
  refine own_st (T' := s₁) (g' := (mkF m 2 #[.val (.ref a1)] [(.ref a1), (.ref a1)])) (fun _ zq => XS.dup X.here hx rfl (hb hby own_d_prog_63_m2_1) rfl rfl zq) ?_
  obtain ⟨T2, X2, e2, st2⟩ := getF X hx hZ hown (host := "") (Or.inl (hw _ (List.mem_of_getElem? (i := 14) rfl))) Via.refl eT F_a1 (g := (mkF m 2 #[.val (.ref a1)] [(.ref a1), (.ref a1)])) rfl rfl (hb hby own_d_prog_63_m2_2)
  refine own_st (g' := (mkF m 5 #[.val (.ref a1)] [(.long t), (.ref a1)])) st2 ?_
  refine own_st (T' := T2) (g' := (mkF m 6 #[.val (.ref a1)] [(.long (1 : Int64)), (.long t), (.ref a1)])) (fun _ zq => XS.lconst X2.here hx rfl (hb hby own_d_prog_63_m2_5) zq) ?_
  refine own_st (T' := T2) (g' := (mkF m 7 #[.val (.ref a1)] [(.long (t + (1 : Int64))), (.ref a1)])) (fun _ zq => XS.ladd X2.here hx rfl (hb hby own_d_prog_63_m2_6) rfl zq) ?_
  obtain ⟨T3, h3, X3, e3, W3, st3⟩ := putF X2 hx hZ hown (host := "") (Or.inl (hw _ (List.mem_of_getElem? (i := 14) rfl))) Via.refl e2 F_a1 E_a1 (Or.inl (hw _ (List.mem_of_getElem? (i := 15) rfl))) (hw _ (List.mem_of_getElem? (i := 1) rfl)) (ty := .long) (by decide) rfl rfl (g := (mkF m 7 #[.val (.ref a1)] [(.long (t + (1 : Int64))), (.ref a1)])) rfl rfl (hb hby own_d_prog_63_m2_7)
  replace E_a1 := E_a1.wr W3
  replace F_a1 := F_a1.same W3
  replace Zs := Nat.le_trans Zs (Keep.of_wr W3).1
  replace K0 := K0.wr W3 (Or.inl (List.mem_of_getElem? (i := 0) rfl))
  replace N := Fr.snoc X3 N g_a1
  refine own_st (g' := (mkF m 10 #[.val (.ref a1)] [])) st3 ?_
  refine own_st (T' := T3) (g' := (mkF m 11 #[.val (.ref a1)] [(.ref a1)])) (fun _ zq => XS.aloadN X3.here hx rfl (hb hby own_d_prog_63_m2_10) rfl rfl zq) ?_
  obtain ⟨T4, X4, e4, st4⟩ := getF X3 hx hZ hown (host := "") (Or.inl (hw _ (List.mem_of_getElem? (i := 14) rfl))) Via.refl e3 F_a1 (g := (mkF m 11 #[.val (.ref a1)] [(.ref a1)])) rfl rfl (hb hby own_d_prog_63_m2_11)
  refine own_st (g' := (mkF m 14 #[.val (.ref a1)] [(.long (t + (1 : Int64)))])) st4 ?_
  exact own_ret X4 hx hret hlk (i := .lreturn) rfl (Or.inr (Or.inl ⟨rfl, rfl, _, rfl⟩)) (hb hby own_d_prog_63_m2_14) e4 (Nat.le_of_ble_eq_true rfl) (Nat.le_of_ble_eq_true rfl) ⟨rfl, N, K0, E_a1, F_a1⟩
def Q_witness (Z : State) (a1 : Addr) (t : Int64) (q : Int64) (h0 : Heap) (n0 : Nat) (v : Option Value) (h : Heap) (L : List Loc) : Prop := v = some (.long ((if t < q then q else t) + 1)) ∧ Fr n0 L ∧ (Keep h0 h [a1]) ∧ (Exa Z h a1 "com/example/coterie/coterie/message/LamportClock") ∧ (Fld Z h a1 "com/example/coterie/coterie/message/LamportClock" "time" "J" (.long ((if t < q then q else t) + 1)))
theorem ef_witness (m : MethodId) (x0 : Addr) (x1 : Int64)  : entryFrame m #[(.ref x0), (.long x1)] 3 = mkF m 0 #[.val (.ref x0), .val (.long x1), .second] [] := by first | (simp [entryFrame, mkF, argsToLocals, Value.category]; done) | rfl
set_option maxRecDepth 65536 in
set_option maxHeartbeats 40000000 in
theorem rm_witness (l : Launch) (Z : State) (a0 : Array Value) (hw : ∀ d ∈ tables_1, d.before a0 Z = true) (ws : List Jvm.Cond) (a1 : Addr) (t : Int64) (q : Int64) (h0 : Heap) (n0 : Nat) (Zs : n0 ≤ h0.size) (E_a1 : Exa Z h0 a1 "com/example/coterie/coterie/message/LamportClock") (F_a1 : Fld Z h0 a1 "com/example/coterie/coterie/message/LamportClock" "time" "J" (.long t)) (g_a1 : n0 ≤ a1) :
    MetFree l (⟨"com/example/coterie/coterie/message/LamportClock", "witness", "(J)J"⟩ : MethodName) (head1 (Jvm.Cond.code (⟨"com/example/coterie/coterie/message/LamportClock", "witness", "(J)J"⟩ : MethodName) prog_63_method_3_code 3 (some .long) :: ws) ({ frames := 1, cells := 0, slots := 0, locals := 16 } : Room)) (fun a U => a = #[(.ref a1), (.long q)] ∧ Z.Warmed39 U.vm ∧ U.heap = h0) (fun _ _ _ _ _ => True) (fun _ U o U' => ∃ v L, o = .returned v ∧ (Q_witness Z a1 t q h0 n0) v U'.heap L ∧ FrameEnd U o U' L ({ frames := 1, cells := 0, slots := 0, locals := 16 } : Room).cells ({ frames := 1, cells := 0, slots := 0, locals := 16 } : Room).slots) := by
  refine MetFree.of_bodySF (plainFor_of_name own_pn0) hisR ?_
  intro p e s m args below meth c s₁ Bd hml0 hP hK
  obtain ⟨rfl, hZ, hh⟩ := hP
  have hx := Bd.exec
  have hby := Bd.bytes
  have hlk := BodyLoose.notSynchronized Bd
  have hret := Bd.returns
  have hml : c.maxLocals = 3 := hml0
  have hown : s.vm.findClass "com/example/coterie/coterie/message/LamportClock" = some m.cls := findClass_of_methodNamed Bd.named
  have hnm := (name_of_methodNamed Bd.named Bd.method).1
  have X : Stand p l e ({ frames := 1, cells := 0, slots := 0, locals := 16 } : Room) s m #[(.ref a1), (.long q)] below meth c s₁ [] 0 0 := Stand.of_body Bd
  have eT : s₁.heap = h0 := by rw [← hh, Bd.state]; rfl
  have N := Fr.nil n0
  have K0 : Keep h0 h0 [a1] := Keep.refl _ _
  show own_Go p e below s (Q_witness Z a1 t q h0 n0) ({ frames := 1, cells := 0, slots := 0, locals := 16 } : Room).cells ({ frames := 1, cells := 0, slots := 0, locals := 16 } : Room).slots s₁ (entryFrame m #[(.ref a1), (.long q)] 3)
  rw [ef_witness m a1 q]
  refine own_st (T' := s₁) (g' := (mkF m 1 #[.val (.ref a1), .val (.long q), .second] [(.ref a1)])) (fun _ zq => XS.aloadN X.here hx rfl (hb hby own_d_prog_63_m3_0) rfl rfl zq) ?_
  refine own_st (T' := s₁) (g' := (mkF m 2 #[.val (.ref a1), .val (.long q), .second] [(.ref a1), (.ref a1)])) (fun _ zq => XS.aloadN X.here hx rfl (hb hby own_d_prog_63_m3_1) rfl rfl zq) ?_
  obtain ⟨T5, X5, e5, st5⟩ := getF X hx hZ hown (host := "") (Or.inl (hw _ (List.mem_of_getElem? (i := 14) rfl))) Via.refl eT F_a1 (g := (mkF m 2 #[.val (.ref a1), .val (.long q), .second] [(.ref a1), (.ref a1)])) rfl rfl (hb hby own_d_prog_63_m3_2)
  refine own_st (g' := (mkF m 5 #[.val (.ref a1), .val (.long q), .second] [(.long t), (.ref a1)])) st5 ?_
  refine own_st (T' := T5) (g' := (mkF m 6 #[.val (.ref a1), .val (.long q), .second] [(.long q), (.long t), (.ref a1)])) (fun _ zq => XS.lloadN X5.here hx rfl (hb hby own_d_prog_63_m3_5) rfl zq) ?_
  obtain ⟨_, _, ⟨T6, L6, k6, n6⟩, -, X6, ⟨Lc6, hQ6, l6, y6, z6⟩, st6⟩ := Jvm.LawKit.callS X5 hx (y := (⟨"java/lang/Math", "max", "(JJ)J"⟩ : MethodName)) hown (mvT hZ (hw _ (List.mem_of_getElem? (i := 22) rfl))) (mvT hZ (hw _ (List.mem_of_getElem? (i := 23) rfl))) (mvT hZ (hw _ (List.mem_of_getElem? (i := 24) rfl))) (mvT hZ (hw _ (List.mem_of_getElem? (i := 25) rfl))) (by decide) (backOf (W := 1) (rm_max l Z a0 hw [] t q h0 n0 Zs ) hZ (hw _ (List.mem_of_getElem? (i := 25) rfl)) (hw _ (List.mem_of_getElem? (i := 24) rfl)) (by decide) (by decide)) (g := (mkF m 6 #[.val (.ref a1), .val (.long q), .second] [(.long q), (.long t), (.ref a1)])) rfl (by rw [hml]; rfl) (argsL := [(.long t), (.long q)]) (rest := [(.ref a1)]) (lenOf own_pd0 rfl) rfl (by show 2 * 0 + _ ≤ _; exact Nat.le_of_eq rfl) (hb hby own_d_prog_63_m3_6) (fun _ _ => ⟨rfl, e5, (by decide : 0 + 0 ≤ _), (by decide : 0 + 0 ≤ _)⟩)
  dsimp only [Pt.U, Pt.locs, Pt.cells, Pt.slots] at X6 l6 y6 z6 st6 hQ6
  subst l6 y6 z6
  obtain ⟨rfl, Nq6, eq6⟩ := hQ6
  replace N := Fr.app N Nq6
  refine own_st (g' := (mkF m 9 #[.val (.ref a1), .val (.long q), .second] [(.long (if t < q then q else t)), (.ref a1)])) st6 ?_
  refine own_st (T' := T6) (g' := (mkF m 10 #[.val (.ref a1), .val (.long q), .second] [(.long (1 : Int64)), (.long (if t < q then q else t)), (.ref a1)])) (fun _ zq => XS.lconst X6.here hx rfl (hb hby own_d_prog_63_m3_9) zq) ?_
  refine own_st (T' := T6) (g' := (mkF m 11 #[.val (.ref a1), .val (.long q), .second] [(.long ((if t < q then q else t) + (1 : Int64))), (.ref a1)])) (fun _ zq => XS.ladd X6.here hx rfl (hb hby own_d_prog_63_m3_10) rfl zq) ?_
  obtain ⟨T7, h7, X7, e7, W7, st7⟩ := putF X6 hx hZ hown (host := "") (Or.inl (hw _ (List.mem_of_getElem? (i := 14) rfl))) Via.refl (eq6) F_a1 E_a1 (Or.inl (hw _ (List.mem_of_getElem? (i := 15) rfl))) (hw _ (List.mem_of_getElem? (i := 1) rfl)) (ty := .long) (by decide) rfl rfl (g := (mkF m 11 #[.val (.ref a1), .val (.long q), .second] [(.long ((if t < q then q else t) + (1 : Int64))), (.ref a1)])) rfl rfl (hb hby own_d_prog_63_m3_11)
  replace E_a1 := E_a1.wr W7
  replace F_a1 := F_a1.same W7
  replace Zs := Nat.le_trans Zs (Keep.of_wr W7).1
  replace K0 := K0.wr W7 (Or.inl (List.mem_of_getElem? (i := 0) rfl))
  replace N := Fr.snoc X7 N g_a1
  refine own_st (g' := (mkF m 14 #[.val (.ref a1), .val (.long q), .second] [])) st7 ?_
  refine own_st (T' := T7) (g' := (mkF m 15 #[.val (.ref a1), .val (.long q), .second] [(.ref a1)])) (fun _ zq => XS.aloadN X7.here hx rfl (hb hby own_d_prog_63_m3_14) rfl rfl zq) ?_
  obtain ⟨T8, X8, e8, st8⟩ := getF X7 hx hZ hown (host := "") (Or.inl (hw _ (List.mem_of_getElem? (i := 14) rfl))) Via.refl e7 F_a1 (g := (mkF m 15 #[.val (.ref a1), .val (.long q), .second] [(.ref a1)])) rfl rfl (hb hby own_d_prog_63_m3_15)
  refine own_st (g' := (mkF m 18 #[.val (.ref a1), .val (.long q), .second] [(.long ((if t < q then q else t) + (1 : Int64)))])) st8 ?_
  exact own_ret X8 hx hret hlk (i := .lreturn) rfl (Or.inr (Or.inl ⟨rfl, rfl, _, rfl⟩)) (hb hby own_d_prog_63_m3_18) e8 (Nat.le_of_ble_eq_true rfl) (Nat.le_of_ble_eq_true rfl) ⟨rfl, N, K0, E_a1, F_a1⟩
def Q_law (Z : State) (s1 : Int64) (md : Int32) (h0 : Heap) (n0 : Nat) (v : Option Value) (h : Heap) (L : List Loc) : Prop := v = some (.int 1) ∧ Fr n0 L
theorem ef_law (m : MethodId) (x0 : Int64) (x1 : Int32)  : entryFrame m #[(.long x0), (.int x1)] maxLocals = mkF m 0 #[.val (.long x0), .second, .val (.int x1), .unset, .unset, .unset, .unset, .unset, .unset, .unset, .unset, .unset, .unset, .unset] [] := by first | (simp [entryFrame, mkF, argsToLocals, Value.category, maxLocals]; done) | rfl
set_option maxRecDepth 65536 in
set_option maxHeartbeats 40000000 in
theorem rm_law (l : Launch) (Z : State) (a0 : Array Value) (hw : ∀ d ∈ tables_1, d.before a0 Z = true) (ws : List Jvm.Cond) (s1 : Int64) (md : Int32) (h0 : Heap) (n0 : Nat) (Zs : n0 ≤ h0.size)  :
    MetFree l x (head1 (Jvm.Cond.code x code maxLocals ret :: ws) room_1) (fun a U => a = #[(.long s1), (.int md)] ∧ Z.Warmed39 U.vm ∧ U.heap = h0) (fun _ _ _ _ _ => True) (fun _ U o U' => ∃ v L, o = .returned v ∧ (Q_law Z s1 md h0 n0) v U'.heap L ∧ FrameEnd U o U' L 16 128) := by
  refine MetFree.of_bodySF (plainFor_of_name own_pn1) hisR ?_
  intro p e s m args below meth c s₁ Bd hml0 hP hK
  obtain ⟨rfl, hZ, hh⟩ := hP
  have hx := Bd.exec
  have hby := Bd.bytes
  have hlk := BodyLoose.notSynchronized Bd
  have hret := Bd.returns
  have hml : c.maxLocals = 14 := hml0
  have hown : s.vm.findClass "com/example/coterie/coterie/message/LamportClockTickPinLaw" = some m.cls := findClass_of_methodNamed Bd.named
  have hnm := (name_of_methodNamed Bd.named Bd.method).1
  have X : Stand p l e room_1 s m #[(.long s1), (.int md)] below meth c s₁ [] 0 0 := Stand.of_body Bd
  have eT : s₁.heap = h0 := by rw [← hh, Bd.state]; rfl
  have N := Fr.nil n0
  have K0 : Keep h0 h0 [] := Keep.refl _ _
  show own_Go p e below s (Q_law Z s1 md h0 n0) 16 128 s₁ (entryFrame m #[(.long s1), (.int md)] maxLocals)
  rw [ef_law m s1 md]
  obtain ⟨T9, h9, X9, e9, E9, A9, D9, -, st9⟩ := newO X hx hZ hown (hw _ (List.mem_of_getElem? (i := 0) rfl)) (hw _ (List.mem_of_getElem? (i := 1) rfl)) (hw _ (List.mem_of_getElem? (i := 2) rfl)) eT (g := (mkF m 0 #[.val (.long s1), .second, .val (.int md), .unset, .unset, .unset, .unset, .unset, .unset, .unset, .unset, .unset, .unset, .unset] [])) rfl (hb hby at_0) (by decide) (by decide)
  obtain ⟨b9, ga9⟩ : ∃ z, z = h0.size := ⟨_, rfl⟩
  rw [← ga9] at A9 D9 st9
  have g_b9 : n0 ≤ b9 := Nat.le_trans Zs (Nat.le_of_eq ga9.symm)
  have E_b9 := A9
  replace Zs := Nat.le_trans Zs E9.1
  have F_b9_time : Fld Z h9 b9 "com/example/coterie/coterie/message/LamportClock" "time" "J" (.long (0 : Int64)) := D9 (Or.inl (hw _ (List.mem_of_getElem? (i := 15) rfl))) (ty := .long) (by decide)
  refine own_st (g' := (mkF m 3 #[.val (.long s1), .second, .val (.int md), .unset, .unset, .unset, .unset, .unset, .unset, .unset, .unset, .unset, .unset, .unset] [(.ref b9)])) st9 ?_
  refine own_st (T' := T9) (g' := (mkF m 4 #[.val (.long s1), .second, .val (.int md), .unset, .unset, .unset, .unset, .unset, .unset, .unset, .unset, .unset, .unset, .unset] [(.ref b9), (.ref b9)])) (fun _ zq => XS.dup X9.here hx rfl (hb hby at_3) rfl rfl zq) ?_
  obtain ⟨_, _, ⟨T10, L10, k10, n10⟩, -, X10, ⟨Lc10, hQ10, l10, y10, z10⟩, st10⟩ := X9.specialBack hx (y := (⟨"com/example/coterie/coterie/message/LamportClock", "<init>", "()V"⟩ : MethodName)) rfl hown (mvT hZ (hw _ (List.mem_of_getElem? (i := 3) rfl))) (mvT hZ (hw _ (List.mem_of_getElem? (i := 4) rfl))) (mvT hZ (hw _ (List.mem_of_getElem? (i := 5) rfl))) (by decide) (backOf (W := 1) (rm_init l Z a0 hw [] b9 h9 n0 Zs ) hZ (hw _ (List.mem_of_getElem? (i := 5) rfl)) (hw _ (List.mem_of_getElem? (i := 2) rfl)) (by decide) (by decide)) (g := (mkF m 4 #[.val (.long s1), .second, .val (.int md), .unset, .unset, .unset, .unset, .unset, .unset, .unset, .unset, .unset, .unset, .unset] [(.ref b9), (.ref b9)])) rfl (by rw [hml]; rfl) (Steps.refl _) (a := b9) (argsL := []) (rest := [(.ref b9)]) (lenOf own_pd1 rfl) rfl (by show 2 * 0 + _ ≤ _; exact Nat.le_of_eq rfl) (hb hby at_4) (fun _ _ => ⟨rfl, e9, (by decide : 1 + 0 ≤ _), (by decide : 1 + 0 ≤ _)⟩)
  dsimp only [Pt.U, Pt.locs, Pt.cells, Pt.slots] at X10 l10 y10 z10 st10 hQ10
  subst l10 y10 z10
  obtain ⟨rfl, Nq10, eq10⟩ := hQ10
  replace N := Fr.app N Nq10
  refine own_tr (g' := (mkF m 7 #[.val (.long s1), .second, .val (.int md), .unset, .unset, .unset, .unset, .unset, .unset, .unset, .unset, .unset, .unset, .unset] [(.ref b9)])) st10 ?_
  refine own_st (T' := T10) (g' := (mkF m 8 #[.val (.long s1), .second, .val (.int md), .val (.ref b9), .unset, .unset, .unset, .unset, .unset, .unset, .unset, .unset, .unset, .unset] [])) (fun _ zq => XS.astoreN X10.here hx rfl (hb hby at_7) rfl rfl (l' := #[.val (.long s1), .second, .val (.int md), .val (.ref b9), .unset, .unset, .unset, .unset, .unset, .unset, .unset, .unset, .unset, .unset]) rfl zq) ?_
  refine own_st (T' := T10) (g' := (mkF m 9 #[.val (.long s1), .second, .val (.int md), .val (.ref b9), .unset, .unset, .unset, .unset, .unset, .unset, .unset, .unset, .unset, .unset] [(.int md)])) (fun _ zq => XS.iloadN X10.here hx rfl (hb hby at_8) rfl zq) ?_
  refine own_st (T' := T10) (g' := (mkF m 10 #[.val (.long s1), .second, .val (.int md), .val (.ref b9), .unset, .unset, .unset, .unset, .unset, .unset, .unset, .unset, .unset, .unset] [(.int (1 : Int32)), (.int md)])) (fun _ zq => XS.iconst X10.here hx rfl (hb hby at_9) zq) ?_
  refine own_st (T' := T10) (g' := (mkF m 11 #[.val (.long s1), .second, .val (.int md), .val (.ref b9), .unset, .unset, .unset, .unset, .unset, .unset, .unset, .unset, .unset, .unset] [(.int (md &&& (1 : Int32)))])) (fun _ zq => XS.iand X10.here hx rfl (hb hby at_10) rfl zq) ?_
  suffices J19 : ∀ (z4 : Int32), own_Go p e below s (Q_law Z s1 md h0 n0) 16 128 T10 (mkF m 19 #[.val (.long s1), .second, .val (.int md), .val (.ref b9), .unset, .unset, .unset, .unset, .unset, .unset, .unset, .unset, .unset, .unset] [(.int z4)]) by
    by_cases hm : (md &&& (1 : Int32)) = (0 : Int32)
    · skip
      refine own_st (T' := T10) (g' := (mkF m 18 #[.val (.long s1), .second, .val (.int md), .val (.ref b9), .unset, .unset, .unset, .unset, .unset, .unset, .unset, .unset, .unset, .unset] [])) (fun _ zq => XS.ifYes X10.here hx rfl (pc0 := 11) (pc' := 18) rfl (hb hby at_11) rfl ((if0 _ _).trans (teq hm).1) (by decide) (by decide) zq) ?_
      refine own_st (T' := T10) (g' := (mkF m 19 #[.val (.long s1), .second, .val (.int md), .val (.ref b9), .unset, .unset, .unset, .unset, .unset, .unset, .unset, .unset, .unset, .unset] [(.int (0 : Int32))])) (fun _ zq => XS.iconst X10.here hx rfl (hb hby at_18) zq) ?_
      exact J19 _
    · skip
      refine own_st (T' := T10) (g' := (mkF m 14 #[.val (.long s1), .second, .val (.int md), .val (.ref b9), .unset, .unset, .unset, .unset, .unset, .unset, .unset, .unset, .unset, .unset] [])) (fun _ zq => XS.ifNo X10.here hx rfl (hb hby at_11) rfl ((if0 _ _).trans (feq hm).1) zq) ?_
      refine own_st (T' := T10) (g' := (mkF m 15 #[.val (.long s1), .second, .val (.int md), .val (.ref b9), .unset, .unset, .unset, .unset, .unset, .unset, .unset, .unset, .unset, .unset] [(.int (1 : Int32))])) (fun _ zq => XS.iconst X10.here hx rfl (hb hby at_14) zq) ?_
      refine own_st (T' := T10) (g' := (mkF m 19 #[.val (.long s1), .second, .val (.int md), .val (.ref b9), .unset, .unset, .unset, .unset, .unset, .unset, .unset, .unset, .unset, .unset] [(.int (1 : Int32))])) (fun _ zq => XS.goto X10.here hx rfl (pc0 := 15) (pc' := 19) rfl (hb hby at_15) (by decide) (by decide) zq) ?_
      exact J19 _
  intro z4
  refine own_st (T' := T10) (g' := (mkF m 21 #[.val (.long s1), .second, .val (.int md), .val (.ref b9), .val (.int z4), .unset, .unset, .unset, .unset, .unset, .unset, .unset, .unset, .unset] [])) (fun _ zq => XS.istore X10.here hx rfl (hb hby at_19) rfl (l' := #[.val (.long s1), .second, .val (.int md), .val (.ref b9), .val (.int z4), .unset, .unset, .unset, .unset, .unset, .unset, .unset, .unset, .unset]) rfl zq) ?_
  refine own_st (T' := T10) (g' := (mkF m 22 #[.val (.long s1), .second, .val (.int md), .val (.ref b9), .val (.int z4), .unset, .unset, .unset, .unset, .unset, .unset, .unset, .unset, .unset] [(.long (0 : Int64))])) (fun _ zq => XS.lconst X10.here hx rfl (hb hby at_21) zq) ?_
  refine own_st (T' := T10) (g' := (mkF m 24 #[.val (.long s1), .second, .val (.int md), .val (.ref b9), .val (.int z4), .val (.long (0 : Int64)), .second, .unset, .unset, .unset, .unset, .unset, .unset, .unset] [])) (fun _ zq => XS.lstore X10.here hx rfl (hb hby at_22) rfl (l' := #[.val (.long s1), .second, .val (.int md), .val (.ref b9), .val (.int z4), .val (.long (0 : Int64)), .second, .unset, .unset, .unset, .unset, .unset, .unset, .unset]) rfl zq) ?_
  refine own_st (T' := T10) (g' := (mkF m 25 #[.val (.long s1), .second, .val (.int md), .val (.ref b9), .val (.int z4), .val (.long (0 : Int64)), .second, .unset, .unset, .unset, .unset, .unset, .unset, .unset] [(.int (1 : Int32))])) (fun _ zq => XS.iconst X10.here hx rfl (hb hby at_24) zq) ?_
  refine own_st (T' := T10) (g' := (mkF m 27 #[.val (.long s1), .second, .val (.int md), .val (.ref b9), .val (.int z4), .val (.long (0 : Int64)), .second, .val (.int (1 : Int32)), .unset, .unset, .unset, .unset, .unset, .unset] [])) (fun _ zq => XS.istore X10.here hx rfl (hb hby at_25) rfl (l' := #[.val (.long s1), .second, .val (.int md), .val (.ref b9), .val (.int z4), .val (.long (0 : Int64)), .second, .val (.int (1 : Int32)), .unset, .unset, .unset, .unset, .unset, .unset]) rfl zq) ?_
  refine own_st (T' := T10) (g' := (mkF m 29 #[.val (.long s1), .second, .val (.int md), .val (.ref b9), .val (.int z4), .val (.long (0 : Int64)), .second, .val (.int (1 : Int32)), .unset, .unset, .unset, .unset, .unset, .unset] [(.int z4)])) (fun _ zq => XS.iload X10.here hx rfl (hb hby at_27) rfl zq) ?_
  by_cases hz : z4 = (0 : Int32)
  · skip
    refine own_st (T' := T10) (g' := (mkF m 63 #[.val (.long s1), .second, .val (.int md), .val (.ref b9), .val (.int z4), .val (.long (0 : Int64)), .second, .val (.int (1 : Int32)), .unset, .unset, .unset, .unset, .unset, .unset] [])) (fun _ zq => XS.ifYes X10.here hx rfl (pc0 := 29) (pc' := 63) rfl (hb hby at_29) rfl ((if0 _ _).trans (teq hz).1) (by decide) (by decide) zq) ?_
    refine own_st (T' := T10) (g' := (mkF m 64 #[.val (.long s1), .second, .val (.int md), .val (.ref b9), .val (.int z4), .val (.long (0 : Int64)), .second, .val (.int (1 : Int32)), .unset, .unset, .unset, .unset, .unset, .unset] [(.ref b9)])) (fun _ zq => XS.aloadN X10.here hx rfl (hb hby at_63) rfl rfl zq) ?_
    obtain ⟨cq11, kq11, q11a, q11b, q11c⟩ := isOf hZ (eq10) E_b9
    obtain ⟨_, _, ⟨T11, L11, k11, n11⟩, -, X11, ⟨Lc11, hQ11, l11, y11, z11⟩, st11⟩ := X10.virtualBack hx (y := (⟨"com/example/coterie/coterie/message/LamportClock", "tick", "()J"⟩ : MethodName)) (z := (⟨"com/example/coterie/coterie/message/LamportClock", "tick", "()J"⟩ : MethodName)) hown (mvT hZ (hw _ (List.mem_of_getElem? (i := 9) rfl))) (mvT hZ (hw _ (List.mem_of_getElem? (i := 10) rfl))) (notFace_of_selects (args := #[]) (mvT hZ (hw _ (List.mem_of_getElem? (i := 12) rfl)))) (mvT hZ (hw _ (List.mem_of_getElem? (i := 12) rfl))) (mvT hZ (hw _ (List.mem_of_getElem? (i := 11) rfl))) (by decide) (backOf (W := 0) (rm_tick l Z a0 hw [] b9 (0 : Int64) h9 n0 Zs E_b9 F_b9_time g_b9) hZ (hw _ (List.mem_of_getElem? (i := 13) rfl)) (hw _ (List.mem_of_getElem? (i := 2) rfl)) (by decide) (by decide)) q11a q11c (g := (mkF m 64 #[.val (.long s1), .second, .val (.int md), .val (.ref b9), .val (.int z4), .val (.long (0 : Int64)), .second, .val (.int (1 : Int32)), .unset, .unset, .unset, .unset, .unset, .unset] [(.ref b9)])) rfl (by rw [hml]; rfl) (Steps.refl _) (argsL := []) (rest := []) (lenOf own_pd2 rfl) rfl (by show 2 * 0 + _ ≤ _; exact Nat.le_of_eq rfl) (hb hby at_64) (fun _ _ => ⟨rfl, (eq10), (by decide : 1 + 0 ≤ _), (by decide : 1 + 0 ≤ _)⟩)
    dsimp only [Pt.U, Pt.locs, Pt.cells, Pt.slots] at X11 l11 y11 z11 st11 hQ11
    subst l11 y11 z11
    obtain ⟨rfl, Nq11, Kq11, E_b9, F_b9_time⟩ := hQ11
    replace N := Fr.app N Nq11
    replace Zs := Nat.le_trans Zs Kq11.1
    refine own_tr (g' := (mkF m 67 #[.val (.long s1), .second, .val (.int md), .val (.ref b9), .val (.int z4), .val (.long (0 : Int64)), .second, .val (.int (1 : Int32)), .unset, .unset, .unset, .unset, .unset, .unset] [(.long ((0 : Int64) + 1))])) st11 ?_
    refine own_st (T' := T11) (g' := (mkF m 69 #[.val (.long s1), .second, .val (.int md), .val (.ref b9), .val (.int z4), .val (.long (0 : Int64)), .second, .val (.int (1 : Int32)), .val (.long ((0 : Int64) + 1)), .second, .unset, .unset, .unset, .unset] [])) (fun _ zq => XS.lstore X11.here hx rfl (hb hby at_67) rfl (l' := #[.val (.long s1), .second, .val (.int md), .val (.ref b9), .val (.int z4), .val (.long (0 : Int64)), .second, .val (.int (1 : Int32)), .val (.long ((0 : Int64) + 1)), .second, .unset, .unset, .unset, .unset]) rfl zq) ?_
    refine own_st (T' := T11) (g' := (mkF m 70 #[.val (.long s1), .second, .val (.int md), .val (.ref b9), .val (.int z4), .val (.long (0 : Int64)), .second, .val (.int (1 : Int32)), .val (.long ((0 : Int64) + 1)), .second, .unset, .unset, .unset, .unset] [(.ref b9)])) (fun _ zq => XS.aloadN X11.here hx rfl (hb hby at_69) rfl rfl zq) ?_
    obtain ⟨cq12, kq12, q12a, q12b, q12c⟩ := isOf hZ rfl E_b9
    obtain ⟨_, _, ⟨T12, L12, k12, n12⟩, -, X12, ⟨Lc12, hQ12, l12, y12, z12⟩, st12⟩ := X11.virtualBack hx (y := (⟨"com/example/coterie/coterie/message/LamportClock", "tick", "()J"⟩ : MethodName)) (z := (⟨"com/example/coterie/coterie/message/LamportClock", "tick", "()J"⟩ : MethodName)) hown (mvT hZ (hw _ (List.mem_of_getElem? (i := 9) rfl))) (mvT hZ (hw _ (List.mem_of_getElem? (i := 10) rfl))) (notFace_of_selects (args := #[]) (mvT hZ (hw _ (List.mem_of_getElem? (i := 12) rfl)))) (mvT hZ (hw _ (List.mem_of_getElem? (i := 12) rfl))) (mvT hZ (hw _ (List.mem_of_getElem? (i := 11) rfl))) (by decide) (backOf (W := 0) (rm_tick l Z a0 hw [] b9 ((0 : Int64) + 1) T11.heap n0 Zs E_b9 F_b9_time g_b9) hZ (hw _ (List.mem_of_getElem? (i := 13) rfl)) (hw _ (List.mem_of_getElem? (i := 2) rfl)) (by decide) (by decide)) q12a q12c (g := (mkF m 70 #[.val (.long s1), .second, .val (.int md), .val (.ref b9), .val (.int z4), .val (.long (0 : Int64)), .second, .val (.int (1 : Int32)), .val (.long ((0 : Int64) + 1)), .second, .unset, .unset, .unset, .unset] [(.ref b9)])) rfl (by rw [hml]; rfl) (Steps.refl _) (argsL := []) (rest := []) (lenOf own_pd2 rfl) rfl (by show 2 * 0 + _ ≤ _; exact Nat.le_of_eq rfl) (hb hby at_70) (fun _ _ => ⟨rfl, rfl, (by decide : 1 + 0 ≤ _), (by decide : 1 + 0 ≤ _)⟩)
    dsimp only [Pt.U, Pt.locs, Pt.cells, Pt.slots] at X12 l12 y12 z12 st12 hQ12
    subst l12 y12 z12
    obtain ⟨rfl, Nq12, Kq12, E_b9, F_b9_time⟩ := hQ12
    replace N := Fr.app N Nq12
    replace Zs := Nat.le_trans Zs Kq12.1
    refine own_tr (g' := (mkF m 73 #[.val (.long s1), .second, .val (.int md), .val (.ref b9), .val (.int z4), .val (.long (0 : Int64)), .second, .val (.int (1 : Int32)), .val (.long ((0 : Int64) + 1)), .second, .unset, .unset, .unset, .unset] [(.long (((0 : Int64) + 1) + 1))])) st12 ?_
    refine own_st (T' := T12) (g' := (mkF m 75 #[.val (.long s1), .second, .val (.int md), .val (.ref b9), .val (.int z4), .val (.long (0 : Int64)), .second, .val (.int (1 : Int32)), .val (.long ((0 : Int64) + 1)), .second, .val (.long (((0 : Int64) + 1) + 1)), .second, .unset, .unset] [])) (fun _ zq => XS.lstore X12.here hx rfl (hb hby at_73) rfl (l' := #[.val (.long s1), .second, .val (.int md), .val (.ref b9), .val (.int z4), .val (.long (0 : Int64)), .second, .val (.int (1 : Int32)), .val (.long ((0 : Int64) + 1)), .second, .val (.long (((0 : Int64) + 1) + 1)), .second, .unset, .unset]) rfl zq) ?_
    refine own_st (T' := T12) (g' := (mkF m 76 #[.val (.long s1), .second, .val (.int md), .val (.ref b9), .val (.int z4), .val (.long (0 : Int64)), .second, .val (.int (1 : Int32)), .val (.long ((0 : Int64) + 1)), .second, .val (.long (((0 : Int64) + 1) + 1)), .second, .unset, .unset] [(.ref b9)])) (fun _ zq => XS.aloadN X12.here hx rfl (hb hby at_75) rfl rfl zq) ?_
    refine own_st (T' := T12) (g' := (mkF m 79 #[.val (.long s1), .second, .val (.int md), .val (.ref b9), .val (.int z4), .val (.long (0 : Int64)), .second, .val (.int (1 : Int32)), .val (.long ((0 : Int64) + 1)), .second, .val (.long (((0 : Int64) + 1) + 1)), .second, .unset, .unset] [(.long (-9223372036854775808 : Int64)), (.ref b9)])) (fun _ zq => X12.ldc2Long hx hown (mvT hZ (hw _ (List.mem_of_getElem? (i := 16) rfl))) (g := (mkF m 76 #[.val (.long s1), .second, .val (.int md), .val (.ref b9), .val (.int z4), .val (.long (0 : Int64)), .second, .val (.int (1 : Int32)), .val (.long ((0 : Int64) + 1)), .second, .val (.long (((0 : Int64) + 1) + 1)), .second, .unset, .unset] [(.ref b9)])) rfl (hb hby at_76) _ zq) ?_
    obtain ⟨cq13, kq13, q13a, q13b, q13c⟩ := isOf hZ rfl E_b9
    obtain ⟨_, _, ⟨T13, L13, k13, n13⟩, -, X13, ⟨Lc13, hQ13, l13, y13, z13⟩, st13⟩ := X12.virtualBack hx (y := (⟨"com/example/coterie/coterie/message/LamportClock", "witness", "(J)J"⟩ : MethodName)) (z := (⟨"com/example/coterie/coterie/message/LamportClock", "witness", "(J)J"⟩ : MethodName)) hown (mvT hZ (hw _ (List.mem_of_getElem? (i := 17) rfl))) (mvT hZ (hw _ (List.mem_of_getElem? (i := 18) rfl))) (notFace_of_selects (args := #[]) (mvT hZ (hw _ (List.mem_of_getElem? (i := 20) rfl)))) (mvT hZ (hw _ (List.mem_of_getElem? (i := 20) rfl))) (mvT hZ (hw _ (List.mem_of_getElem? (i := 19) rfl))) (by decide) (backOf (W := 0) (rm_witness l Z a0 hw [] b9 (((0 : Int64) + 1) + 1) (-9223372036854775808 : Int64) T12.heap n0 Zs E_b9 F_b9_time g_b9) hZ (hw _ (List.mem_of_getElem? (i := 21) rfl)) (hw _ (List.mem_of_getElem? (i := 2) rfl)) (by decide) (by decide)) q13a q13c (g := (mkF m 79 #[.val (.long s1), .second, .val (.int md), .val (.ref b9), .val (.int z4), .val (.long (0 : Int64)), .second, .val (.int (1 : Int32)), .val (.long ((0 : Int64) + 1)), .second, .val (.long (((0 : Int64) + 1) + 1)), .second, .unset, .unset] [(.long (-9223372036854775808 : Int64)), (.ref b9)])) rfl (by rw [hml]; rfl) (Steps.refl _) (argsL := [(.long (-9223372036854775808 : Int64))]) (rest := []) (lenOf own_pd3 rfl) rfl (by show 2 * 0 + _ ≤ _; exact Nat.le_of_eq rfl) (hb hby at_79) (fun _ _ => ⟨rfl, rfl, (by decide : 1 + 0 ≤ _), (by decide : 1 + 0 ≤ _)⟩)
    dsimp only [Pt.U, Pt.locs, Pt.cells, Pt.slots] at X13 l13 y13 z13 st13 hQ13
    subst l13 y13 z13
    obtain ⟨rfl, Nq13, Kq13, E_b9, F_b9_time⟩ := hQ13
    replace N := Fr.app N Nq13
    replace Zs := Nat.le_trans Zs Kq13.1
    refine own_tr (g' := (mkF m 82 #[.val (.long s1), .second, .val (.int md), .val (.ref b9), .val (.int z4), .val (.long (0 : Int64)), .second, .val (.int (1 : Int32)), .val (.long ((0 : Int64) + 1)), .second, .val (.long (((0 : Int64) + 1) + 1)), .second, .unset, .unset] [(.long ((if (((0 : Int64) + 1) + 1) < (-9223372036854775808 : Int64) then (-9223372036854775808 : Int64) else (((0 : Int64) + 1) + 1)) + 1))])) st13 ?_
    refine own_st (T' := T13) (g' := (mkF m 84 #[.val (.long s1), .second, .val (.int md), .val (.ref b9), .val (.int z4), .val (.long (0 : Int64)), .second, .val (.int (1 : Int32)), .val (.long ((0 : Int64) + 1)), .second, .val (.long (((0 : Int64) + 1) + 1)), .second, .val (.long ((if (((0 : Int64) + 1) + 1) < (-9223372036854775808 : Int64) then (-9223372036854775808 : Int64) else (((0 : Int64) + 1) + 1)) + 1)), .second] [])) (fun _ zq => XS.lstore X13.here hx rfl (hb hby at_82) rfl (l' := #[.val (.long s1), .second, .val (.int md), .val (.ref b9), .val (.int z4), .val (.long (0 : Int64)), .second, .val (.int (1 : Int32)), .val (.long ((0 : Int64) + 1)), .second, .val (.long (((0 : Int64) + 1) + 1)), .second, .val (.long ((if (((0 : Int64) + 1) + 1) < (-9223372036854775808 : Int64) then (-9223372036854775808 : Int64) else (((0 : Int64) + 1) + 1)) + 1)), .second]) rfl zq) ?_
    refine own_st (T' := T13) (g' := (mkF m 86 #[.val (.long s1), .second, .val (.int md), .val (.ref b9), .val (.int z4), .val (.long (0 : Int64)), .second, .val (.int (1 : Int32)), .val (.long ((0 : Int64) + 1)), .second, .val (.long (((0 : Int64) + 1) + 1)), .second, .val (.long ((if (((0 : Int64) + 1) + 1) < (-9223372036854775808 : Int64) then (-9223372036854775808 : Int64) else (((0 : Int64) + 1) + 1)) + 1)), .second] [(.int (1 : Int32))])) (fun _ zq => XS.iload X13.here hx rfl (hb hby at_84) rfl zq) ?_
    refine own_st (T' := T13) (g' := (mkF m 89 #[.val (.long s1), .second, .val (.int md), .val (.ref b9), .val (.int z4), .val (.long (0 : Int64)), .second, .val (.int (1 : Int32)), .val (.long ((0 : Int64) + 1)), .second, .val (.long (((0 : Int64) + 1) + 1)), .second, .val (.long ((if (((0 : Int64) + 1) + 1) < (-9223372036854775808 : Int64) then (-9223372036854775808 : Int64) else (((0 : Int64) + 1) + 1)) + 1)), .second] [])) (fun _ zq => XS.ifNo X13.here hx rfl (hb hby at_86) rfl ((if0 _ _).trans (feq (by decide)).1) zq) ?_
    refine own_st (T' := T13) (g' := (mkF m 91 #[.val (.long s1), .second, .val (.int md), .val (.ref b9), .val (.int z4), .val (.long (0 : Int64)), .second, .val (.int (1 : Int32)), .val (.long ((0 : Int64) + 1)), .second, .val (.long (((0 : Int64) + 1) + 1)), .second, .val (.long ((if (((0 : Int64) + 1) + 1) < (-9223372036854775808 : Int64) then (-9223372036854775808 : Int64) else (((0 : Int64) + 1) + 1)) + 1)), .second] [(.long ((0 : Int64) + 1))])) (fun _ zq => XS.lload X13.here hx rfl (hb hby at_89) rfl zq) ?_
    refine own_st (T' := T13) (g' := (mkF m 93 #[.val (.long s1), .second, .val (.int md), .val (.ref b9), .val (.int z4), .val (.long (0 : Int64)), .second, .val (.int (1 : Int32)), .val (.long ((0 : Int64) + 1)), .second, .val (.long (((0 : Int64) + 1) + 1)), .second, .val (.long ((if (((0 : Int64) + 1) + 1) < (-9223372036854775808 : Int64) then (-9223372036854775808 : Int64) else (((0 : Int64) + 1) + 1)) + 1)), .second] [(.long (0 : Int64)), (.long ((0 : Int64) + 1))])) (fun _ zq => XS.lload X13.here hx rfl (hb hby at_91) rfl zq) ?_
    refine own_st (T' := T13) (g' := (mkF m 94 #[.val (.long s1), .second, .val (.int md), .val (.ref b9), .val (.int z4), .val (.long (0 : Int64)), .second, .val (.int (1 : Int32)), .val (.long ((0 : Int64) + 1)), .second, .val (.long (((0 : Int64) + 1) + 1)), .second, .val (.long ((if (((0 : Int64) + 1) + 1) < (-9223372036854775808 : Int64) then (-9223372036854775808 : Int64) else (((0 : Int64) + 1) + 1)) + 1)), .second] [(.long (1 : Int64)), (.long (0 : Int64)), (.long ((0 : Int64) + 1))])) (fun _ zq => XS.lconst X13.here hx rfl (hb hby at_93) zq) ?_
    refine own_st (T' := T13) (g' := (mkF m 95 #[.val (.long s1), .second, .val (.int md), .val (.ref b9), .val (.int z4), .val (.long (0 : Int64)), .second, .val (.int (1 : Int32)), .val (.long ((0 : Int64) + 1)), .second, .val (.long (((0 : Int64) + 1) + 1)), .second, .val (.long ((if (((0 : Int64) + 1) + 1) < (-9223372036854775808 : Int64) then (-9223372036854775808 : Int64) else (((0 : Int64) + 1) + 1)) + 1)), .second] [(.long ((0 : Int64) + (1 : Int64))), (.long ((0 : Int64) + 1))])) (fun _ zq => XS.ladd X13.here hx rfl (hb hby at_94) rfl zq) ?_
    refine own_st (T' := T13) (g' := (mkF m 96 #[.val (.long s1), .second, .val (.int md), .val (.ref b9), .val (.int z4), .val (.long (0 : Int64)), .second, .val (.int (1 : Int32)), .val (.long ((0 : Int64) + 1)), .second, .val (.long (((0 : Int64) + 1) + 1)), .second, .val (.long ((if (((0 : Int64) + 1) + 1) < (-9223372036854775808 : Int64) then (-9223372036854775808 : Int64) else (((0 : Int64) + 1) + 1)) + 1)), .second] [(.int (lcmpW ((0 : Int64) + 1) ((0 : Int64) + (1 : Int64))))])) (fun _ zq => XS.lcmp X13.here hx rfl (hb hby at_95) rfl zq) ?_
    refine own_st (T' := T13) (g' := (mkF m 99 #[.val (.long s1), .second, .val (.int md), .val (.ref b9), .val (.int z4), .val (.long (0 : Int64)), .second, .val (.int (1 : Int32)), .val (.long ((0 : Int64) + 1)), .second, .val (.long (((0 : Int64) + 1) + 1)), .second, .val (.long ((if (((0 : Int64) + 1) + 1) < (-9223372036854775808 : Int64) then (-9223372036854775808 : Int64) else (((0 : Int64) + 1) + 1)) + 1)), .second] [])) (fun _ zq => XS.ifNo X13.here hx rfl (hb hby at_96) rfl (own_lteq rfl).2 zq) ?_
    refine own_st (T' := T13) (g' := (mkF m 101 #[.val (.long s1), .second, .val (.int md), .val (.ref b9), .val (.int z4), .val (.long (0 : Int64)), .second, .val (.int (1 : Int32)), .val (.long ((0 : Int64) + 1)), .second, .val (.long (((0 : Int64) + 1) + 1)), .second, .val (.long ((if (((0 : Int64) + 1) + 1) < (-9223372036854775808 : Int64) then (-9223372036854775808 : Int64) else (((0 : Int64) + 1) + 1)) + 1)), .second] [(.long (((0 : Int64) + 1) + 1))])) (fun _ zq => XS.lload X13.here hx rfl (hb hby at_99) rfl zq) ?_
    refine own_st (T' := T13) (g' := (mkF m 103 #[.val (.long s1), .second, .val (.int md), .val (.ref b9), .val (.int z4), .val (.long (0 : Int64)), .second, .val (.int (1 : Int32)), .val (.long ((0 : Int64) + 1)), .second, .val (.long (((0 : Int64) + 1) + 1)), .second, .val (.long ((if (((0 : Int64) + 1) + 1) < (-9223372036854775808 : Int64) then (-9223372036854775808 : Int64) else (((0 : Int64) + 1) + 1)) + 1)), .second] [(.long ((0 : Int64) + 1)), (.long (((0 : Int64) + 1) + 1))])) (fun _ zq => XS.lload X13.here hx rfl (hb hby at_101) rfl zq) ?_
    refine own_st (T' := T13) (g' := (mkF m 104 #[.val (.long s1), .second, .val (.int md), .val (.ref b9), .val (.int z4), .val (.long (0 : Int64)), .second, .val (.int (1 : Int32)), .val (.long ((0 : Int64) + 1)), .second, .val (.long (((0 : Int64) + 1) + 1)), .second, .val (.long ((if (((0 : Int64) + 1) + 1) < (-9223372036854775808 : Int64) then (-9223372036854775808 : Int64) else (((0 : Int64) + 1) + 1)) + 1)), .second] [(.long (1 : Int64)), (.long ((0 : Int64) + 1)), (.long (((0 : Int64) + 1) + 1))])) (fun _ zq => XS.lconst X13.here hx rfl (hb hby at_103) zq) ?_
    refine own_st (T' := T13) (g' := (mkF m 105 #[.val (.long s1), .second, .val (.int md), .val (.ref b9), .val (.int z4), .val (.long (0 : Int64)), .second, .val (.int (1 : Int32)), .val (.long ((0 : Int64) + 1)), .second, .val (.long (((0 : Int64) + 1) + 1)), .second, .val (.long ((if (((0 : Int64) + 1) + 1) < (-9223372036854775808 : Int64) then (-9223372036854775808 : Int64) else (((0 : Int64) + 1) + 1)) + 1)), .second] [(.long (((0 : Int64) + 1) + (1 : Int64))), (.long (((0 : Int64) + 1) + 1))])) (fun _ zq => XS.ladd X13.here hx rfl (hb hby at_104) rfl zq) ?_
    refine own_st (T' := T13) (g' := (mkF m 106 #[.val (.long s1), .second, .val (.int md), .val (.ref b9), .val (.int z4), .val (.long (0 : Int64)), .second, .val (.int (1 : Int32)), .val (.long ((0 : Int64) + 1)), .second, .val (.long (((0 : Int64) + 1) + 1)), .second, .val (.long ((if (((0 : Int64) + 1) + 1) < (-9223372036854775808 : Int64) then (-9223372036854775808 : Int64) else (((0 : Int64) + 1) + 1)) + 1)), .second] [(.int (lcmpW (((0 : Int64) + 1) + 1) (((0 : Int64) + 1) + (1 : Int64))))])) (fun _ zq => XS.lcmp X13.here hx rfl (hb hby at_105) rfl zq) ?_
    refine own_st (T' := T13) (g' := (mkF m 109 #[.val (.long s1), .second, .val (.int md), .val (.ref b9), .val (.int z4), .val (.long (0 : Int64)), .second, .val (.int (1 : Int32)), .val (.long ((0 : Int64) + 1)), .second, .val (.long (((0 : Int64) + 1) + 1)), .second, .val (.long ((if (((0 : Int64) + 1) + 1) < (-9223372036854775808 : Int64) then (-9223372036854775808 : Int64) else (((0 : Int64) + 1) + 1)) + 1)), .second] [])) (fun _ zq => XS.ifNo X13.here hx rfl (hb hby at_106) rfl (own_lteq rfl).2 zq) ?_
    refine own_st (T' := T13) (g' := (mkF m 111 #[.val (.long s1), .second, .val (.int md), .val (.ref b9), .val (.int z4), .val (.long (0 : Int64)), .second, .val (.int (1 : Int32)), .val (.long ((0 : Int64) + 1)), .second, .val (.long (((0 : Int64) + 1) + 1)), .second, .val (.long ((if (((0 : Int64) + 1) + 1) < (-9223372036854775808 : Int64) then (-9223372036854775808 : Int64) else (((0 : Int64) + 1) + 1)) + 1)), .second] [(.long ((if (((0 : Int64) + 1) + 1) < (-9223372036854775808 : Int64) then (-9223372036854775808 : Int64) else (((0 : Int64) + 1) + 1)) + 1))])) (fun _ zq => XS.lload X13.here hx rfl (hb hby at_109) rfl zq) ?_
    refine own_st (T' := T13) (g' := (mkF m 113 #[.val (.long s1), .second, .val (.int md), .val (.ref b9), .val (.int z4), .val (.long (0 : Int64)), .second, .val (.int (1 : Int32)), .val (.long ((0 : Int64) + 1)), .second, .val (.long (((0 : Int64) + 1) + 1)), .second, .val (.long ((if (((0 : Int64) + 1) + 1) < (-9223372036854775808 : Int64) then (-9223372036854775808 : Int64) else (((0 : Int64) + 1) + 1)) + 1)), .second] [(.long (((0 : Int64) + 1) + 1)), (.long ((if (((0 : Int64) + 1) + 1) < (-9223372036854775808 : Int64) then (-9223372036854775808 : Int64) else (((0 : Int64) + 1) + 1)) + 1))])) (fun _ zq => XS.lload X13.here hx rfl (hb hby at_111) rfl zq) ?_
    refine own_st (T' := T13) (g' := (mkF m 114 #[.val (.long s1), .second, .val (.int md), .val (.ref b9), .val (.int z4), .val (.long (0 : Int64)), .second, .val (.int (1 : Int32)), .val (.long ((0 : Int64) + 1)), .second, .val (.long (((0 : Int64) + 1) + 1)), .second, .val (.long ((if (((0 : Int64) + 1) + 1) < (-9223372036854775808 : Int64) then (-9223372036854775808 : Int64) else (((0 : Int64) + 1) + 1)) + 1)), .second] [(.long (1 : Int64)), (.long (((0 : Int64) + 1) + 1)), (.long ((if (((0 : Int64) + 1) + 1) < (-9223372036854775808 : Int64) then (-9223372036854775808 : Int64) else (((0 : Int64) + 1) + 1)) + 1))])) (fun _ zq => XS.lconst X13.here hx rfl (hb hby at_113) zq) ?_
    refine own_st (T' := T13) (g' := (mkF m 115 #[.val (.long s1), .second, .val (.int md), .val (.ref b9), .val (.int z4), .val (.long (0 : Int64)), .second, .val (.int (1 : Int32)), .val (.long ((0 : Int64) + 1)), .second, .val (.long (((0 : Int64) + 1) + 1)), .second, .val (.long ((if (((0 : Int64) + 1) + 1) < (-9223372036854775808 : Int64) then (-9223372036854775808 : Int64) else (((0 : Int64) + 1) + 1)) + 1)), .second] [(.long ((((0 : Int64) + 1) + 1) + (1 : Int64))), (.long ((if (((0 : Int64) + 1) + 1) < (-9223372036854775808 : Int64) then (-9223372036854775808 : Int64) else (((0 : Int64) + 1) + 1)) + 1))])) (fun _ zq => XS.ladd X13.here hx rfl (hb hby at_114) rfl zq) ?_
    refine own_st (T' := T13) (g' := (mkF m 116 #[.val (.long s1), .second, .val (.int md), .val (.ref b9), .val (.int z4), .val (.long (0 : Int64)), .second, .val (.int (1 : Int32)), .val (.long ((0 : Int64) + 1)), .second, .val (.long (((0 : Int64) + 1) + 1)), .second, .val (.long ((if (((0 : Int64) + 1) + 1) < (-9223372036854775808 : Int64) then (-9223372036854775808 : Int64) else (((0 : Int64) + 1) + 1)) + 1)), .second] [(.int (lcmpW ((if (((0 : Int64) + 1) + 1) < (-9223372036854775808 : Int64) then (-9223372036854775808 : Int64) else (((0 : Int64) + 1) + 1)) + 1) ((((0 : Int64) + 1) + 1) + (1 : Int64))))])) (fun _ zq => XS.lcmp X13.here hx rfl (hb hby at_115) rfl zq) ?_
    refine own_st (T' := T13) (g' := (mkF m 119 #[.val (.long s1), .second, .val (.int md), .val (.ref b9), .val (.int z4), .val (.long (0 : Int64)), .second, .val (.int (1 : Int32)), .val (.long ((0 : Int64) + 1)), .second, .val (.long (((0 : Int64) + 1) + 1)), .second, .val (.long ((if (((0 : Int64) + 1) + 1) < (-9223372036854775808 : Int64) then (-9223372036854775808 : Int64) else (((0 : Int64) + 1) + 1)) + 1)), .second] [])) (fun _ zq => XS.ifNo X13.here hx rfl (hb hby at_116) rfl (own_lteq (by rw [if_neg (own_min _)])).2 zq) ?_
    refine own_st (T' := T13) (g' := (mkF m 120 #[.val (.long s1), .second, .val (.int md), .val (.ref b9), .val (.int z4), .val (.long (0 : Int64)), .second, .val (.int (1 : Int32)), .val (.long ((0 : Int64) + 1)), .second, .val (.long (((0 : Int64) + 1) + 1)), .second, .val (.long ((if (((0 : Int64) + 1) + 1) < (-9223372036854775808 : Int64) then (-9223372036854775808 : Int64) else (((0 : Int64) + 1) + 1)) + 1)), .second] [(.int (1 : Int32))])) (fun _ zq => XS.iconst X13.here hx rfl (hb hby at_119) zq) ?_
    refine own_st (T' := T13) (g' := (mkF m 124 #[.val (.long s1), .second, .val (.int md), .val (.ref b9), .val (.int z4), .val (.long (0 : Int64)), .second, .val (.int (1 : Int32)), .val (.long ((0 : Int64) + 1)), .second, .val (.long (((0 : Int64) + 1) + 1)), .second, .val (.long ((if (((0 : Int64) + 1) + 1) < (-9223372036854775808 : Int64) then (-9223372036854775808 : Int64) else (((0 : Int64) + 1) + 1)) + 1)), .second] [(.int (1 : Int32))])) (fun _ zq => XS.goto X13.here hx rfl (pc0 := 120) (pc' := 124) rfl (hb hby at_120) (by decide) (by decide) zq) ?_
    exact own_ret X13 hx hret hlk (i := .ireturn) rfl (Or.inl ⟨rfl, by decide, _, rfl⟩) (hb hby at_124) rfl (Nat.le_of_ble_eq_true rfl) (Nat.le_of_ble_eq_true rfl) ⟨rfl, N⟩
  · skip
    refine own_st (T' := T10) (g' := (mkF m 32 #[.val (.long s1), .second, .val (.int md), .val (.ref b9), .val (.int z4), .val (.long (0 : Int64)), .second, .val (.int (1 : Int32)), .unset, .unset, .unset, .unset, .unset, .unset] [])) (fun _ zq => XS.ifNo X10.here hx rfl (hb hby at_29) rfl ((if0 _ _).trans (feq hz).1) zq) ?_
    refine own_st (T' := T10) (g' := (mkF m 33 #[.val (.long s1), .second, .val (.int md), .val (.ref b9), .val (.int z4), .val (.long (0 : Int64)), .second, .val (.int (1 : Int32)), .unset, .unset, .unset, .unset, .unset, .unset] [(.ref b9)])) (fun _ zq => XS.aloadN X10.here hx rfl (hb hby at_32) rfl rfl zq) ?_
    refine own_st (T' := T10) (g' := (mkF m 34 #[.val (.long s1), .second, .val (.int md), .val (.ref b9), .val (.int z4), .val (.long (0 : Int64)), .second, .val (.int (1 : Int32)), .unset, .unset, .unset, .unset, .unset, .unset] [(.long s1), (.ref b9)])) (fun _ zq => XS.lloadN X10.here hx rfl (hb hby at_33) rfl zq) ?_
    obtain ⟨cq14, kq14, q14a, q14b, q14c⟩ := isOf hZ (eq10) E_b9
    obtain ⟨_, _, ⟨T14, L14, k14, n14⟩, -, X14, ⟨Lc14, hQ14, l14, y14, z14⟩, st14⟩ := X10.virtualBack hx (y := (⟨"com/example/coterie/coterie/message/LamportClock", "witness", "(J)J"⟩ : MethodName)) (z := (⟨"com/example/coterie/coterie/message/LamportClock", "witness", "(J)J"⟩ : MethodName)) hown (mvT hZ (hw _ (List.mem_of_getElem? (i := 17) rfl))) (mvT hZ (hw _ (List.mem_of_getElem? (i := 18) rfl))) (notFace_of_selects (args := #[]) (mvT hZ (hw _ (List.mem_of_getElem? (i := 20) rfl)))) (mvT hZ (hw _ (List.mem_of_getElem? (i := 20) rfl))) (mvT hZ (hw _ (List.mem_of_getElem? (i := 19) rfl))) (by decide) (backOf (W := 0) (rm_witness l Z a0 hw [] b9 (0 : Int64) s1 h9 n0 Zs E_b9 F_b9_time g_b9) hZ (hw _ (List.mem_of_getElem? (i := 21) rfl)) (hw _ (List.mem_of_getElem? (i := 2) rfl)) (by decide) (by decide)) q14a q14c (g := (mkF m 34 #[.val (.long s1), .second, .val (.int md), .val (.ref b9), .val (.int z4), .val (.long (0 : Int64)), .second, .val (.int (1 : Int32)), .unset, .unset, .unset, .unset, .unset, .unset] [(.long s1), (.ref b9)])) rfl (by rw [hml]; rfl) (Steps.refl _) (argsL := [(.long s1)]) (rest := []) (lenOf own_pd3 rfl) rfl (by show 2 * 0 + _ ≤ _; exact Nat.le_of_eq rfl) (hb hby at_34) (fun _ _ => ⟨rfl, (eq10), (by decide : 1 + 0 ≤ _), (by decide : 1 + 0 ≤ _)⟩)
    dsimp only [Pt.U, Pt.locs, Pt.cells, Pt.slots] at X14 l14 y14 z14 st14 hQ14
    subst l14 y14 z14
    obtain ⟨rfl, Nq14, Kq14, E_b9, F_b9_time⟩ := hQ14
    replace N := Fr.app N Nq14
    replace Zs := Nat.le_trans Zs Kq14.1
    refine own_tr (g' := (mkF m 37 #[.val (.long s1), .second, .val (.int md), .val (.ref b9), .val (.int z4), .val (.long (0 : Int64)), .second, .val (.int (1 : Int32)), .unset, .unset, .unset, .unset, .unset, .unset] [(.long ((if (0 : Int64) < s1 then s1 else (0 : Int64)) + 1))])) st14 ?_
    refine own_st (T' := T14) (g' := (mkF m 39 #[.val (.long s1), .second, .val (.int md), .val (.ref b9), .val (.int z4), .val (.long (0 : Int64)), .second, .val (.int (1 : Int32)), .val (.long ((if (0 : Int64) < s1 then s1 else (0 : Int64)) + 1)), .second, .unset, .unset, .unset, .unset] [])) (fun _ zq => XS.lstore X14.here hx rfl (hb hby at_37) rfl (l' := #[.val (.long s1), .second, .val (.int md), .val (.ref b9), .val (.int z4), .val (.long (0 : Int64)), .second, .val (.int (1 : Int32)), .val (.long ((if (0 : Int64) < s1 then s1 else (0 : Int64)) + 1)), .second, .unset, .unset, .unset, .unset]) rfl zq) ?_
    refine own_st (T' := T14) (g' := (mkF m 41 #[.val (.long s1), .second, .val (.int md), .val (.ref b9), .val (.int z4), .val (.long (0 : Int64)), .second, .val (.int (1 : Int32)), .val (.long ((if (0 : Int64) < s1 then s1 else (0 : Int64)) + 1)), .second, .unset, .unset, .unset, .unset] [(.long ((if (0 : Int64) < s1 then s1 else (0 : Int64)) + 1))])) (fun _ zq => XS.lload X14.here hx rfl (hb hby at_39) rfl zq) ?_
    refine own_st (T' := T14) (g' := (mkF m 42 #[.val (.long s1), .second, .val (.int md), .val (.ref b9), .val (.int z4), .val (.long (0 : Int64)), .second, .val (.int (1 : Int32)), .val (.long ((if (0 : Int64) < s1 then s1 else (0 : Int64)) + 1)), .second, .unset, .unset, .unset, .unset] [(.long (0 : Int64)), (.long ((if (0 : Int64) < s1 then s1 else (0 : Int64)) + 1))])) (fun _ zq => XS.lconst X14.here hx rfl (hb hby at_41) zq) ?_
    refine own_st (T' := T14) (g' := (mkF m 43 #[.val (.long s1), .second, .val (.int md), .val (.ref b9), .val (.int z4), .val (.long (0 : Int64)), .second, .val (.int (1 : Int32)), .val (.long ((if (0 : Int64) < s1 then s1 else (0 : Int64)) + 1)), .second, .unset, .unset, .unset, .unset] [(.long s1), (.long (0 : Int64)), (.long ((if (0 : Int64) < s1 then s1 else (0 : Int64)) + 1))])) (fun _ zq => XS.lloadN X14.here hx rfl (hb hby at_42) rfl zq) ?_
    obtain ⟨_, _, ⟨T15, L15, k15, n15⟩, -, X15, ⟨Lc15, hQ15, l15, y15, z15⟩, st15⟩ := Jvm.LawKit.callS X14 hx (y := (⟨"java/lang/Math", "max", "(JJ)J"⟩ : MethodName)) hown (mvT hZ (hw _ (List.mem_of_getElem? (i := 26) rfl))) (mvT hZ (hw _ (List.mem_of_getElem? (i := 23) rfl))) (mvT hZ (hw _ (List.mem_of_getElem? (i := 24) rfl))) (mvT hZ (hw _ (List.mem_of_getElem? (i := 25) rfl))) (by decide) (backOf (W := 2) (rm_max l Z a0 hw [] (0 : Int64) s1 T14.heap n0 Zs ) hZ (hw _ (List.mem_of_getElem? (i := 25) rfl)) (hw _ (List.mem_of_getElem? (i := 24) rfl)) (by decide) (by decide)) (g := (mkF m 43 #[.val (.long s1), .second, .val (.int md), .val (.ref b9), .val (.int z4), .val (.long (0 : Int64)), .second, .val (.int (1 : Int32)), .val (.long ((if (0 : Int64) < s1 then s1 else (0 : Int64)) + 1)), .second, .unset, .unset, .unset, .unset] [(.long s1), (.long (0 : Int64)), (.long ((if (0 : Int64) < s1 then s1 else (0 : Int64)) + 1))])) rfl (by rw [hml]; rfl) (argsL := [(.long (0 : Int64)), (.long s1)]) (rest := [(.long ((if (0 : Int64) < s1 then s1 else (0 : Int64)) + 1))]) (lenOf own_pd0 rfl) rfl (by show 2 * 0 + _ ≤ _; exact Nat.le_of_eq rfl) (hb hby at_43) (fun _ _ => ⟨rfl, rfl, (by decide : 1 + 0 ≤ _), (by decide : 1 + 0 ≤ _)⟩)
    dsimp only [Pt.U, Pt.locs, Pt.cells, Pt.slots] at X15 l15 y15 z15 st15 hQ15
    subst l15 y15 z15
    obtain ⟨rfl, Nq15, eq15⟩ := hQ15
    replace N := Fr.app N Nq15
    refine own_st (g' := (mkF m 46 #[.val (.long s1), .second, .val (.int md), .val (.ref b9), .val (.int z4), .val (.long (0 : Int64)), .second, .val (.int (1 : Int32)), .val (.long ((if (0 : Int64) < s1 then s1 else (0 : Int64)) + 1)), .second, .unset, .unset, .unset, .unset] [(.long (if (0 : Int64) < s1 then s1 else (0 : Int64))), (.long ((if (0 : Int64) < s1 then s1 else (0 : Int64)) + 1))])) st15 ?_
    refine own_st (T' := T15) (g' := (mkF m 47 #[.val (.long s1), .second, .val (.int md), .val (.ref b9), .val (.int z4), .val (.long (0 : Int64)), .second, .val (.int (1 : Int32)), .val (.long ((if (0 : Int64) < s1 then s1 else (0 : Int64)) + 1)), .second, .unset, .unset, .unset, .unset] [(.long (1 : Int64)), (.long (if (0 : Int64) < s1 then s1 else (0 : Int64))), (.long ((if (0 : Int64) < s1 then s1 else (0 : Int64)) + 1))])) (fun _ zq => XS.lconst X15.here hx rfl (hb hby at_46) zq) ?_
    refine own_st (T' := T15) (g' := (mkF m 48 #[.val (.long s1), .second, .val (.int md), .val (.ref b9), .val (.int z4), .val (.long (0 : Int64)), .second, .val (.int (1 : Int32)), .val (.long ((if (0 : Int64) < s1 then s1 else (0 : Int64)) + 1)), .second, .unset, .unset, .unset, .unset] [(.long ((if (0 : Int64) < s1 then s1 else (0 : Int64)) + (1 : Int64))), (.long ((if (0 : Int64) < s1 then s1 else (0 : Int64)) + 1))])) (fun _ zq => XS.ladd X15.here hx rfl (hb hby at_47) rfl zq) ?_
    refine own_st (T' := T15) (g' := (mkF m 49 #[.val (.long s1), .second, .val (.int md), .val (.ref b9), .val (.int z4), .val (.long (0 : Int64)), .second, .val (.int (1 : Int32)), .val (.long ((if (0 : Int64) < s1 then s1 else (0 : Int64)) + 1)), .second, .unset, .unset, .unset, .unset] [(.int (lcmpW ((if (0 : Int64) < s1 then s1 else (0 : Int64)) + 1) ((if (0 : Int64) < s1 then s1 else (0 : Int64)) + (1 : Int64))))])) (fun _ zq => XS.lcmp X15.here hx rfl (hb hby at_48) rfl zq) ?_
    refine own_st (T' := T15) (g' := (mkF m 52 #[.val (.long s1), .second, .val (.int md), .val (.ref b9), .val (.int z4), .val (.long (0 : Int64)), .second, .val (.int (1 : Int32)), .val (.long ((if (0 : Int64) < s1 then s1 else (0 : Int64)) + 1)), .second, .unset, .unset, .unset, .unset] [])) (fun _ zq => XS.ifNo X15.here hx rfl (hb hby at_49) rfl (own_lteq rfl).2 zq) ?_
    refine own_st (T' := T15) (g' := (mkF m 53 #[.val (.long s1), .second, .val (.int md), .val (.ref b9), .val (.int z4), .val (.long (0 : Int64)), .second, .val (.int (1 : Int32)), .val (.long ((if (0 : Int64) < s1 then s1 else (0 : Int64)) + 1)), .second, .unset, .unset, .unset, .unset] [(.int (1 : Int32))])) (fun _ zq => XS.iconst X15.here hx rfl (hb hby at_52) zq) ?_
    refine own_st (T' := T15) (g' := (mkF m 57 #[.val (.long s1), .second, .val (.int md), .val (.ref b9), .val (.int z4), .val (.long (0 : Int64)), .second, .val (.int (1 : Int32)), .val (.long ((if (0 : Int64) < s1 then s1 else (0 : Int64)) + 1)), .second, .unset, .unset, .unset, .unset] [(.int (1 : Int32))])) (fun _ zq => XS.goto X15.here hx rfl (pc0 := 53) (pc' := 57) rfl (hb hby at_53) (by decide) (by decide) zq) ?_
    refine own_st (T' := T15) (g' := (mkF m 59 #[.val (.long s1), .second, .val (.int md), .val (.ref b9), .val (.int z4), .val (.long (0 : Int64)), .second, .val (.int (1 : Int32)), .val (.long ((if (0 : Int64) < s1 then s1 else (0 : Int64)) + 1)), .second, .unset, .unset, .unset, .unset] [])) (fun _ zq => XS.istore X15.here hx rfl (hb hby at_57) rfl (l' := #[.val (.long s1), .second, .val (.int md), .val (.ref b9), .val (.int z4), .val (.long (0 : Int64)), .second, .val (.int (1 : Int32)), .val (.long ((if (0 : Int64) < s1 then s1 else (0 : Int64)) + 1)), .second, .unset, .unset, .unset, .unset]) rfl zq) ?_
    refine own_st (T' := T15) (g' := (mkF m 61 #[.val (.long s1), .second, .val (.int md), .val (.ref b9), .val (.int z4), .val (.long (0 : Int64)), .second, .val (.int (1 : Int32)), .val (.long ((if (0 : Int64) < s1 then s1 else (0 : Int64)) + 1)), .second, .unset, .unset, .unset, .unset] [(.long ((if (0 : Int64) < s1 then s1 else (0 : Int64)) + 1))])) (fun _ zq => XS.lload X15.here hx rfl (hb hby at_59) rfl zq) ?_
    refine own_st (T' := T15) (g' := (mkF m 63 #[.val (.long s1), .second, .val (.int md), .val (.ref b9), .val (.int z4), .val (.long ((if (0 : Int64) < s1 then s1 else (0 : Int64)) + 1)), .second, .val (.int (1 : Int32)), .val (.long ((if (0 : Int64) < s1 then s1 else (0 : Int64)) + 1)), .second, .unset, .unset, .unset, .unset] [])) (fun _ zq => XS.lstore X15.here hx rfl (hb hby at_61) rfl (l' := #[.val (.long s1), .second, .val (.int md), .val (.ref b9), .val (.int z4), .val (.long ((if (0 : Int64) < s1 then s1 else (0 : Int64)) + 1)), .second, .val (.int (1 : Int32)), .val (.long ((if (0 : Int64) < s1 then s1 else (0 : Int64)) + 1)), .second, .unset, .unset, .unset, .unset]) rfl zq) ?_
    refine own_st (T' := T15) (g' := (mkF m 64 #[.val (.long s1), .second, .val (.int md), .val (.ref b9), .val (.int z4), .val (.long ((if (0 : Int64) < s1 then s1 else (0 : Int64)) + 1)), .second, .val (.int (1 : Int32)), .val (.long ((if (0 : Int64) < s1 then s1 else (0 : Int64)) + 1)), .second, .unset, .unset, .unset, .unset] [(.ref b9)])) (fun _ zq => XS.aloadN X15.here hx rfl (hb hby at_63) rfl rfl zq) ?_
    obtain ⟨cq16, kq16, q16a, q16b, q16c⟩ := isOf hZ (eq15) E_b9
    obtain ⟨_, _, ⟨T16, L16, k16, n16⟩, -, X16, ⟨Lc16, hQ16, l16, y16, z16⟩, st16⟩ := X15.virtualBack hx (y := (⟨"com/example/coterie/coterie/message/LamportClock", "tick", "()J"⟩ : MethodName)) (z := (⟨"com/example/coterie/coterie/message/LamportClock", "tick", "()J"⟩ : MethodName)) hown (mvT hZ (hw _ (List.mem_of_getElem? (i := 9) rfl))) (mvT hZ (hw _ (List.mem_of_getElem? (i := 10) rfl))) (notFace_of_selects (args := #[]) (mvT hZ (hw _ (List.mem_of_getElem? (i := 12) rfl)))) (mvT hZ (hw _ (List.mem_of_getElem? (i := 12) rfl))) (mvT hZ (hw _ (List.mem_of_getElem? (i := 11) rfl))) (by decide) (backOf (W := 0) (rm_tick l Z a0 hw [] b9 ((if (0 : Int64) < s1 then s1 else (0 : Int64)) + 1) T14.heap n0 Zs E_b9 F_b9_time g_b9) hZ (hw _ (List.mem_of_getElem? (i := 13) rfl)) (hw _ (List.mem_of_getElem? (i := 2) rfl)) (by decide) (by decide)) q16a q16c (g := (mkF m 64 #[.val (.long s1), .second, .val (.int md), .val (.ref b9), .val (.int z4), .val (.long ((if (0 : Int64) < s1 then s1 else (0 : Int64)) + 1)), .second, .val (.int (1 : Int32)), .val (.long ((if (0 : Int64) < s1 then s1 else (0 : Int64)) + 1)), .second, .unset, .unset, .unset, .unset] [(.ref b9)])) rfl (by rw [hml]; rfl) (Steps.refl _) (argsL := []) (rest := []) (lenOf own_pd2 rfl) rfl (by show 2 * 0 + _ ≤ _; exact Nat.le_of_eq rfl) (hb hby at_64) (fun _ _ => ⟨rfl, (eq15), (by decide : 1 + 0 ≤ _), (by decide : 1 + 0 ≤ _)⟩)
    dsimp only [Pt.U, Pt.locs, Pt.cells, Pt.slots] at X16 l16 y16 z16 st16 hQ16
    subst l16 y16 z16
    obtain ⟨rfl, Nq16, Kq16, E_b9, F_b9_time⟩ := hQ16
    replace N := Fr.app N Nq16
    replace Zs := Nat.le_trans Zs Kq16.1
    refine own_tr (g' := (mkF m 67 #[.val (.long s1), .second, .val (.int md), .val (.ref b9), .val (.int z4), .val (.long ((if (0 : Int64) < s1 then s1 else (0 : Int64)) + 1)), .second, .val (.int (1 : Int32)), .val (.long ((if (0 : Int64) < s1 then s1 else (0 : Int64)) + 1)), .second, .unset, .unset, .unset, .unset] [(.long (((if (0 : Int64) < s1 then s1 else (0 : Int64)) + 1) + 1))])) st16 ?_
    refine own_st (T' := T16) (g' := (mkF m 69 #[.val (.long s1), .second, .val (.int md), .val (.ref b9), .val (.int z4), .val (.long ((if (0 : Int64) < s1 then s1 else (0 : Int64)) + 1)), .second, .val (.int (1 : Int32)), .val (.long (((if (0 : Int64) < s1 then s1 else (0 : Int64)) + 1) + 1)), .second, .unset, .unset, .unset, .unset] [])) (fun _ zq => XS.lstore X16.here hx rfl (hb hby at_67) rfl (l' := #[.val (.long s1), .second, .val (.int md), .val (.ref b9), .val (.int z4), .val (.long ((if (0 : Int64) < s1 then s1 else (0 : Int64)) + 1)), .second, .val (.int (1 : Int32)), .val (.long (((if (0 : Int64) < s1 then s1 else (0 : Int64)) + 1) + 1)), .second, .unset, .unset, .unset, .unset]) rfl zq) ?_
    refine own_st (T' := T16) (g' := (mkF m 70 #[.val (.long s1), .second, .val (.int md), .val (.ref b9), .val (.int z4), .val (.long ((if (0 : Int64) < s1 then s1 else (0 : Int64)) + 1)), .second, .val (.int (1 : Int32)), .val (.long (((if (0 : Int64) < s1 then s1 else (0 : Int64)) + 1) + 1)), .second, .unset, .unset, .unset, .unset] [(.ref b9)])) (fun _ zq => XS.aloadN X16.here hx rfl (hb hby at_69) rfl rfl zq) ?_
    obtain ⟨cq17, kq17, q17a, q17b, q17c⟩ := isOf hZ rfl E_b9
    obtain ⟨_, _, ⟨T17, L17, k17, n17⟩, -, X17, ⟨Lc17, hQ17, l17, y17, z17⟩, st17⟩ := X16.virtualBack hx (y := (⟨"com/example/coterie/coterie/message/LamportClock", "tick", "()J"⟩ : MethodName)) (z := (⟨"com/example/coterie/coterie/message/LamportClock", "tick", "()J"⟩ : MethodName)) hown (mvT hZ (hw _ (List.mem_of_getElem? (i := 9) rfl))) (mvT hZ (hw _ (List.mem_of_getElem? (i := 10) rfl))) (notFace_of_selects (args := #[]) (mvT hZ (hw _ (List.mem_of_getElem? (i := 12) rfl)))) (mvT hZ (hw _ (List.mem_of_getElem? (i := 12) rfl))) (mvT hZ (hw _ (List.mem_of_getElem? (i := 11) rfl))) (by decide) (backOf (W := 0) (rm_tick l Z a0 hw [] b9 (((if (0 : Int64) < s1 then s1 else (0 : Int64)) + 1) + 1) T16.heap n0 Zs E_b9 F_b9_time g_b9) hZ (hw _ (List.mem_of_getElem? (i := 13) rfl)) (hw _ (List.mem_of_getElem? (i := 2) rfl)) (by decide) (by decide)) q17a q17c (g := (mkF m 70 #[.val (.long s1), .second, .val (.int md), .val (.ref b9), .val (.int z4), .val (.long ((if (0 : Int64) < s1 then s1 else (0 : Int64)) + 1)), .second, .val (.int (1 : Int32)), .val (.long (((if (0 : Int64) < s1 then s1 else (0 : Int64)) + 1) + 1)), .second, .unset, .unset, .unset, .unset] [(.ref b9)])) rfl (by rw [hml]; rfl) (Steps.refl _) (argsL := []) (rest := []) (lenOf own_pd2 rfl) rfl (by show 2 * 0 + _ ≤ _; exact Nat.le_of_eq rfl) (hb hby at_70) (fun _ _ => ⟨rfl, rfl, (by decide : 1 + 0 ≤ _), (by decide : 1 + 0 ≤ _)⟩)
    dsimp only [Pt.U, Pt.locs, Pt.cells, Pt.slots] at X17 l17 y17 z17 st17 hQ17
    subst l17 y17 z17
    obtain ⟨rfl, Nq17, Kq17, E_b9, F_b9_time⟩ := hQ17
    replace N := Fr.app N Nq17
    replace Zs := Nat.le_trans Zs Kq17.1
    refine own_tr (g' := (mkF m 73 #[.val (.long s1), .second, .val (.int md), .val (.ref b9), .val (.int z4), .val (.long ((if (0 : Int64) < s1 then s1 else (0 : Int64)) + 1)), .second, .val (.int (1 : Int32)), .val (.long (((if (0 : Int64) < s1 then s1 else (0 : Int64)) + 1) + 1)), .second, .unset, .unset, .unset, .unset] [(.long ((((if (0 : Int64) < s1 then s1 else (0 : Int64)) + 1) + 1) + 1))])) st17 ?_
    refine own_st (T' := T17) (g' := (mkF m 75 #[.val (.long s1), .second, .val (.int md), .val (.ref b9), .val (.int z4), .val (.long ((if (0 : Int64) < s1 then s1 else (0 : Int64)) + 1)), .second, .val (.int (1 : Int32)), .val (.long (((if (0 : Int64) < s1 then s1 else (0 : Int64)) + 1) + 1)), .second, .val (.long ((((if (0 : Int64) < s1 then s1 else (0 : Int64)) + 1) + 1) + 1)), .second, .unset, .unset] [])) (fun _ zq => XS.lstore X17.here hx rfl (hb hby at_73) rfl (l' := #[.val (.long s1), .second, .val (.int md), .val (.ref b9), .val (.int z4), .val (.long ((if (0 : Int64) < s1 then s1 else (0 : Int64)) + 1)), .second, .val (.int (1 : Int32)), .val (.long (((if (0 : Int64) < s1 then s1 else (0 : Int64)) + 1) + 1)), .second, .val (.long ((((if (0 : Int64) < s1 then s1 else (0 : Int64)) + 1) + 1) + 1)), .second, .unset, .unset]) rfl zq) ?_
    refine own_st (T' := T17) (g' := (mkF m 76 #[.val (.long s1), .second, .val (.int md), .val (.ref b9), .val (.int z4), .val (.long ((if (0 : Int64) < s1 then s1 else (0 : Int64)) + 1)), .second, .val (.int (1 : Int32)), .val (.long (((if (0 : Int64) < s1 then s1 else (0 : Int64)) + 1) + 1)), .second, .val (.long ((((if (0 : Int64) < s1 then s1 else (0 : Int64)) + 1) + 1) + 1)), .second, .unset, .unset] [(.ref b9)])) (fun _ zq => XS.aloadN X17.here hx rfl (hb hby at_75) rfl rfl zq) ?_
    refine own_st (T' := T17) (g' := (mkF m 79 #[.val (.long s1), .second, .val (.int md), .val (.ref b9), .val (.int z4), .val (.long ((if (0 : Int64) < s1 then s1 else (0 : Int64)) + 1)), .second, .val (.int (1 : Int32)), .val (.long (((if (0 : Int64) < s1 then s1 else (0 : Int64)) + 1) + 1)), .second, .val (.long ((((if (0 : Int64) < s1 then s1 else (0 : Int64)) + 1) + 1) + 1)), .second, .unset, .unset] [(.long (-9223372036854775808 : Int64)), (.ref b9)])) (fun _ zq => X17.ldc2Long hx hown (mvT hZ (hw _ (List.mem_of_getElem? (i := 16) rfl))) (g := (mkF m 76 #[.val (.long s1), .second, .val (.int md), .val (.ref b9), .val (.int z4), .val (.long ((if (0 : Int64) < s1 then s1 else (0 : Int64)) + 1)), .second, .val (.int (1 : Int32)), .val (.long (((if (0 : Int64) < s1 then s1 else (0 : Int64)) + 1) + 1)), .second, .val (.long ((((if (0 : Int64) < s1 then s1 else (0 : Int64)) + 1) + 1) + 1)), .second, .unset, .unset] [(.ref b9)])) rfl (hb hby at_76) _ zq) ?_
    obtain ⟨cq18, kq18, q18a, q18b, q18c⟩ := isOf hZ rfl E_b9
    obtain ⟨_, _, ⟨T18, L18, k18, n18⟩, -, X18, ⟨Lc18, hQ18, l18, y18, z18⟩, st18⟩ := X17.virtualBack hx (y := (⟨"com/example/coterie/coterie/message/LamportClock", "witness", "(J)J"⟩ : MethodName)) (z := (⟨"com/example/coterie/coterie/message/LamportClock", "witness", "(J)J"⟩ : MethodName)) hown (mvT hZ (hw _ (List.mem_of_getElem? (i := 17) rfl))) (mvT hZ (hw _ (List.mem_of_getElem? (i := 18) rfl))) (notFace_of_selects (args := #[]) (mvT hZ (hw _ (List.mem_of_getElem? (i := 20) rfl)))) (mvT hZ (hw _ (List.mem_of_getElem? (i := 20) rfl))) (mvT hZ (hw _ (List.mem_of_getElem? (i := 19) rfl))) (by decide) (backOf (W := 0) (rm_witness l Z a0 hw [] b9 ((((if (0 : Int64) < s1 then s1 else (0 : Int64)) + 1) + 1) + 1) (-9223372036854775808 : Int64) T17.heap n0 Zs E_b9 F_b9_time g_b9) hZ (hw _ (List.mem_of_getElem? (i := 21) rfl)) (hw _ (List.mem_of_getElem? (i := 2) rfl)) (by decide) (by decide)) q18a q18c (g := (mkF m 79 #[.val (.long s1), .second, .val (.int md), .val (.ref b9), .val (.int z4), .val (.long ((if (0 : Int64) < s1 then s1 else (0 : Int64)) + 1)), .second, .val (.int (1 : Int32)), .val (.long (((if (0 : Int64) < s1 then s1 else (0 : Int64)) + 1) + 1)), .second, .val (.long ((((if (0 : Int64) < s1 then s1 else (0 : Int64)) + 1) + 1) + 1)), .second, .unset, .unset] [(.long (-9223372036854775808 : Int64)), (.ref b9)])) rfl (by rw [hml]; rfl) (Steps.refl _) (argsL := [(.long (-9223372036854775808 : Int64))]) (rest := []) (lenOf own_pd3 rfl) rfl (by show 2 * 0 + _ ≤ _; exact Nat.le_of_eq rfl) (hb hby at_79) (fun _ _ => ⟨rfl, rfl, (by decide : 1 + 0 ≤ _), (by decide : 1 + 0 ≤ _)⟩)
    dsimp only [Pt.U, Pt.locs, Pt.cells, Pt.slots] at X18 l18 y18 z18 st18 hQ18
    subst l18 y18 z18
    obtain ⟨rfl, Nq18, Kq18, E_b9, F_b9_time⟩ := hQ18
    replace N := Fr.app N Nq18
    replace Zs := Nat.le_trans Zs Kq18.1
    refine own_tr (g' := (mkF m 82 #[.val (.long s1), .second, .val (.int md), .val (.ref b9), .val (.int z4), .val (.long ((if (0 : Int64) < s1 then s1 else (0 : Int64)) + 1)), .second, .val (.int (1 : Int32)), .val (.long (((if (0 : Int64) < s1 then s1 else (0 : Int64)) + 1) + 1)), .second, .val (.long ((((if (0 : Int64) < s1 then s1 else (0 : Int64)) + 1) + 1) + 1)), .second, .unset, .unset] [(.long ((if ((((if (0 : Int64) < s1 then s1 else (0 : Int64)) + 1) + 1) + 1) < (-9223372036854775808 : Int64) then (-9223372036854775808 : Int64) else ((((if (0 : Int64) < s1 then s1 else (0 : Int64)) + 1) + 1) + 1)) + 1))])) st18 ?_
    refine own_st (T' := T18) (g' := (mkF m 84 #[.val (.long s1), .second, .val (.int md), .val (.ref b9), .val (.int z4), .val (.long ((if (0 : Int64) < s1 then s1 else (0 : Int64)) + 1)), .second, .val (.int (1 : Int32)), .val (.long (((if (0 : Int64) < s1 then s1 else (0 : Int64)) + 1) + 1)), .second, .val (.long ((((if (0 : Int64) < s1 then s1 else (0 : Int64)) + 1) + 1) + 1)), .second, .val (.long ((if ((((if (0 : Int64) < s1 then s1 else (0 : Int64)) + 1) + 1) + 1) < (-9223372036854775808 : Int64) then (-9223372036854775808 : Int64) else ((((if (0 : Int64) < s1 then s1 else (0 : Int64)) + 1) + 1) + 1)) + 1)), .second] [])) (fun _ zq => XS.lstore X18.here hx rfl (hb hby at_82) rfl (l' := #[.val (.long s1), .second, .val (.int md), .val (.ref b9), .val (.int z4), .val (.long ((if (0 : Int64) < s1 then s1 else (0 : Int64)) + 1)), .second, .val (.int (1 : Int32)), .val (.long (((if (0 : Int64) < s1 then s1 else (0 : Int64)) + 1) + 1)), .second, .val (.long ((((if (0 : Int64) < s1 then s1 else (0 : Int64)) + 1) + 1) + 1)), .second, .val (.long ((if ((((if (0 : Int64) < s1 then s1 else (0 : Int64)) + 1) + 1) + 1) < (-9223372036854775808 : Int64) then (-9223372036854775808 : Int64) else ((((if (0 : Int64) < s1 then s1 else (0 : Int64)) + 1) + 1) + 1)) + 1)), .second]) rfl zq) ?_
    refine own_st (T' := T18) (g' := (mkF m 86 #[.val (.long s1), .second, .val (.int md), .val (.ref b9), .val (.int z4), .val (.long ((if (0 : Int64) < s1 then s1 else (0 : Int64)) + 1)), .second, .val (.int (1 : Int32)), .val (.long (((if (0 : Int64) < s1 then s1 else (0 : Int64)) + 1) + 1)), .second, .val (.long ((((if (0 : Int64) < s1 then s1 else (0 : Int64)) + 1) + 1) + 1)), .second, .val (.long ((if ((((if (0 : Int64) < s1 then s1 else (0 : Int64)) + 1) + 1) + 1) < (-9223372036854775808 : Int64) then (-9223372036854775808 : Int64) else ((((if (0 : Int64) < s1 then s1 else (0 : Int64)) + 1) + 1) + 1)) + 1)), .second] [(.int (1 : Int32))])) (fun _ zq => XS.iload X18.here hx rfl (hb hby at_84) rfl zq) ?_
    refine own_st (T' := T18) (g' := (mkF m 89 #[.val (.long s1), .second, .val (.int md), .val (.ref b9), .val (.int z4), .val (.long ((if (0 : Int64) < s1 then s1 else (0 : Int64)) + 1)), .second, .val (.int (1 : Int32)), .val (.long (((if (0 : Int64) < s1 then s1 else (0 : Int64)) + 1) + 1)), .second, .val (.long ((((if (0 : Int64) < s1 then s1 else (0 : Int64)) + 1) + 1) + 1)), .second, .val (.long ((if ((((if (0 : Int64) < s1 then s1 else (0 : Int64)) + 1) + 1) + 1) < (-9223372036854775808 : Int64) then (-9223372036854775808 : Int64) else ((((if (0 : Int64) < s1 then s1 else (0 : Int64)) + 1) + 1) + 1)) + 1)), .second] [])) (fun _ zq => XS.ifNo X18.here hx rfl (hb hby at_86) rfl ((if0 _ _).trans (feq (by decide)).1) zq) ?_
    refine own_st (T' := T18) (g' := (mkF m 91 #[.val (.long s1), .second, .val (.int md), .val (.ref b9), .val (.int z4), .val (.long ((if (0 : Int64) < s1 then s1 else (0 : Int64)) + 1)), .second, .val (.int (1 : Int32)), .val (.long (((if (0 : Int64) < s1 then s1 else (0 : Int64)) + 1) + 1)), .second, .val (.long ((((if (0 : Int64) < s1 then s1 else (0 : Int64)) + 1) + 1) + 1)), .second, .val (.long ((if ((((if (0 : Int64) < s1 then s1 else (0 : Int64)) + 1) + 1) + 1) < (-9223372036854775808 : Int64) then (-9223372036854775808 : Int64) else ((((if (0 : Int64) < s1 then s1 else (0 : Int64)) + 1) + 1) + 1)) + 1)), .second] [(.long (((if (0 : Int64) < s1 then s1 else (0 : Int64)) + 1) + 1))])) (fun _ zq => XS.lload X18.here hx rfl (hb hby at_89) rfl zq) ?_
    refine own_st (T' := T18) (g' := (mkF m 93 #[.val (.long s1), .second, .val (.int md), .val (.ref b9), .val (.int z4), .val (.long ((if (0 : Int64) < s1 then s1 else (0 : Int64)) + 1)), .second, .val (.int (1 : Int32)), .val (.long (((if (0 : Int64) < s1 then s1 else (0 : Int64)) + 1) + 1)), .second, .val (.long ((((if (0 : Int64) < s1 then s1 else (0 : Int64)) + 1) + 1) + 1)), .second, .val (.long ((if ((((if (0 : Int64) < s1 then s1 else (0 : Int64)) + 1) + 1) + 1) < (-9223372036854775808 : Int64) then (-9223372036854775808 : Int64) else ((((if (0 : Int64) < s1 then s1 else (0 : Int64)) + 1) + 1) + 1)) + 1)), .second] [(.long ((if (0 : Int64) < s1 then s1 else (0 : Int64)) + 1)), (.long (((if (0 : Int64) < s1 then s1 else (0 : Int64)) + 1) + 1))])) (fun _ zq => XS.lload X18.here hx rfl (hb hby at_91) rfl zq) ?_
    refine own_st (T' := T18) (g' := (mkF m 94 #[.val (.long s1), .second, .val (.int md), .val (.ref b9), .val (.int z4), .val (.long ((if (0 : Int64) < s1 then s1 else (0 : Int64)) + 1)), .second, .val (.int (1 : Int32)), .val (.long (((if (0 : Int64) < s1 then s1 else (0 : Int64)) + 1) + 1)), .second, .val (.long ((((if (0 : Int64) < s1 then s1 else (0 : Int64)) + 1) + 1) + 1)), .second, .val (.long ((if ((((if (0 : Int64) < s1 then s1 else (0 : Int64)) + 1) + 1) + 1) < (-9223372036854775808 : Int64) then (-9223372036854775808 : Int64) else ((((if (0 : Int64) < s1 then s1 else (0 : Int64)) + 1) + 1) + 1)) + 1)), .second] [(.long (1 : Int64)), (.long ((if (0 : Int64) < s1 then s1 else (0 : Int64)) + 1)), (.long (((if (0 : Int64) < s1 then s1 else (0 : Int64)) + 1) + 1))])) (fun _ zq => XS.lconst X18.here hx rfl (hb hby at_93) zq) ?_
    refine own_st (T' := T18) (g' := (mkF m 95 #[.val (.long s1), .second, .val (.int md), .val (.ref b9), .val (.int z4), .val (.long ((if (0 : Int64) < s1 then s1 else (0 : Int64)) + 1)), .second, .val (.int (1 : Int32)), .val (.long (((if (0 : Int64) < s1 then s1 else (0 : Int64)) + 1) + 1)), .second, .val (.long ((((if (0 : Int64) < s1 then s1 else (0 : Int64)) + 1) + 1) + 1)), .second, .val (.long ((if ((((if (0 : Int64) < s1 then s1 else (0 : Int64)) + 1) + 1) + 1) < (-9223372036854775808 : Int64) then (-9223372036854775808 : Int64) else ((((if (0 : Int64) < s1 then s1 else (0 : Int64)) + 1) + 1) + 1)) + 1)), .second] [(.long (((if (0 : Int64) < s1 then s1 else (0 : Int64)) + 1) + (1 : Int64))), (.long (((if (0 : Int64) < s1 then s1 else (0 : Int64)) + 1) + 1))])) (fun _ zq => XS.ladd X18.here hx rfl (hb hby at_94) rfl zq) ?_
    refine own_st (T' := T18) (g' := (mkF m 96 #[.val (.long s1), .second, .val (.int md), .val (.ref b9), .val (.int z4), .val (.long ((if (0 : Int64) < s1 then s1 else (0 : Int64)) + 1)), .second, .val (.int (1 : Int32)), .val (.long (((if (0 : Int64) < s1 then s1 else (0 : Int64)) + 1) + 1)), .second, .val (.long ((((if (0 : Int64) < s1 then s1 else (0 : Int64)) + 1) + 1) + 1)), .second, .val (.long ((if ((((if (0 : Int64) < s1 then s1 else (0 : Int64)) + 1) + 1) + 1) < (-9223372036854775808 : Int64) then (-9223372036854775808 : Int64) else ((((if (0 : Int64) < s1 then s1 else (0 : Int64)) + 1) + 1) + 1)) + 1)), .second] [(.int (lcmpW (((if (0 : Int64) < s1 then s1 else (0 : Int64)) + 1) + 1) (((if (0 : Int64) < s1 then s1 else (0 : Int64)) + 1) + (1 : Int64))))])) (fun _ zq => XS.lcmp X18.here hx rfl (hb hby at_95) rfl zq) ?_
    refine own_st (T' := T18) (g' := (mkF m 99 #[.val (.long s1), .second, .val (.int md), .val (.ref b9), .val (.int z4), .val (.long ((if (0 : Int64) < s1 then s1 else (0 : Int64)) + 1)), .second, .val (.int (1 : Int32)), .val (.long (((if (0 : Int64) < s1 then s1 else (0 : Int64)) + 1) + 1)), .second, .val (.long ((((if (0 : Int64) < s1 then s1 else (0 : Int64)) + 1) + 1) + 1)), .second, .val (.long ((if ((((if (0 : Int64) < s1 then s1 else (0 : Int64)) + 1) + 1) + 1) < (-9223372036854775808 : Int64) then (-9223372036854775808 : Int64) else ((((if (0 : Int64) < s1 then s1 else (0 : Int64)) + 1) + 1) + 1)) + 1)), .second] [])) (fun _ zq => XS.ifNo X18.here hx rfl (hb hby at_96) rfl (own_lteq rfl).2 zq) ?_
    refine own_st (T' := T18) (g' := (mkF m 101 #[.val (.long s1), .second, .val (.int md), .val (.ref b9), .val (.int z4), .val (.long ((if (0 : Int64) < s1 then s1 else (0 : Int64)) + 1)), .second, .val (.int (1 : Int32)), .val (.long (((if (0 : Int64) < s1 then s1 else (0 : Int64)) + 1) + 1)), .second, .val (.long ((((if (0 : Int64) < s1 then s1 else (0 : Int64)) + 1) + 1) + 1)), .second, .val (.long ((if ((((if (0 : Int64) < s1 then s1 else (0 : Int64)) + 1) + 1) + 1) < (-9223372036854775808 : Int64) then (-9223372036854775808 : Int64) else ((((if (0 : Int64) < s1 then s1 else (0 : Int64)) + 1) + 1) + 1)) + 1)), .second] [(.long ((((if (0 : Int64) < s1 then s1 else (0 : Int64)) + 1) + 1) + 1))])) (fun _ zq => XS.lload X18.here hx rfl (hb hby at_99) rfl zq) ?_
    refine own_st (T' := T18) (g' := (mkF m 103 #[.val (.long s1), .second, .val (.int md), .val (.ref b9), .val (.int z4), .val (.long ((if (0 : Int64) < s1 then s1 else (0 : Int64)) + 1)), .second, .val (.int (1 : Int32)), .val (.long (((if (0 : Int64) < s1 then s1 else (0 : Int64)) + 1) + 1)), .second, .val (.long ((((if (0 : Int64) < s1 then s1 else (0 : Int64)) + 1) + 1) + 1)), .second, .val (.long ((if ((((if (0 : Int64) < s1 then s1 else (0 : Int64)) + 1) + 1) + 1) < (-9223372036854775808 : Int64) then (-9223372036854775808 : Int64) else ((((if (0 : Int64) < s1 then s1 else (0 : Int64)) + 1) + 1) + 1)) + 1)), .second] [(.long (((if (0 : Int64) < s1 then s1 else (0 : Int64)) + 1) + 1)), (.long ((((if (0 : Int64) < s1 then s1 else (0 : Int64)) + 1) + 1) + 1))])) (fun _ zq => XS.lload X18.here hx rfl (hb hby at_101) rfl zq) ?_
    refine own_st (T' := T18) (g' := (mkF m 104 #[.val (.long s1), .second, .val (.int md), .val (.ref b9), .val (.int z4), .val (.long ((if (0 : Int64) < s1 then s1 else (0 : Int64)) + 1)), .second, .val (.int (1 : Int32)), .val (.long (((if (0 : Int64) < s1 then s1 else (0 : Int64)) + 1) + 1)), .second, .val (.long ((((if (0 : Int64) < s1 then s1 else (0 : Int64)) + 1) + 1) + 1)), .second, .val (.long ((if ((((if (0 : Int64) < s1 then s1 else (0 : Int64)) + 1) + 1) + 1) < (-9223372036854775808 : Int64) then (-9223372036854775808 : Int64) else ((((if (0 : Int64) < s1 then s1 else (0 : Int64)) + 1) + 1) + 1)) + 1)), .second] [(.long (1 : Int64)), (.long (((if (0 : Int64) < s1 then s1 else (0 : Int64)) + 1) + 1)), (.long ((((if (0 : Int64) < s1 then s1 else (0 : Int64)) + 1) + 1) + 1))])) (fun _ zq => XS.lconst X18.here hx rfl (hb hby at_103) zq) ?_
    refine own_st (T' := T18) (g' := (mkF m 105 #[.val (.long s1), .second, .val (.int md), .val (.ref b9), .val (.int z4), .val (.long ((if (0 : Int64) < s1 then s1 else (0 : Int64)) + 1)), .second, .val (.int (1 : Int32)), .val (.long (((if (0 : Int64) < s1 then s1 else (0 : Int64)) + 1) + 1)), .second, .val (.long ((((if (0 : Int64) < s1 then s1 else (0 : Int64)) + 1) + 1) + 1)), .second, .val (.long ((if ((((if (0 : Int64) < s1 then s1 else (0 : Int64)) + 1) + 1) + 1) < (-9223372036854775808 : Int64) then (-9223372036854775808 : Int64) else ((((if (0 : Int64) < s1 then s1 else (0 : Int64)) + 1) + 1) + 1)) + 1)), .second] [(.long ((((if (0 : Int64) < s1 then s1 else (0 : Int64)) + 1) + 1) + (1 : Int64))), (.long ((((if (0 : Int64) < s1 then s1 else (0 : Int64)) + 1) + 1) + 1))])) (fun _ zq => XS.ladd X18.here hx rfl (hb hby at_104) rfl zq) ?_
    refine own_st (T' := T18) (g' := (mkF m 106 #[.val (.long s1), .second, .val (.int md), .val (.ref b9), .val (.int z4), .val (.long ((if (0 : Int64) < s1 then s1 else (0 : Int64)) + 1)), .second, .val (.int (1 : Int32)), .val (.long (((if (0 : Int64) < s1 then s1 else (0 : Int64)) + 1) + 1)), .second, .val (.long ((((if (0 : Int64) < s1 then s1 else (0 : Int64)) + 1) + 1) + 1)), .second, .val (.long ((if ((((if (0 : Int64) < s1 then s1 else (0 : Int64)) + 1) + 1) + 1) < (-9223372036854775808 : Int64) then (-9223372036854775808 : Int64) else ((((if (0 : Int64) < s1 then s1 else (0 : Int64)) + 1) + 1) + 1)) + 1)), .second] [(.int (lcmpW ((((if (0 : Int64) < s1 then s1 else (0 : Int64)) + 1) + 1) + 1) ((((if (0 : Int64) < s1 then s1 else (0 : Int64)) + 1) + 1) + (1 : Int64))))])) (fun _ zq => XS.lcmp X18.here hx rfl (hb hby at_105) rfl zq) ?_
    refine own_st (T' := T18) (g' := (mkF m 109 #[.val (.long s1), .second, .val (.int md), .val (.ref b9), .val (.int z4), .val (.long ((if (0 : Int64) < s1 then s1 else (0 : Int64)) + 1)), .second, .val (.int (1 : Int32)), .val (.long (((if (0 : Int64) < s1 then s1 else (0 : Int64)) + 1) + 1)), .second, .val (.long ((((if (0 : Int64) < s1 then s1 else (0 : Int64)) + 1) + 1) + 1)), .second, .val (.long ((if ((((if (0 : Int64) < s1 then s1 else (0 : Int64)) + 1) + 1) + 1) < (-9223372036854775808 : Int64) then (-9223372036854775808 : Int64) else ((((if (0 : Int64) < s1 then s1 else (0 : Int64)) + 1) + 1) + 1)) + 1)), .second] [])) (fun _ zq => XS.ifNo X18.here hx rfl (hb hby at_106) rfl (own_lteq rfl).2 zq) ?_
    refine own_st (T' := T18) (g' := (mkF m 111 #[.val (.long s1), .second, .val (.int md), .val (.ref b9), .val (.int z4), .val (.long ((if (0 : Int64) < s1 then s1 else (0 : Int64)) + 1)), .second, .val (.int (1 : Int32)), .val (.long (((if (0 : Int64) < s1 then s1 else (0 : Int64)) + 1) + 1)), .second, .val (.long ((((if (0 : Int64) < s1 then s1 else (0 : Int64)) + 1) + 1) + 1)), .second, .val (.long ((if ((((if (0 : Int64) < s1 then s1 else (0 : Int64)) + 1) + 1) + 1) < (-9223372036854775808 : Int64) then (-9223372036854775808 : Int64) else ((((if (0 : Int64) < s1 then s1 else (0 : Int64)) + 1) + 1) + 1)) + 1)), .second] [(.long ((if ((((if (0 : Int64) < s1 then s1 else (0 : Int64)) + 1) + 1) + 1) < (-9223372036854775808 : Int64) then (-9223372036854775808 : Int64) else ((((if (0 : Int64) < s1 then s1 else (0 : Int64)) + 1) + 1) + 1)) + 1))])) (fun _ zq => XS.lload X18.here hx rfl (hb hby at_109) rfl zq) ?_
    refine own_st (T' := T18) (g' := (mkF m 113 #[.val (.long s1), .second, .val (.int md), .val (.ref b9), .val (.int z4), .val (.long ((if (0 : Int64) < s1 then s1 else (0 : Int64)) + 1)), .second, .val (.int (1 : Int32)), .val (.long (((if (0 : Int64) < s1 then s1 else (0 : Int64)) + 1) + 1)), .second, .val (.long ((((if (0 : Int64) < s1 then s1 else (0 : Int64)) + 1) + 1) + 1)), .second, .val (.long ((if ((((if (0 : Int64) < s1 then s1 else (0 : Int64)) + 1) + 1) + 1) < (-9223372036854775808 : Int64) then (-9223372036854775808 : Int64) else ((((if (0 : Int64) < s1 then s1 else (0 : Int64)) + 1) + 1) + 1)) + 1)), .second] [(.long ((((if (0 : Int64) < s1 then s1 else (0 : Int64)) + 1) + 1) + 1)), (.long ((if ((((if (0 : Int64) < s1 then s1 else (0 : Int64)) + 1) + 1) + 1) < (-9223372036854775808 : Int64) then (-9223372036854775808 : Int64) else ((((if (0 : Int64) < s1 then s1 else (0 : Int64)) + 1) + 1) + 1)) + 1))])) (fun _ zq => XS.lload X18.here hx rfl (hb hby at_111) rfl zq) ?_
    refine own_st (T' := T18) (g' := (mkF m 114 #[.val (.long s1), .second, .val (.int md), .val (.ref b9), .val (.int z4), .val (.long ((if (0 : Int64) < s1 then s1 else (0 : Int64)) + 1)), .second, .val (.int (1 : Int32)), .val (.long (((if (0 : Int64) < s1 then s1 else (0 : Int64)) + 1) + 1)), .second, .val (.long ((((if (0 : Int64) < s1 then s1 else (0 : Int64)) + 1) + 1) + 1)), .second, .val (.long ((if ((((if (0 : Int64) < s1 then s1 else (0 : Int64)) + 1) + 1) + 1) < (-9223372036854775808 : Int64) then (-9223372036854775808 : Int64) else ((((if (0 : Int64) < s1 then s1 else (0 : Int64)) + 1) + 1) + 1)) + 1)), .second] [(.long (1 : Int64)), (.long ((((if (0 : Int64) < s1 then s1 else (0 : Int64)) + 1) + 1) + 1)), (.long ((if ((((if (0 : Int64) < s1 then s1 else (0 : Int64)) + 1) + 1) + 1) < (-9223372036854775808 : Int64) then (-9223372036854775808 : Int64) else ((((if (0 : Int64) < s1 then s1 else (0 : Int64)) + 1) + 1) + 1)) + 1))])) (fun _ zq => XS.lconst X18.here hx rfl (hb hby at_113) zq) ?_
    refine own_st (T' := T18) (g' := (mkF m 115 #[.val (.long s1), .second, .val (.int md), .val (.ref b9), .val (.int z4), .val (.long ((if (0 : Int64) < s1 then s1 else (0 : Int64)) + 1)), .second, .val (.int (1 : Int32)), .val (.long (((if (0 : Int64) < s1 then s1 else (0 : Int64)) + 1) + 1)), .second, .val (.long ((((if (0 : Int64) < s1 then s1 else (0 : Int64)) + 1) + 1) + 1)), .second, .val (.long ((if ((((if (0 : Int64) < s1 then s1 else (0 : Int64)) + 1) + 1) + 1) < (-9223372036854775808 : Int64) then (-9223372036854775808 : Int64) else ((((if (0 : Int64) < s1 then s1 else (0 : Int64)) + 1) + 1) + 1)) + 1)), .second] [(.long (((((if (0 : Int64) < s1 then s1 else (0 : Int64)) + 1) + 1) + 1) + (1 : Int64))), (.long ((if ((((if (0 : Int64) < s1 then s1 else (0 : Int64)) + 1) + 1) + 1) < (-9223372036854775808 : Int64) then (-9223372036854775808 : Int64) else ((((if (0 : Int64) < s1 then s1 else (0 : Int64)) + 1) + 1) + 1)) + 1))])) (fun _ zq => XS.ladd X18.here hx rfl (hb hby at_114) rfl zq) ?_
    refine own_st (T' := T18) (g' := (mkF m 116 #[.val (.long s1), .second, .val (.int md), .val (.ref b9), .val (.int z4), .val (.long ((if (0 : Int64) < s1 then s1 else (0 : Int64)) + 1)), .second, .val (.int (1 : Int32)), .val (.long (((if (0 : Int64) < s1 then s1 else (0 : Int64)) + 1) + 1)), .second, .val (.long ((((if (0 : Int64) < s1 then s1 else (0 : Int64)) + 1) + 1) + 1)), .second, .val (.long ((if ((((if (0 : Int64) < s1 then s1 else (0 : Int64)) + 1) + 1) + 1) < (-9223372036854775808 : Int64) then (-9223372036854775808 : Int64) else ((((if (0 : Int64) < s1 then s1 else (0 : Int64)) + 1) + 1) + 1)) + 1)), .second] [(.int (lcmpW ((if ((((if (0 : Int64) < s1 then s1 else (0 : Int64)) + 1) + 1) + 1) < (-9223372036854775808 : Int64) then (-9223372036854775808 : Int64) else ((((if (0 : Int64) < s1 then s1 else (0 : Int64)) + 1) + 1) + 1)) + 1) (((((if (0 : Int64) < s1 then s1 else (0 : Int64)) + 1) + 1) + 1) + (1 : Int64))))])) (fun _ zq => XS.lcmp X18.here hx rfl (hb hby at_115) rfl zq) ?_
    refine own_st (T' := T18) (g' := (mkF m 119 #[.val (.long s1), .second, .val (.int md), .val (.ref b9), .val (.int z4), .val (.long ((if (0 : Int64) < s1 then s1 else (0 : Int64)) + 1)), .second, .val (.int (1 : Int32)), .val (.long (((if (0 : Int64) < s1 then s1 else (0 : Int64)) + 1) + 1)), .second, .val (.long ((((if (0 : Int64) < s1 then s1 else (0 : Int64)) + 1) + 1) + 1)), .second, .val (.long ((if ((((if (0 : Int64) < s1 then s1 else (0 : Int64)) + 1) + 1) + 1) < (-9223372036854775808 : Int64) then (-9223372036854775808 : Int64) else ((((if (0 : Int64) < s1 then s1 else (0 : Int64)) + 1) + 1) + 1)) + 1)), .second] [])) (fun _ zq => XS.ifNo X18.here hx rfl (hb hby at_116) rfl (own_lteq (by rw [if_neg (own_min _)])).2 zq) ?_
    refine own_st (T' := T18) (g' := (mkF m 120 #[.val (.long s1), .second, .val (.int md), .val (.ref b9), .val (.int z4), .val (.long ((if (0 : Int64) < s1 then s1 else (0 : Int64)) + 1)), .second, .val (.int (1 : Int32)), .val (.long (((if (0 : Int64) < s1 then s1 else (0 : Int64)) + 1) + 1)), .second, .val (.long ((((if (0 : Int64) < s1 then s1 else (0 : Int64)) + 1) + 1) + 1)), .second, .val (.long ((if ((((if (0 : Int64) < s1 then s1 else (0 : Int64)) + 1) + 1) + 1) < (-9223372036854775808 : Int64) then (-9223372036854775808 : Int64) else ((((if (0 : Int64) < s1 then s1 else (0 : Int64)) + 1) + 1) + 1)) + 1)), .second] [(.int (1 : Int32))])) (fun _ zq => XS.iconst X18.here hx rfl (hb hby at_119) zq) ?_
    refine own_st (T' := T18) (g' := (mkF m 124 #[.val (.long s1), .second, .val (.int md), .val (.ref b9), .val (.int z4), .val (.long ((if (0 : Int64) < s1 then s1 else (0 : Int64)) + 1)), .second, .val (.int (1 : Int32)), .val (.long (((if (0 : Int64) < s1 then s1 else (0 : Int64)) + 1) + 1)), .second, .val (.long ((((if (0 : Int64) < s1 then s1 else (0 : Int64)) + 1) + 1) + 1)), .second, .val (.long ((if ((((if (0 : Int64) < s1 then s1 else (0 : Int64)) + 1) + 1) + 1) < (-9223372036854775808 : Int64) then (-9223372036854775808 : Int64) else ((((if (0 : Int64) < s1 then s1 else (0 : Int64)) + 1) + 1) + 1)) + 1)), .second] [(.int (1 : Int32))])) (fun _ zq => XS.goto X18.here hx rfl (pc0 := 120) (pc' := 124) rfl (hb hby at_120) (by decide) (by decide) zq) ?_
    exact own_ret X18 hx hret hlk (i := .ireturn) rfl (Or.inl ⟨rfl, by decide, _, rfl⟩) (hb hby at_124) rfl (Nat.le_of_ble_eq_true rfl) (Nat.le_of_ble_eq_true rfl) ⟨rfl, N⟩
set_option maxRecDepth 65536 in
set_option maxHeartbeats 40000000 in
theorem comes_1 {Post : Tables → Env → Array Value → State → Outcome → State → Prop} (hpost : ∀ tb e args s v u, (limb_1_1.after args s (.returned v) u = true ∧ limb_1_2.after args s (.returned v) u = true ∧ True) → FrameEnd s (.returned v) u (Jvm.fieldLocs frame_1_writes args s ++ Jvm.arrayLocs frame_1_arrays args s ++ Jvm.staticLocs frame_1_statics s) 16 128 → Post tb e args s (.returned v) u) :
    ArmFor flags0 classFile x code maxLocals ret World_1 tables_1 room_1 Calls_1 rest_1 Pre_1 Post := by
  intro l hfl _ _ p e ha hc hk s m args below hf hA hF happ hP
  obtain ⟨hcalls, hrest, hpre⟩ := hP
  obtain ⟨-, -, -, hnamed, -, -, -, hat⟩ := (Spec.applies_iff hf).mp happ
  obtain ⟨hg, hn⟩ := and_e (Cond.before_iff.mp (show (Jvm.Cond.and given_1 narrow_1).before args s = true from hpre))
  obtain ⟨hcnt, hgs⟩ := and_e hg
  obtain ⟨w0, w1, rfl⟩ : ∃ w0 w1 : Value, args = #[w0, w1] := by
    have hs : args.size = 2 := by simpa [Cond.value, given_1] using hcnt
    obtain ⟨L⟩ := args
    match L, hs with
    | [w0, w1], _ => exact ⟨w0, w1, rfl⟩
  have hw := fun d (hd : d ∈ tables_1) => atoms_spec (ws := Jvm.Cond.code x code maxLocals ret :: tables_1) hat d (List.mem_cons_of_mem _ hd)
  have hfit : Fit s := fun {y c} hc i hi => by
    obtain ⟨ha, rfl⟩ := Array.getElem?_eq_some_iff.mp hc
    have q := List.all_eq_true.mp ((Array.all_eq_true_iff_forall_mem.mp hF) _ (Array.getElem_mem ha)) i (List.mem_range.mpr hi)
    simpa [Array.getElem?_eq_getElem hi] using q
  obtain ⟨k0, hgs⟩ := and_e hgs
  obtain ⟨i0, q0⟩ := isL_v k0
  obtain rfl : w0 = (.long i0) := Option.some.inj q0
  obtain ⟨i1, q1⟩ := is_v hgs
  obtain rfl : w1 = (.int i1) := Option.some.inj q1
  obtain ⟨n, o, h1, h2, h3, _, L, rfl, ⟨rfl, N⟩, hq⟩ := rm_law l s _ hw tables_1 i0 i1  s.heap s.heap.size (Nat.le_refl _)  p e ha hc hk s m _ below hf ((Spec.applies_iff_loose hf).mp happ).1 ⟨rfl, State.Warmed39.refl s, rfl⟩ trivial
  refine ⟨n, _, h1, h2, h3, hpost _ _ _ _ _ _ ⟨Cond.after_iff.mpr rfl, Cond.after_iff.mpr (eq_i res_at (Term.int_eval (1)) rfl), trivial⟩ ⟨hq.1, hq.2.1, (hq.2.2.sift fun y hy => Or.inr (N y hy)).mono (by decide) (by decide)⟩⟩
theorem main_1_1 : Claimed_1_1 := comes_1 fun _ _ _ _ _ _ h hF => ⟨h.1, hF⟩
theorem main_1_2 : Claimed_1_2 := comes_1 fun _ _ _ _ _ _ h hF => ⟨h.2.1, hF⟩
end Jvm.Pilot.@@N@@
namespace Jvm.Pilot.@@N@@
open Jvm Jvm.ClassFile Sem Op Lib Jvm.Free Jvm.Stand Jvm.Pilot.@@N@@.Jvm.D
/-! MADE BY PROGRAM (witnessworld.py) out of the Statement's table words and the real class files: 10 classes; the members and pool entries that the words name. The judged class is class 1, her method 1. -/
namespace start1
open Jvm.ClassFile
def u (s : String) : CpInfo := .utf8 (stringToUtf16 s)
/-- a pool by its gaps: so many unusable entries, then the entry; so many at the end -/
def gap : Nat → List CpInfo → List CpInfo
  | 0, r => r
  | n + 1, r => .unusable :: gap n r
def poolList (es : List (Nat × CpInfo)) (last : Nat) : List CpInfo := es.foldr (fun e r => gap e.1 (e.2 :: r)) (gap last [])
def pool (es : List (Nat × CpInfo)) (last : Nat) : Array CpInfo := ⟨poolList es last⟩
def fileOf (pool : Array CpInfo) (this : Nat) (attrs : Array Attribute := #[]) (ms : Array MethodInfo := #[]) (fl : Nat := 33) (sup : Nat := 0) (ifs : Array Nat := #[]) (fds : Array FieldInfo := #[]) : ClassFile where
  minorVersion := 0
  majorVersion := 65
  constantPool := pool
  accessFlags := fl
  thisClass := this
  superClass := sup
  interfaces := ifs
  fields := fds
  methods := ms
  attributes := attrs
def plain (name : String) (sup : Option ClassId) : Class where
  name := name
  kind := .ordinary
  loader := none
  accessFlags := 33
  super := sup
  interfaces := #[]
  cf := none
  fields := #[]
  methods := #[]
  instanceTypes := #[]
  staticTypes := #[]
  resolved := #[]
  callSites := []
  init := .initialized
  statics := none
  mirror := none

def pool0 : Array CpInfo := pool [(5, u "<init>"), (0, u "()V"), (1, .class_ 10), (1, u "java/lang/Object")] 113

def k0c0 : Code := { maxStack := 0, maxLocals := 1, code := object_method_1_code, exceptionTable := #[], attributes := #[] }
def k0m0 : Method := { name := "<init>", desc := "()V", sig := { parameters := [], returnType := none }, accessFlags := 1, code := some k0c0 }
/-- java/lang/Object -/
def k0 : Class := { plain "java/lang/Object" none with
  accessFlags := 33
  interfaces := #[]
  cf := some (fileOf pool0 8 #[] #[{ accessFlags := 1, nameIndex := 5, descriptorIndex := 6, attributes := #[] }] 33 0 #[] #[])
  fields := #[]
  methods := #[k0m0]
  instanceTypes := #[]
  staticTypes := #[]
  resolved := Array.replicate 124 none
  statics := none }

def pool1 : Array CpInfo := pool [(2, .class_ 4), (0, .nameAndType 5 6), (0, u "java/lang/Object"), (0, u "<init>"), (0, u "()V"), (0, .class_ 8), (0, u "com/example/coterie/coterie/message/LamportClock"), (0, .methodref 7 3), (0, .methodref 7 11), (0, .nameAndType 12 13), (0, u "witness"), (0, u "(J)J"), (0, .methodref 15 16), (0, .class_ 17), (0, .nameAndType 18 19), (0, u "java/lang/Math"), (0, u "max"), (0, u "(JJ)J"), (0, .methodref 7 21), (0, .nameAndType 22 23), (0, u "tick"), (0, u "()J"), (2, .long 9223372036854775808), (1, .class_ 29), (0, u "com/example/coterie/coterie/message/LamportClockTickPinLaw"), (2, u "law"), (0, u "(JI)Z")] 3

def k1m0 : Method := { name := "<init>", desc := "()V", sig := { parameters := [], returnType := none }, accessFlags := 1, code := none }
def k1c1 : Code := { maxStack := 6, maxLocals := 14, code := code, exceptionTable := #[], attributes := #[] }
def k1m1 : Method := { name := "law", desc := "(JI)Z", sig := { parameters := [.long, .int], returnType := some .boolean }, accessFlags := 9, code := some k1c1 }
/-- com/example/coterie/coterie/message/LamportClockTickPinLaw -/
def k1 : Class := { plain "com/example/coterie/coterie/message/LamportClockTickPinLaw" (some 0) with
  accessFlags := 49
  interfaces := #[]
  cf := some (fileOf pool1 28 #[] #[{ accessFlags := 1, nameIndex := 5, descriptorIndex := 6, attributes := #[] }, { accessFlags := 9, nameIndex := 32, descriptorIndex := 33, attributes := #[] }] 49 2 #[] #[])
  fields := #[]
  methods := #[k1m0, k1m1]
  instanceTypes := #[]
  staticTypes := #[]
  resolved := Array.replicate 37 none
  statics := none }

def pool2 : Array CpInfo := pool [(1, .methodref 2 3), (0, .class_ 4), (0, .nameAndType 5 6), (0, u "java/lang/Object"), (0, u "<init>"), (0, u "()V"), (0, .fieldref 8 9), (0, .class_ 10), (0, .nameAndType 11 12), (0, u "com/example/coterie/coterie/message/LamportClock"), (0, u "time"), (0, u "J"), (0, .methodref 14 15), (0, .class_ 16), (0, .nameAndType 17 18), (0, u "java/lang/Math"), (0, u "max"), (0, u "(JJ)J"), (2, u "tick"), (0, u "()J"), (0, u "witness"), (0, u "(J)J")] 2

def k2c0 : Code := { maxStack := 1, maxLocals := 1, code := prog_63_method_1_code, exceptionTable := #[], attributes := #[] }
def k2m0 : Method := { name := "<init>", desc := "()V", sig := { parameters := [], returnType := none }, accessFlags := 1, code := some k2c0 }
def k2c1 : Code := { maxStack := 5, maxLocals := 1, code := prog_63_method_2_code, exceptionTable := #[], attributes := #[] }
def k2m1 : Method := { name := "tick", desc := "()J", sig := { parameters := [], returnType := some .long }, accessFlags := 1, code := some k2c1 }
def k2c2 : Code := { maxStack := 5, maxLocals := 3, code := prog_63_method_3_code, exceptionTable := #[], attributes := #[] }
def k2m2 : Method := { name := "witness", desc := "(J)J", sig := { parameters := [.long], returnType := some .long }, accessFlags := 1, code := some k2c2 }
/-- com/example/coterie/coterie/message/LamportClock -/
def k2 : Class := { plain "com/example/coterie/coterie/message/LamportClock" (some 0) with
  accessFlags := 49
  interfaces := #[]
  cf := some (fileOf pool2 8 #[] #[{ accessFlags := 1, nameIndex := 5, descriptorIndex := 6, attributes := #[] }, { accessFlags := 1, nameIndex := 21, descriptorIndex := 22, attributes := #[] }, { accessFlags := 1, nameIndex := 23, descriptorIndex := 24, attributes := #[] }] 49 2 #[] #[{ accessFlags := 2, nameIndex := 11, descriptorIndex := 12, attributes := #[] }])
  fields := #[{ name := "time", type := .long, accessFlags := 2, slot := 0, constantValue := 0 }]
  methods := #[k2m0, k2m1, k2m2]
  instanceTypes := #[.long]
  staticTypes := #[]
  resolved := Array.replicate 27 none
  statics := none }

def pool3 : Array CpInfo := pool [(1, .class_ 2), (0, u "java/lang/Math"), (1, .class_ 6), (1, u "java/lang/Object"), (0, u "<init>"), (0, u "()V"), (89, .class_ 100), (1, u "java/lang/Math$RandomNumberGeneratorHolder"), (20, u "(JJ)J"), (50, u "negativeZeroFloatBits"), (0, u "J"), (2, u "negativeZeroDoubleBits"), (21, u "max"), (46, u "$assertionsDisabled"), (0, u "Z"), (91, u "twoToTheDoubleScaleDown"), (0, u "D"), (4, u "twoToTheDoubleScaleUp"), (9, u "E"), (3, u "PI"), (2, u "TAU"), (2, u "DEGREES_TO_RADIANS"), (0, u "RADIANS_TO_DEGREES")] 94

def k3m0 : Method := { name := "<init>", desc := "()V", sig := { parameters := [], returnType := none }, accessFlags := 2, code := none }
def k3c1 : Code := { maxStack := 4, maxLocals := 4, code := jdk_29_method_66_code, exceptionTable := #[], attributes := #[] }
def k3m1 : Method := { name := "max", desc := "(JJ)J", sig := { parameters := [.long, .long], returnType := some .long }, accessFlags := 9, code := some k3c1 }
/-- java/lang/Math -/
def k3 : Class := { plain "java/lang/Math" (some 0) with
  accessFlags := 49
  interfaces := #[]
  cf := some (fileOf pool3 1 #[.nestMembers #[98]] #[{ accessFlags := 2, nameIndex := 7, descriptorIndex := 8, attributes := #[] }, { accessFlags := 9, nameIndex := 198, descriptorIndex := 121, attributes := #[] }] 49 4 #[] #[{ accessFlags := 25, nameIndex := 354, descriptorIndex := 339, attributes := #[] }, { accessFlags := 25, nameIndex := 358, descriptorIndex := 339, attributes := #[] }, { accessFlags := 25, nameIndex := 361, descriptorIndex := 339, attributes := #[] }, { accessFlags := 26, nameIndex := 364, descriptorIndex := 339, attributes := #[] }, { accessFlags := 26, nameIndex := 365, descriptorIndex := 339, attributes := #[] }, { accessFlags := 26, nameIndex := 172, descriptorIndex := 173, attributes := #[] }, { accessFlags := 26, nameIndex := 176, descriptorIndex := 173, attributes := #[] }, { accessFlags := 8, nameIndex := 344, descriptorIndex := 339, attributes := #[] }, { accessFlags := 8, nameIndex := 338, descriptorIndex := 339, attributes := #[] }, { accessFlags := 4120, nameIndex := 245, descriptorIndex := 246, attributes := #[] }])
  fields := #[{ name := "E", type := .double, accessFlags := 25, slot := 0, constantValue := 0 }, { name := "PI", type := .double, accessFlags := 25, slot := 1, constantValue := 0 }, { name := "TAU", type := .double, accessFlags := 25, slot := 2, constantValue := 0 }, { name := "DEGREES_TO_RADIANS", type := .double, accessFlags := 26, slot := 3, constantValue := 0 }, { name := "RADIANS_TO_DEGREES", type := .double, accessFlags := 26, slot := 4, constantValue := 0 }, { name := "negativeZeroFloatBits", type := .long, accessFlags := 26, slot := 5, constantValue := 0 }, { name := "negativeZeroDoubleBits", type := .long, accessFlags := 26, slot := 6, constantValue := 0 }, { name := "twoToTheDoubleScaleUp", type := .double, accessFlags := 8, slot := 7, constantValue := 0 }, { name := "twoToTheDoubleScaleDown", type := .double, accessFlags := 8, slot := 8, constantValue := 0 }, { name := "$assertionsDisabled", type := .boolean, accessFlags := 4120, slot := 9, constantValue := 0 }]
  methods := #[k3m0, k3m1]
  instanceTypes := #[]
  staticTypes := #[.double, .double, .double, .double, .double, .long, .long, .double, .double, .boolean]
  resolved := Array.replicate 460 none
  statics := none }

def pool4 : Array CpInfo := pool [(1, u "java/lang/Cloneable"), (0, .class_ 1), (0, u "java/lang/Object"), (0, .class_ 3)] 3

/-- java/lang/Cloneable -/
def k4 : Class := { plain "java/lang/Cloneable" (some 0) with
  accessFlags := 1537
  interfaces := #[]
  cf := some (fileOf pool4 2 #[] #[] 1537 4 #[] #[])
  fields := #[]
  methods := #[]
  instanceTypes := #[]
  staticTypes := #[]
  resolved := Array.replicate 8 none
  statics := none }

def pool5 : Array CpInfo := pool [(1, u "java/io/Serializable"), (0, .class_ 1), (0, u "java/lang/Object"), (0, .class_ 3)] 3

/-- java/io/Serializable -/
def k5 : Class := { plain "java/io/Serializable" (some 0) with
  accessFlags := 1537
  interfaces := #[]
  cf := some (fileOf pool5 2 #[] #[] 1537 4 #[] #[])
  fields := #[]
  methods := #[]
  instanceTypes := #[]
  staticTypes := #[]
  resolved := Array.replicate 8 none
  statics := none }

/-- the primitive byte -/
def k6 : Class := { plain "byte" none with kind := .primitive 'B', accessFlags := 0x411 }
/-- [B -/
def k7 : Class := { plain "[B" (some 0) with kind := .array 6 .byte, interfaces := #[4, 5], accessFlags := 1041 }

/-- the primitive int -/
def k8 : Class := { plain "int" none with kind := .primitive 'I', accessFlags := 0x411 }
/-- [I -/
def k9 : Class := { plain "[I" (some 0) with kind := .array 8 .int, interfaces := #[4, 5], accessFlags := 1041 }

def heap : Heap := #[]
def classes : Array Class := #[k0, k1, k2, k3, k4, k5, k6, k7, k8, k9]
def interned : List (Array UInt16 × Addr) := []
def slotsUsed : Nat := 0
def theMethod : MethodId := ⟨1, 1⟩
def args0 : Array Value := #[.long 5, .int 1]
def aboutOver (below : List Frame) : State where
  vm := { classes := classes, interned := interned.toArray }
  heap := heap
  slotsUsed := slotsUsed
  threads := #[{ frames := .invoking theMethod args0 :: below }]
def below0 : List Frame := [.native { method := ⟨0, 0⟩, args := #[] }]
def about1 : State := aboutOver below0
def p0 : Program := .bare "" "" ""
def e0 : Env := launch0.env 0 0 0
theorem w_frames : about1.frames = Frame.invoking theMethod args0 :: below0 := rfl
set_option maxRecDepth 65536 in
theorem w_args : argsFit about1.vm theMethod args0 = true := by decide +kernel
set_option maxRecDepth 65536 in
theorem w_heap : heapFits about1 = true := by decide +kernel
set_option maxRecDepth 65536 in
theorem w_runnable : about1.curStatus? = some .runnable := by decide +kernel
set_option maxRecDepth 65536 in
theorem w_alone : about1.alone = true := by decide +kernel
set_option maxRecDepth 65536 in
theorem w_named : about1.methodNamed? x = some theMethod := by decide +kernel
set_option maxRecDepth 65536 in
theorem w_hears : about1.hears theMethod below0 = true := by decide +kernel
set_option maxRecDepth 65536 in
theorem w_ripe : about1.ripe theMethod args0 below0 = true := by decide +kernel
theorem w_running : about1.status = .running := rfl
set_option maxRecDepth 65536 in
theorem w_room : about1.hasRoom e0.platform room_1 = true :=
  launch0.hasRoom_least _ room_1 (by decide +kernel) (by decide +kernel) (by decide +kernel) (by decide +kernel) (by decide +kernel) (by decide +kernel)
theorem allAtoms_all (ts : List Jvm.Cond) (a : Array Jvm.Value) (st : Jvm.State) : (allAtoms ts).before a st = ts.all (fun c => c.before a st) := by
  induction ts with
  | nil => rfl
  | cons c t ih =>
    show (Jvm.Cond.and c (allAtoms t)).before a st = _
    rw [Jvm.Cond.before_and, ih, List.all_cons]
def words1 : List Jvm.Cond := Jvm.Cond.code x code maxLocals ret :: tables_1
/-- a 'code' word, met by the world's own term for the bytes: nothing is compared byte by byte -/
theorem code_word {y : MethodName} {bytes : ByteArray} {mx : Nat} {rt : Option FieldType} {a : Array Value} {s : State} {m : MethodId} {meth : Method} {c : Code} (h1 : s.methodNamed? y = some m) (h2 : s.vm.method? m = some meth) (h3 : meth.code = some c) (h4 : c.code = bytes)
    (h5 : (c.maxLocals == mx && c.exceptionTable.isEmpty && decide (c.maxStack ≤ mostOperands) && decide (meth.sig.returnType = rt) && !meth.locks && decide (parseMethodDescriptor y.desc = some meth.sig)) = true) : (Jvm.Cond.code y bytes mx rt).before a s = true := by
  simp only [Bool.and_eq_true, beq_iff_eq, Bool.not_eq_true', decide_eq_true_eq] at h5
  obtain ⟨⟨⟨⟨⟨g1, g2⟩, g3⟩, g4⟩, g5⟩, g6⟩ := h5
  simp [Cond.before, Cond.holds, Cond.value, h1, h2, h3, h4, g1, g2, g3, g4, g5, g6]
def isCode : Jvm.Cond → Bool
  | .code _ _ _ _ => true
  | _ => false
theorem all_split {L : List Jvm.Cond} {P : Jvm.Cond → Bool} (h1 : L.all (fun c => isCode c || P c) = true) (h2 : ∀ c ∈ L.filter isCode, P c = true) : L.all P = true := by
  refine List.all_eq_true.mpr fun c hc => ?_
  have h := List.all_eq_true.mp h1 c hc
  rcases Bool.eq_false_or_eq_true (isCode c) with hi | hi
  · exact h2 c (List.mem_filter.mpr ⟨hc, hi⟩)
  · simpa [hi] using h
set_option maxRecDepth 65536 in
theorem w_c0 : (Jvm.Cond.code x code maxLocals ret).before args0 about1 = true := code_word (m := ⟨1, 1⟩) (meth := k1m1) (c := k1c1) (by decide +kernel) rfl rfl rfl (by decide +kernel)
set_option maxRecDepth 65536 in
theorem w_c1 : (Jvm.Cond.code ({ cls := "com/example/coterie/coterie/message/LamportClock", name := "<init>", desc := "()V" } : Jvm.MethodName) prog_63_method_1_code (1 : Nat) (Option.none : Option Jvm.ClassFile.FieldType)).before args0 about1 = true := code_word (m := ⟨2, 0⟩) (meth := k2m0) (c := k2c0) (by decide +kernel) rfl rfl rfl (by decide +kernel)
set_option maxRecDepth 65536 in
theorem w_c2 : (Jvm.Cond.code ({ cls := "java/lang/Object", name := "<init>", desc := "()V" } : Jvm.MethodName) object_method_1_code (1 : Nat) (Option.none : Option Jvm.ClassFile.FieldType)).before args0 about1 = true := code_word (m := ⟨0, 0⟩) (meth := k0m0) (c := k0c0) (by decide +kernel) rfl rfl rfl (by decide +kernel)
set_option maxRecDepth 65536 in
theorem w_c3 : (Jvm.Cond.code ({ cls := "com/example/coterie/coterie/message/LamportClock", name := "tick", desc := "()J" } : Jvm.MethodName) prog_63_method_2_code (1 : Nat) (Option.some Jvm.ClassFile.FieldType.long)).before args0 about1 = true := code_word (m := ⟨2, 1⟩) (meth := k2m1) (c := k2c1) (by decide +kernel) rfl rfl rfl (by decide +kernel)
set_option maxRecDepth 65536 in
theorem w_c4 : (Jvm.Cond.code ({ cls := "com/example/coterie/coterie/message/LamportClock", name := "witness", desc := "(J)J" } : Jvm.MethodName) prog_63_method_3_code (3 : Nat) (Option.some Jvm.ClassFile.FieldType.long)).before args0 about1 = true := code_word (m := ⟨2, 2⟩) (meth := k2m2) (c := k2c2) (by decide +kernel) rfl rfl rfl (by decide +kernel)
set_option maxRecDepth 65536 in
theorem w_c5 : (Jvm.Cond.code ({ cls := "java/lang/Math", name := "max", desc := "(JJ)J" } : Jvm.MethodName) jdk_29_method_66_code (4 : Nat) (Option.some Jvm.ClassFile.FieldType.long)).before args0 about1 = true := code_word (m := ⟨3, 1⟩) (meth := k3m1) (c := k3c1) (by decide +kernel) rfl rfl rfl (by decide +kernel)
def codes1 : List Jvm.Cond := [Jvm.Cond.code x code maxLocals ret, Jvm.Cond.code ({ cls := "com/example/coterie/coterie/message/LamportClock", name := "<init>", desc := "()V" } : Jvm.MethodName) prog_63_method_1_code (1 : Nat) (Option.none : Option Jvm.ClassFile.FieldType), Jvm.Cond.code ({ cls := "java/lang/Object", name := "<init>", desc := "()V" } : Jvm.MethodName) object_method_1_code (1 : Nat) (Option.none : Option Jvm.ClassFile.FieldType), Jvm.Cond.code ({ cls := "com/example/coterie/coterie/message/LamportClock", name := "tick", desc := "()J" } : Jvm.MethodName) prog_63_method_2_code (1 : Nat) (Option.some Jvm.ClassFile.FieldType.long), Jvm.Cond.code ({ cls := "com/example/coterie/coterie/message/LamportClock", name := "witness", desc := "(J)J" } : Jvm.MethodName) prog_63_method_3_code (3 : Nat) (Option.some Jvm.ClassFile.FieldType.long), Jvm.Cond.code ({ cls := "java/lang/Math", name := "max", desc := "(JJ)J" } : Jvm.MethodName) jdk_29_method_66_code (4 : Nat) (Option.some Jvm.ClassFile.FieldType.long)]
set_option maxRecDepth 65536 in
theorem codes_eq : words1.filter isCode = codes1 := rfl
theorem w_codes : ∀ c ∈ words1.filter isCode, c.before args0 about1 = true := by
  rw [codes_eq]
  intro c hc
  simp only [codes1, List.mem_cons, List.not_mem_nil, or_false] at hc
  rcases hc with rfl | rfl | rfl | rfl | rfl | rfl
  · exact w_c0
  · exact w_c1
  · exact w_c2
  · exact w_c3
  · exact w_c4
  · exact w_c5
set_option maxRecDepth 65536 in
theorem w_t1 : (words1.take 24).all (fun c => isCode c || c.before args0 about1) = true := by decide +kernel
set_option maxRecDepth 65536 in
theorem w_t2 : (words1.drop 24).all (fun c => isCode c || c.before args0 about1) = true := by decide +kernel
theorem w_tables : (allAtoms (Jvm.Cond.code x code maxLocals ret :: tables_1)).before args0 about1 = true := by
  rw [allAtoms_all]
  show words1.all (fun c => c.before args0 about1) = true
  refine all_split ?_ w_codes
  rw [← List.take_append_drop 24 words1, List.all_append, w_t1, w_t2]
  rfl
set_option maxRecDepth 65536 in
theorem w_case : (Jvm.Cond.and given_1 narrow_1).before args0 about1 = true := by decide +kernel
theorem w_applies : (headSpec (Jvm.Cond.code x code maxLocals ret :: tables_1) room_1).applies x e0.platform about1 = true :=
  (Spec.applies_iff w_frames).mpr ⟨w_running, w_runnable, w_alone, w_named, w_hears, w_ripe, w_room, w_tables⟩
theorem atStart : AtStart classFile x code maxLocals ret World_1 tables_1 room_1 Calls_1 rest_1 Pre_1 launch0 p0 e0 about1 theMethod args0 below0 :=
  ⟨lists_1, trivial, launch0.admits_env _ _ _, launch0.least_env, fairChoices_fair.cas, fairChoices_fair.clock, w_frames, w_args, w_heap, w_applies, trivial, trivial, w_case⟩
end start1
theorem witness_1 : WitnessClaimed_1 := ⟨start1.p0, start1.e0, start1.about1, start1.theMethod, start1.args0, start1.below0, start1.atStart⟩
end Jvm.Pilot.@@N@@
