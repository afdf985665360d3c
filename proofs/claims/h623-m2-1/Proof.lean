import JvmDerived
import JvmDerived.Pilot.@@N@@Statement
import JvmDerived.Pilot.@@N@@Code
set_option linter.unusedVariables false
set_option linter.unusedSimpArgs false
namespace Jvm.Pilot.@@N@@
open Jvm Jvm.ClassFile Sem Op Lib Jvm.Free Jvm.Stand Jvm.LawKit Jvm.RoadKit Bundle Jvm.Pilot.@@N@@.Jvm.D
section OwnLayer
variable {p : Program} {l : Launch} {e : Env} {R : Room} {s : State} {m : MethodId} {args : Array Value} {below : List Frame} {meth : Method} {c : Code} {T T' : State} {locs : List Loc} {cells slots : Nat} {Z : State} {h h' : Heap}
/-- from T at the frame g the body runs to its end, and the end is as Q says -/
def own_Go (p : Program) (e : Env) (below : List Frame) (s : State) (Q : Option Value → Heap → List Loc → Prop) (k n : Nat) (T : State) (g : JFrame) : Prop :=
  ∃ s₂ o, Steps p.tables e below (T.setTop g) s₂ ∧ s₂.status = .running ∧ Ended s₂ below o ∧ ∃ v L, o = .returned v ∧ Q v s₂.heap L ∧ FrameEnd s o s₂ L k n
theorem own_st {Q : Option Value → Heap → List Loc → Prop} {k n : Nat} {g g' : JFrame} (st : ∀ t, Steps p.tables e below (T'.setTop g') t → Steps p.tables e below (T.setTop g) t) (G : own_Go p e below s Q k n T' g') : own_Go p e below s Q k n T g := by
  obtain ⟨s₂, o, h1, h2⟩ := G
  exact ⟨s₂, o, st _ h1, h2⟩
theorem own_tr {Q : Option Value → Heap → List Loc → Prop} {k n : Nat} {g g' : JFrame} (st : Steps p.tables e below (T.setTop g) (T'.setTop g')) (G : own_Go p e below s Q k n T' g') : own_Go p e below s Q k n T g :=
  own_st (fun _ q => st.trans q) G
theorem own_nm {α : Type} {Q : Option Value → Heap → List Loc → Prop} {k n : Nat} {f : α → JFrame} (v : α) (G : ∀ z, z = v → own_Go p e below s Q k n T (f z)) : own_Go p e below s Q k n T (f v) := G v rfl
theorem own_ret {Q : Option Value → Heap → List Loc → Prop} {k n : Nat} (X : Stand p l e R s m args below meth c T locs cells slots) (hx : p.tables.exec = Jvm.exec) {pc : Nat} {Ls : Array Slot} {w : Value} {t : FieldType} {i : Instr} {rest : List Value} (hret : meth.sig.returnType = some t) (hlk : meth.locks = false) (hn : narrow t w = w)
    (hi : (i = .ireturn ∧ (t = .int ∨ t = .boolean ∨ t = .byte ∨ t = .char ∨ t = .short) ∧ ∃ z, w = .int z) ∨ (i = .lreturn ∧ t = .long ∧ ∃ z, w = .long z) ∨ (i = .dreturn ∧ t = .double ∧ ∃ z, w = .double z) ∨ (i = .freturn ∧ t = .float ∧ ∃ z, w = .float z) ∨ (i = .areturn ∧ t.isReference = true ∧ w.isRef = true))
    (hd : decode c.code pc = .ok (i, 1)) (eT : T.heap = h) (hk : cells ≤ k) (hl : slots ≤ n) (hq : Q (some w) h locs) : own_Go p e below s Q k n T (mkF m pc Ls (w :: rest)) := by
  obtain ⟨fs, hr, hrun, hended, hW, hsame⟩ := X.leave (v := some w) (fun q => by rw [hret] at q; cases q) hlk
  exact ⟨_, _, retOut X hx hret hn hi hd hr, hrun, hended, _, _, rfl, by show Q (some w) T.heap locs; rw [eT]; exact hq, ⟨_, rfl⟩, hW, hsame.mono hk hl⟩
theorem own_ret0 {Q : Option Value → Heap → List Loc → Prop} {k n : Nat} (X : Stand p l e R s m args below meth c T locs cells slots) (hx : p.tables.exec = Jvm.exec) {pc : Nat} {Ls : Array Slot} (hret : meth.sig.returnType = none) (hlk : meth.locks = false)
    (hd : decode c.code pc = .ok (.return_, 1)) (eT : T.heap = h) (hk : cells ≤ k) (hl : slots ≤ n) (hq : Q none h locs) : own_Go p e below s Q k n T (mkF m pc Ls []) := by
  obtain ⟨fs, hr, hrun, hended, hW, hsame⟩ := X.leave (v := none) (fun _ => rfl) hlk
  exact ⟨_, _, X.returnOut hx hret hd hr, hrun, hended, _, _, rfl, by show Q none T.heap locs; rw [eT]; exact hq, ⟨_, rfl⟩, hW, hsame.mono hk hl⟩
theorem own_cat {v : Value} (q : v.isRef = true) : v.category = 1 := by cases v <;> first | rfl | cases q
theorem own_Ins_keep {a : Addr} {C : String} {b : Bool} {ws : List Addr} (F : Ins Z h a C b) (K : Keep h h' ws) : Ins Z h' a C b := by
  obtain ⟨cell, cT, h1, h2, h3⟩ := F
  obtain ⟨c', q1, q2, q3, -⟩ := K.2.2 _ _ h1
  exact ⟨c', cT, q1, h2, by rw [q2, q3]; exact h3⟩
end OwnLayer
theorem own_ltlt {x y : Int64} (h : x < y) : ifCond.holds .lt (lcmpW x y) = true ∧ ifCond.holds .ge (lcmpW x y) = false ∧ ifCond.holds .gt (lcmpW y x) = true ∧ ifCond.holds .le (lcmpW y x) = false := by
  have a : lcmpW x y < 0 := (lw_lt x y).mpr h
  have b : 0 < lcmpW y x := (lw_gt y x).mpr h
  exact ⟨(if0 _ _).trans (tlt a).1, (if0 _ _).trans (tlt a).2.1, (if0 _ _).trans (tlt b).2.2.1, (if0 _ _).trans (tlt b).2.2.2⟩
theorem own_lflt {x y : Int64} (h : ¬ x < y) : ifCond.holds .lt (lcmpW x y) = false ∧ ifCond.holds .ge (lcmpW x y) = true ∧ ifCond.holds .gt (lcmpW y x) = false ∧ ifCond.holds .le (lcmpW y x) = true := by
  have a : ¬ lcmpW x y < 0 := fun q => h ((lw_lt x y).mp q)
  have b : ¬ 0 < lcmpW y x := fun q => h ((lw_gt y x).mp q)
  exact ⟨(if0 _ _).trans (flt a).1, (if0 _ _).trans (flt a).2.1, (if0 _ _).trans (flt b).2.2.1, (if0 _ _).trans (flt b).2.2.2⟩
theorem own_lteq {x y : Int64} (h : x = y) : ifCond.holds .eq (lcmpW x y) = true ∧ ifCond.holds .ne (lcmpW x y) = false := by
  have a : lcmpW x y = 0 := (lw_eq x y).mpr h
  exact ⟨(if0 _ _).trans (teq a).1, (if0 _ _).trans (teq a).2⟩
theorem own_lfeq {x y : Int64} (h : ¬ x = y) : ifCond.holds .eq (lcmpW x y) = false ∧ ifCond.holds .ne (lcmpW x y) = true := by
  have a : ¬ lcmpW x y = 0 := fun q => h ((lw_eq x y).mp q)
  exact ⟨(if0 _ _).trans (feq a).1, (if0 _ _).trans (feq a).2⟩
theorem own_ifc {α : Type} {P Q : Prop} [Decidable P] [Decidable Q] {x y : α} (h : P ↔ Q) : (if P then x else y) = if Q then x else y := by
  by_cases q : P
  · rw [if_pos q, if_pos (h.mp q)]
  · rw [if_neg q, if_neg (fun r => q (h.mpr r))]
section OwnArr
variable {p : Program} {l : Launch} {e : Env} {R : Room} {s : State} {m : MethodId} {args : Array Value} {below : List Frame} {meth : Method} {c : Code} {T : State} {locs : List Loc} {cells slots : Nat} {Z : State} {h h' : Heap} {a b : Addr} {n : Nat} {ty : FieldType} {ws : List Addr} {sl : Nat} {v : Value}
/-- an array of kind ty, of n places, the i-th holds f i -/
def own_AV (Z : State) (h : Heap) (a : Addr) (ty : FieldType) (n : Nat) (f : Nat → Value) : Prop := ∃ c : Cell, Arr Z h a c ty ∧ c.slots.size = n ∧ n < 2147483648 ∧ ∀ i, i < n → c.slots[i]? = some (f i)
theorem own_AV.lt {f : Nat → Value} (F : own_AV Z h a ty n f) : a < h.size := by obtain ⟨c, A, -⟩ := F; exact A.lt
theorem own_AV.ext {f : Nat → Value} (F : own_AV Z h a ty n f) (E : Ext h h') : own_AV Z h' a ty n f := by obtain ⟨c, A, r⟩ := F; exact ⟨c, A.ext E, r⟩
theorem own_AV.other {f : Nat → Value} (F : own_AV Z h a ty n f) (W : Wr h h' b sl v) (q : a ≠ b) : own_AV Z h' a ty n f := by obtain ⟨c, A, r⟩ := F; exact ⟨c, A.other W q, r⟩
theorem own_AV.keep {f : Nat → Value} (F : own_AV Z h a ty n f) (K : Keep h h' ws) (q : a ∉ ws) : own_AV Z h' a ty n f := by obtain ⟨c, A, r⟩ := F; exact ⟨c, ⟨K.2.1 a c A.1 q, A.2⟩, r⟩
theorem own_AV.cong {f g : Nat → Value} (F : own_AV Z h a ty n f) (q : ∀ i, i < n → f i = g i) : own_AV Z h a ty n g := by obtain ⟨c, A, r1, r2, r3⟩ := F; exact ⟨c, A, r1, r2, fun i hi => (r3 i hi).trans (congrArg some (q i hi))⟩
theorem own_AV.new {k : ClassId} {z : Int32} (A : Arr Z h a (newA k ty z) ty) (hz : z.toInt = (n : Int)) : own_AV Z h a ty n (fun _ => defaultValue ty) := by
  have q : ¬ z < 0 := fun r => by have := Int32.lt_iff_toInt_lt.mp r; have : (0 : Int32).toInt = 0 := rfl; omega
  have e : z.toNatClampNeg = n := by have := nat_of q; omega
  have b := rng32 z
  refine ⟨_, A, (sz_new _ _ _).trans e, by omega, fun i hi => ?_⟩
  show (Array.replicate z.toNatClampNeg (defaultValue ty))[i]? = _
  rw [Array.getElem?_replicate, if_pos (by omega)]
theorem own_clamp {j : Int32} {jn : Nat} (hj : j.toInt = (jn : Int)) : ¬ j < 0 ∧ j.toNatClampNeg = jn := by
  have q : ¬ j < 0 := fun r => by have := Int32.lt_iff_toInt_lt.mp r; have : (0 : Int32).toInt = 0 := rfl; omega
  exact ⟨q, by have := nat_of q; omega⟩
theorem own_set {f : Nat → Value} {c : Cell} {jn : Nat} {w : Value} (A : Arr Z h a c ty) (hs : c.slots.size = n) (hn : n < 2147483648) (H : ∀ i, i < n → c.slots[i]? = some (f i)) (hlt : jn < n) (W : Wr h h' a jn w) : own_AV Z h' a ty n (fun i => if i = jn then w else f i) := by
  refine ⟨_, A.same W, (sz_set _ _ _).trans hs, hn, fun i hi => ?_⟩
  show (c.slots.setIfInBounds jn w)[i]? = some (if i = jn then w else f i)
  by_cases q : i = jn
  · subst q; rw [if_pos rfl]; simp [hs, hi]
  · rw [if_neg q, Array.getElem?_setIfInBounds_ne (Ne.symm q)]; exact H i hi
theorem own_inb {c : Cell} {j : Int32} {jn : Nat} (hs : c.slots.size = n) (hj : j.toInt = (jn : Int)) (hlt : jn < n) : ¬ (j < 0 ∨ c.slots.size ≤ j.toNatClampNeg) := by
  obtain ⟨q, e⟩ := own_clamp hj
  rw [hs, e]; exact fun r => r.elim q (fun z => by omega)
theorem own_stJ {f : Nat → Value} (X : Stand p l e R s m args below meth c T locs cells slots) (hx : p.tables.exec = Jvm.exec) (hZ : Z.Warmed39 s.vm) (eT : T.heap = h) (A : own_AV Z h a .long n f) {j : Int32} {x : Int64} (jn : Nat) (hj : j.toInt = (jn : Int)) (hlt : jn < n) {g : JFrame} (hg : g.method = m) {rest : List Value} (hs : g.stack = .long x :: .int j :: .ref a :: rest) (hd : decode c.code g.pc = .ok (.lastore, 1)) :
    ∃ T' h', Stand p l e R s m args below meth c T' (locs ++ [⟨a, jn⟩]) cells slots ∧ T'.heap = h' ∧ Wr h h' a jn (.long x) ∧ own_AV Z h' a .long n (fun i => if i = jn then .long x else f i) ∧ ∀ t, Steps p.tables e below (T'.setTop { g with pc := g.pc + 1, stack := rest }) t → Steps p.tables e below (T.setTop g) t := by
  obtain ⟨cl, A1, A2, A3, A4⟩ := A
  obtain ⟨T', h', X', e', W, st⟩ := stJ X hx hZ eT A1 (own_inb A2 hj hlt) hg hs hd
  rw [(own_clamp hj).2] at X' W
  exact ⟨T', h', X', e', W, own_set A1 A2 A3 A4 hlt W, st⟩
theorem own_stI {f : Nat → Value} (X : Stand p l e R s m args below meth c T locs cells slots) (hx : p.tables.exec = Jvm.exec) (hZ : Z.Warmed39 s.vm) (eT : T.heap = h) (A : own_AV Z h a .int n f) {j : Int32} {x : Int32} (jn : Nat) (hj : j.toInt = (jn : Int)) (hlt : jn < n) {g : JFrame} (hg : g.method = m) {rest : List Value} (hs : g.stack = .int x :: .int j :: .ref a :: rest) (hd : decode c.code g.pc = .ok (.iastore, 1)) :
    ∃ T' h', Stand p l e R s m args below meth c T' (locs ++ [⟨a, jn⟩]) cells slots ∧ T'.heap = h' ∧ Wr h h' a jn (.int x) ∧ own_AV Z h' a .int n (fun i => if i = jn then .int x else f i) ∧ ∀ t, Steps p.tables e below (T'.setTop { g with pc := g.pc + 1, stack := rest }) t → Steps p.tables e below (T.setTop g) t := by
  obtain ⟨cl, A1, A2, A3, A4⟩ := A
  obtain ⟨T', h', X', e', W, st⟩ := stI X hx hZ eT A1 (own_inb A2 hj hlt) hg hs hd
  rw [(own_clamp hj).2] at X' W
  exact ⟨T', h', X', e', W, own_set A1 A2 A3 A4 hlt W, st⟩
theorem own_stB {f : Nat → Value} (X : Stand p l e R s m args below meth c T locs cells slots) (hx : p.tables.exec = Jvm.exec) (hZ : Z.Warmed39 s.vm) (eT : T.heap = h) (A : own_AV Z h a .byte n f) {j : Int32} {x : Int32} (jn : Nat) (hj : j.toInt = (jn : Int)) (hlt : jn < n) {g : JFrame} (hg : g.method = m) {rest : List Value} (hs : g.stack = .int x :: .int j :: .ref a :: rest) (hd : decode c.code g.pc = .ok (.bastore, 1)) :
    ∃ T' h', Stand p l e R s m args below meth c T' (locs ++ [⟨a, jn⟩]) cells slots ∧ T'.heap = h' ∧ Wr h h' a jn (.int (nar .byte x)) ∧ own_AV Z h' a .byte n (fun i => if i = jn then .int (nar .byte x) else f i) ∧ ∀ t, Steps p.tables e below (T'.setTop { g with pc := g.pc + 1, stack := rest }) t → Steps p.tables e below (T.setTop g) t := by
  obtain ⟨cl, A1, A2, A3, A4⟩ := A
  obtain ⟨T', h', X', e', W, st⟩ := stB X hx hZ eT A1 (own_inb A2 hj hlt) hg hs hd
  rw [(own_clamp hj).2] at X' W
  exact ⟨T', h', X', e', W, own_set A1 A2 A3 A4 hlt W, st⟩
theorem own_stZ {f : Nat → Value} (X : Stand p l e R s m args below meth c T locs cells slots) (hx : p.tables.exec = Jvm.exec) (hZ : Z.Warmed39 s.vm) (eT : T.heap = h) (A : own_AV Z h a .boolean n f) {j : Int32} {x : Int32} (jn : Nat) (hj : j.toInt = (jn : Int)) (hlt : jn < n) {g : JFrame} (hg : g.method = m) {rest : List Value} (hs : g.stack = .int x :: .int j :: .ref a :: rest) (hd : decode c.code g.pc = .ok (.bastore, 1)) :
    ∃ T' h', Stand p l e R s m args below meth c T' (locs ++ [⟨a, jn⟩]) cells slots ∧ T'.heap = h' ∧ Wr h h' a jn (.int (nar .boolean x)) ∧ own_AV Z h' a .boolean n (fun i => if i = jn then .int (nar .boolean x) else f i) ∧ ∀ t, Steps p.tables e below (T'.setTop { g with pc := g.pc + 1, stack := rest }) t → Steps p.tables e below (T.setTop g) t := by
  obtain ⟨cl, A1, A2, A3, A4⟩ := A
  obtain ⟨T', h', X', e', W, st⟩ := stZ X hx hZ eT A1 (own_inb A2 hj hlt) hg hs hd
  rw [(own_clamp hj).2] at X' W
  exact ⟨T', h', X', e', W, own_set A1 A2 A3 A4 hlt W, st⟩
theorem own_ldJ {f : Nat → Value} {w : Value} (X : Stand p l e R s m args below meth c T locs cells slots) (hx : p.tables.exec = Jvm.exec) (hZ : Z.Warmed39 s.vm) (eT : T.heap = h) (A : own_AV Z h a .long n f) {j : Int32} (jn : Nat) (hj : j.toInt = (jn : Int)) (hlt : jn < n) (hw : f jn = w) {g : JFrame} (hg : g.method = m) {rest : List Value} (hs : g.stack = .int j :: .ref a :: rest) (hd : decode c.code g.pc = .ok (.laload, 1)) :
    ∀ t, Steps p.tables e below (T.setTop { g with pc := g.pc + 1, stack := w :: rest }) t → Steps p.tables e below (T.setTop g) t := by
  obtain ⟨cl, A1, A2, A3, A4⟩ := A
  subst hw
  exact X.laload hx (by rw [eT]; exact A1.1) (State.isArrayOf_alike hZ.alike A1.2.1) A1.2.2 (own_inb A2 hj hlt) (by rw [(own_clamp hj).2]; exact A4 _ hlt) hg hs hd
theorem own_ldI {f : Nat → Value} {w : Value} (X : Stand p l e R s m args below meth c T locs cells slots) (hx : p.tables.exec = Jvm.exec) (hZ : Z.Warmed39 s.vm) (eT : T.heap = h) (A : own_AV Z h a .int n f) {j : Int32} (jn : Nat) (hj : j.toInt = (jn : Int)) (hlt : jn < n) (hw : f jn = w) {g : JFrame} (hg : g.method = m) {rest : List Value} (hs : g.stack = .int j :: .ref a :: rest) (hd : decode c.code g.pc = .ok (.iaload, 1)) :
    ∀ t, Steps p.tables e below (T.setTop { g with pc := g.pc + 1, stack := w :: rest }) t → Steps p.tables e below (T.setTop g) t := by
  obtain ⟨cl, A1, A2, A3, A4⟩ := A
  subst hw
  exact X.iaload hx (by rw [eT]; exact A1.1) (State.isArrayOf_alike hZ.alike A1.2.1) A1.2.2 (own_inb A2 hj hlt) (by rw [(own_clamp hj).2]; exact A4 _ hlt) hg hs hd
theorem own_ldB {f : Nat → Value} {w : Value} (X : Stand p l e R s m args below meth c T locs cells slots) (hx : p.tables.exec = Jvm.exec) (hZ : Z.Warmed39 s.vm) (eT : T.heap = h) (A : own_AV Z h a .byte n f) {j : Int32} (jn : Nat) (hj : j.toInt = (jn : Int)) (hlt : jn < n) (hw : f jn = w) {g : JFrame} (hg : g.method = m) {rest : List Value} (hs : g.stack = .int j :: .ref a :: rest) (hd : decode c.code g.pc = .ok (.baload, 1)) :
    ∀ t, Steps p.tables e below (T.setTop { g with pc := g.pc + 1, stack := w :: rest }) t → Steps p.tables e below (T.setTop g) t := by
  obtain ⟨cl, A1, A2, A3, A4⟩ := A
  subst hw
  exact X.baloadBytes hx (by rw [eT]; exact A1.1) (State.isArrayOf_alike hZ.alike A1.2.1) A1.2.2 (own_inb A2 hj hlt) (by rw [(own_clamp hj).2]; exact A4 _ hlt) hg hs hd
theorem own_ldZ {f : Nat → Value} {w : Value} (X : Stand p l e R s m args below meth c T locs cells slots) (hx : p.tables.exec = Jvm.exec) (hZ : Z.Warmed39 s.vm) (eT : T.heap = h) (A : own_AV Z h a .boolean n f) {j : Int32} (jn : Nat) (hj : j.toInt = (jn : Int)) (hlt : jn < n) (hw : f jn = w) {g : JFrame} (hg : g.method = m) {rest : List Value} (hs : g.stack = .int j :: .ref a :: rest) (hd : decode c.code g.pc = .ok (.baload, 1)) :
    ∀ t, Steps p.tables e below (T.setTop { g with pc := g.pc + 1, stack := w :: rest }) t → Steps p.tables e below (T.setTop g) t := by
  obtain ⟨cl, A1, A2, A3, A4⟩ := A
  subst hw
  exact X.baloadBooleans hx (by rw [eT]; exact A1.1) (State.isArrayOf_alike hZ.alike A1.2.1) A1.2.2 (own_inb A2 hj hlt) (by rw [(own_clamp hj).2]; exact A4 _ hlt) hg hs hd
theorem own_len {f : Nat → Value} {z : Int32} (X : Stand p l e R s m args below meth c T locs cells slots) (hx : p.tables.exec = Jvm.exec) (hZ : Z.Warmed39 s.vm) (eT : T.heap = h) (A : own_AV Z h a ty n f) (hz : z.toInt = (n : Int)) {g : JFrame} (hg : g.method = m) {rest : List Value} (hs : g.stack = .ref a :: rest) (hd : decode c.code g.pc = .ok (.arraylength, 1)) :
    ∀ t, Steps p.tables e below (T.setTop { g with pc := g.pc + 1, stack := .int z :: rest }) t → Steps p.tables e below (T.setTop g) t := by
  obtain ⟨cl, A1, A2, A3, A4⟩ := A
  have q : cl.slots.size.toInt32 = z := by
    apply Int32.toInt_inj.mp
    rw [A2, len_toInt A3, hz]
  subst q
  exact X.arraylength hx (by rw [eT]; exact A1.1) (State.isArrayOf_alike hZ.alike A1.2.1) hg hs hd
end OwnArr
def own_by (bits : Int64) : Nat → Int32
  | 0 => bits.toInt32.toInt8.toInt32
  | 1 => ((bits.toUInt64 >>> ((8 : Int32) &&& 0x3f).toInt64.toUInt64).toInt64).toInt32.toInt8.toInt32
  | 2 => ((bits.toUInt64 >>> ((16 : Int32) &&& 0x3f).toInt64.toUInt64).toInt64).toInt32.toInt8.toInt32
  | 3 => ((bits.toUInt64 >>> ((24 : Int32) &&& 0x3f).toInt64.toUInt64).toInt64).toInt32.toInt8.toInt32
  | 4 => ((bits.toUInt64 >>> ((32 : Int32) &&& 0x3f).toInt64.toUInt64).toInt64).toInt32.toInt8.toInt32
  | 5 => ((bits.toUInt64 >>> ((40 : Int32) &&& 0x3f).toInt64.toUInt64).toInt64).toInt32.toInt8.toInt32
  | 6 => ((bits.toUInt64 >>> ((48 : Int32) &&& 0x3f).toInt64.toUInt64).toInt64).toInt32.toInt8.toInt32
  | 7 => ((bits.toUInt64 >>> ((56 : Int32) &&& 0x3f).toInt64.toUInt64).toInt64).toInt32.toInt8.toInt32
  | _ => 0
def own_usm (bits : Int64) (k : Int32) : Int64 := ((bits.toUInt64 >>> (k &&& 0x3f).toInt64.toUInt64).toInt64) &&& (16777215 : Int64)
theorem own_rem (p d v : Int32) (D : Nat) (hd : d.toInt = (D : Int)) (hD : 0 < D ∧ D < 100) (h : v = (p &&& (2147483647 : Int32)) % d) : ∃ n : Nat, v.toInt = (n : Int) ∧ n < D := by
  have q := (c_and p (2147483647 : Int32) (by decide)).1
  have r := (c_irem (p &&& (2147483647 : Int32)) d D hd).1 q
  rw [← h] at r
  have r1 := Int.emod_nonneg (p &&& (2147483647 : Int32)).toInt (b := (D : Int)) (by omega)
  have r2 := Int.emod_lt_of_pos (p &&& (2147483647 : Int32)).toInt (b := (D : Int)) (by omega)
  exact ⟨v.toInt.toNat, by omega, by omega⟩
theorem own_lt {k : Nat} {x v : Int32} {n : Nat} (hx : x.toInt = (k : Int)) (h : x < v) (hv : v.toInt = (n : Int)) : k < n := by have := Int32.lt_iff_toInt_lt.mp h; omega
theorem own_tl {k : Nat} {x v : Int32} {n : Nat} (hx : x.toInt = (k : Int)) (h : k < n) (hv : v.toInt = (n : Int)) : x < v := Int32.lt_iff_toInt_lt.mpr (by omega)
theorem own_up {f g : Nat → Value} {k n : Nat} {w : Value} (hf : ∀ i, i < k → i < n → f i = g i) (hw : w = g k) : ∀ i, i < k + 1 → i < n → (fun i => if i = k then w else f i) i = g i := fun i h1 h2 => by
  show (if i = k then w else f i) = g i
  by_cases q : i = k
  · rw [if_pos q, q]; exact hw
  · rw [if_neg q]; exact hf i (by omega) h2
theorem own_no {f g : Nat → Value} {k n : Nat} (hf : ∀ i, i < k → i < n → f i = g i) (hk : ¬ k < n) : ∀ i, i < k + 1 → i < n → f i = g i := fun i h1 h2 => hf i (by omega) h2
theorem own_bnd {nv j : Int32} {nn jn : Nat} (hnv : nv.toInt = (nn : Int)) (hj : j.toInt = (jn : Int)) (hb : jn ≤ 11) (hc : ¬ nv < (j + (3 : Int32))) : jn + 3 ≤ nn := by
  have a := c_iadd j (3 : Int32)
  have b : (3 : Int32).toInt = 3 := rfl
  have c := rng32 (j + (3 : Int32))
  have d : ¬ nv.toInt < (j + (3 : Int32)).toInt := fun q => hc (Int32.lt_iff_toInt_lt.mpr q)
  omega
theorem own_j1 {j : Int32} {jn : Nat} (hj : j.toInt = (jn : Int)) (hb : jn ≤ 11) : (j + (1 : Int32)).toInt = ((jn + 1 : Nat) : Int) := by
  have a := c_iadd j (1 : Int32); have b : (1 : Int32).toInt = 1 := rfl; have c := rng32 (j + (1 : Int32)); omega
theorem own_j2 {j : Int32} {jn : Nat} (hj : j.toInt = (jn : Int)) (hb : jn ≤ 11) : (j + (2 : Int32)).toInt = ((jn + 2 : Nat) : Int) := by
  have a := c_iadd j (2 : Int32); have b : (2 : Int32).toInt = 2 := rfl; have c := rng32 (j + (2 : Int32)); omega
theorem own_nb (x : Int32) : ∃ v : Int, (nar .byte x.toInt8.toInt32).toInt = v ∧ -128 ≤ v ∧ v < 128 ∧ (v - x.toInt) % 256 = 0 := by
  have a := c_i2b x
  have b := c_i2b x.toInt8.toInt32
  exact ⟨_, rfl, b.2.1, b.2.2, by show ((x.toInt8.toInt32.toInt8.toInt32).toInt - x.toInt) % 256 = 0; omega⟩
theorem own_byv (bits : Int64) (i : Nat) (hi : i < 8) : ∃ v : Int, (nar .byte (own_by bits i)).toInt = v ∧ -128 ≤ v ∧ v < 128 ∧ (v - (bits.toInt % 18446744073709551616) / (2 ^ (8 * i) : Nat)) % 256 = 0 := by
  have key : ∀ (y : Int64) (Y : Int), y.toInt % 4294967296 = Y % 4294967296 → ∃ v : Int, (nar .byte (y.toInt32.toInt8.toInt32)).toInt = v ∧ -128 ≤ v ∧ v < 128 ∧ (v - Y) % 256 = 0 := fun y Y q => by
    obtain ⟨v, h1, h2, h3, h4⟩ := own_nb y.toInt32
    have c := c_l2i y
    exact ⟨v, h1, h2, h3, by omega⟩
  match i, hi with
  | 0, _ => exact key bits _ (by simp)
  | 1, _ => exact key _ _ (congrArg (· % 4294967296) (c_lushr bits (8 : Int32) 8 (by decide +kernel) (by decide)))
  | 2, _ => exact key _ _ (congrArg (· % 4294967296) (c_lushr bits (16 : Int32) 16 (by decide +kernel) (by decide)))
  | 3, _ => exact key _ _ (congrArg (· % 4294967296) (c_lushr bits (24 : Int32) 24 (by decide +kernel) (by decide)))
  | 4, _ => exact key _ _ (congrArg (· % 4294967296) (c_lushr bits (32 : Int32) 32 (by decide +kernel) (by decide)))
  | 5, _ => exact key _ _ (congrArg (· % 4294967296) (c_lushr bits (40 : Int32) 40 (by decide +kernel) (by decide)))
  | 6, _ => exact key _ _ (congrArg (· % 4294967296) (c_lushr bits (48 : Int32) 48 (by decide +kernel) (by decide)))
  | 7, _ => exact key _ _ (congrArg (· % 4294967296) (c_lushr bits (56 : Int32) 56 (by decide +kernel) (by decide)))
  | n + 8, h => exact absurd h (by omega)
theorem own_usv (bits : Int64) (i : Nat) (hi : i < 6) (iv : Int32) (hiv : iv.toInt = (i : Int)) : (own_usm bits ((8 : Int32) * iv)).toInt = ((bits.toInt % 18446744073709551616) / (2 ^ (8 * i) : Nat)) % 16777216 := by
  have hm : ∀ y : Int64, (y &&& (16777215 : Int64)).toInt = y.toInt % 16777216 := fun y => c_maskL y (16777215 : Int64) 24 (by decide) (by decide +kernel)
  unfold own_usm
  rw [hm]
  match i, hi, hiv with
  | 0, _, hiv =>
    obtain rfl : iv = 0 := Int32.toInt_inj.mp hiv
    have e : ((bits.toUInt64 >>> (((8 : Int32) * 0) &&& 0x3f).toInt64.toUInt64).toInt64) = bits := by
      apply Int64.toBitVec_inj.mp
      show (bits.toUInt64 >>> (((8 : Int32) * 0) &&& 0x3f).toInt64.toUInt64).toBitVec = _
      rw [UInt64.toBitVec_shiftRight]
      show bits.toBitVec >>> ((((8 : Int32) * 0) &&& 0x3f).toInt64.toUInt64.toBitVec % 64) = _
      rw [BitVec.ushiftRight_eq', BitVec.toNat_umod, show (((8 : Int32) * 0) &&& 0x3f).toInt64.toUInt64.toBitVec.toNat % (64 : BitVec 64).toNat = 0 by decide +kernel]
      simp
    rw [e]; simp
  | 1, _, hiv =>
    obtain rfl : iv = 1 := Int32.toInt_inj.mp hiv
    exact congrArg (· % 16777216) (c_lushr bits ((8 : Int32) * 1) 8 (by decide +kernel) (by decide))
  | 2, _, hiv =>
    obtain rfl : iv = 2 := Int32.toInt_inj.mp hiv
    exact congrArg (· % 16777216) (c_lushr bits ((8 : Int32) * 2) 16 (by decide +kernel) (by decide))
  | 3, _, hiv =>
    obtain rfl : iv = 3 := Int32.toInt_inj.mp hiv
    exact congrArg (· % 16777216) (c_lushr bits ((8 : Int32) * 3) 24 (by decide +kernel) (by decide))
  | 4, _, hiv =>
    obtain rfl : iv = 4 := Int32.toInt_inj.mp hiv
    exact congrArg (· % 16777216) (c_lushr bits ((8 : Int32) * 4) 32 (by decide +kernel) (by decide))
  | 5, _, hiv =>
    obtain rfl : iv = 5 := Int32.toInt_inj.mp hiv
    exact congrArg (· % 16777216) (c_lushr bits ((8 : Int32) * 5) 40 (by decide +kernel) (by decide))
  | n + 6, h, _ => exact absurd h (by omega)
theorem own_dd (Y : Int) (i : Nat) (hY : 0 ≤ Y) : (Y / (2 ^ (8 * (i + 1)) : Nat)) = (Y / (2 ^ (8 * i) : Nat)) / 256 ∧ (Y / (2 ^ (8 * (i + 2)) : Nat)) = (Y / (2 ^ (8 * i) : Nat)) / 65536 := by
  constructor
  · rw [show 8 * (i + 1) = 8 * i + 8 by omega, Nat.pow_add, Int.natCast_mul, ← Int.ediv_ediv_of_nonneg (Int.natCast_nonneg _)]; rfl
  · rw [show 8 * (i + 2) = 8 * i + 16 by omega, Nat.pow_add, Int.natCast_mul, ← Int.ediv_ediv_of_nonneg (Int.natCast_nonneg _)]; rfl
theorem own_fin (bits : Int64) {nv iv : Int32} {nn jn : Nat} (hnv : nv.toInt = (nn : Int)) (hiv : iv.toInt = (jn : Int)) (hn8 : nn < 9) (hj : jn < 12) :
    (if nv < (iv + (3 : Int32)) then (0 : Int32) else if (nar .byte (own_by bits jn) = 0 ∧ nar .byte (own_by bits (jn + 1)) = 0 ∧ nar .byte (own_by bits (jn + 2)) = 1) then 1 else 0) = if nv < (iv + (3 : Int32)) then 0 else if (own_usm bits ((8 : Int32) * iv)) = (65536 : Int64) then 1 else 0 := by
  by_cases hc : nv < (iv + (3 : Int32))
  · rw [if_pos hc, if_pos hc]
  rw [if_neg hc, if_neg hc]
  have hb := own_bnd hnv hiv (by omega) hc
  obtain ⟨v0, a0, a1, a2, a3⟩ := own_byv bits jn (by omega)
  obtain ⟨v1, b0, b1, b2, b3⟩ := own_byv bits (jn + 1) (by omega)
  obtain ⟨v2, c0, c1, c2, c3⟩ := own_byv bits (jn + 2) (by omega)
  have d := own_usv bits jn (by omega) iv hiv
  have hY : 0 ≤ bits.toInt % 18446744073709551616 := Int.emod_nonneg _ (by decide)
  obtain ⟨g1, g2⟩ := own_dd _ jn hY
  rw [g1] at b3
  rw [g2] at c3
  generalize (bits.toInt % 18446744073709551616) / (2 ^ (8 * jn) : Nat) = Y at a3 b3 c3 d
  have z0 : (0 : Int32).toInt = 0 := rfl
  have z1 : (1 : Int32).toInt = 1 := rfl
  have z2 : (65536 : Int64).toInt = 65536 := rfl
  refine own_ifc ?_
  rw [← Int32.toInt_inj, ← Int32.toInt_inj, ← Int32.toInt_inj, ← Int64.toInt_inj, a0, b0, c0, d, z0, z1, z2]
  omega

theorem own_pn0 : plainName "com/example/bunko/bunko/format/ElementaryStream" = true := by first | (simp [plainName, overriddenIn]; done) | decide +kernel
theorem own_d_prog_33_m11_0 : decode prog_33_method_11_code 0 = .ok (.iload_n 1, 1) := by decide +kernel
theorem own_d_prog_33_m11_1 : decode prog_33_method_11_code 1 = .ok (.iconst 3, 1) := by decide +kernel
theorem own_d_prog_33_m11_2 : decode prog_33_method_11_code 2 = .ok (.iadd, 1) := by decide +kernel
theorem own_d_prog_33_m11_3 : decode prog_33_method_11_code 3 = .ok (.aload_n 0, 1) := by decide +kernel
theorem own_d_prog_33_m11_4 : decode prog_33_method_11_code 4 = .ok (.arraylength, 1) := by decide +kernel
theorem own_d_prog_33_m11_5 : decode prog_33_method_11_code 5 = .ok (.if_icmp .gt 30, 3) := by decide +kernel
theorem own_d_prog_33_m11_35 : decode prog_33_method_11_code 35 = .ok (.iconst 0, 1) := by decide +kernel
theorem own_d_prog_33_m11_36 : decode prog_33_method_11_code 36 = .ok (.ireturn, 1) := by decide +kernel
theorem own_d_prog_33_m11_8 : decode prog_33_method_11_code 8 = .ok (.aload_n 0, 1) := by decide +kernel
theorem own_d_prog_33_m11_9 : decode prog_33_method_11_code 9 = .ok (.iload_n 1, 1) := by decide +kernel
theorem own_d_prog_33_m11_10 : decode prog_33_method_11_code 10 = .ok (.baload, 1) := by decide +kernel
theorem own_d_prog_33_m11_11 : decode prog_33_method_11_code 11 = .ok (.ifCond .ne 24, 3) := by decide +kernel
theorem own_d_prog_33_m11_14 : decode prog_33_method_11_code 14 = .ok (.aload_n 0, 1) := by decide +kernel
theorem own_d_prog_33_m11_15 : decode prog_33_method_11_code 15 = .ok (.iload_n 1, 1) := by decide +kernel
theorem own_d_prog_33_m11_16 : decode prog_33_method_11_code 16 = .ok (.iconst 1, 1) := by decide +kernel
theorem own_d_prog_33_m11_17 : decode prog_33_method_11_code 17 = .ok (.iadd, 1) := by decide +kernel
theorem own_d_prog_33_m11_18 : decode prog_33_method_11_code 18 = .ok (.baload, 1) := by decide +kernel
theorem own_d_prog_33_m11_19 : decode prog_33_method_11_code 19 = .ok (.ifCond .ne 16, 3) := by decide +kernel
theorem own_d_prog_33_m11_22 : decode prog_33_method_11_code 22 = .ok (.aload_n 0, 1) := by decide +kernel
theorem own_d_prog_33_m11_23 : decode prog_33_method_11_code 23 = .ok (.iload_n 1, 1) := by decide +kernel
theorem own_d_prog_33_m11_24 : decode prog_33_method_11_code 24 = .ok (.iconst 2, 1) := by decide +kernel
theorem own_d_prog_33_m11_25 : decode prog_33_method_11_code 25 = .ok (.iadd, 1) := by decide +kernel
theorem own_d_prog_33_m11_26 : decode prog_33_method_11_code 26 = .ok (.baload, 1) := by decide +kernel
theorem own_d_prog_33_m11_27 : decode prog_33_method_11_code 27 = .ok (.iconst 1, 1) := by decide +kernel
theorem own_d_prog_33_m11_28 : decode prog_33_method_11_code 28 = .ok (.if_icmp .ne 7, 3) := by decide +kernel
theorem own_d_prog_33_m11_31 : decode prog_33_method_11_code 31 = .ok (.iconst 1, 1) := by decide +kernel
theorem own_d_prog_33_m11_32 : decode prog_33_method_11_code 32 = .ok (.goto 4, 3) := by decide +kernel
theorem own_pn1 : plainName "com/example/bunko/bunko/format/ElementaryStreamIsStartCodePinLaw" = true := by first | (simp [plainName, overriddenIn]; done) | decide +kernel
theorem own_pd0 : parseMethodDescriptor "([BI)Z" = some ⟨[(.array .byte), .int], some .boolean⟩ := by decide +kernel
def Q_isc (Z : State) (a1 : Addr) (j : Int32) (jn : Nat) (nv : Int32) (nn : Nat) (f : Nat → Value) (gv : Nat → Int32) (h0 : Heap) (n0 : Nat) (v : Option Value) (h : Heap) (L : List Loc) : Prop := v = some (.int (if nv < (j + (3 : Int32)) then 0 else if (gv jn = 0 ∧ gv (jn + 1) = 0 ∧ gv (jn + 2) = 1) then 1 else 0)) ∧ Fr n0 L ∧ (h = h0)
theorem ef_isc (m : MethodId) (x0 : Addr) (x1 : Int32)  : entryFrame m #[(.ref x0), (.int x1)] 2 = mkF m 0 #[.val (.ref x0), .val (.int x1)] [] := by first | (simp [entryFrame, mkF, argsToLocals, Value.category]; done) | rfl
set_option maxRecDepth 65536 in
set_option maxHeartbeats 40000000 in
theorem rm_isc (l : Launch) (Z : State) (a0 : Array Value) (hw : ∀ d ∈ tables_1, d.before a0 Z = true) (ws : List Jvm.Cond) (a1 : Addr) (j : Int32) (jn : Nat) (nv : Int32) (nn : Nat) (f : Nat → Value) (gv : Nat → Int32) (h0 : Heap) (n0 : Nat) (Zs : n0 ≤ h0.size) (V_a1 : own_AV Z h0 a1 .byte nn f) (hnv : nv.toInt = (nn : Int)) (hj : j.toInt = (jn : Int)) (hjb : jn ≤ 11) (hv : ∀ i, i < nn → f i = .int (gv i)) :
    MetFree l (⟨"com/example/bunko/bunko/format/ElementaryStream", "isStartCode", "([BI)Z"⟩ : MethodName) (head1 (Jvm.Cond.code (⟨"com/example/bunko/bunko/format/ElementaryStream", "isStartCode", "([BI)Z"⟩ : MethodName) prog_33_method_11_code 2 (some .boolean) :: ws) ({ frames := 0, cells := 0, slots := 0, locals := 0 } : Room)) (fun a U => a = #[(.ref a1), (.int j)] ∧ Z.Warmed39 U.vm ∧ U.heap = h0) (fun _ _ _ _ _ => True) (fun _ U o U' => ∃ v L, o = .returned v ∧ (Q_isc Z a1 j jn nv nn f gv h0 n0) v U'.heap L ∧ FrameEnd U o U' L ({ frames := 0, cells := 0, slots := 0, locals := 0 } : Room).cells ({ frames := 0, cells := 0, slots := 0, locals := 0 } : Room).slots) := by
  refine MetFree.of_bodySF (plainFor_of_name own_pn0) hisR ?_
  intro p e s m args below meth c s₁ Bd hml0 hP hK
  obtain ⟨rfl, hZ, hh⟩ := hP
  have hx := Bd.exec
  have hby := Bd.bytes
  have hlk := BodyLoose.notSynchronized Bd
  have hret := Bd.returns
  have hml : c.maxLocals = 2 := hml0
  have hown : s.vm.findClass "com/example/bunko/bunko/format/ElementaryStream" = some m.cls := findClass_of_methodNamed Bd.named
  have hnm := (name_of_methodNamed Bd.named Bd.method).1
  have X : Stand p l e ({ frames := 0, cells := 0, slots := 0, locals := 0 } : Room) s m #[(.ref a1), (.int j)] below meth c s₁ [] 0 0 := Stand.of_body Bd
  have eT : s₁.heap = h0 := by rw [← hh, Bd.state]; rfl
  have N := Fr.nil n0
  have K0 : Keep h0 h0 [] := Keep.refl _ _
  show own_Go p e below s (Q_isc Z a1 j jn nv nn f gv h0 n0) ({ frames := 0, cells := 0, slots := 0, locals := 0 } : Room).cells ({ frames := 0, cells := 0, slots := 0, locals := 0 } : Room).slots s₁ (entryFrame m #[(.ref a1), (.int j)] 2)
  rw [ef_isc m a1 j]
  refine own_st (T' := s₁) (g' := (mkF m 1 #[.val (.ref a1), .val (.int j)] [(.int j)])) (fun _ zq => XS.iloadN X.here hx rfl (hb hby own_d_prog_33_m11_0) rfl zq) ?_
  refine own_st (T' := s₁) (g' := (mkF m 2 #[.val (.ref a1), .val (.int j)] [(.int (3 : Int32)), (.int j)])) (fun _ zq => XS.iconst X.here hx rfl (hb hby own_d_prog_33_m11_1) zq) ?_
  refine own_st (T' := s₁) (g' := (mkF m 3 #[.val (.ref a1), .val (.int j)] [(.int (j + (3 : Int32)))])) (fun _ zq => XS.iadd X.here hx rfl (hb hby own_d_prog_33_m11_2) rfl zq) ?_
  refine own_st (T' := s₁) (g' := (mkF m 4 #[.val (.ref a1), .val (.int j)] [(.ref a1), (.int (j + (3 : Int32)))])) (fun _ zq => XS.aloadN X.here hx rfl (hb hby own_d_prog_33_m11_3) rfl rfl zq) ?_
  refine own_st (T' := s₁) (g' := (mkF m 5 #[.val (.ref a1), .val (.int j)] [(.int nv), (.int (j + (3 : Int32)))])) (own_len (z := nv) X hx hZ eT V_a1 hnv (g := (mkF m 4 #[.val (.ref a1), .val (.int j)] [(.ref a1), (.int (j + (3 : Int32)))])) rfl rfl (hb hby own_d_prog_33_m11_4)) ?_
  by_cases hc : nv < (j + (3 : Int32))
  · skip
    refine own_st (T' := s₁) (g' := (mkF m 35 #[.val (.ref a1), .val (.int j)] [])) (fun _ zq => XS.icmpYes X.here hx rfl (pc0 := 5) (pc' := 35) rfl (hb hby own_d_prog_33_m11_5) rfl (tlt hc).2.2.1 (by decide) (by decide) zq) ?_
    refine own_st (T' := s₁) (g' := (mkF m 36 #[.val (.ref a1), .val (.int j)] [(.int (0 : Int32))])) (fun _ zq => XS.iconst X.here hx rfl (hb hby own_d_prog_33_m11_35) zq) ?_
    exact own_ret X hx hret hlk (i := .ireturn) rfl (Or.inl ⟨rfl, by decide, _, rfl⟩) (hb hby own_d_prog_33_m11_36) eT (Nat.le_of_ble_eq_true rfl) (Nat.le_of_ble_eq_true rfl) ⟨by rw [if_pos hc], N, rfl⟩
  · skip
    refine own_st (T' := s₁) (g' := (mkF m 8 #[.val (.ref a1), .val (.int j)] [])) (fun _ zq => XS.icmpNo X.here hx rfl (hb hby own_d_prog_33_m11_5) rfl (flt hc).2.2.1 zq) ?_
    have hbn := own_bnd hnv hj hjb hc
    refine own_st (T' := s₁) (g' := (mkF m 9 #[.val (.ref a1), .val (.int j)] [(.ref a1)])) (fun _ zq => XS.aloadN X.here hx rfl (hb hby own_d_prog_33_m11_8) rfl rfl zq) ?_
    refine own_st (T' := s₁) (g' := (mkF m 10 #[.val (.ref a1), .val (.int j)] [(.int j), (.ref a1)])) (fun _ zq => XS.iloadN X.here hx rfl (hb hby own_d_prog_33_m11_9) rfl zq) ?_
    refine own_st (T' := s₁) (g' := (mkF m 11 #[.val (.ref a1), .val (.int j)] [(.int (gv jn))])) (own_ldB X hx hZ eT V_a1 (j := j) (jn) hj (by omega) (w := (.int (gv jn))) (hv _ (by omega)) (g := (mkF m 10 #[.val (.ref a1), .val (.int j)] [(.int j), (.ref a1)])) rfl rfl (hb hby own_d_prog_33_m11_10)) ?_
    by_cases hd0 : (gv jn) = (0 : Int32)
    case neg =>
      refine own_st (T' := s₁) (g' := (mkF m 35 #[.val (.ref a1), .val (.int j)] [])) (fun _ zq => XS.ifYes X.here hx rfl (pc0 := 11) (pc' := 35) rfl (hb hby own_d_prog_33_m11_11) rfl ((if0 _ _).trans (feq hd0).2) (by decide) (by decide) zq) ?_
      refine own_st (T' := s₁) (g' := (mkF m 36 #[.val (.ref a1), .val (.int j)] [(.int (0 : Int32))])) (fun _ zq => XS.iconst X.here hx rfl (hb hby own_d_prog_33_m11_35) zq) ?_
      exact own_ret X hx hret hlk (i := .ireturn) rfl (Or.inl ⟨rfl, by decide, _, rfl⟩) (hb hby own_d_prog_33_m11_36) eT (Nat.le_of_ble_eq_true rfl) (Nat.le_of_ble_eq_true rfl) ⟨by rw [if_neg hc, if_neg (fun q => hd0 q.1)], N, rfl⟩
    · skip
      refine own_st (T' := s₁) (g' := (mkF m 14 #[.val (.ref a1), .val (.int j)] [])) (fun _ zq => XS.ifNo X.here hx rfl (hb hby own_d_prog_33_m11_11) rfl ((if0 _ _).trans (teq hd0).2) zq) ?_
      refine own_st (T' := s₁) (g' := (mkF m 15 #[.val (.ref a1), .val (.int j)] [(.ref a1)])) (fun _ zq => XS.aloadN X.here hx rfl (hb hby own_d_prog_33_m11_14) rfl rfl zq) ?_
      refine own_st (T' := s₁) (g' := (mkF m 16 #[.val (.ref a1), .val (.int j)] [(.int j), (.ref a1)])) (fun _ zq => XS.iloadN X.here hx rfl (hb hby own_d_prog_33_m11_15) rfl zq) ?_
      refine own_st (T' := s₁) (g' := (mkF m 17 #[.val (.ref a1), .val (.int j)] [(.int (1 : Int32)), (.int j), (.ref a1)])) (fun _ zq => XS.iconst X.here hx rfl (hb hby own_d_prog_33_m11_16) zq) ?_
      refine own_st (T' := s₁) (g' := (mkF m 18 #[.val (.ref a1), .val (.int j)] [(.int (j + (1 : Int32))), (.ref a1)])) (fun _ zq => XS.iadd X.here hx rfl (hb hby own_d_prog_33_m11_17) rfl zq) ?_
      refine own_st (T' := s₁) (g' := (mkF m 19 #[.val (.ref a1), .val (.int j)] [(.int (gv (jn + 1)))])) (own_ldB X hx hZ eT V_a1 (j := (j + (1 : Int32))) (jn + 1) (own_j1 hj hjb) (by omega) (w := (.int (gv (jn + 1)))) (hv _ (by omega)) (g := (mkF m 18 #[.val (.ref a1), .val (.int j)] [(.int (j + (1 : Int32))), (.ref a1)])) rfl rfl (hb hby own_d_prog_33_m11_18)) ?_
      by_cases hd1 : (gv (jn + 1)) = (0 : Int32)
      case neg =>
        refine own_st (T' := s₁) (g' := (mkF m 35 #[.val (.ref a1), .val (.int j)] [])) (fun _ zq => XS.ifYes X.here hx rfl (pc0 := 19) (pc' := 35) rfl (hb hby own_d_prog_33_m11_19) rfl ((if0 _ _).trans (feq hd1).2) (by decide) (by decide) zq) ?_
        refine own_st (T' := s₁) (g' := (mkF m 36 #[.val (.ref a1), .val (.int j)] [(.int (0 : Int32))])) (fun _ zq => XS.iconst X.here hx rfl (hb hby own_d_prog_33_m11_35) zq) ?_
        exact own_ret X hx hret hlk (i := .ireturn) rfl (Or.inl ⟨rfl, by decide, _, rfl⟩) (hb hby own_d_prog_33_m11_36) eT (Nat.le_of_ble_eq_true rfl) (Nat.le_of_ble_eq_true rfl) ⟨by rw [if_neg hc, if_neg (fun q => hd1 q.2.1)], N, rfl⟩
      · skip
        refine own_st (T' := s₁) (g' := (mkF m 22 #[.val (.ref a1), .val (.int j)] [])) (fun _ zq => XS.ifNo X.here hx rfl (hb hby own_d_prog_33_m11_19) rfl ((if0 _ _).trans (teq hd1).2) zq) ?_
        refine own_st (T' := s₁) (g' := (mkF m 23 #[.val (.ref a1), .val (.int j)] [(.ref a1)])) (fun _ zq => XS.aloadN X.here hx rfl (hb hby own_d_prog_33_m11_22) rfl rfl zq) ?_
        refine own_st (T' := s₁) (g' := (mkF m 24 #[.val (.ref a1), .val (.int j)] [(.int j), (.ref a1)])) (fun _ zq => XS.iloadN X.here hx rfl (hb hby own_d_prog_33_m11_23) rfl zq) ?_
        refine own_st (T' := s₁) (g' := (mkF m 25 #[.val (.ref a1), .val (.int j)] [(.int (2 : Int32)), (.int j), (.ref a1)])) (fun _ zq => XS.iconst X.here hx rfl (hb hby own_d_prog_33_m11_24) zq) ?_
        refine own_st (T' := s₁) (g' := (mkF m 26 #[.val (.ref a1), .val (.int j)] [(.int (j + (2 : Int32))), (.ref a1)])) (fun _ zq => XS.iadd X.here hx rfl (hb hby own_d_prog_33_m11_25) rfl zq) ?_
        refine own_st (T' := s₁) (g' := (mkF m 27 #[.val (.ref a1), .val (.int j)] [(.int (gv (jn + 2)))])) (own_ldB X hx hZ eT V_a1 (j := (j + (2 : Int32))) (jn + 2) (own_j2 hj hjb) (by omega) (w := (.int (gv (jn + 2)))) (hv _ (by omega)) (g := (mkF m 26 #[.val (.ref a1), .val (.int j)] [(.int (j + (2 : Int32))), (.ref a1)])) rfl rfl (hb hby own_d_prog_33_m11_26)) ?_
        refine own_st (T' := s₁) (g' := (mkF m 28 #[.val (.ref a1), .val (.int j)] [(.int (1 : Int32)), (.int (gv (jn + 2)))])) (fun _ zq => XS.iconst X.here hx rfl (hb hby own_d_prog_33_m11_27) zq) ?_
        by_cases hd2 : (gv (jn + 2)) = (1 : Int32)
        case neg =>
          refine own_st (T' := s₁) (g' := (mkF m 35 #[.val (.ref a1), .val (.int j)] [])) (fun _ zq => XS.icmpYes X.here hx rfl (pc0 := 28) (pc' := 35) rfl (hb hby own_d_prog_33_m11_28) rfl (feq hd2).2 (by decide) (by decide) zq) ?_
          refine own_st (T' := s₁) (g' := (mkF m 36 #[.val (.ref a1), .val (.int j)] [(.int (0 : Int32))])) (fun _ zq => XS.iconst X.here hx rfl (hb hby own_d_prog_33_m11_35) zq) ?_
          exact own_ret X hx hret hlk (i := .ireturn) rfl (Or.inl ⟨rfl, by decide, _, rfl⟩) (hb hby own_d_prog_33_m11_36) eT (Nat.le_of_ble_eq_true rfl) (Nat.le_of_ble_eq_true rfl) ⟨by rw [if_neg hc, if_neg (fun q => hd2 q.2.2)], N, rfl⟩
        · skip
          refine own_st (T' := s₁) (g' := (mkF m 31 #[.val (.ref a1), .val (.int j)] [])) (fun _ zq => XS.icmpNo X.here hx rfl (hb hby own_d_prog_33_m11_28) rfl (teq hd2).2 zq) ?_
          refine own_st (T' := s₁) (g' := (mkF m 32 #[.val (.ref a1), .val (.int j)] [(.int (1 : Int32))])) (fun _ zq => XS.iconst X.here hx rfl (hb hby own_d_prog_33_m11_31) zq) ?_
          refine own_st (T' := s₁) (g' := (mkF m 36 #[.val (.ref a1), .val (.int j)] [(.int (1 : Int32))])) (fun _ zq => XS.goto X.here hx rfl (pc0 := 32) (pc' := 36) rfl (hb hby own_d_prog_33_m11_32) (by decide) (by decide) zq) ?_
          exact own_ret X hx hret hlk (i := .ireturn) rfl (Or.inl ⟨rfl, by decide, _, rfl⟩) (hb hby own_d_prog_33_m11_36) eT (Nat.le_of_ble_eq_true rfl) (Nat.le_of_ble_eq_true rfl) ⟨by rw [if_neg hc, if_pos ⟨hd0, hd1, hd2⟩], N, rfl⟩
def Q_law (Z : State) (p0 : Int32) (p1 : Int32) (bits : Int64) (h0 : Heap) (n0 : Nat) (v : Option Value) (h : Heap) (L : List Loc) : Prop := v = some (.int 1) ∧ Fr n0 L
theorem ef_law (m : MethodId) (x0 : Int32) (x1 : Int32) (x2 : Int64)  : entryFrame m #[(.int x0), (.int x1), (.long x2)] maxLocals = mkF m 0 #[.val (.int x0), .val (.int x1), .val (.long x2), .second, .unset, .unset, .unset, .unset] [] := by first | (simp [entryFrame, mkF, argsToLocals, Value.category, maxLocals]; done) | rfl
set_option maxRecDepth 65536 in
set_option maxHeartbeats 40000000 in
theorem rm_law (l : Launch) (Z : State) (a0 : Array Value) (hw : ∀ d ∈ tables_1, d.before a0 Z = true) (ws : List Jvm.Cond) (p0 : Int32) (p1 : Int32) (bits : Int64) (h0 : Heap) (n0 : Nat) (Zs : n0 ≤ h0.size)  :
    MetFree l x (head1 (Jvm.Cond.code x code maxLocals ret :: ws) room_1) (fun a U => a = #[(.int p0), (.int p1), (.long bits)] ∧ Z.Warmed39 U.vm ∧ U.heap = h0) (fun _ _ _ _ _ => True) (fun _ U o U' => ∃ v L, o = .returned v ∧ (Q_law Z p0 p1 bits h0 n0) v U'.heap L ∧ FrameEnd U o U' L 16 128) := by
  refine MetFree.of_bodySF (plainFor_of_name own_pn1) hisR ?_
  intro p e s m args below meth c s₁ Bd hml0 hP hK
  obtain ⟨rfl, hZ, hh⟩ := hP
  have hx := Bd.exec
  have hby := Bd.bytes
  have hlk := BodyLoose.notSynchronized Bd
  have hret := Bd.returns
  have hml : c.maxLocals = 8 := hml0
  have hown : s.vm.findClass "com/example/bunko/bunko/format/ElementaryStreamIsStartCodePinLaw" = some m.cls := findClass_of_methodNamed Bd.named
  have hnm := (name_of_methodNamed Bd.named Bd.method).1
  have X : Stand p l e room_1 s m #[(.int p0), (.int p1), (.long bits)] below meth c s₁ [] 0 0 := Stand.of_body Bd
  have eT : s₁.heap = h0 := by rw [← hh, Bd.state]; rfl
  have N := Fr.nil n0
  have K0 : Keep h0 h0 [] := Keep.refl _ _
  show own_Go p e below s (Q_law Z p0 p1 bits h0 n0) 16 128 s₁ (entryFrame m #[(.int p0), (.int p1), (.long bits)] maxLocals)
  rw [ef_law m p0 p1 bits]
  refine own_st (T' := s₁) (g' := (mkF m 1 #[.val (.int p0), .val (.int p1), .val (.long bits), .second, .unset, .unset, .unset, .unset] [(.int p0)])) (fun _ zq => XS.iloadN X.here hx rfl (hb hby at_0) rfl zq) ?_
  refine own_st (T' := s₁) (g' := (mkF m 3 #[.val (.int p0), .val (.int p1), .val (.long bits), .second, .unset, .unset, .unset, .unset] [(.int (2147483647 : Int32)), (.int p0)])) (fun _ zq => X.ldcInt hx hown (mvT hZ (hw _ (List.mem_of_getElem? (i := 0) rfl))) (g := (mkF m 1 #[.val (.int p0), .val (.int p1), .val (.long bits), .second, .unset, .unset, .unset, .unset] [(.int p0)])) rfl (hb hby at_1) _ zq) ?_
  refine own_st (T' := s₁) (g' := (mkF m 4 #[.val (.int p0), .val (.int p1), .val (.long bits), .second, .unset, .unset, .unset, .unset] [(.int (p0 &&& (2147483647 : Int32)))])) (fun _ zq => XS.iand X.here hx rfl (hb hby at_3) rfl zq) ?_
  refine own_st (T' := s₁) (g' := (mkF m 6 #[.val (.int p0), .val (.int p1), .val (.long bits), .second, .unset, .unset, .unset, .unset] [(.int (9 : Int32)), (.int (p0 &&& (2147483647 : Int32)))])) (fun _ zq => XS.bipush X.here hx rfl (hb hby at_4) zq) ?_
  refine own_st (T' := s₁) (g' := (mkF m 7 #[.val (.int p0), .val (.int p1), .val (.long bits), .second, .unset, .unset, .unset, .unset] [(.int ((p0 &&& (2147483647 : Int32)) % (9 : Int32)))])) (fun _ zq => iremM (g := (mkF m 6 #[.val (.int p0), .val (.int p1), .val (.long bits), .second, .unset, .unset, .unset, .unset] [(.int (9 : Int32)), (.int (p0 &&& (2147483647 : Int32)))])) X hx rfl (hb hby at_6) rfl (by decide) zq) ?_
  refine own_nm (f := fun z_ => (mkF m 7 #[.val (.int p0), .val (.int p1), .val (.long bits), .second, .unset, .unset, .unset, .unset] [(.int z_)])) ((p0 &&& (2147483647 : Int32)) % (9 : Int32)) (fun nv hnv0 => ?_)
  show own_Go p e below s (Q_law Z p0 p1 bits h0 n0) 16 128 s₁ (mkF m 7 #[.val (.int p0), .val (.int p1), .val (.long bits), .second, .unset, .unset, .unset, .unset] [(.int nv)])
  obtain ⟨nn, hnv, hn8⟩ := own_rem p0 (9 : Int32) nv 9 rfl (by decide) hnv0
  refine own_st (T' := s₁) (g' := (mkF m 9 #[.val (.int p0), .val (.int p1), .val (.long bits), .second, .val (.int nv), .unset, .unset, .unset] [])) (fun _ zq => XS.istore X.here hx rfl (hb hby at_7) rfl (l' := #[.val (.int p0), .val (.int p1), .val (.long bits), .second, .val (.int nv), .unset, .unset, .unset]) rfl zq) ?_
  refine own_st (T' := s₁) (g' := (mkF m 10 #[.val (.int p0), .val (.int p1), .val (.long bits), .second, .val (.int nv), .unset, .unset, .unset] [(.int p1)])) (fun _ zq => XS.iloadN X.here hx rfl (hb hby at_9) rfl zq) ?_
  refine own_st (T' := s₁) (g' := (mkF m 12 #[.val (.int p0), .val (.int p1), .val (.long bits), .second, .val (.int nv), .unset, .unset, .unset] [(.int (2147483647 : Int32)), (.int p1)])) (fun _ zq => X.ldcInt hx hown (mvT hZ (hw _ (List.mem_of_getElem? (i := 0) rfl))) (g := (mkF m 10 #[.val (.int p0), .val (.int p1), .val (.long bits), .second, .val (.int nv), .unset, .unset, .unset] [(.int p1)])) rfl (hb hby at_10) _ zq) ?_
  refine own_st (T' := s₁) (g' := (mkF m 13 #[.val (.int p0), .val (.int p1), .val (.long bits), .second, .val (.int nv), .unset, .unset, .unset] [(.int (p1 &&& (2147483647 : Int32)))])) (fun _ zq => XS.iand X.here hx rfl (hb hby at_12) rfl zq) ?_
  refine own_st (T' := s₁) (g' := (mkF m 15 #[.val (.int p0), .val (.int p1), .val (.long bits), .second, .val (.int nv), .unset, .unset, .unset] [(.int (12 : Int32)), (.int (p1 &&& (2147483647 : Int32)))])) (fun _ zq => XS.bipush X.here hx rfl (hb hby at_13) zq) ?_
  refine own_st (T' := s₁) (g' := (mkF m 16 #[.val (.int p0), .val (.int p1), .val (.long bits), .second, .val (.int nv), .unset, .unset, .unset] [(.int ((p1 &&& (2147483647 : Int32)) % (12 : Int32)))])) (fun _ zq => iremM (g := (mkF m 15 #[.val (.int p0), .val (.int p1), .val (.long bits), .second, .val (.int nv), .unset, .unset, .unset] [(.int (12 : Int32)), (.int (p1 &&& (2147483647 : Int32)))])) X hx rfl (hb hby at_15) rfl (by decide) zq) ?_
  refine own_nm (f := fun z_ => (mkF m 16 #[.val (.int p0), .val (.int p1), .val (.long bits), .second, .val (.int nv), .unset, .unset, .unset] [(.int z_)])) ((p1 &&& (2147483647 : Int32)) % (12 : Int32)) (fun iv hiv0 => ?_)
  show own_Go p e below s (Q_law Z p0 p1 bits h0 n0) 16 128 s₁ (mkF m 16 #[.val (.int p0), .val (.int p1), .val (.long bits), .second, .val (.int nv), .unset, .unset, .unset] [(.int iv)])
  obtain ⟨jn, hiv, hj11⟩ := own_rem p1 (12 : Int32) iv 12 rfl (by decide) hiv0
  refine own_st (T' := s₁) (g' := (mkF m 18 #[.val (.int p0), .val (.int p1), .val (.long bits), .second, .val (.int nv), .val (.int iv), .unset, .unset] [])) (fun _ zq => XS.istore X.here hx rfl (hb hby at_16) rfl (l' := #[.val (.int p0), .val (.int p1), .val (.long bits), .second, .val (.int nv), .val (.int iv), .unset, .unset]) rfl zq) ?_
  refine own_st (T' := s₁) (g' := (mkF m 20 #[.val (.int p0), .val (.int p1), .val (.long bits), .second, .val (.int nv), .val (.int iv), .unset, .unset] [(.int nv)])) (fun _ zq => XS.iload X.here hx rfl (hb hby at_18) rfl zq) ?_
  obtain ⟨T1, h1, k1, X1, e1, E1, A1, st1⟩ := newP X hx hZ (hw _ (List.mem_of_getElem? (i := 1) rfl)) eT (g := (mkF m 20 #[.val (.int p0), .val (.int p1), .val (.long bits), .second, .val (.int nv), .val (.int iv), .unset, .unset] [(.int nv)])) rfl (hb hby at_20) rfl (own_clamp hnv).1 (cap := 8) (by rw [(own_clamp hnv).2]; omega) (by decide) (by decide) (by decide)
  obtain ⟨b1, ga1⟩ : ∃ z, z = h0.size := ⟨_, rfl⟩
  rw [← ga1] at A1 st1
  have g_b1 : n0 ≤ b1 := Nat.le_trans Zs (Nat.le_of_eq ga1.symm)
  replace Zs := Nat.le_trans Zs E1.1
  have V_b1 : own_AV Z h1 b1 .byte nn (fun _ => .int (0 : Int32)) := own_AV.new A1 hnv
  refine own_st (g' := (mkF m 22 #[.val (.int p0), .val (.int p1), .val (.long bits), .second, .val (.int nv), .val (.int iv), .unset, .unset] [(.ref b1)])) st1 ?_
  refine own_st (T' := T1) (g' := (mkF m 24 #[.val (.int p0), .val (.int p1), .val (.long bits), .second, .val (.int nv), .val (.int iv), .val (.ref b1), .unset] [])) (fun _ zq => XS.astore X1.here hx rfl (hb hby at_22) rfl rfl (l' := #[.val (.int p0), .val (.int p1), .val (.long bits), .second, .val (.int nv), .val (.int iv), .val (.ref b1), .unset]) rfl zq) ?_
  refine own_st (T' := T1) (g' := (mkF m 26 #[.val (.int p0), .val (.int p1), .val (.long bits), .second, .val (.int nv), .val (.int iv), .val (.ref b1), .unset] [(.int nv)])) (fun _ zq => XS.iload X1.here hx rfl (hb hby at_24) rfl zq) ?_
  have hf0 : ∀ i, i < 0 → i < nn → (fun _ => Value.int (0 : Int32)) i = (fun i => Value.int (nar .byte (own_by bits i))) i := fun i hi => absurd hi (Nat.not_lt_zero _)
  suffices J36 : ∀ (T2 : State) (lo2 : List Loc) (h2 : Heap) (X2 : Stand p l e room_1 s m #[(.int p0), (.int p1), (.long bits)] below meth c T2 lo2 1 8) (e2 : T2.heap = h2) (N2 : Fr n0 lo2) (Z2 : n0 ≤ h2.size) (f1 : Nat → Value) (V_b1 : own_AV Z h2 b1 .byte nn f1) (hf1 : ∀ i, i < 1 → i < nn → f1 i = (fun i => Value.int (nar .byte (own_by bits i))) i), own_Go p e below s (Q_law Z p0 p1 bits h0 n0) 16 128 T2 (mkF m 36 #[.val (.int p0), .val (.int p1), .val (.long bits), .second, .val (.int nv), .val (.int iv), .val (.ref b1), .unset] []) by
    by_cases hc : (0 : Int32) < nv
    · skip
      refine own_st (T' := T1) (g' := (mkF m 29 #[.val (.int p0), .val (.int p1), .val (.long bits), .second, .val (.int nv), .val (.int iv), .val (.ref b1), .unset] [])) (fun _ zq => XS.ifNo X1.here hx rfl (hb hby at_26) rfl ((if0 _ _).trans (tlt hc).2.2.2) zq) ?_
      refine own_st (T' := T1) (g' := (mkF m 31 #[.val (.int p0), .val (.int p1), .val (.long bits), .second, .val (.int nv), .val (.int iv), .val (.ref b1), .unset] [(.ref b1)])) (fun _ zq => XS.aload X1.here hx rfl (hb hby at_29) rfl rfl zq) ?_
      refine own_st (T' := T1) (g' := (mkF m 32 #[.val (.int p0), .val (.int p1), .val (.long bits), .second, .val (.int nv), .val (.int iv), .val (.ref b1), .unset] [(.int (0 : Int32)), (.ref b1)])) (fun _ zq => XS.iconst X1.here hx rfl (hb hby at_31) zq) ?_
      refine own_st (T' := T1) (g' := (mkF m 33 #[.val (.int p0), .val (.int p1), .val (.long bits), .second, .val (.int nv), .val (.int iv), .val (.ref b1), .unset] [(.long bits), (.int (0 : Int32)), (.ref b1)])) (fun _ zq => XS.lloadN X1.here hx rfl (hb hby at_32) rfl zq) ?_
      refine own_st (T' := T1) (g' := (mkF m 34 #[.val (.int p0), .val (.int p1), .val (.long bits), .second, .val (.int nv), .val (.int iv), .val (.ref b1), .unset] [(.int (bits.toInt32)), (.int (0 : Int32)), (.ref b1)])) (fun _ zq => XS.l2i X1.here hx rfl (hb hby at_33) rfl zq) ?_
      refine own_st (T' := T1) (g' := (mkF m 35 #[.val (.int p0), .val (.int p1), .val (.long bits), .second, .val (.int nv), .val (.int iv), .val (.ref b1), .unset] [(.int ((bits.toInt32).toInt8.toInt32)), (.int (0 : Int32)), (.ref b1)])) (fun _ zq => XS.i2b X1.here hx rfl (hb hby at_34) rfl zq) ?_
      obtain ⟨T3, h3, X3, e3, W3, V3, st3⟩ := own_stB X1 hx hZ e1 V_b1 (j := (0 : Int32)) (0) rfl (own_lt (k := 0) rfl hc hnv) (g := (mkF m 35 #[.val (.int p0), .val (.int p1), .val (.long bits), .second, .val (.int nv), .val (.int iv), .val (.ref b1), .unset] [(.int ((bits.toInt32).toInt8.toInt32)), (.int (0 : Int32)), (.ref b1)])) rfl rfl (hb hby at_35)
      replace Zs := Nat.le_trans Zs (Keep.of_wr W3).1
      replace V_b1 := V3
      replace N := Fr.snoc X3 N g_b1
      refine own_st (g' := (mkF m 36 #[.val (.int p0), .val (.int p1), .val (.long bits), .second, .val (.int nv), .val (.int iv), .val (.ref b1), .unset] [])) st3 ?_
      exact J36 T3 _ h3 (X3.more (Nat.le_of_ble_eq_true rfl) (Nat.le_of_ble_eq_true rfl)) e3 N Zs _ V_b1 (own_up hf0 rfl)
    · skip
      refine own_st (T' := T1) (g' := (mkF m 36 #[.val (.int p0), .val (.int p1), .val (.long bits), .second, .val (.int nv), .val (.int iv), .val (.ref b1), .unset] [])) (fun _ zq => XS.ifYes X1.here hx rfl (pc0 := 26) (pc' := 36) rfl (hb hby at_26) rfl ((if0 _ _).trans (flt hc).2.2.2) (by decide) (by decide) zq) ?_
      exact J36 T1 _ h1 (X1.more (Nat.le_of_ble_eq_true rfl) (Nat.le_of_ble_eq_true rfl)) e1 N Zs _ V_b1 (own_no hf0 (fun q => hc (own_tl (k := 0) rfl q hnv)))
  intro T2 lo2 h2 X2 e2 N2 Z2 f1 V_b1 hf1
  refine own_st (T' := T2) (g' := (mkF m 38 #[.val (.int p0), .val (.int p1), .val (.long bits), .second, .val (.int nv), .val (.int iv), .val (.ref b1), .unset] [(.int nv)])) (fun _ zq => XS.iload X2.here hx rfl (hb hby at_36) rfl zq) ?_
  refine own_st (T' := T2) (g' := (mkF m 39 #[.val (.int p0), .val (.int p1), .val (.long bits), .second, .val (.int nv), .val (.int iv), .val (.ref b1), .unset] [(.int (1 : Int32)), (.int nv)])) (fun _ zq => XS.iconst X2.here hx rfl (hb hby at_38) zq) ?_
  suffices J52 : ∀ (T4 : State) (lo4 : List Loc) (h4 : Heap) (X4 : Stand p l e room_1 s m #[(.int p0), (.int p1), (.long bits)] below meth c T4 lo4 1 8) (e4 : T4.heap = h4) (N4 : Fr n0 lo4) (Z4 : n0 ≤ h4.size) (f2 : Nat → Value) (V_b1 : own_AV Z h4 b1 .byte nn f2) (hf2 : ∀ i, i < 2 → i < nn → f2 i = (fun i => Value.int (nar .byte (own_by bits i))) i), own_Go p e below s (Q_law Z p0 p1 bits h0 n0) 16 128 T4 (mkF m 52 #[.val (.int p0), .val (.int p1), .val (.long bits), .second, .val (.int nv), .val (.int iv), .val (.ref b1), .unset] []) by
    by_cases hc : (1 : Int32) < nv
    · skip
      refine own_st (T' := T2) (g' := (mkF m 42 #[.val (.int p0), .val (.int p1), .val (.long bits), .second, .val (.int nv), .val (.int iv), .val (.ref b1), .unset] [])) (fun _ zq => XS.icmpNo X2.here hx rfl (hb hby at_39) rfl (tlt hc).2.2.2 zq) ?_
      refine own_st (T' := T2) (g' := (mkF m 44 #[.val (.int p0), .val (.int p1), .val (.long bits), .second, .val (.int nv), .val (.int iv), .val (.ref b1), .unset] [(.ref b1)])) (fun _ zq => XS.aload X2.here hx rfl (hb hby at_42) rfl rfl zq) ?_
      refine own_st (T' := T2) (g' := (mkF m 45 #[.val (.int p0), .val (.int p1), .val (.long bits), .second, .val (.int nv), .val (.int iv), .val (.ref b1), .unset] [(.int (1 : Int32)), (.ref b1)])) (fun _ zq => XS.iconst X2.here hx rfl (hb hby at_44) zq) ?_
      refine own_st (T' := T2) (g' := (mkF m 46 #[.val (.int p0), .val (.int p1), .val (.long bits), .second, .val (.int nv), .val (.int iv), .val (.ref b1), .unset] [(.long bits), (.int (1 : Int32)), (.ref b1)])) (fun _ zq => XS.lloadN X2.here hx rfl (hb hby at_45) rfl zq) ?_
      refine own_st (T' := T2) (g' := (mkF m 48 #[.val (.int p0), .val (.int p1), .val (.long bits), .second, .val (.int nv), .val (.int iv), .val (.ref b1), .unset] [(.int (8 : Int32)), (.long bits), (.int (1 : Int32)), (.ref b1)])) (fun _ zq => XS.bipush X2.here hx rfl (hb hby at_46) zq) ?_
      refine own_st (T' := T2) (g' := (mkF m 49 #[.val (.int p0), .val (.int p1), .val (.long bits), .second, .val (.int nv), .val (.int iv), .val (.ref b1), .unset] [(.long ((bits.toUInt64 >>> ((8 : Int32) &&& 0x3f).toInt64.toUInt64).toInt64)), (.int (1 : Int32)), (.ref b1)])) (fun _ zq => XS.lushr X2.here hx rfl (hb hby at_48) rfl zq) ?_
      refine own_st (T' := T2) (g' := (mkF m 50 #[.val (.int p0), .val (.int p1), .val (.long bits), .second, .val (.int nv), .val (.int iv), .val (.ref b1), .unset] [(.int (((bits.toUInt64 >>> ((8 : Int32) &&& 0x3f).toInt64.toUInt64).toInt64).toInt32)), (.int (1 : Int32)), (.ref b1)])) (fun _ zq => XS.l2i X2.here hx rfl (hb hby at_49) rfl zq) ?_
      refine own_st (T' := T2) (g' := (mkF m 51 #[.val (.int p0), .val (.int p1), .val (.long bits), .second, .val (.int nv), .val (.int iv), .val (.ref b1), .unset] [(.int ((((bits.toUInt64 >>> ((8 : Int32) &&& 0x3f).toInt64.toUInt64).toInt64).toInt32).toInt8.toInt32)), (.int (1 : Int32)), (.ref b1)])) (fun _ zq => XS.i2b X2.here hx rfl (hb hby at_50) rfl zq) ?_
      obtain ⟨T5, h5, X5, e5, W5, V5, st5⟩ := own_stB X2 hx hZ e2 V_b1 (j := (1 : Int32)) (1) rfl (own_lt (k := 1) rfl hc hnv) (g := (mkF m 51 #[.val (.int p0), .val (.int p1), .val (.long bits), .second, .val (.int nv), .val (.int iv), .val (.ref b1), .unset] [(.int ((((bits.toUInt64 >>> ((8 : Int32) &&& 0x3f).toInt64.toUInt64).toInt64).toInt32).toInt8.toInt32)), (.int (1 : Int32)), (.ref b1)])) rfl rfl (hb hby at_51)
      replace Z2 := Nat.le_trans Z2 (Keep.of_wr W5).1
      replace V_b1 := V5
      replace N2 := Fr.snoc X5 N2 g_b1
      refine own_st (g' := (mkF m 52 #[.val (.int p0), .val (.int p1), .val (.long bits), .second, .val (.int nv), .val (.int iv), .val (.ref b1), .unset] [])) st5 ?_
      exact J52 T5 _ h5 (X5.more (Nat.le_of_ble_eq_true rfl) (Nat.le_of_ble_eq_true rfl)) e5 N2 Z2 _ V_b1 (own_up hf1 rfl)
    · skip
      refine own_st (T' := T2) (g' := (mkF m 52 #[.val (.int p0), .val (.int p1), .val (.long bits), .second, .val (.int nv), .val (.int iv), .val (.ref b1), .unset] [])) (fun _ zq => XS.icmpYes X2.here hx rfl (pc0 := 39) (pc' := 52) rfl (hb hby at_39) rfl (flt hc).2.2.2 (by decide) (by decide) zq) ?_
      exact J52 T2 _ h2 (X2.more (Nat.le_of_ble_eq_true rfl) (Nat.le_of_ble_eq_true rfl)) e2 N2 Z2 _ V_b1 (own_no hf1 (fun q => hc (own_tl (k := 1) rfl q hnv)))
  intro T4 lo4 h4 X4 e4 N4 Z4 f2 V_b1 hf2
  refine own_st (T' := T4) (g' := (mkF m 54 #[.val (.int p0), .val (.int p1), .val (.long bits), .second, .val (.int nv), .val (.int iv), .val (.ref b1), .unset] [(.int nv)])) (fun _ zq => XS.iload X4.here hx rfl (hb hby at_52) rfl zq) ?_
  refine own_st (T' := T4) (g' := (mkF m 55 #[.val (.int p0), .val (.int p1), .val (.long bits), .second, .val (.int nv), .val (.int iv), .val (.ref b1), .unset] [(.int (2 : Int32)), (.int nv)])) (fun _ zq => XS.iconst X4.here hx rfl (hb hby at_54) zq) ?_
  suffices J68 : ∀ (T6 : State) (lo6 : List Loc) (h6 : Heap) (X6 : Stand p l e room_1 s m #[(.int p0), (.int p1), (.long bits)] below meth c T6 lo6 1 8) (e6 : T6.heap = h6) (N6 : Fr n0 lo6) (Z6 : n0 ≤ h6.size) (f3 : Nat → Value) (V_b1 : own_AV Z h6 b1 .byte nn f3) (hf3 : ∀ i, i < 3 → i < nn → f3 i = (fun i => Value.int (nar .byte (own_by bits i))) i), own_Go p e below s (Q_law Z p0 p1 bits h0 n0) 16 128 T6 (mkF m 68 #[.val (.int p0), .val (.int p1), .val (.long bits), .second, .val (.int nv), .val (.int iv), .val (.ref b1), .unset] []) by
    by_cases hc : (2 : Int32) < nv
    · skip
      refine own_st (T' := T4) (g' := (mkF m 58 #[.val (.int p0), .val (.int p1), .val (.long bits), .second, .val (.int nv), .val (.int iv), .val (.ref b1), .unset] [])) (fun _ zq => XS.icmpNo X4.here hx rfl (hb hby at_55) rfl (tlt hc).2.2.2 zq) ?_
      refine own_st (T' := T4) (g' := (mkF m 60 #[.val (.int p0), .val (.int p1), .val (.long bits), .second, .val (.int nv), .val (.int iv), .val (.ref b1), .unset] [(.ref b1)])) (fun _ zq => XS.aload X4.here hx rfl (hb hby at_58) rfl rfl zq) ?_
      refine own_st (T' := T4) (g' := (mkF m 61 #[.val (.int p0), .val (.int p1), .val (.long bits), .second, .val (.int nv), .val (.int iv), .val (.ref b1), .unset] [(.int (2 : Int32)), (.ref b1)])) (fun _ zq => XS.iconst X4.here hx rfl (hb hby at_60) zq) ?_
      refine own_st (T' := T4) (g' := (mkF m 62 #[.val (.int p0), .val (.int p1), .val (.long bits), .second, .val (.int nv), .val (.int iv), .val (.ref b1), .unset] [(.long bits), (.int (2 : Int32)), (.ref b1)])) (fun _ zq => XS.lloadN X4.here hx rfl (hb hby at_61) rfl zq) ?_
      refine own_st (T' := T4) (g' := (mkF m 64 #[.val (.int p0), .val (.int p1), .val (.long bits), .second, .val (.int nv), .val (.int iv), .val (.ref b1), .unset] [(.int (16 : Int32)), (.long bits), (.int (2 : Int32)), (.ref b1)])) (fun _ zq => XS.bipush X4.here hx rfl (hb hby at_62) zq) ?_
      refine own_st (T' := T4) (g' := (mkF m 65 #[.val (.int p0), .val (.int p1), .val (.long bits), .second, .val (.int nv), .val (.int iv), .val (.ref b1), .unset] [(.long ((bits.toUInt64 >>> ((16 : Int32) &&& 0x3f).toInt64.toUInt64).toInt64)), (.int (2 : Int32)), (.ref b1)])) (fun _ zq => XS.lushr X4.here hx rfl (hb hby at_64) rfl zq) ?_
      refine own_st (T' := T4) (g' := (mkF m 66 #[.val (.int p0), .val (.int p1), .val (.long bits), .second, .val (.int nv), .val (.int iv), .val (.ref b1), .unset] [(.int (((bits.toUInt64 >>> ((16 : Int32) &&& 0x3f).toInt64.toUInt64).toInt64).toInt32)), (.int (2 : Int32)), (.ref b1)])) (fun _ zq => XS.l2i X4.here hx rfl (hb hby at_65) rfl zq) ?_
      refine own_st (T' := T4) (g' := (mkF m 67 #[.val (.int p0), .val (.int p1), .val (.long bits), .second, .val (.int nv), .val (.int iv), .val (.ref b1), .unset] [(.int ((((bits.toUInt64 >>> ((16 : Int32) &&& 0x3f).toInt64.toUInt64).toInt64).toInt32).toInt8.toInt32)), (.int (2 : Int32)), (.ref b1)])) (fun _ zq => XS.i2b X4.here hx rfl (hb hby at_66) rfl zq) ?_
      obtain ⟨T7, h7, X7, e7, W7, V7, st7⟩ := own_stB X4 hx hZ e4 V_b1 (j := (2 : Int32)) (2) rfl (own_lt (k := 2) rfl hc hnv) (g := (mkF m 67 #[.val (.int p0), .val (.int p1), .val (.long bits), .second, .val (.int nv), .val (.int iv), .val (.ref b1), .unset] [(.int ((((bits.toUInt64 >>> ((16 : Int32) &&& 0x3f).toInt64.toUInt64).toInt64).toInt32).toInt8.toInt32)), (.int (2 : Int32)), (.ref b1)])) rfl rfl (hb hby at_67)
      replace Z4 := Nat.le_trans Z4 (Keep.of_wr W7).1
      replace V_b1 := V7
      replace N4 := Fr.snoc X7 N4 g_b1
      refine own_st (g' := (mkF m 68 #[.val (.int p0), .val (.int p1), .val (.long bits), .second, .val (.int nv), .val (.int iv), .val (.ref b1), .unset] [])) st7 ?_
      exact J68 T7 _ h7 (X7.more (Nat.le_of_ble_eq_true rfl) (Nat.le_of_ble_eq_true rfl)) e7 N4 Z4 _ V_b1 (own_up hf2 rfl)
    · skip
      refine own_st (T' := T4) (g' := (mkF m 68 #[.val (.int p0), .val (.int p1), .val (.long bits), .second, .val (.int nv), .val (.int iv), .val (.ref b1), .unset] [])) (fun _ zq => XS.icmpYes X4.here hx rfl (pc0 := 55) (pc' := 68) rfl (hb hby at_55) rfl (flt hc).2.2.2 (by decide) (by decide) zq) ?_
      exact J68 T4 _ h4 (X4.more (Nat.le_of_ble_eq_true rfl) (Nat.le_of_ble_eq_true rfl)) e4 N4 Z4 _ V_b1 (own_no hf2 (fun q => hc (own_tl (k := 2) rfl q hnv)))
  intro T6 lo6 h6 X6 e6 N6 Z6 f3 V_b1 hf3
  refine own_st (T' := T6) (g' := (mkF m 70 #[.val (.int p0), .val (.int p1), .val (.long bits), .second, .val (.int nv), .val (.int iv), .val (.ref b1), .unset] [(.int nv)])) (fun _ zq => XS.iload X6.here hx rfl (hb hby at_68) rfl zq) ?_
  refine own_st (T' := T6) (g' := (mkF m 71 #[.val (.int p0), .val (.int p1), .val (.long bits), .second, .val (.int nv), .val (.int iv), .val (.ref b1), .unset] [(.int (3 : Int32)), (.int nv)])) (fun _ zq => XS.iconst X6.here hx rfl (hb hby at_70) zq) ?_
  suffices J84 : ∀ (T8 : State) (lo8 : List Loc) (h8 : Heap) (X8 : Stand p l e room_1 s m #[(.int p0), (.int p1), (.long bits)] below meth c T8 lo8 1 8) (e8 : T8.heap = h8) (N8 : Fr n0 lo8) (Z8 : n0 ≤ h8.size) (f4 : Nat → Value) (V_b1 : own_AV Z h8 b1 .byte nn f4) (hf4 : ∀ i, i < 4 → i < nn → f4 i = (fun i => Value.int (nar .byte (own_by bits i))) i), own_Go p e below s (Q_law Z p0 p1 bits h0 n0) 16 128 T8 (mkF m 84 #[.val (.int p0), .val (.int p1), .val (.long bits), .second, .val (.int nv), .val (.int iv), .val (.ref b1), .unset] []) by
    by_cases hc : (3 : Int32) < nv
    · skip
      refine own_st (T' := T6) (g' := (mkF m 74 #[.val (.int p0), .val (.int p1), .val (.long bits), .second, .val (.int nv), .val (.int iv), .val (.ref b1), .unset] [])) (fun _ zq => XS.icmpNo X6.here hx rfl (hb hby at_71) rfl (tlt hc).2.2.2 zq) ?_
      refine own_st (T' := T6) (g' := (mkF m 76 #[.val (.int p0), .val (.int p1), .val (.long bits), .second, .val (.int nv), .val (.int iv), .val (.ref b1), .unset] [(.ref b1)])) (fun _ zq => XS.aload X6.here hx rfl (hb hby at_74) rfl rfl zq) ?_
      refine own_st (T' := T6) (g' := (mkF m 77 #[.val (.int p0), .val (.int p1), .val (.long bits), .second, .val (.int nv), .val (.int iv), .val (.ref b1), .unset] [(.int (3 : Int32)), (.ref b1)])) (fun _ zq => XS.iconst X6.here hx rfl (hb hby at_76) zq) ?_
      refine own_st (T' := T6) (g' := (mkF m 78 #[.val (.int p0), .val (.int p1), .val (.long bits), .second, .val (.int nv), .val (.int iv), .val (.ref b1), .unset] [(.long bits), (.int (3 : Int32)), (.ref b1)])) (fun _ zq => XS.lloadN X6.here hx rfl (hb hby at_77) rfl zq) ?_
      refine own_st (T' := T6) (g' := (mkF m 80 #[.val (.int p0), .val (.int p1), .val (.long bits), .second, .val (.int nv), .val (.int iv), .val (.ref b1), .unset] [(.int (24 : Int32)), (.long bits), (.int (3 : Int32)), (.ref b1)])) (fun _ zq => XS.bipush X6.here hx rfl (hb hby at_78) zq) ?_
      refine own_st (T' := T6) (g' := (mkF m 81 #[.val (.int p0), .val (.int p1), .val (.long bits), .second, .val (.int nv), .val (.int iv), .val (.ref b1), .unset] [(.long ((bits.toUInt64 >>> ((24 : Int32) &&& 0x3f).toInt64.toUInt64).toInt64)), (.int (3 : Int32)), (.ref b1)])) (fun _ zq => XS.lushr X6.here hx rfl (hb hby at_80) rfl zq) ?_
      refine own_st (T' := T6) (g' := (mkF m 82 #[.val (.int p0), .val (.int p1), .val (.long bits), .second, .val (.int nv), .val (.int iv), .val (.ref b1), .unset] [(.int (((bits.toUInt64 >>> ((24 : Int32) &&& 0x3f).toInt64.toUInt64).toInt64).toInt32)), (.int (3 : Int32)), (.ref b1)])) (fun _ zq => XS.l2i X6.here hx rfl (hb hby at_81) rfl zq) ?_
      refine own_st (T' := T6) (g' := (mkF m 83 #[.val (.int p0), .val (.int p1), .val (.long bits), .second, .val (.int nv), .val (.int iv), .val (.ref b1), .unset] [(.int ((((bits.toUInt64 >>> ((24 : Int32) &&& 0x3f).toInt64.toUInt64).toInt64).toInt32).toInt8.toInt32)), (.int (3 : Int32)), (.ref b1)])) (fun _ zq => XS.i2b X6.here hx rfl (hb hby at_82) rfl zq) ?_
      obtain ⟨T9, h9, X9, e9, W9, V9, st9⟩ := own_stB X6 hx hZ e6 V_b1 (j := (3 : Int32)) (3) rfl (own_lt (k := 3) rfl hc hnv) (g := (mkF m 83 #[.val (.int p0), .val (.int p1), .val (.long bits), .second, .val (.int nv), .val (.int iv), .val (.ref b1), .unset] [(.int ((((bits.toUInt64 >>> ((24 : Int32) &&& 0x3f).toInt64.toUInt64).toInt64).toInt32).toInt8.toInt32)), (.int (3 : Int32)), (.ref b1)])) rfl rfl (hb hby at_83)
      replace Z6 := Nat.le_trans Z6 (Keep.of_wr W9).1
      replace V_b1 := V9
      replace N6 := Fr.snoc X9 N6 g_b1
      refine own_st (g' := (mkF m 84 #[.val (.int p0), .val (.int p1), .val (.long bits), .second, .val (.int nv), .val (.int iv), .val (.ref b1), .unset] [])) st9 ?_
      exact J84 T9 _ h9 (X9.more (Nat.le_of_ble_eq_true rfl) (Nat.le_of_ble_eq_true rfl)) e9 N6 Z6 _ V_b1 (own_up hf3 rfl)
    · skip
      refine own_st (T' := T6) (g' := (mkF m 84 #[.val (.int p0), .val (.int p1), .val (.long bits), .second, .val (.int nv), .val (.int iv), .val (.ref b1), .unset] [])) (fun _ zq => XS.icmpYes X6.here hx rfl (pc0 := 71) (pc' := 84) rfl (hb hby at_71) rfl (flt hc).2.2.2 (by decide) (by decide) zq) ?_
      exact J84 T6 _ h6 (X6.more (Nat.le_of_ble_eq_true rfl) (Nat.le_of_ble_eq_true rfl)) e6 N6 Z6 _ V_b1 (own_no hf3 (fun q => hc (own_tl (k := 3) rfl q hnv)))
  intro T8 lo8 h8 X8 e8 N8 Z8 f4 V_b1 hf4
  refine own_st (T' := T8) (g' := (mkF m 86 #[.val (.int p0), .val (.int p1), .val (.long bits), .second, .val (.int nv), .val (.int iv), .val (.ref b1), .unset] [(.int nv)])) (fun _ zq => XS.iload X8.here hx rfl (hb hby at_84) rfl zq) ?_
  refine own_st (T' := T8) (g' := (mkF m 87 #[.val (.int p0), .val (.int p1), .val (.long bits), .second, .val (.int nv), .val (.int iv), .val (.ref b1), .unset] [(.int (4 : Int32)), (.int nv)])) (fun _ zq => XS.iconst X8.here hx rfl (hb hby at_86) zq) ?_
  suffices J100 : ∀ (T10 : State) (lo10 : List Loc) (h10 : Heap) (X10 : Stand p l e room_1 s m #[(.int p0), (.int p1), (.long bits)] below meth c T10 lo10 1 8) (e10 : T10.heap = h10) (N10 : Fr n0 lo10) (Z10 : n0 ≤ h10.size) (f5 : Nat → Value) (V_b1 : own_AV Z h10 b1 .byte nn f5) (hf5 : ∀ i, i < 5 → i < nn → f5 i = (fun i => Value.int (nar .byte (own_by bits i))) i), own_Go p e below s (Q_law Z p0 p1 bits h0 n0) 16 128 T10 (mkF m 100 #[.val (.int p0), .val (.int p1), .val (.long bits), .second, .val (.int nv), .val (.int iv), .val (.ref b1), .unset] []) by
    by_cases hc : (4 : Int32) < nv
    · skip
      refine own_st (T' := T8) (g' := (mkF m 90 #[.val (.int p0), .val (.int p1), .val (.long bits), .second, .val (.int nv), .val (.int iv), .val (.ref b1), .unset] [])) (fun _ zq => XS.icmpNo X8.here hx rfl (hb hby at_87) rfl (tlt hc).2.2.2 zq) ?_
      refine own_st (T' := T8) (g' := (mkF m 92 #[.val (.int p0), .val (.int p1), .val (.long bits), .second, .val (.int nv), .val (.int iv), .val (.ref b1), .unset] [(.ref b1)])) (fun _ zq => XS.aload X8.here hx rfl (hb hby at_90) rfl rfl zq) ?_
      refine own_st (T' := T8) (g' := (mkF m 93 #[.val (.int p0), .val (.int p1), .val (.long bits), .second, .val (.int nv), .val (.int iv), .val (.ref b1), .unset] [(.int (4 : Int32)), (.ref b1)])) (fun _ zq => XS.iconst X8.here hx rfl (hb hby at_92) zq) ?_
      refine own_st (T' := T8) (g' := (mkF m 94 #[.val (.int p0), .val (.int p1), .val (.long bits), .second, .val (.int nv), .val (.int iv), .val (.ref b1), .unset] [(.long bits), (.int (4 : Int32)), (.ref b1)])) (fun _ zq => XS.lloadN X8.here hx rfl (hb hby at_93) rfl zq) ?_
      refine own_st (T' := T8) (g' := (mkF m 96 #[.val (.int p0), .val (.int p1), .val (.long bits), .second, .val (.int nv), .val (.int iv), .val (.ref b1), .unset] [(.int (32 : Int32)), (.long bits), (.int (4 : Int32)), (.ref b1)])) (fun _ zq => XS.bipush X8.here hx rfl (hb hby at_94) zq) ?_
      refine own_st (T' := T8) (g' := (mkF m 97 #[.val (.int p0), .val (.int p1), .val (.long bits), .second, .val (.int nv), .val (.int iv), .val (.ref b1), .unset] [(.long ((bits.toUInt64 >>> ((32 : Int32) &&& 0x3f).toInt64.toUInt64).toInt64)), (.int (4 : Int32)), (.ref b1)])) (fun _ zq => XS.lushr X8.here hx rfl (hb hby at_96) rfl zq) ?_
      refine own_st (T' := T8) (g' := (mkF m 98 #[.val (.int p0), .val (.int p1), .val (.long bits), .second, .val (.int nv), .val (.int iv), .val (.ref b1), .unset] [(.int (((bits.toUInt64 >>> ((32 : Int32) &&& 0x3f).toInt64.toUInt64).toInt64).toInt32)), (.int (4 : Int32)), (.ref b1)])) (fun _ zq => XS.l2i X8.here hx rfl (hb hby at_97) rfl zq) ?_
      refine own_st (T' := T8) (g' := (mkF m 99 #[.val (.int p0), .val (.int p1), .val (.long bits), .second, .val (.int nv), .val (.int iv), .val (.ref b1), .unset] [(.int ((((bits.toUInt64 >>> ((32 : Int32) &&& 0x3f).toInt64.toUInt64).toInt64).toInt32).toInt8.toInt32)), (.int (4 : Int32)), (.ref b1)])) (fun _ zq => XS.i2b X8.here hx rfl (hb hby at_98) rfl zq) ?_
      obtain ⟨T11, h11, X11, e11, W11, V11, st11⟩ := own_stB X8 hx hZ e8 V_b1 (j := (4 : Int32)) (4) rfl (own_lt (k := 4) rfl hc hnv) (g := (mkF m 99 #[.val (.int p0), .val (.int p1), .val (.long bits), .second, .val (.int nv), .val (.int iv), .val (.ref b1), .unset] [(.int ((((bits.toUInt64 >>> ((32 : Int32) &&& 0x3f).toInt64.toUInt64).toInt64).toInt32).toInt8.toInt32)), (.int (4 : Int32)), (.ref b1)])) rfl rfl (hb hby at_99)
      replace Z8 := Nat.le_trans Z8 (Keep.of_wr W11).1
      replace V_b1 := V11
      replace N8 := Fr.snoc X11 N8 g_b1
      refine own_st (g' := (mkF m 100 #[.val (.int p0), .val (.int p1), .val (.long bits), .second, .val (.int nv), .val (.int iv), .val (.ref b1), .unset] [])) st11 ?_
      exact J100 T11 _ h11 (X11.more (Nat.le_of_ble_eq_true rfl) (Nat.le_of_ble_eq_true rfl)) e11 N8 Z8 _ V_b1 (own_up hf4 rfl)
    · skip
      refine own_st (T' := T8) (g' := (mkF m 100 #[.val (.int p0), .val (.int p1), .val (.long bits), .second, .val (.int nv), .val (.int iv), .val (.ref b1), .unset] [])) (fun _ zq => XS.icmpYes X8.here hx rfl (pc0 := 87) (pc' := 100) rfl (hb hby at_87) rfl (flt hc).2.2.2 (by decide) (by decide) zq) ?_
      exact J100 T8 _ h8 (X8.more (Nat.le_of_ble_eq_true rfl) (Nat.le_of_ble_eq_true rfl)) e8 N8 Z8 _ V_b1 (own_no hf4 (fun q => hc (own_tl (k := 4) rfl q hnv)))
  intro T10 lo10 h10 X10 e10 N10 Z10 f5 V_b1 hf5
  refine own_st (T' := T10) (g' := (mkF m 102 #[.val (.int p0), .val (.int p1), .val (.long bits), .second, .val (.int nv), .val (.int iv), .val (.ref b1), .unset] [(.int nv)])) (fun _ zq => XS.iload X10.here hx rfl (hb hby at_100) rfl zq) ?_
  refine own_st (T' := T10) (g' := (mkF m 103 #[.val (.int p0), .val (.int p1), .val (.long bits), .second, .val (.int nv), .val (.int iv), .val (.ref b1), .unset] [(.int (5 : Int32)), (.int nv)])) (fun _ zq => XS.iconst X10.here hx rfl (hb hby at_102) zq) ?_
  suffices J116 : ∀ (T12 : State) (lo12 : List Loc) (h12 : Heap) (X12 : Stand p l e room_1 s m #[(.int p0), (.int p1), (.long bits)] below meth c T12 lo12 1 8) (e12 : T12.heap = h12) (N12 : Fr n0 lo12) (Z12 : n0 ≤ h12.size) (f6 : Nat → Value) (V_b1 : own_AV Z h12 b1 .byte nn f6) (hf6 : ∀ i, i < 6 → i < nn → f6 i = (fun i => Value.int (nar .byte (own_by bits i))) i), own_Go p e below s (Q_law Z p0 p1 bits h0 n0) 16 128 T12 (mkF m 116 #[.val (.int p0), .val (.int p1), .val (.long bits), .second, .val (.int nv), .val (.int iv), .val (.ref b1), .unset] []) by
    by_cases hc : (5 : Int32) < nv
    · skip
      refine own_st (T' := T10) (g' := (mkF m 106 #[.val (.int p0), .val (.int p1), .val (.long bits), .second, .val (.int nv), .val (.int iv), .val (.ref b1), .unset] [])) (fun _ zq => XS.icmpNo X10.here hx rfl (hb hby at_103) rfl (tlt hc).2.2.2 zq) ?_
      refine own_st (T' := T10) (g' := (mkF m 108 #[.val (.int p0), .val (.int p1), .val (.long bits), .second, .val (.int nv), .val (.int iv), .val (.ref b1), .unset] [(.ref b1)])) (fun _ zq => XS.aload X10.here hx rfl (hb hby at_106) rfl rfl zq) ?_
      refine own_st (T' := T10) (g' := (mkF m 109 #[.val (.int p0), .val (.int p1), .val (.long bits), .second, .val (.int nv), .val (.int iv), .val (.ref b1), .unset] [(.int (5 : Int32)), (.ref b1)])) (fun _ zq => XS.iconst X10.here hx rfl (hb hby at_108) zq) ?_
      refine own_st (T' := T10) (g' := (mkF m 110 #[.val (.int p0), .val (.int p1), .val (.long bits), .second, .val (.int nv), .val (.int iv), .val (.ref b1), .unset] [(.long bits), (.int (5 : Int32)), (.ref b1)])) (fun _ zq => XS.lloadN X10.here hx rfl (hb hby at_109) rfl zq) ?_
      refine own_st (T' := T10) (g' := (mkF m 112 #[.val (.int p0), .val (.int p1), .val (.long bits), .second, .val (.int nv), .val (.int iv), .val (.ref b1), .unset] [(.int (40 : Int32)), (.long bits), (.int (5 : Int32)), (.ref b1)])) (fun _ zq => XS.bipush X10.here hx rfl (hb hby at_110) zq) ?_
      refine own_st (T' := T10) (g' := (mkF m 113 #[.val (.int p0), .val (.int p1), .val (.long bits), .second, .val (.int nv), .val (.int iv), .val (.ref b1), .unset] [(.long ((bits.toUInt64 >>> ((40 : Int32) &&& 0x3f).toInt64.toUInt64).toInt64)), (.int (5 : Int32)), (.ref b1)])) (fun _ zq => XS.lushr X10.here hx rfl (hb hby at_112) rfl zq) ?_
      refine own_st (T' := T10) (g' := (mkF m 114 #[.val (.int p0), .val (.int p1), .val (.long bits), .second, .val (.int nv), .val (.int iv), .val (.ref b1), .unset] [(.int (((bits.toUInt64 >>> ((40 : Int32) &&& 0x3f).toInt64.toUInt64).toInt64).toInt32)), (.int (5 : Int32)), (.ref b1)])) (fun _ zq => XS.l2i X10.here hx rfl (hb hby at_113) rfl zq) ?_
      refine own_st (T' := T10) (g' := (mkF m 115 #[.val (.int p0), .val (.int p1), .val (.long bits), .second, .val (.int nv), .val (.int iv), .val (.ref b1), .unset] [(.int ((((bits.toUInt64 >>> ((40 : Int32) &&& 0x3f).toInt64.toUInt64).toInt64).toInt32).toInt8.toInt32)), (.int (5 : Int32)), (.ref b1)])) (fun _ zq => XS.i2b X10.here hx rfl (hb hby at_114) rfl zq) ?_
      obtain ⟨T13, h13, X13, e13, W13, V13, st13⟩ := own_stB X10 hx hZ e10 V_b1 (j := (5 : Int32)) (5) rfl (own_lt (k := 5) rfl hc hnv) (g := (mkF m 115 #[.val (.int p0), .val (.int p1), .val (.long bits), .second, .val (.int nv), .val (.int iv), .val (.ref b1), .unset] [(.int ((((bits.toUInt64 >>> ((40 : Int32) &&& 0x3f).toInt64.toUInt64).toInt64).toInt32).toInt8.toInt32)), (.int (5 : Int32)), (.ref b1)])) rfl rfl (hb hby at_115)
      replace Z10 := Nat.le_trans Z10 (Keep.of_wr W13).1
      replace V_b1 := V13
      replace N10 := Fr.snoc X13 N10 g_b1
      refine own_st (g' := (mkF m 116 #[.val (.int p0), .val (.int p1), .val (.long bits), .second, .val (.int nv), .val (.int iv), .val (.ref b1), .unset] [])) st13 ?_
      exact J116 T13 _ h13 (X13.more (Nat.le_of_ble_eq_true rfl) (Nat.le_of_ble_eq_true rfl)) e13 N10 Z10 _ V_b1 (own_up hf5 rfl)
    · skip
      refine own_st (T' := T10) (g' := (mkF m 116 #[.val (.int p0), .val (.int p1), .val (.long bits), .second, .val (.int nv), .val (.int iv), .val (.ref b1), .unset] [])) (fun _ zq => XS.icmpYes X10.here hx rfl (pc0 := 103) (pc' := 116) rfl (hb hby at_103) rfl (flt hc).2.2.2 (by decide) (by decide) zq) ?_
      exact J116 T10 _ h10 (X10.more (Nat.le_of_ble_eq_true rfl) (Nat.le_of_ble_eq_true rfl)) e10 N10 Z10 _ V_b1 (own_no hf5 (fun q => hc (own_tl (k := 5) rfl q hnv)))
  intro T12 lo12 h12 X12 e12 N12 Z12 f6 V_b1 hf6
  refine own_st (T' := T12) (g' := (mkF m 118 #[.val (.int p0), .val (.int p1), .val (.long bits), .second, .val (.int nv), .val (.int iv), .val (.ref b1), .unset] [(.int nv)])) (fun _ zq => XS.iload X12.here hx rfl (hb hby at_116) rfl zq) ?_
  refine own_st (T' := T12) (g' := (mkF m 120 #[.val (.int p0), .val (.int p1), .val (.long bits), .second, .val (.int nv), .val (.int iv), .val (.ref b1), .unset] [(.int (6 : Int32)), (.int nv)])) (fun _ zq => XS.bipush X12.here hx rfl (hb hby at_118) zq) ?_
  suffices J134 : ∀ (T14 : State) (lo14 : List Loc) (h14 : Heap) (X14 : Stand p l e room_1 s m #[(.int p0), (.int p1), (.long bits)] below meth c T14 lo14 1 8) (e14 : T14.heap = h14) (N14 : Fr n0 lo14) (Z14 : n0 ≤ h14.size) (f7 : Nat → Value) (V_b1 : own_AV Z h14 b1 .byte nn f7) (hf7 : ∀ i, i < 7 → i < nn → f7 i = (fun i => Value.int (nar .byte (own_by bits i))) i), own_Go p e below s (Q_law Z p0 p1 bits h0 n0) 16 128 T14 (mkF m 134 #[.val (.int p0), .val (.int p1), .val (.long bits), .second, .val (.int nv), .val (.int iv), .val (.ref b1), .unset] []) by
    by_cases hc : (6 : Int32) < nv
    · skip
      refine own_st (T' := T12) (g' := (mkF m 123 #[.val (.int p0), .val (.int p1), .val (.long bits), .second, .val (.int nv), .val (.int iv), .val (.ref b1), .unset] [])) (fun _ zq => XS.icmpNo X12.here hx rfl (hb hby at_120) rfl (tlt hc).2.2.2 zq) ?_
      refine own_st (T' := T12) (g' := (mkF m 125 #[.val (.int p0), .val (.int p1), .val (.long bits), .second, .val (.int nv), .val (.int iv), .val (.ref b1), .unset] [(.ref b1)])) (fun _ zq => XS.aload X12.here hx rfl (hb hby at_123) rfl rfl zq) ?_
      refine own_st (T' := T12) (g' := (mkF m 127 #[.val (.int p0), .val (.int p1), .val (.long bits), .second, .val (.int nv), .val (.int iv), .val (.ref b1), .unset] [(.int (6 : Int32)), (.ref b1)])) (fun _ zq => XS.bipush X12.here hx rfl (hb hby at_125) zq) ?_
      refine own_st (T' := T12) (g' := (mkF m 128 #[.val (.int p0), .val (.int p1), .val (.long bits), .second, .val (.int nv), .val (.int iv), .val (.ref b1), .unset] [(.long bits), (.int (6 : Int32)), (.ref b1)])) (fun _ zq => XS.lloadN X12.here hx rfl (hb hby at_127) rfl zq) ?_
      refine own_st (T' := T12) (g' := (mkF m 130 #[.val (.int p0), .val (.int p1), .val (.long bits), .second, .val (.int nv), .val (.int iv), .val (.ref b1), .unset] [(.int (48 : Int32)), (.long bits), (.int (6 : Int32)), (.ref b1)])) (fun _ zq => XS.bipush X12.here hx rfl (hb hby at_128) zq) ?_
      refine own_st (T' := T12) (g' := (mkF m 131 #[.val (.int p0), .val (.int p1), .val (.long bits), .second, .val (.int nv), .val (.int iv), .val (.ref b1), .unset] [(.long ((bits.toUInt64 >>> ((48 : Int32) &&& 0x3f).toInt64.toUInt64).toInt64)), (.int (6 : Int32)), (.ref b1)])) (fun _ zq => XS.lushr X12.here hx rfl (hb hby at_130) rfl zq) ?_
      refine own_st (T' := T12) (g' := (mkF m 132 #[.val (.int p0), .val (.int p1), .val (.long bits), .second, .val (.int nv), .val (.int iv), .val (.ref b1), .unset] [(.int (((bits.toUInt64 >>> ((48 : Int32) &&& 0x3f).toInt64.toUInt64).toInt64).toInt32)), (.int (6 : Int32)), (.ref b1)])) (fun _ zq => XS.l2i X12.here hx rfl (hb hby at_131) rfl zq) ?_
      refine own_st (T' := T12) (g' := (mkF m 133 #[.val (.int p0), .val (.int p1), .val (.long bits), .second, .val (.int nv), .val (.int iv), .val (.ref b1), .unset] [(.int ((((bits.toUInt64 >>> ((48 : Int32) &&& 0x3f).toInt64.toUInt64).toInt64).toInt32).toInt8.toInt32)), (.int (6 : Int32)), (.ref b1)])) (fun _ zq => XS.i2b X12.here hx rfl (hb hby at_132) rfl zq) ?_
      obtain ⟨T15, h15, X15, e15, W15, V15, st15⟩ := own_stB X12 hx hZ e12 V_b1 (j := (6 : Int32)) (6) rfl (own_lt (k := 6) rfl hc hnv) (g := (mkF m 133 #[.val (.int p0), .val (.int p1), .val (.long bits), .second, .val (.int nv), .val (.int iv), .val (.ref b1), .unset] [(.int ((((bits.toUInt64 >>> ((48 : Int32) &&& 0x3f).toInt64.toUInt64).toInt64).toInt32).toInt8.toInt32)), (.int (6 : Int32)), (.ref b1)])) rfl rfl (hb hby at_133)
      replace Z12 := Nat.le_trans Z12 (Keep.of_wr W15).1
      replace V_b1 := V15
      replace N12 := Fr.snoc X15 N12 g_b1
      refine own_st (g' := (mkF m 134 #[.val (.int p0), .val (.int p1), .val (.long bits), .second, .val (.int nv), .val (.int iv), .val (.ref b1), .unset] [])) st15 ?_
      exact J134 T15 _ h15 (X15.more (Nat.le_of_ble_eq_true rfl) (Nat.le_of_ble_eq_true rfl)) e15 N12 Z12 _ V_b1 (own_up hf6 rfl)
    · skip
      refine own_st (T' := T12) (g' := (mkF m 134 #[.val (.int p0), .val (.int p1), .val (.long bits), .second, .val (.int nv), .val (.int iv), .val (.ref b1), .unset] [])) (fun _ zq => XS.icmpYes X12.here hx rfl (pc0 := 120) (pc' := 134) rfl (hb hby at_120) rfl (flt hc).2.2.2 (by decide) (by decide) zq) ?_
      exact J134 T12 _ h12 (X12.more (Nat.le_of_ble_eq_true rfl) (Nat.le_of_ble_eq_true rfl)) e12 N12 Z12 _ V_b1 (own_no hf6 (fun q => hc (own_tl (k := 6) rfl q hnv)))
  intro T14 lo14 h14 X14 e14 N14 Z14 f7 V_b1 hf7
  refine own_st (T' := T14) (g' := (mkF m 136 #[.val (.int p0), .val (.int p1), .val (.long bits), .second, .val (.int nv), .val (.int iv), .val (.ref b1), .unset] [(.int nv)])) (fun _ zq => XS.iload X14.here hx rfl (hb hby at_134) rfl zq) ?_
  refine own_st (T' := T14) (g' := (mkF m 138 #[.val (.int p0), .val (.int p1), .val (.long bits), .second, .val (.int nv), .val (.int iv), .val (.ref b1), .unset] [(.int (7 : Int32)), (.int nv)])) (fun _ zq => XS.bipush X14.here hx rfl (hb hby at_136) zq) ?_
  suffices J152 : ∀ (T16 : State) (lo16 : List Loc) (h16 : Heap) (X16 : Stand p l e room_1 s m #[(.int p0), (.int p1), (.long bits)] below meth c T16 lo16 1 8) (e16 : T16.heap = h16) (N16 : Fr n0 lo16) (Z16 : n0 ≤ h16.size) (f8 : Nat → Value) (V_b1 : own_AV Z h16 b1 .byte nn f8) (hf8 : ∀ i, i < 8 → i < nn → f8 i = (fun i => Value.int (nar .byte (own_by bits i))) i), own_Go p e below s (Q_law Z p0 p1 bits h0 n0) 16 128 T16 (mkF m 152 #[.val (.int p0), .val (.int p1), .val (.long bits), .second, .val (.int nv), .val (.int iv), .val (.ref b1), .unset] []) by
    by_cases hc : (7 : Int32) < nv
    · skip
      refine own_st (T' := T14) (g' := (mkF m 141 #[.val (.int p0), .val (.int p1), .val (.long bits), .second, .val (.int nv), .val (.int iv), .val (.ref b1), .unset] [])) (fun _ zq => XS.icmpNo X14.here hx rfl (hb hby at_138) rfl (tlt hc).2.2.2 zq) ?_
      refine own_st (T' := T14) (g' := (mkF m 143 #[.val (.int p0), .val (.int p1), .val (.long bits), .second, .val (.int nv), .val (.int iv), .val (.ref b1), .unset] [(.ref b1)])) (fun _ zq => XS.aload X14.here hx rfl (hb hby at_141) rfl rfl zq) ?_
      refine own_st (T' := T14) (g' := (mkF m 145 #[.val (.int p0), .val (.int p1), .val (.long bits), .second, .val (.int nv), .val (.int iv), .val (.ref b1), .unset] [(.int (7 : Int32)), (.ref b1)])) (fun _ zq => XS.bipush X14.here hx rfl (hb hby at_143) zq) ?_
      refine own_st (T' := T14) (g' := (mkF m 146 #[.val (.int p0), .val (.int p1), .val (.long bits), .second, .val (.int nv), .val (.int iv), .val (.ref b1), .unset] [(.long bits), (.int (7 : Int32)), (.ref b1)])) (fun _ zq => XS.lloadN X14.here hx rfl (hb hby at_145) rfl zq) ?_
      refine own_st (T' := T14) (g' := (mkF m 148 #[.val (.int p0), .val (.int p1), .val (.long bits), .second, .val (.int nv), .val (.int iv), .val (.ref b1), .unset] [(.int (56 : Int32)), (.long bits), (.int (7 : Int32)), (.ref b1)])) (fun _ zq => XS.bipush X14.here hx rfl (hb hby at_146) zq) ?_
      refine own_st (T' := T14) (g' := (mkF m 149 #[.val (.int p0), .val (.int p1), .val (.long bits), .second, .val (.int nv), .val (.int iv), .val (.ref b1), .unset] [(.long ((bits.toUInt64 >>> ((56 : Int32) &&& 0x3f).toInt64.toUInt64).toInt64)), (.int (7 : Int32)), (.ref b1)])) (fun _ zq => XS.lushr X14.here hx rfl (hb hby at_148) rfl zq) ?_
      refine own_st (T' := T14) (g' := (mkF m 150 #[.val (.int p0), .val (.int p1), .val (.long bits), .second, .val (.int nv), .val (.int iv), .val (.ref b1), .unset] [(.int (((bits.toUInt64 >>> ((56 : Int32) &&& 0x3f).toInt64.toUInt64).toInt64).toInt32)), (.int (7 : Int32)), (.ref b1)])) (fun _ zq => XS.l2i X14.here hx rfl (hb hby at_149) rfl zq) ?_
      refine own_st (T' := T14) (g' := (mkF m 151 #[.val (.int p0), .val (.int p1), .val (.long bits), .second, .val (.int nv), .val (.int iv), .val (.ref b1), .unset] [(.int ((((bits.toUInt64 >>> ((56 : Int32) &&& 0x3f).toInt64.toUInt64).toInt64).toInt32).toInt8.toInt32)), (.int (7 : Int32)), (.ref b1)])) (fun _ zq => XS.i2b X14.here hx rfl (hb hby at_150) rfl zq) ?_
      obtain ⟨T17, h17, X17, e17, W17, V17, st17⟩ := own_stB X14 hx hZ e14 V_b1 (j := (7 : Int32)) (7) rfl (own_lt (k := 7) rfl hc hnv) (g := (mkF m 151 #[.val (.int p0), .val (.int p1), .val (.long bits), .second, .val (.int nv), .val (.int iv), .val (.ref b1), .unset] [(.int ((((bits.toUInt64 >>> ((56 : Int32) &&& 0x3f).toInt64.toUInt64).toInt64).toInt32).toInt8.toInt32)), (.int (7 : Int32)), (.ref b1)])) rfl rfl (hb hby at_151)
      replace Z14 := Nat.le_trans Z14 (Keep.of_wr W17).1
      replace V_b1 := V17
      replace N14 := Fr.snoc X17 N14 g_b1
      refine own_st (g' := (mkF m 152 #[.val (.int p0), .val (.int p1), .val (.long bits), .second, .val (.int nv), .val (.int iv), .val (.ref b1), .unset] [])) st17 ?_
      exact J152 T17 _ h17 (X17.more (Nat.le_of_ble_eq_true rfl) (Nat.le_of_ble_eq_true rfl)) e17 N14 Z14 _ V_b1 (own_up hf7 rfl)
    · skip
      refine own_st (T' := T14) (g' := (mkF m 152 #[.val (.int p0), .val (.int p1), .val (.long bits), .second, .val (.int nv), .val (.int iv), .val (.ref b1), .unset] [])) (fun _ zq => XS.icmpYes X14.here hx rfl (pc0 := 138) (pc' := 152) rfl (hb hby at_138) rfl (flt hc).2.2.2 (by decide) (by decide) zq) ?_
      exact J152 T14 _ h14 (X14.more (Nat.le_of_ble_eq_true rfl) (Nat.le_of_ble_eq_true rfl)) e14 N14 Z14 _ V_b1 (own_no hf7 (fun q => hc (own_tl (k := 7) rfl q hnv)))
  intro T16 lo16 h16 X16 e16 N16 Z16 f8 V_b1 hf8
  refine own_st (T' := T16) (g' := (mkF m 154 #[.val (.int p0), .val (.int p1), .val (.long bits), .second, .val (.int nv), .val (.int iv), .val (.ref b1), .unset] [(.int iv)])) (fun _ zq => XS.iload X16.here hx rfl (hb hby at_152) rfl zq) ?_
  refine own_st (T' := T16) (g' := (mkF m 155 #[.val (.int p0), .val (.int p1), .val (.long bits), .second, .val (.int nv), .val (.int iv), .val (.ref b1), .unset] [(.int (3 : Int32)), (.int iv)])) (fun _ zq => XS.iconst X16.here hx rfl (hb hby at_154) zq) ?_
  refine own_st (T' := T16) (g' := (mkF m 156 #[.val (.int p0), .val (.int p1), .val (.long bits), .second, .val (.int nv), .val (.int iv), .val (.ref b1), .unset] [(.int (iv + (3 : Int32)))])) (fun _ zq => XS.iadd X16.here hx rfl (hb hby at_155) rfl zq) ?_
  refine own_st (T' := T16) (g' := (mkF m 158 #[.val (.int p0), .val (.int p1), .val (.long bits), .second, .val (.int nv), .val (.int iv), .val (.ref b1), .unset] [(.int nv), (.int (iv + (3 : Int32)))])) (fun _ zq => XS.iload X16.here hx rfl (hb hby at_156) rfl zq) ?_
  suffices J184 : ∀ (ex : Int32) (hex : ex = if nv < (iv + (3 : Int32)) then 0 else if (own_usm bits ((8 : Int32) * iv)) = (65536 : Int64) then 1 else 0), own_Go p e below s (Q_law Z p0 p1 bits h0 n0) 16 128 T16 (mkF m 184 #[.val (.int p0), .val (.int p1), .val (.long bits), .second, .val (.int nv), .val (.int iv), .val (.ref b1), .unset] [(.int ex)]) by
    by_cases hc : nv < (iv + (3 : Int32))
    · skip
      refine own_st (T' := T16) (g' := (mkF m 183 #[.val (.int p0), .val (.int p1), .val (.long bits), .second, .val (.int nv), .val (.int iv), .val (.ref b1), .unset] [])) (fun _ zq => XS.icmpYes X16.here hx rfl (pc0 := 158) (pc' := 183) rfl (hb hby at_158) rfl (tlt hc).2.2.1 (by decide) (by decide) zq) ?_
      refine own_st (T' := T16) (g' := (mkF m 184 #[.val (.int p0), .val (.int p1), .val (.long bits), .second, .val (.int nv), .val (.int iv), .val (.ref b1), .unset] [(.int (0 : Int32))])) (fun _ zq => XS.iconst X16.here hx rfl (hb hby at_183) zq) ?_
      exact J184 _ (if_pos hc).symm
    · skip
      refine own_st (T' := T16) (g' := (mkF m 161 #[.val (.int p0), .val (.int p1), .val (.long bits), .second, .val (.int nv), .val (.int iv), .val (.ref b1), .unset] [])) (fun _ zq => XS.icmpNo X16.here hx rfl (hb hby at_158) rfl (flt hc).2.2.1 zq) ?_
      refine own_st (T' := T16) (g' := (mkF m 162 #[.val (.int p0), .val (.int p1), .val (.long bits), .second, .val (.int nv), .val (.int iv), .val (.ref b1), .unset] [(.long bits)])) (fun _ zq => XS.lloadN X16.here hx rfl (hb hby at_161) rfl zq) ?_
      refine own_st (T' := T16) (g' := (mkF m 164 #[.val (.int p0), .val (.int p1), .val (.long bits), .second, .val (.int nv), .val (.int iv), .val (.ref b1), .unset] [(.int (8 : Int32)), (.long bits)])) (fun _ zq => XS.bipush X16.here hx rfl (hb hby at_162) zq) ?_
      refine own_st (T' := T16) (g' := (mkF m 166 #[.val (.int p0), .val (.int p1), .val (.long bits), .second, .val (.int nv), .val (.int iv), .val (.ref b1), .unset] [(.int iv), (.int (8 : Int32)), (.long bits)])) (fun _ zq => XS.iload X16.here hx rfl (hb hby at_164) rfl zq) ?_
      refine own_st (T' := T16) (g' := (mkF m 167 #[.val (.int p0), .val (.int p1), .val (.long bits), .second, .val (.int nv), .val (.int iv), .val (.ref b1), .unset] [(.int ((8 : Int32) * iv)), (.long bits)])) (fun _ zq => XS.imul X16.here hx rfl (hb hby at_166) rfl zq) ?_
      refine own_st (T' := T16) (g' := (mkF m 168 #[.val (.int p0), .val (.int p1), .val (.long bits), .second, .val (.int nv), .val (.int iv), .val (.ref b1), .unset] [(.long ((bits.toUInt64 >>> (((8 : Int32) * iv) &&& 0x3f).toInt64.toUInt64).toInt64))])) (fun _ zq => XS.lushr X16.here hx rfl (hb hby at_167) rfl zq) ?_
      refine own_st (T' := T16) (g' := (mkF m 171 #[.val (.int p0), .val (.int p1), .val (.long bits), .second, .val (.int nv), .val (.int iv), .val (.ref b1), .unset] [(.long (16777215 : Int64)), (.long ((bits.toUInt64 >>> (((8 : Int32) * iv) &&& 0x3f).toInt64.toUInt64).toInt64))])) (fun _ zq => X16.ldc2Long hx hown (mvT hZ (hw _ (List.mem_of_getElem? (i := 6) rfl))) (g := (mkF m 168 #[.val (.int p0), .val (.int p1), .val (.long bits), .second, .val (.int nv), .val (.int iv), .val (.ref b1), .unset] [(.long ((bits.toUInt64 >>> (((8 : Int32) * iv) &&& 0x3f).toInt64.toUInt64).toInt64))])) rfl (hb hby at_168) _ zq) ?_
      refine own_st (T' := T16) (g' := (mkF m 172 #[.val (.int p0), .val (.int p1), .val (.long bits), .second, .val (.int nv), .val (.int iv), .val (.ref b1), .unset] [(.long (((bits.toUInt64 >>> (((8 : Int32) * iv) &&& 0x3f).toInt64.toUInt64).toInt64) &&& (16777215 : Int64)))])) (fun _ zq => XS.land X16.here hx rfl (hb hby at_171) rfl zq) ?_
      refine own_st (T' := T16) (g' := (mkF m 175 #[.val (.int p0), .val (.int p1), .val (.long bits), .second, .val (.int nv), .val (.int iv), .val (.ref b1), .unset] [(.long (65536 : Int64)), (.long (((bits.toUInt64 >>> (((8 : Int32) * iv) &&& 0x3f).toInt64.toUInt64).toInt64) &&& (16777215 : Int64)))])) (fun _ zq => X16.ldc2Long hx hown (mvT hZ (hw _ (List.mem_of_getElem? (i := 7) rfl))) (g := (mkF m 172 #[.val (.int p0), .val (.int p1), .val (.long bits), .second, .val (.int nv), .val (.int iv), .val (.ref b1), .unset] [(.long (((bits.toUInt64 >>> (((8 : Int32) * iv) &&& 0x3f).toInt64.toUInt64).toInt64) &&& (16777215 : Int64)))])) rfl (hb hby at_172) _ zq) ?_
      refine own_st (T' := T16) (g' := (mkF m 176 #[.val (.int p0), .val (.int p1), .val (.long bits), .second, .val (.int nv), .val (.int iv), .val (.ref b1), .unset] [(.int (lcmpW (((bits.toUInt64 >>> (((8 : Int32) * iv) &&& 0x3f).toInt64.toUInt64).toInt64) &&& (16777215 : Int64)) (65536 : Int64)))])) (fun _ zq => XS.lcmp X16.here hx rfl (hb hby at_175) rfl zq) ?_
      by_cases hd : (((bits.toUInt64 >>> (((8 : Int32) * iv) &&& 0x3f).toInt64.toUInt64).toInt64) &&& (16777215 : Int64)) = (65536 : Int64)
      · skip
        refine own_st (T' := T16) (g' := (mkF m 179 #[.val (.int p0), .val (.int p1), .val (.long bits), .second, .val (.int nv), .val (.int iv), .val (.ref b1), .unset] [])) (fun _ zq => XS.ifNo X16.here hx rfl (hb hby at_176) rfl (own_lteq hd).2 zq) ?_
        refine own_st (T' := T16) (g' := (mkF m 180 #[.val (.int p0), .val (.int p1), .val (.long bits), .second, .val (.int nv), .val (.int iv), .val (.ref b1), .unset] [(.int (1 : Int32))])) (fun _ zq => XS.iconst X16.here hx rfl (hb hby at_179) zq) ?_
        refine own_st (T' := T16) (g' := (mkF m 184 #[.val (.int p0), .val (.int p1), .val (.long bits), .second, .val (.int nv), .val (.int iv), .val (.ref b1), .unset] [(.int (1 : Int32))])) (fun _ zq => XS.goto X16.here hx rfl (pc0 := 180) (pc' := 184) rfl (hb hby at_180) (by decide) (by decide) zq) ?_
        exact J184 _ (by rw [if_neg hc]; exact (if_pos hd).symm)
      · skip
        refine own_st (T' := T16) (g' := (mkF m 183 #[.val (.int p0), .val (.int p1), .val (.long bits), .second, .val (.int nv), .val (.int iv), .val (.ref b1), .unset] [])) (fun _ zq => XS.ifYes X16.here hx rfl (pc0 := 176) (pc' := 183) rfl (hb hby at_176) rfl (own_lfeq hd).2 (by decide) (by decide) zq) ?_
        refine own_st (T' := T16) (g' := (mkF m 184 #[.val (.int p0), .val (.int p1), .val (.long bits), .second, .val (.int nv), .val (.int iv), .val (.ref b1), .unset] [(.int (0 : Int32))])) (fun _ zq => XS.iconst X16.here hx rfl (hb hby at_183) zq) ?_
        exact J184 _ (by rw [if_neg hc]; exact (if_neg hd).symm)
  intro ex hex
  refine own_st (T' := T16) (g' := (mkF m 186 #[.val (.int p0), .val (.int p1), .val (.long bits), .second, .val (.int nv), .val (.int iv), .val (.ref b1), .val (.int ex)] [])) (fun _ zq => XS.istore X16.here hx rfl (hb hby at_184) rfl (l' := #[.val (.int p0), .val (.int p1), .val (.long bits), .second, .val (.int nv), .val (.int iv), .val (.ref b1), .val (.int ex)]) rfl zq) ?_
  refine own_st (T' := T16) (g' := (mkF m 188 #[.val (.int p0), .val (.int p1), .val (.long bits), .second, .val (.int nv), .val (.int iv), .val (.ref b1), .val (.int ex)] [(.ref b1)])) (fun _ zq => XS.aload X16.here hx rfl (hb hby at_186) rfl rfl zq) ?_
  refine own_st (T' := T16) (g' := (mkF m 190 #[.val (.int p0), .val (.int p1), .val (.long bits), .second, .val (.int nv), .val (.int iv), .val (.ref b1), .val (.int ex)] [(.int iv), (.ref b1)])) (fun _ zq => XS.iload X16.here hx rfl (hb hby at_188) rfl zq) ?_
  obtain ⟨_, _, ⟨T18, L18, k18, n18⟩, -, X18, ⟨Lc18, hQ18, l18, y18, z18⟩, st18⟩ := Jvm.LawKit.callS X16 hx (y := (⟨"com/example/bunko/bunko/format/ElementaryStream", "isStartCode", "([BI)Z"⟩ : MethodName)) hown (mvT hZ (hw _ (List.mem_of_getElem? (i := 2) rfl))) (mvT hZ (hw _ (List.mem_of_getElem? (i := 3) rfl))) (mvT hZ (hw _ (List.mem_of_getElem? (i := 4) rfl))) (mvT hZ (hw _ (List.mem_of_getElem? (i := 5) rfl))) (by decide) (backOf (W := 0) (rm_isc l Z a0 hw [] b1 iv jn nv nn f8 (fun i => nar .byte (own_by bits i)) h16 n0 Z16 V_b1 hnv hiv (by omega) (fun i hi => hf8 i (by omega) hi)) hZ (hw _ (List.mem_of_getElem? (i := 5) rfl)) (hw _ (List.mem_of_getElem? (i := 4) rfl)) (by decide) (by decide)) (g := (mkF m 190 #[.val (.int p0), .val (.int p1), .val (.long bits), .second, .val (.int nv), .val (.int iv), .val (.ref b1), .val (.int ex)] [(.int iv), (.ref b1)])) rfl (by rw [hml]; rfl) (argsL := [(.ref b1), (.int iv)]) (rest := []) (lenOf own_pd0 rfl) rfl (by show 2 * 0 + _ ≤ _; exact Nat.le_of_eq rfl) (hb hby at_190) (fun _ _ => ⟨rfl, e16, (by decide : 1 + 0 ≤ _), (by decide : 8 + 0 ≤ _)⟩)
  dsimp only [Pt.U, Pt.locs, Pt.cells, Pt.slots] at X18 l18 y18 z18 st18 hQ18
  subst l18 y18 z18
  obtain ⟨rfl, Nq18, eq18⟩ := hQ18
  replace N16 := Fr.app N16 Nq18
  refine own_st (g' := (mkF m 193 #[.val (.int p0), .val (.int p1), .val (.long bits), .second, .val (.int nv), .val (.int iv), .val (.ref b1), .val (.int ex)] [(.int (if nv < (iv + (3 : Int32)) then 0 else if (nar .byte (own_by bits jn) = 0 ∧ nar .byte (own_by bits (jn + 1)) = 0 ∧ nar .byte (own_by bits (jn + 2)) = 1) then 1 else 0))])) st18 ?_
  refine own_st (T' := T18) (g' := (mkF m 195 #[.val (.int p0), .val (.int p1), .val (.long bits), .second, .val (.int nv), .val (.int iv), .val (.ref b1), .val (.int ex)] [(.int ex), (.int (if nv < (iv + (3 : Int32)) then 0 else if (nar .byte (own_by bits jn) = 0 ∧ nar .byte (own_by bits (jn + 1)) = 0 ∧ nar .byte (own_by bits (jn + 2)) = 1) then 1 else 0))])) (fun _ zq => XS.iload X18.here hx rfl (hb hby at_193) rfl zq) ?_
  refine own_st (T' := T18) (g' := (mkF m 198 #[.val (.int p0), .val (.int p1), .val (.long bits), .second, .val (.int nv), .val (.int iv), .val (.ref b1), .val (.int ex)] [])) (fun _ zq => XS.icmpNo X18.here hx rfl (hb hby at_195) rfl (teq ((own_fin bits hnv hiv hn8 hj11).trans hex.symm)).2 zq) ?_
  refine own_st (T' := T18) (g' := (mkF m 199 #[.val (.int p0), .val (.int p1), .val (.long bits), .second, .val (.int nv), .val (.int iv), .val (.ref b1), .val (.int ex)] [(.int (1 : Int32))])) (fun _ zq => XS.iconst X18.here hx rfl (hb hby at_198) zq) ?_
  refine own_st (T' := T18) (g' := (mkF m 203 #[.val (.int p0), .val (.int p1), .val (.long bits), .second, .val (.int nv), .val (.int iv), .val (.ref b1), .val (.int ex)] [(.int (1 : Int32))])) (fun _ zq => XS.goto X18.here hx rfl (pc0 := 199) (pc' := 203) rfl (hb hby at_199) (by decide) (by decide) zq) ?_
  exact own_ret X18 hx hret hlk (i := .ireturn) rfl (Or.inl ⟨rfl, by decide, _, rfl⟩) (hb hby at_203) (eq18) (Nat.le_of_ble_eq_true rfl) (Nat.le_of_ble_eq_true rfl) ⟨rfl, N16⟩
set_option maxRecDepth 65536 in
set_option maxHeartbeats 40000000 in
theorem comes_1 {Post : Tables → Env → Array Value → State → Outcome → State → Prop} (hpost : ∀ tb e args s v u, (limb_1_1.after args s (.returned v) u = true ∧ limb_1_2.after args s (.returned v) u = true ∧ True) → FrameEnd s (.returned v) u (Jvm.fieldLocs frame_1_writes args s ++ Jvm.arrayLocs frame_1_arrays args s ++ Jvm.staticLocs frame_1_statics s) 16 128 → Post tb e args s (.returned v) u) :
    ArmFor flags0 classFile x code maxLocals ret World_1 tables_1 room_1 Calls_1 rest_1 Pre_1 Post := by
  intro l hfl _ _ p e ha hc hk s m args below hf hA hF happ hP
  obtain ⟨hcalls, hrest, hpre⟩ := hP
  obtain ⟨-, -, -, hnamed, -, -, -, hat⟩ := (Spec.applies_iff hf).mp happ
  obtain ⟨hg, hn⟩ := and_e (Cond.before_iff.mp (show (Jvm.Cond.and given_1 narrow_1).before args s = true from hpre))
  obtain ⟨hcnt, hgs⟩ := and_e hg
  obtain ⟨w0, w1, w2, rfl⟩ : ∃ w0 w1 w2 : Value, args = #[w0, w1, w2] := by
    have hs : args.size = 3 := by simpa [Cond.value, given_1] using hcnt
    obtain ⟨L⟩ := args
    match L, hs with
    | [w0, w1, w2], _ => exact ⟨w0, w1, w2, rfl⟩
  have hw := fun d (hd : d ∈ tables_1) => atoms_spec (ws := Jvm.Cond.code x code maxLocals ret :: tables_1) hat d (List.mem_cons_of_mem _ hd)
  have hfit : Fit s := fun {y c} hc i hi => by
    obtain ⟨ha, rfl⟩ := Array.getElem?_eq_some_iff.mp hc
    have q := List.all_eq_true.mp ((Array.all_eq_true_iff_forall_mem.mp hF) _ (Array.getElem_mem ha)) i (List.mem_range.mpr hi)
    simpa [Array.getElem?_eq_getElem hi] using q
  obtain ⟨k0, hgs⟩ := and_e hgs
  obtain ⟨i0, q0⟩ := is_v k0
  obtain rfl : w0 = (.int i0) := Option.some.inj q0
  obtain ⟨k1, hgs⟩ := and_e hgs
  obtain ⟨i1, q1⟩ := is_v k1
  obtain rfl : w1 = (.int i1) := Option.some.inj q1
  obtain ⟨i2, q2⟩ := isL_v hgs
  obtain rfl : w2 = (.long i2) := Option.some.inj q2
  obtain ⟨n, o, h1, h2, h3, _, L, rfl, ⟨rfl, N⟩, hq⟩ := rm_law l s _ hw tables_1 i0 i1 i2  s.heap s.heap.size (Nat.le_refl _)  p e ha hc hk s m _ below hf ((Spec.applies_iff_loose hf).mp happ).1 ⟨rfl, State.Warmed39.refl s, rfl⟩ trivial
  refine ⟨n, _, h1, h2, h3, hpost _ _ _ _ _ _ ⟨Cond.after_iff.mpr rfl, Cond.after_iff.mpr (eq_i res_at (Term.int_eval (1)) rfl), trivial⟩ ⟨hq.1, hq.2.1, (hq.2.2.sift fun y hy => Or.inr (N y hy)).mono (by decide) (by decide)⟩⟩
theorem main_1_1 : Claimed_1_1 := comes_1 fun _ _ _ _ _ _ h hF => ⟨h.1, hF⟩
theorem main_1_2 : Claimed_1_2 := comes_1 fun _ _ _ _ _ _ h hF => ⟨h.2.1, hF⟩
end Jvm.Pilot.@@N@@
namespace Jvm.Pilot.@@N@@
open Jvm Jvm.ClassFile Sem Op Lib Jvm.Free Jvm.Stand Jvm.Pilot.@@N@@.Jvm.D
/-! MADE BY PROGRAM (witnessworld.py) out of the Statement's table words and the real class files: 9 classes; the members and pool entries that the words name. The judged class is class 1, her method 1. -/
namespace start1
open Jvm.ClassFile
def u (s : String) : CpInfo := .utf8 (stringToUtf16 s)
/-- a pool by its gaps: so many unusable entries, then the entry; so many at the end -/
def gap : Nat → List CpInfo → List CpInfo
  | 0, r => r
  | n + 1, r => .unusable :: gap n r
def poolList (es : List (Nat × CpInfo)) (last : Nat) : List CpInfo := es.foldr (fun e r => gap e.1 (e.2 :: r)) (gap last [])
def pool (es : List (Nat × CpInfo)) (last : Nat) : Array CpInfo := ⟨poolList es last⟩
def fileOf (pool : Array CpInfo) (this : Nat) (attrs : Array Attribute := #[]) (ms : Array MethodInfo := #[]) (fl : Nat := 33) (sup : Nat := 0) (ifs : Array Nat := #[]) (fds : Array FieldInfo := #[]) : ClassFile where
  minorVersion := 0
  majorVersion := 65
  constantPool := pool
  accessFlags := fl
  thisClass := this
  superClass := sup
  interfaces := ifs
  fields := fds
  methods := ms
  attributes := attrs
def plain (name : String) (sup : Option ClassId) : Class where
  name := name
  kind := .ordinary
  loader := none
  accessFlags := 33
  super := sup
  interfaces := #[]
  cf := none
  fields := #[]
  methods := #[]
  instanceTypes := #[]
  staticTypes := #[]
  resolved := #[]
  callSites := []
  init := .initialized
  statics := none
  mirror := none

def pool0 : Array CpInfo := pool [(5, u "<init>"), (0, u "()V"), (1, .class_ 10), (1, u "java/lang/Object")] 113

def k0m0 : Method := { name := "<init>", desc := "()V", sig := { parameters := [], returnType := none }, accessFlags := 1, code := none }
/-- java/lang/Object -/
def k0 : Class := { plain "java/lang/Object" none with
  accessFlags := 33
  interfaces := #[]
  cf := some (fileOf pool0 8 #[] #[{ accessFlags := 1, nameIndex := 5, descriptorIndex := 6, attributes := #[] }] 33 0 #[] #[])
  fields := #[]
  methods := #[k0m0]
  instanceTypes := #[]
  staticTypes := #[]
  resolved := Array.replicate 124 none
  statics := none }

def pool1 : Array CpInfo := pool [(2, .class_ 4), (1, u "java/lang/Object"), (0, u "<init>"), (0, u "()V"), (0, .integer 2147483647), (0, .long 16777215), (1, .long 65536), (1, .methodref 13 14), (0, .class_ 15), (0, .nameAndType 16 17), (0, u "com/example/bunko/bunko/format/ElementaryStream"), (0, u "isStartCode"), (0, u "([BI)Z"), (0, .class_ 19), (0, u "com/example/bunko/bunko/format/ElementaryStreamIsStartCodePinLaw"), (2, u "law"), (0, u "(IIJ)Z")] 5

def k1m0 : Method := { name := "<init>", desc := "()V", sig := { parameters := [], returnType := none }, accessFlags := 1, code := none }
def k1c1 : Code := { maxStack := 5, maxLocals := 8, code := code, exceptionTable := #[], attributes := #[] }
def k1m1 : Method := { name := "law", desc := "(IIJ)Z", sig := { parameters := [.int, .int, .long], returnType := some .boolean }, accessFlags := 9, code := some k1c1 }
/-- com/example/bunko/bunko/format/ElementaryStreamIsStartCodePinLaw -/
def k1 : Class := { plain "com/example/bunko/bunko/format/ElementaryStreamIsStartCodePinLaw" (some 0) with
  accessFlags := 49
  interfaces := #[]
  cf := some (fileOf pool1 18 #[] #[{ accessFlags := 1, nameIndex := 5, descriptorIndex := 6, attributes := #[] }, { accessFlags := 9, nameIndex := 22, descriptorIndex := 23, attributes := #[] }] 49 2 #[] #[])
  fields := #[]
  methods := #[k1m0, k1m1]
  instanceTypes := #[]
  staticTypes := #[]
  resolved := Array.replicate 29 none
  statics := none }

def pool2 : Array CpInfo := pool [(2, .class_ 4), (1, u "java/lang/Object"), (7, .class_ 14), (1, u "com/example/bunko/bunko/format/ElementaryStream"), (0, u "latest"), (0, u "J"), (2, u "codec"), (0, u "Lcom/example/bunko/bunko/format/ElementaryStream$Codec;"), (3, u "held"), (0, u "[B"), (2, u "heldLength"), (0, u "I"), (24, u "width"), (0, u "Ljava/lang/Integer;"), (2, u "height"), (2, u "sampleRate"), (2, u "channels"), (6, u "frameTicks"), (5, .class_ 79), (1, u "com/example/bunko/bunko/format/ElementaryStream$Codec"), (28, .class_ 110), (1, u "com/example/bunko/bunko/format/ElementaryStream$HeaderSearch"), (2, u "TICKS_PER_SECOND"), (3, u "HELD"), (18, u "isStartCode"), (0, u "([BI)Z")] 6

def k2c0 : Code := { maxStack := 3, maxLocals := 2, code := prog_33_method_11_code, exceptionTable := #[], attributes := #[] }
def k2m0 : Method := { name := "isStartCode", desc := "([BI)Z", sig := { parameters := [(.array .byte), .int], returnType := some .boolean }, accessFlags := 8, code := some k2c0 }
/-- com/example/bunko/bunko/format/ElementaryStream -/
def k2 : Class := { plain "com/example/bunko/bunko/format/ElementaryStream" (some 0) with
  accessFlags := 48
  interfaces := #[]
  cf := some (fileOf pool2 12 #[.nestMembers #[108, 77]] #[{ accessFlags := 8, nameIndex := 136, descriptorIndex := 137, attributes := #[] }] 48 2 #[] #[{ accessFlags := 24, nameIndex := 113, descriptorIndex := 16, attributes := #[] }, { accessFlags := 26, nameIndex := 117, descriptorIndex := 29, attributes := #[] }, { accessFlags := 18, nameIndex := 19, descriptorIndex := 20, attributes := #[] }, { accessFlags := 2, nameIndex := 24, descriptorIndex := 25, attributes := #[] }, { accessFlags := 2, nameIndex := 28, descriptorIndex := 29, attributes := #[] }, { accessFlags := 2, nameIndex := 54, descriptorIndex := 55, attributes := #[] }, { accessFlags := 2, nameIndex := 58, descriptorIndex := 55, attributes := #[] }, { accessFlags := 2, nameIndex := 61, descriptorIndex := 55, attributes := #[] }, { accessFlags := 2, nameIndex := 64, descriptorIndex := 55, attributes := #[] }, { accessFlags := 2, nameIndex := 71, descriptorIndex := 16, attributes := #[] }, { accessFlags := 2, nameIndex := 15, descriptorIndex := 16, attributes := #[] }])
  fields := #[{ name := "TICKS_PER_SECOND", type := .long, accessFlags := 24, slot := 0, constantValue := 0 }, { name := "HELD", type := .int, accessFlags := 26, slot := 1, constantValue := 0 }, { name := "codec", type := (.object "com/example/bunko/bunko/format/ElementaryStream$Codec"), accessFlags := 18, slot := 0, constantValue := 0 }, { name := "held", type := (.array .byte), accessFlags := 2, slot := 1, constantValue := 0 }, { name := "heldLength", type := .int, accessFlags := 2, slot := 2, constantValue := 0 }, { name := "width", type := (.object "java/lang/Integer"), accessFlags := 2, slot := 3, constantValue := 0 }, { name := "height", type := (.object "java/lang/Integer"), accessFlags := 2, slot := 4, constantValue := 0 }, { name := "sampleRate", type := (.object "java/lang/Integer"), accessFlags := 2, slot := 5, constantValue := 0 }, { name := "channels", type := (.object "java/lang/Integer"), accessFlags := 2, slot := 6, constantValue := 0 }, { name := "frameTicks", type := .long, accessFlags := 2, slot := 7, constantValue := 0 }, { name := "latest", type := .long, accessFlags := 2, slot := 8, constantValue := 0 }]
  methods := #[k2m0]
  instanceTypes := #[(.object "com/example/bunko/bunko/format/ElementaryStream$Codec"), (.array .byte), .int, (.object "java/lang/Integer"), (.object "java/lang/Integer"), (.object "java/lang/Integer"), (.object "java/lang/Integer"), .long, .long]
  staticTypes := #[.long, .int]
  resolved := Array.replicate 144 none
  statics := none }

def pool3 : Array CpInfo := pool [(1, u "java/lang/Cloneable"), (0, .class_ 1), (0, u "java/lang/Object"), (0, .class_ 3)] 3

/-- java/lang/Cloneable -/
def k3 : Class := { plain "java/lang/Cloneable" (some 0) with
  accessFlags := 1537
  interfaces := #[]
  cf := some (fileOf pool3 2 #[] #[] 1537 4 #[] #[])
  fields := #[]
  methods := #[]
  instanceTypes := #[]
  staticTypes := #[]
  resolved := Array.replicate 8 none
  statics := none }

def pool4 : Array CpInfo := pool [(1, u "java/io/Serializable"), (0, .class_ 1), (0, u "java/lang/Object"), (0, .class_ 3)] 3

/-- java/io/Serializable -/
def k4 : Class := { plain "java/io/Serializable" (some 0) with
  accessFlags := 1537
  interfaces := #[]
  cf := some (fileOf pool4 2 #[] #[] 1537 4 #[] #[])
  fields := #[]
  methods := #[]
  instanceTypes := #[]
  staticTypes := #[]
  resolved := Array.replicate 8 none
  statics := none }

/-- the primitive byte -/
def k5 : Class := { plain "byte" none with kind := .primitive 'B', accessFlags := 0x411 }
/-- [B -/
def k6 : Class := { plain "[B" (some 0) with kind := .array 5 .byte, interfaces := #[3, 4], accessFlags := 1041 }

/-- the primitive int -/
def k7 : Class := { plain "int" none with kind := .primitive 'I', accessFlags := 0x411 }
/-- [I -/
def k8 : Class := { plain "[I" (some 0) with kind := .array 7 .int, interfaces := #[3, 4], accessFlags := 1041 }

def heap : Heap := #[]
def classes : Array Class := #[k0, k1, k2, k3, k4, k5, k6, k7, k8]
def interned : List (Array UInt16 × Addr) := []
def slotsUsed : Nat := 0
def theMethod : MethodId := ⟨1, 1⟩
def args0 : Array Value := #[.int 5, .int 1, .long 7]
def aboutOver (below : List Frame) : State where
  vm := { classes := classes, interned := interned.toArray }
  heap := heap
  slotsUsed := slotsUsed
  threads := #[{ frames := .invoking theMethod args0 :: below }]
def below0 : List Frame := [.native { method := ⟨0, 0⟩, args := #[] }]
def about1 : State := aboutOver below0
def p0 : Program := .bare "" "" ""
def e0 : Env := launch0.env 0 0 0
theorem w_frames : about1.frames = Frame.invoking theMethod args0 :: below0 := rfl
set_option maxRecDepth 65536 in
theorem w_args : argsFit about1.vm theMethod args0 = true := by decide +kernel
set_option maxRecDepth 65536 in
theorem w_heap : heapFits about1 = true := by decide +kernel
set_option maxRecDepth 65536 in
theorem w_runnable : about1.curStatus? = some .runnable := by decide +kernel
set_option maxRecDepth 65536 in
theorem w_alone : about1.alone = true := by decide +kernel
set_option maxRecDepth 65536 in
theorem w_named : about1.methodNamed? x = some theMethod := by decide +kernel
set_option maxRecDepth 65536 in
theorem w_hears : about1.hears theMethod below0 = true := by decide +kernel
set_option maxRecDepth 65536 in
theorem w_ripe : about1.ripe theMethod args0 below0 = true := by decide +kernel
theorem w_running : about1.status = .running := rfl
set_option maxRecDepth 65536 in
theorem w_room : about1.hasRoom e0.platform room_1 = true :=
  launch0.hasRoom_least _ room_1 (by decide +kernel) (by decide +kernel) (by decide +kernel) (by decide +kernel) (by decide +kernel) (by decide +kernel)
theorem allAtoms_all (ts : List Jvm.Cond) (a : Array Jvm.Value) (st : Jvm.State) : (allAtoms ts).before a st = ts.all (fun c => c.before a st) := by
  induction ts with
  | nil => rfl
  | cons c t ih =>
    show (Jvm.Cond.and c (allAtoms t)).before a st = _
    rw [Jvm.Cond.before_and, ih, List.all_cons]
def words1 : List Jvm.Cond := Jvm.Cond.code x code maxLocals ret :: tables_1
/-- a 'code' word, met by the world's own term for the bytes: nothing is compared byte by byte -/
theorem code_word {y : MethodName} {bytes : ByteArray} {mx : Nat} {rt : Option FieldType} {a : Array Value} {s : State} {m : MethodId} {meth : Method} {c : Code} (h1 : s.methodNamed? y = some m) (h2 : s.vm.method? m = some meth) (h3 : meth.code = some c) (h4 : c.code = bytes)
    (h5 : (c.maxLocals == mx && c.exceptionTable.isEmpty && decide (c.maxStack ≤ mostOperands) && decide (meth.sig.returnType = rt) && !meth.locks && decide (parseMethodDescriptor y.desc = some meth.sig)) = true) : (Jvm.Cond.code y bytes mx rt).before a s = true := by
  simp only [Bool.and_eq_true, beq_iff_eq, Bool.not_eq_true', decide_eq_true_eq] at h5
  obtain ⟨⟨⟨⟨⟨g1, g2⟩, g3⟩, g4⟩, g5⟩, g6⟩ := h5
  simp [Cond.before, Cond.holds, Cond.value, h1, h2, h3, h4, g1, g2, g3, g4, g5, g6]
def isCode : Jvm.Cond → Bool
  | .code _ _ _ _ => true
  | _ => false
theorem all_split {L : List Jvm.Cond} {P : Jvm.Cond → Bool} (h1 : L.all (fun c => isCode c || P c) = true) (h2 : ∀ c ∈ L.filter isCode, P c = true) : L.all P = true := by
  refine List.all_eq_true.mpr fun c hc => ?_
  have h := List.all_eq_true.mp h1 c hc
  rcases Bool.eq_false_or_eq_true (isCode c) with hi | hi
  · exact h2 c (List.mem_filter.mpr ⟨hc, hi⟩)
  · simpa [hi] using h
set_option maxRecDepth 65536 in
theorem w_c0 : (Jvm.Cond.code x code maxLocals ret).before args0 about1 = true := code_word (m := ⟨1, 1⟩) (meth := k1m1) (c := k1c1) (by decide +kernel) rfl rfl rfl (by decide +kernel)
set_option maxRecDepth 65536 in
theorem w_c1 : (Jvm.Cond.code ({ cls := "com/example/bunko/bunko/format/ElementaryStream", name := "isStartCode", desc := "([BI)Z" } : Jvm.MethodName) prog_33_method_11_code (2 : Nat) (Option.some Jvm.ClassFile.FieldType.boolean)).before args0 about1 = true := code_word (m := ⟨2, 0⟩) (meth := k2m0) (c := k2c0) (by decide +kernel) rfl rfl rfl (by decide +kernel)
def codes1 : List Jvm.Cond := [Jvm.Cond.code x code maxLocals ret, Jvm.Cond.code ({ cls := "com/example/bunko/bunko/format/ElementaryStream", name := "isStartCode", desc := "([BI)Z" } : Jvm.MethodName) prog_33_method_11_code (2 : Nat) (Option.some Jvm.ClassFile.FieldType.boolean)]
set_option maxRecDepth 65536 in
theorem codes_eq : words1.filter isCode = codes1 := rfl
theorem w_codes : ∀ c ∈ words1.filter isCode, c.before args0 about1 = true := by
  rw [codes_eq]
  intro c hc
  simp only [codes1, List.mem_cons, List.not_mem_nil, or_false] at hc
  rcases hc with rfl | rfl
  · exact w_c0
  · exact w_c1
set_option maxRecDepth 65536 in
theorem w_t1 : words1.all (fun c => isCode c || c.before args0 about1) = true := by decide +kernel
theorem w_tables : (allAtoms (Jvm.Cond.code x code maxLocals ret :: tables_1)).before args0 about1 = true := by
  rw [allAtoms_all]
  show words1.all (fun c => c.before args0 about1) = true
  refine all_split ?_ w_codes
  rw [w_t1]
set_option maxRecDepth 65536 in
theorem w_case : (Jvm.Cond.and given_1 narrow_1).before args0 about1 = true := by decide +kernel
theorem w_applies : (headSpec (Jvm.Cond.code x code maxLocals ret :: tables_1) room_1).applies x e0.platform about1 = true :=
  (Spec.applies_iff w_frames).mpr ⟨w_running, w_runnable, w_alone, w_named, w_hears, w_ripe, w_room, w_tables⟩
theorem atStart : AtStart classFile x code maxLocals ret World_1 tables_1 room_1 Calls_1 rest_1 Pre_1 launch0 p0 e0 about1 theMethod args0 below0 :=
  ⟨lists_1, trivial, launch0.admits_env _ _ _, launch0.least_env, fairChoices_fair.cas, fairChoices_fair.clock, w_frames, w_args, w_heap, w_applies, trivial, trivial, w_case⟩
end start1
theorem witness_1 : WitnessClaimed_1 := ⟨start1.p0, start1.e0, start1.about1, start1.theMethod, start1.args0, start1.below0, start1.atStart⟩
end Jvm.Pilot.@@N@@
