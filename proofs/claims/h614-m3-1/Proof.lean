import JvmDerived
import JvmDerived.Pilot.@@N@@Statement
import JvmDerived.Pilot.@@N@@Code
set_option linter.unusedVariables false
set_option linter.unusedSimpArgs false
namespace Jvm.Pilot.@@N@@
open Jvm Jvm.ClassFile Sem Op Lib Jvm.Free Jvm.Stand Jvm.LawKit Jvm.RoadKit Bundle Jvm.Pilot.@@N@@.Jvm.D
section OwnLayer
variable {p : Program} {l : Launch} {e : Env} {R : Room} {s : State} {m : MethodId} {args : Array Value} {below : List Frame} {meth : Method} {c : Code} {T T' : State} {locs : List Loc} {cells slots : Nat} {Z : State} {h h' : Heap}
/-- from T at the frame g the body runs to its end, and the end is as Q says -/
def own_Go (p : Program) (e : Env) (below : List Frame) (s : State) (Q : Option Value → Heap → List Loc → Prop) (k n : Nat) (T : State) (g : JFrame) : Prop :=
  ∃ s₂ o, Steps p.tables e below (T.setTop g) s₂ ∧ s₂.status = .running ∧ Ended s₂ below o ∧ ∃ v L, o = .returned v ∧ Q v s₂.heap L ∧ FrameEnd s o s₂ L k n
theorem own_st {Q : Option Value → Heap → List Loc → Prop} {k n : Nat} {g g' : JFrame} (st : ∀ t, Steps p.tables e below (T'.setTop g') t → Steps p.tables e below (T.setTop g) t) (G : own_Go p e below s Q k n T' g') : own_Go p e below s Q k n T g := by
  obtain ⟨s₂, o, h1, h2⟩ := G
  exact ⟨s₂, o, st _ h1, h2⟩
theorem own_tr {Q : Option Value → Heap → List Loc → Prop} {k n : Nat} {g g' : JFrame} (st : Steps p.tables e below (T.setTop g) (T'.setTop g')) (G : own_Go p e below s Q k n T' g') : own_Go p e below s Q k n T g :=
  own_st (fun _ q => st.trans q) G
theorem own_nm {α : Type} {Q : Option Value → Heap → List Loc → Prop} {k n : Nat} {f : α → JFrame} (v : α) (G : ∀ z, z = v → own_Go p e below s Q k n T (f z)) : own_Go p e below s Q k n T (f v) := G v rfl
theorem own_ret {Q : Option Value → Heap → List Loc → Prop} {k n : Nat} (X : Stand p l e R s m args below meth c T locs cells slots) (hx : p.tables.exec = Jvm.exec) {pc : Nat} {Ls : Array Slot} {w : Value} {t : FieldType} {i : Instr} {rest : List Value} (hret : meth.sig.returnType = some t) (hlk : meth.locks = false) (hn : narrow t w = w)
    (hi : (i = .ireturn ∧ (t = .int ∨ t = .boolean ∨ t = .byte ∨ t = .char ∨ t = .short) ∧ ∃ z, w = .int z) ∨ (i = .lreturn ∧ t = .long ∧ ∃ z, w = .long z) ∨ (i = .dreturn ∧ t = .double ∧ ∃ z, w = .double z) ∨ (i = .freturn ∧ t = .float ∧ ∃ z, w = .float z) ∨ (i = .areturn ∧ t.isReference = true ∧ w.isRef = true))
    (hd : decode c.code pc = .ok (i, 1)) (eT : T.heap = h) (hk : cells ≤ k) (hl : slots ≤ n) (hq : Q (some w) h locs) : own_Go p e below s Q k n T (mkF m pc Ls (w :: rest)) := by
  obtain ⟨fs, hr, hrun, hended, hW, hsame⟩ := X.leave (v := some w) (fun q => by rw [hret] at q; cases q) hlk
  exact ⟨_, _, retOut X hx hret hn hi hd hr, hrun, hended, _, _, rfl, by show Q (some w) T.heap locs; rw [eT]; exact hq, ⟨_, rfl⟩, hW, hsame.mono hk hl⟩
theorem own_ret0 {Q : Option Value → Heap → List Loc → Prop} {k n : Nat} (X : Stand p l e R s m args below meth c T locs cells slots) (hx : p.tables.exec = Jvm.exec) {pc : Nat} {Ls : Array Slot} (hret : meth.sig.returnType = none) (hlk : meth.locks = false)
    (hd : decode c.code pc = .ok (.return_, 1)) (eT : T.heap = h) (hk : cells ≤ k) (hl : slots ≤ n) (hq : Q none h locs) : own_Go p e below s Q k n T (mkF m pc Ls []) := by
  obtain ⟨fs, hr, hrun, hended, hW, hsame⟩ := X.leave (v := none) (fun _ => rfl) hlk
  exact ⟨_, _, X.returnOut hx hret hd hr, hrun, hended, _, _, rfl, by show Q none T.heap locs; rw [eT]; exact hq, ⟨_, rfl⟩, hW, hsame.mono hk hl⟩
theorem own_cat {v : Value} (q : v.isRef = true) : v.category = 1 := by cases v <;> first | rfl | cases q
theorem own_Ins_keep {a : Addr} {C : String} {b : Bool} {ws : List Addr} (F : Ins Z h a C b) (K : Keep h h' ws) : Ins Z h' a C b := by
  obtain ⟨cell, cT, h1, h2, h3⟩ := F
  obtain ⟨c', q1, q2, q3, -⟩ := K.2.2 _ _ h1
  exact ⟨c', cT, q1, h2, by rw [q2, q3]; exact h3⟩
end OwnLayer
theorem own_ltlt {x y : Int64} (h : x < y) : ifCond.holds .lt (lcmpW x y) = true ∧ ifCond.holds .ge (lcmpW x y) = false ∧ ifCond.holds .gt (lcmpW y x) = true ∧ ifCond.holds .le (lcmpW y x) = false := by
  have a : lcmpW x y < 0 := (lw_lt x y).mpr h
  have b : 0 < lcmpW y x := (lw_gt y x).mpr h
  exact ⟨(if0 _ _).trans (tlt a).1, (if0 _ _).trans (tlt a).2.1, (if0 _ _).trans (tlt b).2.2.1, (if0 _ _).trans (tlt b).2.2.2⟩
theorem own_lflt {x y : Int64} (h : ¬ x < y) : ifCond.holds .lt (lcmpW x y) = false ∧ ifCond.holds .ge (lcmpW x y) = true ∧ ifCond.holds .gt (lcmpW y x) = false ∧ ifCond.holds .le (lcmpW y x) = true := by
  have a : ¬ lcmpW x y < 0 := fun q => h ((lw_lt x y).mp q)
  have b : ¬ 0 < lcmpW y x := fun q => h ((lw_gt y x).mp q)
  exact ⟨(if0 _ _).trans (flt a).1, (if0 _ _).trans (flt a).2.1, (if0 _ _).trans (flt b).2.2.1, (if0 _ _).trans (flt b).2.2.2⟩
theorem own_lteq {x y : Int64} (h : x = y) : ifCond.holds .eq (lcmpW x y) = true ∧ ifCond.holds .ne (lcmpW x y) = false := by
  have a : lcmpW x y = 0 := (lw_eq x y).mpr h
  exact ⟨(if0 _ _).trans (teq a).1, (if0 _ _).trans (teq a).2⟩
theorem own_lfeq {x y : Int64} (h : ¬ x = y) : ifCond.holds .eq (lcmpW x y) = false ∧ ifCond.holds .ne (lcmpW x y) = true := by
  have a : ¬ lcmpW x y = 0 := fun q => h ((lw_eq x y).mp q)
  exact ⟨(if0 _ _).trans (feq a).1, (if0 _ _).trans (feq a).2⟩
theorem own_ifc {α : Type} {P Q : Prop} [Decidable P] [Decidable Q] {x y : α} (h : P ↔ Q) : (if P then x else y) = if Q then x else y := by
  by_cases q : P
  · rw [if_pos q, if_pos (h.mp q)]
  · rw [if_neg q, if_neg (fun r => q (h.mpr r))]
section OwnRefs
variable {p : Program} {l : Launch} {e : Env} {R : Room} {s : State} {m : MethodId} {args : Array Value} {below : List Frame} {meth : Method} {c : Code} {T : State} {locs : List Loc} {cells slots : Nat} {Z : State} {a0 : Array Value} {h : Heap} {a : Addr}
/-- getfield by an entry that is resolved ('fieldRef') -/
theorem own_getR (X : Stand p l e R s m args below meth c T locs cells slots) (hx : p.tables.exec = Jvm.exec) (hZ : Z.Warmed39 s.vm) {own O n d : String} {index : Nat} (hown : s.vm.findClass own = some m.cls) (w : (Jvm.Cond.fieldRef own index O n d).before a0 Z = true)
    (eT : T.heap = h) {v : Value} (F : Fld Z h a O n d v) {g : JFrame} (hg : g.method = m) {rest : List Value} (hs : g.stack = .ref a :: rest) (hd : decode c.code g.pc = .ok (.getfield index, 3)) : ∀ target, Steps p.tables e below (T.setTop { g with pc := g.pc + 3, stack := v :: rest }) target → Steps p.tables e below (T.setTop g) target := by
  have hT : Z.Warmed39 T.vm := wtrans hZ X.warmed
  have w1 := Cond.fieldRef_warmed39 hT w
  have hcur : (Z.setVm T.vm).vm.findClass own = some m.cls := by show T.vm.findClass own = _; rw [X.warmed.alike.findClass]; exact hown
  obtain ⟨c', k', i', f', q1, hready⟩ := Cond.fieldRef_spec hcur w1
  obtain ⟨cell, cf, k, i, f, h1, h2, h3, h4, -, -, h7⟩ := F
  obtain ⟨kz, hi, -⟩ := State.fieldFound?_setVm (s := Z) hT.alike h2
  cases q1.symm.trans hi
  have hcell : T.heap[a]? = some cell := by rw [eT]; exact h1
  have hready' : T.vm.fieldReady m.cls index c' f' := hready
  intro target hrest
  subst hg
  jvm_step X.here [hx, hd, getfield.wp_ready (e := e) (s := T) (f := g) X.here.top hready' h3 hs hcell h4 h7]
  exact hrest
/-- putfield by an entry that is resolved -/
theorem own_putR (X : Stand p l e R s m args below meth c T locs cells slots) (hx : p.tables.exec = Jvm.exec) (hZ : Z.Warmed39 s.vm) {own O n d C : String} {index kk : Nat} {ty : FieldType} (hown : s.vm.findClass own = some m.cls) (w : (Jvm.Cond.fieldRef own index O n d).before a0 Z = true)
    (eT : T.heap = h) {v old : Value} (F : Fld Z h a O n d old) (E : Exa Z h a C) (L : (Jvm.Cond.lays C O n d).before a0 Z = true) (wi : (Jvm.Cond.instantiable C kk).before a0 Z = true)
    (hty : parseFieldDescriptor d = some ty) (hn : narrow ty v = v) (hf : fits ty v = true) {g : JFrame} (hg : g.method = m) {rest : List Value} (hs : g.stack = v :: .ref a :: rest) (hd : decode c.code g.pc = .ok (.putfield index, 3)) :
    ∃ T' h', Stand p l e R s m args below meth c T' (locs ++ [⟨a, Jvm.RoadKit.slotOf Z O n d⟩]) cells slots ∧ T'.heap = h' ∧ Wr h h' a (Jvm.RoadKit.slotOf Z O n d) v ∧ ∀ target, Steps p.tables e below (T'.setTop { g with pc := g.pc + 3, stack := rest }) target → Steps p.tables e below (T.setTop g) target := by
  have hT : Z.Warmed39 T.vm := wtrans hZ X.warmed
  have w1 := Cond.fieldRef_warmed39 hT w
  have hcur : (Z.setVm T.vm).vm.findClass own = some m.cls := by show T.vm.findClass own = _; rw [X.warmed.alike.findClass]; exact hown
  obtain ⟨c', k', i', f', q1, hready⟩ := Cond.fieldRef_spec hcur w1
  obtain ⟨cell, cf, k, i, f, h1, h2, h3, h4, h5, -, h7⟩ := F
  obtain ⟨kz, hi, -⟩ := State.fieldFound?_setVm (s := Z) hT.alike h2
  cases q1.symm.trans hi
  obtain ⟨cell', kc, e1, e2, e3, -⟩ := E
  cases h1.symm.trans e1
  obtain ⟨c1, k1, cf1, kf1, i1, f1, a1, a2, a3, -, -, a6, -⟩ := Laid.spec (Or.inl L)
  cases h2.symm.trans a3
  cases e2.symm.trans a1
  obtain ⟨c2, k2, j1, j2, j3, -⟩ := Cond.instantiable_spec wi
  cases e2.symm.trans j1
  cases a2.symm.trans j2
  have ht := (State.fieldFound?_type h2 hty).2
  have hfit : Z.fitsSlot cell.cls cell.vm f'.slot v = true := by
    have q : Z.slotType? cell.cls cell.vm f'.slot = some ty := by
      simp only [State.slotType?, a2, Option.bind_eq_bind, Option.bind_some, j3]
      cases hq : cell.vm <;> first | (rw [hq] at h5; exact Bool.noConfusion h5) | (rw [a6, ht])
    simp [State.fitsSlot, q, hf]
  have hfitT : T.fitsSlot cell.cls cell.vm f'.slot v = true := by rw [← State.fitsSlot_setVm hT.alike] at hfit; exact hfit
  obtain ⟨_, _, _, _, _, _, -, -, b3, -, b5, -⟩ := Cond.lays_spec L
  cases h2.symm.trans b3
  have hlt := (Array.getElem?_eq_some_iff.mp h7).1
  have es : Jvm.RoadKit.slotOf Z O n d = f'.slot := by simp [Jvm.RoadKit.slotOf, h2]
  rw [es]
  have hready' : T.vm.fieldReady m.cls index c' f' := hready
  obtain ⟨X', st⟩ := X.putfieldReady hx hready' h3 (Or.inl b5) (by rw [eT]; exact h1) h4 hlt (by rw [ht]; exact hn) hfitT hg hs hd
  exact ⟨_, _, X', rfl, ⟨cell, h1, h5, hlt, by rw [← eT]; rfl⟩, st⟩
/-- what a resolved method entry ('methodRef') gives where the walk stands -/
theorem own_ready (X : Stand p l e R s m args below meth c T locs cells slots) (hZ : Z.Warmed39 s.vm) {own : String} {index : Nat} {y : MethodName} (hown : s.vm.findClass own = some m.cls) (hlink : (Jvm.Cond.methodRef own index y).before a0 Z = true) {mk : MethodId} (hnamed : s.methodNamed? y = some mk)
    (hy : y.cls ≠ "java/lang/invoke/MethodHandle" ∧ y.cls ≠ "java/lang/invoke/VarHandle") : T.methodNamed? y = some mk ∧ T.vm.methodReady m.cls index mk ∧ namesResolved T.vm m.cls index mk.cls := by
  have hnT : T.methodNamed? y = some mk := X.named hnamed
  have hT : Z.Warmed39 T.vm := wtrans hZ X.warmed
  have hnZ : Z.methodNamed? y = some mk := by
    have q : (Z.setVm s.vm).methodNamed? y = some mk := hnamed
    rw [State.methodNamed?_setVm hZ.alike] at q; exact q
  have w1 := Cond.methodRef_warmed39 hT hnZ hy hlink
  have hcur : (Z.setVm T.vm).vm.findClass own = some m.cls := by show T.vm.findClass own = _; rw [X.warmed.alike.findClass]; exact hown
  obtain ⟨m', c', hm', hready, hfind, hres⟩ := Cond.methodRef_named e hcur w1
  have hnU : (Z.setVm T.vm).methodNamed? y = some mk := hnT
  have hfd := State.methodFound?_of_named hnU hy
  cases hm'.symm.trans hfd
  cases hfind.symm.trans (findClass_of_methodNamed hnU)
  exact ⟨hnT, hready, hres⟩
/-- a constructor by its contract, over a resolved entry -/
theorem own_specialRef (X : Stand p l e R s m args below meth c T locs cells slots) (hexec : p.tables.exec = Jvm.exec) (hZ : Z.Warmed39 s.vm) {own : String} {index : Nat} {y : MethodName} (hy1 : y.name = "<init>")
    (hown : s.vm.findClass own = some m.cls) (hlink : (Jvm.Cond.methodRef own index y).before a0 Z = true) (hinst : (Jvm.Cond.instanceMethod y).before args s = true)
    {bytes : ByteArray} {maxL : Nat} (hcode : (Jvm.Cond.code y bytes maxL none).before args s = true)
    (hy : y.cls ≠ "java/lang/invoke/MethodHandle" ∧ y.cls ≠ "java/lang/invoke/VarHandle")
    {W : Nat} {Pre : Pt → Array Value → Prop} {Post : Pt → Array Value → Option Value → Pt → Prop} (hK : Back l R p e below s args y 3 W Pre Post)
    {g : JFrame} (hg : g.method = m) (hsize : g.locals.size = c.maxLocals) {argsL rest : List Value}
    (hlen : ∀ sig, parseMethodDescriptor y.desc = some sig → argsL.length = sig.parameters.length) (hstack : g.stack = argsL.reverse ++ .ref a :: rest) (hW : 2 * g.monitorRoom + (rest.map fun v => v.category).sum ≤ W)
    (hdg : decode c.code g.pc = .ok (.invokespecial index, 3)) (hpre : Pre ⟨T, locs, cells, slots⟩ (.ref a :: argsL).toArray) :
    ∃ (v : Option Value) (B : Pt), Stand p l e R s m args below meth c B.U B.locs B.cells B.slots ∧ Post ⟨T, locs, cells, slots⟩ (.ref a :: argsL).toArray v B ∧
      Steps p.tables e below (T.setTop g) (B.U.setTop { g with pc := g.pc + 3, stack := v.toList ++ rest }) := by
  obtain ⟨mk, methM, hnamed, hmethM, hstM, habM⟩ := Cond.instanceMethod_spec hinst
  obtain ⟨methM', cM, hmethM', -, -, -, -, -, -, hsigM⟩ := Cond.code_spec hnamed hcode
  cases hmethM.symm.trans hmethM'
  obtain ⟨hnT, hready, hres⟩ := own_ready X hZ hown hlink hnamed hy
  obtain ⟨kO, hkO, hnameO⟩ := className_of_methodNamed hnT
  obtain ⟨hnameM, hdescM⟩ := name_of_methodNamed hnamed hmethM
  have hmT : T.vm.method? mk = some methM := by rw [X.warmed.alike.method?]; exact hmethM
  have hfound : lookupSpecial T.vm mk.cls "<init>" methM.desc = .method mk := by rw [hdescM, ← hy1]; exact lookupSpecial_of_named hnT hmT hstM
  obtain ⟨v, B, X', hpost, hsteps⟩ := hK m meth c ⟨T, locs, cells, slots⟩ { g with stack := rest } (.invokespecial index) mk (.ref a :: argsL).toArray X hg hsize hdg hW hnT hpre
  refine ⟨v, B, X', hpost, ?_⟩
  subst hg
  have st : ∀ target, (∀ acts, Steps p.tables e below (doInvoke e (T.setTop { g with stack := rest }) acts mk (.ref a :: argsL).toArray).1 target) → Steps p.tables e below (T.setTop g) target := fun target hrest => by
    jvm_step X.here [hexec, hdg, invokespecial.wp_init (e := e) (s := T) (k := kO) (meth := methM) (m := mk) (a := a) (args := argsL) (rest := rest) (f := g)
      X.here.top hres hready hkO hmT (by rw [hnameM]; exact hy1) hstM habM hfound (hlen _ hsigM) hstack]
    exact hrest
  exact (st _ fun acts => by rw [doInvoke_state]; exact Steps.refl _).trans hsteps
/-- a private method by its contract, over a resolved entry -/
theorem own_virtRef (X : Stand p l e R s m args below meth c T locs cells slots) (hexec : p.tables.exec = Jvm.exec) (hZ : Z.Warmed39 s.vm) {own : String} {index kk : Nat} {y : MethodName}
    (hown : s.vm.findClass own = some m.cls) (hlink : (Jvm.Cond.methodRef own index y).before a0 Z = true) (hinst : (Jvm.Cond.instanceMethod y).before args s = true) (hpriv : s.PrivateAt y) (wi : (Jvm.Cond.instantiable y.cls kk).before args s = true)
    {bytes : ByteArray} {maxL : Nat} {ret : Option FieldType} (hcode : (Jvm.Cond.code y bytes maxL ret).before args s = true)
    (hy : y.cls ≠ "java/lang/invoke/MethodHandle" ∧ y.cls ≠ "java/lang/invoke/VarHandle")
    {W : Nat} {Pre : Pt → Array Value → Prop} {Post : Pt → Array Value → Option Value → Pt → Prop} (hK : Back l R p e below s args y 3 W Pre Post)
    {g : JFrame} (hg : g.method = m) (hsize : g.locals.size = c.maxLocals) {cell : Cell} (hcell : T.heap[a]? = some cell) (hobj : ∀ q, cell.vm ≠ .statics q) {argsL rest : List Value}
    (hlen : ∀ sig, parseMethodDescriptor y.desc = some sig → argsL.length = sig.parameters.length) (hstack : g.stack = argsL.reverse ++ .ref a :: rest) (hW : 2 * g.monitorRoom + (rest.map fun v => v.category).sum ≤ W)
    (hdg : decode c.code g.pc = .ok (.invokevirtual index, 3)) (hpre : Pre ⟨T, locs, cells, slots⟩ (.ref a :: argsL).toArray) :
    ∃ (v : Option Value) (B : Pt), Stand p l e R s m args below meth c B.U B.locs B.cells B.slots ∧ Post ⟨T, locs, cells, slots⟩ (.ref a :: argsL).toArray v B ∧
      Steps p.tables e below (T.setTop g) (B.U.setTop { g with pc := g.pc + 3, stack := v.toList ++ rest }) := by
  obtain ⟨mk, methM, hnamed, hmethM, hstM, habM⟩ := Cond.instanceMethod_spec hinst
  obtain ⟨methM', cM, hmethM', -, -, -, -, -, -, hsigM⟩ := Cond.code_spec hnamed hcode
  cases hmethM.symm.trans hmethM'
  obtain ⟨hnT, hready, hres⟩ := own_ready X hZ hown hlink hnamed hy
  obtain ⟨cI, kI, i1, i2, i3, i4, -, -⟩ := Cond.instantiable_spec wi
  cases i1.symm.trans (findClass_of_methodNamed hnamed)
  have hni : kI.isInterface = false := (Bool.or_eq_false_iff.mp i4).1
  obtain ⟨kT, hkT, hkT2⟩ := X.warmed.alike.2.2 _ _ i2
  obtain ⟨kO, hkO, hnameO⟩ := className_of_methodNamed hnT
  cases hkT.symm.trans hkO
  have hniT : kT.isInterface = false := by rw [hkT2]; exact hni
  have hmT : T.vm.method? mk = some methM := by rw [X.warmed.alike.method?]; exact hmethM
  have hpoly : signaturePolymorphic kT methM = false := by simp [signaturePolymorphic, hnameO, hy.1, hy.2]
  have hsel : selectMethod e.platform T.vm cell.cls mk = .method mk := selectMethod_private hmT (hpriv mk methM hnamed hmethM)
  obtain ⟨v, B, X', hpost, hsteps⟩ := hK m meth c ⟨T, locs, cells, slots⟩ { g with stack := rest } (.invokevirtual index) mk (.ref a :: argsL).toArray X hg hsize hdg hW hnT hpre
  refine ⟨v, B, X', hpost, ?_⟩
  subst hg
  have st : ∀ target, (∀ acts, Steps p.tables e below (doInvoke e (T.setTop { g with stack := rest }) acts mk (.ref a :: argsL).toArray).1 target) → Steps p.tables e below (T.setTop g) target := fun target hrest => by
    jvm_step X.here [hexec, hdg, invokevirtual.wp_named (e := e) (s := T) (f := g) (r := mk) (m := mk) (c' := mk.cls) (k := kT) (k' := kT) (mk := kT) (rmeth := methM) (meth := methM) (a := a) (args := argsL) (rest := rest) (cell := cell)
      X.here.top hres hkT hniT hready hkT hmT hpoly hstM (hlen _ hsigM) hstack hcell hobj hsel hmT habM hkT hniT]
    exact hrest
  exact (st _ fun acts => by rw [doInvoke_state]; exact Steps.refl _).trans hsteps
end OwnRefs
theorem own_selP {Z s : State} {a0 args : Array Value} {y : MethodName} {kk : Nat} (hZ : Z.Warmed39 s.vm) (wi : (Jvm.Cond.instantiable y.cls kk).before a0 Z = true) (hp : (Jvm.Cond.privateMethod y).before a0 Z = true) (hi : (Jvm.Cond.instanceMethod y).before a0 Z = true)
    (hy : y.cls ≠ "java/lang/invoke/MethodHandle" ∧ y.cls ≠ "java/lang/invoke/VarHandle") : (Jvm.Cond.selects y.cls y y).before args s = true := by
  have wi' : (Jvm.Cond.instantiable y.cls kk).before args s = true := mvT hZ wi
  obtain ⟨cI, kI, i1, i2, i3, i4, -, -⟩ := Cond.instantiable_spec wi'
  exact selects_self_of_private i1 i2 (Bool.or_eq_false_iff.mp i4).1 (Cond.privateMethod_at (mvP hZ hp (args := args))) (mvT hZ hi) hy
theorem own_rng (p sv : Int32) (h : sv = (p &&& (2147483647 : Int32)) % (10 : Int32)) : 0 ≤ sv.toInt ∧ sv.toInt ≤ 9 := by
  have q := (c_and p (2147483647 : Int32) (by decide)).1
  have r := (c_irem (p &&& (2147483647 : Int32)) (10 : Int32) 10 (by decide)).1 q
  rw [← h] at r; rw [r]; omega
theorem own_up {sv v w : Int32} {k : Int} (hs : 0 ≤ sv.toInt ∧ sv.toInt ≤ 9) (h : ((v.toInt ≤ k ∧ 0 ≤ sv.toInt) ∧ (sv.toInt ≤ k → v.toInt = sv.toInt)) ∧ (k ≤ sv.toInt → v.toInt = k)) (hw : w.toInt = k ∧ 0 ≤ k ∧ k < 100) (hc : w < sv) :
    (((v + (1 : Int32)).toInt ≤ k + 1 ∧ 0 ≤ sv.toInt) ∧ (sv.toInt ≤ k + 1 → (v + (1 : Int32)).toInt = sv.toInt)) ∧ (k + 1 ≤ sv.toInt → (v + (1 : Int32)).toInt = k + 1) := by
  have q := Int32.lt_iff_toInt_lt.mp hc
  have a := c_iadd v 1
  have b := rng32 (v + 1)
  have c : (1 : Int32).toInt = 1 := rfl
  have d := h.2 (by omega)
  omega
theorem own_st2 {sv v w : Int32} {k : Int} (hs : 0 ≤ sv.toInt ∧ sv.toInt ≤ 9) (h : ((v.toInt ≤ k ∧ 0 ≤ sv.toInt) ∧ (sv.toInt ≤ k → v.toInt = sv.toInt)) ∧ (k ≤ sv.toInt → v.toInt = k)) (hw : w.toInt = k ∧ 0 ≤ k ∧ k < 100) (hc : ¬ w < sv) :
    ((v.toInt ≤ k + 1 ∧ 0 ≤ sv.toInt) ∧ (sv.toInt ≤ k + 1 → v.toInt = sv.toInt)) ∧ (k + 1 ≤ sv.toInt → v.toInt = k + 1) := by
  have q : ¬ w.toInt < sv.toInt := fun z => hc (Int32.lt_iff_toInt_lt.mpr z)
  have d := h.1.2 (by omega)
  omega
theorem own_pn0 : plainName "boxwood/Budget$Meter" = true := by first | (simp [plainName, overriddenIn]; done) | decide +kernel
theorem own_d_prog_9_m1_0 : decode prog_9_method_1_code 0 = .ok (.aload_n 0, 1) := by decide +kernel
theorem own_d_prog_9_m1_1 : decode prog_9_method_1_code 1 = .ok (.invokespecial 1, 3) := by decide +kernel
theorem own_d_prog_9_m1_4 : decode prog_9_method_1_code 4 = .ok (.aload_n 0, 1) := by decide +kernel
theorem own_d_prog_9_m1_5 : decode prog_9_method_1_code 5 = .ok (.lload_n 1, 1) := by decide +kernel
theorem own_d_prog_9_m1_6 : decode prog_9_method_1_code 6 = .ok (.putfield 7, 3) := by decide +kernel
theorem own_d_prog_9_m1_9 : decode prog_9_method_1_code 9 = .ok (.return_, 1) := by decide +kernel
theorem own_pn1 : plainName "boxwood/Budget" = true := by first | (simp [plainName, overriddenIn]; done) | decide +kernel
theorem own_d_prog_7_m1_0 : decode prog_7_method_1_code 0 = .ok (.aload_n 0, 1) := by decide +kernel
theorem own_d_prog_7_m1_1 : decode prog_7_method_1_code 1 = .ok (.invokespecial 1, 3) := by decide +kernel
theorem own_d_prog_7_m1_4 : decode prog_7_method_1_code 4 = .ok (.aload_n 0, 1) := by decide +kernel
theorem own_d_prog_7_m1_5 : decode prog_7_method_1_code 5 = .ok (.new 7, 3) := by decide +kernel
theorem own_d_prog_7_m1_8 : decode prog_7_method_1_code 8 = .ok (.dup, 1) := by decide +kernel
theorem own_d_prog_7_m1_9 : decode prog_7_method_1_code 9 = .ok (.ldc2_w 11, 3) := by decide +kernel
theorem own_d_prog_7_m1_12 : decode prog_7_method_1_code 12 = .ok (.invokespecial 13, 3) := by decide +kernel
theorem own_pd0 : parseMethodDescriptor "(J)V" = some ⟨[.long], none⟩ := by decide +kernel
theorem own_d_prog_7_m1_15 : decode prog_7_method_1_code 15 = .ok (.putfield 16, 3) := by decide +kernel
theorem own_d_prog_7_m1_18 : decode prog_7_method_1_code 18 = .ok (.aload_n 0, 1) := by decide +kernel
theorem own_d_prog_7_m1_19 : decode prog_7_method_1_code 19 = .ok (.new 7, 3) := by decide +kernel
theorem own_d_prog_7_m1_22 : decode prog_7_method_1_code 22 = .ok (.dup, 1) := by decide +kernel
theorem own_d_prog_7_m1_23 : decode prog_7_method_1_code 23 = .ok (.ldc2_w 20, 3) := by decide +kernel
theorem own_d_prog_7_m1_26 : decode prog_7_method_1_code 26 = .ok (.invokespecial 13, 3) := by decide +kernel
theorem own_d_prog_7_m1_29 : decode prog_7_method_1_code 29 = .ok (.putfield 22, 3) := by decide +kernel
theorem own_d_prog_7_m1_32 : decode prog_7_method_1_code 32 = .ok (.aload_n 0, 1) := by decide +kernel
theorem own_d_prog_7_m1_33 : decode prog_7_method_1_code 33 = .ok (.ldc2_w 11, 3) := by decide +kernel
theorem own_d_prog_7_m1_36 : decode prog_7_method_1_code 36 = .ok (.putfield 25, 3) := by decide +kernel
theorem own_d_prog_7_m1_39 : decode prog_7_method_1_code 39 = .ok (.return_, 1) := by decide +kernel
theorem own_d_prog_7_m18_0 : decode prog_7_method_18_code 0 = .ok (.aload_n 0, 1) := by decide +kernel
theorem own_d_prog_7_m18_1 : decode prog_7_method_18_code 1 = .ok (.dup, 1) := by decide +kernel
theorem own_d_prog_7_m18_2 : decode prog_7_method_18_code 2 = .ok (.getfield 109, 3) := by decide +kernel
theorem own_d_prog_7_m18_5 : decode prog_7_method_18_code 5 = .ok (.iconst 1, 1) := by decide +kernel
theorem own_d_prog_7_m18_6 : decode prog_7_method_18_code 6 = .ok (.iadd, 1) := by decide +kernel
theorem own_d_prog_7_m18_7 : decode prog_7_method_18_code 7 = .ok (.putfield 109, 3) := by decide +kernel
theorem own_d_prog_7_m18_10 : decode prog_7_method_18_code 10 = .ok (.return_, 1) := by decide +kernel
theorem own_d_prog_7_m19_0 : decode prog_7_method_19_code 0 = .ok (.aload_n 0, 1) := by decide +kernel
theorem own_d_prog_7_m19_1 : decode prog_7_method_19_code 1 = .ok (.dup, 1) := by decide +kernel
theorem own_d_prog_7_m19_2 : decode prog_7_method_19_code 2 = .ok (.getfield 109, 3) := by decide +kernel
theorem own_d_prog_7_m19_5 : decode prog_7_method_19_code 5 = .ok (.iconst 1, 1) := by decide +kernel
theorem own_d_prog_7_m19_6 : decode prog_7_method_19_code 6 = .ok (.isub, 1) := by decide +kernel
theorem own_d_prog_7_m19_7 : decode prog_7_method_19_code 7 = .ok (.putfield 109, 3) := by decide +kernel
theorem own_d_prog_7_m19_10 : decode prog_7_method_19_code 10 = .ok (.return_, 1) := by decide +kernel
theorem own_d_prog_7_m17_0 : decode prog_7_method_17_code 0 = .ok (.aload_n 0, 1) := by decide +kernel
theorem own_d_prog_7_m17_1 : decode prog_7_method_17_code 1 = .ok (.getfield 109, 3) := by decide +kernel
theorem own_d_prog_7_m17_4 : decode prog_7_method_17_code 4 = .ok (.bipush 8, 2) := by decide +kernel
theorem own_d_prog_7_m17_6 : decode prog_7_method_17_code 6 = .ok (.if_icmp .lt 7, 3) := by decide +kernel
theorem own_d_prog_7_m17_13 : decode prog_7_method_17_code 13 = .ok (.iconst 0, 1) := by decide +kernel
theorem own_d_prog_7_m17_14 : decode prog_7_method_17_code 14 = .ok (.ireturn, 1) := by decide +kernel
theorem own_d_prog_7_m17_9 : decode prog_7_method_17_code 9 = .ok (.iconst 1, 1) := by decide +kernel
theorem own_d_prog_7_m17_10 : decode prog_7_method_17_code 10 = .ok (.goto 4, 3) := by decide +kernel
theorem own_pn2 : plainName "boxwood/BudgetInPlaceSpentPinLaw" = true := by first | (simp [plainName, overriddenIn]; done) | decide +kernel
theorem own_pd1 : parseMethodDescriptor "()V" = some ⟨[], none⟩ := by decide +kernel
theorem own_pd2 : parseMethodDescriptor "()Z" = some ⟨[], some .boolean⟩ := by decide +kernel
def Q_meter (Z : State) (a1 : Addr) (q : Int64) (h0 : Heap) (n0 : Nat) (v : Option Value) (h : Heap) (L : List Loc) : Prop := v = none ∧ Fr n0 L ∧ (Keep h0 h [a1])
theorem ef_meter (m : MethodId) (x0 : Addr) (x1 : Int64)  : entryFrame m #[(.ref x0), (.long x1)] 3 = mkF m 0 #[.val (.ref x0), .val (.long x1), .second] [] := by first | (simp [entryFrame, mkF, argsToLocals, Value.category]; done) | rfl
set_option maxRecDepth 65536 in
set_option maxHeartbeats 40000000 in
theorem rm_meter (l : Launch) (Z : State) (a0 : Array Value) (hw : ∀ d ∈ tables_1, d.before a0 Z = true) (ws : List Jvm.Cond) (a1 : Addr) (q : Int64) (h0 : Heap) (n0 : Nat) (Zs : n0 ≤ h0.size) (E_a1 : Exa Z h0 a1 "boxwood/Budget$Meter") (F_a1 : Fld Z h0 a1 "boxwood/Budget$Meter" "left" "J" (.long (0 : Int64))) (g_a1 : n0 ≤ a1) :
    MetFree l (⟨"boxwood/Budget$Meter", "<init>", "(J)V"⟩ : MethodName) (head1 (Jvm.Cond.code (⟨"boxwood/Budget$Meter", "<init>", "(J)V"⟩ : MethodName) prog_9_method_1_code 3 none :: ws) ({ frames := 1, cells := 0, slots := 0, locals := 12 } : Room)) (fun a U => a = #[(.ref a1), (.long q)] ∧ Z.Warmed39 U.vm ∧ U.heap = h0) (fun _ _ _ _ _ => True) (fun _ U o U' => ∃ v L, o = .returned v ∧ (Q_meter Z a1 q h0 n0) v U'.heap L ∧ FrameEnd U o U' L ({ frames := 1, cells := 0, slots := 0, locals := 12 } : Room).cells ({ frames := 1, cells := 0, slots := 0, locals := 12 } : Room).slots) := by
  refine MetFree.of_bodySF (plainFor_of_name own_pn0) hisR ?_
  intro p e s m args below meth c s₁ Bd hml0 hP hK
  obtain ⟨rfl, hZ, hh⟩ := hP
  have hx := Bd.exec
  have hby := Bd.bytes
  have hlk := BodyLoose.notSynchronized Bd
  have hret := Bd.returns
  have hml : c.maxLocals = 3 := hml0
  have hown : s.vm.findClass "boxwood/Budget$Meter" = some m.cls := findClass_of_methodNamed Bd.named
  have hnm := (name_of_methodNamed Bd.named Bd.method).1
  have X : Stand p l e ({ frames := 1, cells := 0, slots := 0, locals := 12 } : Room) s m #[(.ref a1), (.long q)] below meth c s₁ [] 0 0 := Stand.of_body Bd
  have eT : s₁.heap = h0 := by rw [← hh, Bd.state]; rfl
  have N := Fr.nil n0
  have K0 : Keep h0 h0 [a1] := Keep.refl _ _
  show own_Go p e below s (Q_meter Z a1 q h0 n0) ({ frames := 1, cells := 0, slots := 0, locals := 12 } : Room).cells ({ frames := 1, cells := 0, slots := 0, locals := 12 } : Room).slots s₁ (entryFrame m #[(.ref a1), (.long q)] 3)
  rw [ef_meter m a1 q]
  refine own_st (T' := s₁) (g' := (mkF m 1 #[.val (.ref a1), .val (.long q), .second] [(.ref a1)])) (fun _ zq => XS.aloadN X.here hx rfl (hb hby own_d_prog_9_m1_0) rfl rfl zq) ?_
  obtain ⟨T1, X1, e1, st1⟩ := initO X hx hZ hown (hw _ (List.mem_of_getElem? (i := 17) rfl)) (hw _ (List.mem_of_getElem? (i := 8) rfl)) (hw _ (List.mem_of_getElem? (i := 9) rfl)) eT (g := (mkF m 1 #[.val (.ref a1), .val (.long q), .second] [(.ref a1)])) rfl (by rw [hml]; rfl) rfl (hb hby own_d_prog_9_m1_1) (by decide) (W := 0) (by show 2 * 0 + _ ≤ _; exact Nat.le_of_eq rfl) (by decide)
  refine own_st (g' := (mkF m 4 #[.val (.ref a1), .val (.long q), .second] [])) st1 ?_
  refine own_st (T' := T1) (g' := (mkF m 5 #[.val (.ref a1), .val (.long q), .second] [(.ref a1)])) (fun _ zq => XS.aloadN X1.here hx rfl (hb hby own_d_prog_9_m1_4) rfl rfl zq) ?_
  refine own_st (T' := T1) (g' := (mkF m 6 #[.val (.ref a1), .val (.long q), .second] [(.long q), (.ref a1)])) (fun _ zq => XS.lloadN X1.here hx rfl (hb hby own_d_prog_9_m1_5) rfl zq) ?_
  obtain ⟨T2, h2, X2, e2, W2, st2⟩ := putF X1 hx hZ hown (host := "") (Or.inl (hw _ (List.mem_of_getElem? (i := 18) rfl))) Via.refl e1 F_a1 E_a1 (Or.inl (hw _ (List.mem_of_getElem? (i := 19) rfl))) (hw _ (List.mem_of_getElem? (i := 11) rfl)) (ty := .long) (by decide) rfl rfl (g := (mkF m 6 #[.val (.ref a1), .val (.long q), .second] [(.long q), (.ref a1)])) rfl rfl (hb hby own_d_prog_9_m1_6)
  replace E_a1 := E_a1.wr W2
  replace F_a1 := F_a1.same W2
  replace Zs := Nat.le_trans Zs (Keep.of_wr W2).1
  replace K0 := K0.wr W2 (Or.inl (List.mem_of_getElem? (i := 0) rfl))
  replace N := Fr.snoc X2 N g_a1
  refine own_st (g' := (mkF m 9 #[.val (.ref a1), .val (.long q), .second] [])) st2 ?_
  exact own_ret0 X2 hx hret hlk (hb hby own_d_prog_9_m1_9) e2 (Nat.le_of_ble_eq_true rfl) (Nat.le_of_ble_eq_true rfl) ⟨rfl, N, K0⟩
def Q_binit (Z : State) (a1 : Addr) (h0 : Heap) (n0 : Nat) (v : Option Value) (h : Heap) (L : List Loc) : Prop := v = none ∧ Fr n0 L ∧ (Keep h0 h [a1]) ∧ (Exa Z h a1 "boxwood/Budget") ∧ (Fld Z h a1 "boxwood/Budget" "inPlace" "I" (.int (0 : Int32)))
theorem ef_binit (m : MethodId) (x0 : Addr)  : entryFrame m #[(.ref x0)] 1 = mkF m 0 #[.val (.ref x0)] [] := by first | (simp [entryFrame, mkF, argsToLocals, Value.category]; done) | rfl
set_option maxRecDepth 65536 in
set_option maxHeartbeats 40000000 in
theorem rm_binit (l : Launch) (Z : State) (a0 : Array Value) (hw : ∀ d ∈ tables_1, d.before a0 Z = true) (ws : List Jvm.Cond) (a1 : Addr) (h0 : Heap) (n0 : Nat) (Zs : n0 ≤ h0.size) (E_a1 : Exa Z h0 a1 "boxwood/Budget") (F_size : Fld Z h0 a1 "boxwood/Budget" "size" "Lboxwood/Budget$Meter;" .null) (F_steps : Fld Z h0 a1 "boxwood/Budget" "steps" "Lboxwood/Budget$Meter;" .null) (F_start : Fld Z h0 a1 "boxwood/Budget" "sizeAtStart" "J" (.long (0 : Int64))) (F_in : Fld Z h0 a1 "boxwood/Budget" "inPlace" "I" (.int (0 : Int32))) (g_a1 : n0 ≤ a1) :
    MetFree l (⟨"boxwood/Budget", "<init>", "()V"⟩ : MethodName) (head1 (Jvm.Cond.code (⟨"boxwood/Budget", "<init>", "()V"⟩ : MethodName) prog_7_method_1_code 1 none :: ws) ({ frames := 2, cells := 2, slots := 4, locals := 60 } : Room)) (fun a U => a = #[(.ref a1)] ∧ Z.Warmed39 U.vm ∧ U.heap = h0) (fun _ _ _ _ _ => True) (fun _ U o U' => ∃ v L, o = .returned v ∧ (Q_binit Z a1 h0 n0) v U'.heap L ∧ FrameEnd U o U' L ({ frames := 2, cells := 2, slots := 4, locals := 60 } : Room).cells ({ frames := 2, cells := 2, slots := 4, locals := 60 } : Room).slots) := by
  refine MetFree.of_bodySF (plainFor_of_name own_pn1) hisR ?_
  intro p e s m args below meth c s₁ Bd hml0 hP hK
  obtain ⟨rfl, hZ, hh⟩ := hP
  have hx := Bd.exec
  have hby := Bd.bytes
  have hlk := BodyLoose.notSynchronized Bd
  have hret := Bd.returns
  have hml : c.maxLocals = 1 := hml0
  have hown : s.vm.findClass "boxwood/Budget" = some m.cls := findClass_of_methodNamed Bd.named
  have hnm := (name_of_methodNamed Bd.named Bd.method).1
  have X : Stand p l e ({ frames := 2, cells := 2, slots := 4, locals := 60 } : Room) s m #[(.ref a1)] below meth c s₁ [] 0 0 := Stand.of_body Bd
  have eT : s₁.heap = h0 := by rw [← hh, Bd.state]; rfl
  have N := Fr.nil n0
  have K0 : Keep h0 h0 [a1] := Keep.refl _ _
  show own_Go p e below s (Q_binit Z a1 h0 n0) ({ frames := 2, cells := 2, slots := 4, locals := 60 } : Room).cells ({ frames := 2, cells := 2, slots := 4, locals := 60 } : Room).slots s₁ (entryFrame m #[(.ref a1)] 1)
  rw [ef_binit m a1]
  refine own_st (T' := s₁) (g' := (mkF m 1 #[.val (.ref a1)] [(.ref a1)])) (fun _ zq => XS.aloadN X.here hx rfl (hb hby own_d_prog_7_m1_0) rfl rfl zq) ?_
  obtain ⟨T3, X3, e3, st3⟩ := initO X hx hZ hown (hw _ (List.mem_of_getElem? (i := 7) rfl)) (hw _ (List.mem_of_getElem? (i := 8) rfl)) (hw _ (List.mem_of_getElem? (i := 9) rfl)) eT (g := (mkF m 1 #[.val (.ref a1)] [(.ref a1)])) rfl (by rw [hml]; rfl) rfl (hb hby own_d_prog_7_m1_1) (by decide) (W := 0) (by show 2 * 0 + _ ≤ _; exact Nat.le_of_eq rfl) (by decide)
  refine own_st (g' := (mkF m 4 #[.val (.ref a1)] [])) st3 ?_
  refine own_st (T' := T3) (g' := (mkF m 5 #[.val (.ref a1)] [(.ref a1)])) (fun _ zq => XS.aloadN X3.here hx rfl (hb hby own_d_prog_7_m1_4) rfl rfl zq) ?_
  obtain ⟨T4, h4, X4, e4, E4, A4, D4, -, st4⟩ := newO X3 hx hZ hown (hw _ (List.mem_of_getElem? (i := 10) rfl)) (hw _ (List.mem_of_getElem? (i := 11) rfl)) (hw _ (List.mem_of_getElem? (i := 12) rfl)) e3 (g := (mkF m 5 #[.val (.ref a1)] [(.ref a1)])) rfl (hb hby own_d_prog_7_m1_5) (by decide) (by decide)
  obtain ⟨b4, ga4⟩ : ∃ z, z = h0.size := ⟨_, rfl⟩
  rw [← ga4] at A4 D4 st4
  have g_b4 : n0 ≤ b4 := Nat.le_trans Zs (Nat.le_of_eq ga4.symm)
  have sz_b4 : h0.size ≤ b4 := Nat.le_trans K0.1 (Nat.le_of_eq ga4.symm)
  have ne_a1_b4 : a1 ≠ b4 := fun q => Nat.lt_irrefl _ (Nat.lt_of_lt_of_eq E_a1.lt (ga4.symm.trans q.symm))
  have E_b4 := A4
  replace E_a1 := E_a1.ext E4
  replace F_size := F_size.ext E4
  replace F_steps := F_steps.ext E4
  replace F_start := F_start.ext E4
  replace F_in := F_in.ext E4
  replace Zs := Nat.le_trans Zs E4.1
  replace K0 := K0.ext E4
  have F_b4_left : Fld Z h4 b4 "boxwood/Budget$Meter" "left" "J" (.long (0 : Int64)) := D4 (Or.inl (hw _ (List.mem_of_getElem? (i := 19) rfl))) (ty := .long) (by decide)
  refine own_st (g' := (mkF m 8 #[.val (.ref a1)] [(.ref b4), (.ref a1)])) st4 ?_
  refine own_st (T' := T4) (g' := (mkF m 9 #[.val (.ref a1)] [(.ref b4), (.ref b4), (.ref a1)])) (fun _ zq => XS.dup X4.here hx rfl (hb hby own_d_prog_7_m1_8) rfl rfl zq) ?_
  refine own_st (T' := T4) (g' := (mkF m 12 #[.val (.ref a1)] [(.long (16777216 : Int64)), (.ref b4), (.ref b4), (.ref a1)])) (fun _ zq => X4.ldc2Long hx hown (mvT hZ (hw _ (List.mem_of_getElem? (i := 13) rfl))) (g := (mkF m 9 #[.val (.ref a1)] [(.ref b4), (.ref b4), (.ref a1)])) rfl (hb hby own_d_prog_7_m1_9) _ zq) ?_
  obtain ⟨_, ⟨T5, L5, k5, n5⟩, X5, ⟨Lc5, hQ5, l5, y5, z5⟩, st5⟩ := own_specialRef (a := b4) X4 hx hZ (y := (⟨"boxwood/Budget$Meter", "<init>", "(J)V"⟩ : MethodName)) rfl hown (hw _ (List.mem_of_getElem? (i := 14) rfl)) (mvT hZ (hw _ (List.mem_of_getElem? (i := 15) rfl))) (mvT hZ (hw _ (List.mem_of_getElem? (i := 16) rfl))) (by decide) (backOf (W := 2) (rm_meter l Z a0 hw [] b4 (16777216 : Int64) h4 n0 Zs E_b4 F_b4_left g_b4) hZ (hw _ (List.mem_of_getElem? (i := 16) rfl)) (hw _ (List.mem_of_getElem? (i := 12) rfl)) (by decide) (by decide)) (g := (mkF m 12 #[.val (.ref a1)] [(.long (16777216 : Int64)), (.ref b4), (.ref b4), (.ref a1)])) rfl (by rw [hml]; rfl) (argsL := [(.long (16777216 : Int64))]) (rest := [(.ref b4), (.ref a1)]) (lenOf own_pd0 rfl) rfl (by show 2 * 0 + _ ≤ _; exact Nat.le_of_eq rfl) (hb hby own_d_prog_7_m1_12) ⟨rfl, e4, (by decide : 1 + 0 ≤ _), (by decide : 2 + 0 ≤ _)⟩
  dsimp only [Pt.U, Pt.locs, Pt.cells, Pt.slots] at X5 l5 y5 z5 st5 hQ5
  subst l5 y5 z5
  obtain ⟨rfl, Nq5, Kq5⟩ := hQ5
  replace N := Fr.app N Nq5
  replace E_a1 := E_a1.keep Kq5
  replace F_size := F_size.keep Kq5 (ninS ne_a1_b4 nin0)
  replace F_steps := F_steps.keep Kq5 (ninS ne_a1_b4 nin0)
  replace F_start := F_start.keep Kq5 (ninS ne_a1_b4 nin0)
  replace F_in := F_in.keep Kq5 (ninS ne_a1_b4 nin0)
  replace E_b4 := E_b4.keep Kq5
  replace Zs := Nat.le_trans Zs Kq5.1
  replace K0 := K0.trans Kq5 (allS (Or.inr sz_b4) all0)
  refine own_tr (g' := (mkF m 15 #[.val (.ref a1)] [(.ref b4), (.ref a1)])) st5 ?_
  obtain ⟨T6, h6, X6, e6, W6, st6⟩ := putF X5 hx hZ hown (host := "") (Or.inl (hw _ (List.mem_of_getElem? (i := 20) rfl))) Via.refl rfl F_size E_a1 (Or.inr ⟨(hw _ (List.mem_of_getElem? (i := 21) rfl)), rfl, hnm⟩) (hw _ (List.mem_of_getElem? (i := 2) rfl)) (ty := (.object "boxwood/Budget$Meter")) (by decide) rfl rfl (g := (mkF m 15 #[.val (.ref a1)] [(.ref b4), (.ref a1)])) rfl rfl (hb hby own_d_prog_7_m1_15)
  replace E_a1 := E_a1.wr W6
  replace F_size := F_size.same W6
  replace F_steps := F_steps.other W6 (Or.inr (slot_ne (C := "boxwood/Budget") (Or.inr (hw _ (List.mem_of_getElem? (i := 24) rfl))) (Or.inr (hw _ (List.mem_of_getElem? (i := 21) rfl))) (by decide) (t := (.object "boxwood/Budget$Meter")) (by decide) (t' := (.object "boxwood/Budget$Meter")) (by decide)))
  replace F_start := F_start.other W6 (Or.inr (slot_ne (C := "boxwood/Budget") (Or.inl (hw _ (List.mem_of_getElem? (i := 26) rfl))) (Or.inr (hw _ (List.mem_of_getElem? (i := 21) rfl))) (by decide) (t := .long) (by decide) (t' := (.object "boxwood/Budget$Meter")) (by decide)))
  replace F_in := F_in.other W6 (Or.inr (slot_ne (C := "boxwood/Budget") (Or.inl (hw _ (List.mem_of_getElem? (i := 33) rfl))) (Or.inr (hw _ (List.mem_of_getElem? (i := 21) rfl))) (by decide) (t := .int) (by decide) (t' := (.object "boxwood/Budget$Meter")) (by decide)))
  replace E_b4 := E_b4.wr W6
  replace Zs := Nat.le_trans Zs (Keep.of_wr W6).1
  replace K0 := K0.wr W6 (Or.inl (List.mem_of_getElem? (i := 0) rfl))
  replace N := Fr.snoc X6 N g_a1
  refine own_st (g' := (mkF m 18 #[.val (.ref a1)] [])) st6 ?_
  refine own_st (T' := T6) (g' := (mkF m 19 #[.val (.ref a1)] [(.ref a1)])) (fun _ zq => XS.aloadN X6.here hx rfl (hb hby own_d_prog_7_m1_18) rfl rfl zq) ?_
  obtain ⟨T7, h7, X7, e7, E7, A7, D7, -, st7⟩ := newO X6 hx hZ hown (hw _ (List.mem_of_getElem? (i := 10) rfl)) (hw _ (List.mem_of_getElem? (i := 11) rfl)) (hw _ (List.mem_of_getElem? (i := 12) rfl)) e6 (g := (mkF m 19 #[.val (.ref a1)] [(.ref a1)])) rfl (hb hby own_d_prog_7_m1_19) (by decide) (by decide)
  obtain ⟨b7, ga7⟩ : ∃ z, z = h6.size := ⟨_, rfl⟩
  rw [← ga7] at A7 D7 st7
  have g_b7 : n0 ≤ b7 := Nat.le_trans Zs (Nat.le_of_eq ga7.symm)
  have sz_b7 : h0.size ≤ b7 := Nat.le_trans K0.1 (Nat.le_of_eq ga7.symm)
  have ne_a1_b7 : a1 ≠ b7 := fun q => Nat.lt_irrefl _ (Nat.lt_of_lt_of_eq E_a1.lt (ga7.symm.trans q.symm))
  have ne_b4_b7 : b4 ≠ b7 := fun q => Nat.lt_irrefl _ (Nat.lt_of_lt_of_eq E_b4.lt (ga7.symm.trans q.symm))
  have E_b7 := A7
  replace E_a1 := E_a1.ext E7
  replace F_size := F_size.ext E7
  replace F_steps := F_steps.ext E7
  replace F_start := F_start.ext E7
  replace F_in := F_in.ext E7
  replace E_b4 := E_b4.ext E7
  replace Zs := Nat.le_trans Zs E7.1
  replace K0 := K0.ext E7
  have F_b7_left : Fld Z h7 b7 "boxwood/Budget$Meter" "left" "J" (.long (0 : Int64)) := D7 (Or.inl (hw _ (List.mem_of_getElem? (i := 19) rfl))) (ty := .long) (by decide)
  refine own_st (g' := (mkF m 22 #[.val (.ref a1)] [(.ref b7), (.ref a1)])) st7 ?_
  refine own_st (T' := T7) (g' := (mkF m 23 #[.val (.ref a1)] [(.ref b7), (.ref b7), (.ref a1)])) (fun _ zq => XS.dup X7.here hx rfl (hb hby own_d_prog_7_m1_22) rfl rfl zq) ?_
  refine own_st (T' := T7) (g' := (mkF m 26 #[.val (.ref a1)] [(.long (134217728 : Int64)), (.ref b7), (.ref b7), (.ref a1)])) (fun _ zq => X7.ldc2Long hx hown (mvT hZ (hw _ (List.mem_of_getElem? (i := 22) rfl))) (g := (mkF m 23 #[.val (.ref a1)] [(.ref b7), (.ref b7), (.ref a1)])) rfl (hb hby own_d_prog_7_m1_23) _ zq) ?_
  obtain ⟨_, ⟨T8, L8, k8, n8⟩, X8, ⟨Lc8, hQ8, l8, y8, z8⟩, st8⟩ := own_specialRef (a := b7) X7 hx hZ (y := (⟨"boxwood/Budget$Meter", "<init>", "(J)V"⟩ : MethodName)) rfl hown (hw _ (List.mem_of_getElem? (i := 14) rfl)) (mvT hZ (hw _ (List.mem_of_getElem? (i := 15) rfl))) (mvT hZ (hw _ (List.mem_of_getElem? (i := 16) rfl))) (by decide) (backOf (W := 2) (rm_meter l Z a0 hw [] b7 (134217728 : Int64) h7 n0 Zs E_b7 F_b7_left g_b7) hZ (hw _ (List.mem_of_getElem? (i := 16) rfl)) (hw _ (List.mem_of_getElem? (i := 12) rfl)) (by decide) (by decide)) (g := (mkF m 26 #[.val (.ref a1)] [(.long (134217728 : Int64)), (.ref b7), (.ref b7), (.ref a1)])) rfl (by rw [hml]; rfl) (argsL := [(.long (134217728 : Int64))]) (rest := [(.ref b7), (.ref a1)]) (lenOf own_pd0 rfl) rfl (by show 2 * 0 + _ ≤ _; exact Nat.le_of_eq rfl) (hb hby own_d_prog_7_m1_26) ⟨rfl, e7, (by decide : 2 + 0 ≤ _), (by decide : 4 + 0 ≤ _)⟩
  dsimp only [Pt.U, Pt.locs, Pt.cells, Pt.slots] at X8 l8 y8 z8 st8 hQ8
  subst l8 y8 z8
  obtain ⟨rfl, Nq8, Kq8⟩ := hQ8
  replace N := Fr.app N Nq8
  replace E_a1 := E_a1.keep Kq8
  replace F_size := F_size.keep Kq8 (ninS ne_a1_b7 nin0)
  replace F_steps := F_steps.keep Kq8 (ninS ne_a1_b7 nin0)
  replace F_start := F_start.keep Kq8 (ninS ne_a1_b7 nin0)
  replace F_in := F_in.keep Kq8 (ninS ne_a1_b7 nin0)
  replace E_b4 := E_b4.keep Kq8
  replace E_b7 := E_b7.keep Kq8
  replace Zs := Nat.le_trans Zs Kq8.1
  replace K0 := K0.trans Kq8 (allS (Or.inr sz_b7) all0)
  refine own_tr (g' := (mkF m 29 #[.val (.ref a1)] [(.ref b7), (.ref a1)])) st8 ?_
  obtain ⟨T9, h9, X9, e9, W9, st9⟩ := putF X8 hx hZ hown (host := "") (Or.inl (hw _ (List.mem_of_getElem? (i := 23) rfl))) Via.refl rfl F_steps E_a1 (Or.inr ⟨(hw _ (List.mem_of_getElem? (i := 24) rfl)), rfl, hnm⟩) (hw _ (List.mem_of_getElem? (i := 2) rfl)) (ty := (.object "boxwood/Budget$Meter")) (by decide) rfl rfl (g := (mkF m 29 #[.val (.ref a1)] [(.ref b7), (.ref a1)])) rfl rfl (hb hby own_d_prog_7_m1_29)
  replace E_a1 := E_a1.wr W9
  replace F_size := F_size.other W9 (Or.inr (slot_ne (C := "boxwood/Budget") (Or.inr (hw _ (List.mem_of_getElem? (i := 21) rfl))) (Or.inr (hw _ (List.mem_of_getElem? (i := 24) rfl))) (by decide) (t := (.object "boxwood/Budget$Meter")) (by decide) (t' := (.object "boxwood/Budget$Meter")) (by decide)))
  replace F_steps := F_steps.same W9
  replace F_start := F_start.other W9 (Or.inr (slot_ne (C := "boxwood/Budget") (Or.inl (hw _ (List.mem_of_getElem? (i := 26) rfl))) (Or.inr (hw _ (List.mem_of_getElem? (i := 24) rfl))) (by decide) (t := .long) (by decide) (t' := (.object "boxwood/Budget$Meter")) (by decide)))
  replace F_in := F_in.other W9 (Or.inr (slot_ne (C := "boxwood/Budget") (Or.inl (hw _ (List.mem_of_getElem? (i := 33) rfl))) (Or.inr (hw _ (List.mem_of_getElem? (i := 24) rfl))) (by decide) (t := .int) (by decide) (t' := (.object "boxwood/Budget$Meter")) (by decide)))
  replace E_b4 := E_b4.wr W9
  replace E_b7 := E_b7.wr W9
  replace Zs := Nat.le_trans Zs (Keep.of_wr W9).1
  replace K0 := K0.wr W9 (Or.inl (List.mem_of_getElem? (i := 0) rfl))
  replace N := Fr.snoc X9 N g_a1
  refine own_st (g' := (mkF m 32 #[.val (.ref a1)] [])) st9 ?_
  refine own_st (T' := T9) (g' := (mkF m 33 #[.val (.ref a1)] [(.ref a1)])) (fun _ zq => XS.aloadN X9.here hx rfl (hb hby own_d_prog_7_m1_32) rfl rfl zq) ?_
  refine own_st (T' := T9) (g' := (mkF m 36 #[.val (.ref a1)] [(.long (16777216 : Int64)), (.ref a1)])) (fun _ zq => X9.ldc2Long hx hown (mvT hZ (hw _ (List.mem_of_getElem? (i := 13) rfl))) (g := (mkF m 33 #[.val (.ref a1)] [(.ref a1)])) rfl (hb hby own_d_prog_7_m1_33) _ zq) ?_
  obtain ⟨T10, h10, X10, e10, W10, st10⟩ := putF X9 hx hZ hown (host := "") (Or.inl (hw _ (List.mem_of_getElem? (i := 25) rfl))) Via.refl e9 F_start E_a1 (Or.inl (hw _ (List.mem_of_getElem? (i := 26) rfl))) (hw _ (List.mem_of_getElem? (i := 2) rfl)) (ty := .long) (by decide) rfl rfl (g := (mkF m 36 #[.val (.ref a1)] [(.long (16777216 : Int64)), (.ref a1)])) rfl rfl (hb hby own_d_prog_7_m1_36)
  replace E_a1 := E_a1.wr W10
  replace F_size := F_size.other W10 (Or.inr (slot_ne (C := "boxwood/Budget") (Or.inr (hw _ (List.mem_of_getElem? (i := 21) rfl))) (Or.inl (hw _ (List.mem_of_getElem? (i := 26) rfl))) (by decide) (t := (.object "boxwood/Budget$Meter")) (by decide) (t' := .long) (by decide)))
  replace F_steps := F_steps.other W10 (Or.inr (slot_ne (C := "boxwood/Budget") (Or.inr (hw _ (List.mem_of_getElem? (i := 24) rfl))) (Or.inl (hw _ (List.mem_of_getElem? (i := 26) rfl))) (by decide) (t := (.object "boxwood/Budget$Meter")) (by decide) (t' := .long) (by decide)))
  replace F_start := F_start.same W10
  replace F_in := F_in.other W10 (Or.inr (slot_ne (C := "boxwood/Budget") (Or.inl (hw _ (List.mem_of_getElem? (i := 33) rfl))) (Or.inl (hw _ (List.mem_of_getElem? (i := 26) rfl))) (by decide) (t := .int) (by decide) (t' := .long) (by decide)))
  replace E_b4 := E_b4.wr W10
  replace E_b7 := E_b7.wr W10
  replace Zs := Nat.le_trans Zs (Keep.of_wr W10).1
  replace K0 := K0.wr W10 (Or.inl (List.mem_of_getElem? (i := 0) rfl))
  replace N := Fr.snoc X10 N g_a1
  refine own_st (g' := (mkF m 39 #[.val (.ref a1)] [])) st10 ?_
  exact own_ret0 X10 hx hret hlk (hb hby own_d_prog_7_m1_39) e10 (Nat.le_of_ble_eq_true rfl) (Nat.le_of_ble_eq_true rfl) ⟨rfl, N, K0, E_a1, F_in⟩
def Q_starti (Z : State) (a1 : Addr) (t : Int32) (h0 : Heap) (n0 : Nat) (v : Option Value) (h : Heap) (L : List Loc) : Prop := v = none ∧ Fr n0 L ∧ (Keep h0 h [a1]) ∧ (Exa Z h a1 "boxwood/Budget") ∧ (Fld Z h a1 "boxwood/Budget" "inPlace" "I" (.int (t + (1 : Int32))))
theorem ef_starti (m : MethodId) (x0 : Addr)  : entryFrame m #[(.ref x0)] 1 = mkF m 0 #[.val (.ref x0)] [] := by first | (simp [entryFrame, mkF, argsToLocals, Value.category]; done) | rfl
set_option maxRecDepth 65536 in
set_option maxHeartbeats 40000000 in
theorem rm_starti (l : Launch) (Z : State) (a0 : Array Value) (hw : ∀ d ∈ tables_1, d.before a0 Z = true) (ws : List Jvm.Cond) (a1 : Addr) (t : Int32) (h0 : Heap) (n0 : Nat) (Zs : n0 ≤ h0.size) (E_a1 : Exa Z h0 a1 "boxwood/Budget") (F_in : Fld Z h0 a1 "boxwood/Budget" "inPlace" "I" (.int t)) (g_a1 : n0 ≤ a1) :
    MetFree l (⟨"boxwood/Budget", "startInPlace", "()V"⟩ : MethodName) (head1 (Jvm.Cond.code (⟨"boxwood/Budget", "startInPlace", "()V"⟩ : MethodName) prog_7_method_18_code 1 none :: ws) ({ frames := 0, cells := 0, slots := 0, locals := 0 } : Room)) (fun a U => a = #[(.ref a1)] ∧ Z.Warmed39 U.vm ∧ U.heap = h0) (fun _ _ _ _ _ => True) (fun _ U o U' => ∃ v L, o = .returned v ∧ (Q_starti Z a1 t h0 n0) v U'.heap L ∧ FrameEnd U o U' L ({ frames := 0, cells := 0, slots := 0, locals := 0 } : Room).cells ({ frames := 0, cells := 0, slots := 0, locals := 0 } : Room).slots) := by
  refine MetFree.of_bodySF (plainFor_of_name own_pn1) hisR ?_
  intro p e s m args below meth c s₁ Bd hml0 hP hK
  obtain ⟨rfl, hZ, hh⟩ := hP
  have hx := Bd.exec
  have hby := Bd.bytes
  have hlk := BodyLoose.notSynchronized Bd
  have hret := Bd.returns
  have hml : c.maxLocals = 1 := hml0
  have hown : s.vm.findClass "boxwood/Budget" = some m.cls := findClass_of_methodNamed Bd.named
  have hnm := (name_of_methodNamed Bd.named Bd.method).1
  have X : Stand p l e ({ frames := 0, cells := 0, slots := 0, locals := 0 } : Room) s m #[(.ref a1)] below meth c s₁ [] 0 0 := Stand.of_body Bd
  have eT : s₁.heap = h0 := by rw [← hh, Bd.state]; rfl
  have N := Fr.nil n0
  have K0 : Keep h0 h0 [a1] := Keep.refl _ _
  show own_Go p e below s (Q_starti Z a1 t h0 n0) ({ frames := 0, cells := 0, slots := 0, locals := 0 } : Room).cells ({ frames := 0, cells := 0, slots := 0, locals := 0 } : Room).slots s₁ (entryFrame m #[(.ref a1)] 1)
  rw [ef_starti m a1]
  refine own_st (T' := s₁) (g' := (mkF m 1 #[.val (.ref a1)] [(.ref a1)])) (fun _ zq => XS.aloadN X.here hx rfl (hb hby own_d_prog_7_m18_0) rfl rfl zq) ?_
  refine own_st (T' := s₁) (g' := (mkF m 2 #[.val (.ref a1)] [(.ref a1), (.ref a1)])) (fun _ zq => XS.dup X.here hx rfl (hb hby own_d_prog_7_m18_1) rfl rfl zq) ?_
  obtain ⟨T11, X11, e11, st11⟩ := getF X hx hZ hown (host := "") (Or.inl (hw _ (List.mem_of_getElem? (i := 32) rfl))) Via.refl eT F_in (g := (mkF m 2 #[.val (.ref a1)] [(.ref a1), (.ref a1)])) rfl rfl (hb hby own_d_prog_7_m18_2)
  refine own_st (g' := (mkF m 5 #[.val (.ref a1)] [(.int t), (.ref a1)])) st11 ?_
  refine own_st (T' := T11) (g' := (mkF m 6 #[.val (.ref a1)] [(.int (1 : Int32)), (.int t), (.ref a1)])) (fun _ zq => XS.iconst X11.here hx rfl (hb hby own_d_prog_7_m18_5) zq) ?_
  refine own_st (T' := T11) (g' := (mkF m 7 #[.val (.ref a1)] [(.int (t + (1 : Int32))), (.ref a1)])) (fun _ zq => XS.iadd X11.here hx rfl (hb hby own_d_prog_7_m18_6) rfl zq) ?_
  obtain ⟨T12, h12, X12, e12, W12, st12⟩ := putF X11 hx hZ hown (host := "") (Or.inl (hw _ (List.mem_of_getElem? (i := 32) rfl))) Via.refl e11 F_in E_a1 (Or.inl (hw _ (List.mem_of_getElem? (i := 33) rfl))) (hw _ (List.mem_of_getElem? (i := 2) rfl)) (ty := .int) (by decide) rfl rfl (g := (mkF m 7 #[.val (.ref a1)] [(.int (t + (1 : Int32))), (.ref a1)])) rfl rfl (hb hby own_d_prog_7_m18_7)
  replace E_a1 := E_a1.wr W12
  replace F_in := F_in.same W12
  replace Zs := Nat.le_trans Zs (Keep.of_wr W12).1
  replace K0 := K0.wr W12 (Or.inl (List.mem_of_getElem? (i := 0) rfl))
  replace N := Fr.snoc X12 N g_a1
  refine own_st (g' := (mkF m 10 #[.val (.ref a1)] [])) st12 ?_
  exact own_ret0 X12 hx hret hlk (hb hby own_d_prog_7_m18_10) e12 (Nat.le_of_ble_eq_true rfl) (Nat.le_of_ble_eq_true rfl) ⟨rfl, N, K0, E_a1, F_in⟩
def Q_endi (Z : State) (a1 : Addr) (t : Int32) (h0 : Heap) (n0 : Nat) (v : Option Value) (h : Heap) (L : List Loc) : Prop := v = none ∧ Fr n0 L ∧ (Keep h0 h [a1]) ∧ (Exa Z h a1 "boxwood/Budget") ∧ (Fld Z h a1 "boxwood/Budget" "inPlace" "I" (.int (t - (1 : Int32))))
theorem ef_endi (m : MethodId) (x0 : Addr)  : entryFrame m #[(.ref x0)] 1 = mkF m 0 #[.val (.ref x0)] [] := by first | (simp [entryFrame, mkF, argsToLocals, Value.category]; done) | rfl
set_option maxRecDepth 65536 in
set_option maxHeartbeats 40000000 in
theorem rm_endi (l : Launch) (Z : State) (a0 : Array Value) (hw : ∀ d ∈ tables_1, d.before a0 Z = true) (ws : List Jvm.Cond) (a1 : Addr) (t : Int32) (h0 : Heap) (n0 : Nat) (Zs : n0 ≤ h0.size) (E_a1 : Exa Z h0 a1 "boxwood/Budget") (F_in : Fld Z h0 a1 "boxwood/Budget" "inPlace" "I" (.int t)) (g_a1 : n0 ≤ a1) :
    MetFree l (⟨"boxwood/Budget", "endInPlace", "()V"⟩ : MethodName) (head1 (Jvm.Cond.code (⟨"boxwood/Budget", "endInPlace", "()V"⟩ : MethodName) prog_7_method_19_code 1 none :: ws) ({ frames := 0, cells := 0, slots := 0, locals := 0 } : Room)) (fun a U => a = #[(.ref a1)] ∧ Z.Warmed39 U.vm ∧ U.heap = h0) (fun _ _ _ _ _ => True) (fun _ U o U' => ∃ v L, o = .returned v ∧ (Q_endi Z a1 t h0 n0) v U'.heap L ∧ FrameEnd U o U' L ({ frames := 0, cells := 0, slots := 0, locals := 0 } : Room).cells ({ frames := 0, cells := 0, slots := 0, locals := 0 } : Room).slots) := by
  refine MetFree.of_bodySF (plainFor_of_name own_pn1) hisR ?_
  intro p e s m args below meth c s₁ Bd hml0 hP hK
  obtain ⟨rfl, hZ, hh⟩ := hP
  have hx := Bd.exec
  have hby := Bd.bytes
  have hlk := BodyLoose.notSynchronized Bd
  have hret := Bd.returns
  have hml : c.maxLocals = 1 := hml0
  have hown : s.vm.findClass "boxwood/Budget" = some m.cls := findClass_of_methodNamed Bd.named
  have hnm := (name_of_methodNamed Bd.named Bd.method).1
  have X : Stand p l e ({ frames := 0, cells := 0, slots := 0, locals := 0 } : Room) s m #[(.ref a1)] below meth c s₁ [] 0 0 := Stand.of_body Bd
  have eT : s₁.heap = h0 := by rw [← hh, Bd.state]; rfl
  have N := Fr.nil n0
  have K0 : Keep h0 h0 [a1] := Keep.refl _ _
  show own_Go p e below s (Q_endi Z a1 t h0 n0) ({ frames := 0, cells := 0, slots := 0, locals := 0 } : Room).cells ({ frames := 0, cells := 0, slots := 0, locals := 0 } : Room).slots s₁ (entryFrame m #[(.ref a1)] 1)
  rw [ef_endi m a1]
  refine own_st (T' := s₁) (g' := (mkF m 1 #[.val (.ref a1)] [(.ref a1)])) (fun _ zq => XS.aloadN X.here hx rfl (hb hby own_d_prog_7_m19_0) rfl rfl zq) ?_
  refine own_st (T' := s₁) (g' := (mkF m 2 #[.val (.ref a1)] [(.ref a1), (.ref a1)])) (fun _ zq => XS.dup X.here hx rfl (hb hby own_d_prog_7_m19_1) rfl rfl zq) ?_
  obtain ⟨T13, X13, e13, st13⟩ := getF X hx hZ hown (host := "") (Or.inl (hw _ (List.mem_of_getElem? (i := 32) rfl))) Via.refl eT F_in (g := (mkF m 2 #[.val (.ref a1)] [(.ref a1), (.ref a1)])) rfl rfl (hb hby own_d_prog_7_m19_2)
  refine own_st (g' := (mkF m 5 #[.val (.ref a1)] [(.int t), (.ref a1)])) st13 ?_
  refine own_st (T' := T13) (g' := (mkF m 6 #[.val (.ref a1)] [(.int (1 : Int32)), (.int t), (.ref a1)])) (fun _ zq => XS.iconst X13.here hx rfl (hb hby own_d_prog_7_m19_5) zq) ?_
  refine own_st (T' := T13) (g' := (mkF m 7 #[.val (.ref a1)] [(.int (t - (1 : Int32))), (.ref a1)])) (fun _ zq => XS.isub X13.here hx rfl (hb hby own_d_prog_7_m19_6) rfl zq) ?_
  obtain ⟨T14, h14, X14, e14, W14, st14⟩ := putF X13 hx hZ hown (host := "") (Or.inl (hw _ (List.mem_of_getElem? (i := 32) rfl))) Via.refl e13 F_in E_a1 (Or.inl (hw _ (List.mem_of_getElem? (i := 33) rfl))) (hw _ (List.mem_of_getElem? (i := 2) rfl)) (ty := .int) (by decide) rfl rfl (g := (mkF m 7 #[.val (.ref a1)] [(.int (t - (1 : Int32))), (.ref a1)])) rfl rfl (hb hby own_d_prog_7_m19_7)
  replace E_a1 := E_a1.wr W14
  replace F_in := F_in.same W14
  replace Zs := Nat.le_trans Zs (Keep.of_wr W14).1
  replace K0 := K0.wr W14 (Or.inl (List.mem_of_getElem? (i := 0) rfl))
  replace N := Fr.snoc X14 N g_a1
  refine own_st (g' := (mkF m 10 #[.val (.ref a1)] [])) st14 ?_
  exact own_ret0 X14 hx hret hlk (hb hby own_d_prog_7_m19_10) e14 (Nat.le_of_ble_eq_true rfl) (Nat.le_of_ble_eq_true rfl) ⟨rfl, N, K0, E_a1, F_in⟩
def Q_spent (Z : State) (a1 : Addr) (t : Int32) (h0 : Heap) (n0 : Nat) (v : Option Value) (h : Heap) (L : List Loc) : Prop := v = some (.int (if t < (8 : Int32) then 0 else 1)) ∧ Fr n0 L ∧ (h = h0)
theorem ef_spent (m : MethodId) (x0 : Addr)  : entryFrame m #[(.ref x0)] 1 = mkF m 0 #[.val (.ref x0)] [] := by first | (simp [entryFrame, mkF, argsToLocals, Value.category]; done) | rfl
set_option maxRecDepth 65536 in
set_option maxHeartbeats 40000000 in
theorem rm_spent (l : Launch) (Z : State) (a0 : Array Value) (hw : ∀ d ∈ tables_1, d.before a0 Z = true) (ws : List Jvm.Cond) (a1 : Addr) (t : Int32) (h0 : Heap) (n0 : Nat) (Zs : n0 ≤ h0.size) (F_in : Fld Z h0 a1 "boxwood/Budget" "inPlace" "I" (.int t)) :
    MetFree l (⟨"boxwood/Budget", "inPlaceSpent", "()Z"⟩ : MethodName) (head1 (Jvm.Cond.code (⟨"boxwood/Budget", "inPlaceSpent", "()Z"⟩ : MethodName) prog_7_method_17_code 1 (some .boolean) :: ws) ({ frames := 0, cells := 0, slots := 0, locals := 0 } : Room)) (fun a U => a = #[(.ref a1)] ∧ Z.Warmed39 U.vm ∧ U.heap = h0) (fun _ _ _ _ _ => True) (fun _ U o U' => ∃ v L, o = .returned v ∧ (Q_spent Z a1 t h0 n0) v U'.heap L ∧ FrameEnd U o U' L ({ frames := 0, cells := 0, slots := 0, locals := 0 } : Room).cells ({ frames := 0, cells := 0, slots := 0, locals := 0 } : Room).slots) := by
  refine MetFree.of_bodySF (plainFor_of_name own_pn1) hisR ?_
  intro p e s m args below meth c s₁ Bd hml0 hP hK
  obtain ⟨rfl, hZ, hh⟩ := hP
  have hx := Bd.exec
  have hby := Bd.bytes
  have hlk := BodyLoose.notSynchronized Bd
  have hret := Bd.returns
  have hml : c.maxLocals = 1 := hml0
  have hown : s.vm.findClass "boxwood/Budget" = some m.cls := findClass_of_methodNamed Bd.named
  have hnm := (name_of_methodNamed Bd.named Bd.method).1
  have X : Stand p l e ({ frames := 0, cells := 0, slots := 0, locals := 0 } : Room) s m #[(.ref a1)] below meth c s₁ [] 0 0 := Stand.of_body Bd
  have eT : s₁.heap = h0 := by rw [← hh, Bd.state]; rfl
  have N := Fr.nil n0
  have K0 : Keep h0 h0 [] := Keep.refl _ _
  show own_Go p e below s (Q_spent Z a1 t h0 n0) ({ frames := 0, cells := 0, slots := 0, locals := 0 } : Room).cells ({ frames := 0, cells := 0, slots := 0, locals := 0 } : Room).slots s₁ (entryFrame m #[(.ref a1)] 1)
  rw [ef_spent m a1]
  refine own_st (T' := s₁) (g' := (mkF m 1 #[.val (.ref a1)] [(.ref a1)])) (fun _ zq => XS.aloadN X.here hx rfl (hb hby own_d_prog_7_m17_0) rfl rfl zq) ?_
  obtain ⟨T15, X15, e15, st15⟩ := getF X hx hZ hown (host := "") (Or.inl (hw _ (List.mem_of_getElem? (i := 32) rfl))) Via.refl eT F_in (g := (mkF m 1 #[.val (.ref a1)] [(.ref a1)])) rfl rfl (hb hby own_d_prog_7_m17_1)
  refine own_st (g' := (mkF m 4 #[.val (.ref a1)] [(.int t)])) st15 ?_
  refine own_st (T' := T15) (g' := (mkF m 6 #[.val (.ref a1)] [(.int (8 : Int32)), (.int t)])) (fun _ zq => XS.bipush X15.here hx rfl (hb hby own_d_prog_7_m17_4) zq) ?_
  by_cases hc : t < (8 : Int32)
  · skip
    refine own_st (T' := T15) (g' := (mkF m 13 #[.val (.ref a1)] [])) (fun _ zq => XS.icmpYes X15.here hx rfl (pc0 := 6) (pc' := 13) rfl (hb hby own_d_prog_7_m17_6) rfl (tlt hc).1 (by decide) (by decide) zq) ?_
    refine own_st (T' := T15) (g' := (mkF m 14 #[.val (.ref a1)] [(.int (0 : Int32))])) (fun _ zq => XS.iconst X15.here hx rfl (hb hby own_d_prog_7_m17_13) zq) ?_
    exact own_ret X15 hx hret hlk (i := .ireturn) rfl (Or.inl ⟨rfl, by decide, _, rfl⟩) (hb hby own_d_prog_7_m17_14) e15 (Nat.le_of_ble_eq_true rfl) (Nat.le_of_ble_eq_true rfl) ⟨by rw [if_pos hc], N, rfl⟩
  · skip
    refine own_st (T' := T15) (g' := (mkF m 9 #[.val (.ref a1)] [])) (fun _ zq => XS.icmpNo X15.here hx rfl (hb hby own_d_prog_7_m17_6) rfl (flt hc).1 zq) ?_
    refine own_st (T' := T15) (g' := (mkF m 10 #[.val (.ref a1)] [(.int (1 : Int32))])) (fun _ zq => XS.iconst X15.here hx rfl (hb hby own_d_prog_7_m17_9) zq) ?_
    refine own_st (T' := T15) (g' := (mkF m 14 #[.val (.ref a1)] [(.int (1 : Int32))])) (fun _ zq => XS.goto X15.here hx rfl (pc0 := 10) (pc' := 14) rfl (hb hby own_d_prog_7_m17_10) (by decide) (by decide) zq) ?_
    exact own_ret X15 hx hret hlk (i := .ireturn) rfl (Or.inl ⟨rfl, by decide, _, rfl⟩) (hb hby own_d_prog_7_m17_14) e15 (Nat.le_of_ble_eq_true rfl) (Nat.le_of_ble_eq_true rfl) ⟨by rw [if_neg hc], N, rfl⟩
def Q_law (Z : State) (p1 : Int32) (p2 : Int32) (h0 : Heap) (n0 : Nat) (v : Option Value) (h : Heap) (L : List Loc) : Prop := v = some (.int 1) ∧ Fr n0 L
theorem ef_law (m : MethodId) (x0 : Int32) (x1 : Int32)  : entryFrame m #[(.int x0), (.int x1)] maxLocals = mkF m 0 #[.val (.int x0), .val (.int x1), .unset, .unset, .unset, .unset, .unset] [] := by first | (simp [entryFrame, mkF, argsToLocals, Value.category, maxLocals]; done) | rfl
set_option maxRecDepth 65536 in
set_option maxHeartbeats 40000000 in
theorem rm_law (l : Launch) (Z : State) (a0 : Array Value) (hw : ∀ d ∈ tables_1, d.before a0 Z = true) (ws : List Jvm.Cond) (p1 : Int32) (p2 : Int32) (h0 : Heap) (n0 : Nat) (Zs : n0 ≤ h0.size)  :
    MetFree l x (head1 (Jvm.Cond.code x code maxLocals ret :: ws) room_1) (fun a U => a = #[(.int p1), (.int p2)] ∧ Z.Warmed39 U.vm ∧ U.heap = h0) (fun _ _ _ _ _ => True) (fun _ U o U' => ∃ v L, o = .returned v ∧ (Q_law Z p1 p2 h0 n0) v U'.heap L ∧ FrameEnd U o U' L 16 128) := by
  refine MetFree.of_bodySF (plainFor_of_name own_pn2) hisR ?_
  intro p e s m args below meth c s₁ Bd hml0 hP hK
  obtain ⟨rfl, hZ, hh⟩ := hP
  have hx := Bd.exec
  have hby := Bd.bytes
  have hlk := BodyLoose.notSynchronized Bd
  have hret := Bd.returns
  have hml : c.maxLocals = 7 := hml0
  have hown : s.vm.findClass "boxwood/BudgetInPlaceSpentPinLaw" = some m.cls := findClass_of_methodNamed Bd.named
  have hnm := (name_of_methodNamed Bd.named Bd.method).1
  have X : Stand p l e room_1 s m #[(.int p1), (.int p2)] below meth c s₁ [] 0 0 := Stand.of_body Bd
  have eT : s₁.heap = h0 := by rw [← hh, Bd.state]; rfl
  have N := Fr.nil n0
  have K0 : Keep h0 h0 [] := Keep.refl _ _
  show own_Go p e below s (Q_law Z p1 p2 h0 n0) 16 128 s₁ (entryFrame m #[(.int p1), (.int p2)] maxLocals)
  rw [ef_law m p1 p2]
  refine own_st (T' := s₁) (g' := (mkF m 1 #[.val (.int p1), .val (.int p2), .unset, .unset, .unset, .unset, .unset] [(.int p1)])) (fun _ zq => XS.iloadN X.here hx rfl (hb hby at_0) rfl zq) ?_
  refine own_st (T' := s₁) (g' := (mkF m 3 #[.val (.int p1), .val (.int p2), .unset, .unset, .unset, .unset, .unset] [(.int (2147483647 : Int32)), (.int p1)])) (fun _ zq => X.ldcInt hx hown (mvT hZ (hw _ (List.mem_of_getElem? (i := 0) rfl))) (g := (mkF m 1 #[.val (.int p1), .val (.int p2), .unset, .unset, .unset, .unset, .unset] [(.int p1)])) rfl (hb hby at_1) _ zq) ?_
  refine own_st (T' := s₁) (g' := (mkF m 4 #[.val (.int p1), .val (.int p2), .unset, .unset, .unset, .unset, .unset] [(.int (p1 &&& (2147483647 : Int32)))])) (fun _ zq => XS.iand X.here hx rfl (hb hby at_3) rfl zq) ?_
  refine own_st (T' := s₁) (g' := (mkF m 6 #[.val (.int p1), .val (.int p2), .unset, .unset, .unset, .unset, .unset] [(.int (10 : Int32)), (.int (p1 &&& (2147483647 : Int32)))])) (fun _ zq => XS.bipush X.here hx rfl (hb hby at_4) zq) ?_
  refine own_st (T' := s₁) (g' := (mkF m 7 #[.val (.int p1), .val (.int p2), .unset, .unset, .unset, .unset, .unset] [(.int ((p1 &&& (2147483647 : Int32)) % (10 : Int32)))])) (fun _ zq => iremM (g := (mkF m 6 #[.val (.int p1), .val (.int p2), .unset, .unset, .unset, .unset, .unset] [(.int (10 : Int32)), (.int (p1 &&& (2147483647 : Int32)))])) X hx rfl (hb hby at_6) rfl (by decide) zq) ?_
  refine own_nm (f := fun z_ => (mkF m 7 #[.val (.int p1), .val (.int p2), .unset, .unset, .unset, .unset, .unset] [(.int z_)])) ((p1 &&& (2147483647 : Int32)) % (10 : Int32)) (fun sv hsv => ?_)
  show own_Go p e below s (Q_law Z p1 p2 h0 n0) 16 128 s₁ (mkF m 7 #[.val (.int p1), .val (.int p2), .unset, .unset, .unset, .unset, .unset] [(.int sv)])
  have hs := own_rng p1 sv hsv
  refine own_st (T' := s₁) (g' := (mkF m 8 #[.val (.int p1), .val (.int p2), .val (.int sv), .unset, .unset, .unset, .unset] [])) (fun _ zq => XS.istoreN X.here hx rfl (hb hby at_7) rfl (l' := #[.val (.int p1), .val (.int p2), .val (.int sv), .unset, .unset, .unset, .unset]) rfl zq) ?_
  refine own_st (T' := s₁) (g' := (mkF m 9 #[.val (.int p1), .val (.int p2), .val (.int sv), .unset, .unset, .unset, .unset] [(.int p2)])) (fun _ zq => XS.iloadN X.here hx rfl (hb hby at_8) rfl zq) ?_
  refine own_st (T' := s₁) (g' := (mkF m 10 #[.val (.int p1), .val (.int p2), .val (.int sv), .unset, .unset, .unset, .unset] [(.int (1 : Int32)), (.int p2)])) (fun _ zq => XS.iconst X.here hx rfl (hb hby at_9) zq) ?_
  refine own_st (T' := s₁) (g' := (mkF m 11 #[.val (.int p1), .val (.int p2), .val (.int sv), .unset, .unset, .unset, .unset] [(.int (p2 &&& (1 : Int32)))])) (fun _ zq => XS.iand X.here hx rfl (hb hby at_10) rfl zq) ?_
  refine own_nm (f := fun z_ => (mkF m 11 #[.val (.int p1), .val (.int p2), .val (.int sv), .unset, .unset, .unset, .unset] [(.int z_)])) (p2 &&& (1 : Int32)) (fun ev hev => ?_)
  show own_Go p e below s (Q_law Z p1 p2 h0 n0) 16 128 s₁ (mkF m 11 #[.val (.int p1), .val (.int p2), .val (.int sv), .unset, .unset, .unset, .unset] [(.int ev)])
  have he : ev = 0 ∨ ev = 1 := hev ▸ and_one p2
  refine own_st (T' := s₁) (g' := (mkF m 12 #[.val (.int p1), .val (.int p2), .val (.int sv), .val (.int ev), .unset, .unset, .unset] [])) (fun _ zq => XS.istoreN X.here hx rfl (hb hby at_11) rfl (l' := #[.val (.int p1), .val (.int p2), .val (.int sv), .val (.int ev), .unset, .unset, .unset]) rfl zq) ?_
  obtain ⟨T16, h16, X16, e16, E16, A16, D16, -, st16⟩ := newO X hx hZ hown (hw _ (List.mem_of_getElem? (i := 1) rfl)) (hw _ (List.mem_of_getElem? (i := 2) rfl)) (hw _ (List.mem_of_getElem? (i := 3) rfl)) eT (g := (mkF m 12 #[.val (.int p1), .val (.int p2), .val (.int sv), .val (.int ev), .unset, .unset, .unset] [])) rfl (hb hby at_12) (by decide) (by decide)
  obtain ⟨b16, ga16⟩ : ∃ z, z = h0.size := ⟨_, rfl⟩
  rw [← ga16] at A16 D16 st16
  have g_b16 : n0 ≤ b16 := Nat.le_trans Zs (Nat.le_of_eq ga16.symm)
  have E_b16 := A16
  replace Zs := Nat.le_trans Zs E16.1
  have F_b16_size : Fld Z h16 b16 "boxwood/Budget" "size" "Lboxwood/Budget$Meter;" .null := D16 (Or.inr (hw _ (List.mem_of_getElem? (i := 21) rfl))) (ty := (.object "boxwood/Budget$Meter")) (by decide)
  have F_b16_steps : Fld Z h16 b16 "boxwood/Budget" "steps" "Lboxwood/Budget$Meter;" .null := D16 (Or.inr (hw _ (List.mem_of_getElem? (i := 24) rfl))) (ty := (.object "boxwood/Budget$Meter")) (by decide)
  have F_b16_sizeAtStart : Fld Z h16 b16 "boxwood/Budget" "sizeAtStart" "J" (.long (0 : Int64)) := D16 (Or.inl (hw _ (List.mem_of_getElem? (i := 26) rfl))) (ty := .long) (by decide)
  have F_b16_inPlace : Fld Z h16 b16 "boxwood/Budget" "inPlace" "I" (.int (0 : Int32)) := D16 (Or.inl (hw _ (List.mem_of_getElem? (i := 33) rfl))) (ty := .int) (by decide)
  refine own_st (g' := (mkF m 15 #[.val (.int p1), .val (.int p2), .val (.int sv), .val (.int ev), .unset, .unset, .unset] [(.ref b16)])) st16 ?_
  refine own_st (T' := T16) (g' := (mkF m 16 #[.val (.int p1), .val (.int p2), .val (.int sv), .val (.int ev), .unset, .unset, .unset] [(.ref b16), (.ref b16)])) (fun _ zq => XS.dup X16.here hx rfl (hb hby at_15) rfl rfl zq) ?_
  obtain ⟨_, _, ⟨T17, L17, k17, n17⟩, -, X17, ⟨Lc17, hQ17, l17, y17, z17⟩, st17⟩ := X16.specialBack hx (y := (⟨"boxwood/Budget", "<init>", "()V"⟩ : MethodName)) rfl hown (mvT hZ (hw _ (List.mem_of_getElem? (i := 4) rfl))) (mvT hZ (hw _ (List.mem_of_getElem? (i := 5) rfl))) (mvT hZ (hw _ (List.mem_of_getElem? (i := 6) rfl))) (by decide) (backOf (W := 1) (rm_binit l Z a0 hw [] b16 h16 n0 Zs E_b16 F_b16_size F_b16_steps F_b16_sizeAtStart F_b16_inPlace g_b16) hZ (hw _ (List.mem_of_getElem? (i := 6) rfl)) (hw _ (List.mem_of_getElem? (i := 3) rfl)) (by decide) (by decide)) (g := (mkF m 16 #[.val (.int p1), .val (.int p2), .val (.int sv), .val (.int ev), .unset, .unset, .unset] [(.ref b16), (.ref b16)])) rfl (by rw [hml]; rfl) (Steps.refl _) (a := b16) (argsL := []) (rest := [(.ref b16)]) (lenOf own_pd1 rfl) rfl (by show 2 * 0 + _ ≤ _; exact Nat.le_of_eq rfl) (hb hby at_16) (fun _ _ => ⟨rfl, e16, (by decide : 1 + 2 ≤ _), (by decide : 9 + 4 ≤ _)⟩)
  dsimp only [Pt.U, Pt.locs, Pt.cells, Pt.slots] at X17 l17 y17 z17 st17 hQ17
  subst l17 y17 z17
  obtain ⟨rfl, Nq17, Kq17, E_b16, F_b16_inPlace⟩ := hQ17
  replace N := Fr.app N Nq17
  replace Zs := Nat.le_trans Zs Kq17.1
  refine own_tr (g' := (mkF m 19 #[.val (.int p1), .val (.int p2), .val (.int sv), .val (.int ev), .unset, .unset, .unset] [(.ref b16)])) st17 ?_
  refine own_st (T' := T17) (g' := (mkF m 21 #[.val (.int p1), .val (.int p2), .val (.int sv), .val (.int ev), .val (.ref b16), .unset, .unset] [])) (fun _ zq => XS.astore X17.here hx rfl (hb hby at_19) rfl rfl (l' := #[.val (.int p1), .val (.int p2), .val (.int sv), .val (.int ev), .val (.ref b16), .unset, .unset]) rfl zq) ?_
  refine own_st (T' := T17) (g' := (mkF m 22 #[.val (.int p1), .val (.int p2), .val (.int sv), .val (.int ev), .val (.ref b16), .unset, .unset] [(.int sv)])) (fun _ zq => XS.iloadN X17.here hx rfl (hb hby at_21) rfl zq) ?_
  have hv0 : (((0 : Int32).toInt ≤ 0 ∧ 0 ≤ sv.toInt) ∧ (sv.toInt ≤ 0 → (0 : Int32).toInt = sv.toInt)) ∧ (0 ≤ sv.toInt → (0 : Int32).toInt = 0) := ⟨⟨⟨by decide, hs.1⟩, fun q => Int.le_antisymm hs.1 q⟩, fun _ => rfl⟩
  suffices J30 : ∀ (T18 : State) (lo18 : List Loc) (h18 : Heap) (X18 : Stand p l e room_1 s m #[(.int p1), (.int p2)] below meth c T18 lo18 3 13) (e18 : T18.heap = h18) (N18 : Fr n0 lo18) (Z18 : n0 ≤ h18.size) (v1 : Int32) (E_b16 : Exa Z h18 b16 "boxwood/Budget") (F_b16_inPlace : Fld Z h18 b16 "boxwood/Budget" "inPlace" "I" (.int v1)) (hv1 : (((v1).toInt ≤ 1 ∧ 0 ≤ sv.toInt) ∧ (sv.toInt ≤ 1 → (v1).toInt = sv.toInt)) ∧ (1 ≤ sv.toInt → (v1).toInt = 1)), own_Go p e below s (Q_law Z p1 p2 h0 n0) 16 128 T18 (mkF m 30 #[.val (.int p1), .val (.int p2), .val (.int sv), .val (.int ev), .val (.ref b16), .unset, .unset] []) by
    by_cases hc : (0 : Int32) < sv
    · skip
      refine own_st (T' := T17) (g' := (mkF m 25 #[.val (.int p1), .val (.int p2), .val (.int sv), .val (.int ev), .val (.ref b16), .unset, .unset] [])) (fun _ zq => XS.ifNo X17.here hx rfl (hb hby at_22) rfl ((if0 _ _).trans (tlt hc).2.2.2) zq) ?_
      refine own_st (T' := T17) (g' := (mkF m 27 #[.val (.int p1), .val (.int p2), .val (.int sv), .val (.int ev), .val (.ref b16), .unset, .unset] [(.ref b16)])) (fun _ zq => XS.aload X17.here hx rfl (hb hby at_25) rfl rfl zq) ?_
      obtain ⟨cq19, kq19, q19a, q19b, q19c⟩ := isOf hZ rfl E_b16
      obtain ⟨_, _, ⟨T19, L19, k19, n19⟩, -, X19, ⟨Lc19, hQ19, l19, y19, z19⟩, st19⟩ := X17.virtualBack hx (y := (⟨"boxwood/Budget", "startInPlace", "()V"⟩ : MethodName)) (z := (⟨"boxwood/Budget", "startInPlace", "()V"⟩ : MethodName)) hown (mvT hZ (hw _ (List.mem_of_getElem? (i := 39) rfl))) (mvT hZ (hw _ (List.mem_of_getElem? (i := 40) rfl))) (notFace_of_selects (args := #[]) (mvT hZ (hw _ (List.mem_of_getElem? (i := 42) rfl)))) (mvT hZ (hw _ (List.mem_of_getElem? (i := 42) rfl))) (mvT hZ (hw _ (List.mem_of_getElem? (i := 41) rfl))) (by decide) (backOf (W := 0) (rm_starti l Z a0 hw [] b16 (0 : Int32) T17.heap n0 Zs E_b16 F_b16_inPlace g_b16) hZ (hw _ (List.mem_of_getElem? (i := 43) rfl)) (hw _ (List.mem_of_getElem? (i := 3) rfl)) (by decide) (by decide)) q19a q19c (g := (mkF m 27 #[.val (.int p1), .val (.int p2), .val (.int sv), .val (.int ev), .val (.ref b16), .unset, .unset] [(.ref b16)])) rfl (by rw [hml]; rfl) (Steps.refl _) (argsL := []) (rest := []) (lenOf own_pd1 rfl) rfl (by show 2 * 0 + _ ≤ _; exact Nat.le_of_eq rfl) (hb hby at_27) (fun _ _ => ⟨rfl, rfl, (by decide : 3 + 0 ≤ _), (by decide : 13 + 0 ≤ _)⟩)
      dsimp only [Pt.U, Pt.locs, Pt.cells, Pt.slots] at X19 l19 y19 z19 st19 hQ19
      subst l19 y19 z19
      obtain ⟨rfl, Nq19, Kq19, E_b16, F_b16_inPlace⟩ := hQ19
      replace N := Fr.app N Nq19
      replace Zs := Nat.le_trans Zs Kq19.1
      refine own_tr (g' := (mkF m 30 #[.val (.int p1), .val (.int p2), .val (.int sv), .val (.int ev), .val (.ref b16), .unset, .unset] [])) st19 ?_
      exact J30 T19 _ T19.heap (X19.more (Nat.le_of_ble_eq_true rfl) (Nat.le_of_ble_eq_true rfl)) rfl N Zs _ E_b16 F_b16_inPlace (own_up hs hv0 (by decide) hc)
    · skip
      refine own_st (T' := T17) (g' := (mkF m 30 #[.val (.int p1), .val (.int p2), .val (.int sv), .val (.int ev), .val (.ref b16), .unset, .unset] [])) (fun _ zq => XS.ifYes X17.here hx rfl (pc0 := 22) (pc' := 30) rfl (hb hby at_22) rfl ((if0 _ _).trans (flt hc).2.2.2) (by decide) (by decide) zq) ?_
      exact J30 T17 _ T17.heap (X17.more (Nat.le_of_ble_eq_true rfl) (Nat.le_of_ble_eq_true rfl)) rfl N Zs _ E_b16 F_b16_inPlace (own_st2 hs hv0 (by decide) hc)
  intro T18 lo18 h18 X18 e18 N18 Z18 v1 E_b16 F_b16_inPlace hv1
  refine own_st (T' := T18) (g' := (mkF m 31 #[.val (.int p1), .val (.int p2), .val (.int sv), .val (.int ev), .val (.ref b16), .unset, .unset] [(.int sv)])) (fun _ zq => XS.iloadN X18.here hx rfl (hb hby at_30) rfl zq) ?_
  refine own_st (T' := T18) (g' := (mkF m 32 #[.val (.int p1), .val (.int p2), .val (.int sv), .val (.int ev), .val (.ref b16), .unset, .unset] [(.int (1 : Int32)), (.int sv)])) (fun _ zq => XS.iconst X18.here hx rfl (hb hby at_31) zq) ?_
  suffices J40 : ∀ (T20 : State) (lo20 : List Loc) (h20 : Heap) (X20 : Stand p l e room_1 s m #[(.int p1), (.int p2)] below meth c T20 lo20 3 13) (e20 : T20.heap = h20) (N20 : Fr n0 lo20) (Z20 : n0 ≤ h20.size) (v2 : Int32) (E_b16 : Exa Z h20 b16 "boxwood/Budget") (F_b16_inPlace : Fld Z h20 b16 "boxwood/Budget" "inPlace" "I" (.int v2)) (hv2 : (((v2).toInt ≤ 2 ∧ 0 ≤ sv.toInt) ∧ (sv.toInt ≤ 2 → (v2).toInt = sv.toInt)) ∧ (2 ≤ sv.toInt → (v2).toInt = 2)), own_Go p e below s (Q_law Z p1 p2 h0 n0) 16 128 T20 (mkF m 40 #[.val (.int p1), .val (.int p2), .val (.int sv), .val (.int ev), .val (.ref b16), .unset, .unset] []) by
    by_cases hc : (1 : Int32) < sv
    · skip
      refine own_st (T' := T18) (g' := (mkF m 35 #[.val (.int p1), .val (.int p2), .val (.int sv), .val (.int ev), .val (.ref b16), .unset, .unset] [])) (fun _ zq => XS.icmpNo X18.here hx rfl (hb hby at_32) rfl (tlt hc).2.2.2 zq) ?_
      refine own_st (T' := T18) (g' := (mkF m 37 #[.val (.int p1), .val (.int p2), .val (.int sv), .val (.int ev), .val (.ref b16), .unset, .unset] [(.ref b16)])) (fun _ zq => XS.aload X18.here hx rfl (hb hby at_35) rfl rfl zq) ?_
      obtain ⟨cq21, kq21, q21a, q21b, q21c⟩ := isOf hZ e18 E_b16
      obtain ⟨_, _, ⟨T21, L21, k21, n21⟩, -, X21, ⟨Lc21, hQ21, l21, y21, z21⟩, st21⟩ := X18.virtualBack hx (y := (⟨"boxwood/Budget", "startInPlace", "()V"⟩ : MethodName)) (z := (⟨"boxwood/Budget", "startInPlace", "()V"⟩ : MethodName)) hown (mvT hZ (hw _ (List.mem_of_getElem? (i := 39) rfl))) (mvT hZ (hw _ (List.mem_of_getElem? (i := 40) rfl))) (notFace_of_selects (args := #[]) (mvT hZ (hw _ (List.mem_of_getElem? (i := 42) rfl)))) (mvT hZ (hw _ (List.mem_of_getElem? (i := 42) rfl))) (mvT hZ (hw _ (List.mem_of_getElem? (i := 41) rfl))) (by decide) (backOf (W := 0) (rm_starti l Z a0 hw [] b16 v1 h18 n0 Z18 E_b16 F_b16_inPlace g_b16) hZ (hw _ (List.mem_of_getElem? (i := 43) rfl)) (hw _ (List.mem_of_getElem? (i := 3) rfl)) (by decide) (by decide)) q21a q21c (g := (mkF m 37 #[.val (.int p1), .val (.int p2), .val (.int sv), .val (.int ev), .val (.ref b16), .unset, .unset] [(.ref b16)])) rfl (by rw [hml]; rfl) (Steps.refl _) (argsL := []) (rest := []) (lenOf own_pd1 rfl) rfl (by show 2 * 0 + _ ≤ _; exact Nat.le_of_eq rfl) (hb hby at_37) (fun _ _ => ⟨rfl, e18, (by decide : 3 + 0 ≤ _), (by decide : 13 + 0 ≤ _)⟩)
      dsimp only [Pt.U, Pt.locs, Pt.cells, Pt.slots] at X21 l21 y21 z21 st21 hQ21
      subst l21 y21 z21
      obtain ⟨rfl, Nq21, Kq21, E_b16, F_b16_inPlace⟩ := hQ21
      replace N18 := Fr.app N18 Nq21
      replace Z18 := Nat.le_trans Z18 Kq21.1
      refine own_tr (g' := (mkF m 40 #[.val (.int p1), .val (.int p2), .val (.int sv), .val (.int ev), .val (.ref b16), .unset, .unset] [])) st21 ?_
      exact J40 T21 _ T21.heap (X21.more (Nat.le_of_ble_eq_true rfl) (Nat.le_of_ble_eq_true rfl)) rfl N18 Z18 _ E_b16 F_b16_inPlace (own_up hs hv1 (by decide) hc)
    · skip
      refine own_st (T' := T18) (g' := (mkF m 40 #[.val (.int p1), .val (.int p2), .val (.int sv), .val (.int ev), .val (.ref b16), .unset, .unset] [])) (fun _ zq => XS.icmpYes X18.here hx rfl (pc0 := 32) (pc' := 40) rfl (hb hby at_32) rfl (flt hc).2.2.2 (by decide) (by decide) zq) ?_
      exact J40 T18 _ h18 (X18.more (Nat.le_of_ble_eq_true rfl) (Nat.le_of_ble_eq_true rfl)) e18 N18 Z18 _ E_b16 F_b16_inPlace (own_st2 hs hv1 (by decide) hc)
  intro T20 lo20 h20 X20 e20 N20 Z20 v2 E_b16 F_b16_inPlace hv2
  refine own_st (T' := T20) (g' := (mkF m 41 #[.val (.int p1), .val (.int p2), .val (.int sv), .val (.int ev), .val (.ref b16), .unset, .unset] [(.int sv)])) (fun _ zq => XS.iloadN X20.here hx rfl (hb hby at_40) rfl zq) ?_
  refine own_st (T' := T20) (g' := (mkF m 42 #[.val (.int p1), .val (.int p2), .val (.int sv), .val (.int ev), .val (.ref b16), .unset, .unset] [(.int (2 : Int32)), (.int sv)])) (fun _ zq => XS.iconst X20.here hx rfl (hb hby at_41) zq) ?_
  suffices J50 : ∀ (T22 : State) (lo22 : List Loc) (h22 : Heap) (X22 : Stand p l e room_1 s m #[(.int p1), (.int p2)] below meth c T22 lo22 3 13) (e22 : T22.heap = h22) (N22 : Fr n0 lo22) (Z22 : n0 ≤ h22.size) (v3 : Int32) (E_b16 : Exa Z h22 b16 "boxwood/Budget") (F_b16_inPlace : Fld Z h22 b16 "boxwood/Budget" "inPlace" "I" (.int v3)) (hv3 : (((v3).toInt ≤ 3 ∧ 0 ≤ sv.toInt) ∧ (sv.toInt ≤ 3 → (v3).toInt = sv.toInt)) ∧ (3 ≤ sv.toInt → (v3).toInt = 3)), own_Go p e below s (Q_law Z p1 p2 h0 n0) 16 128 T22 (mkF m 50 #[.val (.int p1), .val (.int p2), .val (.int sv), .val (.int ev), .val (.ref b16), .unset, .unset] []) by
    by_cases hc : (2 : Int32) < sv
    · skip
      refine own_st (T' := T20) (g' := (mkF m 45 #[.val (.int p1), .val (.int p2), .val (.int sv), .val (.int ev), .val (.ref b16), .unset, .unset] [])) (fun _ zq => XS.icmpNo X20.here hx rfl (hb hby at_42) rfl (tlt hc).2.2.2 zq) ?_
      refine own_st (T' := T20) (g' := (mkF m 47 #[.val (.int p1), .val (.int p2), .val (.int sv), .val (.int ev), .val (.ref b16), .unset, .unset] [(.ref b16)])) (fun _ zq => XS.aload X20.here hx rfl (hb hby at_45) rfl rfl zq) ?_
      obtain ⟨cq23, kq23, q23a, q23b, q23c⟩ := isOf hZ e20 E_b16
      obtain ⟨_, _, ⟨T23, L23, k23, n23⟩, -, X23, ⟨Lc23, hQ23, l23, y23, z23⟩, st23⟩ := X20.virtualBack hx (y := (⟨"boxwood/Budget", "startInPlace", "()V"⟩ : MethodName)) (z := (⟨"boxwood/Budget", "startInPlace", "()V"⟩ : MethodName)) hown (mvT hZ (hw _ (List.mem_of_getElem? (i := 39) rfl))) (mvT hZ (hw _ (List.mem_of_getElem? (i := 40) rfl))) (notFace_of_selects (args := #[]) (mvT hZ (hw _ (List.mem_of_getElem? (i := 42) rfl)))) (mvT hZ (hw _ (List.mem_of_getElem? (i := 42) rfl))) (mvT hZ (hw _ (List.mem_of_getElem? (i := 41) rfl))) (by decide) (backOf (W := 0) (rm_starti l Z a0 hw [] b16 v2 h20 n0 Z20 E_b16 F_b16_inPlace g_b16) hZ (hw _ (List.mem_of_getElem? (i := 43) rfl)) (hw _ (List.mem_of_getElem? (i := 3) rfl)) (by decide) (by decide)) q23a q23c (g := (mkF m 47 #[.val (.int p1), .val (.int p2), .val (.int sv), .val (.int ev), .val (.ref b16), .unset, .unset] [(.ref b16)])) rfl (by rw [hml]; rfl) (Steps.refl _) (argsL := []) (rest := []) (lenOf own_pd1 rfl) rfl (by show 2 * 0 + _ ≤ _; exact Nat.le_of_eq rfl) (hb hby at_47) (fun _ _ => ⟨rfl, e20, (by decide : 3 + 0 ≤ _), (by decide : 13 + 0 ≤ _)⟩)
      dsimp only [Pt.U, Pt.locs, Pt.cells, Pt.slots] at X23 l23 y23 z23 st23 hQ23
      subst l23 y23 z23
      obtain ⟨rfl, Nq23, Kq23, E_b16, F_b16_inPlace⟩ := hQ23
      replace N20 := Fr.app N20 Nq23
      replace Z20 := Nat.le_trans Z20 Kq23.1
      refine own_tr (g' := (mkF m 50 #[.val (.int p1), .val (.int p2), .val (.int sv), .val (.int ev), .val (.ref b16), .unset, .unset] [])) st23 ?_
      exact J50 T23 _ T23.heap (X23.more (Nat.le_of_ble_eq_true rfl) (Nat.le_of_ble_eq_true rfl)) rfl N20 Z20 _ E_b16 F_b16_inPlace (own_up hs hv2 (by decide) hc)
    · skip
      refine own_st (T' := T20) (g' := (mkF m 50 #[.val (.int p1), .val (.int p2), .val (.int sv), .val (.int ev), .val (.ref b16), .unset, .unset] [])) (fun _ zq => XS.icmpYes X20.here hx rfl (pc0 := 42) (pc' := 50) rfl (hb hby at_42) rfl (flt hc).2.2.2 (by decide) (by decide) zq) ?_
      exact J50 T20 _ h20 (X20.more (Nat.le_of_ble_eq_true rfl) (Nat.le_of_ble_eq_true rfl)) e20 N20 Z20 _ E_b16 F_b16_inPlace (own_st2 hs hv2 (by decide) hc)
  intro T22 lo22 h22 X22 e22 N22 Z22 v3 E_b16 F_b16_inPlace hv3
  refine own_st (T' := T22) (g' := (mkF m 51 #[.val (.int p1), .val (.int p2), .val (.int sv), .val (.int ev), .val (.ref b16), .unset, .unset] [(.int sv)])) (fun _ zq => XS.iloadN X22.here hx rfl (hb hby at_50) rfl zq) ?_
  refine own_st (T' := T22) (g' := (mkF m 52 #[.val (.int p1), .val (.int p2), .val (.int sv), .val (.int ev), .val (.ref b16), .unset, .unset] [(.int (3 : Int32)), (.int sv)])) (fun _ zq => XS.iconst X22.here hx rfl (hb hby at_51) zq) ?_
  suffices J60 : ∀ (T24 : State) (lo24 : List Loc) (h24 : Heap) (X24 : Stand p l e room_1 s m #[(.int p1), (.int p2)] below meth c T24 lo24 3 13) (e24 : T24.heap = h24) (N24 : Fr n0 lo24) (Z24 : n0 ≤ h24.size) (v4 : Int32) (E_b16 : Exa Z h24 b16 "boxwood/Budget") (F_b16_inPlace : Fld Z h24 b16 "boxwood/Budget" "inPlace" "I" (.int v4)) (hv4 : (((v4).toInt ≤ 4 ∧ 0 ≤ sv.toInt) ∧ (sv.toInt ≤ 4 → (v4).toInt = sv.toInt)) ∧ (4 ≤ sv.toInt → (v4).toInt = 4)), own_Go p e below s (Q_law Z p1 p2 h0 n0) 16 128 T24 (mkF m 60 #[.val (.int p1), .val (.int p2), .val (.int sv), .val (.int ev), .val (.ref b16), .unset, .unset] []) by
    by_cases hc : (3 : Int32) < sv
    · skip
      refine own_st (T' := T22) (g' := (mkF m 55 #[.val (.int p1), .val (.int p2), .val (.int sv), .val (.int ev), .val (.ref b16), .unset, .unset] [])) (fun _ zq => XS.icmpNo X22.here hx rfl (hb hby at_52) rfl (tlt hc).2.2.2 zq) ?_
      refine own_st (T' := T22) (g' := (mkF m 57 #[.val (.int p1), .val (.int p2), .val (.int sv), .val (.int ev), .val (.ref b16), .unset, .unset] [(.ref b16)])) (fun _ zq => XS.aload X22.here hx rfl (hb hby at_55) rfl rfl zq) ?_
      obtain ⟨cq25, kq25, q25a, q25b, q25c⟩ := isOf hZ e22 E_b16
      obtain ⟨_, _, ⟨T25, L25, k25, n25⟩, -, X25, ⟨Lc25, hQ25, l25, y25, z25⟩, st25⟩ := X22.virtualBack hx (y := (⟨"boxwood/Budget", "startInPlace", "()V"⟩ : MethodName)) (z := (⟨"boxwood/Budget", "startInPlace", "()V"⟩ : MethodName)) hown (mvT hZ (hw _ (List.mem_of_getElem? (i := 39) rfl))) (mvT hZ (hw _ (List.mem_of_getElem? (i := 40) rfl))) (notFace_of_selects (args := #[]) (mvT hZ (hw _ (List.mem_of_getElem? (i := 42) rfl)))) (mvT hZ (hw _ (List.mem_of_getElem? (i := 42) rfl))) (mvT hZ (hw _ (List.mem_of_getElem? (i := 41) rfl))) (by decide) (backOf (W := 0) (rm_starti l Z a0 hw [] b16 v3 h22 n0 Z22 E_b16 F_b16_inPlace g_b16) hZ (hw _ (List.mem_of_getElem? (i := 43) rfl)) (hw _ (List.mem_of_getElem? (i := 3) rfl)) (by decide) (by decide)) q25a q25c (g := (mkF m 57 #[.val (.int p1), .val (.int p2), .val (.int sv), .val (.int ev), .val (.ref b16), .unset, .unset] [(.ref b16)])) rfl (by rw [hml]; rfl) (Steps.refl _) (argsL := []) (rest := []) (lenOf own_pd1 rfl) rfl (by show 2 * 0 + _ ≤ _; exact Nat.le_of_eq rfl) (hb hby at_57) (fun _ _ => ⟨rfl, e22, (by decide : 3 + 0 ≤ _), (by decide : 13 + 0 ≤ _)⟩)
      dsimp only [Pt.U, Pt.locs, Pt.cells, Pt.slots] at X25 l25 y25 z25 st25 hQ25
      subst l25 y25 z25
      obtain ⟨rfl, Nq25, Kq25, E_b16, F_b16_inPlace⟩ := hQ25
      replace N22 := Fr.app N22 Nq25
      replace Z22 := Nat.le_trans Z22 Kq25.1
      refine own_tr (g' := (mkF m 60 #[.val (.int p1), .val (.int p2), .val (.int sv), .val (.int ev), .val (.ref b16), .unset, .unset] [])) st25 ?_
      exact J60 T25 _ T25.heap (X25.more (Nat.le_of_ble_eq_true rfl) (Nat.le_of_ble_eq_true rfl)) rfl N22 Z22 _ E_b16 F_b16_inPlace (own_up hs hv3 (by decide) hc)
    · skip
      refine own_st (T' := T22) (g' := (mkF m 60 #[.val (.int p1), .val (.int p2), .val (.int sv), .val (.int ev), .val (.ref b16), .unset, .unset] [])) (fun _ zq => XS.icmpYes X22.here hx rfl (pc0 := 52) (pc' := 60) rfl (hb hby at_52) rfl (flt hc).2.2.2 (by decide) (by decide) zq) ?_
      exact J60 T22 _ h22 (X22.more (Nat.le_of_ble_eq_true rfl) (Nat.le_of_ble_eq_true rfl)) e22 N22 Z22 _ E_b16 F_b16_inPlace (own_st2 hs hv3 (by decide) hc)
  intro T24 lo24 h24 X24 e24 N24 Z24 v4 E_b16 F_b16_inPlace hv4
  refine own_st (T' := T24) (g' := (mkF m 61 #[.val (.int p1), .val (.int p2), .val (.int sv), .val (.int ev), .val (.ref b16), .unset, .unset] [(.int sv)])) (fun _ zq => XS.iloadN X24.here hx rfl (hb hby at_60) rfl zq) ?_
  refine own_st (T' := T24) (g' := (mkF m 62 #[.val (.int p1), .val (.int p2), .val (.int sv), .val (.int ev), .val (.ref b16), .unset, .unset] [(.int (4 : Int32)), (.int sv)])) (fun _ zq => XS.iconst X24.here hx rfl (hb hby at_61) zq) ?_
  suffices J70 : ∀ (T26 : State) (lo26 : List Loc) (h26 : Heap) (X26 : Stand p l e room_1 s m #[(.int p1), (.int p2)] below meth c T26 lo26 3 13) (e26 : T26.heap = h26) (N26 : Fr n0 lo26) (Z26 : n0 ≤ h26.size) (v5 : Int32) (E_b16 : Exa Z h26 b16 "boxwood/Budget") (F_b16_inPlace : Fld Z h26 b16 "boxwood/Budget" "inPlace" "I" (.int v5)) (hv5 : (((v5).toInt ≤ 5 ∧ 0 ≤ sv.toInt) ∧ (sv.toInt ≤ 5 → (v5).toInt = sv.toInt)) ∧ (5 ≤ sv.toInt → (v5).toInt = 5)), own_Go p e below s (Q_law Z p1 p2 h0 n0) 16 128 T26 (mkF m 70 #[.val (.int p1), .val (.int p2), .val (.int sv), .val (.int ev), .val (.ref b16), .unset, .unset] []) by
    by_cases hc : (4 : Int32) < sv
    · skip
      refine own_st (T' := T24) (g' := (mkF m 65 #[.val (.int p1), .val (.int p2), .val (.int sv), .val (.int ev), .val (.ref b16), .unset, .unset] [])) (fun _ zq => XS.icmpNo X24.here hx rfl (hb hby at_62) rfl (tlt hc).2.2.2 zq) ?_
      refine own_st (T' := T24) (g' := (mkF m 67 #[.val (.int p1), .val (.int p2), .val (.int sv), .val (.int ev), .val (.ref b16), .unset, .unset] [(.ref b16)])) (fun _ zq => XS.aload X24.here hx rfl (hb hby at_65) rfl rfl zq) ?_
      obtain ⟨cq27, kq27, q27a, q27b, q27c⟩ := isOf hZ e24 E_b16
      obtain ⟨_, _, ⟨T27, L27, k27, n27⟩, -, X27, ⟨Lc27, hQ27, l27, y27, z27⟩, st27⟩ := X24.virtualBack hx (y := (⟨"boxwood/Budget", "startInPlace", "()V"⟩ : MethodName)) (z := (⟨"boxwood/Budget", "startInPlace", "()V"⟩ : MethodName)) hown (mvT hZ (hw _ (List.mem_of_getElem? (i := 39) rfl))) (mvT hZ (hw _ (List.mem_of_getElem? (i := 40) rfl))) (notFace_of_selects (args := #[]) (mvT hZ (hw _ (List.mem_of_getElem? (i := 42) rfl)))) (mvT hZ (hw _ (List.mem_of_getElem? (i := 42) rfl))) (mvT hZ (hw _ (List.mem_of_getElem? (i := 41) rfl))) (by decide) (backOf (W := 0) (rm_starti l Z a0 hw [] b16 v4 h24 n0 Z24 E_b16 F_b16_inPlace g_b16) hZ (hw _ (List.mem_of_getElem? (i := 43) rfl)) (hw _ (List.mem_of_getElem? (i := 3) rfl)) (by decide) (by decide)) q27a q27c (g := (mkF m 67 #[.val (.int p1), .val (.int p2), .val (.int sv), .val (.int ev), .val (.ref b16), .unset, .unset] [(.ref b16)])) rfl (by rw [hml]; rfl) (Steps.refl _) (argsL := []) (rest := []) (lenOf own_pd1 rfl) rfl (by show 2 * 0 + _ ≤ _; exact Nat.le_of_eq rfl) (hb hby at_67) (fun _ _ => ⟨rfl, e24, (by decide : 3 + 0 ≤ _), (by decide : 13 + 0 ≤ _)⟩)
      dsimp only [Pt.U, Pt.locs, Pt.cells, Pt.slots] at X27 l27 y27 z27 st27 hQ27
      subst l27 y27 z27
      obtain ⟨rfl, Nq27, Kq27, E_b16, F_b16_inPlace⟩ := hQ27
      replace N24 := Fr.app N24 Nq27
      replace Z24 := Nat.le_trans Z24 Kq27.1
      refine own_tr (g' := (mkF m 70 #[.val (.int p1), .val (.int p2), .val (.int sv), .val (.int ev), .val (.ref b16), .unset, .unset] [])) st27 ?_
      exact J70 T27 _ T27.heap (X27.more (Nat.le_of_ble_eq_true rfl) (Nat.le_of_ble_eq_true rfl)) rfl N24 Z24 _ E_b16 F_b16_inPlace (own_up hs hv4 (by decide) hc)
    · skip
      refine own_st (T' := T24) (g' := (mkF m 70 #[.val (.int p1), .val (.int p2), .val (.int sv), .val (.int ev), .val (.ref b16), .unset, .unset] [])) (fun _ zq => XS.icmpYes X24.here hx rfl (pc0 := 62) (pc' := 70) rfl (hb hby at_62) rfl (flt hc).2.2.2 (by decide) (by decide) zq) ?_
      exact J70 T24 _ h24 (X24.more (Nat.le_of_ble_eq_true rfl) (Nat.le_of_ble_eq_true rfl)) e24 N24 Z24 _ E_b16 F_b16_inPlace (own_st2 hs hv4 (by decide) hc)
  intro T26 lo26 h26 X26 e26 N26 Z26 v5 E_b16 F_b16_inPlace hv5
  refine own_st (T' := T26) (g' := (mkF m 71 #[.val (.int p1), .val (.int p2), .val (.int sv), .val (.int ev), .val (.ref b16), .unset, .unset] [(.int sv)])) (fun _ zq => XS.iloadN X26.here hx rfl (hb hby at_70) rfl zq) ?_
  refine own_st (T' := T26) (g' := (mkF m 72 #[.val (.int p1), .val (.int p2), .val (.int sv), .val (.int ev), .val (.ref b16), .unset, .unset] [(.int (5 : Int32)), (.int sv)])) (fun _ zq => XS.iconst X26.here hx rfl (hb hby at_71) zq) ?_
  suffices J80 : ∀ (T28 : State) (lo28 : List Loc) (h28 : Heap) (X28 : Stand p l e room_1 s m #[(.int p1), (.int p2)] below meth c T28 lo28 3 13) (e28 : T28.heap = h28) (N28 : Fr n0 lo28) (Z28 : n0 ≤ h28.size) (v6 : Int32) (E_b16 : Exa Z h28 b16 "boxwood/Budget") (F_b16_inPlace : Fld Z h28 b16 "boxwood/Budget" "inPlace" "I" (.int v6)) (hv6 : (((v6).toInt ≤ 6 ∧ 0 ≤ sv.toInt) ∧ (sv.toInt ≤ 6 → (v6).toInt = sv.toInt)) ∧ (6 ≤ sv.toInt → (v6).toInt = 6)), own_Go p e below s (Q_law Z p1 p2 h0 n0) 16 128 T28 (mkF m 80 #[.val (.int p1), .val (.int p2), .val (.int sv), .val (.int ev), .val (.ref b16), .unset, .unset] []) by
    by_cases hc : (5 : Int32) < sv
    · skip
      refine own_st (T' := T26) (g' := (mkF m 75 #[.val (.int p1), .val (.int p2), .val (.int sv), .val (.int ev), .val (.ref b16), .unset, .unset] [])) (fun _ zq => XS.icmpNo X26.here hx rfl (hb hby at_72) rfl (tlt hc).2.2.2 zq) ?_
      refine own_st (T' := T26) (g' := (mkF m 77 #[.val (.int p1), .val (.int p2), .val (.int sv), .val (.int ev), .val (.ref b16), .unset, .unset] [(.ref b16)])) (fun _ zq => XS.aload X26.here hx rfl (hb hby at_75) rfl rfl zq) ?_
      obtain ⟨cq29, kq29, q29a, q29b, q29c⟩ := isOf hZ e26 E_b16
      obtain ⟨_, _, ⟨T29, L29, k29, n29⟩, -, X29, ⟨Lc29, hQ29, l29, y29, z29⟩, st29⟩ := X26.virtualBack hx (y := (⟨"boxwood/Budget", "startInPlace", "()V"⟩ : MethodName)) (z := (⟨"boxwood/Budget", "startInPlace", "()V"⟩ : MethodName)) hown (mvT hZ (hw _ (List.mem_of_getElem? (i := 39) rfl))) (mvT hZ (hw _ (List.mem_of_getElem? (i := 40) rfl))) (notFace_of_selects (args := #[]) (mvT hZ (hw _ (List.mem_of_getElem? (i := 42) rfl)))) (mvT hZ (hw _ (List.mem_of_getElem? (i := 42) rfl))) (mvT hZ (hw _ (List.mem_of_getElem? (i := 41) rfl))) (by decide) (backOf (W := 0) (rm_starti l Z a0 hw [] b16 v5 h26 n0 Z26 E_b16 F_b16_inPlace g_b16) hZ (hw _ (List.mem_of_getElem? (i := 43) rfl)) (hw _ (List.mem_of_getElem? (i := 3) rfl)) (by decide) (by decide)) q29a q29c (g := (mkF m 77 #[.val (.int p1), .val (.int p2), .val (.int sv), .val (.int ev), .val (.ref b16), .unset, .unset] [(.ref b16)])) rfl (by rw [hml]; rfl) (Steps.refl _) (argsL := []) (rest := []) (lenOf own_pd1 rfl) rfl (by show 2 * 0 + _ ≤ _; exact Nat.le_of_eq rfl) (hb hby at_77) (fun _ _ => ⟨rfl, e26, (by decide : 3 + 0 ≤ _), (by decide : 13 + 0 ≤ _)⟩)
      dsimp only [Pt.U, Pt.locs, Pt.cells, Pt.slots] at X29 l29 y29 z29 st29 hQ29
      subst l29 y29 z29
      obtain ⟨rfl, Nq29, Kq29, E_b16, F_b16_inPlace⟩ := hQ29
      replace N26 := Fr.app N26 Nq29
      replace Z26 := Nat.le_trans Z26 Kq29.1
      refine own_tr (g' := (mkF m 80 #[.val (.int p1), .val (.int p2), .val (.int sv), .val (.int ev), .val (.ref b16), .unset, .unset] [])) st29 ?_
      exact J80 T29 _ T29.heap (X29.more (Nat.le_of_ble_eq_true rfl) (Nat.le_of_ble_eq_true rfl)) rfl N26 Z26 _ E_b16 F_b16_inPlace (own_up hs hv5 (by decide) hc)
    · skip
      refine own_st (T' := T26) (g' := (mkF m 80 #[.val (.int p1), .val (.int p2), .val (.int sv), .val (.int ev), .val (.ref b16), .unset, .unset] [])) (fun _ zq => XS.icmpYes X26.here hx rfl (pc0 := 72) (pc' := 80) rfl (hb hby at_72) rfl (flt hc).2.2.2 (by decide) (by decide) zq) ?_
      exact J80 T26 _ h26 (X26.more (Nat.le_of_ble_eq_true rfl) (Nat.le_of_ble_eq_true rfl)) e26 N26 Z26 _ E_b16 F_b16_inPlace (own_st2 hs hv5 (by decide) hc)
  intro T28 lo28 h28 X28 e28 N28 Z28 v6 E_b16 F_b16_inPlace hv6
  refine own_st (T' := T28) (g' := (mkF m 81 #[.val (.int p1), .val (.int p2), .val (.int sv), .val (.int ev), .val (.ref b16), .unset, .unset] [(.int sv)])) (fun _ zq => XS.iloadN X28.here hx rfl (hb hby at_80) rfl zq) ?_
  refine own_st (T' := T28) (g' := (mkF m 83 #[.val (.int p1), .val (.int p2), .val (.int sv), .val (.int ev), .val (.ref b16), .unset, .unset] [(.int (6 : Int32)), (.int sv)])) (fun _ zq => XS.bipush X28.here hx rfl (hb hby at_81) zq) ?_
  suffices J91 : ∀ (T30 : State) (lo30 : List Loc) (h30 : Heap) (X30 : Stand p l e room_1 s m #[(.int p1), (.int p2)] below meth c T30 lo30 3 13) (e30 : T30.heap = h30) (N30 : Fr n0 lo30) (Z30 : n0 ≤ h30.size) (v7 : Int32) (E_b16 : Exa Z h30 b16 "boxwood/Budget") (F_b16_inPlace : Fld Z h30 b16 "boxwood/Budget" "inPlace" "I" (.int v7)) (hv7 : (((v7).toInt ≤ 7 ∧ 0 ≤ sv.toInt) ∧ (sv.toInt ≤ 7 → (v7).toInt = sv.toInt)) ∧ (7 ≤ sv.toInt → (v7).toInt = 7)), own_Go p e below s (Q_law Z p1 p2 h0 n0) 16 128 T30 (mkF m 91 #[.val (.int p1), .val (.int p2), .val (.int sv), .val (.int ev), .val (.ref b16), .unset, .unset] []) by
    by_cases hc : (6 : Int32) < sv
    · skip
      refine own_st (T' := T28) (g' := (mkF m 86 #[.val (.int p1), .val (.int p2), .val (.int sv), .val (.int ev), .val (.ref b16), .unset, .unset] [])) (fun _ zq => XS.icmpNo X28.here hx rfl (hb hby at_83) rfl (tlt hc).2.2.2 zq) ?_
      refine own_st (T' := T28) (g' := (mkF m 88 #[.val (.int p1), .val (.int p2), .val (.int sv), .val (.int ev), .val (.ref b16), .unset, .unset] [(.ref b16)])) (fun _ zq => XS.aload X28.here hx rfl (hb hby at_86) rfl rfl zq) ?_
      obtain ⟨cq31, kq31, q31a, q31b, q31c⟩ := isOf hZ e28 E_b16
      obtain ⟨_, _, ⟨T31, L31, k31, n31⟩, -, X31, ⟨Lc31, hQ31, l31, y31, z31⟩, st31⟩ := X28.virtualBack hx (y := (⟨"boxwood/Budget", "startInPlace", "()V"⟩ : MethodName)) (z := (⟨"boxwood/Budget", "startInPlace", "()V"⟩ : MethodName)) hown (mvT hZ (hw _ (List.mem_of_getElem? (i := 39) rfl))) (mvT hZ (hw _ (List.mem_of_getElem? (i := 40) rfl))) (notFace_of_selects (args := #[]) (mvT hZ (hw _ (List.mem_of_getElem? (i := 42) rfl)))) (mvT hZ (hw _ (List.mem_of_getElem? (i := 42) rfl))) (mvT hZ (hw _ (List.mem_of_getElem? (i := 41) rfl))) (by decide) (backOf (W := 0) (rm_starti l Z a0 hw [] b16 v6 h28 n0 Z28 E_b16 F_b16_inPlace g_b16) hZ (hw _ (List.mem_of_getElem? (i := 43) rfl)) (hw _ (List.mem_of_getElem? (i := 3) rfl)) (by decide) (by decide)) q31a q31c (g := (mkF m 88 #[.val (.int p1), .val (.int p2), .val (.int sv), .val (.int ev), .val (.ref b16), .unset, .unset] [(.ref b16)])) rfl (by rw [hml]; rfl) (Steps.refl _) (argsL := []) (rest := []) (lenOf own_pd1 rfl) rfl (by show 2 * 0 + _ ≤ _; exact Nat.le_of_eq rfl) (hb hby at_88) (fun _ _ => ⟨rfl, e28, (by decide : 3 + 0 ≤ _), (by decide : 13 + 0 ≤ _)⟩)
      dsimp only [Pt.U, Pt.locs, Pt.cells, Pt.slots] at X31 l31 y31 z31 st31 hQ31
      subst l31 y31 z31
      obtain ⟨rfl, Nq31, Kq31, E_b16, F_b16_inPlace⟩ := hQ31
      replace N28 := Fr.app N28 Nq31
      replace Z28 := Nat.le_trans Z28 Kq31.1
      refine own_tr (g' := (mkF m 91 #[.val (.int p1), .val (.int p2), .val (.int sv), .val (.int ev), .val (.ref b16), .unset, .unset] [])) st31 ?_
      exact J91 T31 _ T31.heap (X31.more (Nat.le_of_ble_eq_true rfl) (Nat.le_of_ble_eq_true rfl)) rfl N28 Z28 _ E_b16 F_b16_inPlace (own_up hs hv6 (by decide) hc)
    · skip
      refine own_st (T' := T28) (g' := (mkF m 91 #[.val (.int p1), .val (.int p2), .val (.int sv), .val (.int ev), .val (.ref b16), .unset, .unset] [])) (fun _ zq => XS.icmpYes X28.here hx rfl (pc0 := 83) (pc' := 91) rfl (hb hby at_83) rfl (flt hc).2.2.2 (by decide) (by decide) zq) ?_
      exact J91 T28 _ h28 (X28.more (Nat.le_of_ble_eq_true rfl) (Nat.le_of_ble_eq_true rfl)) e28 N28 Z28 _ E_b16 F_b16_inPlace (own_st2 hs hv6 (by decide) hc)
  intro T30 lo30 h30 X30 e30 N30 Z30 v7 E_b16 F_b16_inPlace hv7
  refine own_st (T' := T30) (g' := (mkF m 92 #[.val (.int p1), .val (.int p2), .val (.int sv), .val (.int ev), .val (.ref b16), .unset, .unset] [(.int sv)])) (fun _ zq => XS.iloadN X30.here hx rfl (hb hby at_91) rfl zq) ?_
  refine own_st (T' := T30) (g' := (mkF m 94 #[.val (.int p1), .val (.int p2), .val (.int sv), .val (.int ev), .val (.ref b16), .unset, .unset] [(.int (7 : Int32)), (.int sv)])) (fun _ zq => XS.bipush X30.here hx rfl (hb hby at_92) zq) ?_
  suffices J102 : ∀ (T32 : State) (lo32 : List Loc) (h32 : Heap) (X32 : Stand p l e room_1 s m #[(.int p1), (.int p2)] below meth c T32 lo32 3 13) (e32 : T32.heap = h32) (N32 : Fr n0 lo32) (Z32 : n0 ≤ h32.size) (v8 : Int32) (E_b16 : Exa Z h32 b16 "boxwood/Budget") (F_b16_inPlace : Fld Z h32 b16 "boxwood/Budget" "inPlace" "I" (.int v8)) (hv8 : (((v8).toInt ≤ 8 ∧ 0 ≤ sv.toInt) ∧ (sv.toInt ≤ 8 → (v8).toInt = sv.toInt)) ∧ (8 ≤ sv.toInt → (v8).toInt = 8)), own_Go p e below s (Q_law Z p1 p2 h0 n0) 16 128 T32 (mkF m 102 #[.val (.int p1), .val (.int p2), .val (.int sv), .val (.int ev), .val (.ref b16), .unset, .unset] []) by
    by_cases hc : (7 : Int32) < sv
    · skip
      refine own_st (T' := T30) (g' := (mkF m 97 #[.val (.int p1), .val (.int p2), .val (.int sv), .val (.int ev), .val (.ref b16), .unset, .unset] [])) (fun _ zq => XS.icmpNo X30.here hx rfl (hb hby at_94) rfl (tlt hc).2.2.2 zq) ?_
      refine own_st (T' := T30) (g' := (mkF m 99 #[.val (.int p1), .val (.int p2), .val (.int sv), .val (.int ev), .val (.ref b16), .unset, .unset] [(.ref b16)])) (fun _ zq => XS.aload X30.here hx rfl (hb hby at_97) rfl rfl zq) ?_
      obtain ⟨cq33, kq33, q33a, q33b, q33c⟩ := isOf hZ e30 E_b16
      obtain ⟨_, _, ⟨T33, L33, k33, n33⟩, -, X33, ⟨Lc33, hQ33, l33, y33, z33⟩, st33⟩ := X30.virtualBack hx (y := (⟨"boxwood/Budget", "startInPlace", "()V"⟩ : MethodName)) (z := (⟨"boxwood/Budget", "startInPlace", "()V"⟩ : MethodName)) hown (mvT hZ (hw _ (List.mem_of_getElem? (i := 39) rfl))) (mvT hZ (hw _ (List.mem_of_getElem? (i := 40) rfl))) (notFace_of_selects (args := #[]) (mvT hZ (hw _ (List.mem_of_getElem? (i := 42) rfl)))) (mvT hZ (hw _ (List.mem_of_getElem? (i := 42) rfl))) (mvT hZ (hw _ (List.mem_of_getElem? (i := 41) rfl))) (by decide) (backOf (W := 0) (rm_starti l Z a0 hw [] b16 v7 h30 n0 Z30 E_b16 F_b16_inPlace g_b16) hZ (hw _ (List.mem_of_getElem? (i := 43) rfl)) (hw _ (List.mem_of_getElem? (i := 3) rfl)) (by decide) (by decide)) q33a q33c (g := (mkF m 99 #[.val (.int p1), .val (.int p2), .val (.int sv), .val (.int ev), .val (.ref b16), .unset, .unset] [(.ref b16)])) rfl (by rw [hml]; rfl) (Steps.refl _) (argsL := []) (rest := []) (lenOf own_pd1 rfl) rfl (by show 2 * 0 + _ ≤ _; exact Nat.le_of_eq rfl) (hb hby at_99) (fun _ _ => ⟨rfl, e30, (by decide : 3 + 0 ≤ _), (by decide : 13 + 0 ≤ _)⟩)
      dsimp only [Pt.U, Pt.locs, Pt.cells, Pt.slots] at X33 l33 y33 z33 st33 hQ33
      subst l33 y33 z33
      obtain ⟨rfl, Nq33, Kq33, E_b16, F_b16_inPlace⟩ := hQ33
      replace N30 := Fr.app N30 Nq33
      replace Z30 := Nat.le_trans Z30 Kq33.1
      refine own_tr (g' := (mkF m 102 #[.val (.int p1), .val (.int p2), .val (.int sv), .val (.int ev), .val (.ref b16), .unset, .unset] [])) st33 ?_
      exact J102 T33 _ T33.heap (X33.more (Nat.le_of_ble_eq_true rfl) (Nat.le_of_ble_eq_true rfl)) rfl N30 Z30 _ E_b16 F_b16_inPlace (own_up hs hv7 (by decide) hc)
    · skip
      refine own_st (T' := T30) (g' := (mkF m 102 #[.val (.int p1), .val (.int p2), .val (.int sv), .val (.int ev), .val (.ref b16), .unset, .unset] [])) (fun _ zq => XS.icmpYes X30.here hx rfl (pc0 := 94) (pc' := 102) rfl (hb hby at_94) rfl (flt hc).2.2.2 (by decide) (by decide) zq) ?_
      exact J102 T30 _ h30 (X30.more (Nat.le_of_ble_eq_true rfl) (Nat.le_of_ble_eq_true rfl)) e30 N30 Z30 _ E_b16 F_b16_inPlace (own_st2 hs hv7 (by decide) hc)
  intro T32 lo32 h32 X32 e32 N32 Z32 v8 E_b16 F_b16_inPlace hv8
  refine own_st (T' := T32) (g' := (mkF m 103 #[.val (.int p1), .val (.int p2), .val (.int sv), .val (.int ev), .val (.ref b16), .unset, .unset] [(.int sv)])) (fun _ zq => XS.iloadN X32.here hx rfl (hb hby at_102) rfl zq) ?_
  refine own_st (T' := T32) (g' := (mkF m 105 #[.val (.int p1), .val (.int p2), .val (.int sv), .val (.int ev), .val (.ref b16), .unset, .unset] [(.int (8 : Int32)), (.int sv)])) (fun _ zq => XS.bipush X32.here hx rfl (hb hby at_103) zq) ?_
  suffices J113 : ∀ (T34 : State) (lo34 : List Loc) (h34 : Heap) (X34 : Stand p l e room_1 s m #[(.int p1), (.int p2)] below meth c T34 lo34 3 13) (e34 : T34.heap = h34) (N34 : Fr n0 lo34) (Z34 : n0 ≤ h34.size) (v9 : Int32) (E_b16 : Exa Z h34 b16 "boxwood/Budget") (F_b16_inPlace : Fld Z h34 b16 "boxwood/Budget" "inPlace" "I" (.int v9)) (hv9 : (((v9).toInt ≤ 9 ∧ 0 ≤ sv.toInt) ∧ (sv.toInt ≤ 9 → (v9).toInt = sv.toInt)) ∧ (9 ≤ sv.toInt → (v9).toInt = 9)), own_Go p e below s (Q_law Z p1 p2 h0 n0) 16 128 T34 (mkF m 113 #[.val (.int p1), .val (.int p2), .val (.int sv), .val (.int ev), .val (.ref b16), .unset, .unset] []) by
    by_cases hc : (8 : Int32) < sv
    · skip
      refine own_st (T' := T32) (g' := (mkF m 108 #[.val (.int p1), .val (.int p2), .val (.int sv), .val (.int ev), .val (.ref b16), .unset, .unset] [])) (fun _ zq => XS.icmpNo X32.here hx rfl (hb hby at_105) rfl (tlt hc).2.2.2 zq) ?_
      refine own_st (T' := T32) (g' := (mkF m 110 #[.val (.int p1), .val (.int p2), .val (.int sv), .val (.int ev), .val (.ref b16), .unset, .unset] [(.ref b16)])) (fun _ zq => XS.aload X32.here hx rfl (hb hby at_108) rfl rfl zq) ?_
      obtain ⟨cq35, kq35, q35a, q35b, q35c⟩ := isOf hZ e32 E_b16
      obtain ⟨_, _, ⟨T35, L35, k35, n35⟩, -, X35, ⟨Lc35, hQ35, l35, y35, z35⟩, st35⟩ := X32.virtualBack hx (y := (⟨"boxwood/Budget", "startInPlace", "()V"⟩ : MethodName)) (z := (⟨"boxwood/Budget", "startInPlace", "()V"⟩ : MethodName)) hown (mvT hZ (hw _ (List.mem_of_getElem? (i := 39) rfl))) (mvT hZ (hw _ (List.mem_of_getElem? (i := 40) rfl))) (notFace_of_selects (args := #[]) (mvT hZ (hw _ (List.mem_of_getElem? (i := 42) rfl)))) (mvT hZ (hw _ (List.mem_of_getElem? (i := 42) rfl))) (mvT hZ (hw _ (List.mem_of_getElem? (i := 41) rfl))) (by decide) (backOf (W := 0) (rm_starti l Z a0 hw [] b16 v8 h32 n0 Z32 E_b16 F_b16_inPlace g_b16) hZ (hw _ (List.mem_of_getElem? (i := 43) rfl)) (hw _ (List.mem_of_getElem? (i := 3) rfl)) (by decide) (by decide)) q35a q35c (g := (mkF m 110 #[.val (.int p1), .val (.int p2), .val (.int sv), .val (.int ev), .val (.ref b16), .unset, .unset] [(.ref b16)])) rfl (by rw [hml]; rfl) (Steps.refl _) (argsL := []) (rest := []) (lenOf own_pd1 rfl) rfl (by show 2 * 0 + _ ≤ _; exact Nat.le_of_eq rfl) (hb hby at_110) (fun _ _ => ⟨rfl, e32, (by decide : 3 + 0 ≤ _), (by decide : 13 + 0 ≤ _)⟩)
      dsimp only [Pt.U, Pt.locs, Pt.cells, Pt.slots] at X35 l35 y35 z35 st35 hQ35
      subst l35 y35 z35
      obtain ⟨rfl, Nq35, Kq35, E_b16, F_b16_inPlace⟩ := hQ35
      replace N32 := Fr.app N32 Nq35
      replace Z32 := Nat.le_trans Z32 Kq35.1
      refine own_tr (g' := (mkF m 113 #[.val (.int p1), .val (.int p2), .val (.int sv), .val (.int ev), .val (.ref b16), .unset, .unset] [])) st35 ?_
      exact J113 T35 _ T35.heap (X35.more (Nat.le_of_ble_eq_true rfl) (Nat.le_of_ble_eq_true rfl)) rfl N32 Z32 _ E_b16 F_b16_inPlace (own_up hs hv8 (by decide) hc)
    · skip
      refine own_st (T' := T32) (g' := (mkF m 113 #[.val (.int p1), .val (.int p2), .val (.int sv), .val (.int ev), .val (.ref b16), .unset, .unset] [])) (fun _ zq => XS.icmpYes X32.here hx rfl (pc0 := 105) (pc' := 113) rfl (hb hby at_105) rfl (flt hc).2.2.2 (by decide) (by decide) zq) ?_
      exact J113 T32 _ h32 (X32.more (Nat.le_of_ble_eq_true rfl) (Nat.le_of_ble_eq_true rfl)) e32 N32 Z32 _ E_b16 F_b16_inPlace (own_st2 hs hv8 (by decide) hc)
  intro T34 lo34 h34 X34 e34 N34 Z34 v9 E_b16 F_b16_inPlace hv9
  refine own_st (T' := T34) (g' := (mkF m 114 #[.val (.int p1), .val (.int p2), .val (.int sv), .val (.int ev), .val (.ref b16), .unset, .unset] [(.int ev)])) (fun _ zq => XS.iloadN X34.here hx rfl (hb hby at_113) rfl zq) ?_
  refine own_st (T' := T34) (g' := (mkF m 115 #[.val (.int p1), .val (.int p2), .val (.int sv), .val (.int ev), .val (.ref b16), .unset, .unset] [(.int (1 : Int32)), (.int ev)])) (fun _ zq => XS.iconst X34.here hx rfl (hb hby at_114) zq) ?_
  have hvs : v9 = sv := Int32.toInt_inj.mp (hv9.1.2 hs.2)
  subst hvs
  clear hv9
  suffices J123 : ∀ (T36 : State) (lo36 : List Loc) (h36 : Heap) (X36 : Stand p l e room_1 s m #[(.int p1), (.int p2)] below meth c T36 lo36 3 13) (e36 : T36.heap = h36) (N36 : Fr n0 lo36) (Z36 : n0 ≤ h36.size) (t9 : Int32) (E_b16 : Exa Z h36 b16 "boxwood/Budget") (F_b16_inPlace : Fld Z h36 b16 "boxwood/Budget" "inPlace" "I" (.int t9)) (ht9 : t9 = v9 - ev), own_Go p e below s (Q_law Z p1 p2 h0 n0) 16 128 T36 (mkF m 123 #[.val (.int p1), .val (.int p2), .val (.int v9), .val (.int ev), .val (.ref b16), .unset, .unset] []) by
    by_cases hc : ev = (1 : Int32)
    · skip
      refine own_st (T' := T34) (g' := (mkF m 118 #[.val (.int p1), .val (.int p2), .val (.int v9), .val (.int ev), .val (.ref b16), .unset, .unset] [])) (fun _ zq => XS.icmpNo X34.here hx rfl (hb hby at_115) rfl (teq hc).2 zq) ?_
      refine own_st (T' := T34) (g' := (mkF m 120 #[.val (.int p1), .val (.int p2), .val (.int v9), .val (.int ev), .val (.ref b16), .unset, .unset] [(.ref b16)])) (fun _ zq => XS.aload X34.here hx rfl (hb hby at_118) rfl rfl zq) ?_
      obtain ⟨cq37, kq37, q37a, q37b, q37c⟩ := isOf hZ e34 E_b16
      obtain ⟨_, _, ⟨T37, L37, k37, n37⟩, -, X37, ⟨Lc37, hQ37, l37, y37, z37⟩, st37⟩ := X34.virtualBack hx (y := (⟨"boxwood/Budget", "endInPlace", "()V"⟩ : MethodName)) (z := (⟨"boxwood/Budget", "endInPlace", "()V"⟩ : MethodName)) hown (mvT hZ (hw _ (List.mem_of_getElem? (i := 27) rfl))) (mvT hZ (hw _ (List.mem_of_getElem? (i := 28) rfl))) (notFace_of_selects (args := #[]) (mvT hZ (hw _ (List.mem_of_getElem? (i := 30) rfl)))) (mvT hZ (hw _ (List.mem_of_getElem? (i := 30) rfl))) (mvT hZ (hw _ (List.mem_of_getElem? (i := 29) rfl))) (by decide) (backOf (W := 0) (rm_endi l Z a0 hw [] b16 v9 h34 n0 Z34 E_b16 F_b16_inPlace g_b16) hZ (hw _ (List.mem_of_getElem? (i := 31) rfl)) (hw _ (List.mem_of_getElem? (i := 3) rfl)) (by decide) (by decide)) q37a q37c (g := (mkF m 120 #[.val (.int p1), .val (.int p2), .val (.int v9), .val (.int ev), .val (.ref b16), .unset, .unset] [(.ref b16)])) rfl (by rw [hml]; rfl) (Steps.refl _) (argsL := []) (rest := []) (lenOf own_pd1 rfl) rfl (by show 2 * 0 + _ ≤ _; exact Nat.le_of_eq rfl) (hb hby at_120) (fun _ _ => ⟨rfl, e34, (by decide : 3 + 0 ≤ _), (by decide : 13 + 0 ≤ _)⟩)
      dsimp only [Pt.U, Pt.locs, Pt.cells, Pt.slots] at X37 l37 y37 z37 st37 hQ37
      subst l37 y37 z37
      obtain ⟨rfl, Nq37, Kq37, E_b16, F_b16_inPlace⟩ := hQ37
      replace N34 := Fr.app N34 Nq37
      replace Z34 := Nat.le_trans Z34 Kq37.1
      refine own_tr (g' := (mkF m 123 #[.val (.int p1), .val (.int p2), .val (.int v9), .val (.int ev), .val (.ref b16), .unset, .unset] [])) st37 ?_
      exact J123 T37 _ T37.heap (X37.more (Nat.le_of_ble_eq_true rfl) (Nat.le_of_ble_eq_true rfl)) rfl N34 Z34 _ E_b16 F_b16_inPlace (by rw [hc])
    · skip
      refine own_st (T' := T34) (g' := (mkF m 123 #[.val (.int p1), .val (.int p2), .val (.int v9), .val (.int ev), .val (.ref b16), .unset, .unset] [])) (fun _ zq => XS.icmpYes X34.here hx rfl (pc0 := 115) (pc' := 123) rfl (hb hby at_115) rfl (feq hc).2 (by decide) (by decide) zq) ?_
      exact J123 T34 _ h34 (X34.more (Nat.le_of_ble_eq_true rfl) (Nat.le_of_ble_eq_true rfl)) e34 N34 Z34 _ E_b16 F_b16_inPlace (he.elim (fun q => by rw [q, Int32.sub_zero]) (fun q => absurd q hc))
  intro T36 lo36 h36 X36 e36 N36 Z36 t9 E_b16 F_b16_inPlace ht9
  refine own_st (T' := T36) (g' := (mkF m 124 #[.val (.int p1), .val (.int p2), .val (.int v9), .val (.int ev), .val (.ref b16), .unset, .unset] [(.int v9)])) (fun _ zq => XS.iloadN X36.here hx rfl (hb hby at_123) rfl zq) ?_
  refine own_st (T' := T36) (g' := (mkF m 125 #[.val (.int p1), .val (.int p2), .val (.int v9), .val (.int ev), .val (.ref b16), .unset, .unset] [(.int ev), (.int v9)])) (fun _ zq => XS.iloadN X36.here hx rfl (hb hby at_124) rfl zq) ?_
  refine own_st (T' := T36) (g' := (mkF m 126 #[.val (.int p1), .val (.int p2), .val (.int v9), .val (.int ev), .val (.ref b16), .unset, .unset] [(.int (v9 - ev))])) (fun _ zq => XS.isub X36.here hx rfl (hb hby at_125) rfl zq) ?_
  refine own_st (T' := T36) (g' := (mkF m 128 #[.val (.int p1), .val (.int p2), .val (.int v9), .val (.int ev), .val (.ref b16), .val (.int (v9 - ev)), .unset] [])) (fun _ zq => XS.istore X36.here hx rfl (hb hby at_126) rfl (l' := #[.val (.int p1), .val (.int p2), .val (.int v9), .val (.int ev), .val (.ref b16), .val (.int (v9 - ev)), .unset]) rfl zq) ?_
  refine own_st (T' := T36) (g' := (mkF m 130 #[.val (.int p1), .val (.int p2), .val (.int v9), .val (.int ev), .val (.ref b16), .val (.int (v9 - ev)), .unset] [(.int (v9 - ev))])) (fun _ zq => XS.iload X36.here hx rfl (hb hby at_128) rfl zq) ?_
  refine own_st (T' := T36) (g' := (mkF m 132 #[.val (.int p1), .val (.int p2), .val (.int v9), .val (.int ev), .val (.ref b16), .val (.int (v9 - ev)), .unset] [(.int (8 : Int32)), (.int (v9 - ev))])) (fun _ zq => XS.bipush X36.here hx rfl (hb hby at_130) zq) ?_
  suffices J140 : ∀ (z6 : Int32) (hz6 : z6 = if (v9 - ev) < (8 : Int32) then 0 else 1), own_Go p e below s (Q_law Z p1 p2 h0 n0) 16 128 T36 (mkF m 140 #[.val (.int p1), .val (.int p2), .val (.int v9), .val (.int ev), .val (.ref b16), .val (.int (v9 - ev)), .unset] [(.int z6)]) by
    by_cases hc : (v9 - ev) < (8 : Int32)
    · skip
      refine own_st (T' := T36) (g' := (mkF m 139 #[.val (.int p1), .val (.int p2), .val (.int v9), .val (.int ev), .val (.ref b16), .val (.int (v9 - ev)), .unset] [])) (fun _ zq => XS.icmpYes X36.here hx rfl (pc0 := 132) (pc' := 139) rfl (hb hby at_132) rfl (tlt hc).1 (by decide) (by decide) zq) ?_
      refine own_st (T' := T36) (g' := (mkF m 140 #[.val (.int p1), .val (.int p2), .val (.int v9), .val (.int ev), .val (.ref b16), .val (.int (v9 - ev)), .unset] [(.int (0 : Int32))])) (fun _ zq => XS.iconst X36.here hx rfl (hb hby at_139) zq) ?_
      exact J140 _ (if_pos hc).symm
    · skip
      refine own_st (T' := T36) (g' := (mkF m 135 #[.val (.int p1), .val (.int p2), .val (.int v9), .val (.int ev), .val (.ref b16), .val (.int (v9 - ev)), .unset] [])) (fun _ zq => XS.icmpNo X36.here hx rfl (hb hby at_132) rfl (flt hc).1 zq) ?_
      refine own_st (T' := T36) (g' := (mkF m 136 #[.val (.int p1), .val (.int p2), .val (.int v9), .val (.int ev), .val (.ref b16), .val (.int (v9 - ev)), .unset] [(.int (1 : Int32))])) (fun _ zq => XS.iconst X36.here hx rfl (hb hby at_135) zq) ?_
      refine own_st (T' := T36) (g' := (mkF m 140 #[.val (.int p1), .val (.int p2), .val (.int v9), .val (.int ev), .val (.ref b16), .val (.int (v9 - ev)), .unset] [(.int (1 : Int32))])) (fun _ zq => XS.goto X36.here hx rfl (pc0 := 136) (pc' := 140) rfl (hb hby at_136) (by decide) (by decide) zq) ?_
      exact J140 _ (if_neg hc).symm
  intro z6 hz6
  refine own_st (T' := T36) (g' := (mkF m 142 #[.val (.int p1), .val (.int p2), .val (.int v9), .val (.int ev), .val (.ref b16), .val (.int (v9 - ev)), .val (.int z6)] [])) (fun _ zq => XS.istore X36.here hx rfl (hb hby at_140) rfl (l' := #[.val (.int p1), .val (.int p2), .val (.int v9), .val (.int ev), .val (.ref b16), .val (.int (v9 - ev)), .val (.int z6)]) rfl zq) ?_
  refine own_st (T' := T36) (g' := (mkF m 144 #[.val (.int p1), .val (.int p2), .val (.int v9), .val (.int ev), .val (.ref b16), .val (.int (v9 - ev)), .val (.int z6)] [(.ref b16)])) (fun _ zq => XS.aload X36.here hx rfl (hb hby at_142) rfl rfl zq) ?_
  obtain ⟨cq38, kq38, q38a, q38b, q38c⟩ := isOf hZ e36 E_b16
  obtain ⟨_, _, ⟨T38, L38, k38, n38⟩, -, X38, ⟨Lc38, hQ38, l38, y38, z38⟩, st38⟩ := X36.virtualBack hx (y := (⟨"boxwood/Budget", "inPlaceSpent", "()Z"⟩ : MethodName)) (z := (⟨"boxwood/Budget", "inPlaceSpent", "()Z"⟩ : MethodName)) hown (mvT hZ (hw _ (List.mem_of_getElem? (i := 34) rfl))) (mvT hZ (hw _ (List.mem_of_getElem? (i := 35) rfl))) (notFace_of_selects (args := #[]) (mvT hZ (hw _ (List.mem_of_getElem? (i := 37) rfl)))) (mvT hZ (hw _ (List.mem_of_getElem? (i := 37) rfl))) (mvT hZ (hw _ (List.mem_of_getElem? (i := 36) rfl))) (by decide) (backOf (W := 0) (rm_spent l Z a0 hw [] b16 t9 h36 n0 Z36 F_b16_inPlace) hZ (hw _ (List.mem_of_getElem? (i := 38) rfl)) (hw _ (List.mem_of_getElem? (i := 3) rfl)) (by decide) (by decide)) q38a q38c (g := (mkF m 144 #[.val (.int p1), .val (.int p2), .val (.int v9), .val (.int ev), .val (.ref b16), .val (.int (v9 - ev)), .val (.int z6)] [(.ref b16)])) rfl (by rw [hml]; rfl) (Steps.refl _) (argsL := []) (rest := []) (lenOf own_pd2 rfl) rfl (by show 2 * 0 + _ ≤ _; exact Nat.le_of_eq rfl) (hb hby at_144) (fun _ _ => ⟨rfl, e36, (by decide : 3 + 0 ≤ _), (by decide : 13 + 0 ≤ _)⟩)
  dsimp only [Pt.U, Pt.locs, Pt.cells, Pt.slots] at X38 l38 y38 z38 st38 hQ38
  subst l38 y38 z38
  obtain ⟨rfl, Nq38, eq38⟩ := hQ38
  replace N36 := Fr.app N36 Nq38
  refine own_tr (g' := (mkF m 147 #[.val (.int p1), .val (.int p2), .val (.int v9), .val (.int ev), .val (.ref b16), .val (.int (v9 - ev)), .val (.int z6)] [(.int (if t9 < (8 : Int32) then 0 else 1))])) st38 ?_
  refine own_st (T' := T38) (g' := (mkF m 149 #[.val (.int p1), .val (.int p2), .val (.int v9), .val (.int ev), .val (.ref b16), .val (.int (v9 - ev)), .val (.int z6)] [(.int z6), (.int (if t9 < (8 : Int32) then 0 else 1))])) (fun _ zq => XS.iload X38.here hx rfl (hb hby at_147) rfl zq) ?_
  refine own_st (T' := T38) (g' := (mkF m 152 #[.val (.int p1), .val (.int p2), .val (.int v9), .val (.int ev), .val (.ref b16), .val (.int (v9 - ev)), .val (.int z6)] [])) (fun _ zq => XS.icmpNo X38.here hx rfl (hb hby at_149) rfl (teq (by rw [hz6, ht9])).2 zq) ?_
  refine own_st (T' := T38) (g' := (mkF m 153 #[.val (.int p1), .val (.int p2), .val (.int v9), .val (.int ev), .val (.ref b16), .val (.int (v9 - ev)), .val (.int z6)] [(.int (1 : Int32))])) (fun _ zq => XS.iconst X38.here hx rfl (hb hby at_152) zq) ?_
  refine own_st (T' := T38) (g' := (mkF m 157 #[.val (.int p1), .val (.int p2), .val (.int v9), .val (.int ev), .val (.ref b16), .val (.int (v9 - ev)), .val (.int z6)] [(.int (1 : Int32))])) (fun _ zq => XS.goto X38.here hx rfl (pc0 := 153) (pc' := 157) rfl (hb hby at_153) (by decide) (by decide) zq) ?_
  exact own_ret X38 hx hret hlk (i := .ireturn) rfl (Or.inl ⟨rfl, by decide, _, rfl⟩) (hb hby at_157) (eq38) (Nat.le_of_ble_eq_true rfl) (Nat.le_of_ble_eq_true rfl) ⟨rfl, N36⟩
set_option maxRecDepth 65536 in
set_option maxHeartbeats 40000000 in
theorem comes_1 {Post : Tables → Env → Array Value → State → Outcome → State → Prop} (hpost : ∀ tb e args s v u, (limb_1_1.after args s (.returned v) u = true ∧ limb_1_2.after args s (.returned v) u = true ∧ True) → FrameEnd s (.returned v) u (Jvm.fieldLocs frame_1_writes args s ++ Jvm.arrayLocs frame_1_arrays args s ++ Jvm.staticLocs frame_1_statics s) 16 128 → Post tb e args s (.returned v) u) :
    ArmFor flags0 classFile x code maxLocals ret World_1 tables_1 room_1 Calls_1 rest_1 Pre_1 Post := by
  intro l hfl _ _ p e ha hc hk s m args below hf hA hF happ hP
  obtain ⟨hcalls, hrest, hpre⟩ := hP
  obtain ⟨-, -, -, hnamed, -, -, -, hat⟩ := (Spec.applies_iff hf).mp happ
  obtain ⟨hg, hn⟩ := and_e (Cond.before_iff.mp (show (Jvm.Cond.and given_1 narrow_1).before args s = true from hpre))
  obtain ⟨hcnt, hgs⟩ := and_e hg
  obtain ⟨w0, w1, rfl⟩ : ∃ w0 w1 : Value, args = #[w0, w1] := by
    have hs : args.size = 2 := by simpa [Cond.value, given_1] using hcnt
    obtain ⟨L⟩ := args
    match L, hs with
    | [w0, w1], _ => exact ⟨w0, w1, rfl⟩
  have hw := fun d (hd : d ∈ tables_1) => atoms_spec (ws := Jvm.Cond.code x code maxLocals ret :: tables_1) hat d (List.mem_cons_of_mem _ hd)
  have hfit : Fit s := fun {y c} hc i hi => by
    obtain ⟨ha, rfl⟩ := Array.getElem?_eq_some_iff.mp hc
    have q := List.all_eq_true.mp ((Array.all_eq_true_iff_forall_mem.mp hF) _ (Array.getElem_mem ha)) i (List.mem_range.mpr hi)
    simpa [Array.getElem?_eq_getElem hi] using q
  obtain ⟨k0, hgs⟩ := and_e hgs
  obtain ⟨i0, q0⟩ := is_v k0
  obtain rfl : w0 = (.int i0) := Option.some.inj q0
  obtain ⟨i1, q1⟩ := is_v hgs
  obtain rfl : w1 = (.int i1) := Option.some.inj q1
  obtain ⟨n, o, h1, h2, h3, _, L, rfl, ⟨rfl, N⟩, hq⟩ := rm_law l s _ hw tables_1 i0 i1  s.heap s.heap.size (Nat.le_refl _)  p e ha hc hk s m _ below hf ((Spec.applies_iff_loose hf).mp happ).1 ⟨rfl, State.Warmed39.refl s, rfl⟩ trivial
  refine ⟨n, _, h1, h2, h3, hpost _ _ _ _ _ _ ⟨Cond.after_iff.mpr rfl, Cond.after_iff.mpr (eq_i res_at (Term.int_eval (1)) rfl), trivial⟩ ⟨hq.1, hq.2.1, (hq.2.2.sift fun y hy => Or.inr (N y hy)).mono (by decide) (by decide)⟩⟩
theorem main_1_1 : Claimed_1_1 := comes_1 fun _ _ _ _ _ _ h hF => ⟨h.1, hF⟩
theorem main_1_2 : Claimed_1_2 := comes_1 fun _ _ _ _ _ _ h hF => ⟨h.2.1, hF⟩
end Jvm.Pilot.@@N@@
namespace Jvm.Pilot.@@N@@
open Jvm Jvm.ClassFile Sem Op Lib Jvm.Free Jvm.Stand Jvm.Pilot.@@N@@.Jvm.D
/-! MADE BY PROGRAM (witnessworld.py) out of the Statement's table words and the real class files: 10 classes; the members and pool entries that the words name. The judged class is class 1, her method 1. -/
namespace start1
open Jvm.ClassFile
def u (s : String) : CpInfo := .utf8 (stringToUtf16 s)
/-- a pool by its gaps: so many unusable entries, then the entry; so many at the end -/
def gap : Nat → List CpInfo → List CpInfo
  | 0, r => r
  | n + 1, r => .unusable :: gap n r
def poolList (es : List (Nat × CpInfo)) (last : Nat) : List CpInfo := es.foldr (fun e r => gap e.1 (e.2 :: r)) (gap last [])
def pool (es : List (Nat × CpInfo)) (last : Nat) : Array CpInfo := ⟨poolList es last⟩
def fileOf (pool : Array CpInfo) (this : Nat) (attrs : Array Attribute := #[]) (ms : Array MethodInfo := #[]) (fl : Nat := 33) (sup : Nat := 0) (ifs : Array Nat := #[]) (fds : Array FieldInfo := #[]) : ClassFile where
  minorVersion := 0
  majorVersion := 65
  constantPool := pool
  accessFlags := fl
  thisClass := this
  superClass := sup
  interfaces := ifs
  fields := fds
  methods := ms
  attributes := attrs
def plain (name : String) (sup : Option ClassId) : Class where
  name := name
  kind := .ordinary
  loader := none
  accessFlags := 33
  super := sup
  interfaces := #[]
  cf := none
  fields := #[]
  methods := #[]
  instanceTypes := #[]
  staticTypes := #[]
  resolved := #[]
  callSites := []
  init := .initialized
  statics := none
  mirror := none

def pool0 : Array CpInfo := pool [(5, u "<init>"), (0, u "()V"), (1, .class_ 10), (1, u "java/lang/Object")] 113

def k0c0 : Code := { maxStack := 0, maxLocals := 1, code := object_method_1_code, exceptionTable := #[], attributes := #[] }
def k0m0 : Method := { name := "<init>", desc := "()V", sig := { parameters := [], returnType := none }, accessFlags := 1, code := some k0c0 }
/-- java/lang/Object -/
def k0 : Class := { plain "java/lang/Object" none with
  accessFlags := 33
  interfaces := #[]
  cf := some (fileOf pool0 8 #[] #[{ accessFlags := 1, nameIndex := 5, descriptorIndex := 6, attributes := #[] }] 33 0 #[] #[])
  fields := #[]
  methods := #[k0m0]
  instanceTypes := #[]
  staticTypes := #[]
  resolved := Array.replicate 124 none
  statics := none }

def pool1 : Array CpInfo := pool [(2, .class_ 4), (0, .nameAndType 5 6), (0, u "java/lang/Object"), (0, u "<init>"), (0, u "()V"), (0, .integer 2147483647), (0, .class_ 9), (0, u "boxwood/Budget"), (0, .methodref 8 3), (0, .methodref 8 12), (0, .nameAndType 13 6), (0, u "startInPlace"), (0, .methodref 8 15), (0, .nameAndType 16 6), (0, u "endInPlace"), (0, .methodref 8 18), (0, .nameAndType 19 20), (0, u "inPlaceSpent"), (0, u "()Z"), (0, .class_ 22), (0, u "boxwood/BudgetInPlaceSpentPinLaw"), (2, u "law"), (0, u "(II)Z")] 3

def k1m0 : Method := { name := "<init>", desc := "()V", sig := { parameters := [], returnType := none }, accessFlags := 1, code := none }
def k1c1 : Code := { maxStack := 2, maxLocals := 7, code := code, exceptionTable := #[], attributes := #[] }
def k1m1 : Method := { name := "law", desc := "(II)Z", sig := { parameters := [.int, .int], returnType := some .boolean }, accessFlags := 9, code := some k1c1 }
/-- boxwood/BudgetInPlaceSpentPinLaw -/
def k1 : Class := { plain "boxwood/BudgetInPlaceSpentPinLaw" (some 0) with
  accessFlags := 49
  interfaces := #[]
  cf := some (fileOf pool1 21 #[] #[{ accessFlags := 1, nameIndex := 5, descriptorIndex := 6, attributes := #[] }, { accessFlags := 9, nameIndex := 25, descriptorIndex := 26, attributes := #[] }] 49 2 #[] #[])
  fields := #[]
  methods := #[k1m0, k1m1]
  instanceTypes := #[]
  staticTypes := #[]
  resolved := Array.replicate 30 none
  statics := none }

def pool2 : Array CpInfo := pool [(1, .methodref 2 3), (0, .class_ 4), (0, .nameAndType 5 6), (0, u "java/lang/Object"), (0, u "<init>"), (0, u "()V"), (0, .class_ 8), (0, u "boxwood/Budget$Meter"), (0, .class_ 10), (0, u "boxwood/Budget"), (0, .long 16777216), (1, .methodref 7 14), (0, .nameAndType 5 15), (0, u "(J)V"), (0, .fieldref 9 17), (0, .nameAndType 18 19), (0, u "size"), (0, u "Lboxwood/Budget$Meter;"), (0, .long 134217728), (1, .fieldref 9 23), (0, .nameAndType 24 19), (0, u "steps"), (0, .fieldref 9 26), (0, .nameAndType 27 28), (0, u "sizeAtStart"), (0, u "J"), (5, .class_ 36), (1, u "boxwood/Budget$Bound"), (1, u "Lboxwood/Budget$Bound;"), (32, u "Z"), (2, u "pastBound"), (7, u "depth"), (0, u "I"), (2, u "tooDeep"), (5, u "invokedAt"), (2, u "invocations"), (9, u "()Z"), (3, .fieldref 9 110), (0, .nameAndType 111 83), (0, u "inPlace"), (116, u "MAX_SIZE"), (1, u "MAX_STEPS"), (0, u "MAX_DEPTH"), (1, u "MAX_IN_PLACE"), (1, u "BYTES_PER_UNIT"), (1, u "LIST_BYTES"), (1, u "ITEM_BYTES"), (0, u "CONTEXT_BYTES"), (1, u "ENTRY_BYTES"), (1, u "STRING_BYTES"), (1, u "SMALL_BYTES"), (0, u "LARGE_NUMBER_BYTES"), (1, u "ZONE_BYTES"), (1, u "RANGE_BYTES"), (0, u "FUNCTION_BYTES"), (1, u "SCOPE_BYTES"), (1, u "NAME_BYTES"), (19, u "inPlaceSpent"), (0, u "startInPlace"), (0, u "endInPlace")] 8

def k2c0 : Code := { maxStack := 5, maxLocals := 1, code := prog_7_method_1_code, exceptionTable := #[], attributes := #[] }
def k2m0 : Method := { name := "<init>", desc := "()V", sig := { parameters := [], returnType := none }, accessFlags := 0, code := some k2c0 }
def k2c1 : Code := { maxStack := 2, maxLocals := 1, code := prog_7_method_17_code, exceptionTable := #[], attributes := #[] }
def k2m1 : Method := { name := "inPlaceSpent", desc := "()Z", sig := { parameters := [], returnType := some .boolean }, accessFlags := 0, code := some k2c1 }
def k2c2 : Code := { maxStack := 3, maxLocals := 1, code := prog_7_method_18_code, exceptionTable := #[], attributes := #[] }
def k2m2 : Method := { name := "startInPlace", desc := "()V", sig := { parameters := [], returnType := none }, accessFlags := 0, code := some k2c2 }
def k2c3 : Code := { maxStack := 3, maxLocals := 1, code := prog_7_method_19_code, exceptionTable := #[], attributes := #[] }
def k2m3 : Method := { name := "endInPlace", desc := "()V", sig := { parameters := [], returnType := none }, accessFlags := 0, code := some k2c3 }
/-- boxwood/Budget -/
def k2 : Class := { plain "boxwood/Budget" (some 0) with
  accessFlags := 48
  interfaces := #[]
  cf := some (fileOf pool2 9 #[.nestMembers #[7, 34]] #[{ accessFlags := 0, nameIndex := 5, descriptorIndex := 6, attributes := #[] }, { accessFlags := 0, nameIndex := 276, descriptorIndex := 105, attributes := #[] }, { accessFlags := 0, nameIndex := 277, descriptorIndex := 6, attributes := #[] }, { accessFlags := 0, nameIndex := 278, descriptorIndex := 6, attributes := #[] }] 48 2 #[] #[{ accessFlags := 24, nameIndex := 228, descriptorIndex := 28, attributes := #[] }, { accessFlags := 24, nameIndex := 230, descriptorIndex := 28, attributes := #[] }, { accessFlags := 24, nameIndex := 231, descriptorIndex := 83, attributes := #[] }, { accessFlags := 24, nameIndex := 233, descriptorIndex := 83, attributes := #[] }, { accessFlags := 26, nameIndex := 235, descriptorIndex := 83, attributes := #[] }, { accessFlags := 26, nameIndex := 237, descriptorIndex := 83, attributes := #[] }, { accessFlags := 26, nameIndex := 239, descriptorIndex := 83, attributes := #[] }, { accessFlags := 26, nameIndex := 240, descriptorIndex := 83, attributes := #[] }, { accessFlags := 26, nameIndex := 242, descriptorIndex := 83, attributes := #[] }, { accessFlags := 26, nameIndex := 244, descriptorIndex := 83, attributes := #[] }, { accessFlags := 26, nameIndex := 246, descriptorIndex := 83, attributes := #[] }, { accessFlags := 26, nameIndex := 247, descriptorIndex := 83, attributes := #[] }, { accessFlags := 26, nameIndex := 249, descriptorIndex := 83, attributes := #[] }, { accessFlags := 26, nameIndex := 251, descriptorIndex := 83, attributes := #[] }, { accessFlags := 26, nameIndex := 252, descriptorIndex := 83, attributes := #[] }, { accessFlags := 26, nameIndex := 254, descriptorIndex := 83, attributes := #[] }, { accessFlags := 26, nameIndex := 256, descriptorIndex := 83, attributes := #[] }, { accessFlags := 18, nameIndex := 18, descriptorIndex := 19, attributes := #[] }, { accessFlags := 18, nameIndex := 24, descriptorIndex := 19, attributes := #[] }, { accessFlags := 2, nameIndex := 74, descriptorIndex := 38, attributes := #[] }, { accessFlags := 2, nameIndex := 27, descriptorIndex := 28, attributes := #[] }, { accessFlags := 2, nameIndex := 82, descriptorIndex := 83, attributes := #[] }, { accessFlags := 2, nameIndex := 86, descriptorIndex := 71, attributes := #[] }, { accessFlags := 2, nameIndex := 111, descriptorIndex := 83, attributes := #[] }, { accessFlags := 2, nameIndex := 92, descriptorIndex := 83, attributes := #[] }, { accessFlags := 2, nameIndex := 95, descriptorIndex := 83, attributes := #[] }])
  fields := #[{ name := "MAX_SIZE", type := .long, accessFlags := 24, slot := 0, constantValue := 0 }, { name := "MAX_STEPS", type := .long, accessFlags := 24, slot := 1, constantValue := 0 }, { name := "MAX_DEPTH", type := .int, accessFlags := 24, slot := 2, constantValue := 0 }, { name := "MAX_IN_PLACE", type := .int, accessFlags := 24, slot := 3, constantValue := 0 }, { name := "BYTES_PER_UNIT", type := .int, accessFlags := 26, slot := 4, constantValue := 0 }, { name := "LIST_BYTES", type := .int, accessFlags := 26, slot := 5, constantValue := 0 }, { name := "ITEM_BYTES", type := .int, accessFlags := 26, slot := 6, constantValue := 0 }, { name := "CONTEXT_BYTES", type := .int, accessFlags := 26, slot := 7, constantValue := 0 }, { name := "ENTRY_BYTES", type := .int, accessFlags := 26, slot := 8, constantValue := 0 }, { name := "STRING_BYTES", type := .int, accessFlags := 26, slot := 9, constantValue := 0 }, { name := "SMALL_BYTES", type := .int, accessFlags := 26, slot := 10, constantValue := 0 }, { name := "LARGE_NUMBER_BYTES", type := .int, accessFlags := 26, slot := 11, constantValue := 0 }, { name := "ZONE_BYTES", type := .int, accessFlags := 26, slot := 12, constantValue := 0 }, { name := "RANGE_BYTES", type := .int, accessFlags := 26, slot := 13, constantValue := 0 }, { name := "FUNCTION_BYTES", type := .int, accessFlags := 26, slot := 14, constantValue := 0 }, { name := "SCOPE_BYTES", type := .int, accessFlags := 26, slot := 15, constantValue := 0 }, { name := "NAME_BYTES", type := .int, accessFlags := 26, slot := 16, constantValue := 0 }, { name := "size", type := (.object "boxwood/Budget$Meter"), accessFlags := 18, slot := 0, constantValue := 0 }, { name := "steps", type := (.object "boxwood/Budget$Meter"), accessFlags := 18, slot := 1, constantValue := 0 }, { name := "pastBound", type := (.object "boxwood/Budget$Bound"), accessFlags := 2, slot := 2, constantValue := 0 }, { name := "sizeAtStart", type := .long, accessFlags := 2, slot := 3, constantValue := 0 }, { name := "depth", type := .int, accessFlags := 2, slot := 4, constantValue := 0 }, { name := "tooDeep", type := .boolean, accessFlags := 2, slot := 5, constantValue := 0 }, { name := "inPlace", type := .int, accessFlags := 2, slot := 6, constantValue := 0 }, { name := "invokedAt", type := .int, accessFlags := 2, slot := 7, constantValue := 0 }, { name := "invocations", type := .int, accessFlags := 2, slot := 8, constantValue := 0 }]
  methods := #[k2m0, k2m1, k2m2, k2m3]
  instanceTypes := #[(.object "boxwood/Budget$Meter"), (.object "boxwood/Budget$Meter"), (.object "boxwood/Budget$Bound"), .long, .int, .boolean, .int, .int, .int]
  staticTypes := #[.long, .long, .int, .int, .int, .int, .int, .int, .int, .int, .int, .int, .int, .int, .int, .int, .int]
  resolved := (((Array.replicate 287 none).setIfInBounds 7 (some (.cls 3))).setIfInBounds 13 (some (.method ⟨3, 0⟩)))
  statics := none }

def pool3 : Array CpInfo := pool [(1, .methodref 2 3), (0, .class_ 4), (0, .nameAndType 5 6), (0, u "java/lang/Object"), (0, u "<init>"), (0, u "()V"), (0, .fieldref 8 9), (0, .class_ 10), (0, .nameAndType 11 12), (0, u "boxwood/Budget$Meter"), (0, u "left"), (0, u "J"), (2, u "past"), (0, u "Z"), (2, u "(J)V"), (9, .class_ 30), (0, u "boxwood/Budget")] 2

def k3c0 : Code := { maxStack := 3, maxLocals := 3, code := prog_9_method_1_code, exceptionTable := #[], attributes := #[] }
def k3m0 : Method := { name := "<init>", desc := "(J)V", sig := { parameters := [.long], returnType := none }, accessFlags := 2, code := some k3c0 }
/-- boxwood/Budget$Meter -/
def k3 : Class := { plain "boxwood/Budget$Meter" (some 0) with
  accessFlags := 48
  interfaces := #[]
  cf := some (fileOf pool3 8 #[.nestHost 29] #[{ accessFlags := 2, nameIndex := 5, descriptorIndex := 19, attributes := #[] }] 48 2 #[] #[{ accessFlags := 2, nameIndex := 11, descriptorIndex := 12, attributes := #[] }, { accessFlags := 2, nameIndex := 15, descriptorIndex := 16, attributes := #[] }])
  fields := #[{ name := "left", type := .long, accessFlags := 2, slot := 0, constantValue := 0 }, { name := "past", type := .boolean, accessFlags := 2, slot := 1, constantValue := 0 }]
  methods := #[k3m0]
  instanceTypes := #[.long, .boolean]
  staticTypes := #[]
  resolved := Array.replicate 33 none
  statics := none }

def pool4 : Array CpInfo := pool [(1, u "java/lang/Cloneable"), (0, .class_ 1), (0, u "java/lang/Object"), (0, .class_ 3)] 3

/-- java/lang/Cloneable -/
def k4 : Class := { plain "java/lang/Cloneable" (some 0) with
  accessFlags := 1537
  interfaces := #[]
  cf := some (fileOf pool4 2 #[] #[] 1537 4 #[] #[])
  fields := #[]
  methods := #[]
  instanceTypes := #[]
  staticTypes := #[]
  resolved := Array.replicate 8 none
  statics := none }

def pool5 : Array CpInfo := pool [(1, u "java/io/Serializable"), (0, .class_ 1), (0, u "java/lang/Object"), (0, .class_ 3)] 3

/-- java/io/Serializable -/
def k5 : Class := { plain "java/io/Serializable" (some 0) with
  accessFlags := 1537
  interfaces := #[]
  cf := some (fileOf pool5 2 #[] #[] 1537 4 #[] #[])
  fields := #[]
  methods := #[]
  instanceTypes := #[]
  staticTypes := #[]
  resolved := Array.replicate 8 none
  statics := none }

/-- the primitive byte -/
def k6 : Class := { plain "byte" none with kind := .primitive 'B', accessFlags := 0x411 }
/-- [B -/
def k7 : Class := { plain "[B" (some 0) with kind := .array 6 .byte, interfaces := #[4, 5], accessFlags := 1041 }

/-- the primitive int -/
def k8 : Class := { plain "int" none with kind := .primitive 'I', accessFlags := 0x411 }
/-- [I -/
def k9 : Class := { plain "[I" (some 0) with kind := .array 8 .int, interfaces := #[4, 5], accessFlags := 1041 }

def heap : Heap := #[]
def classes : Array Class := #[k0, k1, k2, k3, k4, k5, k6, k7, k8, k9]
def interned : List (Array UInt16 × Addr) := []
def slotsUsed : Nat := 0
def theMethod : MethodId := ⟨1, 1⟩
def args0 : Array Value := #[.int 5, .int 1]
def aboutOver (below : List Frame) : State where
  vm := { classes := classes, interned := interned.toArray }
  heap := heap
  slotsUsed := slotsUsed
  threads := #[{ frames := .invoking theMethod args0 :: below }]
def below0 : List Frame := [.native { method := ⟨0, 0⟩, args := #[] }]
def about1 : State := aboutOver below0
def p0 : Program := .bare "" "" ""
def e0 : Env := launch0.env 0 0 0
theorem w_frames : about1.frames = Frame.invoking theMethod args0 :: below0 := rfl
set_option maxRecDepth 65536 in
theorem w_args : argsFit about1.vm theMethod args0 = true := by decide +kernel
set_option maxRecDepth 65536 in
theorem w_heap : heapFits about1 = true := by decide +kernel
set_option maxRecDepth 65536 in
theorem w_runnable : about1.curStatus? = some .runnable := by decide +kernel
set_option maxRecDepth 65536 in
theorem w_alone : about1.alone = true := by decide +kernel
set_option maxRecDepth 65536 in
theorem w_named : about1.methodNamed? x = some theMethod := by decide +kernel
set_option maxRecDepth 65536 in
theorem w_hears : about1.hears theMethod below0 = true := by decide +kernel
set_option maxRecDepth 65536 in
theorem w_ripe : about1.ripe theMethod args0 below0 = true := by decide +kernel
theorem w_running : about1.status = .running := rfl
set_option maxRecDepth 65536 in
theorem w_room : about1.hasRoom e0.platform room_1 = true :=
  launch0.hasRoom_least _ room_1 (by decide +kernel) (by decide +kernel) (by decide +kernel) (by decide +kernel) (by decide +kernel) (by decide +kernel)
theorem allAtoms_all (ts : List Jvm.Cond) (a : Array Jvm.Value) (st : Jvm.State) : (allAtoms ts).before a st = ts.all (fun c => c.before a st) := by
  induction ts with
  | nil => rfl
  | cons c t ih =>
    show (Jvm.Cond.and c (allAtoms t)).before a st = _
    rw [Jvm.Cond.before_and, ih, List.all_cons]
def words1 : List Jvm.Cond := Jvm.Cond.code x code maxLocals ret :: tables_1
/-- a 'code' word, met by the world's own term for the bytes: nothing is compared byte by byte -/
theorem code_word {y : MethodName} {bytes : ByteArray} {mx : Nat} {rt : Option FieldType} {a : Array Value} {s : State} {m : MethodId} {meth : Method} {c : Code} (h1 : s.methodNamed? y = some m) (h2 : s.vm.method? m = some meth) (h3 : meth.code = some c) (h4 : c.code = bytes)
    (h5 : (c.maxLocals == mx && c.exceptionTable.isEmpty && decide (c.maxStack ≤ mostOperands) && decide (meth.sig.returnType = rt) && !meth.locks && decide (parseMethodDescriptor y.desc = some meth.sig)) = true) : (Jvm.Cond.code y bytes mx rt).before a s = true := by
  simp only [Bool.and_eq_true, beq_iff_eq, Bool.not_eq_true', decide_eq_true_eq] at h5
  obtain ⟨⟨⟨⟨⟨g1, g2⟩, g3⟩, g4⟩, g5⟩, g6⟩ := h5
  simp [Cond.before, Cond.holds, Cond.value, h1, h2, h3, h4, g1, g2, g3, g4, g5, g6]
def isCode : Jvm.Cond → Bool
  | .code _ _ _ _ => true
  | _ => false
theorem all_split {L : List Jvm.Cond} {P : Jvm.Cond → Bool} (h1 : L.all (fun c => isCode c || P c) = true) (h2 : ∀ c ∈ L.filter isCode, P c = true) : L.all P = true := by
  refine List.all_eq_true.mpr fun c hc => ?_
  have h := List.all_eq_true.mp h1 c hc
  rcases Bool.eq_false_or_eq_true (isCode c) with hi | hi
  · exact h2 c (List.mem_filter.mpr ⟨hc, hi⟩)
  · simpa [hi] using h
set_option maxRecDepth 65536 in
theorem w_c0 : (Jvm.Cond.code x code maxLocals ret).before args0 about1 = true := code_word (m := ⟨1, 1⟩) (meth := k1m1) (c := k1c1) (by decide +kernel) rfl rfl rfl (by decide +kernel)
set_option maxRecDepth 65536 in
theorem w_c1 : (Jvm.Cond.code ({ cls := "boxwood/Budget", name := "<init>", desc := "()V" } : Jvm.MethodName) prog_7_method_1_code (1 : Nat) (Option.none : Option Jvm.ClassFile.FieldType)).before args0 about1 = true := code_word (m := ⟨2, 0⟩) (meth := k2m0) (c := k2c0) (by decide +kernel) rfl rfl rfl (by decide +kernel)
set_option maxRecDepth 65536 in
theorem w_c2 : (Jvm.Cond.code ({ cls := "java/lang/Object", name := "<init>", desc := "()V" } : Jvm.MethodName) object_method_1_code (1 : Nat) (Option.none : Option Jvm.ClassFile.FieldType)).before args0 about1 = true := code_word (m := ⟨0, 0⟩) (meth := k0m0) (c := k0c0) (by decide +kernel) rfl rfl rfl (by decide +kernel)
set_option maxRecDepth 65536 in
theorem w_c3 : (Jvm.Cond.code ({ cls := "boxwood/Budget$Meter", name := "<init>", desc := "(J)V" } : Jvm.MethodName) prog_9_method_1_code (3 : Nat) (Option.none : Option Jvm.ClassFile.FieldType)).before args0 about1 = true := code_word (m := ⟨3, 0⟩) (meth := k3m0) (c := k3c0) (by decide +kernel) rfl rfl rfl (by decide +kernel)
set_option maxRecDepth 65536 in
theorem w_c4 : (Jvm.Cond.code ({ cls := "boxwood/Budget", name := "endInPlace", desc := "()V" } : Jvm.MethodName) prog_7_method_19_code (1 : Nat) (Option.none : Option Jvm.ClassFile.FieldType)).before args0 about1 = true := code_word (m := ⟨2, 3⟩) (meth := k2m3) (c := k2c3) (by decide +kernel) rfl rfl rfl (by decide +kernel)
set_option maxRecDepth 65536 in
theorem w_c5 : (Jvm.Cond.code ({ cls := "boxwood/Budget", name := "inPlaceSpent", desc := "()Z" } : Jvm.MethodName) prog_7_method_17_code (1 : Nat) (Option.some Jvm.ClassFile.FieldType.boolean)).before args0 about1 = true := code_word (m := ⟨2, 1⟩) (meth := k2m1) (c := k2c1) (by decide +kernel) rfl rfl rfl (by decide +kernel)
set_option maxRecDepth 65536 in
theorem w_c6 : (Jvm.Cond.code ({ cls := "boxwood/Budget", name := "startInPlace", desc := "()V" } : Jvm.MethodName) prog_7_method_18_code (1 : Nat) (Option.none : Option Jvm.ClassFile.FieldType)).before args0 about1 = true := code_word (m := ⟨2, 2⟩) (meth := k2m2) (c := k2c2) (by decide +kernel) rfl rfl rfl (by decide +kernel)
def codes1 : List Jvm.Cond := [Jvm.Cond.code x code maxLocals ret, Jvm.Cond.code ({ cls := "boxwood/Budget", name := "<init>", desc := "()V" } : Jvm.MethodName) prog_7_method_1_code (1 : Nat) (Option.none : Option Jvm.ClassFile.FieldType), Jvm.Cond.code ({ cls := "java/lang/Object", name := "<init>", desc := "()V" } : Jvm.MethodName) object_method_1_code (1 : Nat) (Option.none : Option Jvm.ClassFile.FieldType), Jvm.Cond.code ({ cls := "boxwood/Budget$Meter", name := "<init>", desc := "(J)V" } : Jvm.MethodName) prog_9_method_1_code (3 : Nat) (Option.none : Option Jvm.ClassFile.FieldType), Jvm.Cond.code ({ cls := "boxwood/Budget", name := "endInPlace", desc := "()V" } : Jvm.MethodName) prog_7_method_19_code (1 : Nat) (Option.none : Option Jvm.ClassFile.FieldType), Jvm.Cond.code ({ cls := "boxwood/Budget", name := "inPlaceSpent", desc := "()Z" } : Jvm.MethodName) prog_7_method_17_code (1 : Nat) (Option.some Jvm.ClassFile.FieldType.boolean), Jvm.Cond.code ({ cls := "boxwood/Budget", name := "startInPlace", desc := "()V" } : Jvm.MethodName) prog_7_method_18_code (1 : Nat) (Option.none : Option Jvm.ClassFile.FieldType)]
set_option maxRecDepth 65536 in
theorem codes_eq : words1.filter isCode = codes1 := rfl
theorem w_codes : ∀ c ∈ words1.filter isCode, c.before args0 about1 = true := by
  rw [codes_eq]
  intro c hc
  simp only [codes1, List.mem_cons, List.not_mem_nil, or_false] at hc
  rcases hc with rfl | rfl | rfl | rfl | rfl | rfl | rfl
  · exact w_c0
  · exact w_c1
  · exact w_c2
  · exact w_c3
  · exact w_c4
  · exact w_c5
  · exact w_c6
set_option maxRecDepth 65536 in
theorem w_t1 : (words1.take 24).all (fun c => isCode c || c.before args0 about1) = true := by decide +kernel
set_option maxRecDepth 65536 in
theorem w_t2 : (words1.drop 24).all (fun c => isCode c || c.before args0 about1) = true := by decide +kernel
theorem w_tables : (allAtoms (Jvm.Cond.code x code maxLocals ret :: tables_1)).before args0 about1 = true := by
  rw [allAtoms_all]
  show words1.all (fun c => c.before args0 about1) = true
  refine all_split ?_ w_codes
  rw [← List.take_append_drop 24 words1, List.all_append, w_t1, w_t2]
  rfl
set_option maxRecDepth 65536 in
theorem w_case : (Jvm.Cond.and given_1 narrow_1).before args0 about1 = true := by decide +kernel
theorem w_applies : (headSpec (Jvm.Cond.code x code maxLocals ret :: tables_1) room_1).applies x e0.platform about1 = true :=
  (Spec.applies_iff w_frames).mpr ⟨w_running, w_runnable, w_alone, w_named, w_hears, w_ripe, w_room, w_tables⟩
theorem atStart : AtStart classFile x code maxLocals ret World_1 tables_1 room_1 Calls_1 rest_1 Pre_1 launch0 p0 e0 about1 theMethod args0 below0 :=
  ⟨lists_1, trivial, launch0.admits_env _ _ _, launch0.least_env, fairChoices_fair.cas, fairChoices_fair.clock, w_frames, w_args, w_heap, w_applies, trivial, trivial, w_case⟩
end start1
theorem witness_1 : WitnessClaimed_1 := ⟨start1.p0, start1.e0, start1.about1, start1.theMethod, start1.args0, start1.below0, start1.atStart⟩
end Jvm.Pilot.@@N@@
