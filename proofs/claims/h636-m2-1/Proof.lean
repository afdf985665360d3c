import JvmDerived
import JvmDerived.Pilot.@@N@@Statement
import JvmDerived.Pilot.@@N@@Code
set_option linter.unusedVariables false
set_option linter.unusedSimpArgs false
namespace Jvm.Pilot.@@N@@
open Jvm Jvm.ClassFile Sem Op Lib Jvm.Free Jvm.Stand Jvm.LawKit Jvm.RoadKit Bundle Jvm.Pilot.@@N@@.Jvm.D
section OwnLayer
variable {p : Program} {l : Launch} {e : Env} {R : Room} {s : State} {m : MethodId} {args : Array Value} {below : List Frame} {meth : Method} {c : Code} {T T' : State} {locs : List Loc} {cells slots : Nat} {Z : State} {h h' : Heap}
/-- from T at the frame g the body runs to its end, and the end is as Q says -/
def own_Go (p : Program) (e : Env) (below : List Frame) (s : State) (Q : Option Value → Heap → List Loc → Prop) (k n : Nat) (T : State) (g : JFrame) : Prop :=
  ∃ s₂ o, Steps p.tables e below (T.setTop g) s₂ ∧ s₂.status = .running ∧ Ended s₂ below o ∧ ∃ v L, o = .returned v ∧ Q v s₂.heap L ∧ FrameEnd s o s₂ L k n
theorem own_st {Q : Option Value → Heap → List Loc → Prop} {k n : Nat} {g g' : JFrame} (st : ∀ t, Steps p.tables e below (T'.setTop g') t → Steps p.tables e below (T.setTop g) t) (G : own_Go p e below s Q k n T' g') : own_Go p e below s Q k n T g := by
  obtain ⟨s₂, o, h1, h2⟩ := G
  exact ⟨s₂, o, st _ h1, h2⟩
theorem own_tr {Q : Option Value → Heap → List Loc → Prop} {k n : Nat} {g g' : JFrame} (st : Steps p.tables e below (T.setTop g) (T'.setTop g')) (G : own_Go p e below s Q k n T' g') : own_Go p e below s Q k n T g :=
  own_st (fun _ q => st.trans q) G
theorem own_nm {α : Type} {Q : Option Value → Heap → List Loc → Prop} {k n : Nat} {f : α → JFrame} (v : α) (G : ∀ z, z = v → own_Go p e below s Q k n T (f z)) : own_Go p e below s Q k n T (f v) := G v rfl
theorem own_ret {Q : Option Value → Heap → List Loc → Prop} {k n : Nat} (X : Stand p l e R s m args below meth c T locs cells slots) (hx : p.tables.exec = Jvm.exec) {pc : Nat} {Ls : Array Slot} {w : Value} {t : FieldType} {i : Instr} {rest : List Value} (hret : meth.sig.returnType = some t) (hlk : meth.locks = false) (hn : narrow t w = w)
    (hi : (i = .ireturn ∧ (t = .int ∨ t = .boolean ∨ t = .byte ∨ t = .char ∨ t = .short) ∧ ∃ z, w = .int z) ∨ (i = .lreturn ∧ t = .long ∧ ∃ z, w = .long z) ∨ (i = .dreturn ∧ t = .double ∧ ∃ z, w = .double z) ∨ (i = .freturn ∧ t = .float ∧ ∃ z, w = .float z) ∨ (i = .areturn ∧ t.isReference = true ∧ w.isRef = true))
    (hd : decode c.code pc = .ok (i, 1)) (eT : T.heap = h) (hk : cells ≤ k) (hl : slots ≤ n) (hq : Q (some w) h locs) : own_Go p e below s Q k n T (mkF m pc Ls (w :: rest)) := by
  obtain ⟨fs, hr, hrun, hended, hW, hsame⟩ := X.leave (v := some w) (fun q => by rw [hret] at q; cases q) hlk
  exact ⟨_, _, retOut X hx hret hn hi hd hr, hrun, hended, _, _, rfl, by show Q (some w) T.heap locs; rw [eT]; exact hq, ⟨_, rfl⟩, hW, hsame.mono hk hl⟩
theorem own_ret0 {Q : Option Value → Heap → List Loc → Prop} {k n : Nat} (X : Stand p l e R s m args below meth c T locs cells slots) (hx : p.tables.exec = Jvm.exec) {pc : Nat} {Ls : Array Slot} (hret : meth.sig.returnType = none) (hlk : meth.locks = false)
    (hd : decode c.code pc = .ok (.return_, 1)) (eT : T.heap = h) (hk : cells ≤ k) (hl : slots ≤ n) (hq : Q none h locs) : own_Go p e below s Q k n T (mkF m pc Ls []) := by
  obtain ⟨fs, hr, hrun, hended, hW, hsame⟩ := X.leave (v := none) (fun _ => rfl) hlk
  exact ⟨_, _, X.returnOut hx hret hd hr, hrun, hended, _, _, rfl, by show Q none T.heap locs; rw [eT]; exact hq, ⟨_, rfl⟩, hW, hsame.mono hk hl⟩
theorem own_cat {v : Value} (q : v.isRef = true) : v.category = 1 := by cases v <;> first | rfl | cases q
theorem own_Ins_keep {a : Addr} {C : String} {b : Bool} {ws : List Addr} (F : Ins Z h a C b) (K : Keep h h' ws) : Ins Z h' a C b := by
  obtain ⟨cell, cT, h1, h2, h3⟩ := F
  obtain ⟨c', q1, q2, q3, -⟩ := K.2.2 _ _ h1
  exact ⟨c', cT, q1, h2, by rw [q2, q3]; exact h3⟩
end OwnLayer
theorem own_ltlt {x y : Int64} (h : x < y) : ifCond.holds .lt (lcmpW x y) = true ∧ ifCond.holds .ge (lcmpW x y) = false ∧ ifCond.holds .gt (lcmpW y x) = true ∧ ifCond.holds .le (lcmpW y x) = false := by
  have a : lcmpW x y < 0 := (lw_lt x y).mpr h
  have b : 0 < lcmpW y x := (lw_gt y x).mpr h
  exact ⟨(if0 _ _).trans (tlt a).1, (if0 _ _).trans (tlt a).2.1, (if0 _ _).trans (tlt b).2.2.1, (if0 _ _).trans (tlt b).2.2.2⟩
theorem own_lflt {x y : Int64} (h : ¬ x < y) : ifCond.holds .lt (lcmpW x y) = false ∧ ifCond.holds .ge (lcmpW x y) = true ∧ ifCond.holds .gt (lcmpW y x) = false ∧ ifCond.holds .le (lcmpW y x) = true := by
  have a : ¬ lcmpW x y < 0 := fun q => h ((lw_lt x y).mp q)
  have b : ¬ 0 < lcmpW y x := fun q => h ((lw_gt y x).mp q)
  exact ⟨(if0 _ _).trans (flt a).1, (if0 _ _).trans (flt a).2.1, (if0 _ _).trans (flt b).2.2.1, (if0 _ _).trans (flt b).2.2.2⟩
theorem own_lteq {x y : Int64} (h : x = y) : ifCond.holds .eq (lcmpW x y) = true ∧ ifCond.holds .ne (lcmpW x y) = false := by
  have a : lcmpW x y = 0 := (lw_eq x y).mpr h
  exact ⟨(if0 _ _).trans (teq a).1, (if0 _ _).trans (teq a).2⟩
theorem own_lfeq {x y : Int64} (h : ¬ x = y) : ifCond.holds .eq (lcmpW x y) = false ∧ ifCond.holds .ne (lcmpW x y) = true := by
  have a : ¬ lcmpW x y = 0 := fun q => h ((lw_eq x y).mp q)
  exact ⟨(if0 _ _).trans (feq a).1, (if0 _ _).trans (feq a).2⟩
theorem own_ifc {α : Type} {P Q : Prop} [Decidable P] [Decidable Q] {x y : α} (h : P ↔ Q) : (if P then x else y) = if Q then x else y := by
  by_cases q : P
  · rw [if_pos q, if_pos (h.mp q)]
  · rw [if_neg q, if_neg (fun r => q (h.mpr r))]
section OwnRefs
variable {p : Program} {l : Launch} {e : Env} {R : Room} {s : State} {m : MethodId} {args : Array Value} {below : List Frame} {meth : Method} {c : Code} {T : State} {locs : List Loc} {cells slots : Nat} {Z : State} {a0 : Array Value} {h : Heap} {a : Addr}
/-- getfield by an entry that is resolved ('fieldRef') -/
theorem own_getR (X : Stand p l e R s m args below meth c T locs cells slots) (hx : p.tables.exec = Jvm.exec) (hZ : Z.Warmed39 s.vm) {own O n d : String} {index : Nat} (hown : s.vm.findClass own = some m.cls) (w : (Jvm.Cond.fieldRef own index O n d).before a0 Z = true)
    (eT : T.heap = h) {v : Value} (F : Fld Z h a O n d v) {g : JFrame} (hg : g.method = m) {rest : List Value} (hs : g.stack = .ref a :: rest) (hd : decode c.code g.pc = .ok (.getfield index, 3)) : ∀ target, Steps p.tables e below (T.setTop { g with pc := g.pc + 3, stack := v :: rest }) target → Steps p.tables e below (T.setTop g) target := by
  have hT : Z.Warmed39 T.vm := wtrans hZ X.warmed
  have w1 := Cond.fieldRef_warmed39 hT w
  have hcur : (Z.setVm T.vm).vm.findClass own = some m.cls := by show T.vm.findClass own = _; rw [X.warmed.alike.findClass]; exact hown
  obtain ⟨c', k', i', f', q1, hready⟩ := Cond.fieldRef_spec hcur w1
  obtain ⟨cell, cf, k, i, f, h1, h2, h3, h4, -, -, h7⟩ := F
  obtain ⟨kz, hi, -⟩ := State.fieldFound?_setVm (s := Z) hT.alike h2
  cases q1.symm.trans hi
  have hcell : T.heap[a]? = some cell := by rw [eT]; exact h1
  have hready' : T.vm.fieldReady m.cls index c' f' := hready
  intro target hrest
  subst hg
  jvm_step X.here [hx, hd, getfield.wp_ready (e := e) (s := T) (f := g) X.here.top hready' h3 hs hcell h4 h7]
  exact hrest
/-- putfield by an entry that is resolved -/
theorem own_putR (X : Stand p l e R s m args below meth c T locs cells slots) (hx : p.tables.exec = Jvm.exec) (hZ : Z.Warmed39 s.vm) {own O n d C : String} {index kk : Nat} {ty : FieldType} (hown : s.vm.findClass own = some m.cls) (w : (Jvm.Cond.fieldRef own index O n d).before a0 Z = true)
    (eT : T.heap = h) {v old : Value} (F : Fld Z h a O n d old) (E : Exa Z h a C) (L : (Jvm.Cond.lays C O n d).before a0 Z = true) (wi : (Jvm.Cond.instantiable C kk).before a0 Z = true)
    (hty : parseFieldDescriptor d = some ty) (hn : narrow ty v = v) (hf : fits ty v = true) {g : JFrame} (hg : g.method = m) {rest : List Value} (hs : g.stack = v :: .ref a :: rest) (hd : decode c.code g.pc = .ok (.putfield index, 3)) :
    ∃ T' h', Stand p l e R s m args below meth c T' (locs ++ [⟨a, Jvm.RoadKit.slotOf Z O n d⟩]) cells slots ∧ T'.heap = h' ∧ Wr h h' a (Jvm.RoadKit.slotOf Z O n d) v ∧ ∀ target, Steps p.tables e below (T'.setTop { g with pc := g.pc + 3, stack := rest }) target → Steps p.tables e below (T.setTop g) target := by
  have hT : Z.Warmed39 T.vm := wtrans hZ X.warmed
  have w1 := Cond.fieldRef_warmed39 hT w
  have hcur : (Z.setVm T.vm).vm.findClass own = some m.cls := by show T.vm.findClass own = _; rw [X.warmed.alike.findClass]; exact hown
  obtain ⟨c', k', i', f', q1, hready⟩ := Cond.fieldRef_spec hcur w1
  obtain ⟨cell, cf, k, i, f, h1, h2, h3, h4, h5, -, h7⟩ := F
  obtain ⟨kz, hi, -⟩ := State.fieldFound?_setVm (s := Z) hT.alike h2
  cases q1.symm.trans hi
  obtain ⟨cell', kc, e1, e2, e3, -⟩ := E
  cases h1.symm.trans e1
  obtain ⟨c1, k1, cf1, kf1, i1, f1, a1, a2, a3, -, -, a6, -⟩ := Laid.spec (Or.inl L)
  cases h2.symm.trans a3
  cases e2.symm.trans a1
  obtain ⟨c2, k2, j1, j2, j3, -⟩ := Cond.instantiable_spec wi
  cases e2.symm.trans j1
  cases a2.symm.trans j2
  have ht := (State.fieldFound?_type h2 hty).2
  have hfit : Z.fitsSlot cell.cls cell.vm f'.slot v = true := by
    have q : Z.slotType? cell.cls cell.vm f'.slot = some ty := by
      simp only [State.slotType?, a2, Option.bind_eq_bind, Option.bind_some, j3]
      cases hq : cell.vm <;> first | (rw [hq] at h5; exact Bool.noConfusion h5) | (rw [a6, ht])
    simp [State.fitsSlot, q, hf]
  have hfitT : T.fitsSlot cell.cls cell.vm f'.slot v = true := by rw [← State.fitsSlot_setVm hT.alike] at hfit; exact hfit
  obtain ⟨_, _, _, _, _, _, -, -, b3, -, b5, -⟩ := Cond.lays_spec L
  cases h2.symm.trans b3
  have hlt := (Array.getElem?_eq_some_iff.mp h7).1
  have es : Jvm.RoadKit.slotOf Z O n d = f'.slot := by simp [Jvm.RoadKit.slotOf, h2]
  rw [es]
  have hready' : T.vm.fieldReady m.cls index c' f' := hready
  obtain ⟨X', st⟩ := X.putfieldReady hx hready' h3 (Or.inl b5) (by rw [eT]; exact h1) h4 hlt (by rw [ht]; exact hn) hfitT hg hs hd
  exact ⟨_, _, X', rfl, ⟨cell, h1, h5, hlt, by rw [← eT]; rfl⟩, st⟩
/-- what a resolved method entry ('methodRef') gives where the walk stands -/
theorem own_ready (X : Stand p l e R s m args below meth c T locs cells slots) (hZ : Z.Warmed39 s.vm) {own : String} {index : Nat} {y : MethodName} (hown : s.vm.findClass own = some m.cls) (hlink : (Jvm.Cond.methodRef own index y).before a0 Z = true) {mk : MethodId} (hnamed : s.methodNamed? y = some mk)
    (hy : y.cls ≠ "java/lang/invoke/MethodHandle" ∧ y.cls ≠ "java/lang/invoke/VarHandle") : T.methodNamed? y = some mk ∧ T.vm.methodReady m.cls index mk ∧ namesResolved T.vm m.cls index mk.cls := by
  have hnT : T.methodNamed? y = some mk := X.named hnamed
  have hT : Z.Warmed39 T.vm := wtrans hZ X.warmed
  have hnZ : Z.methodNamed? y = some mk := by
    have q : (Z.setVm s.vm).methodNamed? y = some mk := hnamed
    rw [State.methodNamed?_setVm hZ.alike] at q; exact q
  have w1 := Cond.methodRef_warmed39 hT hnZ hy hlink
  have hcur : (Z.setVm T.vm).vm.findClass own = some m.cls := by show T.vm.findClass own = _; rw [X.warmed.alike.findClass]; exact hown
  obtain ⟨m', c', hm', hready, hfind, hres⟩ := Cond.methodRef_named e hcur w1
  have hnU : (Z.setVm T.vm).methodNamed? y = some mk := hnT
  have hfd := State.methodFound?_of_named hnU hy
  cases hm'.symm.trans hfd
  cases hfind.symm.trans (findClass_of_methodNamed hnU)
  exact ⟨hnT, hready, hres⟩
/-- a constructor by its contract, over a resolved entry -/
theorem own_specialRef (X : Stand p l e R s m args below meth c T locs cells slots) (hexec : p.tables.exec = Jvm.exec) (hZ : Z.Warmed39 s.vm) {own : String} {index : Nat} {y : MethodName} (hy1 : y.name = "<init>")
    (hown : s.vm.findClass own = some m.cls) (hlink : (Jvm.Cond.methodRef own index y).before a0 Z = true) (hinst : (Jvm.Cond.instanceMethod y).before args s = true)
    {bytes : ByteArray} {maxL : Nat} (hcode : (Jvm.Cond.code y bytes maxL none).before args s = true)
    (hy : y.cls ≠ "java/lang/invoke/MethodHandle" ∧ y.cls ≠ "java/lang/invoke/VarHandle")
    {W : Nat} {Pre : Pt → Array Value → Prop} {Post : Pt → Array Value → Option Value → Pt → Prop} (hK : Back l R p e below s args y 3 W Pre Post)
    {g : JFrame} (hg : g.method = m) (hsize : g.locals.size = c.maxLocals) {argsL rest : List Value}
    (hlen : ∀ sig, parseMethodDescriptor y.desc = some sig → argsL.length = sig.parameters.length) (hstack : g.stack = argsL.reverse ++ .ref a :: rest) (hW : 2 * g.monitorRoom + (rest.map fun v => v.category).sum ≤ W)
    (hdg : decode c.code g.pc = .ok (.invokespecial index, 3)) (hpre : Pre ⟨T, locs, cells, slots⟩ (.ref a :: argsL).toArray) :
    ∃ (v : Option Value) (B : Pt), Stand p l e R s m args below meth c B.U B.locs B.cells B.slots ∧ Post ⟨T, locs, cells, slots⟩ (.ref a :: argsL).toArray v B ∧
      Steps p.tables e below (T.setTop g) (B.U.setTop { g with pc := g.pc + 3, stack := v.toList ++ rest }) := by
  obtain ⟨mk, methM, hnamed, hmethM, hstM, habM⟩ := Cond.instanceMethod_spec hinst
  obtain ⟨methM', cM, hmethM', -, -, -, -, -, -, hsigM⟩ := Cond.code_spec hnamed hcode
  cases hmethM.symm.trans hmethM'
  obtain ⟨hnT, hready, hres⟩ := own_ready X hZ hown hlink hnamed hy
  obtain ⟨kO, hkO, hnameO⟩ := className_of_methodNamed hnT
  obtain ⟨hnameM, hdescM⟩ := name_of_methodNamed hnamed hmethM
  have hmT : T.vm.method? mk = some methM := by rw [X.warmed.alike.method?]; exact hmethM
  have hfound : lookupSpecial T.vm mk.cls "<init>" methM.desc = .method mk := by rw [hdescM, ← hy1]; exact lookupSpecial_of_named hnT hmT hstM
  obtain ⟨v, B, X', hpost, hsteps⟩ := hK m meth c ⟨T, locs, cells, slots⟩ { g with stack := rest } (.invokespecial index) mk (.ref a :: argsL).toArray X hg hsize hdg hW hnT hpre
  refine ⟨v, B, X', hpost, ?_⟩
  subst hg
  have st : ∀ target, (∀ acts, Steps p.tables e below (doInvoke e (T.setTop { g with stack := rest }) acts mk (.ref a :: argsL).toArray).1 target) → Steps p.tables e below (T.setTop g) target := fun target hrest => by
    jvm_step X.here [hexec, hdg, invokespecial.wp_init (e := e) (s := T) (k := kO) (meth := methM) (m := mk) (a := a) (args := argsL) (rest := rest) (f := g)
      X.here.top hres hready hkO hmT (by rw [hnameM]; exact hy1) hstM habM hfound (hlen _ hsigM) hstack]
    exact hrest
  exact (st _ fun acts => by rw [doInvoke_state]; exact Steps.refl _).trans hsteps
/-- a private method by its contract, over a resolved entry -/
theorem own_virtRef (X : Stand p l e R s m args below meth c T locs cells slots) (hexec : p.tables.exec = Jvm.exec) (hZ : Z.Warmed39 s.vm) {own : String} {index kk : Nat} {y : MethodName}
    (hown : s.vm.findClass own = some m.cls) (hlink : (Jvm.Cond.methodRef own index y).before a0 Z = true) (hinst : (Jvm.Cond.instanceMethod y).before args s = true) (hpriv : s.PrivateAt y) (wi : (Jvm.Cond.instantiable y.cls kk).before args s = true)
    {bytes : ByteArray} {maxL : Nat} {ret : Option FieldType} (hcode : (Jvm.Cond.code y bytes maxL ret).before args s = true)
    (hy : y.cls ≠ "java/lang/invoke/MethodHandle" ∧ y.cls ≠ "java/lang/invoke/VarHandle")
    {W : Nat} {Pre : Pt → Array Value → Prop} {Post : Pt → Array Value → Option Value → Pt → Prop} (hK : Back l R p e below s args y 3 W Pre Post)
    {g : JFrame} (hg : g.method = m) (hsize : g.locals.size = c.maxLocals) {cell : Cell} (hcell : T.heap[a]? = some cell) (hobj : ∀ q, cell.vm ≠ .statics q) {argsL rest : List Value}
    (hlen : ∀ sig, parseMethodDescriptor y.desc = some sig → argsL.length = sig.parameters.length) (hstack : g.stack = argsL.reverse ++ .ref a :: rest) (hW : 2 * g.monitorRoom + (rest.map fun v => v.category).sum ≤ W)
    (hdg : decode c.code g.pc = .ok (.invokevirtual index, 3)) (hpre : Pre ⟨T, locs, cells, slots⟩ (.ref a :: argsL).toArray) :
    ∃ (v : Option Value) (B : Pt), Stand p l e R s m args below meth c B.U B.locs B.cells B.slots ∧ Post ⟨T, locs, cells, slots⟩ (.ref a :: argsL).toArray v B ∧
      Steps p.tables e below (T.setTop g) (B.U.setTop { g with pc := g.pc + 3, stack := v.toList ++ rest }) := by
  obtain ⟨mk, methM, hnamed, hmethM, hstM, habM⟩ := Cond.instanceMethod_spec hinst
  obtain ⟨methM', cM, hmethM', -, -, -, -, -, -, hsigM⟩ := Cond.code_spec hnamed hcode
  cases hmethM.symm.trans hmethM'
  obtain ⟨hnT, hready, hres⟩ := own_ready X hZ hown hlink hnamed hy
  obtain ⟨cI, kI, i1, i2, i3, i4, -, -⟩ := Cond.instantiable_spec wi
  cases i1.symm.trans (findClass_of_methodNamed hnamed)
  have hni : kI.isInterface = false := (Bool.or_eq_false_iff.mp i4).1
  obtain ⟨kT, hkT, hkT2⟩ := X.warmed.alike.2.2 _ _ i2
  obtain ⟨kO, hkO, hnameO⟩ := className_of_methodNamed hnT
  cases hkT.symm.trans hkO
  have hniT : kT.isInterface = false := by rw [hkT2]; exact hni
  have hmT : T.vm.method? mk = some methM := by rw [X.warmed.alike.method?]; exact hmethM
  have hpoly : signaturePolymorphic kT methM = false := by simp [signaturePolymorphic, hnameO, hy.1, hy.2]
  have hsel : selectMethod e.platform T.vm cell.cls mk = .method mk := selectMethod_private hmT (hpriv mk methM hnamed hmethM)
  obtain ⟨v, B, X', hpost, hsteps⟩ := hK m meth c ⟨T, locs, cells, slots⟩ { g with stack := rest } (.invokevirtual index) mk (.ref a :: argsL).toArray X hg hsize hdg hW hnT hpre
  refine ⟨v, B, X', hpost, ?_⟩
  subst hg
  have st : ∀ target, (∀ acts, Steps p.tables e below (doInvoke e (T.setTop { g with stack := rest }) acts mk (.ref a :: argsL).toArray).1 target) → Steps p.tables e below (T.setTop g) target := fun target hrest => by
    jvm_step X.here [hexec, hdg, invokevirtual.wp_named (e := e) (s := T) (f := g) (r := mk) (m := mk) (c' := mk.cls) (k := kT) (k' := kT) (mk := kT) (rmeth := methM) (meth := methM) (a := a) (args := argsL) (rest := rest) (cell := cell)
      X.here.top hres hkT hniT hready hkT hmT hpoly hstM (hlen _ hsigM) hstack hcell hobj hsel hmT habM hkT hniT]
    exact hrest
  exact (st _ fun acts => by rw [doInvoke_state]; exact Steps.refl _).trans hsteps
end OwnRefs
theorem own_selP {Z s : State} {a0 args : Array Value} {y : MethodName} {kk : Nat} (hZ : Z.Warmed39 s.vm) (wi : (Jvm.Cond.instantiable y.cls kk).before a0 Z = true) (hp : (Jvm.Cond.privateMethod y).before a0 Z = true) (hi : (Jvm.Cond.instanceMethod y).before a0 Z = true)
    (hy : y.cls ≠ "java/lang/invoke/MethodHandle" ∧ y.cls ≠ "java/lang/invoke/VarHandle") : (Jvm.Cond.selects y.cls y y).before args s = true := by
  have wi' : (Jvm.Cond.instantiable y.cls kk).before args s = true := mvT hZ wi
  obtain ⟨cI, kI, i1, i2, i3, i4, -, -⟩ := Cond.instantiable_spec wi'
  exact selects_self_of_private i1 i2 (Bool.or_eq_false_iff.mp i4).1 (Cond.privateMethod_at (mvP hZ hp (args := args))) (mvT hZ hi) hy
section OwnArr
variable {p : Program} {l : Launch} {e : Env} {R : Room} {s : State} {m : MethodId} {args : Array Value} {below : List Frame} {meth : Method} {c : Code} {T : State} {locs : List Loc} {cells slots : Nat} {Z : State} {h h' : Heap} {a b : Addr} {n : Nat} {ty : FieldType} {ws : List Addr} {sl : Nat} {v : Value}
/-- an array of kind ty, of n places, the i-th holds f i -/
def own_AV (Z : State) (h : Heap) (a : Addr) (ty : FieldType) (n : Nat) (f : Nat → Value) : Prop := ∃ c : Cell, Arr Z h a c ty ∧ c.slots.size = n ∧ n < 2147483648 ∧ ∀ i, i < n → c.slots[i]? = some (f i)
theorem own_AV.lt {f : Nat → Value} (F : own_AV Z h a ty n f) : a < h.size := by obtain ⟨c, A, -⟩ := F; exact A.lt
theorem own_AV.ext {f : Nat → Value} (F : own_AV Z h a ty n f) (E : Ext h h') : own_AV Z h' a ty n f := by obtain ⟨c, A, r⟩ := F; exact ⟨c, A.ext E, r⟩
theorem own_AV.other {f : Nat → Value} (F : own_AV Z h a ty n f) (W : Wr h h' b sl v) (q : a ≠ b) : own_AV Z h' a ty n f := by obtain ⟨c, A, r⟩ := F; exact ⟨c, A.other W q, r⟩
theorem own_AV.keep {f : Nat → Value} (F : own_AV Z h a ty n f) (K : Keep h h' ws) (q : a ∉ ws) : own_AV Z h' a ty n f := by obtain ⟨c, A, r⟩ := F; exact ⟨c, ⟨K.2.1 a c A.1 q, A.2⟩, r⟩
theorem own_AV.cong {f g : Nat → Value} (F : own_AV Z h a ty n f) (q : ∀ i, i < n → f i = g i) : own_AV Z h a ty n g := by obtain ⟨c, A, r1, r2, r3⟩ := F; exact ⟨c, A, r1, r2, fun i hi => (r3 i hi).trans (congrArg some (q i hi))⟩
theorem own_AV.new {k : ClassId} {z : Int32} (A : Arr Z h a (newA k ty z) ty) (hz : z.toInt = (n : Int)) : own_AV Z h a ty n (fun _ => defaultValue ty) := by
  have q : ¬ z < 0 := fun r => by have := Int32.lt_iff_toInt_lt.mp r; have : (0 : Int32).toInt = 0 := rfl; omega
  have e : z.toNatClampNeg = n := by have := nat_of q; omega
  have b := rng32 z
  refine ⟨_, A, (sz_new _ _ _).trans e, by omega, fun i hi => ?_⟩
  show (Array.replicate z.toNatClampNeg (defaultValue ty))[i]? = _
  rw [Array.getElem?_replicate, if_pos (by omega)]
theorem own_clamp {j : Int32} {jn : Nat} (hj : j.toInt = (jn : Int)) : ¬ j < 0 ∧ j.toNatClampNeg = jn := by
  have q : ¬ j < 0 := fun r => by have := Int32.lt_iff_toInt_lt.mp r; have : (0 : Int32).toInt = 0 := rfl; omega
  exact ⟨q, by have := nat_of q; omega⟩
theorem own_set {f : Nat → Value} {c : Cell} {jn : Nat} {w : Value} (A : Arr Z h a c ty) (hs : c.slots.size = n) (hn : n < 2147483648) (H : ∀ i, i < n → c.slots[i]? = some (f i)) (hlt : jn < n) (W : Wr h h' a jn w) : own_AV Z h' a ty n (fun i => if i = jn then w else f i) := by
  refine ⟨_, A.same W, (sz_set _ _ _).trans hs, hn, fun i hi => ?_⟩
  show (c.slots.setIfInBounds jn w)[i]? = some (if i = jn then w else f i)
  by_cases q : i = jn
  · subst q; rw [if_pos rfl]; simp [hs, hi]
  · rw [if_neg q, Array.getElem?_setIfInBounds_ne (Ne.symm q)]; exact H i hi
theorem own_inb {c : Cell} {j : Int32} {jn : Nat} (hs : c.slots.size = n) (hj : j.toInt = (jn : Int)) (hlt : jn < n) : ¬ (j < 0 ∨ c.slots.size ≤ j.toNatClampNeg) := by
  obtain ⟨q, e⟩ := own_clamp hj
  rw [hs, e]; exact fun r => r.elim q (fun z => by omega)
theorem own_stJ {f : Nat → Value} (X : Stand p l e R s m args below meth c T locs cells slots) (hx : p.tables.exec = Jvm.exec) (hZ : Z.Warmed39 s.vm) (eT : T.heap = h) (A : own_AV Z h a .long n f) {j : Int32} {x : Int64} (jn : Nat) (hj : j.toInt = (jn : Int)) (hlt : jn < n) {g : JFrame} (hg : g.method = m) {rest : List Value} (hs : g.stack = .long x :: .int j :: .ref a :: rest) (hd : decode c.code g.pc = .ok (.lastore, 1)) :
    ∃ T' h', Stand p l e R s m args below meth c T' (locs ++ [⟨a, jn⟩]) cells slots ∧ T'.heap = h' ∧ Wr h h' a jn (.long x) ∧ own_AV Z h' a .long n (fun i => if i = jn then .long x else f i) ∧ ∀ t, Steps p.tables e below (T'.setTop { g with pc := g.pc + 1, stack := rest }) t → Steps p.tables e below (T.setTop g) t := by
  obtain ⟨cl, A1, A2, A3, A4⟩ := A
  obtain ⟨T', h', X', e', W, st⟩ := stJ X hx hZ eT A1 (own_inb A2 hj hlt) hg hs hd
  rw [(own_clamp hj).2] at X' W
  exact ⟨T', h', X', e', W, own_set A1 A2 A3 A4 hlt W, st⟩
theorem own_stI {f : Nat → Value} (X : Stand p l e R s m args below meth c T locs cells slots) (hx : p.tables.exec = Jvm.exec) (hZ : Z.Warmed39 s.vm) (eT : T.heap = h) (A : own_AV Z h a .int n f) {j : Int32} {x : Int32} (jn : Nat) (hj : j.toInt = (jn : Int)) (hlt : jn < n) {g : JFrame} (hg : g.method = m) {rest : List Value} (hs : g.stack = .int x :: .int j :: .ref a :: rest) (hd : decode c.code g.pc = .ok (.iastore, 1)) :
    ∃ T' h', Stand p l e R s m args below meth c T' (locs ++ [⟨a, jn⟩]) cells slots ∧ T'.heap = h' ∧ Wr h h' a jn (.int x) ∧ own_AV Z h' a .int n (fun i => if i = jn then .int x else f i) ∧ ∀ t, Steps p.tables e below (T'.setTop { g with pc := g.pc + 1, stack := rest }) t → Steps p.tables e below (T.setTop g) t := by
  obtain ⟨cl, A1, A2, A3, A4⟩ := A
  obtain ⟨T', h', X', e', W, st⟩ := stI X hx hZ eT A1 (own_inb A2 hj hlt) hg hs hd
  rw [(own_clamp hj).2] at X' W
  exact ⟨T', h', X', e', W, own_set A1 A2 A3 A4 hlt W, st⟩
theorem own_stB {f : Nat → Value} (X : Stand p l e R s m args below meth c T locs cells slots) (hx : p.tables.exec = Jvm.exec) (hZ : Z.Warmed39 s.vm) (eT : T.heap = h) (A : own_AV Z h a .byte n f) {j : Int32} {x : Int32} (jn : Nat) (hj : j.toInt = (jn : Int)) (hlt : jn < n) {g : JFrame} (hg : g.method = m) {rest : List Value} (hs : g.stack = .int x :: .int j :: .ref a :: rest) (hd : decode c.code g.pc = .ok (.bastore, 1)) :
    ∃ T' h', Stand p l e R s m args below meth c T' (locs ++ [⟨a, jn⟩]) cells slots ∧ T'.heap = h' ∧ Wr h h' a jn (.int (nar .byte x)) ∧ own_AV Z h' a .byte n (fun i => if i = jn then .int (nar .byte x) else f i) ∧ ∀ t, Steps p.tables e below (T'.setTop { g with pc := g.pc + 1, stack := rest }) t → Steps p.tables e below (T.setTop g) t := by
  obtain ⟨cl, A1, A2, A3, A4⟩ := A
  obtain ⟨T', h', X', e', W, st⟩ := stB X hx hZ eT A1 (own_inb A2 hj hlt) hg hs hd
  rw [(own_clamp hj).2] at X' W
  exact ⟨T', h', X', e', W, own_set A1 A2 A3 A4 hlt W, st⟩
theorem own_stZ {f : Nat → Value} (X : Stand p l e R s m args below meth c T locs cells slots) (hx : p.tables.exec = Jvm.exec) (hZ : Z.Warmed39 s.vm) (eT : T.heap = h) (A : own_AV Z h a .boolean n f) {j : Int32} {x : Int32} (jn : Nat) (hj : j.toInt = (jn : Int)) (hlt : jn < n) {g : JFrame} (hg : g.method = m) {rest : List Value} (hs : g.stack = .int x :: .int j :: .ref a :: rest) (hd : decode c.code g.pc = .ok (.bastore, 1)) :
    ∃ T' h', Stand p l e R s m args below meth c T' (locs ++ [⟨a, jn⟩]) cells slots ∧ T'.heap = h' ∧ Wr h h' a jn (.int (nar .boolean x)) ∧ own_AV Z h' a .boolean n (fun i => if i = jn then .int (nar .boolean x) else f i) ∧ ∀ t, Steps p.tables e below (T'.setTop { g with pc := g.pc + 1, stack := rest }) t → Steps p.tables e below (T.setTop g) t := by
  obtain ⟨cl, A1, A2, A3, A4⟩ := A
  obtain ⟨T', h', X', e', W, st⟩ := stZ X hx hZ eT A1 (own_inb A2 hj hlt) hg hs hd
  rw [(own_clamp hj).2] at X' W
  exact ⟨T', h', X', e', W, own_set A1 A2 A3 A4 hlt W, st⟩
theorem own_ldJ {f : Nat → Value} {w : Value} (X : Stand p l e R s m args below meth c T locs cells slots) (hx : p.tables.exec = Jvm.exec) (hZ : Z.Warmed39 s.vm) (eT : T.heap = h) (A : own_AV Z h a .long n f) {j : Int32} (jn : Nat) (hj : j.toInt = (jn : Int)) (hlt : jn < n) (hw : f jn = w) {g : JFrame} (hg : g.method = m) {rest : List Value} (hs : g.stack = .int j :: .ref a :: rest) (hd : decode c.code g.pc = .ok (.laload, 1)) :
    ∀ t, Steps p.tables e below (T.setTop { g with pc := g.pc + 1, stack := w :: rest }) t → Steps p.tables e below (T.setTop g) t := by
  obtain ⟨cl, A1, A2, A3, A4⟩ := A
  subst hw
  exact X.laload hx (by rw [eT]; exact A1.1) (State.isArrayOf_alike hZ.alike A1.2.1) A1.2.2 (own_inb A2 hj hlt) (by rw [(own_clamp hj).2]; exact A4 _ hlt) hg hs hd
theorem own_ldI {f : Nat → Value} {w : Value} (X : Stand p l e R s m args below meth c T locs cells slots) (hx : p.tables.exec = Jvm.exec) (hZ : Z.Warmed39 s.vm) (eT : T.heap = h) (A : own_AV Z h a .int n f) {j : Int32} (jn : Nat) (hj : j.toInt = (jn : Int)) (hlt : jn < n) (hw : f jn = w) {g : JFrame} (hg : g.method = m) {rest : List Value} (hs : g.stack = .int j :: .ref a :: rest) (hd : decode c.code g.pc = .ok (.iaload, 1)) :
    ∀ t, Steps p.tables e below (T.setTop { g with pc := g.pc + 1, stack := w :: rest }) t → Steps p.tables e below (T.setTop g) t := by
  obtain ⟨cl, A1, A2, A3, A4⟩ := A
  subst hw
  exact X.iaload hx (by rw [eT]; exact A1.1) (State.isArrayOf_alike hZ.alike A1.2.1) A1.2.2 (own_inb A2 hj hlt) (by rw [(own_clamp hj).2]; exact A4 _ hlt) hg hs hd
theorem own_ldB {f : Nat → Value} {w : Value} (X : Stand p l e R s m args below meth c T locs cells slots) (hx : p.tables.exec = Jvm.exec) (hZ : Z.Warmed39 s.vm) (eT : T.heap = h) (A : own_AV Z h a .byte n f) {j : Int32} (jn : Nat) (hj : j.toInt = (jn : Int)) (hlt : jn < n) (hw : f jn = w) {g : JFrame} (hg : g.method = m) {rest : List Value} (hs : g.stack = .int j :: .ref a :: rest) (hd : decode c.code g.pc = .ok (.baload, 1)) :
    ∀ t, Steps p.tables e below (T.setTop { g with pc := g.pc + 1, stack := w :: rest }) t → Steps p.tables e below (T.setTop g) t := by
  obtain ⟨cl, A1, A2, A3, A4⟩ := A
  subst hw
  exact X.baloadBytes hx (by rw [eT]; exact A1.1) (State.isArrayOf_alike hZ.alike A1.2.1) A1.2.2 (own_inb A2 hj hlt) (by rw [(own_clamp hj).2]; exact A4 _ hlt) hg hs hd
theorem own_ldZ {f : Nat → Value} {w : Value} (X : Stand p l e R s m args below meth c T locs cells slots) (hx : p.tables.exec = Jvm.exec) (hZ : Z.Warmed39 s.vm) (eT : T.heap = h) (A : own_AV Z h a .boolean n f) {j : Int32} (jn : Nat) (hj : j.toInt = (jn : Int)) (hlt : jn < n) (hw : f jn = w) {g : JFrame} (hg : g.method = m) {rest : List Value} (hs : g.stack = .int j :: .ref a :: rest) (hd : decode c.code g.pc = .ok (.baload, 1)) :
    ∀ t, Steps p.tables e below (T.setTop { g with pc := g.pc + 1, stack := w :: rest }) t → Steps p.tables e below (T.setTop g) t := by
  obtain ⟨cl, A1, A2, A3, A4⟩ := A
  subst hw
  exact X.baloadBooleans hx (by rw [eT]; exact A1.1) (State.isArrayOf_alike hZ.alike A1.2.1) A1.2.2 (own_inb A2 hj hlt) (by rw [(own_clamp hj).2]; exact A4 _ hlt) hg hs hd
theorem own_len {f : Nat → Value} {z : Int32} (X : Stand p l e R s m args below meth c T locs cells slots) (hx : p.tables.exec = Jvm.exec) (hZ : Z.Warmed39 s.vm) (eT : T.heap = h) (A : own_AV Z h a ty n f) (hz : z.toInt = (n : Int)) {g : JFrame} (hg : g.method = m) {rest : List Value} (hs : g.stack = .ref a :: rest) (hd : decode c.code g.pc = .ok (.arraylength, 1)) :
    ∀ t, Steps p.tables e below (T.setTop { g with pc := g.pc + 1, stack := .int z :: rest }) t → Steps p.tables e below (T.setTop g) t := by
  obtain ⟨cl, A1, A2, A3, A4⟩ := A
  have q : cl.slots.size.toInt32 = z := by
    apply Int32.toInt_inj.mp
    rw [A2, len_toInt A3, hz]
  subst q
  exact X.arraylength hx (by rw [eT]; exact A1.1) (State.isArrayOf_alike hZ.alike A1.2.1) hg hs hd
end OwnArr
def own_upd (f : Nat → Int64) (j : Nat) (x : Int64) : Nat → Int64 := fun i => if i = j then x else f i
theorem own_updL {n : Nat} (f : Nat → Int64) (j : Nat) (x : Int64) : ∀ i, i < n → (if i = j then Value.long x else Value.long (f i)) = Value.long (own_upd f j x i) := fun i _ => by
  unfold own_upd; split <;> rfl
theorem own_updSame {f : Nat → Int64} {j : Nat} {x : Int64} (h : f j = x) : own_upd f j x = f := by
  funext i; unfold own_upd; split
  · next q => rw [q, h]
  · rfl
theorem own_fitJ {Z : State} {h : Heap} {a : Addr} {cl : Cell} {n : Nat} {f : Nat → Int64} (A : Arr Z h a cl .long) (S : cl.slots.size = n) (H : ∀ i, i < n → cl.slots[i]? = some (.long (f i))) : FitC Z cl :=
  fitC_of A fun i hi v hv => by rw [H i (S ▸ hi)] at hv; cases hv; rfl
/-- the numbers m < 3 with p m, in order, each with its K m -/
def own_L1 (p : Nat → Bool) (K : Nat → Int64) : List Int64 := if p 0 = true then [0, K 0] else []
def own_L2 (p : Nat → Bool) (K : Nat → Int64) : List Int64 := own_L1 p K ++ (if p 1 = true then [1, K 1] else [])
def own_L3 (p : Nat → Bool) (K : Nat → Int64) : List Int64 := own_L2 p K ++ (if p 2 = true then [2, K 2] else [])
theorem own_len3g {P0 P1 P2 : Prop} [Decidable P0] [Decidable P1] [Decidable P2] {a b c : Int64} {c1 c2 c3 : Int32} (h1 : c1 = if P0 then (0 : Int32) + 1 else 0) (h2 : c2 = if P1 then c1 + 1 else c1) (h3 : c3 = if P2 then c2 + 1 else c2) :
    ((2 : Int32) * c3).toInt = ((((if P0 then [0, a] else []) ++ (if P1 then [1, b] else [])) ++ (if P2 then [2, c] else []) : List Int64).length : Int) ∧ (((if P0 then [0, a] else []) ++ (if P1 then [1, b] else [])) ++ (if P2 then [2, c] else []) : List Int64).length ≤ 6 := by
  by_cases x : P0 <;> by_cases y : P1 <;> by_cases z : P2 <;> simp only [x, y, z, if_true, if_false] at h1 h2 h3 ⊢ <;> subst h1 <;> subst h2 <;> subst h3 <;> exact ⟨rfl, by simp⟩
theorem own_len3 {p : Nat → Bool} {K : Nat → Int64} {c1 c2 c3 : Int32} (h1 : c1 = if p 0 = true then (0 : Int32) + 1 else 0) (h2 : c2 = if p 1 = true then c1 + 1 else c1) (h3 : c3 = if p 2 = true then c2 + 1 else c2) :
    ((2 : Int32) * c3).toInt = ((own_L3 p K).length : Int) ∧ (own_L3 p K).length ≤ 6 := own_len3g h1 h2 h3
theorem own_ext2 {f : Nat → Value} {w : List Int64} {x y : Int64} {n : Nat} (hn : n = w.length) (hf : ∀ j, j < w.length → f j = .long (w.getD j 0)) :
    ∀ j, j < (w ++ [x, y]).length → (if j = n + 1 then Value.long y else if j = n then Value.long x else f j) = .long ((w ++ [x, y]).getD j 0) := fun j hj => by
  subst hn
  simp only [List.length_append, List.length_cons, List.length_nil] at hj
  by_cases q : j = w.length + 1
  · rw [if_pos q, q]; simp [List.getD_eq_getElem?_getD]
  · rw [if_neg q]
    by_cases q2 : j = w.length
    · rw [if_pos q2, q2]; simp [List.getD_eq_getElem?_getD]
    · rw [if_neg q2, hf j (by omega)]
      simp [List.getD_eq_getElem?_getD, List.getElem?_append_left (show j < w.length by omega)]
theorem own_i3 {m : Int32} {mn : Nat} (h : m.toInt = (mn : Int)) : (m.toInt64.toInt32).toInt = (mn : Int) := by
  have a := c_l2i m.toInt64
  have b := rng32 m.toInt64.toInt32
  have c := rng32 m
  have d := c_i2l m
  omega
theorem own_l3 {m : Int32} {mn : Nat} (h : m.toInt = (mn : Int)) (hl : mn < 3) : m < (3 : Int32) := Int32.lt_iff_toInt_lt.mpr (by have : (3 : Int32).toInt = 3 := rfl; omega)
theorem own_p1 {t : Int32} {n : Nat} (h : t.toInt = (n : Int)) {N : Nat} (hN : N ≤ 6) (hl : n + 2 ≤ N) : (t + (1 : Int32)).toInt = ((n + 1 : Nat) : Int) := by
  have a := c_iadd t (1 : Int32); have b : (1 : Int32).toInt = 1 := rfl; have c := rng32 (t + (1 : Int32)); omega
theorem own_p2 {t : Int32} {w : List Int64} {x y : Int64} (h : t.toInt = ((w.length : Nat) : Int)) (hl : w.length ≤ 6) : ((t + (1 : Int32)) + (1 : Int32)).toInt = (((w ++ [x, y]).length : Nat) : Int) := by
  have a := c_iadd t (1 : Int32); have b : (1 : Int32).toInt = 1 := rfl; have c := rng32 (t + (1 : Int32)); have d := c_iadd (t + (1 : Int32)) (1 : Int32); have e := rng32 ((t + (1 : Int32)) + (1 : Int32))
  simp only [List.length_append, List.length_cons, List.length_nil]; omega
section
variable {p q : Nat → Bool} {K K' : Nat → Int64}
theorem own_w0 (h : p 0 = true) : own_L1 p K = ([] : List Int64) ++ [0, K 0] := by unfold own_L1; rw [if_pos h]; rfl
theorem own_w1 (h : p 1 = true) : own_L2 p K = own_L1 p K ++ [1, K 1] := by unfold own_L2; rw [if_pos h]
theorem own_w2 (h : p 2 = true) : own_L3 p K = own_L2 p K ++ [2, K 2] := by unfold own_L3; rw [if_pos h]
theorem own_v0 (h : ¬ p 0 = true) : own_L1 p K = ([] : List Int64) := by unfold own_L1; rw [if_neg h]
theorem own_v1 (h : ¬ p 1 = true) : own_L2 p K = own_L1 p K := by unfold own_L2; rw [if_neg h, List.append_nil]
theorem own_v2 (h : ¬ p 2 = true) : own_L3 p K = own_L2 p K := by unfold own_L3; rw [if_neg h, List.append_nil]
theorem own_b2 (h : p 2 = true) : (own_L2 p K).length + 2 ≤ (own_L3 p K).length := by rw [own_w2 h]; simp
theorem own_b1 (h : p 1 = true) : (own_L1 p K).length + 2 ≤ (own_L3 p K).length := by unfold own_L3; rw [own_w1 h]; simp
theorem own_b0 (h : p 0 = true) : ([] : List Int64).length + 2 ≤ (own_L3 p K).length := by unfold own_L3 own_L2; rw [own_w0 h]; simp
theorem own_L3nil (h : ∀ i, i < 3 → ¬ p i = true) : own_L3 p K = [] := by rw [own_v2 (h 2 (by decide)), own_v1 (h 1 (by decide)), own_v0 (h 0 (by decide))]
theorem own_L3cong (h : ∀ i, i < 3 → p i = q i) (hk : ∀ i, i < 3 → K i = K' i) : own_L3 p K = own_L3 q K' := by
  unfold own_L3 own_L2 own_L1
  rw [h 0 (by decide), h 1 (by decide), h 2 (by decide), hk 0 (by decide), hk 1 (by decide), hk 2 (by decide)]
theorem own_L3len (p : Nat → Bool) (K : Nat → Int64) : (own_L3 p K).length = (if p 0 = true then 2 else 0) + (if p 1 = true then 2 else 0) + (if p 2 = true then 2 else 0) := by
  unfold own_L3 own_L2 own_L1
  by_cases x : p 0 = true <;> by_cases y : p 1 = true <;> by_cases z : p 2 = true <;> simp [x, y, z]
end
/-- m's number is news for r -/
abbrev own_u (Rr Tt : Nat → Int64) (r : Nat) : Nat → Bool := fun m => decide (m ≠ r ∧ Tt r < Rr m)
theorem own_nil {Rr Tt K : Nat → Int64} {rn : Nat} {rs : Int64} (h : Tt rn = rs) (hi : ∀ i, i < 3 → ¬ rs < Rr i) : own_L3 (own_u Rr Tt rn) K = [] :=
  own_L3nil fun i hl q => hi i hl (h ▸ (of_decide_eq_true q).2)
def own_KR (Z : State) (h : Heap) (k aK aR aT : Addr) (sf : Int32) (K Rr Tt : Nat → Int64) (rs : Int64) : Prop := (Exa Z h k "com/example/coterie/coterie/runtime/KnownRequests") ∧ (Fld Z h k "com/example/coterie/coterie/runtime/KnownRequests" "self" "I" (.int sf)) ∧ (Fld Z h k "com/example/coterie/coterie/runtime/KnownRequests" "known" "[J" (.ref aK)) ∧ (Fld Z h k "com/example/coterie/coterie/runtime/KnownRequests" "roseAt" "[J" (.ref aR)) ∧ (Fld Z h k "com/example/coterie/coterie/runtime/KnownRequests" "told" "[J" (.ref aT)) ∧ (Fld Z h k "com/example/coterie/coterie/runtime/KnownRequests" "rises" "J" (.long rs)) ∧ (own_AV Z h aK .long 3 (fun i => .long (K i))) ∧ (own_AV Z h aR .long 3 (fun i => .long (Rr i))) ∧ (own_AV Z h aT .long 3 (fun i => .long (Tt i))) ∧ (Exa Z h aK "[J")
def own_updI (f : Nat → Int32) (j : Nat) (x : Int32) : Nat → Int32 := fun i => if i = j then x else f i
theorem own_updZ1 {n : Nat} (f : Nat → Int32) (j : Nat) : ∀ i, i < n → (if i = j then Value.int (nar .boolean (1 : Int32)) else Value.int (f i)) = Value.int (own_updI f j 1 i) := fun i _ => by
  unfold own_updI; split <;> rfl
theorem own_updZ0 {n : Nat} (f : Nat → Int32) (j : Nat) : ∀ i, i < n → (if i = j then Value.int (nar .boolean (0 : Int32)) else Value.int (f i)) = Value.int (own_updI f j 0 i) := fun i _ => by
  unfold own_updI; split <;> rfl
def own_mark (fd : Nat → Int32) (m : Nat) : Nat → Int32 := own_updI (own_updI (own_updI fd m 1) (3 + m) 1) (6 + m) 1
def own_clr (fd : Nat → Int32) (r : Nat) : Nat → Int32 := own_updI (own_updI (own_updI fd (3 * r) 0) (3 * r + 1) 0) (3 * r + 2) 0
theorem own_k3 {m : Int32} {n : Nat} (h : m.toInt = (n : Int)) (hl : n < 3) : ((3 : Int32) + m).toInt = ((3 + n : Nat) : Int) := by
  have a := c_iadd (3 : Int32) m; have b : (3 : Int32).toInt = 3 := rfl; have c := rng32 ((3 : Int32) + m); omega
theorem own_k6 {m : Int32} {n : Nat} (h : m.toInt = (n : Int)) (hl : n < 3) : ((6 : Int32) + m).toInt = ((6 + n : Nat) : Int) := by
  have a := c_iadd (6 : Int32) m; have b : (6 : Int32).toInt = 6 := rfl; have c := rng32 ((6 : Int32) + m); omega
theorem own_q0 {r : Int32} {n : Nat} (h : r.toInt = (n : Int)) (hl : n < 3) : ((3 : Int32) * r).toInt = ((3 * n : Nat) : Int) := by
  have a := c_imul (3 : Int32) r; have b : (3 : Int32).toInt = 3 := rfl; have c := rng32 ((3 : Int32) * r); rw [b] at a; omega
theorem own_q1 {r : Int32} {n : Nat} (h : r.toInt = (n : Int)) (hl : n < 3) : ((3 : Int32) * r + (1 : Int32)).toInt = ((3 * n + 1 : Nat) : Int) := by
  have q := own_q0 h hl; have a := c_iadd ((3 : Int32) * r) (1 : Int32); have b : (1 : Int32).toInt = 1 := rfl; have c := rng32 ((3 : Int32) * r + (1 : Int32)); omega
theorem own_q2 {r : Int32} {n : Nat} (h : r.toInt = (n : Int)) (hl : n < 3) : ((3 : Int32) * r + (2 : Int32)).toInt = ((3 * n + 2 : Nat) : Int) := by
  have q := own_q0 h hl; have a := c_iadd ((3 : Int32) * r) (2 : Int32); have b : (2 : Int32).toInt = 2 := rfl; have c := rng32 ((3 : Int32) * r + (2 : Int32)); omega
theorem own_p2' {t : Int32} {w : List Int64} {x y : Int64} (h : t.toInt = ((w.length : Nat) : Int)) (hl : w.length ≤ 6) : (t + (2 : Int32)).toInt = (((w ++ [x, y]).length : Nat) : Int) := by
  have a := c_iadd t (2 : Int32); have b : (2 : Int32).toInt = 2 := rfl; have c := rng32 (t + (2 : Int32))
  simp only [List.length_append, List.length_cons, List.length_nil]; omega
abbrev own_f (fd : Nat → Int32) (r : Nat) : Nat → Bool := fun m => decide (¬ m = r ∧ ¬ fd (3 * r + m) = 0)
theorem own_fe {fd : Nat → Int32} {r m : Nat} (h : m = r) : ¬ own_f fd r m = true := fun q => (of_decide_eq_true q).1 h
theorem own_fz {fd : Nat → Int32} {r m : Nat} (h : fd (3 * r + m) = 0) : ¬ own_f fd r m = true := fun q => (of_decide_eq_true q).2 h
theorem own_eqn {a : Nat} {x : Int32} {n : Nat} (hx : x.toInt = (a : Int)) (h : x.toInt = (n : Int)) : a = n := by omega
theorem own_eqi {a : Nat} {x r : Int32} {n : Nat} (hx : x.toInt = (a : Int)) (h : r.toInt = (n : Int)) (e : a = n) : r = x := Int32.toInt_inj.mp (by omega)
theorem own_el4 {fd : Nat → Int32} {fk : Nat → Int64} {r : Nat} (h : r < 3) : (own_L3 (own_f fd r) fk).length ≤ 4 := by
  rw [own_L3len]
  have q : ¬ own_f fd r r = true := own_fe rfl
  match r, h with
  | 0, _ => rw [if_neg q]; split <;> split <;> omega
  | 1, _ => rw [if_neg q]; split <;> split <;> omega
  | 2, _ => rw [if_neg q]; split <;> split <;> omega
theorem own_ge {a : Nat} {x t : Int32} {n : Nat} (hx : x.toInt = (a : Int)) (ht : t.toInt = (n : Int)) (h : ¬ t < x) : a ≤ n := by
  have q : ¬ t.toInt < x.toInt := fun r => h (Int32.lt_iff_toInt_lt.mpr r)
  omega
theorem own_rem (p d v : Int32) (D : Nat) (hd : d.toInt = (D : Int)) (hD : 0 < D ∧ D < 100) (h : v = (p &&& (2147483647 : Int32)) % d) : ∃ n : Nat, v.toInt = (n : Int) ∧ n < D := by
  have q := (c_and p (2147483647 : Int32) (by decide)).1
  have r := (c_irem (p &&& (2147483647 : Int32)) d D hd).1 q
  rw [← h] at r
  have r1 := Int.emod_nonneg (p &&& (2147483647 : Int32)).toInt (b := (D : Int)) (by omega)
  have r2 := Int.emod_lt_of_pos (p &&& (2147483647 : Int32)).toInt (b := (D : Int)) (by omega)
  exact ⟨v.toInt.toNat, by omega, by omega⟩
theorem own_oo {s o1 o2 : Int32} {sn : Nat} (hs : s.toInt = (sn : Int)) (hl : sn < 3) (h1 : o1 = (s + (1 : Int32)) % (3 : Int32)) (h2 : o2 = (s + (2 : Int32)) % (3 : Int32)) :
    ∃ n1, o1.toInt = ((n1 : Nat) : Int) ∧ (n1 < 3 ∧ n1 ≠ sn) ∧ ∃ n2, o2.toInt = ((n2 : Nat) : Int) ∧ (n2 < 3 ∧ n2 ≠ sn) := by
  match sn, hl, hs with
  | 0, _, hs => obtain rfl : s = 0 := Int32.toInt_inj.mp hs; subst h1 h2; exact ⟨1, by decide, by decide, 2, by decide, by decide⟩
  | 1, _, hs => obtain rfl : s = 1 := Int32.toInt_inj.mp hs; subst h1 h2; exact ⟨2, by decide, by decide, 0, by decide, by decide⟩
  | 2, _, hs => obtain rfl : s = 2 := Int32.toInt_inj.mp hs; subst h1 h2; exact ⟨0, by decide, by decide, 1, by decide, by decide⟩
/-- what holds between the object's arrays and the law's own -/
def own_Inv (sn : Nat) (K R T : Nat → Int64) (rs : Int64) (fk : Nat → Int64) (fd : Nat → Int32) (c : Int) : Prop :=
  (∀ m, m < 3 → fk m = K m) ∧ (∀ r m, r < 3 → m < 3 → fd (3 * r + m) = if T r < R m then 1 else 0) ∧ (0 ≤ rs.toInt ∧ rs.toInt ≤ c) ∧ (∀ m, m < 3 → 0 ≤ (R m).toInt ∧ (R m).toInt ≤ rs.toInt) ∧ (∀ m, m < 3 → 0 ≤ (T m).toInt ∧ (T m).toInt ≤ rs.toInt) ∧ (0 ≤ (K sn).toInt ∧ (K sn).toInt ≤ c)
section
variable {sn : Nat} {K R T : Nat → Int64} {rs : Int64} {fk : Nat → Int64} {fd : Nat → Int32} {c : Int}
theorem own_inv0 (sn : Nat) : own_Inv sn (fun _ => (0 : Int64)) (fun _ => (0 : Int64)) (fun _ => (0 : Int64)) (0 : Int64) (fun _ => (0 : Int64)) (fun _ => (0 : Int32)) 0 :=
  have z : (0 : Int) ≤ (0 : Int64).toInt ∧ (0 : Int64).toInt ≤ (0 : Int64).toInt := by decide
  ⟨fun _ _ => rfl, fun _ _ _ _ => rfl, by decide, fun _ _ => z, fun _ _ => z, (by decide : (0 : Int) ≤ (0 : Int64).toInt ∧ (0 : Int64).toInt ≤ (0 : Int))⟩
theorem own_mono {c' : Int} (h : own_Inv sn K R T rs fk fd c) (hc : c ≤ c') : own_Inv sn K R T rs fk fd c' := by
  obtain ⟨h1, h2, h3, h4, h5, h6⟩ := h
  exact ⟨h1, h2, ⟨h3.1, by omega⟩, h4, h5, ⟨h6.1, by omega⟩⟩
theorem own_pos (h : own_Inv sn K R T rs fk fd c) (hc : c ≤ 50) : ¬ (K sn + 1) < (1 : Int64) := fun q => by
  have a := Int64.lt_iff_toInt_lt.mp q; have b := c_ladd (K sn) 1; have d : (1 : Int64).toInt = 1 := rfl; have e := rng64 (K sn + 1); have f := h.2.2.2.2.2; omega
theorem own_invR (h : own_Inv sn K R T rs fk fd c) : ∀ i, i < 3 → ¬ rs < R i := fun i hi q => by have := Int64.lt_iff_toInt_lt.mp q; have := (h.2.2.2.1 i hi).2; omega
theorem own_s1 (h : own_Inv sn K R T rs fk fd c) (hc : c ≤ 60) : (rs + 1).toInt = rs.toInt + 1 := by
  have b := c_ladd rs 1; have d : (1 : Int64).toInt = 1 := rfl; have e := rng64 (rs + 1); have f := h.2.2.1; omega
theorem own_rise (h : own_Inv sn K R T rs fk fd c) (hc : c ≤ 60) {m : Nat} (hm : m < 3) {v : Int64} (hv : m = sn → 0 ≤ v.toInt ∧ v.toInt ≤ c + 1) :
    own_Inv sn (own_upd K m v) (own_upd R m (rs + 1)) T (rs + 1) (own_upd fk m v) (own_mark fd m) (c + 1) := by
  have s1 := own_s1 h hc
  obtain ⟨h1, h2, h3, h4, h5, h6⟩ := h
  refine ⟨fun i hi => ?_, fun r i hr hi => ?_, by omega, fun i hi => ?_, fun i hi => ?_, ?_⟩
  · unfold own_upd; split; rfl; exact h1 i hi
  · have e : own_mark fd m (3 * r + i) = if i = m then 1 else fd (3 * r + i) := by
      unfold own_mark own_updI
      by_cases q : i = m
      · subst q; rw [if_pos rfl]
        match r, hr with
        | 0, _ => simp
        | 1, _ => simp
        | 2, _ => simp
      · rw [if_neg q, if_neg (by omega), if_neg (by omega), if_neg (by omega)]
    rw [e]
    by_cases q : i = m
    · subst q
      have t := (h5 r hr).2
      have g : T r < own_upd R i (rs + 1) i := by unfold own_upd; rw [if_pos rfl]; exact Int64.lt_iff_toInt_lt.mpr (by omega)
      rw [if_pos rfl, if_pos g]
    · have g : own_upd R m (rs + 1) i = R i := by unfold own_upd; rw [if_neg q]
      rw [if_neg q, g]; exact h2 r i hr hi
  · unfold own_upd; split
    · omega
    · have := h4 i hi; omega
  · have := h5 i hi; omega
  · unfold own_upd; split
    · next q => exact hv q.symm
    · omega
theorem own_ev1 (h : own_Inv sn K R T rs fk fd c) (hc : c ≤ 50) (hs : sn < 3) : own_Inv sn (own_upd K sn (K sn + 1)) (own_upd R sn (rs + 1)) T (rs + 1) (own_upd fk sn (fk sn + 1)) (own_mark fd sn) (c + 2) := by
  rw [h.1 sn hs]
  refine own_mono (own_rise h (by omega) hs (fun _ => ?_)) (by omega)
  have b := c_ladd (K sn) 1; have d : (1 : Int64).toInt = 1 := rfl; have e := rng64 (K sn + 1); have f := h.2.2.2.2.2; omega
theorem own_ivl (h : own_Inv sn K R T rs fk fd c) (hc : c ≤ 60) {m : Nat} (hm : m < 3) (hn : m ≠ sn) {v : Int64} :
    own_Inv sn (if K m < v then own_upd K m v else K) (if K m < v then own_upd R m (rs + 1) else R) T (if K m < v then rs + 1 else rs) (if fk m < v then own_upd fk m v else fk) (if fk m < v then own_mark fd m else fd) (c + 1) := by
  rw [h.1 m hm]
  by_cases q : K m < v
  · simp only [if_pos q]; exact own_rise h hc hm (fun e => absurd e hn)
  · simp only [if_neg q]; exact own_mono h (by omega)
theorem own_invN (h : own_Inv sn K R T rs fk fd c) {r : Nat} (hr : r < 3) : own_Inv sn K R (own_upd T r rs) rs fk (own_clr fd r) c := by
  have hR := own_invR h
  obtain ⟨h1, h2, h3, h4, h5, h6⟩ := h
  refine ⟨h1, fun r' m hr' hm => ?_, h3, h4, fun i hi => ?_, h6⟩
  · by_cases q : r' = r
    · subst q
      have g : ¬ own_upd T r' rs r' < R m := by unfold own_upd; rw [if_pos rfl]; exact hR m hm
      rw [if_neg g]
      unfold own_clr own_updI
      match m, hm with
      | 0, _ => simp
      | 1, _ => simp
      | 2, _ => simp
    · have g : own_upd T r rs r' = T r' := by unfold own_upd; rw [if_neg q]
      rw [g, ← h2 r' m hr' hm]
      unfold own_clr own_updI
      rw [if_neg (by omega), if_neg (by omega), if_neg (by omega)]
  · unfold own_upd; split
    · omega
    · exact h5 i hi
theorem own_elq (h : own_Inv sn K R T rs fk fd c) {r : Nat} (hr : r < 3) : own_L3 (own_u R T r) K = own_L3 (own_f fd r) fk := by
  refine own_L3cong (fun i hi => ?_) (fun i hi => (h.1 i hi).symm)
  show decide (i ≠ r ∧ T r < R i) = decide (¬ i = r ∧ ¬ fd (3 * r + i) = 0)
  rw [h.2.1 r i hr hi]
  by_cases q : T r < R i
  · rw [if_pos q]; simp [q]
  · rw [if_neg q]; simp [q]
end
theorem own_empty {Z : State} {args : Array Value} {a : Addr} {C n d : String} (ev : (Term.static C n d).eval args Z none [] Z = some (.ref a)) (hA : (Jvm.Cond.arrayOf (Term.static C n d) .long).before args Z = true) (hL : (Jvm.Cond.eq (.length (Term.static C n d)) (.int 0)).before args Z = true) :
    ∃ f, own_AV Z Z.heap a .long 0 f := by
  obtain ⟨a', c, q1, hc, harr, hvm⟩ := Jvm.Free.IntBox.arrayOf_fwd hA ev
  cases q1
  obtain ⟨hsz, hlen⟩ := Jvm.Free.IntBox.length_fwd hL ev hc harr hvm
  have h0 : c.slots.size = 0 := by have q := len_toInt hsz; rw [hlen] at q; have : ((0 : Int32)).toInt = 0 := rfl; omega
  exact ⟨fun _ => .null, c, ⟨hc, harr, hvm⟩, h0, by decide, fun i hi => absurd hi (Nat.not_lt_zero _)⟩

theorem own_pn0 : plainName "com/example/coterie/coterie/runtime/KnownRequests" = true := by first | (simp [plainName, overriddenIn]; done) | decide +kernel
theorem own_d_prog_86_m1_0 : decode prog_86_method_1_code 0 = .ok (.aload_n 0, 1) := by decide +kernel
theorem own_d_prog_86_m1_1 : decode prog_86_method_1_code 1 = .ok (.invokespecial 1, 3) := by decide +kernel
theorem own_d_prog_86_m1_4 : decode prog_86_method_1_code 4 = .ok (.aload_n 0, 1) := by decide +kernel
theorem own_d_prog_86_m1_5 : decode prog_86_method_1_code 5 = .ok (.iload_n 1, 1) := by decide +kernel
theorem own_d_prog_86_m1_6 : decode prog_86_method_1_code 6 = .ok (.putfield 7, 3) := by decide +kernel
theorem own_d_prog_86_m1_9 : decode prog_86_method_1_code 9 = .ok (.aload_n 0, 1) := by decide +kernel
theorem own_d_prog_86_m1_10 : decode prog_86_method_1_code 10 = .ok (.iload_n 2, 1) := by decide +kernel
theorem own_d_prog_86_m1_11 : decode prog_86_method_1_code 11 = .ok (.newarray .long, 2) := by decide +kernel
theorem own_d_prog_86_m1_13 : decode prog_86_method_1_code 13 = .ok (.putfield 13, 3) := by decide +kernel
theorem own_d_prog_86_m1_16 : decode prog_86_method_1_code 16 = .ok (.aload_n 0, 1) := by decide +kernel
theorem own_d_prog_86_m1_17 : decode prog_86_method_1_code 17 = .ok (.iload_n 2, 1) := by decide +kernel
theorem own_d_prog_86_m1_18 : decode prog_86_method_1_code 18 = .ok (.newarray .long, 2) := by decide +kernel
theorem own_d_prog_86_m1_20 : decode prog_86_method_1_code 20 = .ok (.putfield 17, 3) := by decide +kernel
theorem own_d_prog_86_m1_23 : decode prog_86_method_1_code 23 = .ok (.aload_n 0, 1) := by decide +kernel
theorem own_d_prog_86_m1_24 : decode prog_86_method_1_code 24 = .ok (.iload_n 2, 1) := by decide +kernel
theorem own_d_prog_86_m1_25 : decode prog_86_method_1_code 25 = .ok (.newarray .long, 2) := by decide +kernel
theorem own_d_prog_86_m1_27 : decode prog_86_method_1_code 27 = .ok (.putfield 20, 3) := by decide +kernel
theorem own_d_prog_86_m1_30 : decode prog_86_method_1_code 30 = .ok (.return_, 1) := by decide +kernel
theorem own_d_prog_86_m6_0 : decode prog_86_method_6_code 0 = .ok (.aload_n 0, 1) := by decide +kernel
theorem own_d_prog_86_m6_1 : decode prog_86_method_6_code 1 = .ok (.getfield 13, 3) := by decide +kernel
theorem own_d_prog_86_m6_4 : decode prog_86_method_6_code 4 = .ok (.iload_n 1, 1) := by decide +kernel
theorem own_d_prog_86_m6_5 : decode prog_86_method_6_code 5 = .ok (.lload_n 2, 1) := by decide +kernel
theorem own_d_prog_86_m6_6 : decode prog_86_method_6_code 6 = .ok (.lastore, 1) := by decide +kernel
theorem own_d_prog_86_m6_7 : decode prog_86_method_6_code 7 = .ok (.aload_n 0, 1) := by decide +kernel
theorem own_d_prog_86_m6_8 : decode prog_86_method_6_code 8 = .ok (.dup, 1) := by decide +kernel
theorem own_d_prog_86_m6_9 : decode prog_86_method_6_code 9 = .ok (.getfield 32, 3) := by decide +kernel
theorem own_d_prog_86_m6_12 : decode prog_86_method_6_code 12 = .ok (.lconst 1, 1) := by decide +kernel
theorem own_d_prog_86_m6_13 : decode prog_86_method_6_code 13 = .ok (.ladd, 1) := by decide +kernel
theorem own_d_prog_86_m6_14 : decode prog_86_method_6_code 14 = .ok (.putfield 32, 3) := by decide +kernel
theorem own_d_prog_86_m6_17 : decode prog_86_method_6_code 17 = .ok (.aload_n 0, 1) := by decide +kernel
theorem own_d_prog_86_m6_18 : decode prog_86_method_6_code 18 = .ok (.getfield 17, 3) := by decide +kernel
theorem own_d_prog_86_m6_21 : decode prog_86_method_6_code 21 = .ok (.iload_n 1, 1) := by decide +kernel
theorem own_d_prog_86_m6_22 : decode prog_86_method_6_code 22 = .ok (.aload_n 0, 1) := by decide +kernel
theorem own_d_prog_86_m6_23 : decode prog_86_method_6_code 23 = .ok (.getfield 32, 3) := by decide +kernel
theorem own_d_prog_86_m6_26 : decode prog_86_method_6_code 26 = .ok (.lastore, 1) := by decide +kernel
theorem own_d_prog_86_m6_27 : decode prog_86_method_6_code 27 = .ok (.return_, 1) := by decide +kernel
theorem own_d_prog_86_m5_0 : decode prog_86_method_5_code 0 = .ok (.iload_n 1, 1) := by decide +kernel
theorem own_d_prog_86_m5_1 : decode prog_86_method_5_code 1 = .ok (.iload_n 2, 1) := by decide +kernel
theorem own_d_prog_86_m5_2 : decode prog_86_method_5_code 2 = .ok (.if_icmp .eq 23, 3) := by decide +kernel
theorem own_d_prog_86_m5_25 : decode prog_86_method_5_code 25 = .ok (.iconst 0, 1) := by decide +kernel
theorem own_d_prog_86_m5_26 : decode prog_86_method_5_code 26 = .ok (.ireturn, 1) := by decide +kernel
theorem own_d_prog_86_m5_5 : decode prog_86_method_5_code 5 = .ok (.aload_n 0, 1) := by decide +kernel
theorem own_d_prog_86_m5_6 : decode prog_86_method_5_code 6 = .ok (.getfield 17, 3) := by decide +kernel
theorem own_d_prog_86_m5_9 : decode prog_86_method_5_code 9 = .ok (.iload_n 1, 1) := by decide +kernel
theorem own_d_prog_86_m5_10 : decode prog_86_method_5_code 10 = .ok (.laload, 1) := by decide +kernel
theorem own_d_prog_86_m5_11 : decode prog_86_method_5_code 11 = .ok (.aload_n 0, 1) := by decide +kernel
theorem own_d_prog_86_m5_12 : decode prog_86_method_5_code 12 = .ok (.getfield 20, 3) := by decide +kernel
theorem own_d_prog_86_m5_15 : decode prog_86_method_5_code 15 = .ok (.iload_n 2, 1) := by decide +kernel
theorem own_d_prog_86_m5_16 : decode prog_86_method_5_code 16 = .ok (.laload, 1) := by decide +kernel
theorem own_d_prog_86_m5_17 : decode prog_86_method_5_code 17 = .ok (.lcmp, 1) := by decide +kernel
theorem own_d_prog_86_m5_18 : decode prog_86_method_5_code 18 = .ok (.ifCond .le 7, 3) := by decide +kernel
theorem own_d_prog_86_m5_21 : decode prog_86_method_5_code 21 = .ok (.iconst 1, 1) := by decide +kernel
theorem own_d_prog_86_m5_22 : decode prog_86_method_5_code 22 = .ok (.goto 4, 3) := by decide +kernel
theorem own_d_prog_86_m4_0 : decode prog_86_method_4_code 0 = .ok (.iconst 0, 1) := by decide +kernel
theorem own_d_prog_86_m4_1 : decode prog_86_method_4_code 1 = .ok (.istore_n 2, 1) := by decide +kernel
theorem own_d_prog_86_m4_2 : decode prog_86_method_4_code 2 = .ok (.iload_n 2, 1) := by decide +kernel
theorem own_d_prog_86_m4_3 : decode prog_86_method_4_code 3 = .ok (.aload_n 1, 1) := by decide +kernel
theorem own_d_prog_86_m4_4 : decode prog_86_method_4_code 4 = .ok (.arraylength, 1) := by decide +kernel
theorem own_d_prog_86_m4_5 : decode prog_86_method_4_code 5 = .ok (.if_icmp .ge 39, 3) := by decide +kernel
theorem own_d_prog_86_m4_8 : decode prog_86_method_4_code 8 = .ok (.aload_n 1, 1) := by decide +kernel
theorem own_d_prog_86_m4_9 : decode prog_86_method_4_code 9 = .ok (.iload_n 2, 1) := by decide +kernel
theorem own_d_prog_86_m4_10 : decode prog_86_method_4_code 10 = .ok (.laload, 1) := by decide +kernel
theorem own_d_prog_86_m4_11 : decode prog_86_method_4_code 11 = .ok (.l2i, 1) := by decide +kernel
theorem own_d_prog_86_m4_12 : decode prog_86_method_4_code 12 = .ok (.istore_n 3, 1) := by decide +kernel
theorem own_d_prog_86_m4_13 : decode prog_86_method_4_code 13 = .ok (.aload_n 1, 1) := by decide +kernel
theorem own_d_prog_86_m4_14 : decode prog_86_method_4_code 14 = .ok (.iload_n 2, 1) := by decide +kernel
theorem own_d_prog_86_m4_15 : decode prog_86_method_4_code 15 = .ok (.iconst 1, 1) := by decide +kernel
theorem own_d_prog_86_m4_16 : decode prog_86_method_4_code 16 = .ok (.iadd, 1) := by decide +kernel
theorem own_d_prog_86_m4_17 : decode prog_86_method_4_code 17 = .ok (.laload, 1) := by decide +kernel
theorem own_d_prog_86_m4_18 : decode prog_86_method_4_code 18 = .ok (.aload_n 0, 1) := by decide +kernel
theorem own_d_prog_86_m4_19 : decode prog_86_method_4_code 19 = .ok (.getfield 13, 3) := by decide +kernel
theorem own_d_prog_86_m4_22 : decode prog_86_method_4_code 22 = .ok (.iload_n 3, 1) := by decide +kernel
theorem own_d_prog_86_m4_23 : decode prog_86_method_4_code 23 = .ok (.laload, 1) := by decide +kernel
theorem own_d_prog_86_m4_24 : decode prog_86_method_4_code 24 = .ok (.lcmp, 1) := by decide +kernel
theorem own_d_prog_86_m4_25 : decode prog_86_method_4_code 25 = .ok (.ifCond .le 13, 3) := by decide +kernel
theorem own_d_prog_86_m4_28 : decode prog_86_method_4_code 28 = .ok (.aload_n 0, 1) := by decide +kernel
theorem own_d_prog_86_m4_29 : decode prog_86_method_4_code 29 = .ok (.iload_n 3, 1) := by decide +kernel
theorem own_d_prog_86_m4_30 : decode prog_86_method_4_code 30 = .ok (.aload_n 1, 1) := by decide +kernel
theorem own_d_prog_86_m4_31 : decode prog_86_method_4_code 31 = .ok (.iload_n 2, 1) := by decide +kernel
theorem own_d_prog_86_m4_32 : decode prog_86_method_4_code 32 = .ok (.iconst 1, 1) := by decide +kernel
theorem own_d_prog_86_m4_33 : decode prog_86_method_4_code 33 = .ok (.iadd, 1) := by decide +kernel
theorem own_d_prog_86_m4_34 : decode prog_86_method_4_code 34 = .ok (.laload, 1) := by decide +kernel
theorem own_d_prog_86_m4_35 : decode prog_86_method_4_code 35 = .ok (.invokevirtual 23, 3) := by decide +kernel
theorem own_pd0 : parseMethodDescriptor "(IJ)V" = some ⟨[.int, .long], none⟩ := by decide +kernel
theorem own_d_prog_86_m4_38 : decode prog_86_method_4_code 38 = .ok (.iinc 2 2, 3) := by decide +kernel
theorem own_d_prog_86_m4_41 : decode prog_86_method_4_code 41 = .ok (.goto (-39), 3) := by decide +kernel
theorem own_d_prog_86_m4_44 : decode prog_86_method_4_code 44 = .ok (.return_, 1) := by decide +kernel
theorem own_d_prog_86_m3_0 : decode prog_86_method_3_code 0 = .ok (.aload_n 0, 1) := by decide +kernel
theorem own_d_prog_86_m3_1 : decode prog_86_method_3_code 1 = .ok (.getfield 20, 3) := by decide +kernel
theorem own_d_prog_86_m3_4 : decode prog_86_method_3_code 4 = .ok (.iload_n 1, 1) := by decide +kernel
theorem own_d_prog_86_m3_5 : decode prog_86_method_3_code 5 = .ok (.laload, 1) := by decide +kernel
theorem own_d_prog_86_m3_6 : decode prog_86_method_3_code 6 = .ok (.aload_n 0, 1) := by decide +kernel
theorem own_d_prog_86_m3_7 : decode prog_86_method_3_code 7 = .ok (.getfield 32, 3) := by decide +kernel
theorem own_d_prog_86_m3_10 : decode prog_86_method_3_code 10 = .ok (.lcmp, 1) := by decide +kernel
theorem own_d_prog_86_m3_11 : decode prog_86_method_3_code 11 = .ok (.ifCond .ne 7, 3) := by decide +kernel
theorem own_d_prog_86_m3_14 : decode prog_86_method_3_code 14 = .ok (.getstatic 36, 3) := by decide +kernel
theorem own_d_prog_86_m3_17 : decode prog_86_method_3_code 17 = .ok (.areturn, 1) := by decide +kernel
theorem own_d_prog_86_m3_18 : decode prog_86_method_3_code 18 = .ok (.iconst 0, 1) := by decide +kernel
theorem own_d_prog_86_m3_19 : decode prog_86_method_3_code 19 = .ok (.istore_n 2, 1) := by decide +kernel
theorem own_d_prog_86_m3_20 : decode prog_86_method_3_code 20 = .ok (.iconst 0, 1) := by decide +kernel
theorem own_d_prog_86_m3_21 : decode prog_86_method_3_code 21 = .ok (.istore_n 3, 1) := by decide +kernel
theorem own_d_prog_86_m3_22 : decode prog_86_method_3_code 22 = .ok (.iload_n 3, 1) := by decide +kernel
theorem own_d_prog_86_m3_23 : decode prog_86_method_3_code 23 = .ok (.aload_n 0, 1) := by decide +kernel
theorem own_d_prog_86_m3_24 : decode prog_86_method_3_code 24 = .ok (.getfield 13, 3) := by decide +kernel
theorem own_d_prog_86_m3_27 : decode prog_86_method_3_code 27 = .ok (.arraylength, 1) := by decide +kernel
theorem own_d_prog_86_m3_28 : decode prog_86_method_3_code 28 = .ok (.if_icmp .ge 21, 3) := by decide +kernel
theorem own_d_prog_86_m3_31 : decode prog_86_method_3_code 31 = .ok (.aload_n 0, 1) := by decide +kernel
theorem own_d_prog_86_m3_32 : decode prog_86_method_3_code 32 = .ok (.iload_n 3, 1) := by decide +kernel
theorem own_d_prog_86_m3_33 : decode prog_86_method_3_code 33 = .ok (.iload_n 1, 1) := by decide +kernel
theorem own_d_prog_86_m3_34 : decode prog_86_method_3_code 34 = .ok (.invokevirtual 39, 3) := by decide +kernel
theorem own_pd1 : parseMethodDescriptor "(II)Z" = some ⟨[.int, .int], some .boolean⟩ := by decide +kernel
theorem own_d_prog_86_m3_37 : decode prog_86_method_3_code 37 = .ok (.ifCond .eq 6, 3) := by decide +kernel
theorem own_d_prog_86_m3_40 : decode prog_86_method_3_code 40 = .ok (.iinc 2 1, 3) := by decide +kernel
theorem own_d_prog_86_m3_43 : decode prog_86_method_3_code 43 = .ok (.iinc 3 1, 3) := by decide +kernel
theorem own_d_prog_86_m3_46 : decode prog_86_method_3_code 46 = .ok (.goto (-24), 3) := by decide +kernel
theorem own_d_prog_86_m3_49 : decode prog_86_method_3_code 49 = .ok (.iconst 2, 1) := by decide +kernel
theorem own_d_prog_86_m3_50 : decode prog_86_method_3_code 50 = .ok (.iload_n 2, 1) := by decide +kernel
theorem own_d_prog_86_m3_51 : decode prog_86_method_3_code 51 = .ok (.imul, 1) := by decide +kernel
theorem own_d_prog_86_m3_52 : decode prog_86_method_3_code 52 = .ok (.newarray .long, 2) := by decide +kernel
theorem own_d_prog_86_m3_54 : decode prog_86_method_3_code 54 = .ok (.astore_n 3, 1) := by decide +kernel
theorem own_d_prog_86_m3_55 : decode prog_86_method_3_code 55 = .ok (.iconst 0, 1) := by decide +kernel
theorem own_d_prog_86_m3_56 : decode prog_86_method_3_code 56 = .ok (.istore 4, 2) := by decide +kernel
theorem own_d_prog_86_m3_58 : decode prog_86_method_3_code 58 = .ok (.iconst 0, 1) := by decide +kernel
theorem own_d_prog_86_m3_59 : decode prog_86_method_3_code 59 = .ok (.istore 5, 2) := by decide +kernel
theorem own_d_prog_86_m3_61 : decode prog_86_method_3_code 61 = .ok (.iload 5, 2) := by decide +kernel
theorem own_d_prog_86_m3_63 : decode prog_86_method_3_code 63 = .ok (.aload_n 0, 1) := by decide +kernel
theorem own_d_prog_86_m3_64 : decode prog_86_method_3_code 64 = .ok (.getfield 13, 3) := by decide +kernel
theorem own_d_prog_86_m3_67 : decode prog_86_method_3_code 67 = .ok (.arraylength, 1) := by decide +kernel
theorem own_d_prog_86_m3_68 : decode prog_86_method_3_code 68 = .ok (.if_icmp .ge 43, 3) := by decide +kernel
theorem own_d_prog_86_m3_71 : decode prog_86_method_3_code 71 = .ok (.aload_n 0, 1) := by decide +kernel
theorem own_d_prog_86_m3_72 : decode prog_86_method_3_code 72 = .ok (.iload 5, 2) := by decide +kernel
theorem own_d_prog_86_m3_74 : decode prog_86_method_3_code 74 = .ok (.iload_n 1, 1) := by decide +kernel
theorem own_d_prog_86_m3_75 : decode prog_86_method_3_code 75 = .ok (.invokevirtual 39, 3) := by decide +kernel
theorem own_d_prog_86_m3_78 : decode prog_86_method_3_code 78 = .ok (.ifCond .eq 27, 3) := by decide +kernel
theorem own_d_prog_86_m3_81 : decode prog_86_method_3_code 81 = .ok (.aload_n 3, 1) := by decide +kernel
theorem own_d_prog_86_m3_82 : decode prog_86_method_3_code 82 = .ok (.iload 4, 2) := by decide +kernel
theorem own_d_prog_86_m3_84 : decode prog_86_method_3_code 84 = .ok (.iinc 4 1, 3) := by decide +kernel
theorem own_d_prog_86_m3_87 : decode prog_86_method_3_code 87 = .ok (.iload 5, 2) := by decide +kernel
theorem own_d_prog_86_m3_89 : decode prog_86_method_3_code 89 = .ok (.i2l, 1) := by decide +kernel
theorem own_d_prog_86_m3_90 : decode prog_86_method_3_code 90 = .ok (.lastore, 1) := by decide +kernel
theorem own_d_prog_86_m3_91 : decode prog_86_method_3_code 91 = .ok (.aload_n 3, 1) := by decide +kernel
theorem own_d_prog_86_m3_92 : decode prog_86_method_3_code 92 = .ok (.iload 4, 2) := by decide +kernel
theorem own_d_prog_86_m3_94 : decode prog_86_method_3_code 94 = .ok (.iinc 4 1, 3) := by decide +kernel
theorem own_d_prog_86_m3_97 : decode prog_86_method_3_code 97 = .ok (.aload_n 0, 1) := by decide +kernel
theorem own_d_prog_86_m3_98 : decode prog_86_method_3_code 98 = .ok (.getfield 13, 3) := by decide +kernel
theorem own_d_prog_86_m3_101 : decode prog_86_method_3_code 101 = .ok (.iload 5, 2) := by decide +kernel
theorem own_d_prog_86_m3_103 : decode prog_86_method_3_code 103 = .ok (.laload, 1) := by decide +kernel
theorem own_d_prog_86_m3_104 : decode prog_86_method_3_code 104 = .ok (.lastore, 1) := by decide +kernel
theorem own_d_prog_86_m3_105 : decode prog_86_method_3_code 105 = .ok (.iinc 5 1, 3) := by decide +kernel
theorem own_d_prog_86_m3_108 : decode prog_86_method_3_code 108 = .ok (.goto (-47), 3) := by decide +kernel
theorem own_d_prog_86_m3_111 : decode prog_86_method_3_code 111 = .ok (.aload_n 0, 1) := by decide +kernel
theorem own_d_prog_86_m3_112 : decode prog_86_method_3_code 112 = .ok (.getfield 20, 3) := by decide +kernel
theorem own_d_prog_86_m3_115 : decode prog_86_method_3_code 115 = .ok (.iload_n 1, 1) := by decide +kernel
theorem own_d_prog_86_m3_116 : decode prog_86_method_3_code 116 = .ok (.aload_n 0, 1) := by decide +kernel
theorem own_d_prog_86_m3_117 : decode prog_86_method_3_code 117 = .ok (.getfield 32, 3) := by decide +kernel
theorem own_d_prog_86_m3_120 : decode prog_86_method_3_code 120 = .ok (.lastore, 1) := by decide +kernel
theorem own_d_prog_86_m3_121 : decode prog_86_method_3_code 121 = .ok (.aload_n 3, 1) := by decide +kernel
theorem own_d_prog_86_m3_122 : decode prog_86_method_3_code 122 = .ok (.areturn, 1) := by decide +kernel
theorem own_pn1 : plainName "com/example/coterie/coterie/message/VectorStamp" = true := by first | (simp [plainName, overriddenIn]; done) | decide +kernel
theorem own_d_prog_65_m1_0 : decode prog_65_method_1_code 0 = .ok (.aload_n 0, 1) := by decide +kernel
theorem own_d_prog_65_m1_1 : decode prog_65_method_1_code 1 = .ok (.invokespecial 1, 3) := by decide +kernel
theorem own_d_prog_65_m1_4 : decode prog_65_method_1_code 4 = .ok (.iload_n 1, 1) := by decide +kernel
theorem own_d_prog_65_m1_5 : decode prog_65_method_1_code 5 = .ok (.ifCond .lt 9, 3) := by decide +kernel
theorem own_d_prog_65_m1_8 : decode prog_65_method_1_code 8 = .ok (.iload_n 1, 1) := by decide +kernel
theorem own_d_prog_65_m1_9 : decode prog_65_method_1_code 9 = .ok (.aload_n 2, 1) := by decide +kernel
theorem own_d_prog_65_m1_10 : decode prog_65_method_1_code 10 = .ok (.arraylength, 1) := by decide +kernel
theorem own_d_prog_65_m1_11 : decode prog_65_method_1_code 11 = .ok (.if_icmp .lt 21, 3) := by decide +kernel
theorem own_d_prog_65_m1_32 : decode prog_65_method_1_code 32 = .ok (.aload_n 2, 1) := by decide +kernel
theorem own_d_prog_65_m1_33 : decode prog_65_method_1_code 33 = .ok (.iload_n 1, 1) := by decide +kernel
theorem own_d_prog_65_m1_34 : decode prog_65_method_1_code 34 = .ok (.laload, 1) := by decide +kernel
theorem own_d_prog_65_m1_35 : decode prog_65_method_1_code 35 = .ok (.lconst 1, 1) := by decide +kernel
theorem own_d_prog_65_m1_36 : decode prog_65_method_1_code 36 = .ok (.lcmp, 1) := by decide +kernel
theorem own_d_prog_65_m1_37 : decode prog_65_method_1_code 37 = .ok (.ifCond .ge 20, 3) := by decide +kernel
theorem own_d_prog_65_m1_57 : decode prog_65_method_1_code 57 = .ok (.aload_n 0, 1) := by decide +kernel
theorem own_d_prog_65_m1_58 : decode prog_65_method_1_code 58 = .ok (.iload_n 1, 1) := by decide +kernel
theorem own_d_prog_65_m1_59 : decode prog_65_method_1_code 59 = .ok (.putfield 19, 3) := by decide +kernel
theorem own_d_prog_65_m1_62 : decode prog_65_method_1_code 62 = .ok (.aload_n 0, 1) := by decide +kernel
theorem own_d_prog_65_m1_63 : decode prog_65_method_1_code 63 = .ok (.aload_n 2, 1) := by decide +kernel
theorem own_d_prog_65_m1_64 : decode prog_65_method_1_code 64 = .ok (.invokevirtual 25, 3) := by decide +kernel
theorem own_d_prog_65_m1_67 : decode prog_65_method_1_code 67 = .ok (.checkcast 26, 3) := by decide +kernel
theorem own_d_prog_65_m1_70 : decode prog_65_method_1_code 70 = .ok (.putfield 31, 3) := by decide +kernel
theorem own_d_prog_65_m1_73 : decode prog_65_method_1_code 73 = .ok (.return_, 1) := by decide +kernel
theorem own_d_prog_86_m2_0 : decode prog_86_method_2_code 0 = .ok (.aload_n 0, 1) := by decide +kernel
theorem own_d_prog_86_m2_1 : decode prog_86_method_2_code 1 = .ok (.aload_n 0, 1) := by decide +kernel
theorem own_d_prog_86_m2_2 : decode prog_86_method_2_code 2 = .ok (.getfield 7, 3) := by decide +kernel
theorem own_d_prog_86_m2_5 : decode prog_86_method_2_code 5 = .ok (.aload_n 0, 1) := by decide +kernel
theorem own_d_prog_86_m2_6 : decode prog_86_method_2_code 6 = .ok (.getfield 13, 3) := by decide +kernel
theorem own_d_prog_86_m2_9 : decode prog_86_method_2_code 9 = .ok (.aload_n 0, 1) := by decide +kernel
theorem own_d_prog_86_m2_10 : decode prog_86_method_2_code 10 = .ok (.getfield 7, 3) := by decide +kernel
theorem own_d_prog_86_m2_13 : decode prog_86_method_2_code 13 = .ok (.laload, 1) := by decide +kernel
theorem own_d_prog_86_m2_14 : decode prog_86_method_2_code 14 = .ok (.lconst 1, 1) := by decide +kernel
theorem own_d_prog_86_m2_15 : decode prog_86_method_2_code 15 = .ok (.ladd, 1) := by decide +kernel
theorem own_d_prog_86_m2_16 : decode prog_86_method_2_code 16 = .ok (.invokevirtual 23, 3) := by decide +kernel
theorem own_d_prog_86_m2_19 : decode prog_86_method_2_code 19 = .ok (.new 27, 3) := by decide +kernel
theorem own_d_prog_86_m2_22 : decode prog_86_method_2_code 22 = .ok (.dup, 1) := by decide +kernel
theorem own_d_prog_86_m2_23 : decode prog_86_method_2_code 23 = .ok (.aload_n 0, 1) := by decide +kernel
theorem own_d_prog_86_m2_24 : decode prog_86_method_2_code 24 = .ok (.getfield 7, 3) := by decide +kernel
theorem own_d_prog_86_m2_27 : decode prog_86_method_2_code 27 = .ok (.aload_n 0, 1) := by decide +kernel
theorem own_d_prog_86_m2_28 : decode prog_86_method_2_code 28 = .ok (.getfield 13, 3) := by decide +kernel
theorem own_d_prog_86_m2_31 : decode prog_86_method_2_code 31 = .ok (.invokespecial 29, 3) := by decide +kernel
theorem own_pd2 : parseMethodDescriptor "(I[J)V" = some ⟨[.int, (.array .long)], none⟩ := by decide +kernel
theorem own_d_prog_86_m2_34 : decode prog_86_method_2_code 34 = .ok (.areturn, 1) := by decide +kernel
theorem own_pn2 : plainName "com/example/coterie/coterie/runtime/KnownRequestsNewsPinLaw" = true := by first | (simp [plainName, overriddenIn]; done) | decide +kernel
theorem own_d_m5_0 : decode method_5_code 0 = .ok (.aload_n 0, 1) := by decide +kernel
theorem own_d_m5_1 : decode method_5_code 1 = .ok (.iload_n 1, 1) := by decide +kernel
theorem own_d_m5_2 : decode method_5_code 2 = .ok (.iconst 1, 1) := by decide +kernel
theorem own_d_m5_3 : decode method_5_code 3 = .ok (.bastore, 1) := by decide +kernel
theorem own_d_m5_4 : decode method_5_code 4 = .ok (.aload_n 0, 1) := by decide +kernel
theorem own_d_m5_5 : decode method_5_code 5 = .ok (.iconst 3, 1) := by decide +kernel
theorem own_d_m5_6 : decode method_5_code 6 = .ok (.iload_n 1, 1) := by decide +kernel
theorem own_d_m5_7 : decode method_5_code 7 = .ok (.iadd, 1) := by decide +kernel
theorem own_d_m5_8 : decode method_5_code 8 = .ok (.iconst 1, 1) := by decide +kernel
theorem own_d_m5_9 : decode method_5_code 9 = .ok (.bastore, 1) := by decide +kernel
theorem own_d_m5_10 : decode method_5_code 10 = .ok (.aload_n 0, 1) := by decide +kernel
theorem own_d_m5_11 : decode method_5_code 11 = .ok (.bipush 6, 2) := by decide +kernel
theorem own_d_m5_13 : decode method_5_code 13 = .ok (.iload_n 1, 1) := by decide +kernel
theorem own_d_m5_14 : decode method_5_code 14 = .ok (.iadd, 1) := by decide +kernel
theorem own_d_m5_15 : decode method_5_code 15 = .ok (.iconst 1, 1) := by decide +kernel
theorem own_d_m5_16 : decode method_5_code 16 = .ok (.bastore, 1) := by decide +kernel
theorem own_d_m5_17 : decode method_5_code 17 = .ok (.return_, 1) := by decide +kernel
theorem own_d_m4_0 : decode method_4_code 0 = .ok (.lload_n 3, 1) := by decide +kernel
theorem own_d_m4_1 : decode method_4_code 1 = .ok (.aload_n 0, 1) := by decide +kernel
theorem own_d_m4_2 : decode method_4_code 2 = .ok (.iload_n 2, 1) := by decide +kernel
theorem own_d_m4_3 : decode method_4_code 3 = .ok (.laload, 1) := by decide +kernel
theorem own_d_m4_4 : decode method_4_code 4 = .ok (.lcmp, 1) := by decide +kernel
theorem own_d_m4_5 : decode method_4_code 5 = .ok (.ifCond .le 12, 3) := by decide +kernel
theorem own_d_m4_8 : decode method_4_code 8 = .ok (.aload_n 0, 1) := by decide +kernel
theorem own_d_m4_9 : decode method_4_code 9 = .ok (.iload_n 2, 1) := by decide +kernel
theorem own_d_m4_10 : decode method_4_code 10 = .ok (.lload_n 3, 1) := by decide +kernel
theorem own_d_m4_11 : decode method_4_code 11 = .ok (.lastore, 1) := by decide +kernel
theorem own_d_m4_12 : decode method_4_code 12 = .ok (.aload_n 1, 1) := by decide +kernel
theorem own_d_m4_13 : decode method_4_code 13 = .ok (.iload_n 2, 1) := by decide +kernel
theorem own_d_m4_14 : decode method_4_code 14 = .ok (.invokestatic 31, 3) := by decide +kernel
theorem own_pd3 : parseMethodDescriptor "([ZI)V" = some ⟨[(.array .boolean), .int], none⟩ := by decide +kernel
theorem own_d_m4_17 : decode method_4_code 17 = .ok (.return_, 1) := by decide +kernel
theorem own_d_m3_0 : decode method_3_code 0 = .ok (.iload 6, 2) := by decide +kernel
theorem own_d_m3_2 : decode method_3_code 2 = .ok (.iconst 3, 1) := by decide +kernel
theorem own_d_m3_3 : decode method_3_code 3 = .ok (.iand, 1) := by decide +kernel
theorem own_d_m3_4 : decode method_3_code 4 = .ok (.istore 11, 2) := by decide +kernel
theorem own_d_m3_6 : decode method_3_code 6 = .ok (.iload 11, 2) := by decide +kernel
theorem own_d_m3_8 : decode method_3_code 8 = .ok (.iconst 1, 1) := by decide +kernel
theorem own_d_m3_9 : decode method_3_code 9 = .ok (.if_icmp .ne 24, 3) := by decide +kernel
theorem own_d_m3_12 : decode method_3_code 12 = .ok (.aload_n 0, 1) := by decide +kernel
theorem own_d_m3_13 : decode method_3_code 13 = .ok (.invokevirtual 27, 3) := by decide +kernel
theorem own_pd4 : parseMethodDescriptor "()Lcom/example/coterie/coterie/message/VectorStamp;" = some ⟨[], some (.object "com/example/coterie/coterie/message/VectorStamp")⟩ := by decide +kernel
theorem own_d_m3_16 : decode method_3_code 16 = .ok (.pop, 1) := by decide +kernel
theorem own_d_m3_17 : decode method_3_code 17 = .ok (.aload_n 1, 1) := by decide +kernel
theorem own_d_m3_18 : decode method_3_code 18 = .ok (.iload_n 3, 1) := by decide +kernel
theorem own_d_m3_19 : decode method_3_code 19 = .ok (.aload_n 1, 1) := by decide +kernel
theorem own_d_m3_20 : decode method_3_code 20 = .ok (.iload_n 3, 1) := by decide +kernel
theorem own_d_m3_21 : decode method_3_code 21 = .ok (.laload, 1) := by decide +kernel
theorem own_d_m3_22 : decode method_3_code 22 = .ok (.lconst 1, 1) := by decide +kernel
theorem own_d_m3_23 : decode method_3_code 23 = .ok (.ladd, 1) := by decide +kernel
theorem own_d_m3_24 : decode method_3_code 24 = .ok (.lastore, 1) := by decide +kernel
theorem own_d_m3_25 : decode method_3_code 25 = .ok (.aload_n 2, 1) := by decide +kernel
theorem own_d_m3_26 : decode method_3_code 26 = .ok (.iload_n 3, 1) := by decide +kernel
theorem own_d_m3_27 : decode method_3_code 27 = .ok (.invokestatic 31, 3) := by decide +kernel
theorem own_d_m3_30 : decode method_3_code 30 = .ok (.goto 108, 3) := by decide +kernel
theorem own_d_m3_138 : decode method_3_code 138 = .ok (.return_, 1) := by decide +kernel
theorem own_d_m3_33 : decode method_3_code 33 = .ok (.iload 11, 2) := by decide +kernel
theorem own_d_m3_35 : decode method_3_code 35 = .ok (.iconst 2, 1) := by decide +kernel
theorem own_d_m3_36 : decode method_3_code 36 = .ok (.if_icmp .ne 49, 3) := by decide +kernel
theorem own_d_m3_39 : decode method_3_code 39 = .ok (.iload 6, 2) := by decide +kernel
theorem own_d_m3_41 : decode method_3_code 41 = .ok (.iconst 4, 1) := by decide +kernel
theorem own_d_m3_42 : decode method_3_code 42 = .ok (.iand, 1) := by decide +kernel
theorem own_d_m3_43 : decode method_3_code 43 = .ok (.ifCond .eq 8, 3) := by decide +kernel
theorem own_d_m3_51 : decode method_3_code 51 = .ok (.iload 4, 2) := by decide +kernel
theorem own_d_m3_46 : decode method_3_code 46 = .ok (.iload 5, 2) := by decide +kernel
theorem own_d_m3_48 : decode method_3_code 48 = .ok (.goto 5, 3) := by decide +kernel
theorem own_d_m3_53 : decode method_3_code 53 = .ok (.istore 12, 2) := by decide +kernel
theorem own_d_m3_55 : decode method_3_code 55 = .ok (.aload_n 0, 1) := by decide +kernel
theorem own_d_m3_56 : decode method_3_code 56 = .ok (.iconst 2, 1) := by decide +kernel
theorem own_d_m3_57 : decode method_3_code 57 = .ok (.newarray .long, 2) := by decide +kernel
theorem own_d_m3_59 : decode method_3_code 59 = .ok (.dup, 1) := by decide +kernel
theorem own_d_m3_60 : decode method_3_code 60 = .ok (.iconst 0, 1) := by decide +kernel
theorem own_d_m3_61 : decode method_3_code 61 = .ok (.iload 12, 2) := by decide +kernel
theorem own_d_m3_63 : decode method_3_code 63 = .ok (.i2l, 1) := by decide +kernel
theorem own_d_m3_64 : decode method_3_code 64 = .ok (.lastore, 1) := by decide +kernel
theorem own_d_m3_65 : decode method_3_code 65 = .ok (.dup, 1) := by decide +kernel
theorem own_d_m3_66 : decode method_3_code 66 = .ok (.iconst 1, 1) := by decide +kernel
theorem own_d_m3_67 : decode method_3_code 67 = .ok (.lload 7, 2) := by decide +kernel
theorem own_d_m3_69 : decode method_3_code 69 = .ok (.lastore, 1) := by decide +kernel
theorem own_d_m3_70 : decode method_3_code 70 = .ok (.invokevirtual 35, 3) := by decide +kernel
theorem own_pd5 : parseMethodDescriptor "([J)V" = some ⟨[(.array .long)], none⟩ := by decide +kernel
theorem own_d_m3_73 : decode method_3_code 73 = .ok (.aload_n 1, 1) := by decide +kernel
theorem own_d_m3_74 : decode method_3_code 74 = .ok (.aload_n 2, 1) := by decide +kernel
theorem own_d_m3_75 : decode method_3_code 75 = .ok (.iload 12, 2) := by decide +kernel
theorem own_d_m3_77 : decode method_3_code 77 = .ok (.lload 7, 2) := by decide +kernel
theorem own_d_m3_79 : decode method_3_code 79 = .ok (.invokestatic 39, 3) := by decide +kernel
theorem own_pd6 : parseMethodDescriptor "([J[ZIJ)V" = some ⟨[(.array .long), (.array .boolean), .int, .long], none⟩ := by decide +kernel
theorem own_d_m3_82 : decode method_3_code 82 = .ok (.goto 56, 3) := by decide +kernel
theorem own_d_m3_85 : decode method_3_code 85 = .ok (.iload 11, 2) := by decide +kernel
theorem own_d_m3_87 : decode method_3_code 87 = .ok (.iconst 3, 1) := by decide +kernel
theorem own_d_m3_88 : decode method_3_code 88 = .ok (.if_icmp .ne 50, 3) := by decide +kernel
theorem own_d_m3_91 : decode method_3_code 91 = .ok (.aload_n 0, 1) := by decide +kernel
theorem own_d_m3_92 : decode method_3_code 92 = .ok (.iconst 4, 1) := by decide +kernel
theorem own_d_m3_93 : decode method_3_code 93 = .ok (.newarray .long, 2) := by decide +kernel
theorem own_d_m3_95 : decode method_3_code 95 = .ok (.dup, 1) := by decide +kernel
theorem own_d_m3_96 : decode method_3_code 96 = .ok (.iconst 0, 1) := by decide +kernel
theorem own_d_m3_97 : decode method_3_code 97 = .ok (.iload 4, 2) := by decide +kernel
theorem own_d_m3_99 : decode method_3_code 99 = .ok (.i2l, 1) := by decide +kernel
theorem own_d_m3_100 : decode method_3_code 100 = .ok (.lastore, 1) := by decide +kernel
theorem own_d_m3_101 : decode method_3_code 101 = .ok (.dup, 1) := by decide +kernel
theorem own_d_m3_102 : decode method_3_code 102 = .ok (.iconst 1, 1) := by decide +kernel
theorem own_d_m3_103 : decode method_3_code 103 = .ok (.lload 7, 2) := by decide +kernel
theorem own_d_m3_105 : decode method_3_code 105 = .ok (.lastore, 1) := by decide +kernel
theorem own_d_m3_106 : decode method_3_code 106 = .ok (.dup, 1) := by decide +kernel
theorem own_d_m3_107 : decode method_3_code 107 = .ok (.iconst 2, 1) := by decide +kernel
theorem own_d_m3_108 : decode method_3_code 108 = .ok (.iload 5, 2) := by decide +kernel
theorem own_d_m3_110 : decode method_3_code 110 = .ok (.i2l, 1) := by decide +kernel
theorem own_d_m3_111 : decode method_3_code 111 = .ok (.lastore, 1) := by decide +kernel
theorem own_d_m3_112 : decode method_3_code 112 = .ok (.dup, 1) := by decide +kernel
theorem own_d_m3_113 : decode method_3_code 113 = .ok (.iconst 3, 1) := by decide +kernel
theorem own_d_m3_114 : decode method_3_code 114 = .ok (.lload 9, 2) := by decide +kernel
theorem own_d_m3_116 : decode method_3_code 116 = .ok (.lastore, 1) := by decide +kernel
theorem own_d_m3_117 : decode method_3_code 117 = .ok (.invokevirtual 35, 3) := by decide +kernel
theorem own_d_m3_120 : decode method_3_code 120 = .ok (.aload_n 1, 1) := by decide +kernel
theorem own_d_m3_121 : decode method_3_code 121 = .ok (.aload_n 2, 1) := by decide +kernel
theorem own_d_m3_122 : decode method_3_code 122 = .ok (.iload 4, 2) := by decide +kernel
theorem own_d_m3_124 : decode method_3_code 124 = .ok (.lload 7, 2) := by decide +kernel
theorem own_d_m3_126 : decode method_3_code 126 = .ok (.invokestatic 39, 3) := by decide +kernel
theorem own_d_m3_129 : decode method_3_code 129 = .ok (.aload_n 1, 1) := by decide +kernel
theorem own_d_m3_130 : decode method_3_code 130 = .ok (.aload_n 2, 1) := by decide +kernel
theorem own_d_m3_131 : decode method_3_code 131 = .ok (.iload 5, 2) := by decide +kernel
theorem own_d_m3_133 : decode method_3_code 133 = .ok (.lload 9, 2) := by decide +kernel
theorem own_d_m3_135 : decode method_3_code 135 = .ok (.invokestatic 39, 3) := by decide +kernel
theorem own_d_m6_0 : decode method_6_code 0 = .ok (.iconst 4, 1) := by decide +kernel
theorem own_d_m6_1 : decode method_6_code 1 = .ok (.newarray .long, 2) := by decide +kernel
theorem own_d_m6_3 : decode method_6_code 3 = .ok (.astore 4, 2) := by decide +kernel
theorem own_d_m6_5 : decode method_6_code 5 = .ok (.iconst 0, 1) := by decide +kernel
theorem own_d_m6_6 : decode method_6_code 6 = .ok (.istore 5, 2) := by decide +kernel
theorem own_d_m6_8 : decode method_6_code 8 = .ok (.iload_n 3, 1) := by decide +kernel
theorem own_d_m6_9 : decode method_6_code 9 = .ok (.ifCond .eq 30, 3) := by decide +kernel
theorem own_d_m6_12 : decode method_6_code 12 = .ok (.aload_n 2, 1) := by decide +kernel
theorem own_d_m6_13 : decode method_6_code 13 = .ok (.iconst 3, 1) := by decide +kernel
theorem own_d_m6_14 : decode method_6_code 14 = .ok (.iload_n 3, 1) := by decide +kernel
theorem own_d_m6_15 : decode method_6_code 15 = .ok (.imul, 1) := by decide +kernel
theorem own_d_m6_16 : decode method_6_code 16 = .ok (.baload, 1) := by decide +kernel
theorem own_d_m6_17 : decode method_6_code 17 = .ok (.ifCond .eq 22, 3) := by decide +kernel
theorem own_d_m6_20 : decode method_6_code 20 = .ok (.aload 4, 2) := by decide +kernel
theorem own_d_m6_22 : decode method_6_code 22 = .ok (.iload 5, 2) := by decide +kernel
theorem own_d_m6_24 : decode method_6_code 24 = .ok (.lconst 0, 1) := by decide +kernel
theorem own_d_m6_25 : decode method_6_code 25 = .ok (.lastore, 1) := by decide +kernel
theorem own_d_m6_26 : decode method_6_code 26 = .ok (.aload 4, 2) := by decide +kernel
theorem own_d_m6_28 : decode method_6_code 28 = .ok (.iload 5, 2) := by decide +kernel
theorem own_d_m6_30 : decode method_6_code 30 = .ok (.iconst 1, 1) := by decide +kernel
theorem own_d_m6_31 : decode method_6_code 31 = .ok (.iadd, 1) := by decide +kernel
theorem own_d_m6_32 : decode method_6_code 32 = .ok (.aload_n 1, 1) := by decide +kernel
theorem own_d_m6_33 : decode method_6_code 33 = .ok (.iconst 0, 1) := by decide +kernel
theorem own_d_m6_34 : decode method_6_code 34 = .ok (.laload, 1) := by decide +kernel
theorem own_d_m6_35 : decode method_6_code 35 = .ok (.lastore, 1) := by decide +kernel
theorem own_d_m6_36 : decode method_6_code 36 = .ok (.iinc 5 2, 3) := by decide +kernel
theorem own_d_m6_39 : decode method_6_code 39 = .ok (.iload_n 3, 1) := by decide +kernel
theorem own_d_m6_40 : decode method_6_code 40 = .ok (.iconst 1, 1) := by decide +kernel
theorem own_d_m6_41 : decode method_6_code 41 = .ok (.if_icmp .eq 32, 3) := by decide +kernel
theorem own_d_m6_44 : decode method_6_code 44 = .ok (.aload_n 2, 1) := by decide +kernel
theorem own_d_m6_45 : decode method_6_code 45 = .ok (.iconst 3, 1) := by decide +kernel
theorem own_d_m6_46 : decode method_6_code 46 = .ok (.iload_n 3, 1) := by decide +kernel
theorem own_d_m6_47 : decode method_6_code 47 = .ok (.imul, 1) := by decide +kernel
theorem own_d_m6_48 : decode method_6_code 48 = .ok (.iconst 1, 1) := by decide +kernel
theorem own_d_m6_49 : decode method_6_code 49 = .ok (.iadd, 1) := by decide +kernel
theorem own_d_m6_50 : decode method_6_code 50 = .ok (.baload, 1) := by decide +kernel
theorem own_d_m6_51 : decode method_6_code 51 = .ok (.ifCond .eq 22, 3) := by decide +kernel
theorem own_d_m6_54 : decode method_6_code 54 = .ok (.aload 4, 2) := by decide +kernel
theorem own_d_m6_56 : decode method_6_code 56 = .ok (.iload 5, 2) := by decide +kernel
theorem own_d_m6_58 : decode method_6_code 58 = .ok (.lconst 1, 1) := by decide +kernel
theorem own_d_m6_59 : decode method_6_code 59 = .ok (.lastore, 1) := by decide +kernel
theorem own_d_m6_60 : decode method_6_code 60 = .ok (.aload 4, 2) := by decide +kernel
theorem own_d_m6_62 : decode method_6_code 62 = .ok (.iload 5, 2) := by decide +kernel
theorem own_d_m6_64 : decode method_6_code 64 = .ok (.iconst 1, 1) := by decide +kernel
theorem own_d_m6_65 : decode method_6_code 65 = .ok (.iadd, 1) := by decide +kernel
theorem own_d_m6_66 : decode method_6_code 66 = .ok (.aload_n 1, 1) := by decide +kernel
theorem own_d_m6_67 : decode method_6_code 67 = .ok (.iconst 1, 1) := by decide +kernel
theorem own_d_m6_68 : decode method_6_code 68 = .ok (.laload, 1) := by decide +kernel
theorem own_d_m6_69 : decode method_6_code 69 = .ok (.lastore, 1) := by decide +kernel
theorem own_d_m6_70 : decode method_6_code 70 = .ok (.iinc 5 2, 3) := by decide +kernel
theorem own_d_m6_73 : decode method_6_code 73 = .ok (.iload_n 3, 1) := by decide +kernel
theorem own_d_m6_74 : decode method_6_code 74 = .ok (.iconst 2, 1) := by decide +kernel
theorem own_d_m6_75 : decode method_6_code 75 = .ok (.if_icmp .eq 34, 3) := by decide +kernel
theorem own_d_m6_78 : decode method_6_code 78 = .ok (.aload_n 2, 1) := by decide +kernel
theorem own_d_m6_79 : decode method_6_code 79 = .ok (.iconst 3, 1) := by decide +kernel
theorem own_d_m6_80 : decode method_6_code 80 = .ok (.iload_n 3, 1) := by decide +kernel
theorem own_d_m6_81 : decode method_6_code 81 = .ok (.imul, 1) := by decide +kernel
theorem own_d_m6_82 : decode method_6_code 82 = .ok (.iconst 2, 1) := by decide +kernel
theorem own_d_m6_83 : decode method_6_code 83 = .ok (.iadd, 1) := by decide +kernel
theorem own_d_m6_84 : decode method_6_code 84 = .ok (.baload, 1) := by decide +kernel
theorem own_d_m6_85 : decode method_6_code 85 = .ok (.ifCond .eq 24, 3) := by decide +kernel
theorem own_d_m6_88 : decode method_6_code 88 = .ok (.aload 4, 2) := by decide +kernel
theorem own_d_m6_90 : decode method_6_code 90 = .ok (.iload 5, 2) := by decide +kernel
theorem own_d_m6_92 : decode method_6_code 92 = .ok (.ldc2_w 43, 3) := by decide +kernel
theorem own_d_m6_95 : decode method_6_code 95 = .ok (.lastore, 1) := by decide +kernel
theorem own_d_m6_96 : decode method_6_code 96 = .ok (.aload 4, 2) := by decide +kernel
theorem own_d_m6_98 : decode method_6_code 98 = .ok (.iload 5, 2) := by decide +kernel
theorem own_d_m6_100 : decode method_6_code 100 = .ok (.iconst 1, 1) := by decide +kernel
theorem own_d_m6_101 : decode method_6_code 101 = .ok (.iadd, 1) := by decide +kernel
theorem own_d_m6_102 : decode method_6_code 102 = .ok (.aload_n 1, 1) := by decide +kernel
theorem own_d_m6_103 : decode method_6_code 103 = .ok (.iconst 2, 1) := by decide +kernel
theorem own_d_m6_104 : decode method_6_code 104 = .ok (.laload, 1) := by decide +kernel
theorem own_d_m6_105 : decode method_6_code 105 = .ok (.lastore, 1) := by decide +kernel
theorem own_d_m6_106 : decode method_6_code 106 = .ok (.iinc 5 2, 3) := by decide +kernel
theorem own_d_m6_109 : decode method_6_code 109 = .ok (.aload_n 2, 1) := by decide +kernel
theorem own_d_m6_110 : decode method_6_code 110 = .ok (.iconst 3, 1) := by decide +kernel
theorem own_d_m6_111 : decode method_6_code 111 = .ok (.iload_n 3, 1) := by decide +kernel
theorem own_d_m6_112 : decode method_6_code 112 = .ok (.imul, 1) := by decide +kernel
theorem own_d_m6_113 : decode method_6_code 113 = .ok (.iconst 0, 1) := by decide +kernel
theorem own_d_m6_114 : decode method_6_code 114 = .ok (.bastore, 1) := by decide +kernel
theorem own_d_m6_115 : decode method_6_code 115 = .ok (.aload_n 2, 1) := by decide +kernel
theorem own_d_m6_116 : decode method_6_code 116 = .ok (.iconst 3, 1) := by decide +kernel
theorem own_d_m6_117 : decode method_6_code 117 = .ok (.iload_n 3, 1) := by decide +kernel
theorem own_d_m6_118 : decode method_6_code 118 = .ok (.imul, 1) := by decide +kernel
theorem own_d_m6_119 : decode method_6_code 119 = .ok (.iconst 1, 1) := by decide +kernel
theorem own_d_m6_120 : decode method_6_code 120 = .ok (.iadd, 1) := by decide +kernel
theorem own_d_m6_121 : decode method_6_code 121 = .ok (.iconst 0, 1) := by decide +kernel
theorem own_d_m6_122 : decode method_6_code 122 = .ok (.bastore, 1) := by decide +kernel
theorem own_d_m6_123 : decode method_6_code 123 = .ok (.aload_n 2, 1) := by decide +kernel
theorem own_d_m6_124 : decode method_6_code 124 = .ok (.iconst 3, 1) := by decide +kernel
theorem own_d_m6_125 : decode method_6_code 125 = .ok (.iload_n 3, 1) := by decide +kernel
theorem own_d_m6_126 : decode method_6_code 126 = .ok (.imul, 1) := by decide +kernel
theorem own_d_m6_127 : decode method_6_code 127 = .ok (.iconst 2, 1) := by decide +kernel
theorem own_d_m6_128 : decode method_6_code 128 = .ok (.iadd, 1) := by decide +kernel
theorem own_d_m6_129 : decode method_6_code 129 = .ok (.iconst 0, 1) := by decide +kernel
theorem own_d_m6_130 : decode method_6_code 130 = .ok (.bastore, 1) := by decide +kernel
theorem own_d_m6_131 : decode method_6_code 131 = .ok (.aload_n 0, 1) := by decide +kernel
theorem own_d_m6_132 : decode method_6_code 132 = .ok (.arraylength, 1) := by decide +kernel
theorem own_d_m6_133 : decode method_6_code 133 = .ok (.iload 5, 2) := by decide +kernel
theorem own_d_m6_135 : decode method_6_code 135 = .ok (.if_icmp .eq 5, 3) := by decide +kernel
theorem own_d_m6_140 : decode method_6_code 140 = .ok (.iconst 1, 1) := by decide +kernel
theorem own_d_m6_141 : decode method_6_code 141 = .ok (.istore 6, 2) := by decide +kernel
theorem own_d_m6_143 : decode method_6_code 143 = .ok (.iload 5, 2) := by decide +kernel
theorem own_d_m6_145 : decode method_6_code 145 = .ok (.iconst 2, 1) := by decide +kernel
theorem own_d_m6_146 : decode method_6_code 146 = .ok (.if_icmp .lt 37, 3) := by decide +kernel
theorem own_d_m6_149 : decode method_6_code 149 = .ok (.iload 6, 2) := by decide +kernel
theorem own_d_m6_151 : decode method_6_code 151 = .ok (.ifCond .eq 29, 3) := by decide +kernel
theorem own_d_m6_154 : decode method_6_code 154 = .ok (.aload_n 0, 1) := by decide +kernel
theorem own_d_m6_155 : decode method_6_code 155 = .ok (.iconst 0, 1) := by decide +kernel
theorem own_d_m6_156 : decode method_6_code 156 = .ok (.laload, 1) := by decide +kernel
theorem own_d_m6_157 : decode method_6_code 157 = .ok (.aload 4, 2) := by decide +kernel
theorem own_d_m6_159 : decode method_6_code 159 = .ok (.iconst 0, 1) := by decide +kernel
theorem own_d_m6_160 : decode method_6_code 160 = .ok (.laload, 1) := by decide +kernel
theorem own_d_m6_161 : decode method_6_code 161 = .ok (.lcmp, 1) := by decide +kernel
theorem own_d_m6_162 : decode method_6_code 162 = .ok (.ifCond .ne 18, 3) := by decide +kernel
theorem own_d_m6_165 : decode method_6_code 165 = .ok (.aload_n 0, 1) := by decide +kernel
theorem own_d_m6_166 : decode method_6_code 166 = .ok (.iconst 1, 1) := by decide +kernel
theorem own_d_m6_167 : decode method_6_code 167 = .ok (.laload, 1) := by decide +kernel
theorem own_d_m6_168 : decode method_6_code 168 = .ok (.aload 4, 2) := by decide +kernel
theorem own_d_m6_170 : decode method_6_code 170 = .ok (.iconst 1, 1) := by decide +kernel
theorem own_d_m6_171 : decode method_6_code 171 = .ok (.laload, 1) := by decide +kernel
theorem own_d_m6_172 : decode method_6_code 172 = .ok (.lcmp, 1) := by decide +kernel
theorem own_d_m6_173 : decode method_6_code 173 = .ok (.ifCond .ne 7, 3) := by decide +kernel
theorem own_d_m6_176 : decode method_6_code 176 = .ok (.iconst 1, 1) := by decide +kernel
theorem own_d_m6_177 : decode method_6_code 177 = .ok (.goto 4, 3) := by decide +kernel
theorem own_d_m6_181 : decode method_6_code 181 = .ok (.istore 6, 2) := by decide +kernel
theorem own_d_m6_183 : decode method_6_code 183 = .ok (.iload 5, 2) := by decide +kernel
theorem own_d_m6_185 : decode method_6_code 185 = .ok (.iconst 4, 1) := by decide +kernel
theorem own_d_m6_186 : decode method_6_code 186 = .ok (.if_icmp .lt 37, 3) := by decide +kernel
theorem own_d_m6_223 : decode method_6_code 223 = .ok (.iload 6, 2) := by decide +kernel
theorem own_d_m6_225 : decode method_6_code 225 = .ok (.ireturn, 1) := by decide +kernel
theorem own_d_m6_189 : decode method_6_code 189 = .ok (.iload 6, 2) := by decide +kernel
theorem own_d_m6_191 : decode method_6_code 191 = .ok (.ifCond .eq 29, 3) := by decide +kernel
theorem own_d_m6_194 : decode method_6_code 194 = .ok (.aload_n 0, 1) := by decide +kernel
theorem own_d_m6_195 : decode method_6_code 195 = .ok (.iconst 2, 1) := by decide +kernel
theorem own_d_m6_196 : decode method_6_code 196 = .ok (.laload, 1) := by decide +kernel
theorem own_d_m6_197 : decode method_6_code 197 = .ok (.aload 4, 2) := by decide +kernel
theorem own_d_m6_199 : decode method_6_code 199 = .ok (.iconst 2, 1) := by decide +kernel
theorem own_d_m6_200 : decode method_6_code 200 = .ok (.laload, 1) := by decide +kernel
theorem own_d_m6_201 : decode method_6_code 201 = .ok (.lcmp, 1) := by decide +kernel
theorem own_d_m6_202 : decode method_6_code 202 = .ok (.ifCond .ne 18, 3) := by decide +kernel
theorem own_d_m6_205 : decode method_6_code 205 = .ok (.aload_n 0, 1) := by decide +kernel
theorem own_d_m6_206 : decode method_6_code 206 = .ok (.iconst 3, 1) := by decide +kernel
theorem own_d_m6_207 : decode method_6_code 207 = .ok (.laload, 1) := by decide +kernel
theorem own_d_m6_208 : decode method_6_code 208 = .ok (.aload 4, 2) := by decide +kernel
theorem own_d_m6_210 : decode method_6_code 210 = .ok (.iconst 3, 1) := by decide +kernel
theorem own_d_m6_211 : decode method_6_code 211 = .ok (.laload, 1) := by decide +kernel
theorem own_d_m6_212 : decode method_6_code 212 = .ok (.lcmp, 1) := by decide +kernel
theorem own_d_m6_213 : decode method_6_code 213 = .ok (.ifCond .ne 7, 3) := by decide +kernel
theorem own_d_m6_216 : decode method_6_code 216 = .ok (.iconst 1, 1) := by decide +kernel
theorem own_d_m6_217 : decode method_6_code 217 = .ok (.goto 4, 3) := by decide +kernel
theorem own_d_m6_221 : decode method_6_code 221 = .ok (.istore 6, 2) := by decide +kernel
theorem own_pd7 : parseMethodDescriptor "(II)V" = some ⟨[.int, .int], none⟩ := by decide +kernel
theorem own_pd8 : parseMethodDescriptor "(Lcom/example/coterie/coterie/runtime/KnownRequests;[J[ZIIIIJJ)V" = some ⟨[(.object "com/example/coterie/coterie/runtime/KnownRequests"), (.array .long), (.array .boolean), .int, .int, .int, .int, .long, .long], none⟩ := by decide +kernel
theorem own_pd9 : parseMethodDescriptor "(I)[J" = some ⟨[.int], some (.array .long)⟩ := by decide +kernel
theorem own_pd10 : parseMethodDescriptor "([J[J[ZI)Z" = some ⟨[(.array .long), (.array .long), (.array .boolean), .int], some .boolean⟩ := by decide +kernel
def Q_kinit (Z : State) (k : Addr) (sf : Int32) (h0 : Heap) (n0 : Nat) (v : Option Value) (h : Heap) (L : List Loc) : Prop := ∃ aK : Addr, ∃ aR : Addr, ∃ aT : Addr, v = none ∧ Fr n0 L ∧ (Keep h0 h [k]) ∧ (own_KR Z h k aK aR aT sf (fun _ => (0 : Int64)) (fun _ => (0 : Int64)) (fun _ => (0 : Int64)) (0 : Int64)) ∧ (k ≠ aK) ∧ (k ≠ aR) ∧ (k ≠ aT) ∧ (aK ≠ aR) ∧ (aK ≠ aT) ∧ (aR ≠ aT) ∧ (n0 ≤ aK) ∧ (n0 ≤ aR) ∧ (n0 ≤ aT) ∧ (h0.size ≤ aK) ∧ (h0.size ≤ aR) ∧ (h0.size ≤ aT)
theorem ef_kinit (m : MethodId) (x0 : Addr) (x1 : Int32) (x2 : Int32)  : entryFrame m #[(.ref x0), (.int x1), (.int x2)] 3 = mkF m 0 #[.val (.ref x0), .val (.int x1), .val (.int x2)] [] := by first | (simp [entryFrame, mkF, argsToLocals, Value.category]; done) | rfl
set_option maxRecDepth 65536 in
set_option maxHeartbeats 40000000 in
theorem rm_kinit (l : Launch) (Z : State) (a0 : Array Value) (hw : ∀ d ∈ tables_1, d.before a0 Z = true) (ws : List Jvm.Cond) (k : Addr) (sf : Int32) (h0 : Heap) (n0 : Nat) (Zs : n0 ≤ h0.size) (E_k : Exa Z h0 k "com/example/coterie/coterie/runtime/KnownRequests") (F_self : Fld Z h0 k "com/example/coterie/coterie/runtime/KnownRequests" "self" "I" (.int (0 : Int32))) (F_known : Fld Z h0 k "com/example/coterie/coterie/runtime/KnownRequests" "known" "[J" .null) (F_rose : Fld Z h0 k "com/example/coterie/coterie/runtime/KnownRequests" "roseAt" "[J" .null) (F_told : Fld Z h0 k "com/example/coterie/coterie/runtime/KnownRequests" "told" "[J" .null) (F_rises : Fld Z h0 k "com/example/coterie/coterie/runtime/KnownRequests" "rises" "J" (.long (0 : Int64))) (g_k : n0 ≤ k) :
    MetFree l (⟨"com/example/coterie/coterie/runtime/KnownRequests", "<init>", "(II)V"⟩ : MethodName) (head1 (Jvm.Cond.code (⟨"com/example/coterie/coterie/runtime/KnownRequests", "<init>", "(II)V"⟩ : MethodName) prog_86_method_1_code 3 none :: ws) ({ frames := 1, cells := 3, slots := 9, locals := 24 } : Room)) (fun a U => a = #[(.ref k), (.int sf), (.int (3 : Int32))] ∧ Z.Warmed39 U.vm ∧ U.heap = h0) (fun _ _ _ _ _ => True) (fun _ U o U' => ∃ v L, o = .returned v ∧ (Q_kinit Z k sf h0 n0) v U'.heap L ∧ FrameEnd U o U' L ({ frames := 1, cells := 3, slots := 9, locals := 24 } : Room).cells ({ frames := 1, cells := 3, slots := 9, locals := 24 } : Room).slots) := by
  refine MetFree.of_bodySF (plainFor_of_name own_pn0) hisR ?_
  intro p e s m args below meth c s₁ Bd hml0 hP hK
  obtain ⟨rfl, hZ, hh⟩ := hP
  have hx := Bd.exec
  have hby := Bd.bytes
  have hlk := BodyLoose.notSynchronized Bd
  have hret := Bd.returns
  have hml : c.maxLocals = 3 := hml0
  have hown : s.vm.findClass "com/example/coterie/coterie/runtime/KnownRequests" = some m.cls := findClass_of_methodNamed Bd.named
  have hnm := (name_of_methodNamed Bd.named Bd.method).1
  have X : Stand p l e ({ frames := 1, cells := 3, slots := 9, locals := 24 } : Room) s m #[(.ref k), (.int sf), (.int (3 : Int32))] below meth c s₁ [] 0 0 := Stand.of_body Bd
  have eT : s₁.heap = h0 := by rw [← hh, Bd.state]; rfl
  have N := Fr.nil n0
  have K0 : Keep h0 h0 [k] := Keep.refl _ _
  show own_Go p e below s (Q_kinit Z k sf h0 n0) ({ frames := 1, cells := 3, slots := 9, locals := 24 } : Room).cells ({ frames := 1, cells := 3, slots := 9, locals := 24 } : Room).slots s₁ (entryFrame m #[(.ref k), (.int sf), (.int (3 : Int32))] 3)
  rw [ef_kinit m k sf (3 : Int32)]
  refine own_st (T' := s₁) (g' := (mkF m 1 #[.val (.ref k), .val (.int sf), .val (.int (3 : Int32))] [(.ref k)])) (fun _ zq => XS.aloadN X.here hx rfl (hb hby own_d_prog_86_m1_0) rfl rfl zq) ?_
  obtain ⟨T1, X1, e1, st1⟩ := initO X hx hZ hown (hw _ (List.mem_of_getElem? (i := 7) rfl)) (hw _ (List.mem_of_getElem? (i := 8) rfl)) (hw _ (List.mem_of_getElem? (i := 9) rfl)) eT (g := (mkF m 1 #[.val (.ref k), .val (.int sf), .val (.int (3 : Int32))] [(.ref k)])) rfl (by rw [hml]; rfl) rfl (hb hby own_d_prog_86_m1_1) (by decide) (W := 0) (by show 2 * 0 + _ ≤ _; exact Nat.le_of_eq rfl) (by decide)
  refine own_st (g' := (mkF m 4 #[.val (.ref k), .val (.int sf), .val (.int (3 : Int32))] [])) st1 ?_
  refine own_st (T' := T1) (g' := (mkF m 5 #[.val (.ref k), .val (.int sf), .val (.int (3 : Int32))] [(.ref k)])) (fun _ zq => XS.aloadN X1.here hx rfl (hb hby own_d_prog_86_m1_4) rfl rfl zq) ?_
  refine own_st (T' := T1) (g' := (mkF m 6 #[.val (.ref k), .val (.int sf), .val (.int (3 : Int32))] [(.int sf), (.ref k)])) (fun _ zq => XS.iloadN X1.here hx rfl (hb hby own_d_prog_86_m1_5) rfl zq) ?_
  obtain ⟨T2, h2, X2, e2, W2, st2⟩ := putF X1 hx hZ hown (host := "") (Or.inl (hw _ (List.mem_of_getElem? (i := 10) rfl))) Via.refl e1 F_self E_k (Or.inr ⟨(hw _ (List.mem_of_getElem? (i := 11) rfl)), rfl, hnm⟩) (hw _ (List.mem_of_getElem? (i := 2) rfl)) (ty := .int) (by decide) rfl rfl (g := (mkF m 6 #[.val (.ref k), .val (.int sf), .val (.int (3 : Int32))] [(.int sf), (.ref k)])) rfl rfl (hb hby own_d_prog_86_m1_6)
  replace E_k := E_k.wr W2
  replace F_self := F_self.same W2
  replace F_known := F_known.other W2 (Or.inr (slot_ne (C := "com/example/coterie/coterie/runtime/KnownRequests") (Or.inr (hw _ (List.mem_of_getElem? (i := 14) rfl))) (Or.inr (hw _ (List.mem_of_getElem? (i := 11) rfl))) (by decide) (t := (.array .long)) (by decide) (t' := .int) (by decide)))
  replace F_rose := F_rose.other W2 (Or.inr (slot_ne (C := "com/example/coterie/coterie/runtime/KnownRequests") (Or.inr (hw _ (List.mem_of_getElem? (i := 16) rfl))) (Or.inr (hw _ (List.mem_of_getElem? (i := 11) rfl))) (by decide) (t := (.array .long)) (by decide) (t' := .int) (by decide)))
  replace F_told := F_told.other W2 (Or.inr (slot_ne (C := "com/example/coterie/coterie/runtime/KnownRequests") (Or.inr (hw _ (List.mem_of_getElem? (i := 18) rfl))) (Or.inr (hw _ (List.mem_of_getElem? (i := 11) rfl))) (by decide) (t := (.array .long)) (by decide) (t' := .int) (by decide)))
  replace F_rises := F_rises.other W2 (Or.inr (slot_ne (C := "com/example/coterie/coterie/runtime/KnownRequests") (Or.inl (hw _ (List.mem_of_getElem? (i := 34) rfl))) (Or.inr (hw _ (List.mem_of_getElem? (i := 11) rfl))) (by decide) (t := .long) (by decide) (t' := .int) (by decide)))
  replace Zs := Nat.le_trans Zs (Keep.of_wr W2).1
  replace K0 := K0.wr W2 (Or.inl (List.mem_of_getElem? (i := 0) rfl))
  replace N := Fr.snoc X2 N g_k
  refine own_st (g' := (mkF m 9 #[.val (.ref k), .val (.int sf), .val (.int (3 : Int32))] [])) st2 ?_
  refine own_st (T' := T2) (g' := (mkF m 10 #[.val (.ref k), .val (.int sf), .val (.int (3 : Int32))] [(.ref k)])) (fun _ zq => XS.aloadN X2.here hx rfl (hb hby own_d_prog_86_m1_9) rfl rfl zq) ?_
  refine own_st (T' := T2) (g' := (mkF m 11 #[.val (.ref k), .val (.int sf), .val (.int (3 : Int32))] [(.int (3 : Int32)), (.ref k)])) (fun _ zq => XS.iloadN X2.here hx rfl (hb hby own_d_prog_86_m1_10) rfl zq) ?_
  obtain ⟨T3, h3, k3, X3, e3, E3, A3, EA3, st3⟩ := newPE X2 hx hZ (hw _ (List.mem_of_getElem? (i := 12) rfl)) e2 (g := (mkF m 11 #[.val (.ref k), .val (.int sf), .val (.int (3 : Int32))] [(.int (3 : Int32)), (.ref k)])) rfl (hb hby own_d_prog_86_m1_11) rfl (by decide) (cap := 3) (by decide) (by decide) (by decide) (by decide) (ad := "[J") (by decide)
  obtain ⟨b3, ga3⟩ : ∃ z, z = h2.size := ⟨_, rfl⟩
  rw [← ga3] at A3 EA3 st3
  have g_b3 : n0 ≤ b3 := Nat.le_trans Zs (Nat.le_of_eq ga3.symm)
  have sz_b3 : h0.size ≤ b3 := Nat.le_trans K0.1 (Nat.le_of_eq ga3.symm)
  have ne_k_b3 : k ≠ b3 := fun q => Nat.lt_irrefl _ (Nat.lt_of_lt_of_eq E_k.lt (ga3.symm.trans q.symm))
  replace E_k := E_k.ext E3
  replace F_self := F_self.ext E3
  replace F_known := F_known.ext E3
  replace F_rose := F_rose.ext E3
  replace F_told := F_told.ext E3
  replace F_rises := F_rises.ext E3
  replace Zs := Nat.le_trans Zs E3.1
  replace K0 := K0.ext E3
  have V_b3 : own_AV Z h3 b3 .long 3 (fun _ => .long (0 : Int64)) := own_AV.new A3 rfl
  refine own_st (g' := (mkF m 13 #[.val (.ref k), .val (.int sf), .val (.int (3 : Int32))] [(.ref b3), (.ref k)])) st3 ?_
  obtain ⟨T4, h4, X4, e4, W4, st4⟩ := putF X3 hx hZ hown (host := "") (Or.inl (hw _ (List.mem_of_getElem? (i := 13) rfl))) Via.refl e3 F_known E_k (Or.inr ⟨(hw _ (List.mem_of_getElem? (i := 14) rfl)), rfl, hnm⟩) (hw _ (List.mem_of_getElem? (i := 2) rfl)) (ty := (.array .long)) (by decide) rfl rfl (g := (mkF m 13 #[.val (.ref k), .val (.int sf), .val (.int (3 : Int32))] [(.ref b3), (.ref k)])) rfl rfl (hb hby own_d_prog_86_m1_13)
  replace E_k := E_k.wr W4
  replace F_self := F_self.other W4 (Or.inr (slot_ne (C := "com/example/coterie/coterie/runtime/KnownRequests") (Or.inr (hw _ (List.mem_of_getElem? (i := 11) rfl))) (Or.inr (hw _ (List.mem_of_getElem? (i := 14) rfl))) (by decide) (t := .int) (by decide) (t' := (.array .long)) (by decide)))
  replace F_known := F_known.same W4
  replace F_rose := F_rose.other W4 (Or.inr (slot_ne (C := "com/example/coterie/coterie/runtime/KnownRequests") (Or.inr (hw _ (List.mem_of_getElem? (i := 16) rfl))) (Or.inr (hw _ (List.mem_of_getElem? (i := 14) rfl))) (by decide) (t := (.array .long)) (by decide) (t' := (.array .long)) (by decide)))
  replace F_told := F_told.other W4 (Or.inr (slot_ne (C := "com/example/coterie/coterie/runtime/KnownRequests") (Or.inr (hw _ (List.mem_of_getElem? (i := 18) rfl))) (Or.inr (hw _ (List.mem_of_getElem? (i := 14) rfl))) (by decide) (t := (.array .long)) (by decide) (t' := (.array .long)) (by decide)))
  replace F_rises := F_rises.other W4 (Or.inr (slot_ne (C := "com/example/coterie/coterie/runtime/KnownRequests") (Or.inl (hw _ (List.mem_of_getElem? (i := 34) rfl))) (Or.inr (hw _ (List.mem_of_getElem? (i := 14) rfl))) (by decide) (t := .long) (by decide) (t' := (.array .long)) (by decide)))
  replace EA3 := EA3.wr W4
  replace V_b3 := V_b3.other W4 ne_k_b3.symm
  replace Zs := Nat.le_trans Zs (Keep.of_wr W4).1
  replace K0 := K0.wr W4 (Or.inl (List.mem_of_getElem? (i := 0) rfl))
  replace N := Fr.snoc X4 N g_k
  refine own_st (g' := (mkF m 16 #[.val (.ref k), .val (.int sf), .val (.int (3 : Int32))] [])) st4 ?_
  refine own_st (T' := T4) (g' := (mkF m 17 #[.val (.ref k), .val (.int sf), .val (.int (3 : Int32))] [(.ref k)])) (fun _ zq => XS.aloadN X4.here hx rfl (hb hby own_d_prog_86_m1_16) rfl rfl zq) ?_
  refine own_st (T' := T4) (g' := (mkF m 18 #[.val (.ref k), .val (.int sf), .val (.int (3 : Int32))] [(.int (3 : Int32)), (.ref k)])) (fun _ zq => XS.iloadN X4.here hx rfl (hb hby own_d_prog_86_m1_17) rfl zq) ?_
  obtain ⟨T5, h5, k5, X5, e5, E5, A5, st5⟩ := newP X4 hx hZ (hw _ (List.mem_of_getElem? (i := 12) rfl)) e4 (g := (mkF m 18 #[.val (.ref k), .val (.int sf), .val (.int (3 : Int32))] [(.int (3 : Int32)), (.ref k)])) rfl (hb hby own_d_prog_86_m1_18) rfl (by decide) (cap := 3) (by decide) (by decide) (by decide) (by decide)
  obtain ⟨b5, ga5⟩ : ∃ z, z = h4.size := ⟨_, rfl⟩
  rw [← ga5] at A5 st5
  have g_b5 : n0 ≤ b5 := Nat.le_trans Zs (Nat.le_of_eq ga5.symm)
  have sz_b5 : h0.size ≤ b5 := Nat.le_trans K0.1 (Nat.le_of_eq ga5.symm)
  have ne_k_b5 : k ≠ b5 := fun q => Nat.lt_irrefl _ (Nat.lt_of_lt_of_eq E_k.lt (ga5.symm.trans q.symm))
  have ne_b3_b5 : b3 ≠ b5 := fun q => Nat.lt_irrefl _ (Nat.lt_of_lt_of_eq EA3.lt (ga5.symm.trans q.symm))
  replace E_k := E_k.ext E5
  replace F_self := F_self.ext E5
  replace F_known := F_known.ext E5
  replace F_rose := F_rose.ext E5
  replace F_told := F_told.ext E5
  replace F_rises := F_rises.ext E5
  replace EA3 := EA3.ext E5
  replace V_b3 := V_b3.ext E5
  replace Zs := Nat.le_trans Zs E5.1
  replace K0 := K0.ext E5
  have V_b5 : own_AV Z h5 b5 .long 3 (fun _ => .long (0 : Int64)) := own_AV.new A5 rfl
  refine own_st (g' := (mkF m 20 #[.val (.ref k), .val (.int sf), .val (.int (3 : Int32))] [(.ref b5), (.ref k)])) st5 ?_
  obtain ⟨T6, h6, X6, e6, W6, st6⟩ := putF X5 hx hZ hown (host := "") (Or.inl (hw _ (List.mem_of_getElem? (i := 15) rfl))) Via.refl e5 F_rose E_k (Or.inr ⟨(hw _ (List.mem_of_getElem? (i := 16) rfl)), rfl, hnm⟩) (hw _ (List.mem_of_getElem? (i := 2) rfl)) (ty := (.array .long)) (by decide) rfl rfl (g := (mkF m 20 #[.val (.ref k), .val (.int sf), .val (.int (3 : Int32))] [(.ref b5), (.ref k)])) rfl rfl (hb hby own_d_prog_86_m1_20)
  replace E_k := E_k.wr W6
  replace F_self := F_self.other W6 (Or.inr (slot_ne (C := "com/example/coterie/coterie/runtime/KnownRequests") (Or.inr (hw _ (List.mem_of_getElem? (i := 11) rfl))) (Or.inr (hw _ (List.mem_of_getElem? (i := 16) rfl))) (by decide) (t := .int) (by decide) (t' := (.array .long)) (by decide)))
  replace F_known := F_known.other W6 (Or.inr (slot_ne (C := "com/example/coterie/coterie/runtime/KnownRequests") (Or.inr (hw _ (List.mem_of_getElem? (i := 14) rfl))) (Or.inr (hw _ (List.mem_of_getElem? (i := 16) rfl))) (by decide) (t := (.array .long)) (by decide) (t' := (.array .long)) (by decide)))
  replace F_rose := F_rose.same W6
  replace F_told := F_told.other W6 (Or.inr (slot_ne (C := "com/example/coterie/coterie/runtime/KnownRequests") (Or.inr (hw _ (List.mem_of_getElem? (i := 18) rfl))) (Or.inr (hw _ (List.mem_of_getElem? (i := 16) rfl))) (by decide) (t := (.array .long)) (by decide) (t' := (.array .long)) (by decide)))
  replace F_rises := F_rises.other W6 (Or.inr (slot_ne (C := "com/example/coterie/coterie/runtime/KnownRequests") (Or.inl (hw _ (List.mem_of_getElem? (i := 34) rfl))) (Or.inr (hw _ (List.mem_of_getElem? (i := 16) rfl))) (by decide) (t := .long) (by decide) (t' := (.array .long)) (by decide)))
  replace EA3 := EA3.wr W6
  replace V_b3 := V_b3.other W6 ne_k_b3.symm
  replace V_b5 := V_b5.other W6 ne_k_b5.symm
  replace Zs := Nat.le_trans Zs (Keep.of_wr W6).1
  replace K0 := K0.wr W6 (Or.inl (List.mem_of_getElem? (i := 0) rfl))
  replace N := Fr.snoc X6 N g_k
  refine own_st (g' := (mkF m 23 #[.val (.ref k), .val (.int sf), .val (.int (3 : Int32))] [])) st6 ?_
  refine own_st (T' := T6) (g' := (mkF m 24 #[.val (.ref k), .val (.int sf), .val (.int (3 : Int32))] [(.ref k)])) (fun _ zq => XS.aloadN X6.here hx rfl (hb hby own_d_prog_86_m1_23) rfl rfl zq) ?_
  refine own_st (T' := T6) (g' := (mkF m 25 #[.val (.ref k), .val (.int sf), .val (.int (3 : Int32))] [(.int (3 : Int32)), (.ref k)])) (fun _ zq => XS.iloadN X6.here hx rfl (hb hby own_d_prog_86_m1_24) rfl zq) ?_
  obtain ⟨T7, h7, k7, X7, e7, E7, A7, st7⟩ := newP X6 hx hZ (hw _ (List.mem_of_getElem? (i := 12) rfl)) e6 (g := (mkF m 25 #[.val (.ref k), .val (.int sf), .val (.int (3 : Int32))] [(.int (3 : Int32)), (.ref k)])) rfl (hb hby own_d_prog_86_m1_25) rfl (by decide) (cap := 3) (by decide) (by decide) (by decide) (by decide)
  obtain ⟨b7, ga7⟩ : ∃ z, z = h6.size := ⟨_, rfl⟩
  rw [← ga7] at A7 st7
  have g_b7 : n0 ≤ b7 := Nat.le_trans Zs (Nat.le_of_eq ga7.symm)
  have sz_b7 : h0.size ≤ b7 := Nat.le_trans K0.1 (Nat.le_of_eq ga7.symm)
  have ne_k_b7 : k ≠ b7 := fun q => Nat.lt_irrefl _ (Nat.lt_of_lt_of_eq E_k.lt (ga7.symm.trans q.symm))
  have ne_b3_b7 : b3 ≠ b7 := fun q => Nat.lt_irrefl _ (Nat.lt_of_lt_of_eq EA3.lt (ga7.symm.trans q.symm))
  have ne_b5_b7 : b5 ≠ b7 := fun q => Nat.lt_irrefl _ (Nat.lt_of_lt_of_eq V_b5.lt (ga7.symm.trans q.symm))
  replace E_k := E_k.ext E7
  replace F_self := F_self.ext E7
  replace F_known := F_known.ext E7
  replace F_rose := F_rose.ext E7
  replace F_told := F_told.ext E7
  replace F_rises := F_rises.ext E7
  replace EA3 := EA3.ext E7
  replace V_b3 := V_b3.ext E7
  replace V_b5 := V_b5.ext E7
  replace Zs := Nat.le_trans Zs E7.1
  replace K0 := K0.ext E7
  have V_b7 : own_AV Z h7 b7 .long 3 (fun _ => .long (0 : Int64)) := own_AV.new A7 rfl
  refine own_st (g' := (mkF m 27 #[.val (.ref k), .val (.int sf), .val (.int (3 : Int32))] [(.ref b7), (.ref k)])) st7 ?_
  obtain ⟨T8, h8, X8, e8, W8, st8⟩ := putF X7 hx hZ hown (host := "") (Or.inl (hw _ (List.mem_of_getElem? (i := 17) rfl))) Via.refl e7 F_told E_k (Or.inr ⟨(hw _ (List.mem_of_getElem? (i := 18) rfl)), rfl, hnm⟩) (hw _ (List.mem_of_getElem? (i := 2) rfl)) (ty := (.array .long)) (by decide) rfl rfl (g := (mkF m 27 #[.val (.ref k), .val (.int sf), .val (.int (3 : Int32))] [(.ref b7), (.ref k)])) rfl rfl (hb hby own_d_prog_86_m1_27)
  replace E_k := E_k.wr W8
  replace F_self := F_self.other W8 (Or.inr (slot_ne (C := "com/example/coterie/coterie/runtime/KnownRequests") (Or.inr (hw _ (List.mem_of_getElem? (i := 11) rfl))) (Or.inr (hw _ (List.mem_of_getElem? (i := 18) rfl))) (by decide) (t := .int) (by decide) (t' := (.array .long)) (by decide)))
  replace F_known := F_known.other W8 (Or.inr (slot_ne (C := "com/example/coterie/coterie/runtime/KnownRequests") (Or.inr (hw _ (List.mem_of_getElem? (i := 14) rfl))) (Or.inr (hw _ (List.mem_of_getElem? (i := 18) rfl))) (by decide) (t := (.array .long)) (by decide) (t' := (.array .long)) (by decide)))
  replace F_rose := F_rose.other W8 (Or.inr (slot_ne (C := "com/example/coterie/coterie/runtime/KnownRequests") (Or.inr (hw _ (List.mem_of_getElem? (i := 16) rfl))) (Or.inr (hw _ (List.mem_of_getElem? (i := 18) rfl))) (by decide) (t := (.array .long)) (by decide) (t' := (.array .long)) (by decide)))
  replace F_told := F_told.same W8
  replace F_rises := F_rises.other W8 (Or.inr (slot_ne (C := "com/example/coterie/coterie/runtime/KnownRequests") (Or.inl (hw _ (List.mem_of_getElem? (i := 34) rfl))) (Or.inr (hw _ (List.mem_of_getElem? (i := 18) rfl))) (by decide) (t := .long) (by decide) (t' := (.array .long)) (by decide)))
  replace EA3 := EA3.wr W8
  replace V_b3 := V_b3.other W8 ne_k_b3.symm
  replace V_b5 := V_b5.other W8 ne_k_b5.symm
  replace V_b7 := V_b7.other W8 ne_k_b7.symm
  replace Zs := Nat.le_trans Zs (Keep.of_wr W8).1
  replace K0 := K0.wr W8 (Or.inl (List.mem_of_getElem? (i := 0) rfl))
  replace N := Fr.snoc X8 N g_k
  refine own_st (g' := (mkF m 30 #[.val (.ref k), .val (.int sf), .val (.int (3 : Int32))] [])) st8 ?_
  exact own_ret0 X8 hx hret hlk (hb hby own_d_prog_86_m1_30) e8 (Nat.le_of_ble_eq_true rfl) (Nat.le_of_ble_eq_true rfl) ⟨b3, b5, b7, rfl, N, K0, ⟨E_k, F_self, F_known, F_rose, F_told, F_rises, V_b3, V_b5, V_b7, EA3⟩, ne_k_b3, ne_k_b5, ne_k_b7, ne_b3_b5, ne_b3_b7, ne_b5_b7, g_b3, g_b5, g_b7, sz_b3, sz_b5, sz_b7⟩
def Q_rise (Z : State) (k : Addr) (aK : Addr) (aR : Addr) (aT : Addr) (sf : Int32) (K : Nat → Int64) (Rr : Nat → Int64) (Tt : Nat → Int64) (rs : Int64) (m_ : Int32) (mn : Nat) (v_ : Int64) (h0 : Heap) (n0 : Nat) (v : Option Value) (h : Heap) (L : List Loc) : Prop := v = none ∧ Fr n0 L ∧ (Keep h0 h [k, aK, aR, aT]) ∧ (own_KR Z h k aK aR aT sf (own_upd K mn v_) (own_upd Rr mn (rs + 1)) Tt (rs + 1))
theorem ef_rise (m : MethodId) (x0 : Addr) (x1 : Int32) (x2 : Int64)  : entryFrame m #[(.ref x0), (.int x1), (.long x2)] 4 = mkF m 0 #[.val (.ref x0), .val (.int x1), .val (.long x2), .second] [] := by first | (simp [entryFrame, mkF, argsToLocals, Value.category]; done) | rfl
set_option maxRecDepth 65536 in
set_option maxHeartbeats 40000000 in
theorem rm_rise (l : Launch) (Z : State) (a0 : Array Value) (hw : ∀ d ∈ tables_1, d.before a0 Z = true) (ws : List Jvm.Cond) (k : Addr) (aK : Addr) (aR : Addr) (aT : Addr) (sf : Int32) (K : Nat → Int64) (Rr : Nat → Int64) (Tt : Nat → Int64) (rs : Int64) (m_ : Int32) (mn : Nat) (v_ : Int64) (h0 : Heap) (n0 : Nat) (Zs : n0 ≤ h0.size) (BB : own_KR Z h0 k aK aR aT sf K Rr Tt rs) (hm : m_.toInt = (mn : Int)) (hlt : mn < 3) (n1 : k ≠ aK) (n2 : k ≠ aR) (n3 : k ≠ aT) (n4 : aK ≠ aR) (n5 : aK ≠ aT) (n6 : aR ≠ aT) (g_k : n0 ≤ k) (g_aK : n0 ≤ aK) (g_aR : n0 ≤ aR) (g_aT : n0 ≤ aT) :
    MetFree l (⟨"com/example/coterie/coterie/runtime/KnownRequests", "rise", "(IJ)V"⟩ : MethodName) (head1 (Jvm.Cond.code (⟨"com/example/coterie/coterie/runtime/KnownRequests", "rise", "(IJ)V"⟩ : MethodName) prog_86_method_6_code 4 none :: ws) ({ frames := 0, cells := 0, slots := 0, locals := 0 } : Room)) (fun a U => a = #[(.ref k), (.int m_), (.long v_)] ∧ Z.Warmed39 U.vm ∧ U.heap = h0) (fun _ _ _ _ _ => True) (fun _ U o U' => ∃ v L, o = .returned v ∧ (Q_rise Z k aK aR aT sf K Rr Tt rs m_ mn v_ h0 n0) v U'.heap L ∧ FrameEnd U o U' L ({ frames := 0, cells := 0, slots := 0, locals := 0 } : Room).cells ({ frames := 0, cells := 0, slots := 0, locals := 0 } : Room).slots) := by
  refine MetFree.of_bodySF (plainFor_of_name own_pn0) hisR ?_
  intro p e s m args below meth c s₁ Bd hml0 hP hK
  obtain ⟨rfl, hZ, hh⟩ := hP
  have hx := Bd.exec
  have hby := Bd.bytes
  have hlk := BodyLoose.notSynchronized Bd
  have hret := Bd.returns
  have hml : c.maxLocals = 4 := hml0
  have hown : s.vm.findClass "com/example/coterie/coterie/runtime/KnownRequests" = some m.cls := findClass_of_methodNamed Bd.named
  have hnm := (name_of_methodNamed Bd.named Bd.method).1
  have X : Stand p l e ({ frames := 0, cells := 0, slots := 0, locals := 0 } : Room) s m #[(.ref k), (.int m_), (.long v_)] below meth c s₁ [] 0 0 := Stand.of_body Bd
  have eT : s₁.heap = h0 := by rw [← hh, Bd.state]; rfl
  have N := Fr.nil n0
  have K0 : Keep h0 h0 [k, aK, aR, aT] := Keep.refl _ _
  show own_Go p e below s (Q_rise Z k aK aR aT sf K Rr Tt rs m_ mn v_ h0 n0) ({ frames := 0, cells := 0, slots := 0, locals := 0 } : Room).cells ({ frames := 0, cells := 0, slots := 0, locals := 0 } : Room).slots s₁ (entryFrame m #[(.ref k), (.int m_), (.long v_)] 4)
  rw [ef_rise m k m_ v_]
  obtain ⟨E_k, F_self, F_known, F_rose, F_told, F_rises, V_K, V_R, V_T, E_aK⟩ := BB
  refine own_st (T' := s₁) (g' := (mkF m 1 #[.val (.ref k), .val (.int m_), .val (.long v_), .second] [(.ref k)])) (fun _ zq => XS.aloadN X.here hx rfl (hb hby own_d_prog_86_m6_0) rfl rfl zq) ?_
  obtain ⟨T9, X9, e9, st9⟩ := getF X hx hZ hown (host := "") (Or.inl (hw _ (List.mem_of_getElem? (i := 13) rfl))) Via.refl eT F_known (g := (mkF m 1 #[.val (.ref k), .val (.int m_), .val (.long v_), .second] [(.ref k)])) rfl rfl (hb hby own_d_prog_86_m6_1)
  refine own_st (g' := (mkF m 4 #[.val (.ref k), .val (.int m_), .val (.long v_), .second] [(.ref aK)])) st9 ?_
  refine own_st (T' := T9) (g' := (mkF m 5 #[.val (.ref k), .val (.int m_), .val (.long v_), .second] [(.int m_), (.ref aK)])) (fun _ zq => XS.iloadN X9.here hx rfl (hb hby own_d_prog_86_m6_4) rfl zq) ?_
  refine own_st (T' := T9) (g' := (mkF m 6 #[.val (.ref k), .val (.int m_), .val (.long v_), .second] [(.long v_), (.int m_), (.ref aK)])) (fun _ zq => XS.lloadN X9.here hx rfl (hb hby own_d_prog_86_m6_5) rfl zq) ?_
  obtain ⟨T10, h10, X10, e10, W10, V10, st10⟩ := own_stJ X9 hx hZ e9 V_K (j := m_) (mn) hm hlt (g := (mkF m 6 #[.val (.ref k), .val (.int m_), .val (.long v_), .second] [(.long v_), (.int m_), (.ref aK)])) rfl rfl (hb hby own_d_prog_86_m6_6)
  replace E_k := E_k.wr W10
  replace F_self := F_self.other W10 (Or.inl n1)
  replace F_known := F_known.other W10 (Or.inl n1)
  replace F_rose := F_rose.other W10 (Or.inl n1)
  replace F_told := F_told.other W10 (Or.inl n1)
  replace F_rises := F_rises.other W10 (Or.inl n1)
  replace V_R := V_R.other W10 n4.symm
  replace V_T := V_T.other W10 n5.symm
  replace E_aK := E_aK.wr W10
  replace Zs := Nat.le_trans Zs (Keep.of_wr W10).1
  replace K0 := K0.wr W10 (Or.inl (List.mem_of_getElem? (i := 1) rfl))
  replace V_K : own_AV Z h10 aK .long 3 (fun i => .long ((own_upd K mn v_) i)) := V10.cong (own_updL _ _ _)
  replace N := Fr.snoc X10 N g_aK
  refine own_st (g' := (mkF m 7 #[.val (.ref k), .val (.int m_), .val (.long v_), .second] [])) st10 ?_
  refine own_st (T' := T10) (g' := (mkF m 8 #[.val (.ref k), .val (.int m_), .val (.long v_), .second] [(.ref k)])) (fun _ zq => XS.aloadN X10.here hx rfl (hb hby own_d_prog_86_m6_7) rfl rfl zq) ?_
  refine own_st (T' := T10) (g' := (mkF m 9 #[.val (.ref k), .val (.int m_), .val (.long v_), .second] [(.ref k), (.ref k)])) (fun _ zq => XS.dup X10.here hx rfl (hb hby own_d_prog_86_m6_8) rfl rfl zq) ?_
  obtain ⟨T11, X11, e11, st11⟩ := getF X10 hx hZ hown (host := "") (Or.inl (hw _ (List.mem_of_getElem? (i := 33) rfl))) Via.refl e10 F_rises (g := (mkF m 9 #[.val (.ref k), .val (.int m_), .val (.long v_), .second] [(.ref k), (.ref k)])) rfl rfl (hb hby own_d_prog_86_m6_9)
  refine own_st (g' := (mkF m 12 #[.val (.ref k), .val (.int m_), .val (.long v_), .second] [(.long rs), (.ref k)])) st11 ?_
  refine own_st (T' := T11) (g' := (mkF m 13 #[.val (.ref k), .val (.int m_), .val (.long v_), .second] [(.long (1 : Int64)), (.long rs), (.ref k)])) (fun _ zq => XS.lconst X11.here hx rfl (hb hby own_d_prog_86_m6_12) zq) ?_
  refine own_st (T' := T11) (g' := (mkF m 14 #[.val (.ref k), .val (.int m_), .val (.long v_), .second] [(.long (rs + (1 : Int64))), (.ref k)])) (fun _ zq => XS.ladd X11.here hx rfl (hb hby own_d_prog_86_m6_13) rfl zq) ?_
  obtain ⟨T12, h12, X12, e12, W12, st12⟩ := putF X11 hx hZ hown (host := "") (Or.inl (hw _ (List.mem_of_getElem? (i := 33) rfl))) Via.refl e11 F_rises E_k (Or.inl (hw _ (List.mem_of_getElem? (i := 34) rfl))) (hw _ (List.mem_of_getElem? (i := 2) rfl)) (ty := .long) (by decide) rfl rfl (g := (mkF m 14 #[.val (.ref k), .val (.int m_), .val (.long v_), .second] [(.long (rs + (1 : Int64))), (.ref k)])) rfl rfl (hb hby own_d_prog_86_m6_14)
  replace E_k := E_k.wr W12
  replace F_self := F_self.other W12 (Or.inr (slot_ne (C := "com/example/coterie/coterie/runtime/KnownRequests") (Or.inr (hw _ (List.mem_of_getElem? (i := 11) rfl))) (Or.inl (hw _ (List.mem_of_getElem? (i := 34) rfl))) (by decide) (t := .int) (by decide) (t' := .long) (by decide)))
  replace F_known := F_known.other W12 (Or.inr (slot_ne (C := "com/example/coterie/coterie/runtime/KnownRequests") (Or.inr (hw _ (List.mem_of_getElem? (i := 14) rfl))) (Or.inl (hw _ (List.mem_of_getElem? (i := 34) rfl))) (by decide) (t := (.array .long)) (by decide) (t' := .long) (by decide)))
  replace F_rose := F_rose.other W12 (Or.inr (slot_ne (C := "com/example/coterie/coterie/runtime/KnownRequests") (Or.inr (hw _ (List.mem_of_getElem? (i := 16) rfl))) (Or.inl (hw _ (List.mem_of_getElem? (i := 34) rfl))) (by decide) (t := (.array .long)) (by decide) (t' := .long) (by decide)))
  replace F_told := F_told.other W12 (Or.inr (slot_ne (C := "com/example/coterie/coterie/runtime/KnownRequests") (Or.inr (hw _ (List.mem_of_getElem? (i := 18) rfl))) (Or.inl (hw _ (List.mem_of_getElem? (i := 34) rfl))) (by decide) (t := (.array .long)) (by decide) (t' := .long) (by decide)))
  replace F_rises := F_rises.same W12
  replace V_K := V_K.other W12 n1.symm
  replace V_R := V_R.other W12 n2.symm
  replace V_T := V_T.other W12 n3.symm
  replace E_aK := E_aK.wr W12
  replace Zs := Nat.le_trans Zs (Keep.of_wr W12).1
  replace K0 := K0.wr W12 (Or.inl (List.mem_of_getElem? (i := 0) rfl))
  replace N := Fr.snoc X12 N g_k
  refine own_st (g' := (mkF m 17 #[.val (.ref k), .val (.int m_), .val (.long v_), .second] [])) st12 ?_
  refine own_st (T' := T12) (g' := (mkF m 18 #[.val (.ref k), .val (.int m_), .val (.long v_), .second] [(.ref k)])) (fun _ zq => XS.aloadN X12.here hx rfl (hb hby own_d_prog_86_m6_17) rfl rfl zq) ?_
  obtain ⟨T13, X13, e13, st13⟩ := getF X12 hx hZ hown (host := "") (Or.inl (hw _ (List.mem_of_getElem? (i := 15) rfl))) Via.refl e12 F_rose (g := (mkF m 18 #[.val (.ref k), .val (.int m_), .val (.long v_), .second] [(.ref k)])) rfl rfl (hb hby own_d_prog_86_m6_18)
  refine own_st (g' := (mkF m 21 #[.val (.ref k), .val (.int m_), .val (.long v_), .second] [(.ref aR)])) st13 ?_
  refine own_st (T' := T13) (g' := (mkF m 22 #[.val (.ref k), .val (.int m_), .val (.long v_), .second] [(.int m_), (.ref aR)])) (fun _ zq => XS.iloadN X13.here hx rfl (hb hby own_d_prog_86_m6_21) rfl zq) ?_
  refine own_st (T' := T13) (g' := (mkF m 23 #[.val (.ref k), .val (.int m_), .val (.long v_), .second] [(.ref k), (.int m_), (.ref aR)])) (fun _ zq => XS.aloadN X13.here hx rfl (hb hby own_d_prog_86_m6_22) rfl rfl zq) ?_
  obtain ⟨T14, X14, e14, st14⟩ := getF X13 hx hZ hown (host := "") (Or.inl (hw _ (List.mem_of_getElem? (i := 33) rfl))) Via.refl e13 F_rises (g := (mkF m 23 #[.val (.ref k), .val (.int m_), .val (.long v_), .second] [(.ref k), (.int m_), (.ref aR)])) rfl rfl (hb hby own_d_prog_86_m6_23)
  refine own_st (g' := (mkF m 26 #[.val (.ref k), .val (.int m_), .val (.long v_), .second] [(.long (rs + (1 : Int64))), (.int m_), (.ref aR)])) st14 ?_
  obtain ⟨T15, h15, X15, e15, W15, V15, st15⟩ := own_stJ X14 hx hZ e14 V_R (j := m_) (mn) hm hlt (g := (mkF m 26 #[.val (.ref k), .val (.int m_), .val (.long v_), .second] [(.long (rs + (1 : Int64))), (.int m_), (.ref aR)])) rfl rfl (hb hby own_d_prog_86_m6_26)
  replace E_k := E_k.wr W15
  replace F_self := F_self.other W15 (Or.inl n2)
  replace F_known := F_known.other W15 (Or.inl n2)
  replace F_rose := F_rose.other W15 (Or.inl n2)
  replace F_told := F_told.other W15 (Or.inl n2)
  replace F_rises := F_rises.other W15 (Or.inl n2)
  replace V_K := V_K.other W15 n4
  replace V_T := V_T.other W15 n6.symm
  replace E_aK := E_aK.wr W15
  replace Zs := Nat.le_trans Zs (Keep.of_wr W15).1
  replace K0 := K0.wr W15 (Or.inl (List.mem_of_getElem? (i := 2) rfl))
  replace V_R : own_AV Z h15 aR .long 3 (fun i => .long ((own_upd Rr mn (rs + (1 : Int64))) i)) := V15.cong (own_updL _ _ _)
  replace N := Fr.snoc X15 N g_aR
  refine own_st (g' := (mkF m 27 #[.val (.ref k), .val (.int m_), .val (.long v_), .second] [])) st15 ?_
  exact own_ret0 X15 hx hret hlk (hb hby own_d_prog_86_m6_27) e15 (Nat.le_of_ble_eq_true rfl) (Nat.le_of_ble_eq_true rfl) ⟨rfl, N, K0, ⟨E_k, F_self, F_known, F_rose, F_told, F_rises, V_K, V_R, V_T, E_aK⟩⟩
def Q_untold (Z : State) (k : Addr) (aK : Addr) (aR : Addr) (aT : Addr) (sf : Int32) (K : Nat → Int64) (Rr : Nat → Int64) (Tt : Nat → Int64) (rs : Int64) (m_ : Int32) (mn : Nat) (r_ : Int32) (rn : Nat) (h0 : Heap) (n0 : Nat) (v : Option Value) (h : Heap) (L : List Loc) : Prop := v = some (.int (if own_u Rr Tt rn mn = true then 1 else 0)) ∧ Fr n0 L ∧ (h = h0)
theorem ef_untold (m : MethodId) (x0 : Addr) (x1 : Int32) (x2 : Int32)  : entryFrame m #[(.ref x0), (.int x1), (.int x2)] 3 = mkF m 0 #[.val (.ref x0), .val (.int x1), .val (.int x2)] [] := by first | (simp [entryFrame, mkF, argsToLocals, Value.category]; done) | rfl
set_option maxRecDepth 65536 in
set_option maxHeartbeats 40000000 in
theorem rm_untold (l : Launch) (Z : State) (a0 : Array Value) (hw : ∀ d ∈ tables_1, d.before a0 Z = true) (ws : List Jvm.Cond) (k : Addr) (aK : Addr) (aR : Addr) (aT : Addr) (sf : Int32) (K : Nat → Int64) (Rr : Nat → Int64) (Tt : Nat → Int64) (rs : Int64) (m_ : Int32) (mn : Nat) (r_ : Int32) (rn : Nat) (h0 : Heap) (n0 : Nat) (Zs : n0 ≤ h0.size) (BB : own_KR Z h0 k aK aR aT sf K Rr Tt rs) (hm : m_.toInt = (mn : Int)) (hlt : mn < 3) (hr : r_.toInt = (rn : Int)) (hlr : rn < 3) :
    MetFree l (⟨"com/example/coterie/coterie/runtime/KnownRequests", "untold", "(II)Z"⟩ : MethodName) (head1 (Jvm.Cond.code (⟨"com/example/coterie/coterie/runtime/KnownRequests", "untold", "(II)Z"⟩ : MethodName) prog_86_method_5_code 3 (some .boolean) :: ws) ({ frames := 0, cells := 0, slots := 0, locals := 0 } : Room)) (fun a U => a = #[(.ref k), (.int m_), (.int r_)] ∧ Z.Warmed39 U.vm ∧ U.heap = h0) (fun _ _ _ _ _ => True) (fun _ U o U' => ∃ v L, o = .returned v ∧ (Q_untold Z k aK aR aT sf K Rr Tt rs m_ mn r_ rn h0 n0) v U'.heap L ∧ FrameEnd U o U' L ({ frames := 0, cells := 0, slots := 0, locals := 0 } : Room).cells ({ frames := 0, cells := 0, slots := 0, locals := 0 } : Room).slots) := by
  refine MetFree.of_bodySF (plainFor_of_name own_pn0) hisR ?_
  intro p e s m args below meth c s₁ Bd hml0 hP hK
  obtain ⟨rfl, hZ, hh⟩ := hP
  have hx := Bd.exec
  have hby := Bd.bytes
  have hlk := BodyLoose.notSynchronized Bd
  have hret := Bd.returns
  have hml : c.maxLocals = 3 := hml0
  have hown : s.vm.findClass "com/example/coterie/coterie/runtime/KnownRequests" = some m.cls := findClass_of_methodNamed Bd.named
  have hnm := (name_of_methodNamed Bd.named Bd.method).1
  have X : Stand p l e ({ frames := 0, cells := 0, slots := 0, locals := 0 } : Room) s m #[(.ref k), (.int m_), (.int r_)] below meth c s₁ [] 0 0 := Stand.of_body Bd
  have eT : s₁.heap = h0 := by rw [← hh, Bd.state]; rfl
  have N := Fr.nil n0
  have K0 : Keep h0 h0 [] := Keep.refl _ _
  show own_Go p e below s (Q_untold Z k aK aR aT sf K Rr Tt rs m_ mn r_ rn h0 n0) ({ frames := 0, cells := 0, slots := 0, locals := 0 } : Room).cells ({ frames := 0, cells := 0, slots := 0, locals := 0 } : Room).slots s₁ (entryFrame m #[(.ref k), (.int m_), (.int r_)] 3)
  rw [ef_untold m k m_ r_]
  obtain ⟨E_k, F_self, F_known, F_rose, F_told, F_rises, V_K, V_R, V_T, E_aK⟩ := BB
  refine own_st (T' := s₁) (g' := (mkF m 1 #[.val (.ref k), .val (.int m_), .val (.int r_)] [(.int m_)])) (fun _ zq => XS.iloadN X.here hx rfl (hb hby own_d_prog_86_m5_0) rfl zq) ?_
  refine own_st (T' := s₁) (g' := (mkF m 2 #[.val (.ref k), .val (.int m_), .val (.int r_)] [(.int r_), (.int m_)])) (fun _ zq => XS.iloadN X.here hx rfl (hb hby own_d_prog_86_m5_1) rfl zq) ?_
  by_cases hc : m_ = r_
  · skip
    refine own_st (T' := s₁) (g' := (mkF m 25 #[.val (.ref k), .val (.int m_), .val (.int r_)] [])) (fun _ zq => XS.icmpYes X.here hx rfl (pc0 := 2) (pc' := 25) rfl (hb hby own_d_prog_86_m5_2) rfl (teq hc).1 (by decide) (by decide) zq) ?_
    refine own_st (T' := s₁) (g' := (mkF m 26 #[.val (.ref k), .val (.int m_), .val (.int r_)] [(.int (0 : Int32))])) (fun _ zq => XS.iconst X.here hx rfl (hb hby own_d_prog_86_m5_25) zq) ?_
    exact own_ret X hx hret hlk (i := .ireturn) rfl (Or.inl ⟨rfl, by decide, _, rfl⟩) (hb hby own_d_prog_86_m5_26) eT (Nat.le_of_ble_eq_true rfl) (Nat.le_of_ble_eq_true rfl) ⟨by rw [if_neg (fun q => (of_decide_eq_true q).1 (by rw [hc, hr] at hm; omega))], N, rfl⟩
  · skip
    refine own_st (T' := s₁) (g' := (mkF m 5 #[.val (.ref k), .val (.int m_), .val (.int r_)] [])) (fun _ zq => XS.icmpNo X.here hx rfl (hb hby own_d_prog_86_m5_2) rfl (feq hc).1 zq) ?_
    refine own_st (T' := s₁) (g' := (mkF m 6 #[.val (.ref k), .val (.int m_), .val (.int r_)] [(.ref k)])) (fun _ zq => XS.aloadN X.here hx rfl (hb hby own_d_prog_86_m5_5) rfl rfl zq) ?_
    obtain ⟨T16, X16, e16, st16⟩ := getF X hx hZ hown (host := "") (Or.inl (hw _ (List.mem_of_getElem? (i := 15) rfl))) Via.refl eT F_rose (g := (mkF m 6 #[.val (.ref k), .val (.int m_), .val (.int r_)] [(.ref k)])) rfl rfl (hb hby own_d_prog_86_m5_6)
    refine own_st (g' := (mkF m 9 #[.val (.ref k), .val (.int m_), .val (.int r_)] [(.ref aR)])) st16 ?_
    refine own_st (T' := T16) (g' := (mkF m 10 #[.val (.ref k), .val (.int m_), .val (.int r_)] [(.int m_), (.ref aR)])) (fun _ zq => XS.iloadN X16.here hx rfl (hb hby own_d_prog_86_m5_9) rfl zq) ?_
    refine own_st (T' := T16) (g' := (mkF m 11 #[.val (.ref k), .val (.int m_), .val (.int r_)] [(.long (Rr mn))])) (own_ldJ X16 hx hZ e16 V_R (j := m_) (mn) hm hlt (w := (.long (Rr mn))) rfl (g := (mkF m 10 #[.val (.ref k), .val (.int m_), .val (.int r_)] [(.int m_), (.ref aR)])) rfl rfl (hb hby own_d_prog_86_m5_10)) ?_
    refine own_st (T' := T16) (g' := (mkF m 12 #[.val (.ref k), .val (.int m_), .val (.int r_)] [(.ref k), (.long (Rr mn))])) (fun _ zq => XS.aloadN X16.here hx rfl (hb hby own_d_prog_86_m5_11) rfl rfl zq) ?_
    obtain ⟨T17, X17, e17, st17⟩ := getF X16 hx hZ hown (host := "") (Or.inl (hw _ (List.mem_of_getElem? (i := 17) rfl))) Via.refl e16 F_told (g := (mkF m 12 #[.val (.ref k), .val (.int m_), .val (.int r_)] [(.ref k), (.long (Rr mn))])) rfl rfl (hb hby own_d_prog_86_m5_12)
    refine own_st (g' := (mkF m 15 #[.val (.ref k), .val (.int m_), .val (.int r_)] [(.ref aT), (.long (Rr mn))])) st17 ?_
    refine own_st (T' := T17) (g' := (mkF m 16 #[.val (.ref k), .val (.int m_), .val (.int r_)] [(.int r_), (.ref aT), (.long (Rr mn))])) (fun _ zq => XS.iloadN X17.here hx rfl (hb hby own_d_prog_86_m5_15) rfl zq) ?_
    refine own_st (T' := T17) (g' := (mkF m 17 #[.val (.ref k), .val (.int m_), .val (.int r_)] [(.long (Tt rn)), (.long (Rr mn))])) (own_ldJ X17 hx hZ e17 V_T (j := r_) (rn) hr hlr (w := (.long (Tt rn))) rfl (g := (mkF m 16 #[.val (.ref k), .val (.int m_), .val (.int r_)] [(.int r_), (.ref aT), (.long (Rr mn))])) rfl rfl (hb hby own_d_prog_86_m5_16)) ?_
    refine own_st (T' := T17) (g' := (mkF m 18 #[.val (.ref k), .val (.int m_), .val (.int r_)] [(.int (lcmpW (Rr mn) (Tt rn)))])) (fun _ zq => XS.lcmp X17.here hx rfl (hb hby own_d_prog_86_m5_17) rfl zq) ?_
    by_cases hd : (Tt rn) < (Rr mn)
    · skip
      refine own_st (T' := T17) (g' := (mkF m 21 #[.val (.ref k), .val (.int m_), .val (.int r_)] [])) (fun _ zq => XS.ifNo X17.here hx rfl (hb hby own_d_prog_86_m5_18) rfl (own_ltlt hd).2.2.2 zq) ?_
      refine own_st (T' := T17) (g' := (mkF m 22 #[.val (.ref k), .val (.int m_), .val (.int r_)] [(.int (1 : Int32))])) (fun _ zq => XS.iconst X17.here hx rfl (hb hby own_d_prog_86_m5_21) zq) ?_
      refine own_st (T' := T17) (g' := (mkF m 26 #[.val (.ref k), .val (.int m_), .val (.int r_)] [(.int (1 : Int32))])) (fun _ zq => XS.goto X17.here hx rfl (pc0 := 22) (pc' := 26) rfl (hb hby own_d_prog_86_m5_22) (by decide) (by decide) zq) ?_
      exact own_ret X17 hx hret hlk (i := .ireturn) rfl (Or.inl ⟨rfl, by decide, _, rfl⟩) (hb hby own_d_prog_86_m5_26) e17 (Nat.le_of_ble_eq_true rfl) (Nat.le_of_ble_eq_true rfl) ⟨by rw [if_pos (decide_eq_true ⟨fun q => hc (Int32.toInt_inj.mp (by rw [hm, hr, q])), hd⟩)], N, rfl⟩
    · skip
      refine own_st (T' := T17) (g' := (mkF m 25 #[.val (.ref k), .val (.int m_), .val (.int r_)] [])) (fun _ zq => XS.ifYes X17.here hx rfl (pc0 := 18) (pc' := 25) rfl (hb hby own_d_prog_86_m5_18) rfl (own_lflt hd).2.2.2 (by decide) (by decide) zq) ?_
      refine own_st (T' := T17) (g' := (mkF m 26 #[.val (.ref k), .val (.int m_), .val (.int r_)] [(.int (0 : Int32))])) (fun _ zq => XS.iconst X17.here hx rfl (hb hby own_d_prog_86_m5_25) zq) ?_
      exact own_ret X17 hx hret hlk (i := .ireturn) rfl (Or.inl ⟨rfl, by decide, _, rfl⟩) (hb hby own_d_prog_86_m5_26) e17 (Nat.le_of_ble_eq_true rfl) (Nat.le_of_ble_eq_true rfl) ⟨by rw [if_neg (fun q => hd (of_decide_eq_true q).2)], N, rfl⟩
def Q_learn2 (Z : State) (k : Addr) (aK : Addr) (aR : Addr) (aT : Addr) (sf : Int32) (K : Nat → Int64) (Rr : Nat → Int64) (Tt : Nat → Int64) (rs : Int64) (am : Addr) (fm : Nat → Value) (m0 : Int32) (mn0 : Nat) (v0 : Int64) (h0 : Heap) (n0 : Nat) (v : Option Value) (h : Heap) (L : List Loc) : Prop := v = none ∧ Fr n0 L ∧ (Keep h0 h [k, aK, aR, aT]) ∧ (own_KR Z h k aK aR aT sf (if K mn0 < v0 then (own_upd K mn0 v0) else K) (if K mn0 < v0 then (own_upd Rr mn0 (rs + 1)) else Rr) Tt (if K mn0 < v0 then rs + 1 else rs))
theorem ef_learn2 (m : MethodId) (x0 : Addr) (x1 : Addr)  : entryFrame m #[(.ref x0), (.ref x1)] 4 = mkF m 0 #[.val (.ref x0), .val (.ref x1), .unset, .unset] [] := by first | (simp [entryFrame, mkF, argsToLocals, Value.category]; done) | rfl
set_option maxRecDepth 65536 in
set_option maxHeartbeats 40000000 in
theorem rm_learn2 (l : Launch) (Z : State) (a0 : Array Value) (hw : ∀ d ∈ tables_1, d.before a0 Z = true) (ws : List Jvm.Cond) (k : Addr) (aK : Addr) (aR : Addr) (aT : Addr) (sf : Int32) (K : Nat → Int64) (Rr : Nat → Int64) (Tt : Nat → Int64) (rs : Int64) (am : Addr) (fm : Nat → Value) (m0 : Int32) (mn0 : Nat) (v0 : Int64) (h0 : Heap) (n0 : Nat) (Zs : n0 ≤ h0.size) (BB : own_KR Z h0 k aK aR aT sf K Rr Tt rs) (V_m : own_AV Z h0 am .long 2 fm) (hm0 : m0.toInt = (mn0 : Int)) (hl0 : mn0 < 3) (ha0 : fm 0 = .long m0.toInt64) (hb0 : fm 1 = .long v0) (n1 : k ≠ aK) (n2 : k ≠ aR) (n3 : k ≠ aT) (n4 : aK ≠ aR) (n5 : aK ≠ aT) (n6 : aR ≠ aT) (g_k : n0 ≤ k) (g_aK : n0 ≤ aK) (g_aR : n0 ≤ aR) (g_aT : n0 ≤ aT) (q1 : am ≠ k) (q2 : am ≠ aK) (q3 : am ≠ aR) (q4 : am ≠ aT) :
    MetFree l (⟨"com/example/coterie/coterie/runtime/KnownRequests", "learn", "([J)V"⟩ : MethodName) (head1 (Jvm.Cond.code (⟨"com/example/coterie/coterie/runtime/KnownRequests", "learn", "([J)V"⟩ : MethodName) prog_86_method_4_code 4 none :: ws) ({ frames := 1, cells := 0, slots := 0, locals := 24 } : Room)) (fun a U => a = #[(.ref k), (.ref am)] ∧ Z.Warmed39 U.vm ∧ U.heap = h0) (fun _ _ _ _ _ => True) (fun _ U o U' => ∃ v L, o = .returned v ∧ (Q_learn2 Z k aK aR aT sf K Rr Tt rs am fm m0 mn0 v0 h0 n0) v U'.heap L ∧ FrameEnd U o U' L ({ frames := 1, cells := 0, slots := 0, locals := 24 } : Room).cells ({ frames := 1, cells := 0, slots := 0, locals := 24 } : Room).slots) := by
  refine MetFree.of_bodySF (plainFor_of_name own_pn0) hisR ?_
  intro p e s m args below meth c s₁ Bd hml0 hP hK
  obtain ⟨rfl, hZ, hh⟩ := hP
  have hx := Bd.exec
  have hby := Bd.bytes
  have hlk := BodyLoose.notSynchronized Bd
  have hret := Bd.returns
  have hml : c.maxLocals = 4 := hml0
  have hown : s.vm.findClass "com/example/coterie/coterie/runtime/KnownRequests" = some m.cls := findClass_of_methodNamed Bd.named
  have hnm := (name_of_methodNamed Bd.named Bd.method).1
  have X : Stand p l e ({ frames := 1, cells := 0, slots := 0, locals := 24 } : Room) s m #[(.ref k), (.ref am)] below meth c s₁ [] 0 0 := Stand.of_body Bd
  have eT : s₁.heap = h0 := by rw [← hh, Bd.state]; rfl
  have N := Fr.nil n0
  have K0 : Keep h0 h0 [k, aK, aR, aT] := Keep.refl _ _
  show own_Go p e below s (Q_learn2 Z k aK aR aT sf K Rr Tt rs am fm m0 mn0 v0 h0 n0) ({ frames := 1, cells := 0, slots := 0, locals := 24 } : Room).cells ({ frames := 1, cells := 0, slots := 0, locals := 24 } : Room).slots s₁ (entryFrame m #[(.ref k), (.ref am)] 4)
  rw [ef_learn2 m k am]
  obtain ⟨E_k, F_self, F_known, F_rose, F_told, F_rises, V_K, V_R, V_T, E_aK⟩ := BB
  refine own_st (T' := s₁) (g' := (mkF m 1 #[.val (.ref k), .val (.ref am), .unset, .unset] [(.int (0 : Int32))])) (fun _ zq => XS.iconst X.here hx rfl (hb hby own_d_prog_86_m4_0) zq) ?_
  refine own_st (T' := s₁) (g' := (mkF m 2 #[.val (.ref k), .val (.ref am), .val (.int (0 : Int32)), .unset] [])) (fun _ zq => XS.istoreN X.here hx rfl (hb hby own_d_prog_86_m4_1) rfl (l' := #[.val (.ref k), .val (.ref am), .val (.int (0 : Int32)), .unset]) rfl zq) ?_
  refine own_st (T' := s₁) (g' := (mkF m 3 #[.val (.ref k), .val (.ref am), .val (.int (0 : Int32)), .unset] [(.int (0 : Int32))])) (fun _ zq => XS.iloadN X.here hx rfl (hb hby own_d_prog_86_m4_2) rfl zq) ?_
  refine own_st (T' := s₁) (g' := (mkF m 4 #[.val (.ref k), .val (.ref am), .val (.int (0 : Int32)), .unset] [(.ref am), (.int (0 : Int32))])) (fun _ zq => XS.aloadN X.here hx rfl (hb hby own_d_prog_86_m4_3) rfl rfl zq) ?_
  refine own_st (T' := s₁) (g' := (mkF m 5 #[.val (.ref k), .val (.ref am), .val (.int (0 : Int32)), .unset] [(.int (2 : Int32)), (.int (0 : Int32))])) (own_len (z := (2 : Int32)) X hx hZ eT V_m rfl (g := (mkF m 4 #[.val (.ref k), .val (.ref am), .val (.int (0 : Int32)), .unset] [(.ref am), (.int (0 : Int32))])) rfl rfl (hb hby own_d_prog_86_m4_4)) ?_
  refine own_st (T' := s₁) (g' := (mkF m 8 #[.val (.ref k), .val (.ref am), .val (.int (0 : Int32)), .unset] [])) (fun _ zq => XS.icmpNo X.here hx rfl (hb hby own_d_prog_86_m4_5) rfl (tlt (by decide)).2.1 zq) ?_
  refine own_st (T' := s₁) (g' := (mkF m 9 #[.val (.ref k), .val (.ref am), .val (.int (0 : Int32)), .unset] [(.ref am)])) (fun _ zq => XS.aloadN X.here hx rfl (hb hby own_d_prog_86_m4_8) rfl rfl zq) ?_
  refine own_st (T' := s₁) (g' := (mkF m 10 #[.val (.ref k), .val (.ref am), .val (.int (0 : Int32)), .unset] [(.int (0 : Int32)), (.ref am)])) (fun _ zq => XS.iloadN X.here hx rfl (hb hby own_d_prog_86_m4_9) rfl zq) ?_
  refine own_st (T' := s₁) (g' := (mkF m 11 #[.val (.ref k), .val (.ref am), .val (.int (0 : Int32)), .unset] [(.long m0.toInt64)])) (own_ldJ X hx hZ eT V_m (j := (0 : Int32)) (0) rfl (by decide) (w := (.long m0.toInt64)) ha0 (g := (mkF m 10 #[.val (.ref k), .val (.ref am), .val (.int (0 : Int32)), .unset] [(.int (0 : Int32)), (.ref am)])) rfl rfl (hb hby own_d_prog_86_m4_10)) ?_
  refine own_st (T' := s₁) (g' := (mkF m 12 #[.val (.ref k), .val (.ref am), .val (.int (0 : Int32)), .unset] [(.int (m0.toInt64.toInt32))])) (fun _ zq => XS.l2i X.here hx rfl (hb hby own_d_prog_86_m4_11) rfl zq) ?_
  refine own_nm (f := fun z_ => (mkF m 12 #[.val (.ref k), .val (.ref am), .val (.int (0 : Int32)), .unset] [(.int z_)])) (m0.toInt64.toInt32) (fun j0 hj0 => ?_)
  show own_Go p e below s (Q_learn2 Z k aK aR aT sf K Rr Tt rs am fm m0 mn0 v0 h0 n0) ({ frames := 1, cells := 0, slots := 0, locals := 24 } : Room).cells ({ frames := 1, cells := 0, slots := 0, locals := 24 } : Room).slots s₁ (mkF m 12 #[.val (.ref k), .val (.ref am), .val (.int (0 : Int32)), .unset] [(.int j0)])
  have hi0 : j0.toInt = (mn0 : Int) := by rw [hj0]; exact own_i3 hm0
  refine own_st (T' := s₁) (g' := (mkF m 13 #[.val (.ref k), .val (.ref am), .val (.int (0 : Int32)), .val (.int j0)] [])) (fun _ zq => XS.istoreN X.here hx rfl (hb hby own_d_prog_86_m4_12) rfl (l' := #[.val (.ref k), .val (.ref am), .val (.int (0 : Int32)), .val (.int j0)]) rfl zq) ?_
  refine own_st (T' := s₁) (g' := (mkF m 14 #[.val (.ref k), .val (.ref am), .val (.int (0 : Int32)), .val (.int j0)] [(.ref am)])) (fun _ zq => XS.aloadN X.here hx rfl (hb hby own_d_prog_86_m4_13) rfl rfl zq) ?_
  refine own_st (T' := s₁) (g' := (mkF m 15 #[.val (.ref k), .val (.ref am), .val (.int (0 : Int32)), .val (.int j0)] [(.int (0 : Int32)), (.ref am)])) (fun _ zq => XS.iloadN X.here hx rfl (hb hby own_d_prog_86_m4_14) rfl zq) ?_
  refine own_st (T' := s₁) (g' := (mkF m 16 #[.val (.ref k), .val (.ref am), .val (.int (0 : Int32)), .val (.int j0)] [(.int (1 : Int32)), (.int (0 : Int32)), (.ref am)])) (fun _ zq => XS.iconst X.here hx rfl (hb hby own_d_prog_86_m4_15) zq) ?_
  refine own_st (T' := s₁) (g' := (mkF m 17 #[.val (.ref k), .val (.ref am), .val (.int (0 : Int32)), .val (.int j0)] [(.int ((0 : Int32) + (1 : Int32))), (.ref am)])) (fun _ zq => XS.iadd X.here hx rfl (hb hby own_d_prog_86_m4_16) rfl zq) ?_
  refine own_st (T' := s₁) (g' := (mkF m 18 #[.val (.ref k), .val (.ref am), .val (.int (0 : Int32)), .val (.int j0)] [(.long v0)])) (own_ldJ X hx hZ eT V_m (j := ((0 : Int32) + (1 : Int32))) (1) rfl (by decide) (w := (.long v0)) hb0 (g := (mkF m 17 #[.val (.ref k), .val (.ref am), .val (.int (0 : Int32)), .val (.int j0)] [(.int ((0 : Int32) + (1 : Int32))), (.ref am)])) rfl rfl (hb hby own_d_prog_86_m4_17)) ?_
  refine own_st (T' := s₁) (g' := (mkF m 19 #[.val (.ref k), .val (.ref am), .val (.int (0 : Int32)), .val (.int j0)] [(.ref k), (.long v0)])) (fun _ zq => XS.aloadN X.here hx rfl (hb hby own_d_prog_86_m4_18) rfl rfl zq) ?_
  obtain ⟨T18, X18, e18, st18⟩ := getF X hx hZ hown (host := "") (Or.inl (hw _ (List.mem_of_getElem? (i := 13) rfl))) Via.refl eT F_known (g := (mkF m 19 #[.val (.ref k), .val (.ref am), .val (.int (0 : Int32)), .val (.int j0)] [(.ref k), (.long v0)])) rfl rfl (hb hby own_d_prog_86_m4_19)
  refine own_st (g' := (mkF m 22 #[.val (.ref k), .val (.ref am), .val (.int (0 : Int32)), .val (.int j0)] [(.ref aK), (.long v0)])) st18 ?_
  refine own_st (T' := T18) (g' := (mkF m 23 #[.val (.ref k), .val (.ref am), .val (.int (0 : Int32)), .val (.int j0)] [(.int j0), (.ref aK), (.long v0)])) (fun _ zq => XS.iloadN X18.here hx rfl (hb hby own_d_prog_86_m4_22) rfl zq) ?_
  refine own_st (T' := T18) (g' := (mkF m 24 #[.val (.ref k), .val (.ref am), .val (.int (0 : Int32)), .val (.int j0)] [(.long (K mn0)), (.long v0)])) (own_ldJ X18 hx hZ e18 V_K (j := j0) (mn0) hi0 hl0 (w := (.long (K mn0))) rfl (g := (mkF m 23 #[.val (.ref k), .val (.ref am), .val (.int (0 : Int32)), .val (.int j0)] [(.int j0), (.ref aK), (.long v0)])) rfl rfl (hb hby own_d_prog_86_m4_23)) ?_
  refine own_st (T' := T18) (g' := (mkF m 25 #[.val (.ref k), .val (.ref am), .val (.int (0 : Int32)), .val (.int j0)] [(.int (lcmpW v0 (K mn0)))])) (fun _ zq => XS.lcmp X18.here hx rfl (hb hby own_d_prog_86_m4_24) rfl zq) ?_
  suffices J38_0 : ∀ (T19 : State) (lo19 : List Loc) (h19 : Heap) (X19 : Stand p l e ({ frames := 1, cells := 0, slots := 0, locals := 24 } : Room) s m #[(.ref k), (.ref am)] below meth c T19 lo19 0 0) (e19 : T19.heap = h19) (N19 : Fr n0 lo19) (Z19 : n0 ≤ h19.size) (K19 : Keep h0 h19 [k, aK, aR, aT]) (K1 : Nat → Int64) (R1 : Nat → Int64) (rs1 : Int64) (E_k : Exa Z h19 k "com/example/coterie/coterie/runtime/KnownRequests") (F_self : Fld Z h19 k "com/example/coterie/coterie/runtime/KnownRequests" "self" "I" (.int sf)) (F_known : Fld Z h19 k "com/example/coterie/coterie/runtime/KnownRequests" "known" "[J" (.ref aK)) (F_rose : Fld Z h19 k "com/example/coterie/coterie/runtime/KnownRequests" "roseAt" "[J" (.ref aR)) (F_told : Fld Z h19 k "com/example/coterie/coterie/runtime/KnownRequests" "told" "[J" (.ref aT)) (F_rises : Fld Z h19 k "com/example/coterie/coterie/runtime/KnownRequests" "rises" "J" (.long rs1)) (V_K : own_AV Z h19 aK .long 3 (fun i => .long (K1 i))) (V_R : own_AV Z h19 aR .long 3 (fun i => .long (R1 i))) (V_T : own_AV Z h19 aT .long 3 (fun i => .long (Tt i))) (E_aK : Exa Z h19 aK "[J") (V_m : own_AV Z h19 am .long 2 fm) (hK1 : K1 = if K mn0 < v0 then (own_upd K mn0 v0) else K) (hR1 : R1 = if K mn0 < v0 then (own_upd Rr mn0 (rs + 1)) else Rr) (hs1 : rs1 = if K mn0 < v0 then rs + 1 else rs), own_Go p e below s (Q_learn2 Z k aK aR aT sf K Rr Tt rs am fm m0 mn0 v0 h0 n0) ({ frames := 1, cells := 0, slots := 0, locals := 24 } : Room).cells ({ frames := 1, cells := 0, slots := 0, locals := 24 } : Room).slots T19 (mkF m 38 #[.val (.ref k), .val (.ref am), .val (.int (0 : Int32)), .val (.int j0)] []) by
    by_cases hc : (K mn0) < v0
    · skip
      refine own_st (T' := T18) (g' := (mkF m 28 #[.val (.ref k), .val (.ref am), .val (.int (0 : Int32)), .val (.int j0)] [])) (fun _ zq => XS.ifNo X18.here hx rfl (hb hby own_d_prog_86_m4_25) rfl (own_ltlt hc).2.2.2 zq) ?_
      refine own_st (T' := T18) (g' := (mkF m 29 #[.val (.ref k), .val (.ref am), .val (.int (0 : Int32)), .val (.int j0)] [(.ref k)])) (fun _ zq => XS.aloadN X18.here hx rfl (hb hby own_d_prog_86_m4_28) rfl rfl zq) ?_
      refine own_st (T' := T18) (g' := (mkF m 30 #[.val (.ref k), .val (.ref am), .val (.int (0 : Int32)), .val (.int j0)] [(.int j0), (.ref k)])) (fun _ zq => XS.iloadN X18.here hx rfl (hb hby own_d_prog_86_m4_29) rfl zq) ?_
      refine own_st (T' := T18) (g' := (mkF m 31 #[.val (.ref k), .val (.ref am), .val (.int (0 : Int32)), .val (.int j0)] [(.ref am), (.int j0), (.ref k)])) (fun _ zq => XS.aloadN X18.here hx rfl (hb hby own_d_prog_86_m4_30) rfl rfl zq) ?_
      refine own_st (T' := T18) (g' := (mkF m 32 #[.val (.ref k), .val (.ref am), .val (.int (0 : Int32)), .val (.int j0)] [(.int (0 : Int32)), (.ref am), (.int j0), (.ref k)])) (fun _ zq => XS.iloadN X18.here hx rfl (hb hby own_d_prog_86_m4_31) rfl zq) ?_
      refine own_st (T' := T18) (g' := (mkF m 33 #[.val (.ref k), .val (.ref am), .val (.int (0 : Int32)), .val (.int j0)] [(.int (1 : Int32)), (.int (0 : Int32)), (.ref am), (.int j0), (.ref k)])) (fun _ zq => XS.iconst X18.here hx rfl (hb hby own_d_prog_86_m4_32) zq) ?_
      refine own_st (T' := T18) (g' := (mkF m 34 #[.val (.ref k), .val (.ref am), .val (.int (0 : Int32)), .val (.int j0)] [(.int ((0 : Int32) + (1 : Int32))), (.ref am), (.int j0), (.ref k)])) (fun _ zq => XS.iadd X18.here hx rfl (hb hby own_d_prog_86_m4_33) rfl zq) ?_
      refine own_st (T' := T18) (g' := (mkF m 35 #[.val (.ref k), .val (.ref am), .val (.int (0 : Int32)), .val (.int j0)] [(.long v0), (.int j0), (.ref k)])) (own_ldJ X18 hx hZ e18 V_m (j := ((0 : Int32) + (1 : Int32))) (1) rfl (by decide) (w := (.long v0)) hb0 (g := (mkF m 34 #[.val (.ref k), .val (.ref am), .val (.int (0 : Int32)), .val (.int j0)] [(.int ((0 : Int32) + (1 : Int32))), (.ref am), (.int j0), (.ref k)])) rfl rfl (hb hby own_d_prog_86_m4_34)) ?_
      have BB : own_KR Z h0 k aK aR aT sf K Rr Tt rs := ⟨E_k, F_self, F_known, F_rose, F_told, F_rises, V_K, V_R, V_T, E_aK⟩
      obtain ⟨cq20, q20, q20'⟩ := BB.1.cell
      obtain ⟨_, _, ⟨T20, L20, k20, n20⟩, -, X20, ⟨Lc20, hQ20, l20, y20, z20⟩, st20⟩ := X18.privateBack hx (y := (⟨"com/example/coterie/coterie/runtime/KnownRequests", "rise", "(IJ)V"⟩ : MethodName)) hown (mvT hZ (hw _ (List.mem_of_getElem? (i := 29) rfl))) (mvT hZ (hw _ (List.mem_of_getElem? (i := 30) rfl))) (own_selP hZ (hw _ (List.mem_of_getElem? (i := 2) rfl)) (hw _ (List.mem_of_getElem? (i := 31) rfl)) (hw _ (List.mem_of_getElem? (i := 30) rfl)) (by decide)) (Cond.privateMethod_at (mvP hZ (hw _ (List.mem_of_getElem? (i := 31) rfl)) (args := #[]))) (mvT hZ (hw _ (List.mem_of_getElem? (i := 32) rfl))) (by decide) (backOf (W := 0) (rm_rise l Z a0 hw [] k aK aR aT sf K Rr Tt rs j0 mn0 v0 h0 n0 Zs BB hi0 hl0 n1 n2 n3 n4 n5 n6 g_k g_aK g_aR g_aT) hZ (hw _ (List.mem_of_getElem? (i := 32) rfl)) (hw _ (List.mem_of_getElem? (i := 3) rfl)) (by decide) (by decide)) (g := (mkF m 35 #[.val (.ref k), .val (.ref am), .val (.int (0 : Int32)), .val (.int j0)] [(.long v0), (.int j0), (.ref k)])) rfl (by rw [hml]; rfl) (Steps.refl _) (a := k) (by rw [e18]; exact q20) q20' (argsL := [(.int j0), (.long v0)]) (rest := []) (lenOf own_pd0 rfl) rfl (by show 2 * 0 + _ ≤ _; exact Nat.le_of_eq rfl) (hb hby own_d_prog_86_m4_35) (fun _ _ => ⟨rfl, e18, (by decide : 0 + 0 ≤ _), (by decide : 0 + 0 ≤ _)⟩)
      dsimp only [Pt.U, Pt.locs, Pt.cells, Pt.slots] at X20 l20 y20 z20 st20 hQ20
      subst l20 y20 z20
      obtain ⟨rfl, Nq20, Kq20, BB⟩ := hQ20
      replace N := Fr.app N Nq20
      replace V_m := V_m.keep Kq20 (ninS q1 (ninS q2 (ninS q3 (ninS q4 nin0))))
      replace Zs := Nat.le_trans Zs Kq20.1
      replace K0 := K0.trans Kq20 (allS (Or.inl (List.mem_of_getElem? (i := 0) rfl)) (allS (Or.inl (List.mem_of_getElem? (i := 1) rfl)) (allS (Or.inl (List.mem_of_getElem? (i := 2) rfl)) (allS (Or.inl (List.mem_of_getElem? (i := 3) rfl)) all0))))
      refine own_tr (g' := (mkF m 38 #[.val (.ref k), .val (.ref am), .val (.int (0 : Int32)), .val (.int j0)] [])) st20 ?_
      obtain ⟨E_k, F_self, F_known, F_rose, F_told, F_rises, V_K, V_R, V_T, E_aK⟩ := BB
      exact J38_0 T20 _ T20.heap (X20.more (Nat.le_of_ble_eq_true rfl) (Nat.le_of_ble_eq_true rfl)) rfl N Zs K0 _ _ _ E_k F_self F_known F_rose F_told F_rises V_K V_R V_T E_aK V_m (if_pos hc).symm (if_pos hc).symm (if_pos hc).symm
    · skip
      refine own_st (T' := T18) (g' := (mkF m 38 #[.val (.ref k), .val (.ref am), .val (.int (0 : Int32)), .val (.int j0)] [])) (fun _ zq => XS.ifYes X18.here hx rfl (pc0 := 25) (pc' := 38) rfl (hb hby own_d_prog_86_m4_25) rfl (own_lflt hc).2.2.2 (by decide) (by decide) zq) ?_
      exact J38_0 T18 _ h0 (X18.more (Nat.le_of_ble_eq_true rfl) (Nat.le_of_ble_eq_true rfl)) e18 N Zs K0 _ _ _ E_k F_self F_known F_rose F_told F_rises V_K V_R V_T E_aK V_m (if_neg hc).symm (if_neg hc).symm (if_neg hc).symm
  intro T19 lo19 h19 X19 e19 N19 Z19 K19 K1 R1 rs1 E_k F_self F_known F_rose F_told F_rises V_K V_R V_T E_aK V_m hK1 hR1 hs1
  refine own_st (T' := T19) (g' := (mkF m 41 #[.val (.ref k), .val (.ref am), .val (.int ((0 : Int32) + (2 : Int32))), .val (.int j0)] [])) (fun _ zq => XS.iinc X19.here hx rfl (hb hby own_d_prog_86_m4_38) rfl (l' := #[.val (.ref k), .val (.ref am), .val (.int ((0 : Int32) + (2 : Int32))), .val (.int j0)]) rfl zq) ?_
  refine own_st (T' := T19) (g' := (mkF m 2 #[.val (.ref k), .val (.ref am), .val (.int ((0 : Int32) + (2 : Int32))), .val (.int j0)] [])) (fun _ zq => XS.goto X19.here hx rfl (pc0 := 41) (pc' := 2) rfl (hb hby own_d_prog_86_m4_41) (by decide) (by decide) zq) ?_
  refine own_st (T' := T19) (g' := (mkF m 3 #[.val (.ref k), .val (.ref am), .val (.int ((0 : Int32) + (2 : Int32))), .val (.int j0)] [(.int ((0 : Int32) + (2 : Int32)))])) (fun _ zq => XS.iloadN X19.here hx rfl (hb hby own_d_prog_86_m4_2) rfl zq) ?_
  refine own_st (T' := T19) (g' := (mkF m 4 #[.val (.ref k), .val (.ref am), .val (.int ((0 : Int32) + (2 : Int32))), .val (.int j0)] [(.ref am), (.int ((0 : Int32) + (2 : Int32)))])) (fun _ zq => XS.aloadN X19.here hx rfl (hb hby own_d_prog_86_m4_3) rfl rfl zq) ?_
  show own_Go p e below s (Q_learn2 Z k aK aR aT sf K Rr Tt rs am fm m0 mn0 v0 h0 n0) ({ frames := 1, cells := 0, slots := 0, locals := 24 } : Room).cells ({ frames := 1, cells := 0, slots := 0, locals := 24 } : Room).slots T19 (mkF m 4 #[.val (.ref k), .val (.ref am), .val (.int (2 : Int32)), .val (.int j0)] [(.ref am), (.int ((0 : Int32) + (2 : Int32)))])
  refine own_st (T' := T19) (g' := (mkF m 5 #[.val (.ref k), .val (.ref am), .val (.int (2 : Int32)), .val (.int j0)] [(.int (2 : Int32)), (.int ((0 : Int32) + (2 : Int32)))])) (own_len (z := (2 : Int32)) X19 hx hZ e19 V_m rfl (g := (mkF m 4 #[.val (.ref k), .val (.ref am), .val (.int (2 : Int32)), .val (.int j0)] [(.ref am), (.int ((0 : Int32) + (2 : Int32)))])) rfl rfl (hb hby own_d_prog_86_m4_4)) ?_
  refine own_st (T' := T19) (g' := (mkF m 44 #[.val (.ref k), .val (.ref am), .val (.int (2 : Int32)), .val (.int j0)] [])) (fun _ zq => XS.icmpYes X19.here hx rfl (pc0 := 5) (pc' := 44) rfl (hb hby own_d_prog_86_m4_5) rfl (flt (by decide)).2.1 (by decide) (by decide) zq) ?_
  subst hK1 hR1 hs1
  exact own_ret0 X19 hx hret hlk (hb hby own_d_prog_86_m4_44) e19 (Nat.le_of_ble_eq_true rfl) (Nat.le_of_ble_eq_true rfl) ⟨rfl, N19, K19, ⟨E_k, F_self, F_known, F_rose, F_told, F_rises, V_K, V_R, V_T, E_aK⟩⟩
def Q_learn4 (Z : State) (k : Addr) (aK : Addr) (aR : Addr) (aT : Addr) (sf : Int32) (K : Nat → Int64) (Rr : Nat → Int64) (Tt : Nat → Int64) (rs : Int64) (am : Addr) (fm : Nat → Value) (m0 : Int32) (m1 : Int32) (mn0 : Nat) (mn1 : Nat) (v0 : Int64) (v1 : Int64) (h0 : Heap) (n0 : Nat) (v : Option Value) (h : Heap) (L : List Loc) : Prop := v = none ∧ Fr n0 L ∧ (Keep h0 h [k, aK, aR, aT]) ∧ (own_KR Z h k aK aR aT sf (if (if K mn0 < v0 then (own_upd K mn0 v0) else K) mn1 < v1 then (own_upd (if K mn0 < v0 then (own_upd K mn0 v0) else K) mn1 v1) else (if K mn0 < v0 then (own_upd K mn0 v0) else K)) (if (if K mn0 < v0 then (own_upd K mn0 v0) else K) mn1 < v1 then (own_upd (if K mn0 < v0 then (own_upd Rr mn0 (rs + 1)) else Rr) mn1 ((if K mn0 < v0 then rs + 1 else rs) + 1)) else (if K mn0 < v0 then (own_upd Rr mn0 (rs + 1)) else Rr)) Tt (if (if K mn0 < v0 then (own_upd K mn0 v0) else K) mn1 < v1 then (if K mn0 < v0 then rs + 1 else rs) + 1 else (if K mn0 < v0 then rs + 1 else rs)))
theorem ef_learn4 (m : MethodId) (x0 : Addr) (x1 : Addr)  : entryFrame m #[(.ref x0), (.ref x1)] 4 = mkF m 0 #[.val (.ref x0), .val (.ref x1), .unset, .unset] [] := by first | (simp [entryFrame, mkF, argsToLocals, Value.category]; done) | rfl
set_option maxRecDepth 65536 in
set_option maxHeartbeats 40000000 in
theorem rm_learn4 (l : Launch) (Z : State) (a0 : Array Value) (hw : ∀ d ∈ tables_1, d.before a0 Z = true) (ws : List Jvm.Cond) (k : Addr) (aK : Addr) (aR : Addr) (aT : Addr) (sf : Int32) (K : Nat → Int64) (Rr : Nat → Int64) (Tt : Nat → Int64) (rs : Int64) (am : Addr) (fm : Nat → Value) (m0 : Int32) (m1 : Int32) (mn0 : Nat) (mn1 : Nat) (v0 : Int64) (v1 : Int64) (h0 : Heap) (n0 : Nat) (Zs : n0 ≤ h0.size) (BB : own_KR Z h0 k aK aR aT sf K Rr Tt rs) (V_m : own_AV Z h0 am .long 4 fm) (hm0 : m0.toInt = (mn0 : Int)) (hl0 : mn0 < 3) (ha0 : fm 0 = .long m0.toInt64) (hb0 : fm 1 = .long v0) (hm1 : m1.toInt = (mn1 : Int)) (hl1 : mn1 < 3) (ha1 : fm 2 = .long m1.toInt64) (hb1 : fm 3 = .long v1) (n1 : k ≠ aK) (n2 : k ≠ aR) (n3 : k ≠ aT) (n4 : aK ≠ aR) (n5 : aK ≠ aT) (n6 : aR ≠ aT) (g_k : n0 ≤ k) (g_aK : n0 ≤ aK) (g_aR : n0 ≤ aR) (g_aT : n0 ≤ aT) (q1 : am ≠ k) (q2 : am ≠ aK) (q3 : am ≠ aR) (q4 : am ≠ aT) :
    MetFree l (⟨"com/example/coterie/coterie/runtime/KnownRequests", "learn", "([J)V"⟩ : MethodName) (head1 (Jvm.Cond.code (⟨"com/example/coterie/coterie/runtime/KnownRequests", "learn", "([J)V"⟩ : MethodName) prog_86_method_4_code 4 none :: ws) ({ frames := 1, cells := 0, slots := 0, locals := 24 } : Room)) (fun a U => a = #[(.ref k), (.ref am)] ∧ Z.Warmed39 U.vm ∧ U.heap = h0) (fun _ _ _ _ _ => True) (fun _ U o U' => ∃ v L, o = .returned v ∧ (Q_learn4 Z k aK aR aT sf K Rr Tt rs am fm m0 m1 mn0 mn1 v0 v1 h0 n0) v U'.heap L ∧ FrameEnd U o U' L ({ frames := 1, cells := 0, slots := 0, locals := 24 } : Room).cells ({ frames := 1, cells := 0, slots := 0, locals := 24 } : Room).slots) := by
  refine MetFree.of_bodySF (plainFor_of_name own_pn0) hisR ?_
  intro p e s m args below meth c s₁ Bd hml0 hP hK
  obtain ⟨rfl, hZ, hh⟩ := hP
  have hx := Bd.exec
  have hby := Bd.bytes
  have hlk := BodyLoose.notSynchronized Bd
  have hret := Bd.returns
  have hml : c.maxLocals = 4 := hml0
  have hown : s.vm.findClass "com/example/coterie/coterie/runtime/KnownRequests" = some m.cls := findClass_of_methodNamed Bd.named
  have hnm := (name_of_methodNamed Bd.named Bd.method).1
  have X : Stand p l e ({ frames := 1, cells := 0, slots := 0, locals := 24 } : Room) s m #[(.ref k), (.ref am)] below meth c s₁ [] 0 0 := Stand.of_body Bd
  have eT : s₁.heap = h0 := by rw [← hh, Bd.state]; rfl
  have N := Fr.nil n0
  have K0 : Keep h0 h0 [k, aK, aR, aT] := Keep.refl _ _
  show own_Go p e below s (Q_learn4 Z k aK aR aT sf K Rr Tt rs am fm m0 m1 mn0 mn1 v0 v1 h0 n0) ({ frames := 1, cells := 0, slots := 0, locals := 24 } : Room).cells ({ frames := 1, cells := 0, slots := 0, locals := 24 } : Room).slots s₁ (entryFrame m #[(.ref k), (.ref am)] 4)
  rw [ef_learn4 m k am]
  obtain ⟨E_k, F_self, F_known, F_rose, F_told, F_rises, V_K, V_R, V_T, E_aK⟩ := BB
  refine own_st (T' := s₁) (g' := (mkF m 1 #[.val (.ref k), .val (.ref am), .unset, .unset] [(.int (0 : Int32))])) (fun _ zq => XS.iconst X.here hx rfl (hb hby own_d_prog_86_m4_0) zq) ?_
  refine own_st (T' := s₁) (g' := (mkF m 2 #[.val (.ref k), .val (.ref am), .val (.int (0 : Int32)), .unset] [])) (fun _ zq => XS.istoreN X.here hx rfl (hb hby own_d_prog_86_m4_1) rfl (l' := #[.val (.ref k), .val (.ref am), .val (.int (0 : Int32)), .unset]) rfl zq) ?_
  refine own_st (T' := s₁) (g' := (mkF m 3 #[.val (.ref k), .val (.ref am), .val (.int (0 : Int32)), .unset] [(.int (0 : Int32))])) (fun _ zq => XS.iloadN X.here hx rfl (hb hby own_d_prog_86_m4_2) rfl zq) ?_
  refine own_st (T' := s₁) (g' := (mkF m 4 #[.val (.ref k), .val (.ref am), .val (.int (0 : Int32)), .unset] [(.ref am), (.int (0 : Int32))])) (fun _ zq => XS.aloadN X.here hx rfl (hb hby own_d_prog_86_m4_3) rfl rfl zq) ?_
  refine own_st (T' := s₁) (g' := (mkF m 5 #[.val (.ref k), .val (.ref am), .val (.int (0 : Int32)), .unset] [(.int (4 : Int32)), (.int (0 : Int32))])) (own_len (z := (4 : Int32)) X hx hZ eT V_m rfl (g := (mkF m 4 #[.val (.ref k), .val (.ref am), .val (.int (0 : Int32)), .unset] [(.ref am), (.int (0 : Int32))])) rfl rfl (hb hby own_d_prog_86_m4_4)) ?_
  refine own_st (T' := s₁) (g' := (mkF m 8 #[.val (.ref k), .val (.ref am), .val (.int (0 : Int32)), .unset] [])) (fun _ zq => XS.icmpNo X.here hx rfl (hb hby own_d_prog_86_m4_5) rfl (tlt (by decide)).2.1 zq) ?_
  refine own_st (T' := s₁) (g' := (mkF m 9 #[.val (.ref k), .val (.ref am), .val (.int (0 : Int32)), .unset] [(.ref am)])) (fun _ zq => XS.aloadN X.here hx rfl (hb hby own_d_prog_86_m4_8) rfl rfl zq) ?_
  refine own_st (T' := s₁) (g' := (mkF m 10 #[.val (.ref k), .val (.ref am), .val (.int (0 : Int32)), .unset] [(.int (0 : Int32)), (.ref am)])) (fun _ zq => XS.iloadN X.here hx rfl (hb hby own_d_prog_86_m4_9) rfl zq) ?_
  refine own_st (T' := s₁) (g' := (mkF m 11 #[.val (.ref k), .val (.ref am), .val (.int (0 : Int32)), .unset] [(.long m0.toInt64)])) (own_ldJ X hx hZ eT V_m (j := (0 : Int32)) (0) rfl (by decide) (w := (.long m0.toInt64)) ha0 (g := (mkF m 10 #[.val (.ref k), .val (.ref am), .val (.int (0 : Int32)), .unset] [(.int (0 : Int32)), (.ref am)])) rfl rfl (hb hby own_d_prog_86_m4_10)) ?_
  refine own_st (T' := s₁) (g' := (mkF m 12 #[.val (.ref k), .val (.ref am), .val (.int (0 : Int32)), .unset] [(.int (m0.toInt64.toInt32))])) (fun _ zq => XS.l2i X.here hx rfl (hb hby own_d_prog_86_m4_11) rfl zq) ?_
  refine own_nm (f := fun z_ => (mkF m 12 #[.val (.ref k), .val (.ref am), .val (.int (0 : Int32)), .unset] [(.int z_)])) (m0.toInt64.toInt32) (fun j0 hj0 => ?_)
  show own_Go p e below s (Q_learn4 Z k aK aR aT sf K Rr Tt rs am fm m0 m1 mn0 mn1 v0 v1 h0 n0) ({ frames := 1, cells := 0, slots := 0, locals := 24 } : Room).cells ({ frames := 1, cells := 0, slots := 0, locals := 24 } : Room).slots s₁ (mkF m 12 #[.val (.ref k), .val (.ref am), .val (.int (0 : Int32)), .unset] [(.int j0)])
  have hi0 : j0.toInt = (mn0 : Int) := by rw [hj0]; exact own_i3 hm0
  refine own_st (T' := s₁) (g' := (mkF m 13 #[.val (.ref k), .val (.ref am), .val (.int (0 : Int32)), .val (.int j0)] [])) (fun _ zq => XS.istoreN X.here hx rfl (hb hby own_d_prog_86_m4_12) rfl (l' := #[.val (.ref k), .val (.ref am), .val (.int (0 : Int32)), .val (.int j0)]) rfl zq) ?_
  refine own_st (T' := s₁) (g' := (mkF m 14 #[.val (.ref k), .val (.ref am), .val (.int (0 : Int32)), .val (.int j0)] [(.ref am)])) (fun _ zq => XS.aloadN X.here hx rfl (hb hby own_d_prog_86_m4_13) rfl rfl zq) ?_
  refine own_st (T' := s₁) (g' := (mkF m 15 #[.val (.ref k), .val (.ref am), .val (.int (0 : Int32)), .val (.int j0)] [(.int (0 : Int32)), (.ref am)])) (fun _ zq => XS.iloadN X.here hx rfl (hb hby own_d_prog_86_m4_14) rfl zq) ?_
  refine own_st (T' := s₁) (g' := (mkF m 16 #[.val (.ref k), .val (.ref am), .val (.int (0 : Int32)), .val (.int j0)] [(.int (1 : Int32)), (.int (0 : Int32)), (.ref am)])) (fun _ zq => XS.iconst X.here hx rfl (hb hby own_d_prog_86_m4_15) zq) ?_
  refine own_st (T' := s₁) (g' := (mkF m 17 #[.val (.ref k), .val (.ref am), .val (.int (0 : Int32)), .val (.int j0)] [(.int ((0 : Int32) + (1 : Int32))), (.ref am)])) (fun _ zq => XS.iadd X.here hx rfl (hb hby own_d_prog_86_m4_16) rfl zq) ?_
  refine own_st (T' := s₁) (g' := (mkF m 18 #[.val (.ref k), .val (.ref am), .val (.int (0 : Int32)), .val (.int j0)] [(.long v0)])) (own_ldJ X hx hZ eT V_m (j := ((0 : Int32) + (1 : Int32))) (1) rfl (by decide) (w := (.long v0)) hb0 (g := (mkF m 17 #[.val (.ref k), .val (.ref am), .val (.int (0 : Int32)), .val (.int j0)] [(.int ((0 : Int32) + (1 : Int32))), (.ref am)])) rfl rfl (hb hby own_d_prog_86_m4_17)) ?_
  refine own_st (T' := s₁) (g' := (mkF m 19 #[.val (.ref k), .val (.ref am), .val (.int (0 : Int32)), .val (.int j0)] [(.ref k), (.long v0)])) (fun _ zq => XS.aloadN X.here hx rfl (hb hby own_d_prog_86_m4_18) rfl rfl zq) ?_
  obtain ⟨T21, X21, e21, st21⟩ := getF X hx hZ hown (host := "") (Or.inl (hw _ (List.mem_of_getElem? (i := 13) rfl))) Via.refl eT F_known (g := (mkF m 19 #[.val (.ref k), .val (.ref am), .val (.int (0 : Int32)), .val (.int j0)] [(.ref k), (.long v0)])) rfl rfl (hb hby own_d_prog_86_m4_19)
  refine own_st (g' := (mkF m 22 #[.val (.ref k), .val (.ref am), .val (.int (0 : Int32)), .val (.int j0)] [(.ref aK), (.long v0)])) st21 ?_
  refine own_st (T' := T21) (g' := (mkF m 23 #[.val (.ref k), .val (.ref am), .val (.int (0 : Int32)), .val (.int j0)] [(.int j0), (.ref aK), (.long v0)])) (fun _ zq => XS.iloadN X21.here hx rfl (hb hby own_d_prog_86_m4_22) rfl zq) ?_
  refine own_st (T' := T21) (g' := (mkF m 24 #[.val (.ref k), .val (.ref am), .val (.int (0 : Int32)), .val (.int j0)] [(.long (K mn0)), (.long v0)])) (own_ldJ X21 hx hZ e21 V_K (j := j0) (mn0) hi0 hl0 (w := (.long (K mn0))) rfl (g := (mkF m 23 #[.val (.ref k), .val (.ref am), .val (.int (0 : Int32)), .val (.int j0)] [(.int j0), (.ref aK), (.long v0)])) rfl rfl (hb hby own_d_prog_86_m4_23)) ?_
  refine own_st (T' := T21) (g' := (mkF m 25 #[.val (.ref k), .val (.ref am), .val (.int (0 : Int32)), .val (.int j0)] [(.int (lcmpW v0 (K mn0)))])) (fun _ zq => XS.lcmp X21.here hx rfl (hb hby own_d_prog_86_m4_24) rfl zq) ?_
  suffices J38_0 : ∀ (T22 : State) (lo22 : List Loc) (h22 : Heap) (X22 : Stand p l e ({ frames := 1, cells := 0, slots := 0, locals := 24 } : Room) s m #[(.ref k), (.ref am)] below meth c T22 lo22 0 0) (e22 : T22.heap = h22) (N22 : Fr n0 lo22) (Z22 : n0 ≤ h22.size) (K22 : Keep h0 h22 [k, aK, aR, aT]) (K1 : Nat → Int64) (R1 : Nat → Int64) (rs1 : Int64) (E_k : Exa Z h22 k "com/example/coterie/coterie/runtime/KnownRequests") (F_self : Fld Z h22 k "com/example/coterie/coterie/runtime/KnownRequests" "self" "I" (.int sf)) (F_known : Fld Z h22 k "com/example/coterie/coterie/runtime/KnownRequests" "known" "[J" (.ref aK)) (F_rose : Fld Z h22 k "com/example/coterie/coterie/runtime/KnownRequests" "roseAt" "[J" (.ref aR)) (F_told : Fld Z h22 k "com/example/coterie/coterie/runtime/KnownRequests" "told" "[J" (.ref aT)) (F_rises : Fld Z h22 k "com/example/coterie/coterie/runtime/KnownRequests" "rises" "J" (.long rs1)) (V_K : own_AV Z h22 aK .long 3 (fun i => .long (K1 i))) (V_R : own_AV Z h22 aR .long 3 (fun i => .long (R1 i))) (V_T : own_AV Z h22 aT .long 3 (fun i => .long (Tt i))) (E_aK : Exa Z h22 aK "[J") (V_m : own_AV Z h22 am .long 4 fm) (hK1 : K1 = if K mn0 < v0 then (own_upd K mn0 v0) else K) (hR1 : R1 = if K mn0 < v0 then (own_upd Rr mn0 (rs + 1)) else Rr) (hs1 : rs1 = if K mn0 < v0 then rs + 1 else rs), own_Go p e below s (Q_learn4 Z k aK aR aT sf K Rr Tt rs am fm m0 m1 mn0 mn1 v0 v1 h0 n0) ({ frames := 1, cells := 0, slots := 0, locals := 24 } : Room).cells ({ frames := 1, cells := 0, slots := 0, locals := 24 } : Room).slots T22 (mkF m 38 #[.val (.ref k), .val (.ref am), .val (.int (0 : Int32)), .val (.int j0)] []) by
    by_cases hc : (K mn0) < v0
    · skip
      refine own_st (T' := T21) (g' := (mkF m 28 #[.val (.ref k), .val (.ref am), .val (.int (0 : Int32)), .val (.int j0)] [])) (fun _ zq => XS.ifNo X21.here hx rfl (hb hby own_d_prog_86_m4_25) rfl (own_ltlt hc).2.2.2 zq) ?_
      refine own_st (T' := T21) (g' := (mkF m 29 #[.val (.ref k), .val (.ref am), .val (.int (0 : Int32)), .val (.int j0)] [(.ref k)])) (fun _ zq => XS.aloadN X21.here hx rfl (hb hby own_d_prog_86_m4_28) rfl rfl zq) ?_
      refine own_st (T' := T21) (g' := (mkF m 30 #[.val (.ref k), .val (.ref am), .val (.int (0 : Int32)), .val (.int j0)] [(.int j0), (.ref k)])) (fun _ zq => XS.iloadN X21.here hx rfl (hb hby own_d_prog_86_m4_29) rfl zq) ?_
      refine own_st (T' := T21) (g' := (mkF m 31 #[.val (.ref k), .val (.ref am), .val (.int (0 : Int32)), .val (.int j0)] [(.ref am), (.int j0), (.ref k)])) (fun _ zq => XS.aloadN X21.here hx rfl (hb hby own_d_prog_86_m4_30) rfl rfl zq) ?_
      refine own_st (T' := T21) (g' := (mkF m 32 #[.val (.ref k), .val (.ref am), .val (.int (0 : Int32)), .val (.int j0)] [(.int (0 : Int32)), (.ref am), (.int j0), (.ref k)])) (fun _ zq => XS.iloadN X21.here hx rfl (hb hby own_d_prog_86_m4_31) rfl zq) ?_
      refine own_st (T' := T21) (g' := (mkF m 33 #[.val (.ref k), .val (.ref am), .val (.int (0 : Int32)), .val (.int j0)] [(.int (1 : Int32)), (.int (0 : Int32)), (.ref am), (.int j0), (.ref k)])) (fun _ zq => XS.iconst X21.here hx rfl (hb hby own_d_prog_86_m4_32) zq) ?_
      refine own_st (T' := T21) (g' := (mkF m 34 #[.val (.ref k), .val (.ref am), .val (.int (0 : Int32)), .val (.int j0)] [(.int ((0 : Int32) + (1 : Int32))), (.ref am), (.int j0), (.ref k)])) (fun _ zq => XS.iadd X21.here hx rfl (hb hby own_d_prog_86_m4_33) rfl zq) ?_
      refine own_st (T' := T21) (g' := (mkF m 35 #[.val (.ref k), .val (.ref am), .val (.int (0 : Int32)), .val (.int j0)] [(.long v0), (.int j0), (.ref k)])) (own_ldJ X21 hx hZ e21 V_m (j := ((0 : Int32) + (1 : Int32))) (1) rfl (by decide) (w := (.long v0)) hb0 (g := (mkF m 34 #[.val (.ref k), .val (.ref am), .val (.int (0 : Int32)), .val (.int j0)] [(.int ((0 : Int32) + (1 : Int32))), (.ref am), (.int j0), (.ref k)])) rfl rfl (hb hby own_d_prog_86_m4_34)) ?_
      have BB : own_KR Z h0 k aK aR aT sf K Rr Tt rs := ⟨E_k, F_self, F_known, F_rose, F_told, F_rises, V_K, V_R, V_T, E_aK⟩
      obtain ⟨cq23, q23, q23'⟩ := BB.1.cell
      obtain ⟨_, _, ⟨T23, L23, k23, n23⟩, -, X23, ⟨Lc23, hQ23, l23, y23, z23⟩, st23⟩ := X21.privateBack hx (y := (⟨"com/example/coterie/coterie/runtime/KnownRequests", "rise", "(IJ)V"⟩ : MethodName)) hown (mvT hZ (hw _ (List.mem_of_getElem? (i := 29) rfl))) (mvT hZ (hw _ (List.mem_of_getElem? (i := 30) rfl))) (own_selP hZ (hw _ (List.mem_of_getElem? (i := 2) rfl)) (hw _ (List.mem_of_getElem? (i := 31) rfl)) (hw _ (List.mem_of_getElem? (i := 30) rfl)) (by decide)) (Cond.privateMethod_at (mvP hZ (hw _ (List.mem_of_getElem? (i := 31) rfl)) (args := #[]))) (mvT hZ (hw _ (List.mem_of_getElem? (i := 32) rfl))) (by decide) (backOf (W := 0) (rm_rise l Z a0 hw [] k aK aR aT sf K Rr Tt rs j0 mn0 v0 h0 n0 Zs BB hi0 hl0 n1 n2 n3 n4 n5 n6 g_k g_aK g_aR g_aT) hZ (hw _ (List.mem_of_getElem? (i := 32) rfl)) (hw _ (List.mem_of_getElem? (i := 3) rfl)) (by decide) (by decide)) (g := (mkF m 35 #[.val (.ref k), .val (.ref am), .val (.int (0 : Int32)), .val (.int j0)] [(.long v0), (.int j0), (.ref k)])) rfl (by rw [hml]; rfl) (Steps.refl _) (a := k) (by rw [e21]; exact q23) q23' (argsL := [(.int j0), (.long v0)]) (rest := []) (lenOf own_pd0 rfl) rfl (by show 2 * 0 + _ ≤ _; exact Nat.le_of_eq rfl) (hb hby own_d_prog_86_m4_35) (fun _ _ => ⟨rfl, e21, (by decide : 0 + 0 ≤ _), (by decide : 0 + 0 ≤ _)⟩)
      dsimp only [Pt.U, Pt.locs, Pt.cells, Pt.slots] at X23 l23 y23 z23 st23 hQ23
      subst l23 y23 z23
      obtain ⟨rfl, Nq23, Kq23, BB⟩ := hQ23
      replace N := Fr.app N Nq23
      replace V_m := V_m.keep Kq23 (ninS q1 (ninS q2 (ninS q3 (ninS q4 nin0))))
      replace Zs := Nat.le_trans Zs Kq23.1
      replace K0 := K0.trans Kq23 (allS (Or.inl (List.mem_of_getElem? (i := 0) rfl)) (allS (Or.inl (List.mem_of_getElem? (i := 1) rfl)) (allS (Or.inl (List.mem_of_getElem? (i := 2) rfl)) (allS (Or.inl (List.mem_of_getElem? (i := 3) rfl)) all0))))
      refine own_tr (g' := (mkF m 38 #[.val (.ref k), .val (.ref am), .val (.int (0 : Int32)), .val (.int j0)] [])) st23 ?_
      obtain ⟨E_k, F_self, F_known, F_rose, F_told, F_rises, V_K, V_R, V_T, E_aK⟩ := BB
      exact J38_0 T23 _ T23.heap (X23.more (Nat.le_of_ble_eq_true rfl) (Nat.le_of_ble_eq_true rfl)) rfl N Zs K0 _ _ _ E_k F_self F_known F_rose F_told F_rises V_K V_R V_T E_aK V_m (if_pos hc).symm (if_pos hc).symm (if_pos hc).symm
    · skip
      refine own_st (T' := T21) (g' := (mkF m 38 #[.val (.ref k), .val (.ref am), .val (.int (0 : Int32)), .val (.int j0)] [])) (fun _ zq => XS.ifYes X21.here hx rfl (pc0 := 25) (pc' := 38) rfl (hb hby own_d_prog_86_m4_25) rfl (own_lflt hc).2.2.2 (by decide) (by decide) zq) ?_
      exact J38_0 T21 _ h0 (X21.more (Nat.le_of_ble_eq_true rfl) (Nat.le_of_ble_eq_true rfl)) e21 N Zs K0 _ _ _ E_k F_self F_known F_rose F_told F_rises V_K V_R V_T E_aK V_m (if_neg hc).symm (if_neg hc).symm (if_neg hc).symm
  intro T22 lo22 h22 X22 e22 N22 Z22 K22 K1 R1 rs1 E_k F_self F_known F_rose F_told F_rises V_K V_R V_T E_aK V_m hK1 hR1 hs1
  refine own_st (T' := T22) (g' := (mkF m 41 #[.val (.ref k), .val (.ref am), .val (.int ((0 : Int32) + (2 : Int32))), .val (.int j0)] [])) (fun _ zq => XS.iinc X22.here hx rfl (hb hby own_d_prog_86_m4_38) rfl (l' := #[.val (.ref k), .val (.ref am), .val (.int ((0 : Int32) + (2 : Int32))), .val (.int j0)]) rfl zq) ?_
  refine own_st (T' := T22) (g' := (mkF m 2 #[.val (.ref k), .val (.ref am), .val (.int ((0 : Int32) + (2 : Int32))), .val (.int j0)] [])) (fun _ zq => XS.goto X22.here hx rfl (pc0 := 41) (pc' := 2) rfl (hb hby own_d_prog_86_m4_41) (by decide) (by decide) zq) ?_
  refine own_st (T' := T22) (g' := (mkF m 3 #[.val (.ref k), .val (.ref am), .val (.int ((0 : Int32) + (2 : Int32))), .val (.int j0)] [(.int ((0 : Int32) + (2 : Int32)))])) (fun _ zq => XS.iloadN X22.here hx rfl (hb hby own_d_prog_86_m4_2) rfl zq) ?_
  refine own_st (T' := T22) (g' := (mkF m 4 #[.val (.ref k), .val (.ref am), .val (.int ((0 : Int32) + (2 : Int32))), .val (.int j0)] [(.ref am), (.int ((0 : Int32) + (2 : Int32)))])) (fun _ zq => XS.aloadN X22.here hx rfl (hb hby own_d_prog_86_m4_3) rfl rfl zq) ?_
  show own_Go p e below s (Q_learn4 Z k aK aR aT sf K Rr Tt rs am fm m0 m1 mn0 mn1 v0 v1 h0 n0) ({ frames := 1, cells := 0, slots := 0, locals := 24 } : Room).cells ({ frames := 1, cells := 0, slots := 0, locals := 24 } : Room).slots T22 (mkF m 4 #[.val (.ref k), .val (.ref am), .val (.int (2 : Int32)), .val (.int j0)] [(.ref am), (.int ((0 : Int32) + (2 : Int32)))])
  refine own_st (T' := T22) (g' := (mkF m 5 #[.val (.ref k), .val (.ref am), .val (.int (2 : Int32)), .val (.int j0)] [(.int (4 : Int32)), (.int ((0 : Int32) + (2 : Int32)))])) (own_len (z := (4 : Int32)) X22 hx hZ e22 V_m rfl (g := (mkF m 4 #[.val (.ref k), .val (.ref am), .val (.int (2 : Int32)), .val (.int j0)] [(.ref am), (.int ((0 : Int32) + (2 : Int32)))])) rfl rfl (hb hby own_d_prog_86_m4_4)) ?_
  refine own_st (T' := T22) (g' := (mkF m 8 #[.val (.ref k), .val (.ref am), .val (.int (2 : Int32)), .val (.int j0)] [])) (fun _ zq => XS.icmpNo X22.here hx rfl (hb hby own_d_prog_86_m4_5) rfl (tlt (by decide)).2.1 zq) ?_
  refine own_st (T' := T22) (g' := (mkF m 9 #[.val (.ref k), .val (.ref am), .val (.int (2 : Int32)), .val (.int j0)] [(.ref am)])) (fun _ zq => XS.aloadN X22.here hx rfl (hb hby own_d_prog_86_m4_8) rfl rfl zq) ?_
  refine own_st (T' := T22) (g' := (mkF m 10 #[.val (.ref k), .val (.ref am), .val (.int (2 : Int32)), .val (.int j0)] [(.int (2 : Int32)), (.ref am)])) (fun _ zq => XS.iloadN X22.here hx rfl (hb hby own_d_prog_86_m4_9) rfl zq) ?_
  refine own_st (T' := T22) (g' := (mkF m 11 #[.val (.ref k), .val (.ref am), .val (.int (2 : Int32)), .val (.int j0)] [(.long m1.toInt64)])) (own_ldJ X22 hx hZ e22 V_m (j := (2 : Int32)) (2) rfl (by decide) (w := (.long m1.toInt64)) ha1 (g := (mkF m 10 #[.val (.ref k), .val (.ref am), .val (.int (2 : Int32)), .val (.int j0)] [(.int (2 : Int32)), (.ref am)])) rfl rfl (hb hby own_d_prog_86_m4_10)) ?_
  refine own_st (T' := T22) (g' := (mkF m 12 #[.val (.ref k), .val (.ref am), .val (.int (2 : Int32)), .val (.int j0)] [(.int (m1.toInt64.toInt32))])) (fun _ zq => XS.l2i X22.here hx rfl (hb hby own_d_prog_86_m4_11) rfl zq) ?_
  refine own_nm (f := fun z_ => (mkF m 12 #[.val (.ref k), .val (.ref am), .val (.int (2 : Int32)), .val (.int j0)] [(.int z_)])) (m1.toInt64.toInt32) (fun j1 hj1 => ?_)
  show own_Go p e below s (Q_learn4 Z k aK aR aT sf K Rr Tt rs am fm m0 m1 mn0 mn1 v0 v1 h0 n0) ({ frames := 1, cells := 0, slots := 0, locals := 24 } : Room).cells ({ frames := 1, cells := 0, slots := 0, locals := 24 } : Room).slots T22 (mkF m 12 #[.val (.ref k), .val (.ref am), .val (.int (2 : Int32)), .val (.int j0)] [(.int j1)])
  have hi1 : j1.toInt = (mn1 : Int) := by rw [hj1]; exact own_i3 hm1
  refine own_st (T' := T22) (g' := (mkF m 13 #[.val (.ref k), .val (.ref am), .val (.int (2 : Int32)), .val (.int j1)] [])) (fun _ zq => XS.istoreN X22.here hx rfl (hb hby own_d_prog_86_m4_12) rfl (l' := #[.val (.ref k), .val (.ref am), .val (.int (2 : Int32)), .val (.int j1)]) rfl zq) ?_
  refine own_st (T' := T22) (g' := (mkF m 14 #[.val (.ref k), .val (.ref am), .val (.int (2 : Int32)), .val (.int j1)] [(.ref am)])) (fun _ zq => XS.aloadN X22.here hx rfl (hb hby own_d_prog_86_m4_13) rfl rfl zq) ?_
  refine own_st (T' := T22) (g' := (mkF m 15 #[.val (.ref k), .val (.ref am), .val (.int (2 : Int32)), .val (.int j1)] [(.int (2 : Int32)), (.ref am)])) (fun _ zq => XS.iloadN X22.here hx rfl (hb hby own_d_prog_86_m4_14) rfl zq) ?_
  refine own_st (T' := T22) (g' := (mkF m 16 #[.val (.ref k), .val (.ref am), .val (.int (2 : Int32)), .val (.int j1)] [(.int (1 : Int32)), (.int (2 : Int32)), (.ref am)])) (fun _ zq => XS.iconst X22.here hx rfl (hb hby own_d_prog_86_m4_15) zq) ?_
  refine own_st (T' := T22) (g' := (mkF m 17 #[.val (.ref k), .val (.ref am), .val (.int (2 : Int32)), .val (.int j1)] [(.int ((2 : Int32) + (1 : Int32))), (.ref am)])) (fun _ zq => XS.iadd X22.here hx rfl (hb hby own_d_prog_86_m4_16) rfl zq) ?_
  refine own_st (T' := T22) (g' := (mkF m 18 #[.val (.ref k), .val (.ref am), .val (.int (2 : Int32)), .val (.int j1)] [(.long v1)])) (own_ldJ X22 hx hZ e22 V_m (j := ((2 : Int32) + (1 : Int32))) (3) rfl (by decide) (w := (.long v1)) hb1 (g := (mkF m 17 #[.val (.ref k), .val (.ref am), .val (.int (2 : Int32)), .val (.int j1)] [(.int ((2 : Int32) + (1 : Int32))), (.ref am)])) rfl rfl (hb hby own_d_prog_86_m4_17)) ?_
  refine own_st (T' := T22) (g' := (mkF m 19 #[.val (.ref k), .val (.ref am), .val (.int (2 : Int32)), .val (.int j1)] [(.ref k), (.long v1)])) (fun _ zq => XS.aloadN X22.here hx rfl (hb hby own_d_prog_86_m4_18) rfl rfl zq) ?_
  obtain ⟨T24, X24, e24, st24⟩ := getF X22 hx hZ hown (host := "") (Or.inl (hw _ (List.mem_of_getElem? (i := 13) rfl))) Via.refl e22 F_known (g := (mkF m 19 #[.val (.ref k), .val (.ref am), .val (.int (2 : Int32)), .val (.int j1)] [(.ref k), (.long v1)])) rfl rfl (hb hby own_d_prog_86_m4_19)
  refine own_st (g' := (mkF m 22 #[.val (.ref k), .val (.ref am), .val (.int (2 : Int32)), .val (.int j1)] [(.ref aK), (.long v1)])) st24 ?_
  refine own_st (T' := T24) (g' := (mkF m 23 #[.val (.ref k), .val (.ref am), .val (.int (2 : Int32)), .val (.int j1)] [(.int j1), (.ref aK), (.long v1)])) (fun _ zq => XS.iloadN X24.here hx rfl (hb hby own_d_prog_86_m4_22) rfl zq) ?_
  refine own_st (T' := T24) (g' := (mkF m 24 #[.val (.ref k), .val (.ref am), .val (.int (2 : Int32)), .val (.int j1)] [(.long (K1 mn1)), (.long v1)])) (own_ldJ X24 hx hZ e24 V_K (j := j1) (mn1) hi1 hl1 (w := (.long (K1 mn1))) rfl (g := (mkF m 23 #[.val (.ref k), .val (.ref am), .val (.int (2 : Int32)), .val (.int j1)] [(.int j1), (.ref aK), (.long v1)])) rfl rfl (hb hby own_d_prog_86_m4_23)) ?_
  refine own_st (T' := T24) (g' := (mkF m 25 #[.val (.ref k), .val (.ref am), .val (.int (2 : Int32)), .val (.int j1)] [(.int (lcmpW v1 (K1 mn1)))])) (fun _ zq => XS.lcmp X24.here hx rfl (hb hby own_d_prog_86_m4_24) rfl zq) ?_
  suffices J38_1 : ∀ (T25 : State) (lo25 : List Loc) (h25 : Heap) (X25 : Stand p l e ({ frames := 1, cells := 0, slots := 0, locals := 24 } : Room) s m #[(.ref k), (.ref am)] below meth c T25 lo25 0 0) (e25 : T25.heap = h25) (N25 : Fr n0 lo25) (Z25 : n0 ≤ h25.size) (K25 : Keep h0 h25 [k, aK, aR, aT]) (K2 : Nat → Int64) (R2 : Nat → Int64) (rs2 : Int64) (E_k : Exa Z h25 k "com/example/coterie/coterie/runtime/KnownRequests") (F_self : Fld Z h25 k "com/example/coterie/coterie/runtime/KnownRequests" "self" "I" (.int sf)) (F_known : Fld Z h25 k "com/example/coterie/coterie/runtime/KnownRequests" "known" "[J" (.ref aK)) (F_rose : Fld Z h25 k "com/example/coterie/coterie/runtime/KnownRequests" "roseAt" "[J" (.ref aR)) (F_told : Fld Z h25 k "com/example/coterie/coterie/runtime/KnownRequests" "told" "[J" (.ref aT)) (F_rises : Fld Z h25 k "com/example/coterie/coterie/runtime/KnownRequests" "rises" "J" (.long rs2)) (V_K : own_AV Z h25 aK .long 3 (fun i => .long (K2 i))) (V_R : own_AV Z h25 aR .long 3 (fun i => .long (R2 i))) (V_T : own_AV Z h25 aT .long 3 (fun i => .long (Tt i))) (E_aK : Exa Z h25 aK "[J") (V_m : own_AV Z h25 am .long 4 fm) (hK2 : K2 = if K1 mn1 < v1 then (own_upd K1 mn1 v1) else K1) (hR2 : R2 = if K1 mn1 < v1 then (own_upd R1 mn1 (rs1 + 1)) else R1) (hs2 : rs2 = if K1 mn1 < v1 then rs1 + 1 else rs1), own_Go p e below s (Q_learn4 Z k aK aR aT sf K Rr Tt rs am fm m0 m1 mn0 mn1 v0 v1 h0 n0) ({ frames := 1, cells := 0, slots := 0, locals := 24 } : Room).cells ({ frames := 1, cells := 0, slots := 0, locals := 24 } : Room).slots T25 (mkF m 38 #[.val (.ref k), .val (.ref am), .val (.int (2 : Int32)), .val (.int j1)] []) by
    by_cases hc : (K1 mn1) < v1
    · skip
      refine own_st (T' := T24) (g' := (mkF m 28 #[.val (.ref k), .val (.ref am), .val (.int (2 : Int32)), .val (.int j1)] [])) (fun _ zq => XS.ifNo X24.here hx rfl (hb hby own_d_prog_86_m4_25) rfl (own_ltlt hc).2.2.2 zq) ?_
      refine own_st (T' := T24) (g' := (mkF m 29 #[.val (.ref k), .val (.ref am), .val (.int (2 : Int32)), .val (.int j1)] [(.ref k)])) (fun _ zq => XS.aloadN X24.here hx rfl (hb hby own_d_prog_86_m4_28) rfl rfl zq) ?_
      refine own_st (T' := T24) (g' := (mkF m 30 #[.val (.ref k), .val (.ref am), .val (.int (2 : Int32)), .val (.int j1)] [(.int j1), (.ref k)])) (fun _ zq => XS.iloadN X24.here hx rfl (hb hby own_d_prog_86_m4_29) rfl zq) ?_
      refine own_st (T' := T24) (g' := (mkF m 31 #[.val (.ref k), .val (.ref am), .val (.int (2 : Int32)), .val (.int j1)] [(.ref am), (.int j1), (.ref k)])) (fun _ zq => XS.aloadN X24.here hx rfl (hb hby own_d_prog_86_m4_30) rfl rfl zq) ?_
      refine own_st (T' := T24) (g' := (mkF m 32 #[.val (.ref k), .val (.ref am), .val (.int (2 : Int32)), .val (.int j1)] [(.int (2 : Int32)), (.ref am), (.int j1), (.ref k)])) (fun _ zq => XS.iloadN X24.here hx rfl (hb hby own_d_prog_86_m4_31) rfl zq) ?_
      refine own_st (T' := T24) (g' := (mkF m 33 #[.val (.ref k), .val (.ref am), .val (.int (2 : Int32)), .val (.int j1)] [(.int (1 : Int32)), (.int (2 : Int32)), (.ref am), (.int j1), (.ref k)])) (fun _ zq => XS.iconst X24.here hx rfl (hb hby own_d_prog_86_m4_32) zq) ?_
      refine own_st (T' := T24) (g' := (mkF m 34 #[.val (.ref k), .val (.ref am), .val (.int (2 : Int32)), .val (.int j1)] [(.int ((2 : Int32) + (1 : Int32))), (.ref am), (.int j1), (.ref k)])) (fun _ zq => XS.iadd X24.here hx rfl (hb hby own_d_prog_86_m4_33) rfl zq) ?_
      refine own_st (T' := T24) (g' := (mkF m 35 #[.val (.ref k), .val (.ref am), .val (.int (2 : Int32)), .val (.int j1)] [(.long v1), (.int j1), (.ref k)])) (own_ldJ X24 hx hZ e24 V_m (j := ((2 : Int32) + (1 : Int32))) (3) rfl (by decide) (w := (.long v1)) hb1 (g := (mkF m 34 #[.val (.ref k), .val (.ref am), .val (.int (2 : Int32)), .val (.int j1)] [(.int ((2 : Int32) + (1 : Int32))), (.ref am), (.int j1), (.ref k)])) rfl rfl (hb hby own_d_prog_86_m4_34)) ?_
      have BB : own_KR Z h22 k aK aR aT sf K1 R1 Tt rs1 := ⟨E_k, F_self, F_known, F_rose, F_told, F_rises, V_K, V_R, V_T, E_aK⟩
      obtain ⟨cq26, q26, q26'⟩ := BB.1.cell
      obtain ⟨_, _, ⟨T26, L26, k26, n26⟩, -, X26, ⟨Lc26, hQ26, l26, y26, z26⟩, st26⟩ := X24.privateBack hx (y := (⟨"com/example/coterie/coterie/runtime/KnownRequests", "rise", "(IJ)V"⟩ : MethodName)) hown (mvT hZ (hw _ (List.mem_of_getElem? (i := 29) rfl))) (mvT hZ (hw _ (List.mem_of_getElem? (i := 30) rfl))) (own_selP hZ (hw _ (List.mem_of_getElem? (i := 2) rfl)) (hw _ (List.mem_of_getElem? (i := 31) rfl)) (hw _ (List.mem_of_getElem? (i := 30) rfl)) (by decide)) (Cond.privateMethod_at (mvP hZ (hw _ (List.mem_of_getElem? (i := 31) rfl)) (args := #[]))) (mvT hZ (hw _ (List.mem_of_getElem? (i := 32) rfl))) (by decide) (backOf (W := 0) (rm_rise l Z a0 hw [] k aK aR aT sf K1 R1 Tt rs1 j1 mn1 v1 h22 n0 Z22 BB hi1 hl1 n1 n2 n3 n4 n5 n6 g_k g_aK g_aR g_aT) hZ (hw _ (List.mem_of_getElem? (i := 32) rfl)) (hw _ (List.mem_of_getElem? (i := 3) rfl)) (by decide) (by decide)) (g := (mkF m 35 #[.val (.ref k), .val (.ref am), .val (.int (2 : Int32)), .val (.int j1)] [(.long v1), (.int j1), (.ref k)])) rfl (by rw [hml]; rfl) (Steps.refl _) (a := k) (by rw [e24]; exact q26) q26' (argsL := [(.int j1), (.long v1)]) (rest := []) (lenOf own_pd0 rfl) rfl (by show 2 * 0 + _ ≤ _; exact Nat.le_of_eq rfl) (hb hby own_d_prog_86_m4_35) (fun _ _ => ⟨rfl, e24, (by decide : 0 + 0 ≤ _), (by decide : 0 + 0 ≤ _)⟩)
      dsimp only [Pt.U, Pt.locs, Pt.cells, Pt.slots] at X26 l26 y26 z26 st26 hQ26
      subst l26 y26 z26
      obtain ⟨rfl, Nq26, Kq26, BB⟩ := hQ26
      replace N22 := Fr.app N22 Nq26
      replace V_m := V_m.keep Kq26 (ninS q1 (ninS q2 (ninS q3 (ninS q4 nin0))))
      replace Z22 := Nat.le_trans Z22 Kq26.1
      replace K22 := K22.trans Kq26 (allS (Or.inl (List.mem_of_getElem? (i := 0) rfl)) (allS (Or.inl (List.mem_of_getElem? (i := 1) rfl)) (allS (Or.inl (List.mem_of_getElem? (i := 2) rfl)) (allS (Or.inl (List.mem_of_getElem? (i := 3) rfl)) all0))))
      refine own_tr (g' := (mkF m 38 #[.val (.ref k), .val (.ref am), .val (.int (2 : Int32)), .val (.int j1)] [])) st26 ?_
      obtain ⟨E_k, F_self, F_known, F_rose, F_told, F_rises, V_K, V_R, V_T, E_aK⟩ := BB
      exact J38_1 T26 _ T26.heap (X26.more (Nat.le_of_ble_eq_true rfl) (Nat.le_of_ble_eq_true rfl)) rfl N22 Z22 K22 _ _ _ E_k F_self F_known F_rose F_told F_rises V_K V_R V_T E_aK V_m (if_pos hc).symm (if_pos hc).symm (if_pos hc).symm
    · skip
      refine own_st (T' := T24) (g' := (mkF m 38 #[.val (.ref k), .val (.ref am), .val (.int (2 : Int32)), .val (.int j1)] [])) (fun _ zq => XS.ifYes X24.here hx rfl (pc0 := 25) (pc' := 38) rfl (hb hby own_d_prog_86_m4_25) rfl (own_lflt hc).2.2.2 (by decide) (by decide) zq) ?_
      exact J38_1 T24 _ h22 (X24.more (Nat.le_of_ble_eq_true rfl) (Nat.le_of_ble_eq_true rfl)) e24 N22 Z22 K22 _ _ _ E_k F_self F_known F_rose F_told F_rises V_K V_R V_T E_aK V_m (if_neg hc).symm (if_neg hc).symm (if_neg hc).symm
  intro T25 lo25 h25 X25 e25 N25 Z25 K25 K2 R2 rs2 E_k F_self F_known F_rose F_told F_rises V_K V_R V_T E_aK V_m hK2 hR2 hs2
  refine own_st (T' := T25) (g' := (mkF m 41 #[.val (.ref k), .val (.ref am), .val (.int ((2 : Int32) + (2 : Int32))), .val (.int j1)] [])) (fun _ zq => XS.iinc X25.here hx rfl (hb hby own_d_prog_86_m4_38) rfl (l' := #[.val (.ref k), .val (.ref am), .val (.int ((2 : Int32) + (2 : Int32))), .val (.int j1)]) rfl zq) ?_
  refine own_st (T' := T25) (g' := (mkF m 2 #[.val (.ref k), .val (.ref am), .val (.int ((2 : Int32) + (2 : Int32))), .val (.int j1)] [])) (fun _ zq => XS.goto X25.here hx rfl (pc0 := 41) (pc' := 2) rfl (hb hby own_d_prog_86_m4_41) (by decide) (by decide) zq) ?_
  refine own_st (T' := T25) (g' := (mkF m 3 #[.val (.ref k), .val (.ref am), .val (.int ((2 : Int32) + (2 : Int32))), .val (.int j1)] [(.int ((2 : Int32) + (2 : Int32)))])) (fun _ zq => XS.iloadN X25.here hx rfl (hb hby own_d_prog_86_m4_2) rfl zq) ?_
  refine own_st (T' := T25) (g' := (mkF m 4 #[.val (.ref k), .val (.ref am), .val (.int ((2 : Int32) + (2 : Int32))), .val (.int j1)] [(.ref am), (.int ((2 : Int32) + (2 : Int32)))])) (fun _ zq => XS.aloadN X25.here hx rfl (hb hby own_d_prog_86_m4_3) rfl rfl zq) ?_
  show own_Go p e below s (Q_learn4 Z k aK aR aT sf K Rr Tt rs am fm m0 m1 mn0 mn1 v0 v1 h0 n0) ({ frames := 1, cells := 0, slots := 0, locals := 24 } : Room).cells ({ frames := 1, cells := 0, slots := 0, locals := 24 } : Room).slots T25 (mkF m 4 #[.val (.ref k), .val (.ref am), .val (.int (4 : Int32)), .val (.int j1)] [(.ref am), (.int ((2 : Int32) + (2 : Int32)))])
  refine own_st (T' := T25) (g' := (mkF m 5 #[.val (.ref k), .val (.ref am), .val (.int (4 : Int32)), .val (.int j1)] [(.int (4 : Int32)), (.int ((2 : Int32) + (2 : Int32)))])) (own_len (z := (4 : Int32)) X25 hx hZ e25 V_m rfl (g := (mkF m 4 #[.val (.ref k), .val (.ref am), .val (.int (4 : Int32)), .val (.int j1)] [(.ref am), (.int ((2 : Int32) + (2 : Int32)))])) rfl rfl (hb hby own_d_prog_86_m4_4)) ?_
  refine own_st (T' := T25) (g' := (mkF m 44 #[.val (.ref k), .val (.ref am), .val (.int (4 : Int32)), .val (.int j1)] [])) (fun _ zq => XS.icmpYes X25.here hx rfl (pc0 := 5) (pc' := 44) rfl (hb hby own_d_prog_86_m4_5) rfl (flt (by decide)).2.1 (by decide) (by decide) zq) ?_
  subst hK2 hR2 hs2 hK1 hR1 hs1
  exact own_ret0 X25 hx hret hlk (hb hby own_d_prog_86_m4_44) e25 (Nat.le_of_ble_eq_true rfl) (Nat.le_of_ble_eq_true rfl) ⟨rfl, N25, K25, ⟨E_k, F_self, F_known, F_rose, F_told, F_rises, V_K, V_R, V_T, E_aK⟩⟩
def Q_news (Z : State) (k : Addr) (aK : Addr) (aR : Addr) (aT : Addr) (sf : Int32) (K : Nat → Int64) (Rr : Nat → Int64) (Tt : Nat → Int64) (rs : Int64) (r_ : Int32) (rn : Nat) (aN : Addr) (fN : Nat → Value) (h0 : Heap) (n0 : Nat) (v : Option Value) (h : Heap) (L : List Loc) : Prop := ∃ rr : Addr, v = some (.ref rr) ∧ Fr n0 L ∧ (Keep h0 h [k, aK, aR, aT]) ∧ (own_KR Z h k aK aR aT sf K Rr (own_upd Tt rn rs) rs) ∧ (own_AV Z h rr .long (own_L3 (own_u Rr Tt rn) K).length (fun i => .long ((own_L3 (own_u Rr Tt rn) K).getD i 0))) ∧ (∀ x : Addr, n0 ≤ x → x < h0.size → rr ≠ x)
theorem ef_news (m : MethodId) (x0 : Addr) (x1 : Int32)  : entryFrame m #[(.ref x0), (.int x1)] 6 = mkF m 0 #[.val (.ref x0), .val (.int x1), .unset, .unset, .unset, .unset] [] := by first | (simp [entryFrame, mkF, argsToLocals, Value.category]; done) | rfl
set_option maxRecDepth 65536 in
set_option maxHeartbeats 40000000 in
theorem rm_news (l : Launch) (Z : State) (a0 : Array Value) (hw : ∀ d ∈ tables_1, d.before a0 Z = true) (ws : List Jvm.Cond) (k : Addr) (aK : Addr) (aR : Addr) (aT : Addr) (sf : Int32) (K : Nat → Int64) (Rr : Nat → Int64) (Tt : Nat → Int64) (rs : Int64) (r_ : Int32) (rn : Nat) (aN : Addr) (fN : Nat → Value) (h0 : Heap) (n0 : Nat) (Zs : n0 ≤ h0.size) (BB : own_KR Z h0 k aK aR aT sf K Rr Tt rs) (hr : r_.toInt = (rn : Int)) (hlr : rn < 3) (hinv : ∀ i, i < 3 → ¬ rs < Rr i) (O : Old Z n0 h0) (S0 : Sta Z Z.heap "com/example/coterie/coterie/runtime/KnownRequests" "NOTHING_NEW" "[J" (.ref aN)) (VN : own_AV Z Z.heap aN .long 0 fN) (n1 : k ≠ aK) (n2 : k ≠ aR) (n3 : k ≠ aT) (n4 : aK ≠ aR) (n5 : aK ≠ aT) (n6 : aR ≠ aT) (g_k : n0 ≤ k) (g_aK : n0 ≤ aK) (g_aR : n0 ≤ aR) (g_aT : n0 ≤ aT) :
    MetFree l (⟨"com/example/coterie/coterie/runtime/KnownRequests", "news", "(I)[J"⟩ : MethodName) (head1 (Jvm.Cond.code (⟨"com/example/coterie/coterie/runtime/KnownRequests", "news", "(I)[J"⟩ : MethodName) prog_86_method_3_code 6 (some (.array .long)) :: ws) ({ frames := 1, cells := 1, slots := 6, locals := 30 } : Room)) (fun a U => a = #[(.ref k), (.int r_)] ∧ Z.Warmed39 U.vm ∧ U.heap = h0) (fun _ _ _ _ _ => True) (fun _ U o U' => ∃ v L, o = .returned v ∧ (Q_news Z k aK aR aT sf K Rr Tt rs r_ rn aN fN h0 n0) v U'.heap L ∧ FrameEnd U o U' L ({ frames := 1, cells := 1, slots := 6, locals := 30 } : Room).cells ({ frames := 1, cells := 1, slots := 6, locals := 30 } : Room).slots) := by
  refine MetFree.of_bodySF (plainFor_of_name own_pn0) hisR ?_
  intro p e s m args below meth c s₁ Bd hml0 hP hK
  obtain ⟨rfl, hZ, hh⟩ := hP
  have hx := Bd.exec
  have hby := Bd.bytes
  have hlk := BodyLoose.notSynchronized Bd
  have hret := Bd.returns
  have hml : c.maxLocals = 6 := hml0
  have hown : s.vm.findClass "com/example/coterie/coterie/runtime/KnownRequests" = some m.cls := findClass_of_methodNamed Bd.named
  have hnm := (name_of_methodNamed Bd.named Bd.method).1
  have X : Stand p l e ({ frames := 1, cells := 1, slots := 6, locals := 30 } : Room) s m #[(.ref k), (.int r_)] below meth c s₁ [] 0 0 := Stand.of_body Bd
  have eT : s₁.heap = h0 := by rw [← hh, Bd.state]; rfl
  have N := Fr.nil n0
  have K0 : Keep h0 h0 [k, aK, aR, aT] := Keep.refl _ _
  show own_Go p e below s (Q_news Z k aK aR aT sf K Rr Tt rs r_ rn aN fN h0 n0) ({ frames := 1, cells := 1, slots := 6, locals := 30 } : Room).cells ({ frames := 1, cells := 1, slots := 6, locals := 30 } : Room).slots s₁ (entryFrame m #[(.ref k), (.int r_)] 6)
  rw [ef_news m k r_]
  obtain ⟨E_k, F_self, F_known, F_rose, F_told, F_rises, V_K, V_R, V_T, E_aK⟩ := BB
  refine own_st (T' := s₁) (g' := (mkF m 1 #[.val (.ref k), .val (.int r_), .unset, .unset, .unset, .unset] [(.ref k)])) (fun _ zq => XS.aloadN X.here hx rfl (hb hby own_d_prog_86_m3_0) rfl rfl zq) ?_
  obtain ⟨T27, X27, e27, st27⟩ := getF X hx hZ hown (host := "") (Or.inl (hw _ (List.mem_of_getElem? (i := 17) rfl))) Via.refl eT F_told (g := (mkF m 1 #[.val (.ref k), .val (.int r_), .unset, .unset, .unset, .unset] [(.ref k)])) rfl rfl (hb hby own_d_prog_86_m3_1)
  refine own_st (g' := (mkF m 4 #[.val (.ref k), .val (.int r_), .unset, .unset, .unset, .unset] [(.ref aT)])) st27 ?_
  refine own_st (T' := T27) (g' := (mkF m 5 #[.val (.ref k), .val (.int r_), .unset, .unset, .unset, .unset] [(.int r_), (.ref aT)])) (fun _ zq => XS.iloadN X27.here hx rfl (hb hby own_d_prog_86_m3_4) rfl zq) ?_
  refine own_st (T' := T27) (g' := (mkF m 6 #[.val (.ref k), .val (.int r_), .unset, .unset, .unset, .unset] [(.long (Tt rn))])) (own_ldJ X27 hx hZ e27 V_T (j := r_) (rn) hr hlr (w := (.long (Tt rn))) rfl (g := (mkF m 5 #[.val (.ref k), .val (.int r_), .unset, .unset, .unset, .unset] [(.int r_), (.ref aT)])) rfl rfl (hb hby own_d_prog_86_m3_5)) ?_
  refine own_st (T' := T27) (g' := (mkF m 7 #[.val (.ref k), .val (.int r_), .unset, .unset, .unset, .unset] [(.ref k), (.long (Tt rn))])) (fun _ zq => XS.aloadN X27.here hx rfl (hb hby own_d_prog_86_m3_6) rfl rfl zq) ?_
  obtain ⟨T28, X28, e28, st28⟩ := getF X27 hx hZ hown (host := "") (Or.inl (hw _ (List.mem_of_getElem? (i := 33) rfl))) Via.refl e27 F_rises (g := (mkF m 7 #[.val (.ref k), .val (.int r_), .unset, .unset, .unset, .unset] [(.ref k), (.long (Tt rn))])) rfl rfl (hb hby own_d_prog_86_m3_7)
  refine own_st (g' := (mkF m 10 #[.val (.ref k), .val (.int r_), .unset, .unset, .unset, .unset] [(.long rs), (.long (Tt rn))])) st28 ?_
  refine own_st (T' := T28) (g' := (mkF m 11 #[.val (.ref k), .val (.int r_), .unset, .unset, .unset, .unset] [(.int (lcmpW (Tt rn) rs))])) (fun _ zq => XS.lcmp X28.here hx rfl (hb hby own_d_prog_86_m3_10) rfl zq) ?_
  by_cases hc : (Tt rn) = rs
  · skip
    refine own_st (T' := T28) (g' := (mkF m 14 #[.val (.ref k), .val (.int r_), .unset, .unset, .unset, .unset] [])) (fun _ zq => XS.ifNo X28.here hx rfl (hb hby own_d_prog_86_m3_11) rfl (own_lteq hc).2 zq) ?_
    have Sv := S0.ext O.2
    obtain ⟨T29, X29, e29, st29⟩ := getS2 X28 hx hZ hown (host := "") (Or.inl (hw _ (List.mem_of_getElem? (i := 54) rfl))) Via.refl e28 Sv (g := (mkF m 14 #[.val (.ref k), .val (.int r_), .unset, .unset, .unset, .unset] [])) rfl (hb hby own_d_prog_86_m3_14)
    refine own_st (g' := (mkF m 17 #[.val (.ref k), .val (.int r_), .unset, .unset, .unset, .unset] [(.ref aN)])) st29 ?_
    have hnil := own_nil (K := K) hc hinv
    have hul := own_updSame hc
    exact own_ret X29 hx hret hlk (i := .areturn) rfl (Or.inr (Or.inr (Or.inr (Or.inr ⟨rfl, rfl, rfl⟩)))) (hb hby own_d_prog_86_m3_17) e29 (Nat.le_of_ble_eq_true rfl) (Nat.le_of_ble_eq_true rfl) ⟨aN, rfl, N, K0, by rw [hul]; exact ⟨E_k, F_self, F_known, F_rose, F_told, F_rises, V_K, V_R, V_T, E_aK⟩, by rw [hnil]; exact (VN.ext O.2).cong (fun i hi => absurd hi (Nat.not_lt_zero _)), fun x h1 _ q => Nat.lt_irrefl _ (Nat.lt_of_lt_of_le (O.1 ▸ VN.lt) (q ▸ h1))⟩
  · skip
    refine own_st (T' := T28) (g' := (mkF m 18 #[.val (.ref k), .val (.int r_), .unset, .unset, .unset, .unset] [])) (fun _ zq => XS.ifYes X28.here hx rfl (pc0 := 11) (pc' := 18) rfl (hb hby own_d_prog_86_m3_11) rfl (own_lfeq hc).2 (by decide) (by decide) zq) ?_
    refine own_st (T' := T28) (g' := (mkF m 19 #[.val (.ref k), .val (.int r_), .unset, .unset, .unset, .unset] [(.int (0 : Int32))])) (fun _ zq => XS.iconst X28.here hx rfl (hb hby own_d_prog_86_m3_18) zq) ?_
    refine own_st (T' := T28) (g' := (mkF m 20 #[.val (.ref k), .val (.int r_), .val (.int (0 : Int32)), .unset, .unset, .unset] [])) (fun _ zq => XS.istoreN X28.here hx rfl (hb hby own_d_prog_86_m3_19) rfl (l' := #[.val (.ref k), .val (.int r_), .val (.int (0 : Int32)), .unset, .unset, .unset]) rfl zq) ?_
    refine own_st (T' := T28) (g' := (mkF m 21 #[.val (.ref k), .val (.int r_), .val (.int (0 : Int32)), .unset, .unset, .unset] [(.int (0 : Int32))])) (fun _ zq => XS.iconst X28.here hx rfl (hb hby own_d_prog_86_m3_20) zq) ?_
    refine own_st (T' := T28) (g' := (mkF m 22 #[.val (.ref k), .val (.int r_), .val (.int (0 : Int32)), .val (.int (0 : Int32)), .unset, .unset] [])) (fun _ zq => XS.istoreN X28.here hx rfl (hb hby own_d_prog_86_m3_21) rfl (l' := #[.val (.ref k), .val (.int r_), .val (.int (0 : Int32)), .val (.int (0 : Int32)), .unset, .unset]) rfl zq) ?_
    refine own_st (T' := T28) (g' := (mkF m 23 #[.val (.ref k), .val (.int r_), .val (.int (0 : Int32)), .val (.int (0 : Int32)), .unset, .unset] [(.int (0 : Int32))])) (fun _ zq => XS.iloadN X28.here hx rfl (hb hby own_d_prog_86_m3_22) rfl zq) ?_
    refine own_st (T' := T28) (g' := (mkF m 24 #[.val (.ref k), .val (.int r_), .val (.int (0 : Int32)), .val (.int (0 : Int32)), .unset, .unset] [(.ref k), (.int (0 : Int32))])) (fun _ zq => XS.aloadN X28.here hx rfl (hb hby own_d_prog_86_m3_23) rfl rfl zq) ?_
    obtain ⟨T30, X30, e30, st30⟩ := getF X28 hx hZ hown (host := "") (Or.inl (hw _ (List.mem_of_getElem? (i := 13) rfl))) Via.refl e28 F_known (g := (mkF m 24 #[.val (.ref k), .val (.int r_), .val (.int (0 : Int32)), .val (.int (0 : Int32)), .unset, .unset] [(.ref k), (.int (0 : Int32))])) rfl rfl (hb hby own_d_prog_86_m3_24)
    refine own_st (g' := (mkF m 27 #[.val (.ref k), .val (.int r_), .val (.int (0 : Int32)), .val (.int (0 : Int32)), .unset, .unset] [(.ref aK), (.int (0 : Int32))])) st30 ?_
    refine own_st (T' := T30) (g' := (mkF m 28 #[.val (.ref k), .val (.int r_), .val (.int (0 : Int32)), .val (.int (0 : Int32)), .unset, .unset] [(.int (3 : Int32)), (.int (0 : Int32))])) (own_len (z := (3 : Int32)) X30 hx hZ e30 V_K rfl (g := (mkF m 27 #[.val (.ref k), .val (.int r_), .val (.int (0 : Int32)), .val (.int (0 : Int32)), .unset, .unset] [(.ref aK), (.int (0 : Int32))])) rfl rfl (hb hby own_d_prog_86_m3_27)) ?_
    refine own_st (T' := T30) (g' := (mkF m 31 #[.val (.ref k), .val (.int r_), .val (.int (0 : Int32)), .val (.int (0 : Int32)), .unset, .unset] [])) (fun _ zq => XS.icmpNo X30.here hx rfl (hb hby own_d_prog_86_m3_28) rfl (tlt (by decide)).2.1 zq) ?_
    refine own_st (T' := T30) (g' := (mkF m 32 #[.val (.ref k), .val (.int r_), .val (.int (0 : Int32)), .val (.int (0 : Int32)), .unset, .unset] [(.ref k)])) (fun _ zq => XS.aloadN X30.here hx rfl (hb hby own_d_prog_86_m3_31) rfl rfl zq) ?_
    refine own_st (T' := T30) (g' := (mkF m 33 #[.val (.ref k), .val (.int r_), .val (.int (0 : Int32)), .val (.int (0 : Int32)), .unset, .unset] [(.int (0 : Int32)), (.ref k)])) (fun _ zq => XS.iloadN X30.here hx rfl (hb hby own_d_prog_86_m3_32) rfl zq) ?_
    refine own_st (T' := T30) (g' := (mkF m 34 #[.val (.ref k), .val (.int r_), .val (.int (0 : Int32)), .val (.int (0 : Int32)), .unset, .unset] [(.int r_), (.int (0 : Int32)), (.ref k)])) (fun _ zq => XS.iloadN X30.here hx rfl (hb hby own_d_prog_86_m3_33) rfl zq) ?_
    have BB : own_KR Z h0 k aK aR aT sf K Rr Tt rs := ⟨E_k, F_self, F_known, F_rose, F_told, F_rises, V_K, V_R, V_T, E_aK⟩
    obtain ⟨cq31, q31, q31'⟩ := E_k.cell
    obtain ⟨_, _, ⟨T31, L31, k31, n31⟩, -, X31, ⟨Lc31, hQ31, l31, y31, z31⟩, st31⟩ := X30.privateBack hx (y := (⟨"com/example/coterie/coterie/runtime/KnownRequests", "untold", "(II)Z"⟩ : MethodName)) hown (mvT hZ (hw _ (List.mem_of_getElem? (i := 46) rfl))) (mvT hZ (hw _ (List.mem_of_getElem? (i := 47) rfl))) (own_selP hZ (hw _ (List.mem_of_getElem? (i := 2) rfl)) (hw _ (List.mem_of_getElem? (i := 48) rfl)) (hw _ (List.mem_of_getElem? (i := 47) rfl)) (by decide)) (Cond.privateMethod_at (mvP hZ (hw _ (List.mem_of_getElem? (i := 48) rfl)) (args := #[]))) (mvT hZ (hw _ (List.mem_of_getElem? (i := 49) rfl))) (by decide) (backOf (W := 0) (rm_untold l Z a0 hw [] k aK aR aT sf K Rr Tt rs (0 : Int32) 0 r_ rn h0 n0 Zs BB rfl (by decide) hr hlr) hZ (hw _ (List.mem_of_getElem? (i := 49) rfl)) (hw _ (List.mem_of_getElem? (i := 3) rfl)) (by decide) (by decide)) (g := (mkF m 34 #[.val (.ref k), .val (.int r_), .val (.int (0 : Int32)), .val (.int (0 : Int32)), .unset, .unset] [(.int r_), (.int (0 : Int32)), (.ref k)])) rfl (by rw [hml]; rfl) (Steps.refl _) (a := k) (by rw [e30]; exact q31) q31' (argsL := [(.int (0 : Int32)), (.int r_)]) (rest := []) (lenOf own_pd1 rfl) rfl (by show 2 * 0 + _ ≤ _; exact Nat.le_of_eq rfl) (hb hby own_d_prog_86_m3_34) (fun _ _ => ⟨rfl, e30, (by decide : 0 + 0 ≤ _), (by decide : 0 + 0 ≤ _)⟩)
    dsimp only [Pt.U, Pt.locs, Pt.cells, Pt.slots] at X31 l31 y31 z31 st31 hQ31
    subst l31 y31 z31
    obtain ⟨rfl, Nq31, eq31⟩ := hQ31
    replace N := Fr.app N Nq31
    refine own_tr (g' := (mkF m 37 #[.val (.ref k), .val (.int r_), .val (.int (0 : Int32)), .val (.int (0 : Int32)), .unset, .unset] [(.int (if own_u Rr Tt rn 0 = true then 1 else 0))])) st31 ?_
    suffices J43_0 : ∀ (c1 : Int32) (hc1 : c1 = if own_u Rr Tt rn 0 = true then (0 : Int32) + 1 else (0 : Int32)), own_Go p e below s (Q_news Z k aK aR aT sf K Rr Tt rs r_ rn aN fN h0 n0) ({ frames := 1, cells := 1, slots := 6, locals := 30 } : Room).cells ({ frames := 1, cells := 1, slots := 6, locals := 30 } : Room).slots T31 (mkF m 43 #[.val (.ref k), .val (.int r_), .val (.int c1), .val (.int (0 : Int32)), .unset, .unset] []) by
      by_cases hu : own_u Rr Tt rn 0 = true
      · skip
        refine own_st (T' := T31) (g' := (mkF m 40 #[.val (.ref k), .val (.int r_), .val (.int (0 : Int32)), .val (.int (0 : Int32)), .unset, .unset] [])) (fun _ zq => XS.ifNo X31.here hx rfl (hb hby own_d_prog_86_m3_37) rfl ((if0 _ _).trans (feq (by rw [if_pos hu]; decide)).1) zq) ?_
        refine own_st (T' := T31) (g' := (mkF m 43 #[.val (.ref k), .val (.int r_), .val (.int ((0 : Int32) + (1 : Int32))), .val (.int (0 : Int32)), .unset, .unset] [])) (fun _ zq => XS.iinc X31.here hx rfl (hb hby own_d_prog_86_m3_40) rfl (l' := #[.val (.ref k), .val (.int r_), .val (.int ((0 : Int32) + (1 : Int32))), .val (.int (0 : Int32)), .unset, .unset]) rfl zq) ?_
        exact J43_0 _ (if_pos hu).symm
      · skip
        refine own_st (T' := T31) (g' := (mkF m 43 #[.val (.ref k), .val (.int r_), .val (.int (0 : Int32)), .val (.int (0 : Int32)), .unset, .unset] [])) (fun _ zq => XS.ifYes X31.here hx rfl (pc0 := 37) (pc' := 43) rfl (hb hby own_d_prog_86_m3_37) rfl ((if0 _ _).trans (teq (by rw [if_neg hu])).1) (by decide) (by decide) zq) ?_
        exact J43_0 _ (if_neg hu).symm
    intro c1 hc1
    refine own_st (T' := T31) (g' := (mkF m 46 #[.val (.ref k), .val (.int r_), .val (.int c1), .val (.int ((0 : Int32) + (1 : Int32))), .unset, .unset] [])) (fun _ zq => XS.iinc X31.here hx rfl (hb hby own_d_prog_86_m3_43) rfl (l' := #[.val (.ref k), .val (.int r_), .val (.int c1), .val (.int ((0 : Int32) + (1 : Int32))), .unset, .unset]) rfl zq) ?_
    show own_Go p e below s (Q_news Z k aK aR aT sf K Rr Tt rs r_ rn aN fN h0 n0) ({ frames := 1, cells := 1, slots := 6, locals := 30 } : Room).cells ({ frames := 1, cells := 1, slots := 6, locals := 30 } : Room).slots T31 (mkF m 46 #[.val (.ref k), .val (.int r_), .val (.int c1), .val (.int (1 : Int32)), .unset, .unset] [])
    refine own_st (T' := T31) (g' := (mkF m 22 #[.val (.ref k), .val (.int r_), .val (.int c1), .val (.int (1 : Int32)), .unset, .unset] [])) (fun _ zq => XS.goto X31.here hx rfl (pc0 := 46) (pc' := 22) rfl (hb hby own_d_prog_86_m3_46) (by decide) (by decide) zq) ?_
    refine own_st (T' := T31) (g' := (mkF m 23 #[.val (.ref k), .val (.int r_), .val (.int c1), .val (.int (1 : Int32)), .unset, .unset] [(.int (1 : Int32))])) (fun _ zq => XS.iloadN X31.here hx rfl (hb hby own_d_prog_86_m3_22) rfl zq) ?_
    refine own_st (T' := T31) (g' := (mkF m 24 #[.val (.ref k), .val (.int r_), .val (.int c1), .val (.int (1 : Int32)), .unset, .unset] [(.ref k), (.int (1 : Int32))])) (fun _ zq => XS.aloadN X31.here hx rfl (hb hby own_d_prog_86_m3_23) rfl rfl zq) ?_
    obtain ⟨T32, X32, e32, st32⟩ := getF X31 hx hZ hown (host := "") (Or.inl (hw _ (List.mem_of_getElem? (i := 13) rfl))) Via.refl (eq31) F_known (g := (mkF m 24 #[.val (.ref k), .val (.int r_), .val (.int c1), .val (.int (1 : Int32)), .unset, .unset] [(.ref k), (.int (1 : Int32))])) rfl rfl (hb hby own_d_prog_86_m3_24)
    refine own_st (g' := (mkF m 27 #[.val (.ref k), .val (.int r_), .val (.int c1), .val (.int (1 : Int32)), .unset, .unset] [(.ref aK), (.int (1 : Int32))])) st32 ?_
    refine own_st (T' := T32) (g' := (mkF m 28 #[.val (.ref k), .val (.int r_), .val (.int c1), .val (.int (1 : Int32)), .unset, .unset] [(.int (3 : Int32)), (.int (1 : Int32))])) (own_len (z := (3 : Int32)) X32 hx hZ e32 V_K rfl (g := (mkF m 27 #[.val (.ref k), .val (.int r_), .val (.int c1), .val (.int (1 : Int32)), .unset, .unset] [(.ref aK), (.int (1 : Int32))])) rfl rfl (hb hby own_d_prog_86_m3_27)) ?_
    refine own_st (T' := T32) (g' := (mkF m 31 #[.val (.ref k), .val (.int r_), .val (.int c1), .val (.int (1 : Int32)), .unset, .unset] [])) (fun _ zq => XS.icmpNo X32.here hx rfl (hb hby own_d_prog_86_m3_28) rfl (tlt (by decide)).2.1 zq) ?_
    refine own_st (T' := T32) (g' := (mkF m 32 #[.val (.ref k), .val (.int r_), .val (.int c1), .val (.int (1 : Int32)), .unset, .unset] [(.ref k)])) (fun _ zq => XS.aloadN X32.here hx rfl (hb hby own_d_prog_86_m3_31) rfl rfl zq) ?_
    refine own_st (T' := T32) (g' := (mkF m 33 #[.val (.ref k), .val (.int r_), .val (.int c1), .val (.int (1 : Int32)), .unset, .unset] [(.int (1 : Int32)), (.ref k)])) (fun _ zq => XS.iloadN X32.here hx rfl (hb hby own_d_prog_86_m3_32) rfl zq) ?_
    refine own_st (T' := T32) (g' := (mkF m 34 #[.val (.ref k), .val (.int r_), .val (.int c1), .val (.int (1 : Int32)), .unset, .unset] [(.int r_), (.int (1 : Int32)), (.ref k)])) (fun _ zq => XS.iloadN X32.here hx rfl (hb hby own_d_prog_86_m3_33) rfl zq) ?_
    have BB : own_KR Z h0 k aK aR aT sf K Rr Tt rs := ⟨E_k, F_self, F_known, F_rose, F_told, F_rises, V_K, V_R, V_T, E_aK⟩
    obtain ⟨cq33, q33, q33'⟩ := E_k.cell
    obtain ⟨_, _, ⟨T33, L33, k33, n33⟩, -, X33, ⟨Lc33, hQ33, l33, y33, z33⟩, st33⟩ := X32.privateBack hx (y := (⟨"com/example/coterie/coterie/runtime/KnownRequests", "untold", "(II)Z"⟩ : MethodName)) hown (mvT hZ (hw _ (List.mem_of_getElem? (i := 46) rfl))) (mvT hZ (hw _ (List.mem_of_getElem? (i := 47) rfl))) (own_selP hZ (hw _ (List.mem_of_getElem? (i := 2) rfl)) (hw _ (List.mem_of_getElem? (i := 48) rfl)) (hw _ (List.mem_of_getElem? (i := 47) rfl)) (by decide)) (Cond.privateMethod_at (mvP hZ (hw _ (List.mem_of_getElem? (i := 48) rfl)) (args := #[]))) (mvT hZ (hw _ (List.mem_of_getElem? (i := 49) rfl))) (by decide) (backOf (W := 0) (rm_untold l Z a0 hw [] k aK aR aT sf K Rr Tt rs (1 : Int32) 1 r_ rn h0 n0 Zs BB rfl (by decide) hr hlr) hZ (hw _ (List.mem_of_getElem? (i := 49) rfl)) (hw _ (List.mem_of_getElem? (i := 3) rfl)) (by decide) (by decide)) (g := (mkF m 34 #[.val (.ref k), .val (.int r_), .val (.int c1), .val (.int (1 : Int32)), .unset, .unset] [(.int r_), (.int (1 : Int32)), (.ref k)])) rfl (by rw [hml]; rfl) (Steps.refl _) (a := k) (by rw [e32]; exact q33) q33' (argsL := [(.int (1 : Int32)), (.int r_)]) (rest := []) (lenOf own_pd1 rfl) rfl (by show 2 * 0 + _ ≤ _; exact Nat.le_of_eq rfl) (hb hby own_d_prog_86_m3_34) (fun _ _ => ⟨rfl, e32, (by decide : 0 + 0 ≤ _), (by decide : 0 + 0 ≤ _)⟩)
    dsimp only [Pt.U, Pt.locs, Pt.cells, Pt.slots] at X33 l33 y33 z33 st33 hQ33
    subst l33 y33 z33
    obtain ⟨rfl, Nq33, eq33⟩ := hQ33
    replace N := Fr.app N Nq33
    refine own_tr (g' := (mkF m 37 #[.val (.ref k), .val (.int r_), .val (.int c1), .val (.int (1 : Int32)), .unset, .unset] [(.int (if own_u Rr Tt rn 1 = true then 1 else 0))])) st33 ?_
    suffices J43_1 : ∀ (c2 : Int32) (hc2 : c2 = if own_u Rr Tt rn 1 = true then c1 + 1 else c1), own_Go p e below s (Q_news Z k aK aR aT sf K Rr Tt rs r_ rn aN fN h0 n0) ({ frames := 1, cells := 1, slots := 6, locals := 30 } : Room).cells ({ frames := 1, cells := 1, slots := 6, locals := 30 } : Room).slots T33 (mkF m 43 #[.val (.ref k), .val (.int r_), .val (.int c2), .val (.int (1 : Int32)), .unset, .unset] []) by
      by_cases hu : own_u Rr Tt rn 1 = true
      · skip
        refine own_st (T' := T33) (g' := (mkF m 40 #[.val (.ref k), .val (.int r_), .val (.int c1), .val (.int (1 : Int32)), .unset, .unset] [])) (fun _ zq => XS.ifNo X33.here hx rfl (hb hby own_d_prog_86_m3_37) rfl ((if0 _ _).trans (feq (by rw [if_pos hu]; decide)).1) zq) ?_
        refine own_st (T' := T33) (g' := (mkF m 43 #[.val (.ref k), .val (.int r_), .val (.int (c1 + (1 : Int32))), .val (.int (1 : Int32)), .unset, .unset] [])) (fun _ zq => XS.iinc X33.here hx rfl (hb hby own_d_prog_86_m3_40) rfl (l' := #[.val (.ref k), .val (.int r_), .val (.int (c1 + (1 : Int32))), .val (.int (1 : Int32)), .unset, .unset]) rfl zq) ?_
        exact J43_1 _ (if_pos hu).symm
      · skip
        refine own_st (T' := T33) (g' := (mkF m 43 #[.val (.ref k), .val (.int r_), .val (.int c1), .val (.int (1 : Int32)), .unset, .unset] [])) (fun _ zq => XS.ifYes X33.here hx rfl (pc0 := 37) (pc' := 43) rfl (hb hby own_d_prog_86_m3_37) rfl ((if0 _ _).trans (teq (by rw [if_neg hu])).1) (by decide) (by decide) zq) ?_
        exact J43_1 _ (if_neg hu).symm
    intro c2 hc2
    refine own_st (T' := T33) (g' := (mkF m 46 #[.val (.ref k), .val (.int r_), .val (.int c2), .val (.int ((1 : Int32) + (1 : Int32))), .unset, .unset] [])) (fun _ zq => XS.iinc X33.here hx rfl (hb hby own_d_prog_86_m3_43) rfl (l' := #[.val (.ref k), .val (.int r_), .val (.int c2), .val (.int ((1 : Int32) + (1 : Int32))), .unset, .unset]) rfl zq) ?_
    show own_Go p e below s (Q_news Z k aK aR aT sf K Rr Tt rs r_ rn aN fN h0 n0) ({ frames := 1, cells := 1, slots := 6, locals := 30 } : Room).cells ({ frames := 1, cells := 1, slots := 6, locals := 30 } : Room).slots T33 (mkF m 46 #[.val (.ref k), .val (.int r_), .val (.int c2), .val (.int (2 : Int32)), .unset, .unset] [])
    refine own_st (T' := T33) (g' := (mkF m 22 #[.val (.ref k), .val (.int r_), .val (.int c2), .val (.int (2 : Int32)), .unset, .unset] [])) (fun _ zq => XS.goto X33.here hx rfl (pc0 := 46) (pc' := 22) rfl (hb hby own_d_prog_86_m3_46) (by decide) (by decide) zq) ?_
    refine own_st (T' := T33) (g' := (mkF m 23 #[.val (.ref k), .val (.int r_), .val (.int c2), .val (.int (2 : Int32)), .unset, .unset] [(.int (2 : Int32))])) (fun _ zq => XS.iloadN X33.here hx rfl (hb hby own_d_prog_86_m3_22) rfl zq) ?_
    refine own_st (T' := T33) (g' := (mkF m 24 #[.val (.ref k), .val (.int r_), .val (.int c2), .val (.int (2 : Int32)), .unset, .unset] [(.ref k), (.int (2 : Int32))])) (fun _ zq => XS.aloadN X33.here hx rfl (hb hby own_d_prog_86_m3_23) rfl rfl zq) ?_
    obtain ⟨T34, X34, e34, st34⟩ := getF X33 hx hZ hown (host := "") (Or.inl (hw _ (List.mem_of_getElem? (i := 13) rfl))) Via.refl (eq33) F_known (g := (mkF m 24 #[.val (.ref k), .val (.int r_), .val (.int c2), .val (.int (2 : Int32)), .unset, .unset] [(.ref k), (.int (2 : Int32))])) rfl rfl (hb hby own_d_prog_86_m3_24)
    refine own_st (g' := (mkF m 27 #[.val (.ref k), .val (.int r_), .val (.int c2), .val (.int (2 : Int32)), .unset, .unset] [(.ref aK), (.int (2 : Int32))])) st34 ?_
    refine own_st (T' := T34) (g' := (mkF m 28 #[.val (.ref k), .val (.int r_), .val (.int c2), .val (.int (2 : Int32)), .unset, .unset] [(.int (3 : Int32)), (.int (2 : Int32))])) (own_len (z := (3 : Int32)) X34 hx hZ e34 V_K rfl (g := (mkF m 27 #[.val (.ref k), .val (.int r_), .val (.int c2), .val (.int (2 : Int32)), .unset, .unset] [(.ref aK), (.int (2 : Int32))])) rfl rfl (hb hby own_d_prog_86_m3_27)) ?_
    refine own_st (T' := T34) (g' := (mkF m 31 #[.val (.ref k), .val (.int r_), .val (.int c2), .val (.int (2 : Int32)), .unset, .unset] [])) (fun _ zq => XS.icmpNo X34.here hx rfl (hb hby own_d_prog_86_m3_28) rfl (tlt (by decide)).2.1 zq) ?_
    refine own_st (T' := T34) (g' := (mkF m 32 #[.val (.ref k), .val (.int r_), .val (.int c2), .val (.int (2 : Int32)), .unset, .unset] [(.ref k)])) (fun _ zq => XS.aloadN X34.here hx rfl (hb hby own_d_prog_86_m3_31) rfl rfl zq) ?_
    refine own_st (T' := T34) (g' := (mkF m 33 #[.val (.ref k), .val (.int r_), .val (.int c2), .val (.int (2 : Int32)), .unset, .unset] [(.int (2 : Int32)), (.ref k)])) (fun _ zq => XS.iloadN X34.here hx rfl (hb hby own_d_prog_86_m3_32) rfl zq) ?_
    refine own_st (T' := T34) (g' := (mkF m 34 #[.val (.ref k), .val (.int r_), .val (.int c2), .val (.int (2 : Int32)), .unset, .unset] [(.int r_), (.int (2 : Int32)), (.ref k)])) (fun _ zq => XS.iloadN X34.here hx rfl (hb hby own_d_prog_86_m3_33) rfl zq) ?_
    have BB : own_KR Z h0 k aK aR aT sf K Rr Tt rs := ⟨E_k, F_self, F_known, F_rose, F_told, F_rises, V_K, V_R, V_T, E_aK⟩
    obtain ⟨cq35, q35, q35'⟩ := E_k.cell
    obtain ⟨_, _, ⟨T35, L35, k35, n35⟩, -, X35, ⟨Lc35, hQ35, l35, y35, z35⟩, st35⟩ := X34.privateBack hx (y := (⟨"com/example/coterie/coterie/runtime/KnownRequests", "untold", "(II)Z"⟩ : MethodName)) hown (mvT hZ (hw _ (List.mem_of_getElem? (i := 46) rfl))) (mvT hZ (hw _ (List.mem_of_getElem? (i := 47) rfl))) (own_selP hZ (hw _ (List.mem_of_getElem? (i := 2) rfl)) (hw _ (List.mem_of_getElem? (i := 48) rfl)) (hw _ (List.mem_of_getElem? (i := 47) rfl)) (by decide)) (Cond.privateMethod_at (mvP hZ (hw _ (List.mem_of_getElem? (i := 48) rfl)) (args := #[]))) (mvT hZ (hw _ (List.mem_of_getElem? (i := 49) rfl))) (by decide) (backOf (W := 0) (rm_untold l Z a0 hw [] k aK aR aT sf K Rr Tt rs (2 : Int32) 2 r_ rn h0 n0 Zs BB rfl (by decide) hr hlr) hZ (hw _ (List.mem_of_getElem? (i := 49) rfl)) (hw _ (List.mem_of_getElem? (i := 3) rfl)) (by decide) (by decide)) (g := (mkF m 34 #[.val (.ref k), .val (.int r_), .val (.int c2), .val (.int (2 : Int32)), .unset, .unset] [(.int r_), (.int (2 : Int32)), (.ref k)])) rfl (by rw [hml]; rfl) (Steps.refl _) (a := k) (by rw [e34]; exact q35) q35' (argsL := [(.int (2 : Int32)), (.int r_)]) (rest := []) (lenOf own_pd1 rfl) rfl (by show 2 * 0 + _ ≤ _; exact Nat.le_of_eq rfl) (hb hby own_d_prog_86_m3_34) (fun _ _ => ⟨rfl, e34, (by decide : 0 + 0 ≤ _), (by decide : 0 + 0 ≤ _)⟩)
    dsimp only [Pt.U, Pt.locs, Pt.cells, Pt.slots] at X35 l35 y35 z35 st35 hQ35
    subst l35 y35 z35
    obtain ⟨rfl, Nq35, eq35⟩ := hQ35
    replace N := Fr.app N Nq35
    refine own_tr (g' := (mkF m 37 #[.val (.ref k), .val (.int r_), .val (.int c2), .val (.int (2 : Int32)), .unset, .unset] [(.int (if own_u Rr Tt rn 2 = true then 1 else 0))])) st35 ?_
    suffices J43_2 : ∀ (c3 : Int32) (hc3 : c3 = if own_u Rr Tt rn 2 = true then c2 + 1 else c2), own_Go p e below s (Q_news Z k aK aR aT sf K Rr Tt rs r_ rn aN fN h0 n0) ({ frames := 1, cells := 1, slots := 6, locals := 30 } : Room).cells ({ frames := 1, cells := 1, slots := 6, locals := 30 } : Room).slots T35 (mkF m 43 #[.val (.ref k), .val (.int r_), .val (.int c3), .val (.int (2 : Int32)), .unset, .unset] []) by
      by_cases hu : own_u Rr Tt rn 2 = true
      · skip
        refine own_st (T' := T35) (g' := (mkF m 40 #[.val (.ref k), .val (.int r_), .val (.int c2), .val (.int (2 : Int32)), .unset, .unset] [])) (fun _ zq => XS.ifNo X35.here hx rfl (hb hby own_d_prog_86_m3_37) rfl ((if0 _ _).trans (feq (by rw [if_pos hu]; decide)).1) zq) ?_
        refine own_st (T' := T35) (g' := (mkF m 43 #[.val (.ref k), .val (.int r_), .val (.int (c2 + (1 : Int32))), .val (.int (2 : Int32)), .unset, .unset] [])) (fun _ zq => XS.iinc X35.here hx rfl (hb hby own_d_prog_86_m3_40) rfl (l' := #[.val (.ref k), .val (.int r_), .val (.int (c2 + (1 : Int32))), .val (.int (2 : Int32)), .unset, .unset]) rfl zq) ?_
        exact J43_2 _ (if_pos hu).symm
      · skip
        refine own_st (T' := T35) (g' := (mkF m 43 #[.val (.ref k), .val (.int r_), .val (.int c2), .val (.int (2 : Int32)), .unset, .unset] [])) (fun _ zq => XS.ifYes X35.here hx rfl (pc0 := 37) (pc' := 43) rfl (hb hby own_d_prog_86_m3_37) rfl ((if0 _ _).trans (teq (by rw [if_neg hu])).1) (by decide) (by decide) zq) ?_
        exact J43_2 _ (if_neg hu).symm
    intro c3 hc3
    refine own_st (T' := T35) (g' := (mkF m 46 #[.val (.ref k), .val (.int r_), .val (.int c3), .val (.int ((2 : Int32) + (1 : Int32))), .unset, .unset] [])) (fun _ zq => XS.iinc X35.here hx rfl (hb hby own_d_prog_86_m3_43) rfl (l' := #[.val (.ref k), .val (.int r_), .val (.int c3), .val (.int ((2 : Int32) + (1 : Int32))), .unset, .unset]) rfl zq) ?_
    show own_Go p e below s (Q_news Z k aK aR aT sf K Rr Tt rs r_ rn aN fN h0 n0) ({ frames := 1, cells := 1, slots := 6, locals := 30 } : Room).cells ({ frames := 1, cells := 1, slots := 6, locals := 30 } : Room).slots T35 (mkF m 46 #[.val (.ref k), .val (.int r_), .val (.int c3), .val (.int (3 : Int32)), .unset, .unset] [])
    refine own_st (T' := T35) (g' := (mkF m 22 #[.val (.ref k), .val (.int r_), .val (.int c3), .val (.int (3 : Int32)), .unset, .unset] [])) (fun _ zq => XS.goto X35.here hx rfl (pc0 := 46) (pc' := 22) rfl (hb hby own_d_prog_86_m3_46) (by decide) (by decide) zq) ?_
    refine own_st (T' := T35) (g' := (mkF m 23 #[.val (.ref k), .val (.int r_), .val (.int c3), .val (.int (3 : Int32)), .unset, .unset] [(.int (3 : Int32))])) (fun _ zq => XS.iloadN X35.here hx rfl (hb hby own_d_prog_86_m3_22) rfl zq) ?_
    refine own_st (T' := T35) (g' := (mkF m 24 #[.val (.ref k), .val (.int r_), .val (.int c3), .val (.int (3 : Int32)), .unset, .unset] [(.ref k), (.int (3 : Int32))])) (fun _ zq => XS.aloadN X35.here hx rfl (hb hby own_d_prog_86_m3_23) rfl rfl zq) ?_
    obtain ⟨T36, X36, e36, st36⟩ := getF X35 hx hZ hown (host := "") (Or.inl (hw _ (List.mem_of_getElem? (i := 13) rfl))) Via.refl (eq35) F_known (g := (mkF m 24 #[.val (.ref k), .val (.int r_), .val (.int c3), .val (.int (3 : Int32)), .unset, .unset] [(.ref k), (.int (3 : Int32))])) rfl rfl (hb hby own_d_prog_86_m3_24)
    refine own_st (g' := (mkF m 27 #[.val (.ref k), .val (.int r_), .val (.int c3), .val (.int (3 : Int32)), .unset, .unset] [(.ref aK), (.int (3 : Int32))])) st36 ?_
    refine own_st (T' := T36) (g' := (mkF m 28 #[.val (.ref k), .val (.int r_), .val (.int c3), .val (.int (3 : Int32)), .unset, .unset] [(.int (3 : Int32)), (.int (3 : Int32))])) (own_len (z := (3 : Int32)) X36 hx hZ e36 V_K rfl (g := (mkF m 27 #[.val (.ref k), .val (.int r_), .val (.int c3), .val (.int (3 : Int32)), .unset, .unset] [(.ref aK), (.int (3 : Int32))])) rfl rfl (hb hby own_d_prog_86_m3_27)) ?_
    refine own_st (T' := T36) (g' := (mkF m 49 #[.val (.ref k), .val (.int r_), .val (.int c3), .val (.int (3 : Int32)), .unset, .unset] [])) (fun _ zq => XS.icmpYes X36.here hx rfl (pc0 := 28) (pc' := 49) rfl (hb hby own_d_prog_86_m3_28) rfl (flt (by decide)).2.1 (by decide) (by decide) zq) ?_
    refine own_st (T' := T36) (g' := (mkF m 50 #[.val (.ref k), .val (.int r_), .val (.int c3), .val (.int (3 : Int32)), .unset, .unset] [(.int (2 : Int32))])) (fun _ zq => XS.iconst X36.here hx rfl (hb hby own_d_prog_86_m3_49) zq) ?_
    refine own_st (T' := T36) (g' := (mkF m 51 #[.val (.ref k), .val (.int r_), .val (.int c3), .val (.int (3 : Int32)), .unset, .unset] [(.int c3), (.int (2 : Int32))])) (fun _ zq => XS.iloadN X36.here hx rfl (hb hby own_d_prog_86_m3_50) rfl zq) ?_
    refine own_st (T' := T36) (g' := (mkF m 52 #[.val (.ref k), .val (.int r_), .val (.int c3), .val (.int (3 : Int32)), .unset, .unset] [(.int ((2 : Int32) * c3))])) (fun _ zq => XS.imul X36.here hx rfl (hb hby own_d_prog_86_m3_51) rfl zq) ?_
    obtain ⟨hlen, hle6⟩ := own_len3 (p := own_u Rr Tt rn) (K := K) hc1 hc2 hc3
    obtain ⟨T37, h37, k37, X37, e37, E37, A37, st37⟩ := newP X36 hx hZ (hw _ (List.mem_of_getElem? (i := 12) rfl)) e36 (g := (mkF m 52 #[.val (.ref k), .val (.int r_), .val (.int c3), .val (.int (3 : Int32)), .unset, .unset] [(.int ((2 : Int32) * c3))])) rfl (hb hby own_d_prog_86_m3_52) rfl (own_clamp hlen).1 (cap := 6) (by rw [(own_clamp hlen).2]; exact hle6) (by decide) (by decide) (by decide)
    obtain ⟨b37, ga37⟩ : ∃ z, z = h0.size := ⟨_, rfl⟩
    rw [← ga37] at A37 st37
    have g_b37 : n0 ≤ b37 := Nat.le_trans Zs (Nat.le_of_eq ga37.symm)
    have sz_b37 : h0.size ≤ b37 := Nat.le_trans K0.1 (Nat.le_of_eq ga37.symm)
    have ne_k_b37 : k ≠ b37 := fun q => Nat.lt_irrefl _ (Nat.lt_of_lt_of_eq E_k.lt (ga37.symm.trans q.symm))
    have ne_aK_b37 : aK ≠ b37 := fun q => Nat.lt_irrefl _ (Nat.lt_of_lt_of_eq V_K.lt (ga37.symm.trans q.symm))
    have ne_aR_b37 : aR ≠ b37 := fun q => Nat.lt_irrefl _ (Nat.lt_of_lt_of_eq V_R.lt (ga37.symm.trans q.symm))
    have ne_aT_b37 : aT ≠ b37 := fun q => Nat.lt_irrefl _ (Nat.lt_of_lt_of_eq V_T.lt (ga37.symm.trans q.symm))
    replace O := O.ext E37
    replace E_k := E_k.ext E37
    replace F_self := F_self.ext E37
    replace F_known := F_known.ext E37
    replace F_rose := F_rose.ext E37
    replace F_told := F_told.ext E37
    replace F_rises := F_rises.ext E37
    replace V_K := V_K.ext E37
    replace V_R := V_R.ext E37
    replace V_T := V_T.ext E37
    replace E_aK := E_aK.ext E37
    replace Zs := Nat.le_trans Zs E37.1
    replace K0 := K0.ext E37
    have V_b37 : own_AV Z h37 b37 .long (own_L3 (own_u Rr Tt rn) K).length (fun _ => .long (0 : Int64)) := own_AV.new A37 hlen
    refine own_st (g' := (mkF m 54 #[.val (.ref k), .val (.int r_), .val (.int c3), .val (.int (3 : Int32)), .unset, .unset] [(.ref b37)])) st37 ?_
    refine own_st (T' := T37) (g' := (mkF m 55 #[.val (.ref k), .val (.int r_), .val (.int c3), .val (.ref b37), .unset, .unset] [])) (fun _ zq => XS.astoreN X37.here hx rfl (hb hby own_d_prog_86_m3_54) rfl rfl (l' := #[.val (.ref k), .val (.int r_), .val (.int c3), .val (.ref b37), .unset, .unset]) rfl zq) ?_
    refine own_st (T' := T37) (g' := (mkF m 56 #[.val (.ref k), .val (.int r_), .val (.int c3), .val (.ref b37), .unset, .unset] [(.int (0 : Int32))])) (fun _ zq => XS.iconst X37.here hx rfl (hb hby own_d_prog_86_m3_55) zq) ?_
    refine own_st (T' := T37) (g' := (mkF m 58 #[.val (.ref k), .val (.int r_), .val (.int c3), .val (.ref b37), .val (.int (0 : Int32)), .unset] [])) (fun _ zq => XS.istore X37.here hx rfl (hb hby own_d_prog_86_m3_56) rfl (l' := #[.val (.ref k), .val (.int r_), .val (.int c3), .val (.ref b37), .val (.int (0 : Int32)), .unset]) rfl zq) ?_
    refine own_st (T' := T37) (g' := (mkF m 59 #[.val (.ref k), .val (.int r_), .val (.int c3), .val (.ref b37), .val (.int (0 : Int32)), .unset] [(.int (0 : Int32))])) (fun _ zq => XS.iconst X37.here hx rfl (hb hby own_d_prog_86_m3_58) zq) ?_
    refine own_st (T' := T37) (g' := (mkF m 61 #[.val (.ref k), .val (.int r_), .val (.int c3), .val (.ref b37), .val (.int (0 : Int32)), .val (.int (0 : Int32))] [])) (fun _ zq => XS.istore X37.here hx rfl (hb hby own_d_prog_86_m3_59) rfl (l' := #[.val (.ref k), .val (.int r_), .val (.int c3), .val (.ref b37), .val (.int (0 : Int32)), .val (.int (0 : Int32))]) rfl zq) ?_
    refine own_st (T' := T37) (g' := (mkF m 63 #[.val (.ref k), .val (.int r_), .val (.int c3), .val (.ref b37), .val (.int (0 : Int32)), .val (.int (0 : Int32))] [(.int (0 : Int32))])) (fun _ zq => XS.iload X37.here hx rfl (hb hby own_d_prog_86_m3_61) rfl zq) ?_
    refine own_st (T' := T37) (g' := (mkF m 64 #[.val (.ref k), .val (.int r_), .val (.int c3), .val (.ref b37), .val (.int (0 : Int32)), .val (.int (0 : Int32))] [(.ref k), (.int (0 : Int32))])) (fun _ zq => XS.aloadN X37.here hx rfl (hb hby own_d_prog_86_m3_63) rfl rfl zq) ?_
    obtain ⟨T38, X38, e38, st38⟩ := getF X37 hx hZ hown (host := "") (Or.inl (hw _ (List.mem_of_getElem? (i := 13) rfl))) Via.refl e37 F_known (g := (mkF m 64 #[.val (.ref k), .val (.int r_), .val (.int c3), .val (.ref b37), .val (.int (0 : Int32)), .val (.int (0 : Int32))] [(.ref k), (.int (0 : Int32))])) rfl rfl (hb hby own_d_prog_86_m3_64)
    refine own_st (g' := (mkF m 67 #[.val (.ref k), .val (.int r_), .val (.int c3), .val (.ref b37), .val (.int (0 : Int32)), .val (.int (0 : Int32))] [(.ref aK), (.int (0 : Int32))])) st38 ?_
    have hf0 : ∀ j, j < ([] : List Int64).length → (fun _ => Value.long (0 : Int64)) j = .long (([] : List Int64).getD j 0) := fun j hj => absurd hj (Nat.not_lt_zero _)
    refine own_st (T' := T38) (g' := (mkF m 68 #[.val (.ref k), .val (.int r_), .val (.int c3), .val (.ref b37), .val (.int (0 : Int32)), .val (.int (0 : Int32))] [(.int (3 : Int32)), (.int (0 : Int32))])) (own_len (z := (3 : Int32)) X38 hx hZ e38 V_K rfl (g := (mkF m 67 #[.val (.ref k), .val (.int r_), .val (.int c3), .val (.ref b37), .val (.int (0 : Int32)), .val (.int (0 : Int32))] [(.ref aK), (.int (0 : Int32))])) rfl rfl (hb hby own_d_prog_86_m3_67)) ?_
    refine own_st (T' := T38) (g' := (mkF m 71 #[.val (.ref k), .val (.int r_), .val (.int c3), .val (.ref b37), .val (.int (0 : Int32)), .val (.int (0 : Int32))] [])) (fun _ zq => XS.icmpNo X38.here hx rfl (hb hby own_d_prog_86_m3_68) rfl (tlt (by decide)).2.1 zq) ?_
    refine own_st (T' := T38) (g' := (mkF m 72 #[.val (.ref k), .val (.int r_), .val (.int c3), .val (.ref b37), .val (.int (0 : Int32)), .val (.int (0 : Int32))] [(.ref k)])) (fun _ zq => XS.aloadN X38.here hx rfl (hb hby own_d_prog_86_m3_71) rfl rfl zq) ?_
    refine own_st (T' := T38) (g' := (mkF m 74 #[.val (.ref k), .val (.int r_), .val (.int c3), .val (.ref b37), .val (.int (0 : Int32)), .val (.int (0 : Int32))] [(.int (0 : Int32)), (.ref k)])) (fun _ zq => XS.iload X38.here hx rfl (hb hby own_d_prog_86_m3_72) rfl zq) ?_
    refine own_st (T' := T38) (g' := (mkF m 75 #[.val (.ref k), .val (.int r_), .val (.int c3), .val (.ref b37), .val (.int (0 : Int32)), .val (.int (0 : Int32))] [(.int r_), (.int (0 : Int32)), (.ref k)])) (fun _ zq => XS.iloadN X38.here hx rfl (hb hby own_d_prog_86_m3_74) rfl zq) ?_
    have BB : own_KR Z h37 k aK aR aT sf K Rr Tt rs := ⟨E_k, F_self, F_known, F_rose, F_told, F_rises, V_K, V_R, V_T, E_aK⟩
    obtain ⟨cq39, q39, q39'⟩ := E_k.cell
    obtain ⟨_, _, ⟨T39, L39, k39, n39⟩, -, X39, ⟨Lc39, hQ39, l39, y39, z39⟩, st39⟩ := X38.privateBack hx (y := (⟨"com/example/coterie/coterie/runtime/KnownRequests", "untold", "(II)Z"⟩ : MethodName)) hown (mvT hZ (hw _ (List.mem_of_getElem? (i := 46) rfl))) (mvT hZ (hw _ (List.mem_of_getElem? (i := 47) rfl))) (own_selP hZ (hw _ (List.mem_of_getElem? (i := 2) rfl)) (hw _ (List.mem_of_getElem? (i := 48) rfl)) (hw _ (List.mem_of_getElem? (i := 47) rfl)) (by decide)) (Cond.privateMethod_at (mvP hZ (hw _ (List.mem_of_getElem? (i := 48) rfl)) (args := #[]))) (mvT hZ (hw _ (List.mem_of_getElem? (i := 49) rfl))) (by decide) (backOf (W := 0) (rm_untold l Z a0 hw [] k aK aR aT sf K Rr Tt rs (0 : Int32) 0 r_ rn h37 n0 Zs BB rfl (by decide) hr hlr) hZ (hw _ (List.mem_of_getElem? (i := 49) rfl)) (hw _ (List.mem_of_getElem? (i := 3) rfl)) (by decide) (by decide)) (g := (mkF m 75 #[.val (.ref k), .val (.int r_), .val (.int c3), .val (.ref b37), .val (.int (0 : Int32)), .val (.int (0 : Int32))] [(.int r_), (.int (0 : Int32)), (.ref k)])) rfl (by rw [hml]; rfl) (Steps.refl _) (a := k) (by rw [e38]; exact q39) q39' (argsL := [(.int (0 : Int32)), (.int r_)]) (rest := []) (lenOf own_pd1 rfl) rfl (by show 2 * 0 + _ ≤ _; exact Nat.le_of_eq rfl) (hb hby own_d_prog_86_m3_75) (fun _ _ => ⟨rfl, e38, (by decide : 1 + 0 ≤ _), (by decide : 6 + 0 ≤ _)⟩)
    dsimp only [Pt.U, Pt.locs, Pt.cells, Pt.slots] at X39 l39 y39 z39 st39 hQ39
    subst l39 y39 z39
    obtain ⟨rfl, Nq39, eq39⟩ := hQ39
    replace N := Fr.app N Nq39
    refine own_tr (g' := (mkF m 78 #[.val (.ref k), .val (.int r_), .val (.int c3), .val (.ref b37), .val (.int (0 : Int32)), .val (.int (0 : Int32))] [(.int (if own_u Rr Tt rn 0 = true then 1 else 0))])) st39 ?_
    suffices J105_0 : ∀ (T40 : State) (lo40 : List Loc) (h40 : Heap) (X40 : Stand p l e ({ frames := 1, cells := 1, slots := 6, locals := 30 } : Room) s m #[(.ref k), (.int r_)] below meth c T40 lo40 1 6) (e40 : T40.heap = h40) (N40 : Fr n0 lo40) (Z40 : n0 ≤ h40.size) (K40 : Keep h0 h40 [k, aK, aR, aT]) (t1 : Int32) (f1 : Nat → Value) (E_k : Exa Z h40 k "com/example/coterie/coterie/runtime/KnownRequests") (F_self : Fld Z h40 k "com/example/coterie/coterie/runtime/KnownRequests" "self" "I" (.int sf)) (F_known : Fld Z h40 k "com/example/coterie/coterie/runtime/KnownRequests" "known" "[J" (.ref aK)) (F_rose : Fld Z h40 k "com/example/coterie/coterie/runtime/KnownRequests" "roseAt" "[J" (.ref aR)) (F_told : Fld Z h40 k "com/example/coterie/coterie/runtime/KnownRequests" "told" "[J" (.ref aT)) (F_rises : Fld Z h40 k "com/example/coterie/coterie/runtime/KnownRequests" "rises" "J" (.long rs)) (V_K : own_AV Z h40 aK .long 3 (fun i => .long (K i))) (V_R : own_AV Z h40 aR .long 3 (fun i => .long (Rr i))) (V_T : own_AV Z h40 aT .long 3 (fun i => .long (Tt i))) (E_aK : Exa Z h40 aK "[J") (V_b37 : own_AV Z h40 b37 .long (own_L3 (own_u Rr Tt rn) K).length f1) (O : Old Z n0 h40) (hp1 : t1.toInt = (((own_L1 (own_u Rr Tt rn) K).length : Nat) : Int)) (hf1 : ∀ j, j < (own_L1 (own_u Rr Tt rn) K).length → f1 j = .long ((own_L1 (own_u Rr Tt rn) K).getD j 0)), own_Go p e below s (Q_news Z k aK aR aT sf K Rr Tt rs r_ rn aN fN h0 n0) ({ frames := 1, cells := 1, slots := 6, locals := 30 } : Room).cells ({ frames := 1, cells := 1, slots := 6, locals := 30 } : Room).slots T40 (mkF m 105 #[.val (.ref k), .val (.int r_), .val (.int c3), .val (.ref b37), .val (.int t1), .val (.int (0 : Int32))] []) by
      by_cases hu : own_u Rr Tt rn 0 = true
      · skip
        refine own_st (T' := T39) (g' := (mkF m 81 #[.val (.ref k), .val (.int r_), .val (.int c3), .val (.ref b37), .val (.int (0 : Int32)), .val (.int (0 : Int32))] [])) (fun _ zq => XS.ifNo X39.here hx rfl (hb hby own_d_prog_86_m3_78) rfl ((if0 _ _).trans (feq (by rw [if_pos hu]; decide)).1) zq) ?_
        have hwl : (own_L1 (own_u Rr Tt rn) K) = ([] : List Int64) ++ [0, K 0] := own_w0 (p := own_u Rr Tt rn) hu
        have hll : ([] : List Int64).length + 2 ≤ (own_L3 (own_u Rr Tt rn) K).length := own_b0 (p := own_u Rr Tt rn) hu
        refine own_st (T' := T39) (g' := (mkF m 82 #[.val (.ref k), .val (.int r_), .val (.int c3), .val (.ref b37), .val (.int (0 : Int32)), .val (.int (0 : Int32))] [(.ref b37)])) (fun _ zq => XS.aloadN X39.here hx rfl (hb hby own_d_prog_86_m3_81) rfl rfl zq) ?_
        refine own_st (T' := T39) (g' := (mkF m 84 #[.val (.ref k), .val (.int r_), .val (.int c3), .val (.ref b37), .val (.int (0 : Int32)), .val (.int (0 : Int32))] [(.int (0 : Int32)), (.ref b37)])) (fun _ zq => XS.iload X39.here hx rfl (hb hby own_d_prog_86_m3_82) rfl zq) ?_
        refine own_st (T' := T39) (g' := (mkF m 87 #[.val (.ref k), .val (.int r_), .val (.int c3), .val (.ref b37), .val (.int ((0 : Int32) + (1 : Int32))), .val (.int (0 : Int32))] [(.int (0 : Int32)), (.ref b37)])) (fun _ zq => XS.iinc X39.here hx rfl (hb hby own_d_prog_86_m3_84) rfl (l' := #[.val (.ref k), .val (.int r_), .val (.int c3), .val (.ref b37), .val (.int ((0 : Int32) + (1 : Int32))), .val (.int (0 : Int32))]) rfl zq) ?_
        refine own_st (T' := T39) (g' := (mkF m 89 #[.val (.ref k), .val (.int r_), .val (.int c3), .val (.ref b37), .val (.int ((0 : Int32) + (1 : Int32))), .val (.int (0 : Int32))] [(.int (0 : Int32)), (.int (0 : Int32)), (.ref b37)])) (fun _ zq => XS.iload X39.here hx rfl (hb hby own_d_prog_86_m3_87) rfl zq) ?_
        refine own_st (T' := T39) (g' := (mkF m 90 #[.val (.ref k), .val (.int r_), .val (.int c3), .val (.ref b37), .val (.int ((0 : Int32) + (1 : Int32))), .val (.int (0 : Int32))] [(.long ((0 : Int32).toInt64)), (.int (0 : Int32)), (.ref b37)])) (fun _ zq => XS.i2l X39.here hx rfl (hb hby own_d_prog_86_m3_89) rfl zq) ?_
        obtain ⟨T41, h41, X41, e41, W41, V41, st41⟩ := own_stJ X39 hx hZ (eq39) V_b37 (j := (0 : Int32)) (([] : List Int64).length) (rfl : ((0 : Int32)).toInt = ((([] : List Int64).length : Nat) : Int)) (by omega) (g := (mkF m 90 #[.val (.ref k), .val (.int r_), .val (.int c3), .val (.ref b37), .val (.int ((0 : Int32) + (1 : Int32))), .val (.int (0 : Int32))] [(.long ((0 : Int32).toInt64)), (.int (0 : Int32)), (.ref b37)])) rfl rfl (hb hby own_d_prog_86_m3_90)
        replace O := O.wr W41 g_b37
        replace E_k := E_k.wr W41
        replace F_self := F_self.other W41 (Or.inl ne_k_b37)
        replace F_known := F_known.other W41 (Or.inl ne_k_b37)
        replace F_rose := F_rose.other W41 (Or.inl ne_k_b37)
        replace F_told := F_told.other W41 (Or.inl ne_k_b37)
        replace F_rises := F_rises.other W41 (Or.inl ne_k_b37)
        replace V_K := V_K.other W41 ne_aK_b37
        replace V_R := V_R.other W41 ne_aR_b37
        replace V_T := V_T.other W41 ne_aT_b37
        replace E_aK := E_aK.wr W41
        replace Zs := Nat.le_trans Zs (Keep.of_wr W41).1
        replace K0 := K0.wr W41 (Or.inr sz_b37)
        replace V_b37 := V41
        replace N := Fr.snoc X41 N g_b37
        refine own_st (g' := (mkF m 91 #[.val (.ref k), .val (.int r_), .val (.int c3), .val (.ref b37), .val (.int ((0 : Int32) + (1 : Int32))), .val (.int (0 : Int32))] [])) st41 ?_
        refine own_st (T' := T41) (g' := (mkF m 92 #[.val (.ref k), .val (.int r_), .val (.int c3), .val (.ref b37), .val (.int ((0 : Int32) + (1 : Int32))), .val (.int (0 : Int32))] [(.ref b37)])) (fun _ zq => XS.aloadN X41.here hx rfl (hb hby own_d_prog_86_m3_91) rfl rfl zq) ?_
        refine own_st (T' := T41) (g' := (mkF m 94 #[.val (.ref k), .val (.int r_), .val (.int c3), .val (.ref b37), .val (.int ((0 : Int32) + (1 : Int32))), .val (.int (0 : Int32))] [(.int ((0 : Int32) + (1 : Int32))), (.ref b37)])) (fun _ zq => XS.iload X41.here hx rfl (hb hby own_d_prog_86_m3_92) rfl zq) ?_
        refine own_st (T' := T41) (g' := (mkF m 97 #[.val (.ref k), .val (.int r_), .val (.int c3), .val (.ref b37), .val (.int (((0 : Int32) + (1 : Int32)) + (1 : Int32))), .val (.int (0 : Int32))] [(.int ((0 : Int32) + (1 : Int32))), (.ref b37)])) (fun _ zq => XS.iinc X41.here hx rfl (hb hby own_d_prog_86_m3_94) rfl (l' := #[.val (.ref k), .val (.int r_), .val (.int c3), .val (.ref b37), .val (.int (((0 : Int32) + (1 : Int32)) + (1 : Int32))), .val (.int (0 : Int32))]) rfl zq) ?_
        refine own_st (T' := T41) (g' := (mkF m 98 #[.val (.ref k), .val (.int r_), .val (.int c3), .val (.ref b37), .val (.int (((0 : Int32) + (1 : Int32)) + (1 : Int32))), .val (.int (0 : Int32))] [(.ref k), (.int ((0 : Int32) + (1 : Int32))), (.ref b37)])) (fun _ zq => XS.aloadN X41.here hx rfl (hb hby own_d_prog_86_m3_97) rfl rfl zq) ?_
        obtain ⟨T42, X42, e42, st42⟩ := getF X41 hx hZ hown (host := "") (Or.inl (hw _ (List.mem_of_getElem? (i := 13) rfl))) Via.refl e41 F_known (g := (mkF m 98 #[.val (.ref k), .val (.int r_), .val (.int c3), .val (.ref b37), .val (.int (((0 : Int32) + (1 : Int32)) + (1 : Int32))), .val (.int (0 : Int32))] [(.ref k), (.int ((0 : Int32) + (1 : Int32))), (.ref b37)])) rfl rfl (hb hby own_d_prog_86_m3_98)
        refine own_st (g' := (mkF m 101 #[.val (.ref k), .val (.int r_), .val (.int c3), .val (.ref b37), .val (.int (((0 : Int32) + (1 : Int32)) + (1 : Int32))), .val (.int (0 : Int32))] [(.ref aK), (.int ((0 : Int32) + (1 : Int32))), (.ref b37)])) st42 ?_
        refine own_st (T' := T42) (g' := (mkF m 103 #[.val (.ref k), .val (.int r_), .val (.int c3), .val (.ref b37), .val (.int (((0 : Int32) + (1 : Int32)) + (1 : Int32))), .val (.int (0 : Int32))] [(.int (0 : Int32)), (.ref aK), (.int ((0 : Int32) + (1 : Int32))), (.ref b37)])) (fun _ zq => XS.iload X42.here hx rfl (hb hby own_d_prog_86_m3_101) rfl zq) ?_
        refine own_st (T' := T42) (g' := (mkF m 104 #[.val (.ref k), .val (.int r_), .val (.int c3), .val (.ref b37), .val (.int (((0 : Int32) + (1 : Int32)) + (1 : Int32))), .val (.int (0 : Int32))] [(.long (K 0)), (.int ((0 : Int32) + (1 : Int32))), (.ref b37)])) (own_ldJ X42 hx hZ e42 V_K (j := (0 : Int32)) (0) rfl (by decide) (w := (.long (K 0))) rfl (g := (mkF m 103 #[.val (.ref k), .val (.int r_), .val (.int c3), .val (.ref b37), .val (.int (((0 : Int32) + (1 : Int32)) + (1 : Int32))), .val (.int (0 : Int32))] [(.int (0 : Int32)), (.ref aK), (.int ((0 : Int32) + (1 : Int32))), (.ref b37)])) rfl rfl (hb hby own_d_prog_86_m3_103)) ?_
        obtain ⟨T43, h43, X43, e43, W43, V43, st43⟩ := own_stJ X42 hx hZ e42 V_b37 (j := ((0 : Int32) + (1 : Int32))) (([] : List Int64).length + 1) (own_p1 (rfl : ((0 : Int32)).toInt = ((([] : List Int64).length : Nat) : Int)) hle6 hll) (by omega) (g := (mkF m 104 #[.val (.ref k), .val (.int r_), .val (.int c3), .val (.ref b37), .val (.int (((0 : Int32) + (1 : Int32)) + (1 : Int32))), .val (.int (0 : Int32))] [(.long (K 0)), (.int ((0 : Int32) + (1 : Int32))), (.ref b37)])) rfl rfl (hb hby own_d_prog_86_m3_104)
        replace O := O.wr W43 g_b37
        replace E_k := E_k.wr W43
        replace F_self := F_self.other W43 (Or.inl ne_k_b37)
        replace F_known := F_known.other W43 (Or.inl ne_k_b37)
        replace F_rose := F_rose.other W43 (Or.inl ne_k_b37)
        replace F_told := F_told.other W43 (Or.inl ne_k_b37)
        replace F_rises := F_rises.other W43 (Or.inl ne_k_b37)
        replace V_K := V_K.other W43 ne_aK_b37
        replace V_R := V_R.other W43 ne_aR_b37
        replace V_T := V_T.other W43 ne_aT_b37
        replace E_aK := E_aK.wr W43
        replace Zs := Nat.le_trans Zs (Keep.of_wr W43).1
        replace K0 := K0.wr W43 (Or.inr sz_b37)
        replace V_b37 := V43
        replace N := Fr.snoc X43 N g_b37
        refine own_st (g' := (mkF m 105 #[.val (.ref k), .val (.int r_), .val (.int c3), .val (.ref b37), .val (.int (((0 : Int32) + (1 : Int32)) + (1 : Int32))), .val (.int (0 : Int32))] [])) st43 ?_
        exact J105_0 T43 _ h43 (X43.more (Nat.le_of_ble_eq_true rfl) (Nat.le_of_ble_eq_true rfl)) e43 N Zs K0 _ _ E_k F_self F_known F_rose F_told F_rises V_K V_R V_T E_aK V_b37 O (by rw [hwl]; exact own_p2 (rfl : ((0 : Int32)).toInt = ((([] : List Int64).length : Nat) : Int)) (by omega)) (by rw [hwl]; exact own_ext2 rfl hf0)
      · skip
        refine own_st (T' := T39) (g' := (mkF m 105 #[.val (.ref k), .val (.int r_), .val (.int c3), .val (.ref b37), .val (.int (0 : Int32)), .val (.int (0 : Int32))] [])) (fun _ zq => XS.ifYes X39.here hx rfl (pc0 := 78) (pc' := 105) rfl (hb hby own_d_prog_86_m3_78) rfl ((if0 _ _).trans (teq (by rw [if_neg hu])).1) (by decide) (by decide) zq) ?_
        have hwl : (own_L1 (own_u Rr Tt rn) K) = ([] : List Int64) := own_v0 (p := own_u Rr Tt rn) hu
        exact J105_0 T39 _ h37 (X39.more (Nat.le_of_ble_eq_true rfl) (Nat.le_of_ble_eq_true rfl)) (eq39) N Zs K0 _ _ E_k F_self F_known F_rose F_told F_rises V_K V_R V_T E_aK V_b37 O (by rw [hwl]; exact (rfl : ((0 : Int32)).toInt = ((([] : List Int64).length : Nat) : Int))) (by rw [hwl]; exact hf0)
    intro T40 lo40 h40 X40 e40 N40 Z40 K40 t1 f1 E_k F_self F_known F_rose F_told F_rises V_K V_R V_T E_aK V_b37 O hp1 hf1
    refine own_st (T' := T40) (g' := (mkF m 108 #[.val (.ref k), .val (.int r_), .val (.int c3), .val (.ref b37), .val (.int t1), .val (.int ((0 : Int32) + (1 : Int32)))] [])) (fun _ zq => XS.iinc X40.here hx rfl (hb hby own_d_prog_86_m3_105) rfl (l' := #[.val (.ref k), .val (.int r_), .val (.int c3), .val (.ref b37), .val (.int t1), .val (.int ((0 : Int32) + (1 : Int32)))]) rfl zq) ?_
    show own_Go p e below s (Q_news Z k aK aR aT sf K Rr Tt rs r_ rn aN fN h0 n0) ({ frames := 1, cells := 1, slots := 6, locals := 30 } : Room).cells ({ frames := 1, cells := 1, slots := 6, locals := 30 } : Room).slots T40 (mkF m 108 #[.val (.ref k), .val (.int r_), .val (.int c3), .val (.ref b37), .val (.int t1), .val (.int (1 : Int32))] [])
    refine own_st (T' := T40) (g' := (mkF m 61 #[.val (.ref k), .val (.int r_), .val (.int c3), .val (.ref b37), .val (.int t1), .val (.int (1 : Int32))] [])) (fun _ zq => XS.goto X40.here hx rfl (pc0 := 108) (pc' := 61) rfl (hb hby own_d_prog_86_m3_108) (by decide) (by decide) zq) ?_
    refine own_st (T' := T40) (g' := (mkF m 63 #[.val (.ref k), .val (.int r_), .val (.int c3), .val (.ref b37), .val (.int t1), .val (.int (1 : Int32))] [(.int (1 : Int32))])) (fun _ zq => XS.iload X40.here hx rfl (hb hby own_d_prog_86_m3_61) rfl zq) ?_
    refine own_st (T' := T40) (g' := (mkF m 64 #[.val (.ref k), .val (.int r_), .val (.int c3), .val (.ref b37), .val (.int t1), .val (.int (1 : Int32))] [(.ref k), (.int (1 : Int32))])) (fun _ zq => XS.aloadN X40.here hx rfl (hb hby own_d_prog_86_m3_63) rfl rfl zq) ?_
    obtain ⟨T44, X44, e44, st44⟩ := getF X40 hx hZ hown (host := "") (Or.inl (hw _ (List.mem_of_getElem? (i := 13) rfl))) Via.refl e40 F_known (g := (mkF m 64 #[.val (.ref k), .val (.int r_), .val (.int c3), .val (.ref b37), .val (.int t1), .val (.int (1 : Int32))] [(.ref k), (.int (1 : Int32))])) rfl rfl (hb hby own_d_prog_86_m3_64)
    refine own_st (g' := (mkF m 67 #[.val (.ref k), .val (.int r_), .val (.int c3), .val (.ref b37), .val (.int t1), .val (.int (1 : Int32))] [(.ref aK), (.int (1 : Int32))])) st44 ?_
    refine own_st (T' := T44) (g' := (mkF m 68 #[.val (.ref k), .val (.int r_), .val (.int c3), .val (.ref b37), .val (.int t1), .val (.int (1 : Int32))] [(.int (3 : Int32)), (.int (1 : Int32))])) (own_len (z := (3 : Int32)) X44 hx hZ e44 V_K rfl (g := (mkF m 67 #[.val (.ref k), .val (.int r_), .val (.int c3), .val (.ref b37), .val (.int t1), .val (.int (1 : Int32))] [(.ref aK), (.int (1 : Int32))])) rfl rfl (hb hby own_d_prog_86_m3_67)) ?_
    refine own_st (T' := T44) (g' := (mkF m 71 #[.val (.ref k), .val (.int r_), .val (.int c3), .val (.ref b37), .val (.int t1), .val (.int (1 : Int32))] [])) (fun _ zq => XS.icmpNo X44.here hx rfl (hb hby own_d_prog_86_m3_68) rfl (tlt (by decide)).2.1 zq) ?_
    refine own_st (T' := T44) (g' := (mkF m 72 #[.val (.ref k), .val (.int r_), .val (.int c3), .val (.ref b37), .val (.int t1), .val (.int (1 : Int32))] [(.ref k)])) (fun _ zq => XS.aloadN X44.here hx rfl (hb hby own_d_prog_86_m3_71) rfl rfl zq) ?_
    refine own_st (T' := T44) (g' := (mkF m 74 #[.val (.ref k), .val (.int r_), .val (.int c3), .val (.ref b37), .val (.int t1), .val (.int (1 : Int32))] [(.int (1 : Int32)), (.ref k)])) (fun _ zq => XS.iload X44.here hx rfl (hb hby own_d_prog_86_m3_72) rfl zq) ?_
    refine own_st (T' := T44) (g' := (mkF m 75 #[.val (.ref k), .val (.int r_), .val (.int c3), .val (.ref b37), .val (.int t1), .val (.int (1 : Int32))] [(.int r_), (.int (1 : Int32)), (.ref k)])) (fun _ zq => XS.iloadN X44.here hx rfl (hb hby own_d_prog_86_m3_74) rfl zq) ?_
    have BB : own_KR Z h40 k aK aR aT sf K Rr Tt rs := ⟨E_k, F_self, F_known, F_rose, F_told, F_rises, V_K, V_R, V_T, E_aK⟩
    obtain ⟨cq45, q45, q45'⟩ := E_k.cell
    obtain ⟨_, _, ⟨T45, L45, k45, n45⟩, -, X45, ⟨Lc45, hQ45, l45, y45, z45⟩, st45⟩ := X44.privateBack hx (y := (⟨"com/example/coterie/coterie/runtime/KnownRequests", "untold", "(II)Z"⟩ : MethodName)) hown (mvT hZ (hw _ (List.mem_of_getElem? (i := 46) rfl))) (mvT hZ (hw _ (List.mem_of_getElem? (i := 47) rfl))) (own_selP hZ (hw _ (List.mem_of_getElem? (i := 2) rfl)) (hw _ (List.mem_of_getElem? (i := 48) rfl)) (hw _ (List.mem_of_getElem? (i := 47) rfl)) (by decide)) (Cond.privateMethod_at (mvP hZ (hw _ (List.mem_of_getElem? (i := 48) rfl)) (args := #[]))) (mvT hZ (hw _ (List.mem_of_getElem? (i := 49) rfl))) (by decide) (backOf (W := 0) (rm_untold l Z a0 hw [] k aK aR aT sf K Rr Tt rs (1 : Int32) 1 r_ rn h40 n0 Z40 BB rfl (by decide) hr hlr) hZ (hw _ (List.mem_of_getElem? (i := 49) rfl)) (hw _ (List.mem_of_getElem? (i := 3) rfl)) (by decide) (by decide)) (g := (mkF m 75 #[.val (.ref k), .val (.int r_), .val (.int c3), .val (.ref b37), .val (.int t1), .val (.int (1 : Int32))] [(.int r_), (.int (1 : Int32)), (.ref k)])) rfl (by rw [hml]; rfl) (Steps.refl _) (a := k) (by rw [e44]; exact q45) q45' (argsL := [(.int (1 : Int32)), (.int r_)]) (rest := []) (lenOf own_pd1 rfl) rfl (by show 2 * 0 + _ ≤ _; exact Nat.le_of_eq rfl) (hb hby own_d_prog_86_m3_75) (fun _ _ => ⟨rfl, e44, (by decide : 1 + 0 ≤ _), (by decide : 6 + 0 ≤ _)⟩)
    dsimp only [Pt.U, Pt.locs, Pt.cells, Pt.slots] at X45 l45 y45 z45 st45 hQ45
    subst l45 y45 z45
    obtain ⟨rfl, Nq45, eq45⟩ := hQ45
    replace N40 := Fr.app N40 Nq45
    refine own_tr (g' := (mkF m 78 #[.val (.ref k), .val (.int r_), .val (.int c3), .val (.ref b37), .val (.int t1), .val (.int (1 : Int32))] [(.int (if own_u Rr Tt rn 1 = true then 1 else 0))])) st45 ?_
    suffices J105_1 : ∀ (T46 : State) (lo46 : List Loc) (h46 : Heap) (X46 : Stand p l e ({ frames := 1, cells := 1, slots := 6, locals := 30 } : Room) s m #[(.ref k), (.int r_)] below meth c T46 lo46 1 6) (e46 : T46.heap = h46) (N46 : Fr n0 lo46) (Z46 : n0 ≤ h46.size) (K46 : Keep h0 h46 [k, aK, aR, aT]) (t2 : Int32) (f2 : Nat → Value) (E_k : Exa Z h46 k "com/example/coterie/coterie/runtime/KnownRequests") (F_self : Fld Z h46 k "com/example/coterie/coterie/runtime/KnownRequests" "self" "I" (.int sf)) (F_known : Fld Z h46 k "com/example/coterie/coterie/runtime/KnownRequests" "known" "[J" (.ref aK)) (F_rose : Fld Z h46 k "com/example/coterie/coterie/runtime/KnownRequests" "roseAt" "[J" (.ref aR)) (F_told : Fld Z h46 k "com/example/coterie/coterie/runtime/KnownRequests" "told" "[J" (.ref aT)) (F_rises : Fld Z h46 k "com/example/coterie/coterie/runtime/KnownRequests" "rises" "J" (.long rs)) (V_K : own_AV Z h46 aK .long 3 (fun i => .long (K i))) (V_R : own_AV Z h46 aR .long 3 (fun i => .long (Rr i))) (V_T : own_AV Z h46 aT .long 3 (fun i => .long (Tt i))) (E_aK : Exa Z h46 aK "[J") (V_b37 : own_AV Z h46 b37 .long (own_L3 (own_u Rr Tt rn) K).length f2) (O : Old Z n0 h46) (hp2 : t2.toInt = (((own_L2 (own_u Rr Tt rn) K).length : Nat) : Int)) (hf2 : ∀ j, j < (own_L2 (own_u Rr Tt rn) K).length → f2 j = .long ((own_L2 (own_u Rr Tt rn) K).getD j 0)), own_Go p e below s (Q_news Z k aK aR aT sf K Rr Tt rs r_ rn aN fN h0 n0) ({ frames := 1, cells := 1, slots := 6, locals := 30 } : Room).cells ({ frames := 1, cells := 1, slots := 6, locals := 30 } : Room).slots T46 (mkF m 105 #[.val (.ref k), .val (.int r_), .val (.int c3), .val (.ref b37), .val (.int t2), .val (.int (1 : Int32))] []) by
      by_cases hu : own_u Rr Tt rn 1 = true
      · skip
        refine own_st (T' := T45) (g' := (mkF m 81 #[.val (.ref k), .val (.int r_), .val (.int c3), .val (.ref b37), .val (.int t1), .val (.int (1 : Int32))] [])) (fun _ zq => XS.ifNo X45.here hx rfl (hb hby own_d_prog_86_m3_78) rfl ((if0 _ _).trans (feq (by rw [if_pos hu]; decide)).1) zq) ?_
        have hwl : (own_L2 (own_u Rr Tt rn) K) = (own_L1 (own_u Rr Tt rn) K) ++ [1, K 1] := own_w1 (p := own_u Rr Tt rn) hu
        have hll : (own_L1 (own_u Rr Tt rn) K).length + 2 ≤ (own_L3 (own_u Rr Tt rn) K).length := own_b1 (p := own_u Rr Tt rn) hu
        refine own_st (T' := T45) (g' := (mkF m 82 #[.val (.ref k), .val (.int r_), .val (.int c3), .val (.ref b37), .val (.int t1), .val (.int (1 : Int32))] [(.ref b37)])) (fun _ zq => XS.aloadN X45.here hx rfl (hb hby own_d_prog_86_m3_81) rfl rfl zq) ?_
        refine own_st (T' := T45) (g' := (mkF m 84 #[.val (.ref k), .val (.int r_), .val (.int c3), .val (.ref b37), .val (.int t1), .val (.int (1 : Int32))] [(.int t1), (.ref b37)])) (fun _ zq => XS.iload X45.here hx rfl (hb hby own_d_prog_86_m3_82) rfl zq) ?_
        refine own_st (T' := T45) (g' := (mkF m 87 #[.val (.ref k), .val (.int r_), .val (.int c3), .val (.ref b37), .val (.int (t1 + (1 : Int32))), .val (.int (1 : Int32))] [(.int t1), (.ref b37)])) (fun _ zq => XS.iinc X45.here hx rfl (hb hby own_d_prog_86_m3_84) rfl (l' := #[.val (.ref k), .val (.int r_), .val (.int c3), .val (.ref b37), .val (.int (t1 + (1 : Int32))), .val (.int (1 : Int32))]) rfl zq) ?_
        refine own_st (T' := T45) (g' := (mkF m 89 #[.val (.ref k), .val (.int r_), .val (.int c3), .val (.ref b37), .val (.int (t1 + (1 : Int32))), .val (.int (1 : Int32))] [(.int (1 : Int32)), (.int t1), (.ref b37)])) (fun _ zq => XS.iload X45.here hx rfl (hb hby own_d_prog_86_m3_87) rfl zq) ?_
        refine own_st (T' := T45) (g' := (mkF m 90 #[.val (.ref k), .val (.int r_), .val (.int c3), .val (.ref b37), .val (.int (t1 + (1 : Int32))), .val (.int (1 : Int32))] [(.long ((1 : Int32).toInt64)), (.int t1), (.ref b37)])) (fun _ zq => XS.i2l X45.here hx rfl (hb hby own_d_prog_86_m3_89) rfl zq) ?_
        obtain ⟨T47, h47, X47, e47, W47, V47, st47⟩ := own_stJ X45 hx hZ (eq45) V_b37 (j := t1) ((own_L1 (own_u Rr Tt rn) K).length) hp1 (by omega) (g := (mkF m 90 #[.val (.ref k), .val (.int r_), .val (.int c3), .val (.ref b37), .val (.int (t1 + (1 : Int32))), .val (.int (1 : Int32))] [(.long ((1 : Int32).toInt64)), (.int t1), (.ref b37)])) rfl rfl (hb hby own_d_prog_86_m3_90)
        replace E_k := E_k.wr W47
        replace F_self := F_self.other W47 (Or.inl ne_k_b37)
        replace F_known := F_known.other W47 (Or.inl ne_k_b37)
        replace F_rose := F_rose.other W47 (Or.inl ne_k_b37)
        replace F_told := F_told.other W47 (Or.inl ne_k_b37)
        replace F_rises := F_rises.other W47 (Or.inl ne_k_b37)
        replace V_K := V_K.other W47 ne_aK_b37
        replace V_R := V_R.other W47 ne_aR_b37
        replace V_T := V_T.other W47 ne_aT_b37
        replace E_aK := E_aK.wr W47
        replace O := O.wr W47 g_b37
        replace Z40 := Nat.le_trans Z40 (Keep.of_wr W47).1
        replace K40 := K40.wr W47 (Or.inr sz_b37)
        replace V_b37 := V47
        replace N40 := Fr.snoc X47 N40 g_b37
        refine own_st (g' := (mkF m 91 #[.val (.ref k), .val (.int r_), .val (.int c3), .val (.ref b37), .val (.int (t1 + (1 : Int32))), .val (.int (1 : Int32))] [])) st47 ?_
        refine own_st (T' := T47) (g' := (mkF m 92 #[.val (.ref k), .val (.int r_), .val (.int c3), .val (.ref b37), .val (.int (t1 + (1 : Int32))), .val (.int (1 : Int32))] [(.ref b37)])) (fun _ zq => XS.aloadN X47.here hx rfl (hb hby own_d_prog_86_m3_91) rfl rfl zq) ?_
        refine own_st (T' := T47) (g' := (mkF m 94 #[.val (.ref k), .val (.int r_), .val (.int c3), .val (.ref b37), .val (.int (t1 + (1 : Int32))), .val (.int (1 : Int32))] [(.int (t1 + (1 : Int32))), (.ref b37)])) (fun _ zq => XS.iload X47.here hx rfl (hb hby own_d_prog_86_m3_92) rfl zq) ?_
        refine own_st (T' := T47) (g' := (mkF m 97 #[.val (.ref k), .val (.int r_), .val (.int c3), .val (.ref b37), .val (.int ((t1 + (1 : Int32)) + (1 : Int32))), .val (.int (1 : Int32))] [(.int (t1 + (1 : Int32))), (.ref b37)])) (fun _ zq => XS.iinc X47.here hx rfl (hb hby own_d_prog_86_m3_94) rfl (l' := #[.val (.ref k), .val (.int r_), .val (.int c3), .val (.ref b37), .val (.int ((t1 + (1 : Int32)) + (1 : Int32))), .val (.int (1 : Int32))]) rfl zq) ?_
        refine own_st (T' := T47) (g' := (mkF m 98 #[.val (.ref k), .val (.int r_), .val (.int c3), .val (.ref b37), .val (.int ((t1 + (1 : Int32)) + (1 : Int32))), .val (.int (1 : Int32))] [(.ref k), (.int (t1 + (1 : Int32))), (.ref b37)])) (fun _ zq => XS.aloadN X47.here hx rfl (hb hby own_d_prog_86_m3_97) rfl rfl zq) ?_
        obtain ⟨T48, X48, e48, st48⟩ := getF X47 hx hZ hown (host := "") (Or.inl (hw _ (List.mem_of_getElem? (i := 13) rfl))) Via.refl e47 F_known (g := (mkF m 98 #[.val (.ref k), .val (.int r_), .val (.int c3), .val (.ref b37), .val (.int ((t1 + (1 : Int32)) + (1 : Int32))), .val (.int (1 : Int32))] [(.ref k), (.int (t1 + (1 : Int32))), (.ref b37)])) rfl rfl (hb hby own_d_prog_86_m3_98)
        refine own_st (g' := (mkF m 101 #[.val (.ref k), .val (.int r_), .val (.int c3), .val (.ref b37), .val (.int ((t1 + (1 : Int32)) + (1 : Int32))), .val (.int (1 : Int32))] [(.ref aK), (.int (t1 + (1 : Int32))), (.ref b37)])) st48 ?_
        refine own_st (T' := T48) (g' := (mkF m 103 #[.val (.ref k), .val (.int r_), .val (.int c3), .val (.ref b37), .val (.int ((t1 + (1 : Int32)) + (1 : Int32))), .val (.int (1 : Int32))] [(.int (1 : Int32)), (.ref aK), (.int (t1 + (1 : Int32))), (.ref b37)])) (fun _ zq => XS.iload X48.here hx rfl (hb hby own_d_prog_86_m3_101) rfl zq) ?_
        refine own_st (T' := T48) (g' := (mkF m 104 #[.val (.ref k), .val (.int r_), .val (.int c3), .val (.ref b37), .val (.int ((t1 + (1 : Int32)) + (1 : Int32))), .val (.int (1 : Int32))] [(.long (K 1)), (.int (t1 + (1 : Int32))), (.ref b37)])) (own_ldJ X48 hx hZ e48 V_K (j := (1 : Int32)) (1) rfl (by decide) (w := (.long (K 1))) rfl (g := (mkF m 103 #[.val (.ref k), .val (.int r_), .val (.int c3), .val (.ref b37), .val (.int ((t1 + (1 : Int32)) + (1 : Int32))), .val (.int (1 : Int32))] [(.int (1 : Int32)), (.ref aK), (.int (t1 + (1 : Int32))), (.ref b37)])) rfl rfl (hb hby own_d_prog_86_m3_103)) ?_
        obtain ⟨T49, h49, X49, e49, W49, V49, st49⟩ := own_stJ X48 hx hZ e48 V_b37 (j := (t1 + (1 : Int32))) ((own_L1 (own_u Rr Tt rn) K).length + 1) (own_p1 hp1 hle6 hll) (by omega) (g := (mkF m 104 #[.val (.ref k), .val (.int r_), .val (.int c3), .val (.ref b37), .val (.int ((t1 + (1 : Int32)) + (1 : Int32))), .val (.int (1 : Int32))] [(.long (K 1)), (.int (t1 + (1 : Int32))), (.ref b37)])) rfl rfl (hb hby own_d_prog_86_m3_104)
        replace E_k := E_k.wr W49
        replace F_self := F_self.other W49 (Or.inl ne_k_b37)
        replace F_known := F_known.other W49 (Or.inl ne_k_b37)
        replace F_rose := F_rose.other W49 (Or.inl ne_k_b37)
        replace F_told := F_told.other W49 (Or.inl ne_k_b37)
        replace F_rises := F_rises.other W49 (Or.inl ne_k_b37)
        replace V_K := V_K.other W49 ne_aK_b37
        replace V_R := V_R.other W49 ne_aR_b37
        replace V_T := V_T.other W49 ne_aT_b37
        replace E_aK := E_aK.wr W49
        replace O := O.wr W49 g_b37
        replace Z40 := Nat.le_trans Z40 (Keep.of_wr W49).1
        replace K40 := K40.wr W49 (Or.inr sz_b37)
        replace V_b37 := V49
        replace N40 := Fr.snoc X49 N40 g_b37
        refine own_st (g' := (mkF m 105 #[.val (.ref k), .val (.int r_), .val (.int c3), .val (.ref b37), .val (.int ((t1 + (1 : Int32)) + (1 : Int32))), .val (.int (1 : Int32))] [])) st49 ?_
        exact J105_1 T49 _ h49 (X49.more (Nat.le_of_ble_eq_true rfl) (Nat.le_of_ble_eq_true rfl)) e49 N40 Z40 K40 _ _ E_k F_self F_known F_rose F_told F_rises V_K V_R V_T E_aK V_b37 O (by rw [hwl]; exact own_p2 hp1 (by omega)) (by rw [hwl]; exact own_ext2 rfl hf1)
      · skip
        refine own_st (T' := T45) (g' := (mkF m 105 #[.val (.ref k), .val (.int r_), .val (.int c3), .val (.ref b37), .val (.int t1), .val (.int (1 : Int32))] [])) (fun _ zq => XS.ifYes X45.here hx rfl (pc0 := 78) (pc' := 105) rfl (hb hby own_d_prog_86_m3_78) rfl ((if0 _ _).trans (teq (by rw [if_neg hu])).1) (by decide) (by decide) zq) ?_
        have hwl : (own_L2 (own_u Rr Tt rn) K) = (own_L1 (own_u Rr Tt rn) K) := own_v1 (p := own_u Rr Tt rn) hu
        exact J105_1 T45 _ h40 (X45.more (Nat.le_of_ble_eq_true rfl) (Nat.le_of_ble_eq_true rfl)) (eq45) N40 Z40 K40 _ _ E_k F_self F_known F_rose F_told F_rises V_K V_R V_T E_aK V_b37 O (by rw [hwl]; exact hp1) (by rw [hwl]; exact hf1)
    intro T46 lo46 h46 X46 e46 N46 Z46 K46 t2 f2 E_k F_self F_known F_rose F_told F_rises V_K V_R V_T E_aK V_b37 O hp2 hf2
    refine own_st (T' := T46) (g' := (mkF m 108 #[.val (.ref k), .val (.int r_), .val (.int c3), .val (.ref b37), .val (.int t2), .val (.int ((1 : Int32) + (1 : Int32)))] [])) (fun _ zq => XS.iinc X46.here hx rfl (hb hby own_d_prog_86_m3_105) rfl (l' := #[.val (.ref k), .val (.int r_), .val (.int c3), .val (.ref b37), .val (.int t2), .val (.int ((1 : Int32) + (1 : Int32)))]) rfl zq) ?_
    show own_Go p e below s (Q_news Z k aK aR aT sf K Rr Tt rs r_ rn aN fN h0 n0) ({ frames := 1, cells := 1, slots := 6, locals := 30 } : Room).cells ({ frames := 1, cells := 1, slots := 6, locals := 30 } : Room).slots T46 (mkF m 108 #[.val (.ref k), .val (.int r_), .val (.int c3), .val (.ref b37), .val (.int t2), .val (.int (2 : Int32))] [])
    refine own_st (T' := T46) (g' := (mkF m 61 #[.val (.ref k), .val (.int r_), .val (.int c3), .val (.ref b37), .val (.int t2), .val (.int (2 : Int32))] [])) (fun _ zq => XS.goto X46.here hx rfl (pc0 := 108) (pc' := 61) rfl (hb hby own_d_prog_86_m3_108) (by decide) (by decide) zq) ?_
    refine own_st (T' := T46) (g' := (mkF m 63 #[.val (.ref k), .val (.int r_), .val (.int c3), .val (.ref b37), .val (.int t2), .val (.int (2 : Int32))] [(.int (2 : Int32))])) (fun _ zq => XS.iload X46.here hx rfl (hb hby own_d_prog_86_m3_61) rfl zq) ?_
    refine own_st (T' := T46) (g' := (mkF m 64 #[.val (.ref k), .val (.int r_), .val (.int c3), .val (.ref b37), .val (.int t2), .val (.int (2 : Int32))] [(.ref k), (.int (2 : Int32))])) (fun _ zq => XS.aloadN X46.here hx rfl (hb hby own_d_prog_86_m3_63) rfl rfl zq) ?_
    obtain ⟨T50, X50, e50, st50⟩ := getF X46 hx hZ hown (host := "") (Or.inl (hw _ (List.mem_of_getElem? (i := 13) rfl))) Via.refl e46 F_known (g := (mkF m 64 #[.val (.ref k), .val (.int r_), .val (.int c3), .val (.ref b37), .val (.int t2), .val (.int (2 : Int32))] [(.ref k), (.int (2 : Int32))])) rfl rfl (hb hby own_d_prog_86_m3_64)
    refine own_st (g' := (mkF m 67 #[.val (.ref k), .val (.int r_), .val (.int c3), .val (.ref b37), .val (.int t2), .val (.int (2 : Int32))] [(.ref aK), (.int (2 : Int32))])) st50 ?_
    refine own_st (T' := T50) (g' := (mkF m 68 #[.val (.ref k), .val (.int r_), .val (.int c3), .val (.ref b37), .val (.int t2), .val (.int (2 : Int32))] [(.int (3 : Int32)), (.int (2 : Int32))])) (own_len (z := (3 : Int32)) X50 hx hZ e50 V_K rfl (g := (mkF m 67 #[.val (.ref k), .val (.int r_), .val (.int c3), .val (.ref b37), .val (.int t2), .val (.int (2 : Int32))] [(.ref aK), (.int (2 : Int32))])) rfl rfl (hb hby own_d_prog_86_m3_67)) ?_
    refine own_st (T' := T50) (g' := (mkF m 71 #[.val (.ref k), .val (.int r_), .val (.int c3), .val (.ref b37), .val (.int t2), .val (.int (2 : Int32))] [])) (fun _ zq => XS.icmpNo X50.here hx rfl (hb hby own_d_prog_86_m3_68) rfl (tlt (by decide)).2.1 zq) ?_
    refine own_st (T' := T50) (g' := (mkF m 72 #[.val (.ref k), .val (.int r_), .val (.int c3), .val (.ref b37), .val (.int t2), .val (.int (2 : Int32))] [(.ref k)])) (fun _ zq => XS.aloadN X50.here hx rfl (hb hby own_d_prog_86_m3_71) rfl rfl zq) ?_
    refine own_st (T' := T50) (g' := (mkF m 74 #[.val (.ref k), .val (.int r_), .val (.int c3), .val (.ref b37), .val (.int t2), .val (.int (2 : Int32))] [(.int (2 : Int32)), (.ref k)])) (fun _ zq => XS.iload X50.here hx rfl (hb hby own_d_prog_86_m3_72) rfl zq) ?_
    refine own_st (T' := T50) (g' := (mkF m 75 #[.val (.ref k), .val (.int r_), .val (.int c3), .val (.ref b37), .val (.int t2), .val (.int (2 : Int32))] [(.int r_), (.int (2 : Int32)), (.ref k)])) (fun _ zq => XS.iloadN X50.here hx rfl (hb hby own_d_prog_86_m3_74) rfl zq) ?_
    have BB : own_KR Z h46 k aK aR aT sf K Rr Tt rs := ⟨E_k, F_self, F_known, F_rose, F_told, F_rises, V_K, V_R, V_T, E_aK⟩
    obtain ⟨cq51, q51, q51'⟩ := E_k.cell
    obtain ⟨_, _, ⟨T51, L51, k51, n51⟩, -, X51, ⟨Lc51, hQ51, l51, y51, z51⟩, st51⟩ := X50.privateBack hx (y := (⟨"com/example/coterie/coterie/runtime/KnownRequests", "untold", "(II)Z"⟩ : MethodName)) hown (mvT hZ (hw _ (List.mem_of_getElem? (i := 46) rfl))) (mvT hZ (hw _ (List.mem_of_getElem? (i := 47) rfl))) (own_selP hZ (hw _ (List.mem_of_getElem? (i := 2) rfl)) (hw _ (List.mem_of_getElem? (i := 48) rfl)) (hw _ (List.mem_of_getElem? (i := 47) rfl)) (by decide)) (Cond.privateMethod_at (mvP hZ (hw _ (List.mem_of_getElem? (i := 48) rfl)) (args := #[]))) (mvT hZ (hw _ (List.mem_of_getElem? (i := 49) rfl))) (by decide) (backOf (W := 0) (rm_untold l Z a0 hw [] k aK aR aT sf K Rr Tt rs (2 : Int32) 2 r_ rn h46 n0 Z46 BB rfl (by decide) hr hlr) hZ (hw _ (List.mem_of_getElem? (i := 49) rfl)) (hw _ (List.mem_of_getElem? (i := 3) rfl)) (by decide) (by decide)) (g := (mkF m 75 #[.val (.ref k), .val (.int r_), .val (.int c3), .val (.ref b37), .val (.int t2), .val (.int (2 : Int32))] [(.int r_), (.int (2 : Int32)), (.ref k)])) rfl (by rw [hml]; rfl) (Steps.refl _) (a := k) (by rw [e50]; exact q51) q51' (argsL := [(.int (2 : Int32)), (.int r_)]) (rest := []) (lenOf own_pd1 rfl) rfl (by show 2 * 0 + _ ≤ _; exact Nat.le_of_eq rfl) (hb hby own_d_prog_86_m3_75) (fun _ _ => ⟨rfl, e50, (by decide : 1 + 0 ≤ _), (by decide : 6 + 0 ≤ _)⟩)
    dsimp only [Pt.U, Pt.locs, Pt.cells, Pt.slots] at X51 l51 y51 z51 st51 hQ51
    subst l51 y51 z51
    obtain ⟨rfl, Nq51, eq51⟩ := hQ51
    replace N46 := Fr.app N46 Nq51
    refine own_tr (g' := (mkF m 78 #[.val (.ref k), .val (.int r_), .val (.int c3), .val (.ref b37), .val (.int t2), .val (.int (2 : Int32))] [(.int (if own_u Rr Tt rn 2 = true then 1 else 0))])) st51 ?_
    suffices J105_2 : ∀ (T52 : State) (lo52 : List Loc) (h52 : Heap) (X52 : Stand p l e ({ frames := 1, cells := 1, slots := 6, locals := 30 } : Room) s m #[(.ref k), (.int r_)] below meth c T52 lo52 1 6) (e52 : T52.heap = h52) (N52 : Fr n0 lo52) (Z52 : n0 ≤ h52.size) (K52 : Keep h0 h52 [k, aK, aR, aT]) (t3 : Int32) (f3 : Nat → Value) (E_k : Exa Z h52 k "com/example/coterie/coterie/runtime/KnownRequests") (F_self : Fld Z h52 k "com/example/coterie/coterie/runtime/KnownRequests" "self" "I" (.int sf)) (F_known : Fld Z h52 k "com/example/coterie/coterie/runtime/KnownRequests" "known" "[J" (.ref aK)) (F_rose : Fld Z h52 k "com/example/coterie/coterie/runtime/KnownRequests" "roseAt" "[J" (.ref aR)) (F_told : Fld Z h52 k "com/example/coterie/coterie/runtime/KnownRequests" "told" "[J" (.ref aT)) (F_rises : Fld Z h52 k "com/example/coterie/coterie/runtime/KnownRequests" "rises" "J" (.long rs)) (V_K : own_AV Z h52 aK .long 3 (fun i => .long (K i))) (V_R : own_AV Z h52 aR .long 3 (fun i => .long (Rr i))) (V_T : own_AV Z h52 aT .long 3 (fun i => .long (Tt i))) (E_aK : Exa Z h52 aK "[J") (V_b37 : own_AV Z h52 b37 .long (own_L3 (own_u Rr Tt rn) K).length f3) (O : Old Z n0 h52) (hp3 : t3.toInt = (((own_L3 (own_u Rr Tt rn) K).length : Nat) : Int)) (hf3 : ∀ j, j < (own_L3 (own_u Rr Tt rn) K).length → f3 j = .long ((own_L3 (own_u Rr Tt rn) K).getD j 0)), own_Go p e below s (Q_news Z k aK aR aT sf K Rr Tt rs r_ rn aN fN h0 n0) ({ frames := 1, cells := 1, slots := 6, locals := 30 } : Room).cells ({ frames := 1, cells := 1, slots := 6, locals := 30 } : Room).slots T52 (mkF m 105 #[.val (.ref k), .val (.int r_), .val (.int c3), .val (.ref b37), .val (.int t3), .val (.int (2 : Int32))] []) by
      by_cases hu : own_u Rr Tt rn 2 = true
      · skip
        refine own_st (T' := T51) (g' := (mkF m 81 #[.val (.ref k), .val (.int r_), .val (.int c3), .val (.ref b37), .val (.int t2), .val (.int (2 : Int32))] [])) (fun _ zq => XS.ifNo X51.here hx rfl (hb hby own_d_prog_86_m3_78) rfl ((if0 _ _).trans (feq (by rw [if_pos hu]; decide)).1) zq) ?_
        have hwl : (own_L3 (own_u Rr Tt rn) K) = (own_L2 (own_u Rr Tt rn) K) ++ [2, K 2] := own_w2 (p := own_u Rr Tt rn) hu
        have hll : (own_L2 (own_u Rr Tt rn) K).length + 2 ≤ (own_L3 (own_u Rr Tt rn) K).length := own_b2 (p := own_u Rr Tt rn) hu
        refine own_st (T' := T51) (g' := (mkF m 82 #[.val (.ref k), .val (.int r_), .val (.int c3), .val (.ref b37), .val (.int t2), .val (.int (2 : Int32))] [(.ref b37)])) (fun _ zq => XS.aloadN X51.here hx rfl (hb hby own_d_prog_86_m3_81) rfl rfl zq) ?_
        refine own_st (T' := T51) (g' := (mkF m 84 #[.val (.ref k), .val (.int r_), .val (.int c3), .val (.ref b37), .val (.int t2), .val (.int (2 : Int32))] [(.int t2), (.ref b37)])) (fun _ zq => XS.iload X51.here hx rfl (hb hby own_d_prog_86_m3_82) rfl zq) ?_
        refine own_st (T' := T51) (g' := (mkF m 87 #[.val (.ref k), .val (.int r_), .val (.int c3), .val (.ref b37), .val (.int (t2 + (1 : Int32))), .val (.int (2 : Int32))] [(.int t2), (.ref b37)])) (fun _ zq => XS.iinc X51.here hx rfl (hb hby own_d_prog_86_m3_84) rfl (l' := #[.val (.ref k), .val (.int r_), .val (.int c3), .val (.ref b37), .val (.int (t2 + (1 : Int32))), .val (.int (2 : Int32))]) rfl zq) ?_
        refine own_st (T' := T51) (g' := (mkF m 89 #[.val (.ref k), .val (.int r_), .val (.int c3), .val (.ref b37), .val (.int (t2 + (1 : Int32))), .val (.int (2 : Int32))] [(.int (2 : Int32)), (.int t2), (.ref b37)])) (fun _ zq => XS.iload X51.here hx rfl (hb hby own_d_prog_86_m3_87) rfl zq) ?_
        refine own_st (T' := T51) (g' := (mkF m 90 #[.val (.ref k), .val (.int r_), .val (.int c3), .val (.ref b37), .val (.int (t2 + (1 : Int32))), .val (.int (2 : Int32))] [(.long ((2 : Int32).toInt64)), (.int t2), (.ref b37)])) (fun _ zq => XS.i2l X51.here hx rfl (hb hby own_d_prog_86_m3_89) rfl zq) ?_
        obtain ⟨T53, h53, X53, e53, W53, V53, st53⟩ := own_stJ X51 hx hZ (eq51) V_b37 (j := t2) ((own_L2 (own_u Rr Tt rn) K).length) hp2 (by omega) (g := (mkF m 90 #[.val (.ref k), .val (.int r_), .val (.int c3), .val (.ref b37), .val (.int (t2 + (1 : Int32))), .val (.int (2 : Int32))] [(.long ((2 : Int32).toInt64)), (.int t2), (.ref b37)])) rfl rfl (hb hby own_d_prog_86_m3_90)
        replace E_k := E_k.wr W53
        replace F_self := F_self.other W53 (Or.inl ne_k_b37)
        replace F_known := F_known.other W53 (Or.inl ne_k_b37)
        replace F_rose := F_rose.other W53 (Or.inl ne_k_b37)
        replace F_told := F_told.other W53 (Or.inl ne_k_b37)
        replace F_rises := F_rises.other W53 (Or.inl ne_k_b37)
        replace V_K := V_K.other W53 ne_aK_b37
        replace V_R := V_R.other W53 ne_aR_b37
        replace V_T := V_T.other W53 ne_aT_b37
        replace E_aK := E_aK.wr W53
        replace O := O.wr W53 g_b37
        replace Z46 := Nat.le_trans Z46 (Keep.of_wr W53).1
        replace K46 := K46.wr W53 (Or.inr sz_b37)
        replace V_b37 := V53
        replace N46 := Fr.snoc X53 N46 g_b37
        refine own_st (g' := (mkF m 91 #[.val (.ref k), .val (.int r_), .val (.int c3), .val (.ref b37), .val (.int (t2 + (1 : Int32))), .val (.int (2 : Int32))] [])) st53 ?_
        refine own_st (T' := T53) (g' := (mkF m 92 #[.val (.ref k), .val (.int r_), .val (.int c3), .val (.ref b37), .val (.int (t2 + (1 : Int32))), .val (.int (2 : Int32))] [(.ref b37)])) (fun _ zq => XS.aloadN X53.here hx rfl (hb hby own_d_prog_86_m3_91) rfl rfl zq) ?_
        refine own_st (T' := T53) (g' := (mkF m 94 #[.val (.ref k), .val (.int r_), .val (.int c3), .val (.ref b37), .val (.int (t2 + (1 : Int32))), .val (.int (2 : Int32))] [(.int (t2 + (1 : Int32))), (.ref b37)])) (fun _ zq => XS.iload X53.here hx rfl (hb hby own_d_prog_86_m3_92) rfl zq) ?_
        refine own_st (T' := T53) (g' := (mkF m 97 #[.val (.ref k), .val (.int r_), .val (.int c3), .val (.ref b37), .val (.int ((t2 + (1 : Int32)) + (1 : Int32))), .val (.int (2 : Int32))] [(.int (t2 + (1 : Int32))), (.ref b37)])) (fun _ zq => XS.iinc X53.here hx rfl (hb hby own_d_prog_86_m3_94) rfl (l' := #[.val (.ref k), .val (.int r_), .val (.int c3), .val (.ref b37), .val (.int ((t2 + (1 : Int32)) + (1 : Int32))), .val (.int (2 : Int32))]) rfl zq) ?_
        refine own_st (T' := T53) (g' := (mkF m 98 #[.val (.ref k), .val (.int r_), .val (.int c3), .val (.ref b37), .val (.int ((t2 + (1 : Int32)) + (1 : Int32))), .val (.int (2 : Int32))] [(.ref k), (.int (t2 + (1 : Int32))), (.ref b37)])) (fun _ zq => XS.aloadN X53.here hx rfl (hb hby own_d_prog_86_m3_97) rfl rfl zq) ?_
        obtain ⟨T54, X54, e54, st54⟩ := getF X53 hx hZ hown (host := "") (Or.inl (hw _ (List.mem_of_getElem? (i := 13) rfl))) Via.refl e53 F_known (g := (mkF m 98 #[.val (.ref k), .val (.int r_), .val (.int c3), .val (.ref b37), .val (.int ((t2 + (1 : Int32)) + (1 : Int32))), .val (.int (2 : Int32))] [(.ref k), (.int (t2 + (1 : Int32))), (.ref b37)])) rfl rfl (hb hby own_d_prog_86_m3_98)
        refine own_st (g' := (mkF m 101 #[.val (.ref k), .val (.int r_), .val (.int c3), .val (.ref b37), .val (.int ((t2 + (1 : Int32)) + (1 : Int32))), .val (.int (2 : Int32))] [(.ref aK), (.int (t2 + (1 : Int32))), (.ref b37)])) st54 ?_
        refine own_st (T' := T54) (g' := (mkF m 103 #[.val (.ref k), .val (.int r_), .val (.int c3), .val (.ref b37), .val (.int ((t2 + (1 : Int32)) + (1 : Int32))), .val (.int (2 : Int32))] [(.int (2 : Int32)), (.ref aK), (.int (t2 + (1 : Int32))), (.ref b37)])) (fun _ zq => XS.iload X54.here hx rfl (hb hby own_d_prog_86_m3_101) rfl zq) ?_
        refine own_st (T' := T54) (g' := (mkF m 104 #[.val (.ref k), .val (.int r_), .val (.int c3), .val (.ref b37), .val (.int ((t2 + (1 : Int32)) + (1 : Int32))), .val (.int (2 : Int32))] [(.long (K 2)), (.int (t2 + (1 : Int32))), (.ref b37)])) (own_ldJ X54 hx hZ e54 V_K (j := (2 : Int32)) (2) rfl (by decide) (w := (.long (K 2))) rfl (g := (mkF m 103 #[.val (.ref k), .val (.int r_), .val (.int c3), .val (.ref b37), .val (.int ((t2 + (1 : Int32)) + (1 : Int32))), .val (.int (2 : Int32))] [(.int (2 : Int32)), (.ref aK), (.int (t2 + (1 : Int32))), (.ref b37)])) rfl rfl (hb hby own_d_prog_86_m3_103)) ?_
        obtain ⟨T55, h55, X55, e55, W55, V55, st55⟩ := own_stJ X54 hx hZ e54 V_b37 (j := (t2 + (1 : Int32))) ((own_L2 (own_u Rr Tt rn) K).length + 1) (own_p1 hp2 hle6 hll) (by omega) (g := (mkF m 104 #[.val (.ref k), .val (.int r_), .val (.int c3), .val (.ref b37), .val (.int ((t2 + (1 : Int32)) + (1 : Int32))), .val (.int (2 : Int32))] [(.long (K 2)), (.int (t2 + (1 : Int32))), (.ref b37)])) rfl rfl (hb hby own_d_prog_86_m3_104)
        replace E_k := E_k.wr W55
        replace F_self := F_self.other W55 (Or.inl ne_k_b37)
        replace F_known := F_known.other W55 (Or.inl ne_k_b37)
        replace F_rose := F_rose.other W55 (Or.inl ne_k_b37)
        replace F_told := F_told.other W55 (Or.inl ne_k_b37)
        replace F_rises := F_rises.other W55 (Or.inl ne_k_b37)
        replace V_K := V_K.other W55 ne_aK_b37
        replace V_R := V_R.other W55 ne_aR_b37
        replace V_T := V_T.other W55 ne_aT_b37
        replace E_aK := E_aK.wr W55
        replace O := O.wr W55 g_b37
        replace Z46 := Nat.le_trans Z46 (Keep.of_wr W55).1
        replace K46 := K46.wr W55 (Or.inr sz_b37)
        replace V_b37 := V55
        replace N46 := Fr.snoc X55 N46 g_b37
        refine own_st (g' := (mkF m 105 #[.val (.ref k), .val (.int r_), .val (.int c3), .val (.ref b37), .val (.int ((t2 + (1 : Int32)) + (1 : Int32))), .val (.int (2 : Int32))] [])) st55 ?_
        exact J105_2 T55 _ h55 (X55.more (Nat.le_of_ble_eq_true rfl) (Nat.le_of_ble_eq_true rfl)) e55 N46 Z46 K46 _ _ E_k F_self F_known F_rose F_told F_rises V_K V_R V_T E_aK V_b37 O (by rw [hwl]; exact own_p2 hp2 (by omega)) (by rw [hwl]; exact own_ext2 rfl hf2)
      · skip
        refine own_st (T' := T51) (g' := (mkF m 105 #[.val (.ref k), .val (.int r_), .val (.int c3), .val (.ref b37), .val (.int t2), .val (.int (2 : Int32))] [])) (fun _ zq => XS.ifYes X51.here hx rfl (pc0 := 78) (pc' := 105) rfl (hb hby own_d_prog_86_m3_78) rfl ((if0 _ _).trans (teq (by rw [if_neg hu])).1) (by decide) (by decide) zq) ?_
        have hwl : (own_L3 (own_u Rr Tt rn) K) = (own_L2 (own_u Rr Tt rn) K) := own_v2 (p := own_u Rr Tt rn) hu
        exact J105_2 T51 _ h46 (X51.more (Nat.le_of_ble_eq_true rfl) (Nat.le_of_ble_eq_true rfl)) (eq51) N46 Z46 K46 _ _ E_k F_self F_known F_rose F_told F_rises V_K V_R V_T E_aK V_b37 O (by rw [hwl]; exact hp2) (by rw [hwl]; exact hf2)
    intro T52 lo52 h52 X52 e52 N52 Z52 K52 t3 f3 E_k F_self F_known F_rose F_told F_rises V_K V_R V_T E_aK V_b37 O hp3 hf3
    refine own_st (T' := T52) (g' := (mkF m 108 #[.val (.ref k), .val (.int r_), .val (.int c3), .val (.ref b37), .val (.int t3), .val (.int ((2 : Int32) + (1 : Int32)))] [])) (fun _ zq => XS.iinc X52.here hx rfl (hb hby own_d_prog_86_m3_105) rfl (l' := #[.val (.ref k), .val (.int r_), .val (.int c3), .val (.ref b37), .val (.int t3), .val (.int ((2 : Int32) + (1 : Int32)))]) rfl zq) ?_
    show own_Go p e below s (Q_news Z k aK aR aT sf K Rr Tt rs r_ rn aN fN h0 n0) ({ frames := 1, cells := 1, slots := 6, locals := 30 } : Room).cells ({ frames := 1, cells := 1, slots := 6, locals := 30 } : Room).slots T52 (mkF m 108 #[.val (.ref k), .val (.int r_), .val (.int c3), .val (.ref b37), .val (.int t3), .val (.int (3 : Int32))] [])
    refine own_st (T' := T52) (g' := (mkF m 61 #[.val (.ref k), .val (.int r_), .val (.int c3), .val (.ref b37), .val (.int t3), .val (.int (3 : Int32))] [])) (fun _ zq => XS.goto X52.here hx rfl (pc0 := 108) (pc' := 61) rfl (hb hby own_d_prog_86_m3_108) (by decide) (by decide) zq) ?_
    refine own_st (T' := T52) (g' := (mkF m 63 #[.val (.ref k), .val (.int r_), .val (.int c3), .val (.ref b37), .val (.int t3), .val (.int (3 : Int32))] [(.int (3 : Int32))])) (fun _ zq => XS.iload X52.here hx rfl (hb hby own_d_prog_86_m3_61) rfl zq) ?_
    refine own_st (T' := T52) (g' := (mkF m 64 #[.val (.ref k), .val (.int r_), .val (.int c3), .val (.ref b37), .val (.int t3), .val (.int (3 : Int32))] [(.ref k), (.int (3 : Int32))])) (fun _ zq => XS.aloadN X52.here hx rfl (hb hby own_d_prog_86_m3_63) rfl rfl zq) ?_
    obtain ⟨T56, X56, e56, st56⟩ := getF X52 hx hZ hown (host := "") (Or.inl (hw _ (List.mem_of_getElem? (i := 13) rfl))) Via.refl e52 F_known (g := (mkF m 64 #[.val (.ref k), .val (.int r_), .val (.int c3), .val (.ref b37), .val (.int t3), .val (.int (3 : Int32))] [(.ref k), (.int (3 : Int32))])) rfl rfl (hb hby own_d_prog_86_m3_64)
    refine own_st (g' := (mkF m 67 #[.val (.ref k), .val (.int r_), .val (.int c3), .val (.ref b37), .val (.int t3), .val (.int (3 : Int32))] [(.ref aK), (.int (3 : Int32))])) st56 ?_
    refine own_st (T' := T56) (g' := (mkF m 68 #[.val (.ref k), .val (.int r_), .val (.int c3), .val (.ref b37), .val (.int t3), .val (.int (3 : Int32))] [(.int (3 : Int32)), (.int (3 : Int32))])) (own_len (z := (3 : Int32)) X56 hx hZ e56 V_K rfl (g := (mkF m 67 #[.val (.ref k), .val (.int r_), .val (.int c3), .val (.ref b37), .val (.int t3), .val (.int (3 : Int32))] [(.ref aK), (.int (3 : Int32))])) rfl rfl (hb hby own_d_prog_86_m3_67)) ?_
    refine own_st (T' := T56) (g' := (mkF m 111 #[.val (.ref k), .val (.int r_), .val (.int c3), .val (.ref b37), .val (.int t3), .val (.int (3 : Int32))] [])) (fun _ zq => XS.icmpYes X56.here hx rfl (pc0 := 68) (pc' := 111) rfl (hb hby own_d_prog_86_m3_68) rfl (flt (by decide)).2.1 (by decide) (by decide) zq) ?_
    refine own_st (T' := T56) (g' := (mkF m 112 #[.val (.ref k), .val (.int r_), .val (.int c3), .val (.ref b37), .val (.int t3), .val (.int (3 : Int32))] [(.ref k)])) (fun _ zq => XS.aloadN X56.here hx rfl (hb hby own_d_prog_86_m3_111) rfl rfl zq) ?_
    obtain ⟨T57, X57, e57, st57⟩ := getF X56 hx hZ hown (host := "") (Or.inl (hw _ (List.mem_of_getElem? (i := 17) rfl))) Via.refl e56 F_told (g := (mkF m 112 #[.val (.ref k), .val (.int r_), .val (.int c3), .val (.ref b37), .val (.int t3), .val (.int (3 : Int32))] [(.ref k)])) rfl rfl (hb hby own_d_prog_86_m3_112)
    refine own_st (g' := (mkF m 115 #[.val (.ref k), .val (.int r_), .val (.int c3), .val (.ref b37), .val (.int t3), .val (.int (3 : Int32))] [(.ref aT)])) st57 ?_
    refine own_st (T' := T57) (g' := (mkF m 116 #[.val (.ref k), .val (.int r_), .val (.int c3), .val (.ref b37), .val (.int t3), .val (.int (3 : Int32))] [(.int r_), (.ref aT)])) (fun _ zq => XS.iloadN X57.here hx rfl (hb hby own_d_prog_86_m3_115) rfl zq) ?_
    refine own_st (T' := T57) (g' := (mkF m 117 #[.val (.ref k), .val (.int r_), .val (.int c3), .val (.ref b37), .val (.int t3), .val (.int (3 : Int32))] [(.ref k), (.int r_), (.ref aT)])) (fun _ zq => XS.aloadN X57.here hx rfl (hb hby own_d_prog_86_m3_116) rfl rfl zq) ?_
    obtain ⟨T58, X58, e58, st58⟩ := getF X57 hx hZ hown (host := "") (Or.inl (hw _ (List.mem_of_getElem? (i := 33) rfl))) Via.refl e57 F_rises (g := (mkF m 117 #[.val (.ref k), .val (.int r_), .val (.int c3), .val (.ref b37), .val (.int t3), .val (.int (3 : Int32))] [(.ref k), (.int r_), (.ref aT)])) rfl rfl (hb hby own_d_prog_86_m3_117)
    refine own_st (g' := (mkF m 120 #[.val (.ref k), .val (.int r_), .val (.int c3), .val (.ref b37), .val (.int t3), .val (.int (3 : Int32))] [(.long rs), (.int r_), (.ref aT)])) st58 ?_
    obtain ⟨T59, h59, X59, e59, W59, V59, st59⟩ := own_stJ X58 hx hZ e58 V_T (j := r_) (rn) hr hlr (g := (mkF m 120 #[.val (.ref k), .val (.int r_), .val (.int c3), .val (.ref b37), .val (.int t3), .val (.int (3 : Int32))] [(.long rs), (.int r_), (.ref aT)])) rfl rfl (hb hby own_d_prog_86_m3_120)
    replace E_k := E_k.wr W59
    replace F_self := F_self.other W59 (Or.inl n3)
    replace F_known := F_known.other W59 (Or.inl n3)
    replace F_rose := F_rose.other W59 (Or.inl n3)
    replace F_told := F_told.other W59 (Or.inl n3)
    replace F_rises := F_rises.other W59 (Or.inl n3)
    replace V_K := V_K.other W59 n5
    replace V_R := V_R.other W59 n6
    replace E_aK := E_aK.wr W59
    replace V_b37 := V_b37.other W59 ne_aT_b37.symm
    replace O := O.wr W59 g_aT
    replace Z52 := Nat.le_trans Z52 (Keep.of_wr W59).1
    replace K52 := K52.wr W59 (Or.inl (List.mem_of_getElem? (i := 3) rfl))
    replace V_T : own_AV Z h59 aT .long 3 (fun i => .long ((own_upd Tt rn rs) i)) := V59.cong (own_updL _ _ _)
    replace N52 := Fr.snoc X59 N52 g_aT
    refine own_st (g' := (mkF m 121 #[.val (.ref k), .val (.int r_), .val (.int c3), .val (.ref b37), .val (.int t3), .val (.int (3 : Int32))] [])) st59 ?_
    refine own_st (T' := T59) (g' := (mkF m 122 #[.val (.ref k), .val (.int r_), .val (.int c3), .val (.ref b37), .val (.int t3), .val (.int (3 : Int32))] [(.ref b37)])) (fun _ zq => XS.aloadN X59.here hx rfl (hb hby own_d_prog_86_m3_121) rfl rfl zq) ?_
    exact own_ret X59 hx hret hlk (i := .areturn) rfl (Or.inr (Or.inr (Or.inr (Or.inr ⟨rfl, rfl, rfl⟩)))) (hb hby own_d_prog_86_m3_122) e59 (Nat.le_of_ble_eq_true rfl) (Nat.le_of_ble_eq_true rfl) ⟨b37, rfl, N52, K52, ⟨E_k, F_self, F_known, F_rose, F_told, F_rises, V_K, V_R, V_T, E_aK⟩, V_b37.cong hf3, fun x _ h2 q => Nat.lt_irrefl _ (Nat.lt_of_lt_of_le (q ▸ h2) sz_b37)⟩
def Q_vsinit (Z : State) (a1 : Addr) (nd : Int32) (nn : Nat) (aK : Addr) (K : Nat → Int64) (h0 : Heap) (n0 : Nat) (v : Option Value) (h : Heap) (L : List Loc) : Prop := v = none ∧ Fr n0 L ∧ (Keep h0 h [a1])
theorem ef_vsinit (m : MethodId) (x0 : Addr) (x1 : Int32) (x2 : Addr)  : entryFrame m #[(.ref x0), (.int x1), (.ref x2)] 3 = mkF m 0 #[.val (.ref x0), .val (.int x1), .val (.ref x2)] [] := by first | (simp [entryFrame, mkF, argsToLocals, Value.category]; done) | rfl
set_option maxRecDepth 65536 in
set_option maxHeartbeats 40000000 in
theorem rm_vsinit (l : Launch) (Z : State) (a0 : Array Value) (hw : ∀ d ∈ tables_1, d.before a0 Z = true) (ws : List Jvm.Cond) (a1 : Addr) (nd : Int32) (nn : Nat) (aK : Addr) (K : Nat → Int64) (h0 : Heap) (n0 : Nat) (Zs : n0 ≤ h0.size) (E_a1 : Exa Z h0 a1 "com/example/coterie/coterie/message/VectorStamp") (F_node : Fld Z h0 a1 "com/example/coterie/coterie/message/VectorStamp" "node" "I" (.int (0 : Int32))) (F_counts : Fld Z h0 a1 "com/example/coterie/coterie/message/VectorStamp" "counts" "[J" .null) (V_K : own_AV Z h0 aK .long 3 (fun i => .long (K i))) (E_aK : Exa Z h0 aK "[J") (hn : nd.toInt = (nn : Int)) (hl : nn < 3) (hpos : ¬ K nn < (1 : Int64)) (q1 : a1 ≠ aK) (g_a1 : n0 ≤ a1) :
    MetFree l (⟨"com/example/coterie/coterie/message/VectorStamp", "<init>", "(I[J)V"⟩ : MethodName) (head1 (Jvm.Cond.code (⟨"com/example/coterie/coterie/message/VectorStamp", "<init>", "(I[J)V"⟩ : MethodName) prog_65_method_1_code 3 none :: ws) ({ frames := 1, cells := 1, slots := 3, locals := 30 } : Room)) (fun a U => a = #[(.ref a1), (.int nd), (.ref aK)] ∧ Z.Warmed39 U.vm ∧ U.heap = h0) (fun _ _ _ _ _ => True) (fun _ U o U' => ∃ v L, o = .returned v ∧ (Q_vsinit Z a1 nd nn aK K h0 n0) v U'.heap L ∧ FrameEnd U o U' L ({ frames := 1, cells := 1, slots := 3, locals := 30 } : Room).cells ({ frames := 1, cells := 1, slots := 3, locals := 30 } : Room).slots) := by
  refine MetFree.of_bodySF (plainFor_of_name own_pn1) hisR ?_
  intro p e s m args below meth c s₁ Bd hml0 hP hK
  obtain ⟨rfl, hZ, hh⟩ := hP
  have hx := Bd.exec
  have hby := Bd.bytes
  have hlk := BodyLoose.notSynchronized Bd
  have hret := Bd.returns
  have hml : c.maxLocals = 3 := hml0
  have hown : s.vm.findClass "com/example/coterie/coterie/message/VectorStamp" = some m.cls := findClass_of_methodNamed Bd.named
  have hnm := (name_of_methodNamed Bd.named Bd.method).1
  have X : Stand p l e ({ frames := 1, cells := 1, slots := 3, locals := 30 } : Room) s m #[(.ref a1), (.int nd), (.ref aK)] below meth c s₁ [] 0 0 := Stand.of_body Bd
  have eT : s₁.heap = h0 := by rw [← hh, Bd.state]; rfl
  have N := Fr.nil n0
  have K0 : Keep h0 h0 [a1] := Keep.refl _ _
  show own_Go p e below s (Q_vsinit Z a1 nd nn aK K h0 n0) ({ frames := 1, cells := 1, slots := 3, locals := 30 } : Room).cells ({ frames := 1, cells := 1, slots := 3, locals := 30 } : Room).slots s₁ (entryFrame m #[(.ref a1), (.int nd), (.ref aK)] 3)
  rw [ef_vsinit m a1 nd aK]
  refine own_st (T' := s₁) (g' := (mkF m 1 #[.val (.ref a1), .val (.int nd), .val (.ref aK)] [(.ref a1)])) (fun _ zq => XS.aloadN X.here hx rfl (hb hby own_d_prog_65_m1_0) rfl rfl zq) ?_
  obtain ⟨T60, X60, e60, st60⟩ := initO X hx hZ hown (hw _ (List.mem_of_getElem? (i := 67) rfl)) (hw _ (List.mem_of_getElem? (i := 8) rfl)) (hw _ (List.mem_of_getElem? (i := 9) rfl)) eT (g := (mkF m 1 #[.val (.ref a1), .val (.int nd), .val (.ref aK)] [(.ref a1)])) rfl (by rw [hml]; rfl) rfl (hb hby own_d_prog_65_m1_1) (by decide) (W := 0) (by show 2 * 0 + _ ≤ _; exact Nat.le_of_eq rfl) (by decide)
  refine own_st (g' := (mkF m 4 #[.val (.ref a1), .val (.int nd), .val (.ref aK)] [])) st60 ?_
  refine own_st (T' := T60) (g' := (mkF m 5 #[.val (.ref a1), .val (.int nd), .val (.ref aK)] [(.int nd)])) (fun _ zq => XS.iloadN X60.here hx rfl (hb hby own_d_prog_65_m1_4) rfl zq) ?_
  refine own_st (T' := T60) (g' := (mkF m 8 #[.val (.ref a1), .val (.int nd), .val (.ref aK)] [])) (fun _ zq => XS.ifNo X60.here hx rfl (hb hby own_d_prog_65_m1_5) rfl ((if0 _ _).trans (flt (own_clamp hn).1).1) zq) ?_
  refine own_st (T' := T60) (g' := (mkF m 9 #[.val (.ref a1), .val (.int nd), .val (.ref aK)] [(.int nd)])) (fun _ zq => XS.iloadN X60.here hx rfl (hb hby own_d_prog_65_m1_8) rfl zq) ?_
  refine own_st (T' := T60) (g' := (mkF m 10 #[.val (.ref a1), .val (.int nd), .val (.ref aK)] [(.ref aK), (.int nd)])) (fun _ zq => XS.aloadN X60.here hx rfl (hb hby own_d_prog_65_m1_9) rfl rfl zq) ?_
  refine own_st (T' := T60) (g' := (mkF m 11 #[.val (.ref a1), .val (.int nd), .val (.ref aK)] [(.int (3 : Int32)), (.int nd)])) (own_len (z := (3 : Int32)) X60 hx hZ e60 V_K rfl (g := (mkF m 10 #[.val (.ref a1), .val (.int nd), .val (.ref aK)] [(.ref aK), (.int nd)])) rfl rfl (hb hby own_d_prog_65_m1_10)) ?_
  refine own_st (T' := T60) (g' := (mkF m 32 #[.val (.ref a1), .val (.int nd), .val (.ref aK)] [])) (fun _ zq => XS.icmpYes X60.here hx rfl (pc0 := 11) (pc' := 32) rfl (hb hby own_d_prog_65_m1_11) rfl (tlt (own_l3 hn hl)).1 (by decide) (by decide) zq) ?_
  refine own_st (T' := T60) (g' := (mkF m 33 #[.val (.ref a1), .val (.int nd), .val (.ref aK)] [(.ref aK)])) (fun _ zq => XS.aloadN X60.here hx rfl (hb hby own_d_prog_65_m1_32) rfl rfl zq) ?_
  refine own_st (T' := T60) (g' := (mkF m 34 #[.val (.ref a1), .val (.int nd), .val (.ref aK)] [(.int nd), (.ref aK)])) (fun _ zq => XS.iloadN X60.here hx rfl (hb hby own_d_prog_65_m1_33) rfl zq) ?_
  refine own_st (T' := T60) (g' := (mkF m 35 #[.val (.ref a1), .val (.int nd), .val (.ref aK)] [(.long (K nn))])) (own_ldJ X60 hx hZ e60 V_K (j := nd) (nn) hn hl (w := (.long (K nn))) rfl (g := (mkF m 34 #[.val (.ref a1), .val (.int nd), .val (.ref aK)] [(.int nd), (.ref aK)])) rfl rfl (hb hby own_d_prog_65_m1_34)) ?_
  refine own_st (T' := T60) (g' := (mkF m 36 #[.val (.ref a1), .val (.int nd), .val (.ref aK)] [(.long (1 : Int64)), (.long (K nn))])) (fun _ zq => XS.lconst X60.here hx rfl (hb hby own_d_prog_65_m1_35) zq) ?_
  refine own_st (T' := T60) (g' := (mkF m 37 #[.val (.ref a1), .val (.int nd), .val (.ref aK)] [(.int (lcmpW (K nn) (1 : Int64)))])) (fun _ zq => XS.lcmp X60.here hx rfl (hb hby own_d_prog_65_m1_36) rfl zq) ?_
  refine own_st (T' := T60) (g' := (mkF m 57 #[.val (.ref a1), .val (.int nd), .val (.ref aK)] [])) (fun _ zq => XS.ifYes X60.here hx rfl (pc0 := 37) (pc' := 57) rfl (hb hby own_d_prog_65_m1_37) rfl (own_lflt hpos).2.1 (by decide) (by decide) zq) ?_
  refine own_st (T' := T60) (g' := (mkF m 58 #[.val (.ref a1), .val (.int nd), .val (.ref aK)] [(.ref a1)])) (fun _ zq => XS.aloadN X60.here hx rfl (hb hby own_d_prog_65_m1_57) rfl rfl zq) ?_
  refine own_st (T' := T60) (g' := (mkF m 59 #[.val (.ref a1), .val (.int nd), .val (.ref aK)] [(.int nd), (.ref a1)])) (fun _ zq => XS.iloadN X60.here hx rfl (hb hby own_d_prog_65_m1_58) rfl zq) ?_
  obtain ⟨T61, h61, X61, e61, W61, st61⟩ := putF X60 hx hZ hown (host := "") (Or.inl (hw _ (List.mem_of_getElem? (i := 68) rfl))) Via.refl e60 F_node E_a1 (Or.inr ⟨(hw _ (List.mem_of_getElem? (i := 69) rfl)), rfl, hnm⟩) (hw _ (List.mem_of_getElem? (i := 62) rfl)) (ty := .int) (by decide) rfl rfl (g := (mkF m 59 #[.val (.ref a1), .val (.int nd), .val (.ref aK)] [(.int nd), (.ref a1)])) rfl rfl (hb hby own_d_prog_65_m1_59)
  replace E_a1 := E_a1.wr W61
  replace F_node := F_node.same W61
  replace F_counts := F_counts.other W61 (Or.inr (slot_ne (C := "com/example/coterie/coterie/message/VectorStamp") (Or.inr (hw _ (List.mem_of_getElem? (i := 80) rfl))) (Or.inr (hw _ (List.mem_of_getElem? (i := 69) rfl))) (by decide) (t := (.array .long)) (by decide) (t' := .int) (by decide)))
  replace V_K := V_K.other W61 q1.symm
  replace E_aK := E_aK.wr W61
  replace Zs := Nat.le_trans Zs (Keep.of_wr W61).1
  replace K0 := K0.wr W61 (Or.inl (List.mem_of_getElem? (i := 0) rfl))
  replace N := Fr.snoc X61 N g_a1
  refine own_st (g' := (mkF m 62 #[.val (.ref a1), .val (.int nd), .val (.ref aK)] [])) st61 ?_
  refine own_st (T' := T61) (g' := (mkF m 63 #[.val (.ref a1), .val (.int nd), .val (.ref aK)] [(.ref a1)])) (fun _ zq => XS.aloadN X61.here hx rfl (hb hby own_d_prog_65_m1_62) rfl rfl zq) ?_
  refine own_st (T' := T61) (g' := (mkF m 64 #[.val (.ref a1), .val (.int nd), .val (.ref aK)] [(.ref aK), (.ref a1)])) (fun _ zq => XS.aloadN X61.here hx rfl (hb hby own_d_prog_65_m1_63) rfl rfl zq) ?_
  obtain ⟨cl, A1, A2, A3, A4⟩ := V_K
  obtain ⟨T62, h62, X62, e62, E62, Ac62, Ec62, st62⟩ := cloneA X61 hx hZ hown (hw _ (List.mem_of_getElem? (i := 70) rfl)) (hw _ (List.mem_of_getElem? (i := 71) rfl)) (hw _ (List.mem_of_getElem? (i := 75) rfl)) (hw _ (List.mem_of_getElem? (i := 73) rfl)) (hw _ (List.mem_of_getElem? (i := 74) rfl)) (hw _ (List.mem_of_getElem? (i := 76) rfl)) e61 A1 E_aK (own_fitJ A1 A2 A4) (g := (mkF m 64 #[.val (.ref a1), .val (.int nd), .val (.ref aK)] [(.ref aK), (.ref a1)])) rfl (by rw [hml]; rfl) rfl (hb hby own_d_prog_65_m1_64) (by decide) (W := 1) (by show 2 * 0 + _ ≤ _; exact Nat.le_of_eq rfl) (by decide) (cap := 3) (Nat.le_of_eq A2) (by decide) (by decide)
  have V_K : own_AV Z h61 aK .long 3 (fun i => .long (K i)) := ⟨cl, A1, A2, A3, A4⟩
  obtain ⟨b62, ga62⟩ : ∃ z, z = h61.size := ⟨_, rfl⟩
  rw [← ga62] at Ac62 Ec62 st62
  have g_b62 : n0 ≤ b62 := Nat.le_trans Zs (Nat.le_of_eq ga62.symm)
  have sz_b62 : h0.size ≤ b62 := Nat.le_trans K0.1 (Nat.le_of_eq ga62.symm)
  have ne_a1_b62 : a1 ≠ b62 := fun q => Nat.lt_irrefl _ (Nat.lt_of_lt_of_eq E_a1.lt (ga62.symm.trans q.symm))
  have ne_aK_b62 : aK ≠ b62 := fun q => Nat.lt_irrefl _ (Nat.lt_of_lt_of_eq V_K.lt (ga62.symm.trans q.symm))
  replace E_a1 := E_a1.ext E62
  replace F_node := F_node.ext E62
  replace F_counts := F_counts.ext E62
  replace V_K := V_K.ext E62
  replace E_aK := E_aK.ext E62
  replace Zs := Nat.le_trans Zs E62.1
  replace K0 := K0.ext E62
  refine own_st (g' := (mkF m 67 #[.val (.ref a1), .val (.int nd), .val (.ref aK)] [(.ref b62), (.ref a1)])) st62 ?_
  obtain ⟨T63, X63, e63, st63⟩ := castY X62 hx hZ hown (hw _ (List.mem_of_getElem? (i := 77) rfl)) e62 (Ins.self Ec62) (g := (mkF m 67 #[.val (.ref a1), .val (.int nd), .val (.ref aK)] [(.ref b62), (.ref a1)])) rfl rfl (hb hby own_d_prog_65_m1_67)
  refine own_st (g' := (mkF m 70 #[.val (.ref a1), .val (.int nd), .val (.ref aK)] [(.ref b62), (.ref a1)])) st63 ?_
  obtain ⟨T64, h64, X64, e64, W64, st64⟩ := putF X63 hx hZ hown (host := "") (Or.inl (hw _ (List.mem_of_getElem? (i := 79) rfl))) Via.refl e63 F_counts E_a1 (Or.inr ⟨(hw _ (List.mem_of_getElem? (i := 80) rfl)), rfl, hnm⟩) (hw _ (List.mem_of_getElem? (i := 62) rfl)) (ty := (.array .long)) (by decide) rfl rfl (g := (mkF m 70 #[.val (.ref a1), .val (.int nd), .val (.ref aK)] [(.ref b62), (.ref a1)])) rfl rfl (hb hby own_d_prog_65_m1_70)
  replace E_a1 := E_a1.wr W64
  replace F_node := F_node.other W64 (Or.inr (slot_ne (C := "com/example/coterie/coterie/message/VectorStamp") (Or.inr (hw _ (List.mem_of_getElem? (i := 69) rfl))) (Or.inr (hw _ (List.mem_of_getElem? (i := 80) rfl))) (by decide) (t := .int) (by decide) (t' := (.array .long)) (by decide)))
  replace F_counts := F_counts.same W64
  replace V_K := V_K.other W64 q1.symm
  replace E_aK := E_aK.wr W64
  replace Ec62 := Ec62.wr W64
  replace Zs := Nat.le_trans Zs (Keep.of_wr W64).1
  replace K0 := K0.wr W64 (Or.inl (List.mem_of_getElem? (i := 0) rfl))
  replace N := Fr.snoc X64 N g_a1
  refine own_st (g' := (mkF m 73 #[.val (.ref a1), .val (.int nd), .val (.ref aK)] [])) st64 ?_
  exact own_ret0 X64 hx hret hlk (hb hby own_d_prog_65_m1_73) e64 (Nat.le_of_ble_eq_true rfl) (Nat.le_of_ble_eq_true rfl) ⟨rfl, N, K0⟩
def Q_request (Z : State) (k : Addr) (aK : Addr) (aR : Addr) (aT : Addr) (sf : Int32) (K : Nat → Int64) (Rr : Nat → Int64) (Tt : Nat → Int64) (rs : Int64) (sn : Nat) (h0 : Heap) (n0 : Nat) (v : Option Value) (h : Heap) (L : List Loc) : Prop := ∃ rr : Addr, v = some (.ref rr) ∧ Fr n0 L ∧ (Keep h0 h [k, aK, aR, aT]) ∧ (own_KR Z h k aK aR aT sf (own_upd K sn (K sn + 1)) (own_upd Rr sn (rs + 1)) Tt (rs + 1))
theorem ef_request (m : MethodId) (x0 : Addr)  : entryFrame m #[(.ref x0)] 1 = mkF m 0 #[.val (.ref x0)] [] := by first | (simp [entryFrame, mkF, argsToLocals, Value.category]; done) | rfl
set_option maxRecDepth 65536 in
set_option maxHeartbeats 40000000 in
theorem rm_request (l : Launch) (Z : State) (a0 : Array Value) (hw : ∀ d ∈ tables_1, d.before a0 Z = true) (ws : List Jvm.Cond) (k : Addr) (aK : Addr) (aR : Addr) (aT : Addr) (sf : Int32) (K : Nat → Int64) (Rr : Nat → Int64) (Tt : Nat → Int64) (rs : Int64) (sn : Nat) (h0 : Heap) (n0 : Nat) (Zs : n0 ≤ h0.size) (BB : own_KR Z h0 k aK aR aT sf K Rr Tt rs) (hs : sf.toInt = (sn : Int)) (hl : sn < 3) (hpos : ¬ (K sn + 1) < (1 : Int64)) (n1 : k ≠ aK) (n2 : k ≠ aR) (n3 : k ≠ aT) (n4 : aK ≠ aR) (n5 : aK ≠ aT) (n6 : aR ≠ aT) (g_k : n0 ≤ k) (g_aK : n0 ≤ aK) (g_aR : n0 ≤ aR) (g_aT : n0 ≤ aT) :
    MetFree l (⟨"com/example/coterie/coterie/runtime/KnownRequests", "request", "()Lcom/example/coterie/coterie/message/VectorStamp;"⟩ : MethodName) (head1 (Jvm.Cond.code (⟨"com/example/coterie/coterie/runtime/KnownRequests", "request", "()Lcom/example/coterie/coterie/message/VectorStamp;"⟩ : MethodName) prog_86_method_2_code 1 (some (.object "com/example/coterie/coterie/message/VectorStamp")) :: ws) ({ frames := 2, cells := 2, slots := 5, locals := 70 } : Room)) (fun a U => a = #[(.ref k)] ∧ Z.Warmed39 U.vm ∧ U.heap = h0) (fun _ _ _ _ _ => True) (fun _ U o U' => ∃ v L, o = .returned v ∧ (Q_request Z k aK aR aT sf K Rr Tt rs sn h0 n0) v U'.heap L ∧ FrameEnd U o U' L ({ frames := 2, cells := 2, slots := 5, locals := 70 } : Room).cells ({ frames := 2, cells := 2, slots := 5, locals := 70 } : Room).slots) := by
  refine MetFree.of_bodySF (plainFor_of_name own_pn0) hisR ?_
  intro p e s m args below meth c s₁ Bd hml0 hP hK
  obtain ⟨rfl, hZ, hh⟩ := hP
  have hx := Bd.exec
  have hby := Bd.bytes
  have hlk := BodyLoose.notSynchronized Bd
  have hret := Bd.returns
  have hml : c.maxLocals = 1 := hml0
  have hown : s.vm.findClass "com/example/coterie/coterie/runtime/KnownRequests" = some m.cls := findClass_of_methodNamed Bd.named
  have hnm := (name_of_methodNamed Bd.named Bd.method).1
  have X : Stand p l e ({ frames := 2, cells := 2, slots := 5, locals := 70 } : Room) s m #[(.ref k)] below meth c s₁ [] 0 0 := Stand.of_body Bd
  have eT : s₁.heap = h0 := by rw [← hh, Bd.state]; rfl
  have N := Fr.nil n0
  have K0 : Keep h0 h0 [k, aK, aR, aT] := Keep.refl _ _
  show own_Go p e below s (Q_request Z k aK aR aT sf K Rr Tt rs sn h0 n0) ({ frames := 2, cells := 2, slots := 5, locals := 70 } : Room).cells ({ frames := 2, cells := 2, slots := 5, locals := 70 } : Room).slots s₁ (entryFrame m #[(.ref k)] 1)
  rw [ef_request m k]
  obtain ⟨E_k, F_self, F_known, F_rose, F_told, F_rises, V_K, V_R, V_T, E_aK⟩ := BB
  refine own_st (T' := s₁) (g' := (mkF m 1 #[.val (.ref k)] [(.ref k)])) (fun _ zq => XS.aloadN X.here hx rfl (hb hby own_d_prog_86_m2_0) rfl rfl zq) ?_
  refine own_st (T' := s₁) (g' := (mkF m 2 #[.val (.ref k)] [(.ref k), (.ref k)])) (fun _ zq => XS.aloadN X.here hx rfl (hb hby own_d_prog_86_m2_1) rfl rfl zq) ?_
  obtain ⟨T65, X65, e65, st65⟩ := getF X hx hZ hown (host := "") (Or.inl (hw _ (List.mem_of_getElem? (i := 10) rfl))) Via.refl eT F_self (g := (mkF m 2 #[.val (.ref k)] [(.ref k), (.ref k)])) rfl rfl (hb hby own_d_prog_86_m2_2)
  refine own_st (g' := (mkF m 5 #[.val (.ref k)] [(.int sf), (.ref k)])) st65 ?_
  refine own_st (T' := T65) (g' := (mkF m 6 #[.val (.ref k)] [(.ref k), (.int sf), (.ref k)])) (fun _ zq => XS.aloadN X65.here hx rfl (hb hby own_d_prog_86_m2_5) rfl rfl zq) ?_
  obtain ⟨T66, X66, e66, st66⟩ := getF X65 hx hZ hown (host := "") (Or.inl (hw _ (List.mem_of_getElem? (i := 13) rfl))) Via.refl e65 F_known (g := (mkF m 6 #[.val (.ref k)] [(.ref k), (.int sf), (.ref k)])) rfl rfl (hb hby own_d_prog_86_m2_6)
  refine own_st (g' := (mkF m 9 #[.val (.ref k)] [(.ref aK), (.int sf), (.ref k)])) st66 ?_
  refine own_st (T' := T66) (g' := (mkF m 10 #[.val (.ref k)] [(.ref k), (.ref aK), (.int sf), (.ref k)])) (fun _ zq => XS.aloadN X66.here hx rfl (hb hby own_d_prog_86_m2_9) rfl rfl zq) ?_
  obtain ⟨T67, X67, e67, st67⟩ := getF X66 hx hZ hown (host := "") (Or.inl (hw _ (List.mem_of_getElem? (i := 10) rfl))) Via.refl e66 F_self (g := (mkF m 10 #[.val (.ref k)] [(.ref k), (.ref aK), (.int sf), (.ref k)])) rfl rfl (hb hby own_d_prog_86_m2_10)
  refine own_st (g' := (mkF m 13 #[.val (.ref k)] [(.int sf), (.ref aK), (.int sf), (.ref k)])) st67 ?_
  refine own_st (T' := T67) (g' := (mkF m 14 #[.val (.ref k)] [(.long (K sn)), (.int sf), (.ref k)])) (own_ldJ X67 hx hZ e67 V_K (j := sf) (sn) hs hl (w := (.long (K sn))) rfl (g := (mkF m 13 #[.val (.ref k)] [(.int sf), (.ref aK), (.int sf), (.ref k)])) rfl rfl (hb hby own_d_prog_86_m2_13)) ?_
  refine own_st (T' := T67) (g' := (mkF m 15 #[.val (.ref k)] [(.long (1 : Int64)), (.long (K sn)), (.int sf), (.ref k)])) (fun _ zq => XS.lconst X67.here hx rfl (hb hby own_d_prog_86_m2_14) zq) ?_
  refine own_st (T' := T67) (g' := (mkF m 16 #[.val (.ref k)] [(.long ((K sn) + (1 : Int64))), (.int sf), (.ref k)])) (fun _ zq => XS.ladd X67.here hx rfl (hb hby own_d_prog_86_m2_15) rfl zq) ?_
  have BB : own_KR Z h0 k aK aR aT sf K Rr Tt rs := ⟨E_k, F_self, F_known, F_rose, F_told, F_rises, V_K, V_R, V_T, E_aK⟩
  obtain ⟨cq68, q68, q68'⟩ := BB.1.cell
  obtain ⟨_, _, ⟨T68, L68, k68, n68⟩, -, X68, ⟨Lc68, hQ68, l68, y68, z68⟩, st68⟩ := X67.privateBack hx (y := (⟨"com/example/coterie/coterie/runtime/KnownRequests", "rise", "(IJ)V"⟩ : MethodName)) hown (mvT hZ (hw _ (List.mem_of_getElem? (i := 29) rfl))) (mvT hZ (hw _ (List.mem_of_getElem? (i := 30) rfl))) (own_selP hZ (hw _ (List.mem_of_getElem? (i := 2) rfl)) (hw _ (List.mem_of_getElem? (i := 31) rfl)) (hw _ (List.mem_of_getElem? (i := 30) rfl)) (by decide)) (Cond.privateMethod_at (mvP hZ (hw _ (List.mem_of_getElem? (i := 31) rfl)) (args := #[]))) (mvT hZ (hw _ (List.mem_of_getElem? (i := 32) rfl))) (by decide) (backOf (W := 0) (rm_rise l Z a0 hw [] k aK aR aT sf K Rr Tt rs sf sn (K sn + (1 : Int64)) h0 n0 Zs BB hs hl n1 n2 n3 n4 n5 n6 g_k g_aK g_aR g_aT) hZ (hw _ (List.mem_of_getElem? (i := 32) rfl)) (hw _ (List.mem_of_getElem? (i := 3) rfl)) (by decide) (by decide)) (g := (mkF m 16 #[.val (.ref k)] [(.long ((K sn) + (1 : Int64))), (.int sf), (.ref k)])) rfl (by rw [hml]; rfl) (Steps.refl _) (a := k) (by rw [e67]; exact q68) q68' (argsL := [(.int sf), (.long ((K sn) + (1 : Int64)))]) (rest := []) (lenOf own_pd0 rfl) rfl (by show 2 * 0 + _ ≤ _; exact Nat.le_of_eq rfl) (hb hby own_d_prog_86_m2_16) (fun _ _ => ⟨rfl, e67, (by decide : 0 + 0 ≤ _), (by decide : 0 + 0 ≤ _)⟩)
  dsimp only [Pt.U, Pt.locs, Pt.cells, Pt.slots] at X68 l68 y68 z68 st68 hQ68
  subst l68 y68 z68
  obtain ⟨rfl, Nq68, Kq68, BB⟩ := hQ68
  replace N := Fr.app N Nq68
  replace Zs := Nat.le_trans Zs Kq68.1
  replace K0 := K0.trans Kq68 (allS (Or.inl (List.mem_of_getElem? (i := 0) rfl)) (allS (Or.inl (List.mem_of_getElem? (i := 1) rfl)) (allS (Or.inl (List.mem_of_getElem? (i := 2) rfl)) (allS (Or.inl (List.mem_of_getElem? (i := 3) rfl)) all0))))
  refine own_tr (g' := (mkF m 19 #[.val (.ref k)] [])) st68 ?_
  obtain ⟨E_k, F_self, F_known, F_rose, F_told, F_rises, V_K, V_R, V_T, E_aK⟩ := BB
  obtain ⟨T69, h69, X69, e69, E69, A69, D69, -, st69⟩ := newO X68 hx hZ hown (hw _ (List.mem_of_getElem? (i := 61) rfl)) (hw _ (List.mem_of_getElem? (i := 62) rfl)) (hw _ (List.mem_of_getElem? (i := 63) rfl)) rfl (g := (mkF m 19 #[.val (.ref k)] [])) rfl (hb hby own_d_prog_86_m2_19) (by decide) (by decide)
  obtain ⟨b69, ga69⟩ : ∃ z, z = T68.heap.size := ⟨_, rfl⟩
  rw [← ga69] at A69 D69 st69
  have g_b69 : n0 ≤ b69 := Nat.le_trans Zs (Nat.le_of_eq ga69.symm)
  have sz_b69 : h0.size ≤ b69 := Nat.le_trans K0.1 (Nat.le_of_eq ga69.symm)
  have ne_k_b69 : k ≠ b69 := fun q => Nat.lt_irrefl _ (Nat.lt_of_lt_of_eq E_k.lt (ga69.symm.trans q.symm))
  have ne_aK_b69 : aK ≠ b69 := fun q => Nat.lt_irrefl _ (Nat.lt_of_lt_of_eq V_K.lt (ga69.symm.trans q.symm))
  have ne_aR_b69 : aR ≠ b69 := fun q => Nat.lt_irrefl _ (Nat.lt_of_lt_of_eq V_R.lt (ga69.symm.trans q.symm))
  have ne_aT_b69 : aT ≠ b69 := fun q => Nat.lt_irrefl _ (Nat.lt_of_lt_of_eq V_T.lt (ga69.symm.trans q.symm))
  have E_b69 := A69
  replace E_k := E_k.ext E69
  replace F_self := F_self.ext E69
  replace F_known := F_known.ext E69
  replace F_rose := F_rose.ext E69
  replace F_told := F_told.ext E69
  replace F_rises := F_rises.ext E69
  replace V_K := V_K.ext E69
  replace V_R := V_R.ext E69
  replace V_T := V_T.ext E69
  replace E_aK := E_aK.ext E69
  replace Zs := Nat.le_trans Zs E69.1
  replace K0 := K0.ext E69
  have F_b69_node : Fld Z h69 b69 "com/example/coterie/coterie/message/VectorStamp" "node" "I" (.int (0 : Int32)) := D69 (Or.inr (hw _ (List.mem_of_getElem? (i := 69) rfl))) (ty := .int) (by decide)
  have F_b69_counts : Fld Z h69 b69 "com/example/coterie/coterie/message/VectorStamp" "counts" "[J" .null := D69 (Or.inr (hw _ (List.mem_of_getElem? (i := 80) rfl))) (ty := (.array .long)) (by decide)
  refine own_st (g' := (mkF m 22 #[.val (.ref k)] [(.ref b69)])) st69 ?_
  refine own_st (T' := T69) (g' := (mkF m 23 #[.val (.ref k)] [(.ref b69), (.ref b69)])) (fun _ zq => XS.dup X69.here hx rfl (hb hby own_d_prog_86_m2_22) rfl rfl zq) ?_
  refine own_st (T' := T69) (g' := (mkF m 24 #[.val (.ref k)] [(.ref k), (.ref b69), (.ref b69)])) (fun _ zq => XS.aloadN X69.here hx rfl (hb hby own_d_prog_86_m2_23) rfl rfl zq) ?_
  obtain ⟨T70, X70, e70, st70⟩ := getF X69 hx hZ hown (host := "") (Or.inl (hw _ (List.mem_of_getElem? (i := 10) rfl))) Via.refl e69 F_self (g := (mkF m 24 #[.val (.ref k)] [(.ref k), (.ref b69), (.ref b69)])) rfl rfl (hb hby own_d_prog_86_m2_24)
  refine own_st (g' := (mkF m 27 #[.val (.ref k)] [(.int sf), (.ref b69), (.ref b69)])) st70 ?_
  refine own_st (T' := T70) (g' := (mkF m 28 #[.val (.ref k)] [(.ref k), (.int sf), (.ref b69), (.ref b69)])) (fun _ zq => XS.aloadN X70.here hx rfl (hb hby own_d_prog_86_m2_27) rfl rfl zq) ?_
  obtain ⟨T71, X71, e71, st71⟩ := getF X70 hx hZ hown (host := "") (Or.inl (hw _ (List.mem_of_getElem? (i := 13) rfl))) Via.refl e70 F_known (g := (mkF m 28 #[.val (.ref k)] [(.ref k), (.int sf), (.ref b69), (.ref b69)])) rfl rfl (hb hby own_d_prog_86_m2_28)
  refine own_st (g' := (mkF m 31 #[.val (.ref k)] [(.ref aK), (.int sf), (.ref b69), (.ref b69)])) st71 ?_
  obtain ⟨_, _, ⟨T72, L72, k72, n72⟩, -, X72, ⟨Lc72, hQ72, l72, y72, z72⟩, st72⟩ := X71.specialBack hx (y := (⟨"com/example/coterie/coterie/message/VectorStamp", "<init>", "(I[J)V"⟩ : MethodName)) rfl hown (mvT hZ (hw _ (List.mem_of_getElem? (i := 64) rfl))) (mvT hZ (hw _ (List.mem_of_getElem? (i := 65) rfl))) (mvT hZ (hw _ (List.mem_of_getElem? (i := 66) rfl))) (by decide) (backOf (W := 1) (rm_vsinit l Z a0 hw [] b69 sf sn aK (own_upd K sn (K sn + 1)) h69 n0 Zs E_b69 F_b69_node F_b69_counts V_K E_aK hs hl (by rw [own_upd, if_pos rfl]; exact hpos) ne_aK_b69.symm g_b69) hZ (hw _ (List.mem_of_getElem? (i := 66) rfl)) (hw _ (List.mem_of_getElem? (i := 63) rfl)) (by decide) (by decide)) (g := (mkF m 31 #[.val (.ref k)] [(.ref aK), (.int sf), (.ref b69), (.ref b69)])) rfl (by rw [hml]; rfl) (Steps.refl _) (a := b69) (argsL := [(.int sf), (.ref aK)]) (rest := [(.ref b69)]) (lenOf own_pd2 rfl) rfl (by show 2 * 0 + _ ≤ _; exact Nat.le_of_eq rfl) (hb hby own_d_prog_86_m2_31) (fun _ _ => ⟨rfl, e71, (by decide : 1 + 1 ≤ _), (by decide : 2 + 3 ≤ _)⟩)
  dsimp only [Pt.U, Pt.locs, Pt.cells, Pt.slots] at X72 l72 y72 z72 st72 hQ72
  subst l72 y72 z72
  obtain ⟨rfl, Nq72, Kq72⟩ := hQ72
  replace N := Fr.app N Nq72
  replace E_k := E_k.keep Kq72
  replace F_self := F_self.keep Kq72 (ninS ne_k_b69 nin0)
  replace F_known := F_known.keep Kq72 (ninS ne_k_b69 nin0)
  replace F_rose := F_rose.keep Kq72 (ninS ne_k_b69 nin0)
  replace F_told := F_told.keep Kq72 (ninS ne_k_b69 nin0)
  replace F_rises := F_rises.keep Kq72 (ninS ne_k_b69 nin0)
  replace V_K := V_K.keep Kq72 (ninS ne_aK_b69 nin0)
  replace V_R := V_R.keep Kq72 (ninS ne_aR_b69 nin0)
  replace V_T := V_T.keep Kq72 (ninS ne_aT_b69 nin0)
  replace E_aK := E_aK.keep Kq72
  replace Zs := Nat.le_trans Zs Kq72.1
  replace K0 := K0.trans Kq72 (allS (Or.inr sz_b69) all0)
  refine own_tr (g' := (mkF m 34 #[.val (.ref k)] [(.ref b69)])) st72 ?_
  exact own_ret X72 hx hret hlk (i := .areturn) rfl (Or.inr (Or.inr (Or.inr (Or.inr ⟨rfl, rfl, rfl⟩)))) (hb hby own_d_prog_86_m2_34) rfl (Nat.le_of_ble_eq_true rfl) (Nat.le_of_ble_eq_true rfl) ⟨b69, rfl, N, K0, ⟨E_k, F_self, F_known, F_rose, F_told, F_rises, V_K, V_R, V_T, E_aK⟩⟩
def Q_mark (Z : State) (ad : Addr) (fd : Nat → Int32) (m_ : Int32) (mn : Nat) (h0 : Heap) (n0 : Nat) (v : Option Value) (h : Heap) (L : List Loc) : Prop := v = none ∧ Fr n0 L ∧ (Keep h0 h [ad]) ∧ (own_AV Z h ad .boolean 9 (fun i => .int ((own_mark fd mn) i)))
theorem ef_mark (m : MethodId) (x0 : Addr) (x1 : Int32)  : entryFrame m #[(.ref x0), (.int x1)] 2 = mkF m 0 #[.val (.ref x0), .val (.int x1)] [] := by first | (simp [entryFrame, mkF, argsToLocals, Value.category]; done) | rfl
set_option maxRecDepth 65536 in
set_option maxHeartbeats 40000000 in
theorem rm_mark (l : Launch) (Z : State) (a0 : Array Value) (hw : ∀ d ∈ tables_1, d.before a0 Z = true) (ws : List Jvm.Cond) (ad : Addr) (fd : Nat → Int32) (m_ : Int32) (mn : Nat) (h0 : Heap) (n0 : Nat) (Zs : n0 ≤ h0.size) (V_d : own_AV Z h0 ad .boolean 9 (fun i => .int (fd i))) (hm : m_.toInt = (mn : Int)) (hl : mn < 3) (g_ad : n0 ≤ ad) :
    MetFree l (⟨"com/example/coterie/coterie/runtime/KnownRequestsNewsPinLaw", "mark", "([ZI)V"⟩ : MethodName) (head1 (Jvm.Cond.code (⟨"com/example/coterie/coterie/runtime/KnownRequestsNewsPinLaw", "mark", "([ZI)V"⟩ : MethodName) method_5_code 2 none :: ws) ({ frames := 0, cells := 0, slots := 0, locals := 0 } : Room)) (fun a U => a = #[(.ref ad), (.int m_)] ∧ Z.Warmed39 U.vm ∧ U.heap = h0) (fun _ _ _ _ _ => True) (fun _ U o U' => ∃ v L, o = .returned v ∧ (Q_mark Z ad fd m_ mn h0 n0) v U'.heap L ∧ FrameEnd U o U' L ({ frames := 0, cells := 0, slots := 0, locals := 0 } : Room).cells ({ frames := 0, cells := 0, slots := 0, locals := 0 } : Room).slots) := by
  refine MetFree.of_bodySF (plainFor_of_name own_pn2) hisR ?_
  intro p e s m args below meth c s₁ Bd hml0 hP hK
  obtain ⟨rfl, hZ, hh⟩ := hP
  have hx := Bd.exec
  have hby := Bd.bytes
  have hlk := BodyLoose.notSynchronized Bd
  have hret := Bd.returns
  have hml : c.maxLocals = 2 := hml0
  have hown : s.vm.findClass "com/example/coterie/coterie/runtime/KnownRequestsNewsPinLaw" = some m.cls := findClass_of_methodNamed Bd.named
  have hnm := (name_of_methodNamed Bd.named Bd.method).1
  have X : Stand p l e ({ frames := 0, cells := 0, slots := 0, locals := 0 } : Room) s m #[(.ref ad), (.int m_)] below meth c s₁ [] 0 0 := Stand.of_body Bd
  have eT : s₁.heap = h0 := by rw [← hh, Bd.state]; rfl
  have N := Fr.nil n0
  have K0 : Keep h0 h0 [ad] := Keep.refl _ _
  show own_Go p e below s (Q_mark Z ad fd m_ mn h0 n0) ({ frames := 0, cells := 0, slots := 0, locals := 0 } : Room).cells ({ frames := 0, cells := 0, slots := 0, locals := 0 } : Room).slots s₁ (entryFrame m #[(.ref ad), (.int m_)] 2)
  rw [ef_mark m ad m_]
  refine own_st (T' := s₁) (g' := (mkF m 1 #[.val (.ref ad), .val (.int m_)] [(.ref ad)])) (fun _ zq => XS.aloadN X.here hx rfl (hb hby own_d_m5_0) rfl rfl zq) ?_
  refine own_st (T' := s₁) (g' := (mkF m 2 #[.val (.ref ad), .val (.int m_)] [(.int m_), (.ref ad)])) (fun _ zq => XS.iloadN X.here hx rfl (hb hby own_d_m5_1) rfl zq) ?_
  refine own_st (T' := s₁) (g' := (mkF m 3 #[.val (.ref ad), .val (.int m_)] [(.int (1 : Int32)), (.int m_), (.ref ad)])) (fun _ zq => XS.iconst X.here hx rfl (hb hby own_d_m5_2) zq) ?_
  obtain ⟨T73, h73, X73, e73, W73, V73, st73⟩ := own_stZ X hx hZ eT V_d (j := m_) (mn) hm (by omega) (g := (mkF m 3 #[.val (.ref ad), .val (.int m_)] [(.int (1 : Int32)), (.int m_), (.ref ad)])) rfl rfl (hb hby own_d_m5_3)
  replace Zs := Nat.le_trans Zs (Keep.of_wr W73).1
  replace K0 := K0.wr W73 (Or.inl (List.mem_of_getElem? (i := 0) rfl))
  replace V_d : own_AV Z h73 ad .boolean 9 (fun i => .int ((own_updI fd (mn) 1) i)) := V73.cong (own_updZ1 _ _)
  replace N := Fr.snoc X73 N g_ad
  refine own_st (g' := (mkF m 4 #[.val (.ref ad), .val (.int m_)] [])) st73 ?_
  refine own_st (T' := T73) (g' := (mkF m 5 #[.val (.ref ad), .val (.int m_)] [(.ref ad)])) (fun _ zq => XS.aloadN X73.here hx rfl (hb hby own_d_m5_4) rfl rfl zq) ?_
  refine own_st (T' := T73) (g' := (mkF m 6 #[.val (.ref ad), .val (.int m_)] [(.int (3 : Int32)), (.ref ad)])) (fun _ zq => XS.iconst X73.here hx rfl (hb hby own_d_m5_5) zq) ?_
  refine own_st (T' := T73) (g' := (mkF m 7 #[.val (.ref ad), .val (.int m_)] [(.int m_), (.int (3 : Int32)), (.ref ad)])) (fun _ zq => XS.iloadN X73.here hx rfl (hb hby own_d_m5_6) rfl zq) ?_
  refine own_st (T' := T73) (g' := (mkF m 8 #[.val (.ref ad), .val (.int m_)] [(.int ((3 : Int32) + m_)), (.ref ad)])) (fun _ zq => XS.iadd X73.here hx rfl (hb hby own_d_m5_7) rfl zq) ?_
  refine own_st (T' := T73) (g' := (mkF m 9 #[.val (.ref ad), .val (.int m_)] [(.int (1 : Int32)), (.int ((3 : Int32) + m_)), (.ref ad)])) (fun _ zq => XS.iconst X73.here hx rfl (hb hby own_d_m5_8) zq) ?_
  obtain ⟨T74, h74, X74, e74, W74, V74, st74⟩ := own_stZ X73 hx hZ e73 V_d (j := ((3 : Int32) + m_)) (3 + mn) (own_k3 hm hl) (by omega) (g := (mkF m 9 #[.val (.ref ad), .val (.int m_)] [(.int (1 : Int32)), (.int ((3 : Int32) + m_)), (.ref ad)])) rfl rfl (hb hby own_d_m5_9)
  replace Zs := Nat.le_trans Zs (Keep.of_wr W74).1
  replace K0 := K0.wr W74 (Or.inl (List.mem_of_getElem? (i := 0) rfl))
  replace V_d : own_AV Z h74 ad .boolean 9 (fun i => .int ((own_updI (own_updI fd (mn) 1) (3 + mn) 1) i)) := V74.cong (own_updZ1 _ _)
  replace N := Fr.snoc X74 N g_ad
  refine own_st (g' := (mkF m 10 #[.val (.ref ad), .val (.int m_)] [])) st74 ?_
  refine own_st (T' := T74) (g' := (mkF m 11 #[.val (.ref ad), .val (.int m_)] [(.ref ad)])) (fun _ zq => XS.aloadN X74.here hx rfl (hb hby own_d_m5_10) rfl rfl zq) ?_
  refine own_st (T' := T74) (g' := (mkF m 13 #[.val (.ref ad), .val (.int m_)] [(.int (6 : Int32)), (.ref ad)])) (fun _ zq => XS.bipush X74.here hx rfl (hb hby own_d_m5_11) zq) ?_
  refine own_st (T' := T74) (g' := (mkF m 14 #[.val (.ref ad), .val (.int m_)] [(.int m_), (.int (6 : Int32)), (.ref ad)])) (fun _ zq => XS.iloadN X74.here hx rfl (hb hby own_d_m5_13) rfl zq) ?_
  refine own_st (T' := T74) (g' := (mkF m 15 #[.val (.ref ad), .val (.int m_)] [(.int ((6 : Int32) + m_)), (.ref ad)])) (fun _ zq => XS.iadd X74.here hx rfl (hb hby own_d_m5_14) rfl zq) ?_
  refine own_st (T' := T74) (g' := (mkF m 16 #[.val (.ref ad), .val (.int m_)] [(.int (1 : Int32)), (.int ((6 : Int32) + m_)), (.ref ad)])) (fun _ zq => XS.iconst X74.here hx rfl (hb hby own_d_m5_15) zq) ?_
  obtain ⟨T75, h75, X75, e75, W75, V75, st75⟩ := own_stZ X74 hx hZ e74 V_d (j := ((6 : Int32) + m_)) (6 + mn) (own_k6 hm hl) (by omega) (g := (mkF m 16 #[.val (.ref ad), .val (.int m_)] [(.int (1 : Int32)), (.int ((6 : Int32) + m_)), (.ref ad)])) rfl rfl (hb hby own_d_m5_16)
  replace Zs := Nat.le_trans Zs (Keep.of_wr W75).1
  replace K0 := K0.wr W75 (Or.inl (List.mem_of_getElem? (i := 0) rfl))
  replace V_d : own_AV Z h75 ad .boolean 9 (fun i => .int ((own_updI (own_updI (own_updI fd (mn) 1) (3 + mn) 1) (6 + mn) 1) i)) := V75.cong (own_updZ1 _ _)
  replace N := Fr.snoc X75 N g_ad
  refine own_st (g' := (mkF m 17 #[.val (.ref ad), .val (.int m_)] [])) st75 ?_
  exact own_ret0 X75 hx hret hlk (hb hby own_d_m5_17) e75 (Nat.le_of_ble_eq_true rfl) (Nat.le_of_ble_eq_true rfl) ⟨rfl, N, K0, V_d⟩
def Q_learnt (Z : State) (ak : Addr) (fk : Nat → Int64) (ad : Addr) (fd : Nat → Int32) (m_ : Int32) (mn : Nat) (v_ : Int64) (h0 : Heap) (n0 : Nat) (v : Option Value) (h : Heap) (L : List Loc) : Prop := v = none ∧ Fr n0 L ∧ (Keep h0 h [ak, ad]) ∧ (own_AV Z h ak .long 3 (fun i => .long ((if fk mn < v_ then own_upd fk mn v_ else fk) i))) ∧ (own_AV Z h ad .boolean 9 (fun i => .int ((if fk mn < v_ then own_mark fd mn else fd) i)))
theorem ef_learnt (m : MethodId) (x0 : Addr) (x1 : Addr) (x2 : Int32) (x3 : Int64)  : entryFrame m #[(.ref x0), (.ref x1), (.int x2), (.long x3)] 5 = mkF m 0 #[.val (.ref x0), .val (.ref x1), .val (.int x2), .val (.long x3), .second] [] := by first | (simp [entryFrame, mkF, argsToLocals, Value.category]; done) | rfl
set_option maxRecDepth 65536 in
set_option maxHeartbeats 40000000 in
theorem rm_learnt (l : Launch) (Z : State) (a0 : Array Value) (hw : ∀ d ∈ tables_1, d.before a0 Z = true) (ws : List Jvm.Cond) (ak : Addr) (fk : Nat → Int64) (ad : Addr) (fd : Nat → Int32) (m_ : Int32) (mn : Nat) (v_ : Int64) (h0 : Heap) (n0 : Nat) (Zs : n0 ≤ h0.size) (V_k : own_AV Z h0 ak .long 3 (fun i => .long (fk i))) (V_d : own_AV Z h0 ad .boolean 9 (fun i => .int (fd i))) (hm : m_.toInt = (mn : Int)) (hl : mn < 3) (q1 : ak ≠ ad) (g_ak : n0 ≤ ak) (g_ad : n0 ≤ ad) :
    MetFree l (⟨"com/example/coterie/coterie/runtime/KnownRequestsNewsPinLaw", "learnt", "([J[ZIJ)V"⟩ : MethodName) (head1 (Jvm.Cond.code (⟨"com/example/coterie/coterie/runtime/KnownRequestsNewsPinLaw", "learnt", "([J[ZIJ)V"⟩ : MethodName) method_4_code 5 none :: ws) ({ frames := 1, cells := 0, slots := 0, locals := 20 } : Room)) (fun a U => a = #[(.ref ak), (.ref ad), (.int m_), (.long v_)] ∧ Z.Warmed39 U.vm ∧ U.heap = h0) (fun _ _ _ _ _ => True) (fun _ U o U' => ∃ v L, o = .returned v ∧ (Q_learnt Z ak fk ad fd m_ mn v_ h0 n0) v U'.heap L ∧ FrameEnd U o U' L ({ frames := 1, cells := 0, slots := 0, locals := 20 } : Room).cells ({ frames := 1, cells := 0, slots := 0, locals := 20 } : Room).slots) := by
  refine MetFree.of_bodySF (plainFor_of_name own_pn2) hisR ?_
  intro p e s m args below meth c s₁ Bd hml0 hP hK
  obtain ⟨rfl, hZ, hh⟩ := hP
  have hx := Bd.exec
  have hby := Bd.bytes
  have hlk := BodyLoose.notSynchronized Bd
  have hret := Bd.returns
  have hml : c.maxLocals = 5 := hml0
  have hown : s.vm.findClass "com/example/coterie/coterie/runtime/KnownRequestsNewsPinLaw" = some m.cls := findClass_of_methodNamed Bd.named
  have hnm := (name_of_methodNamed Bd.named Bd.method).1
  have X : Stand p l e ({ frames := 1, cells := 0, slots := 0, locals := 20 } : Room) s m #[(.ref ak), (.ref ad), (.int m_), (.long v_)] below meth c s₁ [] 0 0 := Stand.of_body Bd
  have eT : s₁.heap = h0 := by rw [← hh, Bd.state]; rfl
  have N := Fr.nil n0
  have K0 : Keep h0 h0 [ak, ad] := Keep.refl _ _
  show own_Go p e below s (Q_learnt Z ak fk ad fd m_ mn v_ h0 n0) ({ frames := 1, cells := 0, slots := 0, locals := 20 } : Room).cells ({ frames := 1, cells := 0, slots := 0, locals := 20 } : Room).slots s₁ (entryFrame m #[(.ref ak), (.ref ad), (.int m_), (.long v_)] 5)
  rw [ef_learnt m ak ad m_ v_]
  refine own_st (T' := s₁) (g' := (mkF m 1 #[.val (.ref ak), .val (.ref ad), .val (.int m_), .val (.long v_), .second] [(.long v_)])) (fun _ zq => XS.lloadN X.here hx rfl (hb hby own_d_m4_0) rfl zq) ?_
  refine own_st (T' := s₁) (g' := (mkF m 2 #[.val (.ref ak), .val (.ref ad), .val (.int m_), .val (.long v_), .second] [(.ref ak), (.long v_)])) (fun _ zq => XS.aloadN X.here hx rfl (hb hby own_d_m4_1) rfl rfl zq) ?_
  refine own_st (T' := s₁) (g' := (mkF m 3 #[.val (.ref ak), .val (.ref ad), .val (.int m_), .val (.long v_), .second] [(.int m_), (.ref ak), (.long v_)])) (fun _ zq => XS.iloadN X.here hx rfl (hb hby own_d_m4_2) rfl zq) ?_
  refine own_st (T' := s₁) (g' := (mkF m 4 #[.val (.ref ak), .val (.ref ad), .val (.int m_), .val (.long v_), .second] [(.long (fk mn)), (.long v_)])) (own_ldJ X hx hZ eT V_k (j := m_) (mn) hm hl (w := (.long (fk mn))) rfl (g := (mkF m 3 #[.val (.ref ak), .val (.ref ad), .val (.int m_), .val (.long v_), .second] [(.int m_), (.ref ak), (.long v_)])) rfl rfl (hb hby own_d_m4_3)) ?_
  refine own_st (T' := s₁) (g' := (mkF m 5 #[.val (.ref ak), .val (.ref ad), .val (.int m_), .val (.long v_), .second] [(.int (lcmpW v_ (fk mn)))])) (fun _ zq => XS.lcmp X.here hx rfl (hb hby own_d_m4_4) rfl zq) ?_
  by_cases hc : (fk mn) < v_
  · skip
    refine own_st (T' := s₁) (g' := (mkF m 8 #[.val (.ref ak), .val (.ref ad), .val (.int m_), .val (.long v_), .second] [])) (fun _ zq => XS.ifNo X.here hx rfl (hb hby own_d_m4_5) rfl (own_ltlt hc).2.2.2 zq) ?_
    refine own_st (T' := s₁) (g' := (mkF m 9 #[.val (.ref ak), .val (.ref ad), .val (.int m_), .val (.long v_), .second] [(.ref ak)])) (fun _ zq => XS.aloadN X.here hx rfl (hb hby own_d_m4_8) rfl rfl zq) ?_
    refine own_st (T' := s₁) (g' := (mkF m 10 #[.val (.ref ak), .val (.ref ad), .val (.int m_), .val (.long v_), .second] [(.int m_), (.ref ak)])) (fun _ zq => XS.iloadN X.here hx rfl (hb hby own_d_m4_9) rfl zq) ?_
    refine own_st (T' := s₁) (g' := (mkF m 11 #[.val (.ref ak), .val (.ref ad), .val (.int m_), .val (.long v_), .second] [(.long v_), (.int m_), (.ref ak)])) (fun _ zq => XS.lloadN X.here hx rfl (hb hby own_d_m4_10) rfl zq) ?_
    obtain ⟨T76, h76, X76, e76, W76, V76, st76⟩ := own_stJ X hx hZ eT V_k (j := m_) (mn) hm hl (g := (mkF m 11 #[.val (.ref ak), .val (.ref ad), .val (.int m_), .val (.long v_), .second] [(.long v_), (.int m_), (.ref ak)])) rfl rfl (hb hby own_d_m4_11)
    replace V_d := V_d.other W76 q1.symm
    replace Zs := Nat.le_trans Zs (Keep.of_wr W76).1
    replace K0 := K0.wr W76 (Or.inl (List.mem_of_getElem? (i := 0) rfl))
    replace V_k : own_AV Z h76 ak .long 3 (fun i => .long ((own_upd fk mn v_) i)) := V76.cong (own_updL _ _ _)
    replace N := Fr.snoc X76 N g_ak
    refine own_st (g' := (mkF m 12 #[.val (.ref ak), .val (.ref ad), .val (.int m_), .val (.long v_), .second] [])) st76 ?_
    refine own_st (T' := T76) (g' := (mkF m 13 #[.val (.ref ak), .val (.ref ad), .val (.int m_), .val (.long v_), .second] [(.ref ad)])) (fun _ zq => XS.aloadN X76.here hx rfl (hb hby own_d_m4_12) rfl rfl zq) ?_
    refine own_st (T' := T76) (g' := (mkF m 14 #[.val (.ref ak), .val (.ref ad), .val (.int m_), .val (.long v_), .second] [(.int m_), (.ref ad)])) (fun _ zq => XS.iloadN X76.here hx rfl (hb hby own_d_m4_13) rfl zq) ?_
    obtain ⟨_, _, ⟨T77, L77, k77, n77⟩, -, X77, ⟨Lc77, hQ77, l77, y77, z77⟩, st77⟩ := Jvm.LawKit.callS X76 hx (y := (⟨"com/example/coterie/coterie/runtime/KnownRequestsNewsPinLaw", "mark", "([ZI)V"⟩ : MethodName)) hown (mvT hZ (hw _ (List.mem_of_getElem? (i := 38) rfl))) (mvT hZ (hw _ (List.mem_of_getElem? (i := 39) rfl))) (mvT hZ (hw _ (List.mem_of_getElem? (i := 22) rfl))) (mvT hZ (hw _ (List.mem_of_getElem? (i := 40) rfl))) (by decide) (backOf (W := 0) (rm_mark l Z a0 hw [] ad fd m_ mn h76 n0 Zs V_d hm hl g_ad) hZ (hw _ (List.mem_of_getElem? (i := 40) rfl)) (hw _ (List.mem_of_getElem? (i := 22) rfl)) (by decide) (by decide)) (g := (mkF m 14 #[.val (.ref ak), .val (.ref ad), .val (.int m_), .val (.long v_), .second] [(.int m_), (.ref ad)])) rfl (by rw [hml]; rfl) (argsL := [(.ref ad), (.int m_)]) (rest := []) (lenOf own_pd3 rfl) rfl (by show 2 * 0 + _ ≤ _; exact Nat.le_of_eq rfl) (hb hby own_d_m4_14) (fun _ _ => ⟨rfl, e76, (by decide : 0 + 0 ≤ _), (by decide : 0 + 0 ≤ _)⟩)
    dsimp only [Pt.U, Pt.locs, Pt.cells, Pt.slots] at X77 l77 y77 z77 st77 hQ77
    subst l77 y77 z77
    obtain ⟨rfl, Nq77, Kq77, V_d⟩ := hQ77
    replace N := Fr.app N Nq77
    replace V_k := V_k.keep Kq77 (ninS q1 nin0)
    replace Zs := Nat.le_trans Zs Kq77.1
    replace K0 := K0.trans Kq77 (allS (Or.inl (List.mem_of_getElem? (i := 1) rfl)) all0)
    refine own_st (g' := (mkF m 17 #[.val (.ref ak), .val (.ref ad), .val (.int m_), .val (.long v_), .second] [])) st77 ?_
    exact own_ret0 X77 hx hret hlk (hb hby own_d_m4_17) rfl (Nat.le_of_ble_eq_true rfl) (Nat.le_of_ble_eq_true rfl) ⟨rfl, N, K0, by rw [if_pos hc]; exact V_k, by rw [if_pos hc]; exact V_d⟩
  · skip
    refine own_st (T' := s₁) (g' := (mkF m 17 #[.val (.ref ak), .val (.ref ad), .val (.int m_), .val (.long v_), .second] [])) (fun _ zq => XS.ifYes X.here hx rfl (pc0 := 5) (pc' := 17) rfl (hb hby own_d_m4_5) rfl (own_lflt hc).2.2.2 (by decide) (by decide) zq) ?_
    exact own_ret0 X hx hret hlk (hb hby own_d_m4_17) eT (Nat.le_of_ble_eq_true rfl) (Nat.le_of_ble_eq_true rfl) ⟨rfl, N, K0, by rw [if_neg hc]; exact V_k, by rw [if_neg hc]; exact V_d⟩
def Q_event (Z : State) (k : Addr) (aK : Addr) (aR : Addr) (aT : Addr) (sf : Int32) (K : Nat → Int64) (Rr : Nat → Int64) (Tt : Nat → Int64) (rs : Int64) (ak : Addr) (fk : Nat → Int64) (ad : Addr) (fd : Nat → Int32) (sn : Nat) (o1 : Int32) (o1n : Nat) (o2 : Int32) (o2n : Nat) (cd : Int32) (p_ : Int64) (q_ : Int64) (c_ : Int) (h0 : Heap) (n0 : Nat) (v : Option Value) (h : Heap) (L : List Loc) : Prop := ∃ K' : Nat → Int64, ∃ R' : Nat → Int64, ∃ rs' : Int64, ∃ fk' : Nat → Int64, ∃ fd' : Nat → Int32, v = none ∧ Fr n0 L ∧ (Keep h0 h [k, aK, aR, aT, ak, ad]) ∧ (own_KR Z h k aK aR aT sf K' R' Tt rs') ∧ (own_AV Z h ak .long 3 (fun i => .long (fk' i))) ∧ (own_AV Z h ad .boolean 9 (fun i => .int (fd' i))) ∧ (own_Inv sn K' R' Tt rs' fk' fd' (c_ + 2))
theorem ef_event (m : MethodId) (x0 : Addr) (x1 : Addr) (x2 : Addr) (x3 : Int32) (x4 : Int32) (x5 : Int32) (x6 : Int32) (x7 : Int64) (x8 : Int64)  : entryFrame m #[(.ref x0), (.ref x1), (.ref x2), (.int x3), (.int x4), (.int x5), (.int x6), (.long x7), (.long x8)] 13 = mkF m 0 #[.val (.ref x0), .val (.ref x1), .val (.ref x2), .val (.int x3), .val (.int x4), .val (.int x5), .val (.int x6), .val (.long x7), .second, .val (.long x8), .second, .unset, .unset] [] := by first | (simp [entryFrame, mkF, argsToLocals, Value.category]; done) | rfl
set_option maxRecDepth 65536 in
set_option maxHeartbeats 40000000 in
theorem rm_event (l : Launch) (Z : State) (a0 : Array Value) (hw : ∀ d ∈ tables_1, d.before a0 Z = true) (ws : List Jvm.Cond) (k : Addr) (aK : Addr) (aR : Addr) (aT : Addr) (sf : Int32) (K : Nat → Int64) (Rr : Nat → Int64) (Tt : Nat → Int64) (rs : Int64) (ak : Addr) (fk : Nat → Int64) (ad : Addr) (fd : Nat → Int32) (sn : Nat) (o1 : Int32) (o1n : Nat) (o2 : Int32) (o2n : Nat) (cd : Int32) (p_ : Int64) (q_ : Int64) (c_ : Int) (h0 : Heap) (n0 : Nat) (Zs : n0 ≤ h0.size) (BB : own_KR Z h0 k aK aR aT sf K Rr Tt rs) (V_k : own_AV Z h0 ak .long 3 (fun i => .long (fk i))) (V_d : own_AV Z h0 ad .boolean 9 (fun i => .int (fd i))) (hs : sf.toInt = (sn : Int)) (hls : sn < 3) (ho1 : o1.toInt = (o1n : Int)) (hl1 : o1n < 3 ∧ o1n ≠ sn) (ho2 : o2.toInt = (o2n : Int)) (hl2 : o2n < 3 ∧ o2n ≠ sn) (hI : own_Inv sn K Rr Tt rs fk fd c_) (hcb : c_ ≤ 50) (n1 : k ≠ aK) (n2 : k ≠ aR) (n3 : k ≠ aT) (n4 : aK ≠ aR) (n5 : aK ≠ aT) (n6 : aR ≠ aT) (g_k : n0 ≤ k) (g_aK : n0 ≤ aK) (g_aR : n0 ≤ aR) (g_aT : n0 ≤ aT) (x1 : k ≠ ak) (x2 : aK ≠ ak) (x3 : aR ≠ ak) (x4 : aT ≠ ak) (x5 : k ≠ ad) (x6 : aK ≠ ad) (x7 : aR ≠ ad) (x8 : aT ≠ ad) (x9 : ak ≠ ad) (g_ak : n0 ≤ ak) (g_ad : n0 ≤ ad) :
    MetFree l (⟨"com/example/coterie/coterie/runtime/KnownRequestsNewsPinLaw", "event", "(Lcom/example/coterie/coterie/runtime/KnownRequests;[J[ZIIIIJJ)V"⟩ : MethodName) (head1 (Jvm.Cond.code (⟨"com/example/coterie/coterie/runtime/KnownRequestsNewsPinLaw", "event", "(Lcom/example/coterie/coterie/runtime/KnownRequests;[J[ZIIIIJJ)V"⟩ : MethodName) method_3_code 13 none :: ws) ({ frames := 3, cells := 2, slots := 5, locals := 100 } : Room)) (fun a U => a = #[(.ref k), (.ref ak), (.ref ad), (.int sf), (.int o1), (.int o2), (.int cd), (.long p_), (.long q_)] ∧ Z.Warmed39 U.vm ∧ U.heap = h0) (fun _ _ _ _ _ => True) (fun _ U o U' => ∃ v L, o = .returned v ∧ (Q_event Z k aK aR aT sf K Rr Tt rs ak fk ad fd sn o1 o1n o2 o2n cd p_ q_ c_ h0 n0) v U'.heap L ∧ FrameEnd U o U' L ({ frames := 3, cells := 2, slots := 5, locals := 100 } : Room).cells ({ frames := 3, cells := 2, slots := 5, locals := 100 } : Room).slots) := by
  refine MetFree.of_bodySF (plainFor_of_name own_pn2) hisR ?_
  intro p e s m args below meth c s₁ Bd hml0 hP hK
  obtain ⟨rfl, hZ, hh⟩ := hP
  have hx := Bd.exec
  have hby := Bd.bytes
  have hlk := BodyLoose.notSynchronized Bd
  have hret := Bd.returns
  have hml : c.maxLocals = 13 := hml0
  have hown : s.vm.findClass "com/example/coterie/coterie/runtime/KnownRequestsNewsPinLaw" = some m.cls := findClass_of_methodNamed Bd.named
  have hnm := (name_of_methodNamed Bd.named Bd.method).1
  have X : Stand p l e ({ frames := 3, cells := 2, slots := 5, locals := 100 } : Room) s m #[(.ref k), (.ref ak), (.ref ad), (.int sf), (.int o1), (.int o2), (.int cd), (.long p_), (.long q_)] below meth c s₁ [] 0 0 := Stand.of_body Bd
  have eT : s₁.heap = h0 := by rw [← hh, Bd.state]; rfl
  have N := Fr.nil n0
  have K0 : Keep h0 h0 [k, aK, aR, aT, ak, ad] := Keep.refl _ _
  show own_Go p e below s (Q_event Z k aK aR aT sf K Rr Tt rs ak fk ad fd sn o1 o1n o2 o2n cd p_ q_ c_ h0 n0) ({ frames := 3, cells := 2, slots := 5, locals := 100 } : Room).cells ({ frames := 3, cells := 2, slots := 5, locals := 100 } : Room).slots s₁ (entryFrame m #[(.ref k), (.ref ak), (.ref ad), (.int sf), (.int o1), (.int o2), (.int cd), (.long p_), (.long q_)] 13)
  rw [ef_event m k ak ad sf o1 o2 cd p_ q_]
  refine own_st (T' := s₁) (g' := (mkF m 2 #[.val (.ref k), .val (.ref ak), .val (.ref ad), .val (.int sf), .val (.int o1), .val (.int o2), .val (.int cd), .val (.long p_), .second, .val (.long q_), .second, .unset, .unset] [(.int cd)])) (fun _ zq => XS.iload X.here hx rfl (hb hby own_d_m3_0) rfl zq) ?_
  refine own_st (T' := s₁) (g' := (mkF m 3 #[.val (.ref k), .val (.ref ak), .val (.ref ad), .val (.int sf), .val (.int o1), .val (.int o2), .val (.int cd), .val (.long p_), .second, .val (.long q_), .second, .unset, .unset] [(.int (3 : Int32)), (.int cd)])) (fun _ zq => XS.iconst X.here hx rfl (hb hby own_d_m3_2) zq) ?_
  refine own_st (T' := s₁) (g' := (mkF m 4 #[.val (.ref k), .val (.ref ak), .val (.ref ad), .val (.int sf), .val (.int o1), .val (.int o2), .val (.int cd), .val (.long p_), .second, .val (.long q_), .second, .unset, .unset] [(.int (cd &&& (3 : Int32)))])) (fun _ zq => XS.iand X.here hx rfl (hb hby own_d_m3_3) rfl zq) ?_
  refine own_nm (f := fun z_ => (mkF m 4 #[.val (.ref k), .val (.ref ak), .val (.ref ad), .val (.int sf), .val (.int o1), .val (.int o2), .val (.int cd), .val (.long p_), .second, .val (.long q_), .second, .unset, .unset] [(.int z_)])) (cd &&& (3 : Int32)) (fun kd hkd => ?_)
  show own_Go p e below s (Q_event Z k aK aR aT sf K Rr Tt rs ak fk ad fd sn o1 o1n o2 o2n cd p_ q_ c_ h0 n0) ({ frames := 3, cells := 2, slots := 5, locals := 100 } : Room).cells ({ frames := 3, cells := 2, slots := 5, locals := 100 } : Room).slots s₁ (mkF m 4 #[.val (.ref k), .val (.ref ak), .val (.ref ad), .val (.int sf), .val (.int o1), .val (.int o2), .val (.int cd), .val (.long p_), .second, .val (.long q_), .second, .unset, .unset] [(.int kd)])
  refine own_st (T' := s₁) (g' := (mkF m 6 #[.val (.ref k), .val (.ref ak), .val (.ref ad), .val (.int sf), .val (.int o1), .val (.int o2), .val (.int cd), .val (.long p_), .second, .val (.long q_), .second, .val (.int kd), .unset] [])) (fun _ zq => XS.istore X.here hx rfl (hb hby own_d_m3_4) rfl (l' := #[.val (.ref k), .val (.ref ak), .val (.ref ad), .val (.int sf), .val (.int o1), .val (.int o2), .val (.int cd), .val (.long p_), .second, .val (.long q_), .second, .val (.int kd), .unset]) rfl zq) ?_
  refine own_st (T' := s₁) (g' := (mkF m 8 #[.val (.ref k), .val (.ref ak), .val (.ref ad), .val (.int sf), .val (.int o1), .val (.int o2), .val (.int cd), .val (.long p_), .second, .val (.long q_), .second, .val (.int kd), .unset] [(.int kd)])) (fun _ zq => XS.iload X.here hx rfl (hb hby own_d_m3_6) rfl zq) ?_
  refine own_st (T' := s₁) (g' := (mkF m 9 #[.val (.ref k), .val (.ref ak), .val (.ref ad), .val (.int sf), .val (.int o1), .val (.int o2), .val (.int cd), .val (.long p_), .second, .val (.long q_), .second, .val (.int kd), .unset] [(.int (1 : Int32)), (.int kd)])) (fun _ zq => XS.iconst X.here hx rfl (hb hby own_d_m3_8) zq) ?_
  by_cases h1 : kd = (1 : Int32)
  · skip
    refine own_st (T' := s₁) (g' := (mkF m 12 #[.val (.ref k), .val (.ref ak), .val (.ref ad), .val (.int sf), .val (.int o1), .val (.int o2), .val (.int cd), .val (.long p_), .second, .val (.long q_), .second, .val (.int kd), .unset] [])) (fun _ zq => XS.icmpNo X.here hx rfl (hb hby own_d_m3_9) rfl (teq h1).2 zq) ?_
    refine own_st (T' := s₁) (g' := (mkF m 13 #[.val (.ref k), .val (.ref ak), .val (.ref ad), .val (.int sf), .val (.int o1), .val (.int o2), .val (.int cd), .val (.long p_), .second, .val (.long q_), .second, .val (.int kd), .unset] [(.ref k)])) (fun _ zq => XS.aloadN X.here hx rfl (hb hby own_d_m3_12) rfl rfl zq) ?_
    obtain ⟨cq78, kq78, q78a, q78b, q78c⟩ := isOf hZ eT BB.1
    obtain ⟨_, _, ⟨T78, L78, k78, n78⟩, -, X78, ⟨Lc78, hQ78, l78, y78, z78⟩, st78⟩ := X.virtualBack hx (y := (⟨"com/example/coterie/coterie/runtime/KnownRequests", "request", "()Lcom/example/coterie/coterie/message/VectorStamp;"⟩ : MethodName)) (z := (⟨"com/example/coterie/coterie/runtime/KnownRequests", "request", "()Lcom/example/coterie/coterie/message/VectorStamp;"⟩ : MethodName)) hown (mvT hZ (hw _ (List.mem_of_getElem? (i := 56) rfl))) (mvT hZ (hw _ (List.mem_of_getElem? (i := 57) rfl))) (notFace_of_selects (args := #[]) (mvT hZ (hw _ (List.mem_of_getElem? (i := 59) rfl)))) (mvT hZ (hw _ (List.mem_of_getElem? (i := 59) rfl))) (mvT hZ (hw _ (List.mem_of_getElem? (i := 58) rfl))) (by decide) (backOf (W := 0) (rm_request l Z a0 hw [] k aK aR aT sf K Rr Tt rs sn h0 n0 Zs BB hs hls (own_pos hI hcb) n1 n2 n3 n4 n5 n6 g_k g_aK g_aR g_aT) hZ (hw _ (List.mem_of_getElem? (i := 60) rfl)) (hw _ (List.mem_of_getElem? (i := 3) rfl)) (by decide) (by decide)) q78a q78c (g := (mkF m 13 #[.val (.ref k), .val (.ref ak), .val (.ref ad), .val (.int sf), .val (.int o1), .val (.int o2), .val (.int cd), .val (.long p_), .second, .val (.long q_), .second, .val (.int kd), .unset] [(.ref k)])) rfl (by rw [hml]; rfl) (Steps.refl _) (argsL := []) (rest := []) (lenOf own_pd4 rfl) rfl (by show 2 * 0 + _ ≤ _; exact Nat.le_of_eq rfl) (hb hby own_d_m3_13) (fun _ _ => ⟨rfl, eT, (by decide : 0 + 2 ≤ _), (by decide : 0 + 5 ≤ _)⟩)
    dsimp only [Pt.U, Pt.locs, Pt.cells, Pt.slots] at X78 l78 y78 z78 st78 hQ78
    subst l78 y78 z78
    obtain ⟨rr, rfl, Nq78, Kq78, BB⟩ := hQ78
    replace N := Fr.app N Nq78
    replace V_k := V_k.keep Kq78 (ninS x1.symm (ninS x2.symm (ninS x3.symm (ninS x4.symm nin0))))
    replace V_d := V_d.keep Kq78 (ninS x5.symm (ninS x6.symm (ninS x7.symm (ninS x8.symm nin0))))
    replace Zs := Nat.le_trans Zs Kq78.1
    replace K0 := K0.trans Kq78 (allS (Or.inl (List.mem_of_getElem? (i := 0) rfl)) (allS (Or.inl (List.mem_of_getElem? (i := 1) rfl)) (allS (Or.inl (List.mem_of_getElem? (i := 2) rfl)) (allS (Or.inl (List.mem_of_getElem? (i := 3) rfl)) all0))))
    refine own_tr (g' := (mkF m 16 #[.val (.ref k), .val (.ref ak), .val (.ref ad), .val (.int sf), .val (.int o1), .val (.int o2), .val (.int cd), .val (.long p_), .second, .val (.long q_), .second, .val (.int kd), .unset] [(.ref rr)])) st78 ?_
    refine own_st (T' := T78) (g' := (mkF m 17 #[.val (.ref k), .val (.ref ak), .val (.ref ad), .val (.int sf), .val (.int o1), .val (.int o2), .val (.int cd), .val (.long p_), .second, .val (.long q_), .second, .val (.int kd), .unset] [])) (fun _ zq => XS.pop X78.here hx rfl (hb hby own_d_m3_16) rfl rfl zq) ?_
    refine own_st (T' := T78) (g' := (mkF m 18 #[.val (.ref k), .val (.ref ak), .val (.ref ad), .val (.int sf), .val (.int o1), .val (.int o2), .val (.int cd), .val (.long p_), .second, .val (.long q_), .second, .val (.int kd), .unset] [(.ref ak)])) (fun _ zq => XS.aloadN X78.here hx rfl (hb hby own_d_m3_17) rfl rfl zq) ?_
    refine own_st (T' := T78) (g' := (mkF m 19 #[.val (.ref k), .val (.ref ak), .val (.ref ad), .val (.int sf), .val (.int o1), .val (.int o2), .val (.int cd), .val (.long p_), .second, .val (.long q_), .second, .val (.int kd), .unset] [(.int sf), (.ref ak)])) (fun _ zq => XS.iloadN X78.here hx rfl (hb hby own_d_m3_18) rfl zq) ?_
    refine own_st (T' := T78) (g' := (mkF m 20 #[.val (.ref k), .val (.ref ak), .val (.ref ad), .val (.int sf), .val (.int o1), .val (.int o2), .val (.int cd), .val (.long p_), .second, .val (.long q_), .second, .val (.int kd), .unset] [(.ref ak), (.int sf), (.ref ak)])) (fun _ zq => XS.aloadN X78.here hx rfl (hb hby own_d_m3_19) rfl rfl zq) ?_
    refine own_st (T' := T78) (g' := (mkF m 21 #[.val (.ref k), .val (.ref ak), .val (.ref ad), .val (.int sf), .val (.int o1), .val (.int o2), .val (.int cd), .val (.long p_), .second, .val (.long q_), .second, .val (.int kd), .unset] [(.int sf), (.ref ak), (.int sf), (.ref ak)])) (fun _ zq => XS.iloadN X78.here hx rfl (hb hby own_d_m3_20) rfl zq) ?_
    obtain ⟨E_k, F_self, F_known, F_rose, F_told, F_rises, V_K, V_R, V_T, E_aK⟩ := BB
    refine own_st (T' := T78) (g' := (mkF m 22 #[.val (.ref k), .val (.ref ak), .val (.ref ad), .val (.int sf), .val (.int o1), .val (.int o2), .val (.int cd), .val (.long p_), .second, .val (.long q_), .second, .val (.int kd), .unset] [(.long (fk sn)), (.int sf), (.ref ak)])) (own_ldJ X78 hx hZ rfl V_k (j := sf) (sn) hs hls (w := (.long (fk sn))) rfl (g := (mkF m 21 #[.val (.ref k), .val (.ref ak), .val (.ref ad), .val (.int sf), .val (.int o1), .val (.int o2), .val (.int cd), .val (.long p_), .second, .val (.long q_), .second, .val (.int kd), .unset] [(.int sf), (.ref ak), (.int sf), (.ref ak)])) rfl rfl (hb hby own_d_m3_21)) ?_
    refine own_st (T' := T78) (g' := (mkF m 23 #[.val (.ref k), .val (.ref ak), .val (.ref ad), .val (.int sf), .val (.int o1), .val (.int o2), .val (.int cd), .val (.long p_), .second, .val (.long q_), .second, .val (.int kd), .unset] [(.long (1 : Int64)), (.long (fk sn)), (.int sf), (.ref ak)])) (fun _ zq => XS.lconst X78.here hx rfl (hb hby own_d_m3_22) zq) ?_
    refine own_st (T' := T78) (g' := (mkF m 24 #[.val (.ref k), .val (.ref ak), .val (.ref ad), .val (.int sf), .val (.int o1), .val (.int o2), .val (.int cd), .val (.long p_), .second, .val (.long q_), .second, .val (.int kd), .unset] [(.long ((fk sn) + (1 : Int64))), (.int sf), (.ref ak)])) (fun _ zq => XS.ladd X78.here hx rfl (hb hby own_d_m3_23) rfl zq) ?_
    obtain ⟨T79, h79, X79, e79, W79, V79, st79⟩ := own_stJ X78 hx hZ rfl V_k (j := sf) (sn) hs hls (g := (mkF m 24 #[.val (.ref k), .val (.ref ak), .val (.ref ad), .val (.int sf), .val (.int o1), .val (.int o2), .val (.int cd), .val (.long p_), .second, .val (.long q_), .second, .val (.int kd), .unset] [(.long ((fk sn) + (1 : Int64))), (.int sf), (.ref ak)])) rfl rfl (hb hby own_d_m3_24)
    replace V_d := V_d.other W79 x9.symm
    replace E_k := E_k.wr W79
    replace F_self := F_self.other W79 (Or.inl x1)
    replace F_known := F_known.other W79 (Or.inl x1)
    replace F_rose := F_rose.other W79 (Or.inl x1)
    replace F_told := F_told.other W79 (Or.inl x1)
    replace F_rises := F_rises.other W79 (Or.inl x1)
    replace V_K := V_K.other W79 x2
    replace V_R := V_R.other W79 x3
    replace V_T := V_T.other W79 x4
    replace E_aK := E_aK.wr W79
    replace Zs := Nat.le_trans Zs (Keep.of_wr W79).1
    replace K0 := K0.wr W79 (Or.inl (List.mem_of_getElem? (i := 4) rfl))
    replace V_k : own_AV Z h79 ak .long 3 (fun i => .long ((own_upd fk sn (fk sn + (1 : Int64))) i)) := V79.cong (own_updL _ _ _)
    replace N := Fr.snoc X79 N g_ak
    refine own_st (g' := (mkF m 25 #[.val (.ref k), .val (.ref ak), .val (.ref ad), .val (.int sf), .val (.int o1), .val (.int o2), .val (.int cd), .val (.long p_), .second, .val (.long q_), .second, .val (.int kd), .unset] [])) st79 ?_
    refine own_st (T' := T79) (g' := (mkF m 26 #[.val (.ref k), .val (.ref ak), .val (.ref ad), .val (.int sf), .val (.int o1), .val (.int o2), .val (.int cd), .val (.long p_), .second, .val (.long q_), .second, .val (.int kd), .unset] [(.ref ad)])) (fun _ zq => XS.aloadN X79.here hx rfl (hb hby own_d_m3_25) rfl rfl zq) ?_
    refine own_st (T' := T79) (g' := (mkF m 27 #[.val (.ref k), .val (.ref ak), .val (.ref ad), .val (.int sf), .val (.int o1), .val (.int o2), .val (.int cd), .val (.long p_), .second, .val (.long q_), .second, .val (.int kd), .unset] [(.int sf), (.ref ad)])) (fun _ zq => XS.iloadN X79.here hx rfl (hb hby own_d_m3_26) rfl zq) ?_
    obtain ⟨_, _, ⟨T80, L80, k80, n80⟩, -, X80, ⟨Lc80, hQ80, l80, y80, z80⟩, st80⟩ := Jvm.LawKit.callS X79 hx (y := (⟨"com/example/coterie/coterie/runtime/KnownRequestsNewsPinLaw", "mark", "([ZI)V"⟩ : MethodName)) hown (mvT hZ (hw _ (List.mem_of_getElem? (i := 38) rfl))) (mvT hZ (hw _ (List.mem_of_getElem? (i := 39) rfl))) (mvT hZ (hw _ (List.mem_of_getElem? (i := 22) rfl))) (mvT hZ (hw _ (List.mem_of_getElem? (i := 40) rfl))) (by decide) (backOf (W := 0) (rm_mark l Z a0 hw [] ad fd sf sn h79 n0 Zs V_d hs hls g_ad) hZ (hw _ (List.mem_of_getElem? (i := 40) rfl)) (hw _ (List.mem_of_getElem? (i := 22) rfl)) (by decide) (by decide)) (g := (mkF m 27 #[.val (.ref k), .val (.ref ak), .val (.ref ad), .val (.int sf), .val (.int o1), .val (.int o2), .val (.int cd), .val (.long p_), .second, .val (.long q_), .second, .val (.int kd), .unset] [(.int sf), (.ref ad)])) rfl (by rw [hml]; rfl) (argsL := [(.ref ad), (.int sf)]) (rest := []) (lenOf own_pd3 rfl) rfl (by show 2 * 0 + _ ≤ _; exact Nat.le_of_eq rfl) (hb hby own_d_m3_27) (fun _ _ => ⟨rfl, e79, (by decide : 2 + 0 ≤ _), (by decide : 5 + 0 ≤ _)⟩)
    dsimp only [Pt.U, Pt.locs, Pt.cells, Pt.slots] at X80 l80 y80 z80 st80 hQ80
    subst l80 y80 z80
    obtain ⟨rfl, Nq80, Kq80, V_d⟩ := hQ80
    replace N := Fr.app N Nq80
    replace V_k := V_k.keep Kq80 (ninS x9 nin0)
    replace E_k := E_k.keep Kq80
    replace F_self := F_self.keep Kq80 (ninS x5 nin0)
    replace F_known := F_known.keep Kq80 (ninS x5 nin0)
    replace F_rose := F_rose.keep Kq80 (ninS x5 nin0)
    replace F_told := F_told.keep Kq80 (ninS x5 nin0)
    replace F_rises := F_rises.keep Kq80 (ninS x5 nin0)
    replace V_K := V_K.keep Kq80 (ninS x6 nin0)
    replace V_R := V_R.keep Kq80 (ninS x7 nin0)
    replace V_T := V_T.keep Kq80 (ninS x8 nin0)
    replace E_aK := E_aK.keep Kq80
    replace Zs := Nat.le_trans Zs Kq80.1
    replace K0 := K0.trans Kq80 (allS (Or.inl (List.mem_of_getElem? (i := 5) rfl)) all0)
    refine own_st (g' := (mkF m 30 #[.val (.ref k), .val (.ref ak), .val (.ref ad), .val (.int sf), .val (.int o1), .val (.int o2), .val (.int cd), .val (.long p_), .second, .val (.long q_), .second, .val (.int kd), .unset] [])) st80 ?_
    refine own_st (T' := T80) (g' := (mkF m 138 #[.val (.ref k), .val (.ref ak), .val (.ref ad), .val (.int sf), .val (.int o1), .val (.int o2), .val (.int cd), .val (.long p_), .second, .val (.long q_), .second, .val (.int kd), .unset] [])) (fun _ zq => XS.goto X80.here hx rfl (pc0 := 30) (pc' := 138) rfl (hb hby own_d_m3_30) (by decide) (by decide) zq) ?_
    exact own_ret0 X80 hx hret hlk (hb hby own_d_m3_138) rfl (Nat.le_of_ble_eq_true rfl) (Nat.le_of_ble_eq_true rfl) ⟨_, _, _, _, _, rfl, N, K0, ⟨E_k, F_self, F_known, F_rose, F_told, F_rises, V_K, V_R, V_T, E_aK⟩, V_k, V_d, own_ev1 hI hcb hls⟩
  · skip
    refine own_st (T' := s₁) (g' := (mkF m 33 #[.val (.ref k), .val (.ref ak), .val (.ref ad), .val (.int sf), .val (.int o1), .val (.int o2), .val (.int cd), .val (.long p_), .second, .val (.long q_), .second, .val (.int kd), .unset] [])) (fun _ zq => XS.icmpYes X.here hx rfl (pc0 := 9) (pc' := 33) rfl (hb hby own_d_m3_9) rfl (feq h1).2 (by decide) (by decide) zq) ?_
    refine own_st (T' := s₁) (g' := (mkF m 35 #[.val (.ref k), .val (.ref ak), .val (.ref ad), .val (.int sf), .val (.int o1), .val (.int o2), .val (.int cd), .val (.long p_), .second, .val (.long q_), .second, .val (.int kd), .unset] [(.int kd)])) (fun _ zq => XS.iload X.here hx rfl (hb hby own_d_m3_33) rfl zq) ?_
    refine own_st (T' := s₁) (g' := (mkF m 36 #[.val (.ref k), .val (.ref ak), .val (.ref ad), .val (.int sf), .val (.int o1), .val (.int o2), .val (.int cd), .val (.long p_), .second, .val (.long q_), .second, .val (.int kd), .unset] [(.int (2 : Int32)), (.int kd)])) (fun _ zq => XS.iconst X.here hx rfl (hb hby own_d_m3_35) zq) ?_
    by_cases h2 : kd = (2 : Int32)
    · skip
      refine own_st (T' := s₁) (g' := (mkF m 39 #[.val (.ref k), .val (.ref ak), .val (.ref ad), .val (.int sf), .val (.int o1), .val (.int o2), .val (.int cd), .val (.long p_), .second, .val (.long q_), .second, .val (.int kd), .unset] [])) (fun _ zq => XS.icmpNo X.here hx rfl (hb hby own_d_m3_36) rfl (teq h2).2 zq) ?_
      refine own_st (T' := s₁) (g' := (mkF m 41 #[.val (.ref k), .val (.ref ak), .val (.ref ad), .val (.int sf), .val (.int o1), .val (.int o2), .val (.int cd), .val (.long p_), .second, .val (.long q_), .second, .val (.int kd), .unset] [(.int cd)])) (fun _ zq => XS.iload X.here hx rfl (hb hby own_d_m3_39) rfl zq) ?_
      refine own_st (T' := s₁) (g' := (mkF m 42 #[.val (.ref k), .val (.ref ak), .val (.ref ad), .val (.int sf), .val (.int o1), .val (.int o2), .val (.int cd), .val (.long p_), .second, .val (.long q_), .second, .val (.int kd), .unset] [(.int (4 : Int32)), (.int cd)])) (fun _ zq => XS.iconst X.here hx rfl (hb hby own_d_m3_41) zq) ?_
      refine own_st (T' := s₁) (g' := (mkF m 43 #[.val (.ref k), .val (.ref ak), .val (.ref ad), .val (.int sf), .val (.int o1), .val (.int o2), .val (.int cd), .val (.long p_), .second, .val (.long q_), .second, .val (.int kd), .unset] [(.int (cd &&& (4 : Int32)))])) (fun _ zq => XS.iand X.here hx rfl (hb hby own_d_m3_42) rfl zq) ?_
      suffices J53 : ∀ (mv : Int32) (mvn : Nat) (hmv : mv.toInt = (mvn : Int)) (hlv : mvn < 3 ∧ mvn ≠ sn), own_Go p e below s (Q_event Z k aK aR aT sf K Rr Tt rs ak fk ad fd sn o1 o1n o2 o2n cd p_ q_ c_ h0 n0) ({ frames := 3, cells := 2, slots := 5, locals := 100 } : Room).cells ({ frames := 3, cells := 2, slots := 5, locals := 100 } : Room).slots s₁ (mkF m 53 #[.val (.ref k), .val (.ref ak), .val (.ref ad), .val (.int sf), .val (.int o1), .val (.int o2), .val (.int cd), .val (.long p_), .second, .val (.long q_), .second, .val (.int kd), .unset] [(.int mv)]) by
        by_cases h4 : (cd &&& (4 : Int32)) = (0 : Int32)
        · skip
          refine own_st (T' := s₁) (g' := (mkF m 51 #[.val (.ref k), .val (.ref ak), .val (.ref ad), .val (.int sf), .val (.int o1), .val (.int o2), .val (.int cd), .val (.long p_), .second, .val (.long q_), .second, .val (.int kd), .unset] [])) (fun _ zq => XS.ifYes X.here hx rfl (pc0 := 43) (pc' := 51) rfl (hb hby own_d_m3_43) rfl ((if0 _ _).trans (teq h4).1) (by decide) (by decide) zq) ?_
          refine own_st (T' := s₁) (g' := (mkF m 53 #[.val (.ref k), .val (.ref ak), .val (.ref ad), .val (.int sf), .val (.int o1), .val (.int o2), .val (.int cd), .val (.long p_), .second, .val (.long q_), .second, .val (.int kd), .unset] [(.int o1)])) (fun _ zq => XS.iload X.here hx rfl (hb hby own_d_m3_51) rfl zq) ?_
          exact J53 _ _ ho1 hl1
        · skip
          refine own_st (T' := s₁) (g' := (mkF m 46 #[.val (.ref k), .val (.ref ak), .val (.ref ad), .val (.int sf), .val (.int o1), .val (.int o2), .val (.int cd), .val (.long p_), .second, .val (.long q_), .second, .val (.int kd), .unset] [])) (fun _ zq => XS.ifNo X.here hx rfl (hb hby own_d_m3_43) rfl ((if0 _ _).trans (feq h4).1) zq) ?_
          refine own_st (T' := s₁) (g' := (mkF m 48 #[.val (.ref k), .val (.ref ak), .val (.ref ad), .val (.int sf), .val (.int o1), .val (.int o2), .val (.int cd), .val (.long p_), .second, .val (.long q_), .second, .val (.int kd), .unset] [(.int o2)])) (fun _ zq => XS.iload X.here hx rfl (hb hby own_d_m3_46) rfl zq) ?_
          refine own_st (T' := s₁) (g' := (mkF m 53 #[.val (.ref k), .val (.ref ak), .val (.ref ad), .val (.int sf), .val (.int o1), .val (.int o2), .val (.int cd), .val (.long p_), .second, .val (.long q_), .second, .val (.int kd), .unset] [(.int o2)])) (fun _ zq => XS.goto X.here hx rfl (pc0 := 48) (pc' := 53) rfl (hb hby own_d_m3_48) (by decide) (by decide) zq) ?_
          exact J53 _ _ ho2 hl2
      intro mv mvn hmv hlv
      obtain ⟨E_k, F_self, F_known, F_rose, F_told, F_rises, V_K, V_R, V_T, E_aK⟩ := BB
      refine own_st (T' := s₁) (g' := (mkF m 55 #[.val (.ref k), .val (.ref ak), .val (.ref ad), .val (.int sf), .val (.int o1), .val (.int o2), .val (.int cd), .val (.long p_), .second, .val (.long q_), .second, .val (.int kd), .val (.int mv)] [])) (fun _ zq => XS.istore X.here hx rfl (hb hby own_d_m3_53) rfl (l' := #[.val (.ref k), .val (.ref ak), .val (.ref ad), .val (.int sf), .val (.int o1), .val (.int o2), .val (.int cd), .val (.long p_), .second, .val (.long q_), .second, .val (.int kd), .val (.int mv)]) rfl zq) ?_
      refine own_st (T' := s₁) (g' := (mkF m 56 #[.val (.ref k), .val (.ref ak), .val (.ref ad), .val (.int sf), .val (.int o1), .val (.int o2), .val (.int cd), .val (.long p_), .second, .val (.long q_), .second, .val (.int kd), .val (.int mv)] [(.ref k)])) (fun _ zq => XS.aloadN X.here hx rfl (hb hby own_d_m3_55) rfl rfl zq) ?_
      refine own_st (T' := s₁) (g' := (mkF m 57 #[.val (.ref k), .val (.ref ak), .val (.ref ad), .val (.int sf), .val (.int o1), .val (.int o2), .val (.int cd), .val (.long p_), .second, .val (.long q_), .second, .val (.int kd), .val (.int mv)] [(.int (2 : Int32)), (.ref k)])) (fun _ zq => XS.iconst X.here hx rfl (hb hby own_d_m3_56) zq) ?_
      obtain ⟨T81, h81, k81, X81, e81, E81, A81, st81⟩ := newP X hx hZ (hw _ (List.mem_of_getElem? (i := 12) rfl)) eT (g := (mkF m 57 #[.val (.ref k), .val (.ref ak), .val (.ref ad), .val (.int sf), .val (.int o1), .val (.int o2), .val (.int cd), .val (.long p_), .second, .val (.long q_), .second, .val (.int kd), .val (.int mv)] [(.int (2 : Int32)), (.ref k)])) rfl (hb hby own_d_m3_57) rfl (by decide) (cap := 2) (by decide) (by decide) (by decide) (by decide)
      obtain ⟨b81, ga81⟩ : ∃ z, z = h0.size := ⟨_, rfl⟩
      rw [← ga81] at A81 st81
      have g_b81 : n0 ≤ b81 := Nat.le_trans Zs (Nat.le_of_eq ga81.symm)
      have sz_b81 : h0.size ≤ b81 := Nat.le_trans K0.1 (Nat.le_of_eq ga81.symm)
      have ne_ak_b81 : ak ≠ b81 := fun q => Nat.lt_irrefl _ (Nat.lt_of_lt_of_eq V_k.lt (ga81.symm.trans q.symm))
      have ne_ad_b81 : ad ≠ b81 := fun q => Nat.lt_irrefl _ (Nat.lt_of_lt_of_eq V_d.lt (ga81.symm.trans q.symm))
      have ne_k_b81 : k ≠ b81 := fun q => Nat.lt_irrefl _ (Nat.lt_of_lt_of_eq E_k.lt (ga81.symm.trans q.symm))
      have ne_aK_b81 : aK ≠ b81 := fun q => Nat.lt_irrefl _ (Nat.lt_of_lt_of_eq V_K.lt (ga81.symm.trans q.symm))
      have ne_aR_b81 : aR ≠ b81 := fun q => Nat.lt_irrefl _ (Nat.lt_of_lt_of_eq V_R.lt (ga81.symm.trans q.symm))
      have ne_aT_b81 : aT ≠ b81 := fun q => Nat.lt_irrefl _ (Nat.lt_of_lt_of_eq V_T.lt (ga81.symm.trans q.symm))
      replace V_k := V_k.ext E81
      replace V_d := V_d.ext E81
      replace E_k := E_k.ext E81
      replace F_self := F_self.ext E81
      replace F_known := F_known.ext E81
      replace F_rose := F_rose.ext E81
      replace F_told := F_told.ext E81
      replace F_rises := F_rises.ext E81
      replace V_K := V_K.ext E81
      replace V_R := V_R.ext E81
      replace V_T := V_T.ext E81
      replace E_aK := E_aK.ext E81
      replace Zs := Nat.le_trans Zs E81.1
      replace K0 := K0.ext E81
      have V_b81 : own_AV Z h81 b81 .long 2 (fun _ => .long (0 : Int64)) := own_AV.new A81 rfl
      refine own_st (g' := (mkF m 59 #[.val (.ref k), .val (.ref ak), .val (.ref ad), .val (.int sf), .val (.int o1), .val (.int o2), .val (.int cd), .val (.long p_), .second, .val (.long q_), .second, .val (.int kd), .val (.int mv)] [(.ref b81), (.ref k)])) st81 ?_
      refine own_st (T' := T81) (g' := (mkF m 60 #[.val (.ref k), .val (.ref ak), .val (.ref ad), .val (.int sf), .val (.int o1), .val (.int o2), .val (.int cd), .val (.long p_), .second, .val (.long q_), .second, .val (.int kd), .val (.int mv)] [(.ref b81), (.ref b81), (.ref k)])) (fun _ zq => XS.dup X81.here hx rfl (hb hby own_d_m3_59) rfl rfl zq) ?_
      refine own_st (T' := T81) (g' := (mkF m 61 #[.val (.ref k), .val (.ref ak), .val (.ref ad), .val (.int sf), .val (.int o1), .val (.int o2), .val (.int cd), .val (.long p_), .second, .val (.long q_), .second, .val (.int kd), .val (.int mv)] [(.int (0 : Int32)), (.ref b81), (.ref b81), (.ref k)])) (fun _ zq => XS.iconst X81.here hx rfl (hb hby own_d_m3_60) zq) ?_
      refine own_st (T' := T81) (g' := (mkF m 63 #[.val (.ref k), .val (.ref ak), .val (.ref ad), .val (.int sf), .val (.int o1), .val (.int o2), .val (.int cd), .val (.long p_), .second, .val (.long q_), .second, .val (.int kd), .val (.int mv)] [(.int mv), (.int (0 : Int32)), (.ref b81), (.ref b81), (.ref k)])) (fun _ zq => XS.iload X81.here hx rfl (hb hby own_d_m3_61) rfl zq) ?_
      refine own_st (T' := T81) (g' := (mkF m 64 #[.val (.ref k), .val (.ref ak), .val (.ref ad), .val (.int sf), .val (.int o1), .val (.int o2), .val (.int cd), .val (.long p_), .second, .val (.long q_), .second, .val (.int kd), .val (.int mv)] [(.long (mv.toInt64)), (.int (0 : Int32)), (.ref b81), (.ref b81), (.ref k)])) (fun _ zq => XS.i2l X81.here hx rfl (hb hby own_d_m3_63) rfl zq) ?_
      obtain ⟨T82, h82, X82, e82, W82, V82, st82⟩ := own_stJ X81 hx hZ e81 V_b81 (j := (0 : Int32)) (0) rfl (by decide) (g := (mkF m 64 #[.val (.ref k), .val (.ref ak), .val (.ref ad), .val (.int sf), .val (.int o1), .val (.int o2), .val (.int cd), .val (.long p_), .second, .val (.long q_), .second, .val (.int kd), .val (.int mv)] [(.long (mv.toInt64)), (.int (0 : Int32)), (.ref b81), (.ref b81), (.ref k)])) rfl rfl (hb hby own_d_m3_64)
      replace V_k := V_k.other W82 ne_ak_b81
      replace V_d := V_d.other W82 ne_ad_b81
      replace E_k := E_k.wr W82
      replace F_self := F_self.other W82 (Or.inl ne_k_b81)
      replace F_known := F_known.other W82 (Or.inl ne_k_b81)
      replace F_rose := F_rose.other W82 (Or.inl ne_k_b81)
      replace F_told := F_told.other W82 (Or.inl ne_k_b81)
      replace F_rises := F_rises.other W82 (Or.inl ne_k_b81)
      replace V_K := V_K.other W82 ne_aK_b81
      replace V_R := V_R.other W82 ne_aR_b81
      replace V_T := V_T.other W82 ne_aT_b81
      replace E_aK := E_aK.wr W82
      replace Zs := Nat.le_trans Zs (Keep.of_wr W82).1
      replace K0 := K0.wr W82 (Or.inr sz_b81)
      replace V_b81 := V82
      replace N := Fr.snoc X82 N g_b81
      refine own_st (g' := (mkF m 65 #[.val (.ref k), .val (.ref ak), .val (.ref ad), .val (.int sf), .val (.int o1), .val (.int o2), .val (.int cd), .val (.long p_), .second, .val (.long q_), .second, .val (.int kd), .val (.int mv)] [(.ref b81), (.ref k)])) st82 ?_
      refine own_st (T' := T82) (g' := (mkF m 66 #[.val (.ref k), .val (.ref ak), .val (.ref ad), .val (.int sf), .val (.int o1), .val (.int o2), .val (.int cd), .val (.long p_), .second, .val (.long q_), .second, .val (.int kd), .val (.int mv)] [(.ref b81), (.ref b81), (.ref k)])) (fun _ zq => XS.dup X82.here hx rfl (hb hby own_d_m3_65) rfl rfl zq) ?_
      refine own_st (T' := T82) (g' := (mkF m 67 #[.val (.ref k), .val (.ref ak), .val (.ref ad), .val (.int sf), .val (.int o1), .val (.int o2), .val (.int cd), .val (.long p_), .second, .val (.long q_), .second, .val (.int kd), .val (.int mv)] [(.int (1 : Int32)), (.ref b81), (.ref b81), (.ref k)])) (fun _ zq => XS.iconst X82.here hx rfl (hb hby own_d_m3_66) zq) ?_
      refine own_st (T' := T82) (g' := (mkF m 69 #[.val (.ref k), .val (.ref ak), .val (.ref ad), .val (.int sf), .val (.int o1), .val (.int o2), .val (.int cd), .val (.long p_), .second, .val (.long q_), .second, .val (.int kd), .val (.int mv)] [(.long p_), (.int (1 : Int32)), (.ref b81), (.ref b81), (.ref k)])) (fun _ zq => XS.lload X82.here hx rfl (hb hby own_d_m3_67) rfl zq) ?_
      obtain ⟨T83, h83, X83, e83, W83, V83, st83⟩ := own_stJ X82 hx hZ e82 V_b81 (j := (1 : Int32)) (1) rfl (by decide) (g := (mkF m 69 #[.val (.ref k), .val (.ref ak), .val (.ref ad), .val (.int sf), .val (.int o1), .val (.int o2), .val (.int cd), .val (.long p_), .second, .val (.long q_), .second, .val (.int kd), .val (.int mv)] [(.long p_), (.int (1 : Int32)), (.ref b81), (.ref b81), (.ref k)])) rfl rfl (hb hby own_d_m3_69)
      replace V_k := V_k.other W83 ne_ak_b81
      replace V_d := V_d.other W83 ne_ad_b81
      replace E_k := E_k.wr W83
      replace F_self := F_self.other W83 (Or.inl ne_k_b81)
      replace F_known := F_known.other W83 (Or.inl ne_k_b81)
      replace F_rose := F_rose.other W83 (Or.inl ne_k_b81)
      replace F_told := F_told.other W83 (Or.inl ne_k_b81)
      replace F_rises := F_rises.other W83 (Or.inl ne_k_b81)
      replace V_K := V_K.other W83 ne_aK_b81
      replace V_R := V_R.other W83 ne_aR_b81
      replace V_T := V_T.other W83 ne_aT_b81
      replace E_aK := E_aK.wr W83
      replace Zs := Nat.le_trans Zs (Keep.of_wr W83).1
      replace K0 := K0.wr W83 (Or.inr sz_b81)
      replace V_b81 := V83
      replace N := Fr.snoc X83 N g_b81
      refine own_st (g' := (mkF m 70 #[.val (.ref k), .val (.ref ak), .val (.ref ad), .val (.int sf), .val (.int o1), .val (.int o2), .val (.int cd), .val (.long p_), .second, .val (.long q_), .second, .val (.int kd), .val (.int mv)] [(.ref b81), (.ref k)])) st83 ?_
      have BB : own_KR Z h83 k aK aR aT sf K Rr Tt rs := ⟨E_k, F_self, F_known, F_rose, F_told, F_rises, V_K, V_R, V_T, E_aK⟩
      obtain ⟨cq84, kq84, q84a, q84b, q84c⟩ := isOf hZ e83 BB.1
      obtain ⟨_, _, ⟨T84, L84, k84, n84⟩, -, X84, ⟨Lc84, hQ84, l84, y84, z84⟩, st84⟩ := X83.virtualBack hx (y := (⟨"com/example/coterie/coterie/runtime/KnownRequests", "learn", "([J)V"⟩ : MethodName)) (z := (⟨"com/example/coterie/coterie/runtime/KnownRequests", "learn", "([J)V"⟩ : MethodName)) hown (mvT hZ (hw _ (List.mem_of_getElem? (i := 24) rfl))) (mvT hZ (hw _ (List.mem_of_getElem? (i := 25) rfl))) (notFace_of_selects (args := #[]) (mvT hZ (hw _ (List.mem_of_getElem? (i := 27) rfl)))) (mvT hZ (hw _ (List.mem_of_getElem? (i := 27) rfl))) (mvT hZ (hw _ (List.mem_of_getElem? (i := 26) rfl))) (by decide) (backOf (W := 0) (rm_learn2 l Z a0 hw [] k aK aR aT sf K Rr Tt rs b81 (fun i => if i = 1 then (.long p_) else (fun i => if i = 0 then (.long (mv.toInt64)) else (fun _ => .long (0 : Int64)) i) i) mv mvn p_ h83 n0 Zs BB V_b81 hmv hlv.1 rfl rfl n1 n2 n3 n4 n5 n6 g_k g_aK g_aR g_aT ne_k_b81.symm ne_aK_b81.symm ne_aR_b81.symm ne_aT_b81.symm) hZ (hw _ (List.mem_of_getElem? (i := 28) rfl)) (hw _ (List.mem_of_getElem? (i := 3) rfl)) (by decide) (by decide)) q84a q84c (g := (mkF m 70 #[.val (.ref k), .val (.ref ak), .val (.ref ad), .val (.int sf), .val (.int o1), .val (.int o2), .val (.int cd), .val (.long p_), .second, .val (.long q_), .second, .val (.int kd), .val (.int mv)] [(.ref b81), (.ref k)])) rfl (by rw [hml]; rfl) (Steps.refl _) (argsL := [(.ref b81)]) (rest := []) (lenOf own_pd5 rfl) rfl (by show 2 * 0 + _ ≤ _; exact Nat.le_of_eq rfl) (hb hby own_d_m3_70) (fun _ _ => ⟨rfl, e83, (by decide : 1 + 0 ≤ _), (by decide : 2 + 0 ≤ _)⟩)
      dsimp only [Pt.U, Pt.locs, Pt.cells, Pt.slots] at X84 l84 y84 z84 st84 hQ84
      subst l84 y84 z84
      obtain ⟨rfl, Nq84, Kq84, BB⟩ := hQ84
      replace N := Fr.app N Nq84
      replace V_k := V_k.keep Kq84 (ninS x1.symm (ninS x2.symm (ninS x3.symm (ninS x4.symm nin0))))
      replace V_d := V_d.keep Kq84 (ninS x5.symm (ninS x6.symm (ninS x7.symm (ninS x8.symm nin0))))
      replace V_b81 := V_b81.keep Kq84 (ninS ne_k_b81.symm (ninS ne_aK_b81.symm (ninS ne_aR_b81.symm (ninS ne_aT_b81.symm nin0))))
      replace Zs := Nat.le_trans Zs Kq84.1
      replace K0 := K0.trans Kq84 (allS (Or.inl (List.mem_of_getElem? (i := 0) rfl)) (allS (Or.inl (List.mem_of_getElem? (i := 1) rfl)) (allS (Or.inl (List.mem_of_getElem? (i := 2) rfl)) (allS (Or.inl (List.mem_of_getElem? (i := 3) rfl)) all0))))
      refine own_tr (g' := (mkF m 73 #[.val (.ref k), .val (.ref ak), .val (.ref ad), .val (.int sf), .val (.int o1), .val (.int o2), .val (.int cd), .val (.long p_), .second, .val (.long q_), .second, .val (.int kd), .val (.int mv)] [])) st84 ?_
      refine own_st (T' := T84) (g' := (mkF m 74 #[.val (.ref k), .val (.ref ak), .val (.ref ad), .val (.int sf), .val (.int o1), .val (.int o2), .val (.int cd), .val (.long p_), .second, .val (.long q_), .second, .val (.int kd), .val (.int mv)] [(.ref ak)])) (fun _ zq => XS.aloadN X84.here hx rfl (hb hby own_d_m3_73) rfl rfl zq) ?_
      refine own_st (T' := T84) (g' := (mkF m 75 #[.val (.ref k), .val (.ref ak), .val (.ref ad), .val (.int sf), .val (.int o1), .val (.int o2), .val (.int cd), .val (.long p_), .second, .val (.long q_), .second, .val (.int kd), .val (.int mv)] [(.ref ad), (.ref ak)])) (fun _ zq => XS.aloadN X84.here hx rfl (hb hby own_d_m3_74) rfl rfl zq) ?_
      refine own_st (T' := T84) (g' := (mkF m 77 #[.val (.ref k), .val (.ref ak), .val (.ref ad), .val (.int sf), .val (.int o1), .val (.int o2), .val (.int cd), .val (.long p_), .second, .val (.long q_), .second, .val (.int kd), .val (.int mv)] [(.int mv), (.ref ad), (.ref ak)])) (fun _ zq => XS.iload X84.here hx rfl (hb hby own_d_m3_75) rfl zq) ?_
      refine own_st (T' := T84) (g' := (mkF m 79 #[.val (.ref k), .val (.ref ak), .val (.ref ad), .val (.int sf), .val (.int o1), .val (.int o2), .val (.int cd), .val (.long p_), .second, .val (.long q_), .second, .val (.int kd), .val (.int mv)] [(.long p_), (.int mv), (.ref ad), (.ref ak)])) (fun _ zq => XS.lload X84.here hx rfl (hb hby own_d_m3_77) rfl zq) ?_
      obtain ⟨E_k, F_self, F_known, F_rose, F_told, F_rises, V_K, V_R, V_T, E_aK⟩ := BB
      obtain ⟨_, _, ⟨T85, L85, k85, n85⟩, -, X85, ⟨Lc85, hQ85, l85, y85, z85⟩, st85⟩ := Jvm.LawKit.callS X84 hx (y := (⟨"com/example/coterie/coterie/runtime/KnownRequestsNewsPinLaw", "learnt", "([J[ZIJ)V"⟩ : MethodName)) hown (mvT hZ (hw _ (List.mem_of_getElem? (i := 35) rfl))) (mvT hZ (hw _ (List.mem_of_getElem? (i := 36) rfl))) (mvT hZ (hw _ (List.mem_of_getElem? (i := 22) rfl))) (mvT hZ (hw _ (List.mem_of_getElem? (i := 37) rfl))) (by decide) (backOf (W := 0) (rm_learnt l Z a0 hw [] ak fk ad fd mv mvn p_ T84.heap n0 Zs V_k V_d hmv hlv.1 x9 g_ak g_ad) hZ (hw _ (List.mem_of_getElem? (i := 37) rfl)) (hw _ (List.mem_of_getElem? (i := 22) rfl)) (by decide) (by decide)) (g := (mkF m 79 #[.val (.ref k), .val (.ref ak), .val (.ref ad), .val (.int sf), .val (.int o1), .val (.int o2), .val (.int cd), .val (.long p_), .second, .val (.long q_), .second, .val (.int kd), .val (.int mv)] [(.long p_), (.int mv), (.ref ad), (.ref ak)])) rfl (by rw [hml]; rfl) (argsL := [(.ref ak), (.ref ad), (.int mv), (.long p_)]) (rest := []) (lenOf own_pd6 rfl) rfl (by show 2 * 0 + _ ≤ _; exact Nat.le_of_eq rfl) (hb hby own_d_m3_79) (fun _ _ => ⟨rfl, rfl, (by decide : 1 + 0 ≤ _), (by decide : 2 + 0 ≤ _)⟩)
      dsimp only [Pt.U, Pt.locs, Pt.cells, Pt.slots] at X85 l85 y85 z85 st85 hQ85
      subst l85 y85 z85
      obtain ⟨rfl, Nq85, Kq85, V_k, V_d⟩ := hQ85
      replace N := Fr.app N Nq85
      replace E_k := E_k.keep Kq85
      replace F_self := F_self.keep Kq85 (ninS x1 (ninS x5 nin0))
      replace F_known := F_known.keep Kq85 (ninS x1 (ninS x5 nin0))
      replace F_rose := F_rose.keep Kq85 (ninS x1 (ninS x5 nin0))
      replace F_told := F_told.keep Kq85 (ninS x1 (ninS x5 nin0))
      replace F_rises := F_rises.keep Kq85 (ninS x1 (ninS x5 nin0))
      replace V_K := V_K.keep Kq85 (ninS x2 (ninS x6 nin0))
      replace V_R := V_R.keep Kq85 (ninS x3 (ninS x7 nin0))
      replace V_T := V_T.keep Kq85 (ninS x4 (ninS x8 nin0))
      replace E_aK := E_aK.keep Kq85
      replace Zs := Nat.le_trans Zs Kq85.1
      replace K0 := K0.trans Kq85 (allS (Or.inl (List.mem_of_getElem? (i := 4) rfl)) (allS (Or.inl (List.mem_of_getElem? (i := 5) rfl)) all0))
      refine own_st (g' := (mkF m 82 #[.val (.ref k), .val (.ref ak), .val (.ref ad), .val (.int sf), .val (.int o1), .val (.int o2), .val (.int cd), .val (.long p_), .second, .val (.long q_), .second, .val (.int kd), .val (.int mv)] [])) st85 ?_
      refine own_st (T' := T85) (g' := (mkF m 138 #[.val (.ref k), .val (.ref ak), .val (.ref ad), .val (.int sf), .val (.int o1), .val (.int o2), .val (.int cd), .val (.long p_), .second, .val (.long q_), .second, .val (.int kd), .val (.int mv)] [])) (fun _ zq => XS.goto X85.here hx rfl (pc0 := 82) (pc' := 138) rfl (hb hby own_d_m3_82) (by decide) (by decide) zq) ?_
      exact own_ret0 X85 hx hret hlk (hb hby own_d_m3_138) rfl (Nat.le_of_ble_eq_true rfl) (Nat.le_of_ble_eq_true rfl) ⟨_, _, _, _, _, rfl, N, K0, ⟨E_k, F_self, F_known, F_rose, F_told, F_rises, V_K, V_R, V_T, E_aK⟩, V_k, V_d, own_mono (own_ivl hI (by omega) hlv.1 hlv.2) (by omega)⟩
    · skip
      refine own_st (T' := s₁) (g' := (mkF m 85 #[.val (.ref k), .val (.ref ak), .val (.ref ad), .val (.int sf), .val (.int o1), .val (.int o2), .val (.int cd), .val (.long p_), .second, .val (.long q_), .second, .val (.int kd), .unset] [])) (fun _ zq => XS.icmpYes X.here hx rfl (pc0 := 36) (pc' := 85) rfl (hb hby own_d_m3_36) rfl (feq h2).2 (by decide) (by decide) zq) ?_
      refine own_st (T' := s₁) (g' := (mkF m 87 #[.val (.ref k), .val (.ref ak), .val (.ref ad), .val (.int sf), .val (.int o1), .val (.int o2), .val (.int cd), .val (.long p_), .second, .val (.long q_), .second, .val (.int kd), .unset] [(.int kd)])) (fun _ zq => XS.iload X.here hx rfl (hb hby own_d_m3_85) rfl zq) ?_
      refine own_st (T' := s₁) (g' := (mkF m 88 #[.val (.ref k), .val (.ref ak), .val (.ref ad), .val (.int sf), .val (.int o1), .val (.int o2), .val (.int cd), .val (.long p_), .second, .val (.long q_), .second, .val (.int kd), .unset] [(.int (3 : Int32)), (.int kd)])) (fun _ zq => XS.iconst X.here hx rfl (hb hby own_d_m3_87) zq) ?_
      by_cases h3 : kd = (3 : Int32)
      · skip
        refine own_st (T' := s₁) (g' := (mkF m 91 #[.val (.ref k), .val (.ref ak), .val (.ref ad), .val (.int sf), .val (.int o1), .val (.int o2), .val (.int cd), .val (.long p_), .second, .val (.long q_), .second, .val (.int kd), .unset] [])) (fun _ zq => XS.icmpNo X.here hx rfl (hb hby own_d_m3_88) rfl (teq h3).2 zq) ?_
        obtain ⟨E_k, F_self, F_known, F_rose, F_told, F_rises, V_K, V_R, V_T, E_aK⟩ := BB
        refine own_st (T' := s₁) (g' := (mkF m 92 #[.val (.ref k), .val (.ref ak), .val (.ref ad), .val (.int sf), .val (.int o1), .val (.int o2), .val (.int cd), .val (.long p_), .second, .val (.long q_), .second, .val (.int kd), .unset] [(.ref k)])) (fun _ zq => XS.aloadN X.here hx rfl (hb hby own_d_m3_91) rfl rfl zq) ?_
        refine own_st (T' := s₁) (g' := (mkF m 93 #[.val (.ref k), .val (.ref ak), .val (.ref ad), .val (.int sf), .val (.int o1), .val (.int o2), .val (.int cd), .val (.long p_), .second, .val (.long q_), .second, .val (.int kd), .unset] [(.int (4 : Int32)), (.ref k)])) (fun _ zq => XS.iconst X.here hx rfl (hb hby own_d_m3_92) zq) ?_
        obtain ⟨T86, h86, k86, X86, e86, E86, A86, st86⟩ := newP X hx hZ (hw _ (List.mem_of_getElem? (i := 12) rfl)) eT (g := (mkF m 93 #[.val (.ref k), .val (.ref ak), .val (.ref ad), .val (.int sf), .val (.int o1), .val (.int o2), .val (.int cd), .val (.long p_), .second, .val (.long q_), .second, .val (.int kd), .unset] [(.int (4 : Int32)), (.ref k)])) rfl (hb hby own_d_m3_93) rfl (by decide) (cap := 4) (by decide) (by decide) (by decide) (by decide)
        obtain ⟨b86, ga86⟩ : ∃ z, z = h0.size := ⟨_, rfl⟩
        rw [← ga86] at A86 st86
        have g_b86 : n0 ≤ b86 := Nat.le_trans Zs (Nat.le_of_eq ga86.symm)
        have sz_b86 : h0.size ≤ b86 := Nat.le_trans K0.1 (Nat.le_of_eq ga86.symm)
        have ne_ak_b86 : ak ≠ b86 := fun q => Nat.lt_irrefl _ (Nat.lt_of_lt_of_eq V_k.lt (ga86.symm.trans q.symm))
        have ne_ad_b86 : ad ≠ b86 := fun q => Nat.lt_irrefl _ (Nat.lt_of_lt_of_eq V_d.lt (ga86.symm.trans q.symm))
        have ne_k_b86 : k ≠ b86 := fun q => Nat.lt_irrefl _ (Nat.lt_of_lt_of_eq E_k.lt (ga86.symm.trans q.symm))
        have ne_aK_b86 : aK ≠ b86 := fun q => Nat.lt_irrefl _ (Nat.lt_of_lt_of_eq V_K.lt (ga86.symm.trans q.symm))
        have ne_aR_b86 : aR ≠ b86 := fun q => Nat.lt_irrefl _ (Nat.lt_of_lt_of_eq V_R.lt (ga86.symm.trans q.symm))
        have ne_aT_b86 : aT ≠ b86 := fun q => Nat.lt_irrefl _ (Nat.lt_of_lt_of_eq V_T.lt (ga86.symm.trans q.symm))
        replace V_k := V_k.ext E86
        replace V_d := V_d.ext E86
        replace E_k := E_k.ext E86
        replace F_self := F_self.ext E86
        replace F_known := F_known.ext E86
        replace F_rose := F_rose.ext E86
        replace F_told := F_told.ext E86
        replace F_rises := F_rises.ext E86
        replace V_K := V_K.ext E86
        replace V_R := V_R.ext E86
        replace V_T := V_T.ext E86
        replace E_aK := E_aK.ext E86
        replace Zs := Nat.le_trans Zs E86.1
        replace K0 := K0.ext E86
        have V_b86 : own_AV Z h86 b86 .long 4 (fun _ => .long (0 : Int64)) := own_AV.new A86 rfl
        refine own_st (g' := (mkF m 95 #[.val (.ref k), .val (.ref ak), .val (.ref ad), .val (.int sf), .val (.int o1), .val (.int o2), .val (.int cd), .val (.long p_), .second, .val (.long q_), .second, .val (.int kd), .unset] [(.ref b86), (.ref k)])) st86 ?_
        refine own_st (T' := T86) (g' := (mkF m 96 #[.val (.ref k), .val (.ref ak), .val (.ref ad), .val (.int sf), .val (.int o1), .val (.int o2), .val (.int cd), .val (.long p_), .second, .val (.long q_), .second, .val (.int kd), .unset] [(.ref b86), (.ref b86), (.ref k)])) (fun _ zq => XS.dup X86.here hx rfl (hb hby own_d_m3_95) rfl rfl zq) ?_
        refine own_st (T' := T86) (g' := (mkF m 97 #[.val (.ref k), .val (.ref ak), .val (.ref ad), .val (.int sf), .val (.int o1), .val (.int o2), .val (.int cd), .val (.long p_), .second, .val (.long q_), .second, .val (.int kd), .unset] [(.int (0 : Int32)), (.ref b86), (.ref b86), (.ref k)])) (fun _ zq => XS.iconst X86.here hx rfl (hb hby own_d_m3_96) zq) ?_
        refine own_st (T' := T86) (g' := (mkF m 99 #[.val (.ref k), .val (.ref ak), .val (.ref ad), .val (.int sf), .val (.int o1), .val (.int o2), .val (.int cd), .val (.long p_), .second, .val (.long q_), .second, .val (.int kd), .unset] [(.int o1), (.int (0 : Int32)), (.ref b86), (.ref b86), (.ref k)])) (fun _ zq => XS.iload X86.here hx rfl (hb hby own_d_m3_97) rfl zq) ?_
        refine own_st (T' := T86) (g' := (mkF m 100 #[.val (.ref k), .val (.ref ak), .val (.ref ad), .val (.int sf), .val (.int o1), .val (.int o2), .val (.int cd), .val (.long p_), .second, .val (.long q_), .second, .val (.int kd), .unset] [(.long (o1.toInt64)), (.int (0 : Int32)), (.ref b86), (.ref b86), (.ref k)])) (fun _ zq => XS.i2l X86.here hx rfl (hb hby own_d_m3_99) rfl zq) ?_
        obtain ⟨T87, h87, X87, e87, W87, V87, st87⟩ := own_stJ X86 hx hZ e86 V_b86 (j := (0 : Int32)) (0) rfl (by decide) (g := (mkF m 100 #[.val (.ref k), .val (.ref ak), .val (.ref ad), .val (.int sf), .val (.int o1), .val (.int o2), .val (.int cd), .val (.long p_), .second, .val (.long q_), .second, .val (.int kd), .unset] [(.long (o1.toInt64)), (.int (0 : Int32)), (.ref b86), (.ref b86), (.ref k)])) rfl rfl (hb hby own_d_m3_100)
        replace V_k := V_k.other W87 ne_ak_b86
        replace V_d := V_d.other W87 ne_ad_b86
        replace E_k := E_k.wr W87
        replace F_self := F_self.other W87 (Or.inl ne_k_b86)
        replace F_known := F_known.other W87 (Or.inl ne_k_b86)
        replace F_rose := F_rose.other W87 (Or.inl ne_k_b86)
        replace F_told := F_told.other W87 (Or.inl ne_k_b86)
        replace F_rises := F_rises.other W87 (Or.inl ne_k_b86)
        replace V_K := V_K.other W87 ne_aK_b86
        replace V_R := V_R.other W87 ne_aR_b86
        replace V_T := V_T.other W87 ne_aT_b86
        replace E_aK := E_aK.wr W87
        replace Zs := Nat.le_trans Zs (Keep.of_wr W87).1
        replace K0 := K0.wr W87 (Or.inr sz_b86)
        replace V_b86 := V87
        replace N := Fr.snoc X87 N g_b86
        refine own_st (g' := (mkF m 101 #[.val (.ref k), .val (.ref ak), .val (.ref ad), .val (.int sf), .val (.int o1), .val (.int o2), .val (.int cd), .val (.long p_), .second, .val (.long q_), .second, .val (.int kd), .unset] [(.ref b86), (.ref k)])) st87 ?_
        refine own_st (T' := T87) (g' := (mkF m 102 #[.val (.ref k), .val (.ref ak), .val (.ref ad), .val (.int sf), .val (.int o1), .val (.int o2), .val (.int cd), .val (.long p_), .second, .val (.long q_), .second, .val (.int kd), .unset] [(.ref b86), (.ref b86), (.ref k)])) (fun _ zq => XS.dup X87.here hx rfl (hb hby own_d_m3_101) rfl rfl zq) ?_
        refine own_st (T' := T87) (g' := (mkF m 103 #[.val (.ref k), .val (.ref ak), .val (.ref ad), .val (.int sf), .val (.int o1), .val (.int o2), .val (.int cd), .val (.long p_), .second, .val (.long q_), .second, .val (.int kd), .unset] [(.int (1 : Int32)), (.ref b86), (.ref b86), (.ref k)])) (fun _ zq => XS.iconst X87.here hx rfl (hb hby own_d_m3_102) zq) ?_
        refine own_st (T' := T87) (g' := (mkF m 105 #[.val (.ref k), .val (.ref ak), .val (.ref ad), .val (.int sf), .val (.int o1), .val (.int o2), .val (.int cd), .val (.long p_), .second, .val (.long q_), .second, .val (.int kd), .unset] [(.long p_), (.int (1 : Int32)), (.ref b86), (.ref b86), (.ref k)])) (fun _ zq => XS.lload X87.here hx rfl (hb hby own_d_m3_103) rfl zq) ?_
        obtain ⟨T88, h88, X88, e88, W88, V88, st88⟩ := own_stJ X87 hx hZ e87 V_b86 (j := (1 : Int32)) (1) rfl (by decide) (g := (mkF m 105 #[.val (.ref k), .val (.ref ak), .val (.ref ad), .val (.int sf), .val (.int o1), .val (.int o2), .val (.int cd), .val (.long p_), .second, .val (.long q_), .second, .val (.int kd), .unset] [(.long p_), (.int (1 : Int32)), (.ref b86), (.ref b86), (.ref k)])) rfl rfl (hb hby own_d_m3_105)
        replace V_k := V_k.other W88 ne_ak_b86
        replace V_d := V_d.other W88 ne_ad_b86
        replace E_k := E_k.wr W88
        replace F_self := F_self.other W88 (Or.inl ne_k_b86)
        replace F_known := F_known.other W88 (Or.inl ne_k_b86)
        replace F_rose := F_rose.other W88 (Or.inl ne_k_b86)
        replace F_told := F_told.other W88 (Or.inl ne_k_b86)
        replace F_rises := F_rises.other W88 (Or.inl ne_k_b86)
        replace V_K := V_K.other W88 ne_aK_b86
        replace V_R := V_R.other W88 ne_aR_b86
        replace V_T := V_T.other W88 ne_aT_b86
        replace E_aK := E_aK.wr W88
        replace Zs := Nat.le_trans Zs (Keep.of_wr W88).1
        replace K0 := K0.wr W88 (Or.inr sz_b86)
        replace V_b86 := V88
        replace N := Fr.snoc X88 N g_b86
        refine own_st (g' := (mkF m 106 #[.val (.ref k), .val (.ref ak), .val (.ref ad), .val (.int sf), .val (.int o1), .val (.int o2), .val (.int cd), .val (.long p_), .second, .val (.long q_), .second, .val (.int kd), .unset] [(.ref b86), (.ref k)])) st88 ?_
        refine own_st (T' := T88) (g' := (mkF m 107 #[.val (.ref k), .val (.ref ak), .val (.ref ad), .val (.int sf), .val (.int o1), .val (.int o2), .val (.int cd), .val (.long p_), .second, .val (.long q_), .second, .val (.int kd), .unset] [(.ref b86), (.ref b86), (.ref k)])) (fun _ zq => XS.dup X88.here hx rfl (hb hby own_d_m3_106) rfl rfl zq) ?_
        refine own_st (T' := T88) (g' := (mkF m 108 #[.val (.ref k), .val (.ref ak), .val (.ref ad), .val (.int sf), .val (.int o1), .val (.int o2), .val (.int cd), .val (.long p_), .second, .val (.long q_), .second, .val (.int kd), .unset] [(.int (2 : Int32)), (.ref b86), (.ref b86), (.ref k)])) (fun _ zq => XS.iconst X88.here hx rfl (hb hby own_d_m3_107) zq) ?_
        refine own_st (T' := T88) (g' := (mkF m 110 #[.val (.ref k), .val (.ref ak), .val (.ref ad), .val (.int sf), .val (.int o1), .val (.int o2), .val (.int cd), .val (.long p_), .second, .val (.long q_), .second, .val (.int kd), .unset] [(.int o2), (.int (2 : Int32)), (.ref b86), (.ref b86), (.ref k)])) (fun _ zq => XS.iload X88.here hx rfl (hb hby own_d_m3_108) rfl zq) ?_
        refine own_st (T' := T88) (g' := (mkF m 111 #[.val (.ref k), .val (.ref ak), .val (.ref ad), .val (.int sf), .val (.int o1), .val (.int o2), .val (.int cd), .val (.long p_), .second, .val (.long q_), .second, .val (.int kd), .unset] [(.long (o2.toInt64)), (.int (2 : Int32)), (.ref b86), (.ref b86), (.ref k)])) (fun _ zq => XS.i2l X88.here hx rfl (hb hby own_d_m3_110) rfl zq) ?_
        obtain ⟨T89, h89, X89, e89, W89, V89, st89⟩ := own_stJ X88 hx hZ e88 V_b86 (j := (2 : Int32)) (2) rfl (by decide) (g := (mkF m 111 #[.val (.ref k), .val (.ref ak), .val (.ref ad), .val (.int sf), .val (.int o1), .val (.int o2), .val (.int cd), .val (.long p_), .second, .val (.long q_), .second, .val (.int kd), .unset] [(.long (o2.toInt64)), (.int (2 : Int32)), (.ref b86), (.ref b86), (.ref k)])) rfl rfl (hb hby own_d_m3_111)
        replace V_k := V_k.other W89 ne_ak_b86
        replace V_d := V_d.other W89 ne_ad_b86
        replace E_k := E_k.wr W89
        replace F_self := F_self.other W89 (Or.inl ne_k_b86)
        replace F_known := F_known.other W89 (Or.inl ne_k_b86)
        replace F_rose := F_rose.other W89 (Or.inl ne_k_b86)
        replace F_told := F_told.other W89 (Or.inl ne_k_b86)
        replace F_rises := F_rises.other W89 (Or.inl ne_k_b86)
        replace V_K := V_K.other W89 ne_aK_b86
        replace V_R := V_R.other W89 ne_aR_b86
        replace V_T := V_T.other W89 ne_aT_b86
        replace E_aK := E_aK.wr W89
        replace Zs := Nat.le_trans Zs (Keep.of_wr W89).1
        replace K0 := K0.wr W89 (Or.inr sz_b86)
        replace V_b86 := V89
        replace N := Fr.snoc X89 N g_b86
        refine own_st (g' := (mkF m 112 #[.val (.ref k), .val (.ref ak), .val (.ref ad), .val (.int sf), .val (.int o1), .val (.int o2), .val (.int cd), .val (.long p_), .second, .val (.long q_), .second, .val (.int kd), .unset] [(.ref b86), (.ref k)])) st89 ?_
        refine own_st (T' := T89) (g' := (mkF m 113 #[.val (.ref k), .val (.ref ak), .val (.ref ad), .val (.int sf), .val (.int o1), .val (.int o2), .val (.int cd), .val (.long p_), .second, .val (.long q_), .second, .val (.int kd), .unset] [(.ref b86), (.ref b86), (.ref k)])) (fun _ zq => XS.dup X89.here hx rfl (hb hby own_d_m3_112) rfl rfl zq) ?_
        refine own_st (T' := T89) (g' := (mkF m 114 #[.val (.ref k), .val (.ref ak), .val (.ref ad), .val (.int sf), .val (.int o1), .val (.int o2), .val (.int cd), .val (.long p_), .second, .val (.long q_), .second, .val (.int kd), .unset] [(.int (3 : Int32)), (.ref b86), (.ref b86), (.ref k)])) (fun _ zq => XS.iconst X89.here hx rfl (hb hby own_d_m3_113) zq) ?_
        refine own_st (T' := T89) (g' := (mkF m 116 #[.val (.ref k), .val (.ref ak), .val (.ref ad), .val (.int sf), .val (.int o1), .val (.int o2), .val (.int cd), .val (.long p_), .second, .val (.long q_), .second, .val (.int kd), .unset] [(.long q_), (.int (3 : Int32)), (.ref b86), (.ref b86), (.ref k)])) (fun _ zq => XS.lload X89.here hx rfl (hb hby own_d_m3_114) rfl zq) ?_
        obtain ⟨T90, h90, X90, e90, W90, V90, st90⟩ := own_stJ X89 hx hZ e89 V_b86 (j := (3 : Int32)) (3) rfl (by decide) (g := (mkF m 116 #[.val (.ref k), .val (.ref ak), .val (.ref ad), .val (.int sf), .val (.int o1), .val (.int o2), .val (.int cd), .val (.long p_), .second, .val (.long q_), .second, .val (.int kd), .unset] [(.long q_), (.int (3 : Int32)), (.ref b86), (.ref b86), (.ref k)])) rfl rfl (hb hby own_d_m3_116)
        replace V_k := V_k.other W90 ne_ak_b86
        replace V_d := V_d.other W90 ne_ad_b86
        replace E_k := E_k.wr W90
        replace F_self := F_self.other W90 (Or.inl ne_k_b86)
        replace F_known := F_known.other W90 (Or.inl ne_k_b86)
        replace F_rose := F_rose.other W90 (Or.inl ne_k_b86)
        replace F_told := F_told.other W90 (Or.inl ne_k_b86)
        replace F_rises := F_rises.other W90 (Or.inl ne_k_b86)
        replace V_K := V_K.other W90 ne_aK_b86
        replace V_R := V_R.other W90 ne_aR_b86
        replace V_T := V_T.other W90 ne_aT_b86
        replace E_aK := E_aK.wr W90
        replace Zs := Nat.le_trans Zs (Keep.of_wr W90).1
        replace K0 := K0.wr W90 (Or.inr sz_b86)
        replace V_b86 := V90
        replace N := Fr.snoc X90 N g_b86
        refine own_st (g' := (mkF m 117 #[.val (.ref k), .val (.ref ak), .val (.ref ad), .val (.int sf), .val (.int o1), .val (.int o2), .val (.int cd), .val (.long p_), .second, .val (.long q_), .second, .val (.int kd), .unset] [(.ref b86), (.ref k)])) st90 ?_
        have BB : own_KR Z h90 k aK aR aT sf K Rr Tt rs := ⟨E_k, F_self, F_known, F_rose, F_told, F_rises, V_K, V_R, V_T, E_aK⟩
        obtain ⟨cq91, kq91, q91a, q91b, q91c⟩ := isOf hZ e90 BB.1
        obtain ⟨_, _, ⟨T91, L91, k91, n91⟩, -, X91, ⟨Lc91, hQ91, l91, y91, z91⟩, st91⟩ := X90.virtualBack hx (y := (⟨"com/example/coterie/coterie/runtime/KnownRequests", "learn", "([J)V"⟩ : MethodName)) (z := (⟨"com/example/coterie/coterie/runtime/KnownRequests", "learn", "([J)V"⟩ : MethodName)) hown (mvT hZ (hw _ (List.mem_of_getElem? (i := 24) rfl))) (mvT hZ (hw _ (List.mem_of_getElem? (i := 25) rfl))) (notFace_of_selects (args := #[]) (mvT hZ (hw _ (List.mem_of_getElem? (i := 27) rfl)))) (mvT hZ (hw _ (List.mem_of_getElem? (i := 27) rfl))) (mvT hZ (hw _ (List.mem_of_getElem? (i := 26) rfl))) (by decide) (backOf (W := 0) (rm_learn4 l Z a0 hw [] k aK aR aT sf K Rr Tt rs b86 (fun i => if i = 3 then (.long q_) else (fun i => if i = 2 then (.long (o2.toInt64)) else (fun i => if i = 1 then (.long p_) else (fun i => if i = 0 then (.long (o1.toInt64)) else (fun _ => .long (0 : Int64)) i) i) i) i) o1 o2 o1n o2n p_ q_ h90 n0 Zs BB V_b86 ho1 hl1.1 rfl rfl ho2 hl2.1 rfl rfl n1 n2 n3 n4 n5 n6 g_k g_aK g_aR g_aT ne_k_b86.symm ne_aK_b86.symm ne_aR_b86.symm ne_aT_b86.symm) hZ (hw _ (List.mem_of_getElem? (i := 28) rfl)) (hw _ (List.mem_of_getElem? (i := 3) rfl)) (by decide) (by decide)) q91a q91c (g := (mkF m 117 #[.val (.ref k), .val (.ref ak), .val (.ref ad), .val (.int sf), .val (.int o1), .val (.int o2), .val (.int cd), .val (.long p_), .second, .val (.long q_), .second, .val (.int kd), .unset] [(.ref b86), (.ref k)])) rfl (by rw [hml]; rfl) (Steps.refl _) (argsL := [(.ref b86)]) (rest := []) (lenOf own_pd5 rfl) rfl (by show 2 * 0 + _ ≤ _; exact Nat.le_of_eq rfl) (hb hby own_d_m3_117) (fun _ _ => ⟨rfl, e90, (by decide : 1 + 0 ≤ _), (by decide : 4 + 0 ≤ _)⟩)
        dsimp only [Pt.U, Pt.locs, Pt.cells, Pt.slots] at X91 l91 y91 z91 st91 hQ91
        subst l91 y91 z91
        obtain ⟨rfl, Nq91, Kq91, BB⟩ := hQ91
        replace N := Fr.app N Nq91
        replace V_k := V_k.keep Kq91 (ninS x1.symm (ninS x2.symm (ninS x3.symm (ninS x4.symm nin0))))
        replace V_d := V_d.keep Kq91 (ninS x5.symm (ninS x6.symm (ninS x7.symm (ninS x8.symm nin0))))
        replace V_b86 := V_b86.keep Kq91 (ninS ne_k_b86.symm (ninS ne_aK_b86.symm (ninS ne_aR_b86.symm (ninS ne_aT_b86.symm nin0))))
        replace Zs := Nat.le_trans Zs Kq91.1
        replace K0 := K0.trans Kq91 (allS (Or.inl (List.mem_of_getElem? (i := 0) rfl)) (allS (Or.inl (List.mem_of_getElem? (i := 1) rfl)) (allS (Or.inl (List.mem_of_getElem? (i := 2) rfl)) (allS (Or.inl (List.mem_of_getElem? (i := 3) rfl)) all0))))
        refine own_tr (g' := (mkF m 120 #[.val (.ref k), .val (.ref ak), .val (.ref ad), .val (.int sf), .val (.int o1), .val (.int o2), .val (.int cd), .val (.long p_), .second, .val (.long q_), .second, .val (.int kd), .unset] [])) st91 ?_
        refine own_st (T' := T91) (g' := (mkF m 121 #[.val (.ref k), .val (.ref ak), .val (.ref ad), .val (.int sf), .val (.int o1), .val (.int o2), .val (.int cd), .val (.long p_), .second, .val (.long q_), .second, .val (.int kd), .unset] [(.ref ak)])) (fun _ zq => XS.aloadN X91.here hx rfl (hb hby own_d_m3_120) rfl rfl zq) ?_
        refine own_st (T' := T91) (g' := (mkF m 122 #[.val (.ref k), .val (.ref ak), .val (.ref ad), .val (.int sf), .val (.int o1), .val (.int o2), .val (.int cd), .val (.long p_), .second, .val (.long q_), .second, .val (.int kd), .unset] [(.ref ad), (.ref ak)])) (fun _ zq => XS.aloadN X91.here hx rfl (hb hby own_d_m3_121) rfl rfl zq) ?_
        refine own_st (T' := T91) (g' := (mkF m 124 #[.val (.ref k), .val (.ref ak), .val (.ref ad), .val (.int sf), .val (.int o1), .val (.int o2), .val (.int cd), .val (.long p_), .second, .val (.long q_), .second, .val (.int kd), .unset] [(.int o1), (.ref ad), (.ref ak)])) (fun _ zq => XS.iload X91.here hx rfl (hb hby own_d_m3_122) rfl zq) ?_
        refine own_st (T' := T91) (g' := (mkF m 126 #[.val (.ref k), .val (.ref ak), .val (.ref ad), .val (.int sf), .val (.int o1), .val (.int o2), .val (.int cd), .val (.long p_), .second, .val (.long q_), .second, .val (.int kd), .unset] [(.long p_), (.int o1), (.ref ad), (.ref ak)])) (fun _ zq => XS.lload X91.here hx rfl (hb hby own_d_m3_124) rfl zq) ?_
        obtain ⟨E_k, F_self, F_known, F_rose, F_told, F_rises, V_K, V_R, V_T, E_aK⟩ := BB
        obtain ⟨_, _, ⟨T92, L92, k92, n92⟩, -, X92, ⟨Lc92, hQ92, l92, y92, z92⟩, st92⟩ := Jvm.LawKit.callS X91 hx (y := (⟨"com/example/coterie/coterie/runtime/KnownRequestsNewsPinLaw", "learnt", "([J[ZIJ)V"⟩ : MethodName)) hown (mvT hZ (hw _ (List.mem_of_getElem? (i := 35) rfl))) (mvT hZ (hw _ (List.mem_of_getElem? (i := 36) rfl))) (mvT hZ (hw _ (List.mem_of_getElem? (i := 22) rfl))) (mvT hZ (hw _ (List.mem_of_getElem? (i := 37) rfl))) (by decide) (backOf (W := 0) (rm_learnt l Z a0 hw [] ak fk ad fd o1 o1n p_ T91.heap n0 Zs V_k V_d ho1 hl1.1 x9 g_ak g_ad) hZ (hw _ (List.mem_of_getElem? (i := 37) rfl)) (hw _ (List.mem_of_getElem? (i := 22) rfl)) (by decide) (by decide)) (g := (mkF m 126 #[.val (.ref k), .val (.ref ak), .val (.ref ad), .val (.int sf), .val (.int o1), .val (.int o2), .val (.int cd), .val (.long p_), .second, .val (.long q_), .second, .val (.int kd), .unset] [(.long p_), (.int o1), (.ref ad), (.ref ak)])) rfl (by rw [hml]; rfl) (argsL := [(.ref ak), (.ref ad), (.int o1), (.long p_)]) (rest := []) (lenOf own_pd6 rfl) rfl (by show 2 * 0 + _ ≤ _; exact Nat.le_of_eq rfl) (hb hby own_d_m3_126) (fun _ _ => ⟨rfl, rfl, (by decide : 1 + 0 ≤ _), (by decide : 4 + 0 ≤ _)⟩)
        dsimp only [Pt.U, Pt.locs, Pt.cells, Pt.slots] at X92 l92 y92 z92 st92 hQ92
        subst l92 y92 z92
        obtain ⟨rfl, Nq92, Kq92, V_k, V_d⟩ := hQ92
        replace N := Fr.app N Nq92
        replace E_k := E_k.keep Kq92
        replace F_self := F_self.keep Kq92 (ninS x1 (ninS x5 nin0))
        replace F_known := F_known.keep Kq92 (ninS x1 (ninS x5 nin0))
        replace F_rose := F_rose.keep Kq92 (ninS x1 (ninS x5 nin0))
        replace F_told := F_told.keep Kq92 (ninS x1 (ninS x5 nin0))
        replace F_rises := F_rises.keep Kq92 (ninS x1 (ninS x5 nin0))
        replace V_K := V_K.keep Kq92 (ninS x2 (ninS x6 nin0))
        replace V_R := V_R.keep Kq92 (ninS x3 (ninS x7 nin0))
        replace V_T := V_T.keep Kq92 (ninS x4 (ninS x8 nin0))
        replace E_aK := E_aK.keep Kq92
        replace Zs := Nat.le_trans Zs Kq92.1
        replace K0 := K0.trans Kq92 (allS (Or.inl (List.mem_of_getElem? (i := 4) rfl)) (allS (Or.inl (List.mem_of_getElem? (i := 5) rfl)) all0))
        refine own_st (g' := (mkF m 129 #[.val (.ref k), .val (.ref ak), .val (.ref ad), .val (.int sf), .val (.int o1), .val (.int o2), .val (.int cd), .val (.long p_), .second, .val (.long q_), .second, .val (.int kd), .unset] [])) st92 ?_
        refine own_st (T' := T92) (g' := (mkF m 130 #[.val (.ref k), .val (.ref ak), .val (.ref ad), .val (.int sf), .val (.int o1), .val (.int o2), .val (.int cd), .val (.long p_), .second, .val (.long q_), .second, .val (.int kd), .unset] [(.ref ak)])) (fun _ zq => XS.aloadN X92.here hx rfl (hb hby own_d_m3_129) rfl rfl zq) ?_
        refine own_st (T' := T92) (g' := (mkF m 131 #[.val (.ref k), .val (.ref ak), .val (.ref ad), .val (.int sf), .val (.int o1), .val (.int o2), .val (.int cd), .val (.long p_), .second, .val (.long q_), .second, .val (.int kd), .unset] [(.ref ad), (.ref ak)])) (fun _ zq => XS.aloadN X92.here hx rfl (hb hby own_d_m3_130) rfl rfl zq) ?_
        refine own_st (T' := T92) (g' := (mkF m 133 #[.val (.ref k), .val (.ref ak), .val (.ref ad), .val (.int sf), .val (.int o1), .val (.int o2), .val (.int cd), .val (.long p_), .second, .val (.long q_), .second, .val (.int kd), .unset] [(.int o2), (.ref ad), (.ref ak)])) (fun _ zq => XS.iload X92.here hx rfl (hb hby own_d_m3_131) rfl zq) ?_
        refine own_st (T' := T92) (g' := (mkF m 135 #[.val (.ref k), .val (.ref ak), .val (.ref ad), .val (.int sf), .val (.int o1), .val (.int o2), .val (.int cd), .val (.long p_), .second, .val (.long q_), .second, .val (.int kd), .unset] [(.long q_), (.int o2), (.ref ad), (.ref ak)])) (fun _ zq => XS.lload X92.here hx rfl (hb hby own_d_m3_133) rfl zq) ?_
        obtain ⟨_, _, ⟨T93, L93, k93, n93⟩, -, X93, ⟨Lc93, hQ93, l93, y93, z93⟩, st93⟩ := Jvm.LawKit.callS X92 hx (y := (⟨"com/example/coterie/coterie/runtime/KnownRequestsNewsPinLaw", "learnt", "([J[ZIJ)V"⟩ : MethodName)) hown (mvT hZ (hw _ (List.mem_of_getElem? (i := 35) rfl))) (mvT hZ (hw _ (List.mem_of_getElem? (i := 36) rfl))) (mvT hZ (hw _ (List.mem_of_getElem? (i := 22) rfl))) (mvT hZ (hw _ (List.mem_of_getElem? (i := 37) rfl))) (by decide) (backOf (W := 0) (rm_learnt l Z a0 hw [] ak (if fk o1n < p_ then own_upd fk o1n p_ else fk) ad (if fk o1n < p_ then own_mark fd o1n else fd) o2 o2n q_ T92.heap n0 Zs V_k V_d ho2 hl2.1 x9 g_ak g_ad) hZ (hw _ (List.mem_of_getElem? (i := 37) rfl)) (hw _ (List.mem_of_getElem? (i := 22) rfl)) (by decide) (by decide)) (g := (mkF m 135 #[.val (.ref k), .val (.ref ak), .val (.ref ad), .val (.int sf), .val (.int o1), .val (.int o2), .val (.int cd), .val (.long p_), .second, .val (.long q_), .second, .val (.int kd), .unset] [(.long q_), (.int o2), (.ref ad), (.ref ak)])) rfl (by rw [hml]; rfl) (argsL := [(.ref ak), (.ref ad), (.int o2), (.long q_)]) (rest := []) (lenOf own_pd6 rfl) rfl (by show 2 * 0 + _ ≤ _; exact Nat.le_of_eq rfl) (hb hby own_d_m3_135) (fun _ _ => ⟨rfl, rfl, (by decide : 1 + 0 ≤ _), (by decide : 4 + 0 ≤ _)⟩)
        dsimp only [Pt.U, Pt.locs, Pt.cells, Pt.slots] at X93 l93 y93 z93 st93 hQ93
        subst l93 y93 z93
        obtain ⟨rfl, Nq93, Kq93, V_k, V_d⟩ := hQ93
        replace N := Fr.app N Nq93
        replace E_k := E_k.keep Kq93
        replace F_self := F_self.keep Kq93 (ninS x1 (ninS x5 nin0))
        replace F_known := F_known.keep Kq93 (ninS x1 (ninS x5 nin0))
        replace F_rose := F_rose.keep Kq93 (ninS x1 (ninS x5 nin0))
        replace F_told := F_told.keep Kq93 (ninS x1 (ninS x5 nin0))
        replace F_rises := F_rises.keep Kq93 (ninS x1 (ninS x5 nin0))
        replace V_K := V_K.keep Kq93 (ninS x2 (ninS x6 nin0))
        replace V_R := V_R.keep Kq93 (ninS x3 (ninS x7 nin0))
        replace V_T := V_T.keep Kq93 (ninS x4 (ninS x8 nin0))
        replace E_aK := E_aK.keep Kq93
        replace Zs := Nat.le_trans Zs Kq93.1
        replace K0 := K0.trans Kq93 (allS (Or.inl (List.mem_of_getElem? (i := 4) rfl)) (allS (Or.inl (List.mem_of_getElem? (i := 5) rfl)) all0))
        refine own_st (g' := (mkF m 138 #[.val (.ref k), .val (.ref ak), .val (.ref ad), .val (.int sf), .val (.int o1), .val (.int o2), .val (.int cd), .val (.long p_), .second, .val (.long q_), .second, .val (.int kd), .unset] [])) st93 ?_
        exact own_ret0 X93 hx hret hlk (hb hby own_d_m3_138) rfl (Nat.le_of_ble_eq_true rfl) (Nat.le_of_ble_eq_true rfl) ⟨_, _, _, _, _, rfl, N, K0, ⟨E_k, F_self, F_known, F_rose, F_told, F_rises, V_K, V_R, V_T, E_aK⟩, V_k, V_d, own_mono (own_ivl (own_ivl hI (by omega) hl1.1 hl1.2) (by omega) hl2.1 hl2.2) (by omega)⟩
      · skip
        refine own_st (T' := s₁) (g' := (mkF m 138 #[.val (.ref k), .val (.ref ak), .val (.ref ad), .val (.int sf), .val (.int o1), .val (.int o2), .val (.int cd), .val (.long p_), .second, .val (.long q_), .second, .val (.int kd), .unset] [])) (fun _ zq => XS.icmpYes X.here hx rfl (pc0 := 88) (pc' := 138) rfl (hb hby own_d_m3_88) rfl (feq h3).2 (by decide) (by decide) zq) ?_
        exact own_ret0 X hx hret hlk (hb hby own_d_m3_138) eT (Nat.le_of_ble_eq_true rfl) (Nat.le_of_ble_eq_true rfl) ⟨_, _, _, _, _, rfl, N, K0, BB, V_k, V_d, own_mono hI (by omega)⟩
def Q_check (Z : State) (ag : Addr) (ak : Addr) (fk : Nat → Int64) (ad : Addr) (fd : Nat → Int32) (r_ : Int32) (rn : Nat) (h0 : Heap) (n0 : Nat) (v : Option Value) (h : Heap) (L : List Loc) : Prop := v = some (.int 1) ∧ Fr n0 L ∧ (Keep h0 h [ad]) ∧ (own_AV Z h ad .boolean 9 (fun i => .int ((own_clr fd rn) i)))
theorem ef_check (m : MethodId) (x0 : Addr) (x1 : Addr) (x2 : Addr) (x3 : Int32)  : entryFrame m #[(.ref x0), (.ref x1), (.ref x2), (.int x3)] 7 = mkF m 0 #[.val (.ref x0), .val (.ref x1), .val (.ref x2), .val (.int x3), .unset, .unset, .unset] [] := by first | (simp [entryFrame, mkF, argsToLocals, Value.category]; done) | rfl
set_option maxRecDepth 65536 in
set_option maxHeartbeats 40000000 in
theorem rm_check (l : Launch) (Z : State) (a0 : Array Value) (hw : ∀ d ∈ tables_1, d.before a0 Z = true) (ws : List Jvm.Cond) (ag : Addr) (ak : Addr) (fk : Nat → Int64) (ad : Addr) (fd : Nat → Int32) (r_ : Int32) (rn : Nat) (h0 : Heap) (n0 : Nat) (Zs : n0 ≤ h0.size) (V_g : own_AV Z h0 ag .long (own_L3 (own_f fd rn) fk).length (fun i => .long ((own_L3 (own_f fd rn) fk).getD i 0))) (V_k : own_AV Z h0 ak .long 3 (fun i => .long (fk i))) (V_d : own_AV Z h0 ad .boolean 9 (fun i => .int (fd i))) (hr : r_.toInt = (rn : Int)) (hlr : rn < 3) (q1 : ag ≠ ad) (q2 : ak ≠ ad) (g_ad : n0 ≤ ad) :
    MetFree l (⟨"com/example/coterie/coterie/runtime/KnownRequestsNewsPinLaw", "check", "([J[J[ZI)Z"⟩ : MethodName) (head1 (Jvm.Cond.code (⟨"com/example/coterie/coterie/runtime/KnownRequestsNewsPinLaw", "check", "([J[J[ZI)Z"⟩ : MethodName) method_6_code 7 (some .boolean) :: ws) ({ frames := 0, cells := 1, slots := 4, locals := 0 } : Room)) (fun a U => a = #[(.ref ag), (.ref ak), (.ref ad), (.int r_)] ∧ Z.Warmed39 U.vm ∧ U.heap = h0) (fun _ _ _ _ _ => True) (fun _ U o U' => ∃ v L, o = .returned v ∧ (Q_check Z ag ak fk ad fd r_ rn h0 n0) v U'.heap L ∧ FrameEnd U o U' L ({ frames := 0, cells := 1, slots := 4, locals := 0 } : Room).cells ({ frames := 0, cells := 1, slots := 4, locals := 0 } : Room).slots) := by
  refine MetFree.of_bodySF (plainFor_of_name own_pn2) hisR ?_
  intro p e s m args below meth c s₁ Bd hml0 hP hK
  obtain ⟨rfl, hZ, hh⟩ := hP
  have hx := Bd.exec
  have hby := Bd.bytes
  have hlk := BodyLoose.notSynchronized Bd
  have hret := Bd.returns
  have hml : c.maxLocals = 7 := hml0
  have hown : s.vm.findClass "com/example/coterie/coterie/runtime/KnownRequestsNewsPinLaw" = some m.cls := findClass_of_methodNamed Bd.named
  have hnm := (name_of_methodNamed Bd.named Bd.method).1
  have X : Stand p l e ({ frames := 0, cells := 1, slots := 4, locals := 0 } : Room) s m #[(.ref ag), (.ref ak), (.ref ad), (.int r_)] below meth c s₁ [] 0 0 := Stand.of_body Bd
  have eT : s₁.heap = h0 := by rw [← hh, Bd.state]; rfl
  have N := Fr.nil n0
  have K0 : Keep h0 h0 [ad] := Keep.refl _ _
  show own_Go p e below s (Q_check Z ag ak fk ad fd r_ rn h0 n0) ({ frames := 0, cells := 1, slots := 4, locals := 0 } : Room).cells ({ frames := 0, cells := 1, slots := 4, locals := 0 } : Room).slots s₁ (entryFrame m #[(.ref ag), (.ref ak), (.ref ad), (.int r_)] 7)
  rw [ef_check m ag ak ad r_]
  refine own_st (T' := s₁) (g' := (mkF m 1 #[.val (.ref ag), .val (.ref ak), .val (.ref ad), .val (.int r_), .unset, .unset, .unset] [(.int (4 : Int32))])) (fun _ zq => XS.iconst X.here hx rfl (hb hby own_d_m6_0) zq) ?_
  obtain ⟨T94, h94, k94, X94, e94, E94, A94, st94⟩ := newP X hx hZ (hw _ (List.mem_of_getElem? (i := 12) rfl)) eT (g := (mkF m 1 #[.val (.ref ag), .val (.ref ak), .val (.ref ad), .val (.int r_), .unset, .unset, .unset] [(.int (4 : Int32))])) rfl (hb hby own_d_m6_1) rfl (by decide) (cap := 4) (by decide) (by decide) (by decide) (by decide)
  obtain ⟨b94, ga94⟩ : ∃ z, z = h0.size := ⟨_, rfl⟩
  rw [← ga94] at A94 st94
  have g_b94 : n0 ≤ b94 := Nat.le_trans Zs (Nat.le_of_eq ga94.symm)
  have sz_b94 : h0.size ≤ b94 := Nat.le_trans K0.1 (Nat.le_of_eq ga94.symm)
  have ne_ag_b94 : ag ≠ b94 := fun q => Nat.lt_irrefl _ (Nat.lt_of_lt_of_eq V_g.lt (ga94.symm.trans q.symm))
  have ne_ak_b94 : ak ≠ b94 := fun q => Nat.lt_irrefl _ (Nat.lt_of_lt_of_eq V_k.lt (ga94.symm.trans q.symm))
  have ne_ad_b94 : ad ≠ b94 := fun q => Nat.lt_irrefl _ (Nat.lt_of_lt_of_eq V_d.lt (ga94.symm.trans q.symm))
  replace V_g := V_g.ext E94
  replace V_k := V_k.ext E94
  replace V_d := V_d.ext E94
  replace Zs := Nat.le_trans Zs E94.1
  replace K0 := K0.ext E94
  have V_b94 : own_AV Z h94 b94 .long 4 (fun _ => .long (0 : Int64)) := own_AV.new A94 rfl
  refine own_st (g' := (mkF m 3 #[.val (.ref ag), .val (.ref ak), .val (.ref ad), .val (.int r_), .unset, .unset, .unset] [(.ref b94)])) st94 ?_
  refine own_st (T' := T94) (g' := (mkF m 5 #[.val (.ref ag), .val (.ref ak), .val (.ref ad), .val (.int r_), .val (.ref b94), .unset, .unset] [])) (fun _ zq => XS.astore X94.here hx rfl (hb hby own_d_m6_3) rfl rfl (l' := #[.val (.ref ag), .val (.ref ak), .val (.ref ad), .val (.int r_), .val (.ref b94), .unset, .unset]) rfl zq) ?_
  refine own_st (T' := T94) (g' := (mkF m 6 #[.val (.ref ag), .val (.ref ak), .val (.ref ad), .val (.int r_), .val (.ref b94), .unset, .unset] [(.int (0 : Int32))])) (fun _ zq => XS.iconst X94.here hx rfl (hb hby own_d_m6_5) zq) ?_
  refine own_st (T' := T94) (g' := (mkF m 8 #[.val (.ref ag), .val (.ref ak), .val (.ref ad), .val (.int r_), .val (.ref b94), .val (.int (0 : Int32)), .unset] [])) (fun _ zq => XS.istore X94.here hx rfl (hb hby own_d_m6_6) rfl (l' := #[.val (.ref ag), .val (.ref ak), .val (.ref ad), .val (.int r_), .val (.ref b94), .val (.int (0 : Int32)), .unset]) rfl zq) ?_
  refine own_st (T' := T94) (g' := (mkF m 9 #[.val (.ref ag), .val (.ref ak), .val (.ref ad), .val (.int r_), .val (.ref b94), .val (.int (0 : Int32)), .unset] [(.int r_)])) (fun _ zq => XS.iloadN X94.here hx rfl (hb hby own_d_m6_8) rfl zq) ?_
  have hle4 : (own_L3 (own_f fd rn) fk).length ≤ 4 := own_el4 hlr
  have hf0 : ∀ j, j < ([] : List Int64).length → (fun _ => Value.long (0 : Int64)) j = .long (([] : List Int64).getD j 0) := fun j hj => absurd hj (Nat.not_lt_zero _)
  suffices J39 : ∀ (T95 : State) (lo95 : List Loc) (h95 : Heap) (X95 : Stand p l e ({ frames := 0, cells := 1, slots := 4, locals := 0 } : Room) s m #[(.ref ag), (.ref ak), (.ref ad), (.int r_)] below meth c T95 lo95 1 4) (e95 : T95.heap = h95) (N95 : Fr n0 lo95) (Z95 : n0 ≤ h95.size) (K95 : Keep h0 h95 [ad]) (t1 : Int32) (f1 : Nat → Value) (V_g : own_AV Z h95 ag .long (own_L3 (own_f fd rn) fk).length (fun i => .long ((own_L3 (own_f fd rn) fk).getD i 0))) (V_k : own_AV Z h95 ak .long 3 (fun i => .long (fk i))) (V_d : own_AV Z h95 ad .boolean 9 (fun i => .int (fd i))) (V_b94 : own_AV Z h95 b94 .long 4 f1) (hp1 : t1.toInt = (((own_L1 (own_f fd rn) fk).length : Nat) : Int)) (hf1 : ∀ j, j < (own_L1 (own_f fd rn) fk).length → f1 j = .long ((own_L1 (own_f fd rn) fk).getD j 0)), own_Go p e below s (Q_check Z ag ak fk ad fd r_ rn h0 n0) ({ frames := 0, cells := 1, slots := 4, locals := 0 } : Room).cells ({ frames := 0, cells := 1, slots := 4, locals := 0 } : Room).slots T95 (mkF m 39 #[.val (.ref ag), .val (.ref ak), .val (.ref ad), .val (.int r_), .val (.ref b94), .val (.int t1), .unset] []) by
    by_cases hc : r_ = (0 : Int32)
    · skip
      refine own_st (T' := T94) (g' := (mkF m 39 #[.val (.ref ag), .val (.ref ak), .val (.ref ad), .val (.int r_), .val (.ref b94), .val (.int (0 : Int32)), .unset] [])) (fun _ zq => XS.ifYes X94.here hx rfl (pc0 := 9) (pc' := 39) rfl (hb hby own_d_m6_9) rfl ((if0 _ _).trans (teq hc).1) (by decide) (by decide) zq) ?_
      have hwl : (own_L1 (own_f fd rn) fk) = ([] : List Int64) := own_v0 (p := own_f fd rn) (own_fe (by rw [hc] at hr; exact own_eqn (a := 0) rfl hr))
      exact J39 T94 _ h94 (X94.more (Nat.le_of_ble_eq_true rfl) (Nat.le_of_ble_eq_true rfl)) e94 N Zs K0 _ _ V_g V_k V_d V_b94 (by rw [hwl]; exact (rfl : ((0 : Int32)).toInt = ((([] : List Int64).length : Nat) : Int))) (by rw [hwl]; exact hf0)
    · skip
      refine own_st (T' := T94) (g' := (mkF m 12 #[.val (.ref ag), .val (.ref ak), .val (.ref ad), .val (.int r_), .val (.ref b94), .val (.int (0 : Int32)), .unset] [])) (fun _ zq => XS.ifNo X94.here hx rfl (hb hby own_d_m6_9) rfl ((if0 _ _).trans (feq hc).1) zq) ?_
      refine own_st (T' := T94) (g' := (mkF m 13 #[.val (.ref ag), .val (.ref ak), .val (.ref ad), .val (.int r_), .val (.ref b94), .val (.int (0 : Int32)), .unset] [(.ref ad)])) (fun _ zq => XS.aloadN X94.here hx rfl (hb hby own_d_m6_12) rfl rfl zq) ?_
      refine own_st (T' := T94) (g' := (mkF m 14 #[.val (.ref ag), .val (.ref ak), .val (.ref ad), .val (.int r_), .val (.ref b94), .val (.int (0 : Int32)), .unset] [(.int (3 : Int32)), (.ref ad)])) (fun _ zq => XS.iconst X94.here hx rfl (hb hby own_d_m6_13) zq) ?_
      refine own_st (T' := T94) (g' := (mkF m 15 #[.val (.ref ag), .val (.ref ak), .val (.ref ad), .val (.int r_), .val (.ref b94), .val (.int (0 : Int32)), .unset] [(.int r_), (.int (3 : Int32)), (.ref ad)])) (fun _ zq => XS.iloadN X94.here hx rfl (hb hby own_d_m6_14) rfl zq) ?_
      refine own_st (T' := T94) (g' := (mkF m 16 #[.val (.ref ag), .val (.ref ak), .val (.ref ad), .val (.int r_), .val (.ref b94), .val (.int (0 : Int32)), .unset] [(.int ((3 : Int32) * r_)), (.ref ad)])) (fun _ zq => XS.imul X94.here hx rfl (hb hby own_d_m6_15) rfl zq) ?_
      refine own_st (T' := T94) (g' := (mkF m 17 #[.val (.ref ag), .val (.ref ak), .val (.ref ad), .val (.int r_), .val (.ref b94), .val (.int (0 : Int32)), .unset] [(.int (fd (3 * rn)))])) (own_ldZ X94 hx hZ e94 V_d (j := ((3 : Int32) * r_)) (3 * rn) (own_q0 hr hlr) (by omega) (w := (.int (fd (3 * rn)))) rfl (g := (mkF m 16 #[.val (.ref ag), .val (.ref ak), .val (.ref ad), .val (.int r_), .val (.ref b94), .val (.int (0 : Int32)), .unset] [(.int ((3 : Int32) * r_)), (.ref ad)])) rfl rfl (hb hby own_d_m6_16)) ?_
      by_cases hd : (fd (3 * rn)) = (0 : Int32)
      · skip
        refine own_st (T' := T94) (g' := (mkF m 39 #[.val (.ref ag), .val (.ref ak), .val (.ref ad), .val (.int r_), .val (.ref b94), .val (.int (0 : Int32)), .unset] [])) (fun _ zq => XS.ifYes X94.here hx rfl (pc0 := 17) (pc' := 39) rfl (hb hby own_d_m6_17) rfl ((if0 _ _).trans (teq hd).1) (by decide) (by decide) zq) ?_
        have hwl : (own_L1 (own_f fd rn) fk) = ([] : List Int64) := own_v0 (p := own_f fd rn) (own_fz hd)
        exact J39 T94 _ h94 (X94.more (Nat.le_of_ble_eq_true rfl) (Nat.le_of_ble_eq_true rfl)) e94 N Zs K0 _ _ V_g V_k V_d V_b94 (by rw [hwl]; exact (rfl : ((0 : Int32)).toInt = ((([] : List Int64).length : Nat) : Int))) (by rw [hwl]; exact hf0)
      · skip
        refine own_st (T' := T94) (g' := (mkF m 20 #[.val (.ref ag), .val (.ref ak), .val (.ref ad), .val (.int r_), .val (.ref b94), .val (.int (0 : Int32)), .unset] [])) (fun _ zq => XS.ifNo X94.here hx rfl (hb hby own_d_m6_17) rfl ((if0 _ _).trans (feq hd).1) zq) ?_
        have hu : own_f fd rn 0 = true := decide_eq_true ⟨fun q => hc (own_eqi (a := 0) rfl hr q), hd⟩
        have hwl : (own_L1 (own_f fd rn) fk) = ([] : List Int64) ++ [0, fk 0] := own_w0 (p := own_f fd rn) hu
        have hll : ([] : List Int64).length + 2 ≤ (own_L3 (own_f fd rn) fk).length := own_b0 (p := own_f fd rn) hu
        refine own_st (T' := T94) (g' := (mkF m 22 #[.val (.ref ag), .val (.ref ak), .val (.ref ad), .val (.int r_), .val (.ref b94), .val (.int (0 : Int32)), .unset] [(.ref b94)])) (fun _ zq => XS.aload X94.here hx rfl (hb hby own_d_m6_20) rfl rfl zq) ?_
        refine own_st (T' := T94) (g' := (mkF m 24 #[.val (.ref ag), .val (.ref ak), .val (.ref ad), .val (.int r_), .val (.ref b94), .val (.int (0 : Int32)), .unset] [(.int (0 : Int32)), (.ref b94)])) (fun _ zq => XS.iload X94.here hx rfl (hb hby own_d_m6_22) rfl zq) ?_
        refine own_st (T' := T94) (g' := (mkF m 25 #[.val (.ref ag), .val (.ref ak), .val (.ref ad), .val (.int r_), .val (.ref b94), .val (.int (0 : Int32)), .unset] [(.long (0 : Int64)), (.int (0 : Int32)), (.ref b94)])) (fun _ zq => XS.lconst X94.here hx rfl (hb hby own_d_m6_24) zq) ?_
        obtain ⟨T96, h96, X96, e96, W96, V96, st96⟩ := own_stJ X94 hx hZ e94 V_b94 (j := (0 : Int32)) (([] : List Int64).length) (rfl : ((0 : Int32)).toInt = ((([] : List Int64).length : Nat) : Int)) (by omega) (g := (mkF m 25 #[.val (.ref ag), .val (.ref ak), .val (.ref ad), .val (.int r_), .val (.ref b94), .val (.int (0 : Int32)), .unset] [(.long (0 : Int64)), (.int (0 : Int32)), (.ref b94)])) rfl rfl (hb hby own_d_m6_25)
        replace V_g := V_g.other W96 ne_ag_b94
        replace V_k := V_k.other W96 ne_ak_b94
        replace V_d := V_d.other W96 ne_ad_b94
        replace Zs := Nat.le_trans Zs (Keep.of_wr W96).1
        replace K0 := K0.wr W96 (Or.inr sz_b94)
        replace V_b94 := V96
        replace N := Fr.snoc X96 N g_b94
        refine own_st (g' := (mkF m 26 #[.val (.ref ag), .val (.ref ak), .val (.ref ad), .val (.int r_), .val (.ref b94), .val (.int (0 : Int32)), .unset] [])) st96 ?_
        refine own_st (T' := T96) (g' := (mkF m 28 #[.val (.ref ag), .val (.ref ak), .val (.ref ad), .val (.int r_), .val (.ref b94), .val (.int (0 : Int32)), .unset] [(.ref b94)])) (fun _ zq => XS.aload X96.here hx rfl (hb hby own_d_m6_26) rfl rfl zq) ?_
        refine own_st (T' := T96) (g' := (mkF m 30 #[.val (.ref ag), .val (.ref ak), .val (.ref ad), .val (.int r_), .val (.ref b94), .val (.int (0 : Int32)), .unset] [(.int (0 : Int32)), (.ref b94)])) (fun _ zq => XS.iload X96.here hx rfl (hb hby own_d_m6_28) rfl zq) ?_
        refine own_st (T' := T96) (g' := (mkF m 31 #[.val (.ref ag), .val (.ref ak), .val (.ref ad), .val (.int r_), .val (.ref b94), .val (.int (0 : Int32)), .unset] [(.int (1 : Int32)), (.int (0 : Int32)), (.ref b94)])) (fun _ zq => XS.iconst X96.here hx rfl (hb hby own_d_m6_30) zq) ?_
        refine own_st (T' := T96) (g' := (mkF m 32 #[.val (.ref ag), .val (.ref ak), .val (.ref ad), .val (.int r_), .val (.ref b94), .val (.int (0 : Int32)), .unset] [(.int ((0 : Int32) + (1 : Int32))), (.ref b94)])) (fun _ zq => XS.iadd X96.here hx rfl (hb hby own_d_m6_31) rfl zq) ?_
        refine own_st (T' := T96) (g' := (mkF m 33 #[.val (.ref ag), .val (.ref ak), .val (.ref ad), .val (.int r_), .val (.ref b94), .val (.int (0 : Int32)), .unset] [(.ref ak), (.int ((0 : Int32) + (1 : Int32))), (.ref b94)])) (fun _ zq => XS.aloadN X96.here hx rfl (hb hby own_d_m6_32) rfl rfl zq) ?_
        refine own_st (T' := T96) (g' := (mkF m 34 #[.val (.ref ag), .val (.ref ak), .val (.ref ad), .val (.int r_), .val (.ref b94), .val (.int (0 : Int32)), .unset] [(.int (0 : Int32)), (.ref ak), (.int ((0 : Int32) + (1 : Int32))), (.ref b94)])) (fun _ zq => XS.iconst X96.here hx rfl (hb hby own_d_m6_33) zq) ?_
        refine own_st (T' := T96) (g' := (mkF m 35 #[.val (.ref ag), .val (.ref ak), .val (.ref ad), .val (.int r_), .val (.ref b94), .val (.int (0 : Int32)), .unset] [(.long (fk 0)), (.int ((0 : Int32) + (1 : Int32))), (.ref b94)])) (own_ldJ X96 hx hZ e96 V_k (j := (0 : Int32)) (0) rfl (by decide) (w := (.long (fk 0))) rfl (g := (mkF m 34 #[.val (.ref ag), .val (.ref ak), .val (.ref ad), .val (.int r_), .val (.ref b94), .val (.int (0 : Int32)), .unset] [(.int (0 : Int32)), (.ref ak), (.int ((0 : Int32) + (1 : Int32))), (.ref b94)])) rfl rfl (hb hby own_d_m6_34)) ?_
        obtain ⟨T97, h97, X97, e97, W97, V97, st97⟩ := own_stJ X96 hx hZ e96 V_b94 (j := ((0 : Int32) + (1 : Int32))) (([] : List Int64).length + 1) (own_p1 (rfl : ((0 : Int32)).toInt = ((([] : List Int64).length : Nat) : Int)) (Nat.le_trans hle4 (by decide)) hll) (by omega) (g := (mkF m 35 #[.val (.ref ag), .val (.ref ak), .val (.ref ad), .val (.int r_), .val (.ref b94), .val (.int (0 : Int32)), .unset] [(.long (fk 0)), (.int ((0 : Int32) + (1 : Int32))), (.ref b94)])) rfl rfl (hb hby own_d_m6_35)
        replace V_g := V_g.other W97 ne_ag_b94
        replace V_k := V_k.other W97 ne_ak_b94
        replace V_d := V_d.other W97 ne_ad_b94
        replace Zs := Nat.le_trans Zs (Keep.of_wr W97).1
        replace K0 := K0.wr W97 (Or.inr sz_b94)
        replace V_b94 := V97
        replace N := Fr.snoc X97 N g_b94
        refine own_st (g' := (mkF m 36 #[.val (.ref ag), .val (.ref ak), .val (.ref ad), .val (.int r_), .val (.ref b94), .val (.int (0 : Int32)), .unset] [])) st97 ?_
        refine own_st (T' := T97) (g' := (mkF m 39 #[.val (.ref ag), .val (.ref ak), .val (.ref ad), .val (.int r_), .val (.ref b94), .val (.int ((0 : Int32) + (2 : Int32))), .unset] [])) (fun _ zq => XS.iinc X97.here hx rfl (hb hby own_d_m6_36) rfl (l' := #[.val (.ref ag), .val (.ref ak), .val (.ref ad), .val (.int r_), .val (.ref b94), .val (.int ((0 : Int32) + (2 : Int32))), .unset]) rfl zq) ?_
        exact J39 T97 _ h97 (X97.more (Nat.le_of_ble_eq_true rfl) (Nat.le_of_ble_eq_true rfl)) e97 N Zs K0 _ _ V_g V_k V_d V_b94 (by rw [hwl]; exact own_p2' (rfl : ((0 : Int32)).toInt = ((([] : List Int64).length : Nat) : Int)) (by omega)) (by rw [hwl]; exact own_ext2 rfl hf0)
  intro T95 lo95 h95 X95 e95 N95 Z95 K95 t1 f1 V_g V_k V_d V_b94 hp1 hf1
  refine own_st (T' := T95) (g' := (mkF m 40 #[.val (.ref ag), .val (.ref ak), .val (.ref ad), .val (.int r_), .val (.ref b94), .val (.int t1), .unset] [(.int r_)])) (fun _ zq => XS.iloadN X95.here hx rfl (hb hby own_d_m6_39) rfl zq) ?_
  refine own_st (T' := T95) (g' := (mkF m 41 #[.val (.ref ag), .val (.ref ak), .val (.ref ad), .val (.int r_), .val (.ref b94), .val (.int t1), .unset] [(.int (1 : Int32)), (.int r_)])) (fun _ zq => XS.iconst X95.here hx rfl (hb hby own_d_m6_40) zq) ?_
  suffices J73 : ∀ (T98 : State) (lo98 : List Loc) (h98 : Heap) (X98 : Stand p l e ({ frames := 0, cells := 1, slots := 4, locals := 0 } : Room) s m #[(.ref ag), (.ref ak), (.ref ad), (.int r_)] below meth c T98 lo98 1 4) (e98 : T98.heap = h98) (N98 : Fr n0 lo98) (Z98 : n0 ≤ h98.size) (K98 : Keep h0 h98 [ad]) (t2 : Int32) (f2 : Nat → Value) (V_g : own_AV Z h98 ag .long (own_L3 (own_f fd rn) fk).length (fun i => .long ((own_L3 (own_f fd rn) fk).getD i 0))) (V_k : own_AV Z h98 ak .long 3 (fun i => .long (fk i))) (V_d : own_AV Z h98 ad .boolean 9 (fun i => .int (fd i))) (V_b94 : own_AV Z h98 b94 .long 4 f2) (hp2 : t2.toInt = (((own_L2 (own_f fd rn) fk).length : Nat) : Int)) (hf2 : ∀ j, j < (own_L2 (own_f fd rn) fk).length → f2 j = .long ((own_L2 (own_f fd rn) fk).getD j 0)), own_Go p e below s (Q_check Z ag ak fk ad fd r_ rn h0 n0) ({ frames := 0, cells := 1, slots := 4, locals := 0 } : Room).cells ({ frames := 0, cells := 1, slots := 4, locals := 0 } : Room).slots T98 (mkF m 73 #[.val (.ref ag), .val (.ref ak), .val (.ref ad), .val (.int r_), .val (.ref b94), .val (.int t2), .unset] []) by
    by_cases hc : r_ = (1 : Int32)
    · skip
      refine own_st (T' := T95) (g' := (mkF m 73 #[.val (.ref ag), .val (.ref ak), .val (.ref ad), .val (.int r_), .val (.ref b94), .val (.int t1), .unset] [])) (fun _ zq => XS.icmpYes X95.here hx rfl (pc0 := 41) (pc' := 73) rfl (hb hby own_d_m6_41) rfl (teq hc).1 (by decide) (by decide) zq) ?_
      have hwl : (own_L2 (own_f fd rn) fk) = (own_L1 (own_f fd rn) fk) := own_v1 (p := own_f fd rn) (own_fe (by rw [hc] at hr; exact own_eqn (a := 1) rfl hr))
      exact J73 T95 _ h95 (X95.more (Nat.le_of_ble_eq_true rfl) (Nat.le_of_ble_eq_true rfl)) e95 N95 Z95 K95 _ _ V_g V_k V_d V_b94 (by rw [hwl]; exact hp1) (by rw [hwl]; exact hf1)
    · skip
      refine own_st (T' := T95) (g' := (mkF m 44 #[.val (.ref ag), .val (.ref ak), .val (.ref ad), .val (.int r_), .val (.ref b94), .val (.int t1), .unset] [])) (fun _ zq => XS.icmpNo X95.here hx rfl (hb hby own_d_m6_41) rfl (feq hc).1 zq) ?_
      refine own_st (T' := T95) (g' := (mkF m 45 #[.val (.ref ag), .val (.ref ak), .val (.ref ad), .val (.int r_), .val (.ref b94), .val (.int t1), .unset] [(.ref ad)])) (fun _ zq => XS.aloadN X95.here hx rfl (hb hby own_d_m6_44) rfl rfl zq) ?_
      refine own_st (T' := T95) (g' := (mkF m 46 #[.val (.ref ag), .val (.ref ak), .val (.ref ad), .val (.int r_), .val (.ref b94), .val (.int t1), .unset] [(.int (3 : Int32)), (.ref ad)])) (fun _ zq => XS.iconst X95.here hx rfl (hb hby own_d_m6_45) zq) ?_
      refine own_st (T' := T95) (g' := (mkF m 47 #[.val (.ref ag), .val (.ref ak), .val (.ref ad), .val (.int r_), .val (.ref b94), .val (.int t1), .unset] [(.int r_), (.int (3 : Int32)), (.ref ad)])) (fun _ zq => XS.iloadN X95.here hx rfl (hb hby own_d_m6_46) rfl zq) ?_
      refine own_st (T' := T95) (g' := (mkF m 48 #[.val (.ref ag), .val (.ref ak), .val (.ref ad), .val (.int r_), .val (.ref b94), .val (.int t1), .unset] [(.int ((3 : Int32) * r_)), (.ref ad)])) (fun _ zq => XS.imul X95.here hx rfl (hb hby own_d_m6_47) rfl zq) ?_
      refine own_st (T' := T95) (g' := (mkF m 49 #[.val (.ref ag), .val (.ref ak), .val (.ref ad), .val (.int r_), .val (.ref b94), .val (.int t1), .unset] [(.int (1 : Int32)), (.int ((3 : Int32) * r_)), (.ref ad)])) (fun _ zq => XS.iconst X95.here hx rfl (hb hby own_d_m6_48) zq) ?_
      refine own_st (T' := T95) (g' := (mkF m 50 #[.val (.ref ag), .val (.ref ak), .val (.ref ad), .val (.int r_), .val (.ref b94), .val (.int t1), .unset] [(.int (((3 : Int32) * r_) + (1 : Int32))), (.ref ad)])) (fun _ zq => XS.iadd X95.here hx rfl (hb hby own_d_m6_49) rfl zq) ?_
      refine own_st (T' := T95) (g' := (mkF m 51 #[.val (.ref ag), .val (.ref ak), .val (.ref ad), .val (.int r_), .val (.ref b94), .val (.int t1), .unset] [(.int (fd (3 * rn + 1)))])) (own_ldZ X95 hx hZ e95 V_d (j := (((3 : Int32) * r_) + (1 : Int32))) (3 * rn + 1) (own_q1 hr hlr) (by omega) (w := (.int (fd (3 * rn + 1)))) rfl (g := (mkF m 50 #[.val (.ref ag), .val (.ref ak), .val (.ref ad), .val (.int r_), .val (.ref b94), .val (.int t1), .unset] [(.int (((3 : Int32) * r_) + (1 : Int32))), (.ref ad)])) rfl rfl (hb hby own_d_m6_50)) ?_
      by_cases hd : (fd (3 * rn + 1)) = (0 : Int32)
      · skip
        refine own_st (T' := T95) (g' := (mkF m 73 #[.val (.ref ag), .val (.ref ak), .val (.ref ad), .val (.int r_), .val (.ref b94), .val (.int t1), .unset] [])) (fun _ zq => XS.ifYes X95.here hx rfl (pc0 := 51) (pc' := 73) rfl (hb hby own_d_m6_51) rfl ((if0 _ _).trans (teq hd).1) (by decide) (by decide) zq) ?_
        have hwl : (own_L2 (own_f fd rn) fk) = (own_L1 (own_f fd rn) fk) := own_v1 (p := own_f fd rn) (own_fz hd)
        exact J73 T95 _ h95 (X95.more (Nat.le_of_ble_eq_true rfl) (Nat.le_of_ble_eq_true rfl)) e95 N95 Z95 K95 _ _ V_g V_k V_d V_b94 (by rw [hwl]; exact hp1) (by rw [hwl]; exact hf1)
      · skip
        refine own_st (T' := T95) (g' := (mkF m 54 #[.val (.ref ag), .val (.ref ak), .val (.ref ad), .val (.int r_), .val (.ref b94), .val (.int t1), .unset] [])) (fun _ zq => XS.ifNo X95.here hx rfl (hb hby own_d_m6_51) rfl ((if0 _ _).trans (feq hd).1) zq) ?_
        have hu : own_f fd rn 1 = true := decide_eq_true ⟨fun q => hc (own_eqi (a := 1) rfl hr q), hd⟩
        have hwl : (own_L2 (own_f fd rn) fk) = (own_L1 (own_f fd rn) fk) ++ [1, fk 1] := own_w1 (p := own_f fd rn) hu
        have hll : (own_L1 (own_f fd rn) fk).length + 2 ≤ (own_L3 (own_f fd rn) fk).length := own_b1 (p := own_f fd rn) hu
        refine own_st (T' := T95) (g' := (mkF m 56 #[.val (.ref ag), .val (.ref ak), .val (.ref ad), .val (.int r_), .val (.ref b94), .val (.int t1), .unset] [(.ref b94)])) (fun _ zq => XS.aload X95.here hx rfl (hb hby own_d_m6_54) rfl rfl zq) ?_
        refine own_st (T' := T95) (g' := (mkF m 58 #[.val (.ref ag), .val (.ref ak), .val (.ref ad), .val (.int r_), .val (.ref b94), .val (.int t1), .unset] [(.int t1), (.ref b94)])) (fun _ zq => XS.iload X95.here hx rfl (hb hby own_d_m6_56) rfl zq) ?_
        refine own_st (T' := T95) (g' := (mkF m 59 #[.val (.ref ag), .val (.ref ak), .val (.ref ad), .val (.int r_), .val (.ref b94), .val (.int t1), .unset] [(.long (1 : Int64)), (.int t1), (.ref b94)])) (fun _ zq => XS.lconst X95.here hx rfl (hb hby own_d_m6_58) zq) ?_
        obtain ⟨T99, h99, X99, e99, W99, V99, st99⟩ := own_stJ X95 hx hZ e95 V_b94 (j := t1) ((own_L1 (own_f fd rn) fk).length) hp1 (by omega) (g := (mkF m 59 #[.val (.ref ag), .val (.ref ak), .val (.ref ad), .val (.int r_), .val (.ref b94), .val (.int t1), .unset] [(.long (1 : Int64)), (.int t1), (.ref b94)])) rfl rfl (hb hby own_d_m6_59)
        replace V_g := V_g.other W99 ne_ag_b94
        replace V_k := V_k.other W99 ne_ak_b94
        replace V_d := V_d.other W99 ne_ad_b94
        replace Z95 := Nat.le_trans Z95 (Keep.of_wr W99).1
        replace K95 := K95.wr W99 (Or.inr sz_b94)
        replace V_b94 := V99
        replace N95 := Fr.snoc X99 N95 g_b94
        refine own_st (g' := (mkF m 60 #[.val (.ref ag), .val (.ref ak), .val (.ref ad), .val (.int r_), .val (.ref b94), .val (.int t1), .unset] [])) st99 ?_
        refine own_st (T' := T99) (g' := (mkF m 62 #[.val (.ref ag), .val (.ref ak), .val (.ref ad), .val (.int r_), .val (.ref b94), .val (.int t1), .unset] [(.ref b94)])) (fun _ zq => XS.aload X99.here hx rfl (hb hby own_d_m6_60) rfl rfl zq) ?_
        refine own_st (T' := T99) (g' := (mkF m 64 #[.val (.ref ag), .val (.ref ak), .val (.ref ad), .val (.int r_), .val (.ref b94), .val (.int t1), .unset] [(.int t1), (.ref b94)])) (fun _ zq => XS.iload X99.here hx rfl (hb hby own_d_m6_62) rfl zq) ?_
        refine own_st (T' := T99) (g' := (mkF m 65 #[.val (.ref ag), .val (.ref ak), .val (.ref ad), .val (.int r_), .val (.ref b94), .val (.int t1), .unset] [(.int (1 : Int32)), (.int t1), (.ref b94)])) (fun _ zq => XS.iconst X99.here hx rfl (hb hby own_d_m6_64) zq) ?_
        refine own_st (T' := T99) (g' := (mkF m 66 #[.val (.ref ag), .val (.ref ak), .val (.ref ad), .val (.int r_), .val (.ref b94), .val (.int t1), .unset] [(.int (t1 + (1 : Int32))), (.ref b94)])) (fun _ zq => XS.iadd X99.here hx rfl (hb hby own_d_m6_65) rfl zq) ?_
        refine own_st (T' := T99) (g' := (mkF m 67 #[.val (.ref ag), .val (.ref ak), .val (.ref ad), .val (.int r_), .val (.ref b94), .val (.int t1), .unset] [(.ref ak), (.int (t1 + (1 : Int32))), (.ref b94)])) (fun _ zq => XS.aloadN X99.here hx rfl (hb hby own_d_m6_66) rfl rfl zq) ?_
        refine own_st (T' := T99) (g' := (mkF m 68 #[.val (.ref ag), .val (.ref ak), .val (.ref ad), .val (.int r_), .val (.ref b94), .val (.int t1), .unset] [(.int (1 : Int32)), (.ref ak), (.int (t1 + (1 : Int32))), (.ref b94)])) (fun _ zq => XS.iconst X99.here hx rfl (hb hby own_d_m6_67) zq) ?_
        refine own_st (T' := T99) (g' := (mkF m 69 #[.val (.ref ag), .val (.ref ak), .val (.ref ad), .val (.int r_), .val (.ref b94), .val (.int t1), .unset] [(.long (fk 1)), (.int (t1 + (1 : Int32))), (.ref b94)])) (own_ldJ X99 hx hZ e99 V_k (j := (1 : Int32)) (1) rfl (by decide) (w := (.long (fk 1))) rfl (g := (mkF m 68 #[.val (.ref ag), .val (.ref ak), .val (.ref ad), .val (.int r_), .val (.ref b94), .val (.int t1), .unset] [(.int (1 : Int32)), (.ref ak), (.int (t1 + (1 : Int32))), (.ref b94)])) rfl rfl (hb hby own_d_m6_68)) ?_
        obtain ⟨T100, h100, X100, e100, W100, V100, st100⟩ := own_stJ X99 hx hZ e99 V_b94 (j := (t1 + (1 : Int32))) ((own_L1 (own_f fd rn) fk).length + 1) (own_p1 hp1 (Nat.le_trans hle4 (by decide)) hll) (by omega) (g := (mkF m 69 #[.val (.ref ag), .val (.ref ak), .val (.ref ad), .val (.int r_), .val (.ref b94), .val (.int t1), .unset] [(.long (fk 1)), (.int (t1 + (1 : Int32))), (.ref b94)])) rfl rfl (hb hby own_d_m6_69)
        replace V_g := V_g.other W100 ne_ag_b94
        replace V_k := V_k.other W100 ne_ak_b94
        replace V_d := V_d.other W100 ne_ad_b94
        replace Z95 := Nat.le_trans Z95 (Keep.of_wr W100).1
        replace K95 := K95.wr W100 (Or.inr sz_b94)
        replace V_b94 := V100
        replace N95 := Fr.snoc X100 N95 g_b94
        refine own_st (g' := (mkF m 70 #[.val (.ref ag), .val (.ref ak), .val (.ref ad), .val (.int r_), .val (.ref b94), .val (.int t1), .unset] [])) st100 ?_
        refine own_st (T' := T100) (g' := (mkF m 73 #[.val (.ref ag), .val (.ref ak), .val (.ref ad), .val (.int r_), .val (.ref b94), .val (.int (t1 + (2 : Int32))), .unset] [])) (fun _ zq => XS.iinc X100.here hx rfl (hb hby own_d_m6_70) rfl (l' := #[.val (.ref ag), .val (.ref ak), .val (.ref ad), .val (.int r_), .val (.ref b94), .val (.int (t1 + (2 : Int32))), .unset]) rfl zq) ?_
        exact J73 T100 _ h100 (X100.more (Nat.le_of_ble_eq_true rfl) (Nat.le_of_ble_eq_true rfl)) e100 N95 Z95 K95 _ _ V_g V_k V_d V_b94 (by rw [hwl]; exact own_p2' hp1 (by omega)) (by rw [hwl]; exact own_ext2 rfl hf1)
  intro T98 lo98 h98 X98 e98 N98 Z98 K98 t2 f2 V_g V_k V_d V_b94 hp2 hf2
  refine own_st (T' := T98) (g' := (mkF m 74 #[.val (.ref ag), .val (.ref ak), .val (.ref ad), .val (.int r_), .val (.ref b94), .val (.int t2), .unset] [(.int r_)])) (fun _ zq => XS.iloadN X98.here hx rfl (hb hby own_d_m6_73) rfl zq) ?_
  refine own_st (T' := T98) (g' := (mkF m 75 #[.val (.ref ag), .val (.ref ak), .val (.ref ad), .val (.int r_), .val (.ref b94), .val (.int t2), .unset] [(.int (2 : Int32)), (.int r_)])) (fun _ zq => XS.iconst X98.here hx rfl (hb hby own_d_m6_74) zq) ?_
  suffices J109 : ∀ (T101 : State) (lo101 : List Loc) (h101 : Heap) (X101 : Stand p l e ({ frames := 0, cells := 1, slots := 4, locals := 0 } : Room) s m #[(.ref ag), (.ref ak), (.ref ad), (.int r_)] below meth c T101 lo101 1 4) (e101 : T101.heap = h101) (N101 : Fr n0 lo101) (Z101 : n0 ≤ h101.size) (K101 : Keep h0 h101 [ad]) (t3 : Int32) (f3 : Nat → Value) (V_g : own_AV Z h101 ag .long (own_L3 (own_f fd rn) fk).length (fun i => .long ((own_L3 (own_f fd rn) fk).getD i 0))) (V_k : own_AV Z h101 ak .long 3 (fun i => .long (fk i))) (V_d : own_AV Z h101 ad .boolean 9 (fun i => .int (fd i))) (V_b94 : own_AV Z h101 b94 .long 4 f3) (hp3 : t3.toInt = (((own_L3 (own_f fd rn) fk).length : Nat) : Int)) (hf3 : ∀ j, j < (own_L3 (own_f fd rn) fk).length → f3 j = .long ((own_L3 (own_f fd rn) fk).getD j 0)), own_Go p e below s (Q_check Z ag ak fk ad fd r_ rn h0 n0) ({ frames := 0, cells := 1, slots := 4, locals := 0 } : Room).cells ({ frames := 0, cells := 1, slots := 4, locals := 0 } : Room).slots T101 (mkF m 109 #[.val (.ref ag), .val (.ref ak), .val (.ref ad), .val (.int r_), .val (.ref b94), .val (.int t3), .unset] []) by
    by_cases hc : r_ = (2 : Int32)
    · skip
      refine own_st (T' := T98) (g' := (mkF m 109 #[.val (.ref ag), .val (.ref ak), .val (.ref ad), .val (.int r_), .val (.ref b94), .val (.int t2), .unset] [])) (fun _ zq => XS.icmpYes X98.here hx rfl (pc0 := 75) (pc' := 109) rfl (hb hby own_d_m6_75) rfl (teq hc).1 (by decide) (by decide) zq) ?_
      have hwl : (own_L3 (own_f fd rn) fk) = (own_L2 (own_f fd rn) fk) := own_v2 (p := own_f fd rn) (own_fe (by rw [hc] at hr; exact own_eqn (a := 2) rfl hr))
      exact J109 T98 _ h98 (X98.more (Nat.le_of_ble_eq_true rfl) (Nat.le_of_ble_eq_true rfl)) e98 N98 Z98 K98 _ _ V_g V_k V_d V_b94 (by rw [hwl]; exact hp2) (by rw [hwl]; exact hf2)
    · skip
      refine own_st (T' := T98) (g' := (mkF m 78 #[.val (.ref ag), .val (.ref ak), .val (.ref ad), .val (.int r_), .val (.ref b94), .val (.int t2), .unset] [])) (fun _ zq => XS.icmpNo X98.here hx rfl (hb hby own_d_m6_75) rfl (feq hc).1 zq) ?_
      refine own_st (T' := T98) (g' := (mkF m 79 #[.val (.ref ag), .val (.ref ak), .val (.ref ad), .val (.int r_), .val (.ref b94), .val (.int t2), .unset] [(.ref ad)])) (fun _ zq => XS.aloadN X98.here hx rfl (hb hby own_d_m6_78) rfl rfl zq) ?_
      refine own_st (T' := T98) (g' := (mkF m 80 #[.val (.ref ag), .val (.ref ak), .val (.ref ad), .val (.int r_), .val (.ref b94), .val (.int t2), .unset] [(.int (3 : Int32)), (.ref ad)])) (fun _ zq => XS.iconst X98.here hx rfl (hb hby own_d_m6_79) zq) ?_
      refine own_st (T' := T98) (g' := (mkF m 81 #[.val (.ref ag), .val (.ref ak), .val (.ref ad), .val (.int r_), .val (.ref b94), .val (.int t2), .unset] [(.int r_), (.int (3 : Int32)), (.ref ad)])) (fun _ zq => XS.iloadN X98.here hx rfl (hb hby own_d_m6_80) rfl zq) ?_
      refine own_st (T' := T98) (g' := (mkF m 82 #[.val (.ref ag), .val (.ref ak), .val (.ref ad), .val (.int r_), .val (.ref b94), .val (.int t2), .unset] [(.int ((3 : Int32) * r_)), (.ref ad)])) (fun _ zq => XS.imul X98.here hx rfl (hb hby own_d_m6_81) rfl zq) ?_
      refine own_st (T' := T98) (g' := (mkF m 83 #[.val (.ref ag), .val (.ref ak), .val (.ref ad), .val (.int r_), .val (.ref b94), .val (.int t2), .unset] [(.int (2 : Int32)), (.int ((3 : Int32) * r_)), (.ref ad)])) (fun _ zq => XS.iconst X98.here hx rfl (hb hby own_d_m6_82) zq) ?_
      refine own_st (T' := T98) (g' := (mkF m 84 #[.val (.ref ag), .val (.ref ak), .val (.ref ad), .val (.int r_), .val (.ref b94), .val (.int t2), .unset] [(.int (((3 : Int32) * r_) + (2 : Int32))), (.ref ad)])) (fun _ zq => XS.iadd X98.here hx rfl (hb hby own_d_m6_83) rfl zq) ?_
      refine own_st (T' := T98) (g' := (mkF m 85 #[.val (.ref ag), .val (.ref ak), .val (.ref ad), .val (.int r_), .val (.ref b94), .val (.int t2), .unset] [(.int (fd (3 * rn + 2)))])) (own_ldZ X98 hx hZ e98 V_d (j := (((3 : Int32) * r_) + (2 : Int32))) (3 * rn + 2) (own_q2 hr hlr) (by omega) (w := (.int (fd (3 * rn + 2)))) rfl (g := (mkF m 84 #[.val (.ref ag), .val (.ref ak), .val (.ref ad), .val (.int r_), .val (.ref b94), .val (.int t2), .unset] [(.int (((3 : Int32) * r_) + (2 : Int32))), (.ref ad)])) rfl rfl (hb hby own_d_m6_84)) ?_
      by_cases hd : (fd (3 * rn + 2)) = (0 : Int32)
      · skip
        refine own_st (T' := T98) (g' := (mkF m 109 #[.val (.ref ag), .val (.ref ak), .val (.ref ad), .val (.int r_), .val (.ref b94), .val (.int t2), .unset] [])) (fun _ zq => XS.ifYes X98.here hx rfl (pc0 := 85) (pc' := 109) rfl (hb hby own_d_m6_85) rfl ((if0 _ _).trans (teq hd).1) (by decide) (by decide) zq) ?_
        have hwl : (own_L3 (own_f fd rn) fk) = (own_L2 (own_f fd rn) fk) := own_v2 (p := own_f fd rn) (own_fz hd)
        exact J109 T98 _ h98 (X98.more (Nat.le_of_ble_eq_true rfl) (Nat.le_of_ble_eq_true rfl)) e98 N98 Z98 K98 _ _ V_g V_k V_d V_b94 (by rw [hwl]; exact hp2) (by rw [hwl]; exact hf2)
      · skip
        refine own_st (T' := T98) (g' := (mkF m 88 #[.val (.ref ag), .val (.ref ak), .val (.ref ad), .val (.int r_), .val (.ref b94), .val (.int t2), .unset] [])) (fun _ zq => XS.ifNo X98.here hx rfl (hb hby own_d_m6_85) rfl ((if0 _ _).trans (feq hd).1) zq) ?_
        have hu : own_f fd rn 2 = true := decide_eq_true ⟨fun q => hc (own_eqi (a := 2) rfl hr q), hd⟩
        have hwl : (own_L3 (own_f fd rn) fk) = (own_L2 (own_f fd rn) fk) ++ [2, fk 2] := own_w2 (p := own_f fd rn) hu
        have hll : (own_L2 (own_f fd rn) fk).length + 2 ≤ (own_L3 (own_f fd rn) fk).length := own_b2 (p := own_f fd rn) hu
        refine own_st (T' := T98) (g' := (mkF m 90 #[.val (.ref ag), .val (.ref ak), .val (.ref ad), .val (.int r_), .val (.ref b94), .val (.int t2), .unset] [(.ref b94)])) (fun _ zq => XS.aload X98.here hx rfl (hb hby own_d_m6_88) rfl rfl zq) ?_
        refine own_st (T' := T98) (g' := (mkF m 92 #[.val (.ref ag), .val (.ref ak), .val (.ref ad), .val (.int r_), .val (.ref b94), .val (.int t2), .unset] [(.int t2), (.ref b94)])) (fun _ zq => XS.iload X98.here hx rfl (hb hby own_d_m6_90) rfl zq) ?_
        refine own_st (T' := T98) (g' := (mkF m 95 #[.val (.ref ag), .val (.ref ak), .val (.ref ad), .val (.int r_), .val (.ref b94), .val (.int t2), .unset] [(.long (2 : Int64)), (.int t2), (.ref b94)])) (fun _ zq => X98.ldc2Long hx hown (mvT hZ (hw _ (List.mem_of_getElem? (i := 53) rfl))) (g := (mkF m 92 #[.val (.ref ag), .val (.ref ak), .val (.ref ad), .val (.int r_), .val (.ref b94), .val (.int t2), .unset] [(.int t2), (.ref b94)])) rfl (hb hby own_d_m6_92) _ zq) ?_
        obtain ⟨T102, h102, X102, e102, W102, V102, st102⟩ := own_stJ X98 hx hZ e98 V_b94 (j := t2) ((own_L2 (own_f fd rn) fk).length) hp2 (by omega) (g := (mkF m 95 #[.val (.ref ag), .val (.ref ak), .val (.ref ad), .val (.int r_), .val (.ref b94), .val (.int t2), .unset] [(.long (2 : Int64)), (.int t2), (.ref b94)])) rfl rfl (hb hby own_d_m6_95)
        replace V_g := V_g.other W102 ne_ag_b94
        replace V_k := V_k.other W102 ne_ak_b94
        replace V_d := V_d.other W102 ne_ad_b94
        replace Z98 := Nat.le_trans Z98 (Keep.of_wr W102).1
        replace K98 := K98.wr W102 (Or.inr sz_b94)
        replace V_b94 := V102
        replace N98 := Fr.snoc X102 N98 g_b94
        refine own_st (g' := (mkF m 96 #[.val (.ref ag), .val (.ref ak), .val (.ref ad), .val (.int r_), .val (.ref b94), .val (.int t2), .unset] [])) st102 ?_
        refine own_st (T' := T102) (g' := (mkF m 98 #[.val (.ref ag), .val (.ref ak), .val (.ref ad), .val (.int r_), .val (.ref b94), .val (.int t2), .unset] [(.ref b94)])) (fun _ zq => XS.aload X102.here hx rfl (hb hby own_d_m6_96) rfl rfl zq) ?_
        refine own_st (T' := T102) (g' := (mkF m 100 #[.val (.ref ag), .val (.ref ak), .val (.ref ad), .val (.int r_), .val (.ref b94), .val (.int t2), .unset] [(.int t2), (.ref b94)])) (fun _ zq => XS.iload X102.here hx rfl (hb hby own_d_m6_98) rfl zq) ?_
        refine own_st (T' := T102) (g' := (mkF m 101 #[.val (.ref ag), .val (.ref ak), .val (.ref ad), .val (.int r_), .val (.ref b94), .val (.int t2), .unset] [(.int (1 : Int32)), (.int t2), (.ref b94)])) (fun _ zq => XS.iconst X102.here hx rfl (hb hby own_d_m6_100) zq) ?_
        refine own_st (T' := T102) (g' := (mkF m 102 #[.val (.ref ag), .val (.ref ak), .val (.ref ad), .val (.int r_), .val (.ref b94), .val (.int t2), .unset] [(.int (t2 + (1 : Int32))), (.ref b94)])) (fun _ zq => XS.iadd X102.here hx rfl (hb hby own_d_m6_101) rfl zq) ?_
        refine own_st (T' := T102) (g' := (mkF m 103 #[.val (.ref ag), .val (.ref ak), .val (.ref ad), .val (.int r_), .val (.ref b94), .val (.int t2), .unset] [(.ref ak), (.int (t2 + (1 : Int32))), (.ref b94)])) (fun _ zq => XS.aloadN X102.here hx rfl (hb hby own_d_m6_102) rfl rfl zq) ?_
        refine own_st (T' := T102) (g' := (mkF m 104 #[.val (.ref ag), .val (.ref ak), .val (.ref ad), .val (.int r_), .val (.ref b94), .val (.int t2), .unset] [(.int (2 : Int32)), (.ref ak), (.int (t2 + (1 : Int32))), (.ref b94)])) (fun _ zq => XS.iconst X102.here hx rfl (hb hby own_d_m6_103) zq) ?_
        refine own_st (T' := T102) (g' := (mkF m 105 #[.val (.ref ag), .val (.ref ak), .val (.ref ad), .val (.int r_), .val (.ref b94), .val (.int t2), .unset] [(.long (fk 2)), (.int (t2 + (1 : Int32))), (.ref b94)])) (own_ldJ X102 hx hZ e102 V_k (j := (2 : Int32)) (2) rfl (by decide) (w := (.long (fk 2))) rfl (g := (mkF m 104 #[.val (.ref ag), .val (.ref ak), .val (.ref ad), .val (.int r_), .val (.ref b94), .val (.int t2), .unset] [(.int (2 : Int32)), (.ref ak), (.int (t2 + (1 : Int32))), (.ref b94)])) rfl rfl (hb hby own_d_m6_104)) ?_
        obtain ⟨T103, h103, X103, e103, W103, V103, st103⟩ := own_stJ X102 hx hZ e102 V_b94 (j := (t2 + (1 : Int32))) ((own_L2 (own_f fd rn) fk).length + 1) (own_p1 hp2 (Nat.le_trans hle4 (by decide)) hll) (by omega) (g := (mkF m 105 #[.val (.ref ag), .val (.ref ak), .val (.ref ad), .val (.int r_), .val (.ref b94), .val (.int t2), .unset] [(.long (fk 2)), (.int (t2 + (1 : Int32))), (.ref b94)])) rfl rfl (hb hby own_d_m6_105)
        replace V_g := V_g.other W103 ne_ag_b94
        replace V_k := V_k.other W103 ne_ak_b94
        replace V_d := V_d.other W103 ne_ad_b94
        replace Z98 := Nat.le_trans Z98 (Keep.of_wr W103).1
        replace K98 := K98.wr W103 (Or.inr sz_b94)
        replace V_b94 := V103
        replace N98 := Fr.snoc X103 N98 g_b94
        refine own_st (g' := (mkF m 106 #[.val (.ref ag), .val (.ref ak), .val (.ref ad), .val (.int r_), .val (.ref b94), .val (.int t2), .unset] [])) st103 ?_
        refine own_st (T' := T103) (g' := (mkF m 109 #[.val (.ref ag), .val (.ref ak), .val (.ref ad), .val (.int r_), .val (.ref b94), .val (.int (t2 + (2 : Int32))), .unset] [])) (fun _ zq => XS.iinc X103.here hx rfl (hb hby own_d_m6_106) rfl (l' := #[.val (.ref ag), .val (.ref ak), .val (.ref ad), .val (.int r_), .val (.ref b94), .val (.int (t2 + (2 : Int32))), .unset]) rfl zq) ?_
        exact J109 T103 _ h103 (X103.more (Nat.le_of_ble_eq_true rfl) (Nat.le_of_ble_eq_true rfl)) e103 N98 Z98 K98 _ _ V_g V_k V_d V_b94 (by rw [hwl]; exact own_p2' hp2 (by omega)) (by rw [hwl]; exact own_ext2 rfl hf2)
  intro T101 lo101 h101 X101 e101 N101 Z101 K101 t3 f3 V_g V_k V_d V_b94 hp3 hf3
  refine own_st (T' := T101) (g' := (mkF m 110 #[.val (.ref ag), .val (.ref ak), .val (.ref ad), .val (.int r_), .val (.ref b94), .val (.int t3), .unset] [(.ref ad)])) (fun _ zq => XS.aloadN X101.here hx rfl (hb hby own_d_m6_109) rfl rfl zq) ?_
  refine own_st (T' := T101) (g' := (mkF m 111 #[.val (.ref ag), .val (.ref ak), .val (.ref ad), .val (.int r_), .val (.ref b94), .val (.int t3), .unset] [(.int (3 : Int32)), (.ref ad)])) (fun _ zq => XS.iconst X101.here hx rfl (hb hby own_d_m6_110) zq) ?_
  refine own_st (T' := T101) (g' := (mkF m 112 #[.val (.ref ag), .val (.ref ak), .val (.ref ad), .val (.int r_), .val (.ref b94), .val (.int t3), .unset] [(.int r_), (.int (3 : Int32)), (.ref ad)])) (fun _ zq => XS.iloadN X101.here hx rfl (hb hby own_d_m6_111) rfl zq) ?_
  refine own_st (T' := T101) (g' := (mkF m 113 #[.val (.ref ag), .val (.ref ak), .val (.ref ad), .val (.int r_), .val (.ref b94), .val (.int t3), .unset] [(.int ((3 : Int32) * r_)), (.ref ad)])) (fun _ zq => XS.imul X101.here hx rfl (hb hby own_d_m6_112) rfl zq) ?_
  refine own_st (T' := T101) (g' := (mkF m 114 #[.val (.ref ag), .val (.ref ak), .val (.ref ad), .val (.int r_), .val (.ref b94), .val (.int t3), .unset] [(.int (0 : Int32)), (.int ((3 : Int32) * r_)), (.ref ad)])) (fun _ zq => XS.iconst X101.here hx rfl (hb hby own_d_m6_113) zq) ?_
  obtain ⟨T104, h104, X104, e104, W104, V104, st104⟩ := own_stZ X101 hx hZ e101 V_d (j := ((3 : Int32) * r_)) (3 * rn) (own_q0 hr hlr) (by omega) (g := (mkF m 114 #[.val (.ref ag), .val (.ref ak), .val (.ref ad), .val (.int r_), .val (.ref b94), .val (.int t3), .unset] [(.int (0 : Int32)), (.int ((3 : Int32) * r_)), (.ref ad)])) rfl rfl (hb hby own_d_m6_114)
  replace V_g := V_g.other W104 q1
  replace V_k := V_k.other W104 q2
  replace V_b94 := V_b94.other W104 ne_ad_b94.symm
  replace Z101 := Nat.le_trans Z101 (Keep.of_wr W104).1
  replace K101 := K101.wr W104 (Or.inl (List.mem_of_getElem? (i := 0) rfl))
  replace V_d : own_AV Z h104 ad .boolean 9 (fun i => .int ((own_updI fd (3 * rn) 0) i)) := V104.cong (own_updZ0 _ _)
  replace N101 := Fr.snoc X104 N101 g_ad
  refine own_st (g' := (mkF m 115 #[.val (.ref ag), .val (.ref ak), .val (.ref ad), .val (.int r_), .val (.ref b94), .val (.int t3), .unset] [])) st104 ?_
  refine own_st (T' := T104) (g' := (mkF m 116 #[.val (.ref ag), .val (.ref ak), .val (.ref ad), .val (.int r_), .val (.ref b94), .val (.int t3), .unset] [(.ref ad)])) (fun _ zq => XS.aloadN X104.here hx rfl (hb hby own_d_m6_115) rfl rfl zq) ?_
  refine own_st (T' := T104) (g' := (mkF m 117 #[.val (.ref ag), .val (.ref ak), .val (.ref ad), .val (.int r_), .val (.ref b94), .val (.int t3), .unset] [(.int (3 : Int32)), (.ref ad)])) (fun _ zq => XS.iconst X104.here hx rfl (hb hby own_d_m6_116) zq) ?_
  refine own_st (T' := T104) (g' := (mkF m 118 #[.val (.ref ag), .val (.ref ak), .val (.ref ad), .val (.int r_), .val (.ref b94), .val (.int t3), .unset] [(.int r_), (.int (3 : Int32)), (.ref ad)])) (fun _ zq => XS.iloadN X104.here hx rfl (hb hby own_d_m6_117) rfl zq) ?_
  refine own_st (T' := T104) (g' := (mkF m 119 #[.val (.ref ag), .val (.ref ak), .val (.ref ad), .val (.int r_), .val (.ref b94), .val (.int t3), .unset] [(.int ((3 : Int32) * r_)), (.ref ad)])) (fun _ zq => XS.imul X104.here hx rfl (hb hby own_d_m6_118) rfl zq) ?_
  refine own_st (T' := T104) (g' := (mkF m 120 #[.val (.ref ag), .val (.ref ak), .val (.ref ad), .val (.int r_), .val (.ref b94), .val (.int t3), .unset] [(.int (1 : Int32)), (.int ((3 : Int32) * r_)), (.ref ad)])) (fun _ zq => XS.iconst X104.here hx rfl (hb hby own_d_m6_119) zq) ?_
  refine own_st (T' := T104) (g' := (mkF m 121 #[.val (.ref ag), .val (.ref ak), .val (.ref ad), .val (.int r_), .val (.ref b94), .val (.int t3), .unset] [(.int (((3 : Int32) * r_) + (1 : Int32))), (.ref ad)])) (fun _ zq => XS.iadd X104.here hx rfl (hb hby own_d_m6_120) rfl zq) ?_
  refine own_st (T' := T104) (g' := (mkF m 122 #[.val (.ref ag), .val (.ref ak), .val (.ref ad), .val (.int r_), .val (.ref b94), .val (.int t3), .unset] [(.int (0 : Int32)), (.int (((3 : Int32) * r_) + (1 : Int32))), (.ref ad)])) (fun _ zq => XS.iconst X104.here hx rfl (hb hby own_d_m6_121) zq) ?_
  obtain ⟨T105, h105, X105, e105, W105, V105, st105⟩ := own_stZ X104 hx hZ e104 V_d (j := (((3 : Int32) * r_) + (1 : Int32))) (3 * rn + 1) (own_q1 hr hlr) (by omega) (g := (mkF m 122 #[.val (.ref ag), .val (.ref ak), .val (.ref ad), .val (.int r_), .val (.ref b94), .val (.int t3), .unset] [(.int (0 : Int32)), (.int (((3 : Int32) * r_) + (1 : Int32))), (.ref ad)])) rfl rfl (hb hby own_d_m6_122)
  replace V_g := V_g.other W105 q1
  replace V_k := V_k.other W105 q2
  replace V_b94 := V_b94.other W105 ne_ad_b94.symm
  replace Z101 := Nat.le_trans Z101 (Keep.of_wr W105).1
  replace K101 := K101.wr W105 (Or.inl (List.mem_of_getElem? (i := 0) rfl))
  replace V_d : own_AV Z h105 ad .boolean 9 (fun i => .int ((own_updI (own_updI fd (3 * rn) 0) (3 * rn + 1) 0) i)) := V105.cong (own_updZ0 _ _)
  replace N101 := Fr.snoc X105 N101 g_ad
  refine own_st (g' := (mkF m 123 #[.val (.ref ag), .val (.ref ak), .val (.ref ad), .val (.int r_), .val (.ref b94), .val (.int t3), .unset] [])) st105 ?_
  refine own_st (T' := T105) (g' := (mkF m 124 #[.val (.ref ag), .val (.ref ak), .val (.ref ad), .val (.int r_), .val (.ref b94), .val (.int t3), .unset] [(.ref ad)])) (fun _ zq => XS.aloadN X105.here hx rfl (hb hby own_d_m6_123) rfl rfl zq) ?_
  refine own_st (T' := T105) (g' := (mkF m 125 #[.val (.ref ag), .val (.ref ak), .val (.ref ad), .val (.int r_), .val (.ref b94), .val (.int t3), .unset] [(.int (3 : Int32)), (.ref ad)])) (fun _ zq => XS.iconst X105.here hx rfl (hb hby own_d_m6_124) zq) ?_
  refine own_st (T' := T105) (g' := (mkF m 126 #[.val (.ref ag), .val (.ref ak), .val (.ref ad), .val (.int r_), .val (.ref b94), .val (.int t3), .unset] [(.int r_), (.int (3 : Int32)), (.ref ad)])) (fun _ zq => XS.iloadN X105.here hx rfl (hb hby own_d_m6_125) rfl zq) ?_
  refine own_st (T' := T105) (g' := (mkF m 127 #[.val (.ref ag), .val (.ref ak), .val (.ref ad), .val (.int r_), .val (.ref b94), .val (.int t3), .unset] [(.int ((3 : Int32) * r_)), (.ref ad)])) (fun _ zq => XS.imul X105.here hx rfl (hb hby own_d_m6_126) rfl zq) ?_
  refine own_st (T' := T105) (g' := (mkF m 128 #[.val (.ref ag), .val (.ref ak), .val (.ref ad), .val (.int r_), .val (.ref b94), .val (.int t3), .unset] [(.int (2 : Int32)), (.int ((3 : Int32) * r_)), (.ref ad)])) (fun _ zq => XS.iconst X105.here hx rfl (hb hby own_d_m6_127) zq) ?_
  refine own_st (T' := T105) (g' := (mkF m 129 #[.val (.ref ag), .val (.ref ak), .val (.ref ad), .val (.int r_), .val (.ref b94), .val (.int t3), .unset] [(.int (((3 : Int32) * r_) + (2 : Int32))), (.ref ad)])) (fun _ zq => XS.iadd X105.here hx rfl (hb hby own_d_m6_128) rfl zq) ?_
  refine own_st (T' := T105) (g' := (mkF m 130 #[.val (.ref ag), .val (.ref ak), .val (.ref ad), .val (.int r_), .val (.ref b94), .val (.int t3), .unset] [(.int (0 : Int32)), (.int (((3 : Int32) * r_) + (2 : Int32))), (.ref ad)])) (fun _ zq => XS.iconst X105.here hx rfl (hb hby own_d_m6_129) zq) ?_
  obtain ⟨T106, h106, X106, e106, W106, V106, st106⟩ := own_stZ X105 hx hZ e105 V_d (j := (((3 : Int32) * r_) + (2 : Int32))) (3 * rn + 2) (own_q2 hr hlr) (by omega) (g := (mkF m 130 #[.val (.ref ag), .val (.ref ak), .val (.ref ad), .val (.int r_), .val (.ref b94), .val (.int t3), .unset] [(.int (0 : Int32)), (.int (((3 : Int32) * r_) + (2 : Int32))), (.ref ad)])) rfl rfl (hb hby own_d_m6_130)
  replace V_g := V_g.other W106 q1
  replace V_k := V_k.other W106 q2
  replace V_b94 := V_b94.other W106 ne_ad_b94.symm
  replace Z101 := Nat.le_trans Z101 (Keep.of_wr W106).1
  replace K101 := K101.wr W106 (Or.inl (List.mem_of_getElem? (i := 0) rfl))
  replace V_d : own_AV Z h106 ad .boolean 9 (fun i => .int ((own_updI (own_updI (own_updI fd (3 * rn) 0) (3 * rn + 1) 0) (3 * rn + 2) 0) i)) := V106.cong (own_updZ0 _ _)
  replace N101 := Fr.snoc X106 N101 g_ad
  refine own_st (g' := (mkF m 131 #[.val (.ref ag), .val (.ref ak), .val (.ref ad), .val (.int r_), .val (.ref b94), .val (.int t3), .unset] [])) st106 ?_
  refine own_st (T' := T106) (g' := (mkF m 132 #[.val (.ref ag), .val (.ref ak), .val (.ref ad), .val (.int r_), .val (.ref b94), .val (.int t3), .unset] [(.ref ag)])) (fun _ zq => XS.aloadN X106.here hx rfl (hb hby own_d_m6_131) rfl rfl zq) ?_
  refine own_st (T' := T106) (g' := (mkF m 133 #[.val (.ref ag), .val (.ref ak), .val (.ref ad), .val (.int r_), .val (.ref b94), .val (.int t3), .unset] [(.int t3)])) (own_len (z := t3) X106 hx hZ e106 V_g hp3 (g := (mkF m 132 #[.val (.ref ag), .val (.ref ak), .val (.ref ad), .val (.int r_), .val (.ref b94), .val (.int t3), .unset] [(.ref ag)])) rfl rfl (hb hby own_d_m6_132)) ?_
  refine own_st (T' := T106) (g' := (mkF m 135 #[.val (.ref ag), .val (.ref ak), .val (.ref ad), .val (.int r_), .val (.ref b94), .val (.int t3), .unset] [(.int t3), (.int t3)])) (fun _ zq => XS.iload X106.here hx rfl (hb hby own_d_m6_133) rfl zq) ?_
  refine own_st (T' := T106) (g' := (mkF m 140 #[.val (.ref ag), .val (.ref ak), .val (.ref ad), .val (.int r_), .val (.ref b94), .val (.int t3), .unset] [])) (fun _ zq => XS.icmpYes X106.here hx rfl (pc0 := 135) (pc' := 140) rfl (hb hby own_d_m6_135) rfl (teq rfl).1 (by decide) (by decide) zq) ?_
  refine own_st (T' := T106) (g' := (mkF m 141 #[.val (.ref ag), .val (.ref ak), .val (.ref ad), .val (.int r_), .val (.ref b94), .val (.int t3), .unset] [(.int (1 : Int32))])) (fun _ zq => XS.iconst X106.here hx rfl (hb hby own_d_m6_140) zq) ?_
  refine own_st (T' := T106) (g' := (mkF m 143 #[.val (.ref ag), .val (.ref ak), .val (.ref ad), .val (.int r_), .val (.ref b94), .val (.int t3), .val (.int (1 : Int32))] [])) (fun _ zq => XS.istore X106.here hx rfl (hb hby own_d_m6_141) rfl (l' := #[.val (.ref ag), .val (.ref ak), .val (.ref ad), .val (.int r_), .val (.ref b94), .val (.int t3), .val (.int (1 : Int32))]) rfl zq) ?_
  refine own_st (T' := T106) (g' := (mkF m 145 #[.val (.ref ag), .val (.ref ak), .val (.ref ad), .val (.int r_), .val (.ref b94), .val (.int t3), .val (.int (1 : Int32))] [(.int t3)])) (fun _ zq => XS.iload X106.here hx rfl (hb hby own_d_m6_143) rfl zq) ?_
  refine own_st (T' := T106) (g' := (mkF m 146 #[.val (.ref ag), .val (.ref ak), .val (.ref ad), .val (.int r_), .val (.ref b94), .val (.int t3), .val (.int (1 : Int32))] [(.int (2 : Int32)), (.int t3)])) (fun _ zq => XS.iconst X106.here hx rfl (hb hby own_d_m6_145) zq) ?_
  suffices J183 : ∀ (T107 : State) (lo107 : List Loc) (h107 : Heap) (X107 : Stand p l e ({ frames := 0, cells := 1, slots := 4, locals := 0 } : Room) s m #[(.ref ag), (.ref ak), (.ref ad), (.int r_)] below meth c T107 lo107 1 4) (e107 : T107.heap = h107) (N107 : Fr n0 lo107) (Z107 : n0 ≤ h107.size) (K107 : Keep h0 h107 [ad]) (V_g : own_AV Z h107 ag .long (own_L3 (own_f fd rn) fk).length (fun i => .long ((own_L3 (own_f fd rn) fk).getD i 0))) (V_k : own_AV Z h107 ak .long 3 (fun i => .long (fk i))) (V_d : own_AV Z h107 ad .boolean 9 (fun i => .int ((own_updI (own_updI (own_updI fd (3 * rn) 0) (3 * rn + 1) 0) (3 * rn + 2) 0) i))) (V_b94 : own_AV Z h107 b94 .long 4 f3), own_Go p e below s (Q_check Z ag ak fk ad fd r_ rn h0 n0) ({ frames := 0, cells := 1, slots := 4, locals := 0 } : Room).cells ({ frames := 0, cells := 1, slots := 4, locals := 0 } : Room).slots T107 (mkF m 183 #[.val (.ref ag), .val (.ref ak), .val (.ref ad), .val (.int r_), .val (.ref b94), .val (.int t3), .val (.int (1 : Int32))] []) by
    by_cases hn : t3 < (2 : Int32)
    · skip
      refine own_st (T' := T106) (g' := (mkF m 183 #[.val (.ref ag), .val (.ref ak), .val (.ref ad), .val (.int r_), .val (.ref b94), .val (.int t3), .val (.int (1 : Int32))] [])) (fun _ zq => XS.icmpYes X106.here hx rfl (pc0 := 146) (pc' := 183) rfl (hb hby own_d_m6_146) rfl (tlt hn).1 (by decide) (by decide) zq) ?_
      exact J183 T106 _ h106 (X106.more (Nat.le_of_ble_eq_true rfl) (Nat.le_of_ble_eq_true rfl)) e106 N101 Z101 K101 V_g V_k V_d V_b94
    · skip
      refine own_st (T' := T106) (g' := (mkF m 149 #[.val (.ref ag), .val (.ref ak), .val (.ref ad), .val (.int r_), .val (.ref b94), .val (.int t3), .val (.int (1 : Int32))] [])) (fun _ zq => XS.icmpNo X106.here hx rfl (hb hby own_d_m6_146) rfl (flt hn).1 zq) ?_
      refine own_st (T' := T106) (g' := (mkF m 151 #[.val (.ref ag), .val (.ref ak), .val (.ref ad), .val (.int r_), .val (.ref b94), .val (.int t3), .val (.int (1 : Int32))] [(.int (1 : Int32))])) (fun _ zq => XS.iload X106.here hx rfl (hb hby own_d_m6_149) rfl zq) ?_
      have hbn : 2 ≤ (own_L3 (own_f fd rn) fk).length := own_ge (a := 2) rfl hp3 hn
      refine own_st (T' := T106) (g' := (mkF m 154 #[.val (.ref ag), .val (.ref ak), .val (.ref ad), .val (.int r_), .val (.ref b94), .val (.int t3), .val (.int (1 : Int32))] [])) (fun _ zq => XS.ifNo X106.here hx rfl (hb hby own_d_m6_151) rfl ((if0 _ _).trans (feq (by decide)).1) zq) ?_
      refine own_st (T' := T106) (g' := (mkF m 155 #[.val (.ref ag), .val (.ref ak), .val (.ref ad), .val (.int r_), .val (.ref b94), .val (.int t3), .val (.int (1 : Int32))] [(.ref ag)])) (fun _ zq => XS.aloadN X106.here hx rfl (hb hby own_d_m6_154) rfl rfl zq) ?_
      refine own_st (T' := T106) (g' := (mkF m 156 #[.val (.ref ag), .val (.ref ak), .val (.ref ad), .val (.int r_), .val (.ref b94), .val (.int t3), .val (.int (1 : Int32))] [(.int (0 : Int32)), (.ref ag)])) (fun _ zq => XS.iconst X106.here hx rfl (hb hby own_d_m6_155) zq) ?_
      refine own_st (T' := T106) (g' := (mkF m 157 #[.val (.ref ag), .val (.ref ak), .val (.ref ad), .val (.int r_), .val (.ref b94), .val (.int t3), .val (.int (1 : Int32))] [(.long ((own_L3 (own_f fd rn) fk).getD 0 0))])) (own_ldJ X106 hx hZ e106 V_g (j := (0 : Int32)) (0) rfl (by omega) (w := (.long ((own_L3 (own_f fd rn) fk).getD 0 0))) rfl (g := (mkF m 156 #[.val (.ref ag), .val (.ref ak), .val (.ref ad), .val (.int r_), .val (.ref b94), .val (.int t3), .val (.int (1 : Int32))] [(.int (0 : Int32)), (.ref ag)])) rfl rfl (hb hby own_d_m6_156)) ?_
      refine own_st (T' := T106) (g' := (mkF m 159 #[.val (.ref ag), .val (.ref ak), .val (.ref ad), .val (.int r_), .val (.ref b94), .val (.int t3), .val (.int (1 : Int32))] [(.ref b94), (.long ((own_L3 (own_f fd rn) fk).getD 0 0))])) (fun _ zq => XS.aload X106.here hx rfl (hb hby own_d_m6_157) rfl rfl zq) ?_
      refine own_st (T' := T106) (g' := (mkF m 160 #[.val (.ref ag), .val (.ref ak), .val (.ref ad), .val (.int r_), .val (.ref b94), .val (.int t3), .val (.int (1 : Int32))] [(.int (0 : Int32)), (.ref b94), (.long ((own_L3 (own_f fd rn) fk).getD 0 0))])) (fun _ zq => XS.iconst X106.here hx rfl (hb hby own_d_m6_159) zq) ?_
      refine own_st (T' := T106) (g' := (mkF m 161 #[.val (.ref ag), .val (.ref ak), .val (.ref ad), .val (.int r_), .val (.ref b94), .val (.int t3), .val (.int (1 : Int32))] [(.long ((own_L3 (own_f fd rn) fk).getD 0 0)), (.long ((own_L3 (own_f fd rn) fk).getD 0 0))])) (own_ldJ X106 hx hZ e106 V_b94 (j := (0 : Int32)) (0) rfl (by omega) (w := (.long ((own_L3 (own_f fd rn) fk).getD 0 0))) (hf3 0 (by omega)) (g := (mkF m 160 #[.val (.ref ag), .val (.ref ak), .val (.ref ad), .val (.int r_), .val (.ref b94), .val (.int t3), .val (.int (1 : Int32))] [(.int (0 : Int32)), (.ref b94), (.long ((own_L3 (own_f fd rn) fk).getD 0 0))])) rfl rfl (hb hby own_d_m6_160)) ?_
      refine own_st (T' := T106) (g' := (mkF m 162 #[.val (.ref ag), .val (.ref ak), .val (.ref ad), .val (.int r_), .val (.ref b94), .val (.int t3), .val (.int (1 : Int32))] [(.int (lcmpW ((own_L3 (own_f fd rn) fk).getD 0 0) ((own_L3 (own_f fd rn) fk).getD 0 0)))])) (fun _ zq => XS.lcmp X106.here hx rfl (hb hby own_d_m6_161) rfl zq) ?_
      refine own_st (T' := T106) (g' := (mkF m 165 #[.val (.ref ag), .val (.ref ak), .val (.ref ad), .val (.int r_), .val (.ref b94), .val (.int t3), .val (.int (1 : Int32))] [])) (fun _ zq => XS.ifNo X106.here hx rfl (hb hby own_d_m6_162) rfl (own_lteq rfl).2 zq) ?_
      refine own_st (T' := T106) (g' := (mkF m 166 #[.val (.ref ag), .val (.ref ak), .val (.ref ad), .val (.int r_), .val (.ref b94), .val (.int t3), .val (.int (1 : Int32))] [(.ref ag)])) (fun _ zq => XS.aloadN X106.here hx rfl (hb hby own_d_m6_165) rfl rfl zq) ?_
      refine own_st (T' := T106) (g' := (mkF m 167 #[.val (.ref ag), .val (.ref ak), .val (.ref ad), .val (.int r_), .val (.ref b94), .val (.int t3), .val (.int (1 : Int32))] [(.int (1 : Int32)), (.ref ag)])) (fun _ zq => XS.iconst X106.here hx rfl (hb hby own_d_m6_166) zq) ?_
      refine own_st (T' := T106) (g' := (mkF m 168 #[.val (.ref ag), .val (.ref ak), .val (.ref ad), .val (.int r_), .val (.ref b94), .val (.int t3), .val (.int (1 : Int32))] [(.long ((own_L3 (own_f fd rn) fk).getD 1 0))])) (own_ldJ X106 hx hZ e106 V_g (j := (1 : Int32)) (1) rfl (by omega) (w := (.long ((own_L3 (own_f fd rn) fk).getD 1 0))) rfl (g := (mkF m 167 #[.val (.ref ag), .val (.ref ak), .val (.ref ad), .val (.int r_), .val (.ref b94), .val (.int t3), .val (.int (1 : Int32))] [(.int (1 : Int32)), (.ref ag)])) rfl rfl (hb hby own_d_m6_167)) ?_
      refine own_st (T' := T106) (g' := (mkF m 170 #[.val (.ref ag), .val (.ref ak), .val (.ref ad), .val (.int r_), .val (.ref b94), .val (.int t3), .val (.int (1 : Int32))] [(.ref b94), (.long ((own_L3 (own_f fd rn) fk).getD 1 0))])) (fun _ zq => XS.aload X106.here hx rfl (hb hby own_d_m6_168) rfl rfl zq) ?_
      refine own_st (T' := T106) (g' := (mkF m 171 #[.val (.ref ag), .val (.ref ak), .val (.ref ad), .val (.int r_), .val (.ref b94), .val (.int t3), .val (.int (1 : Int32))] [(.int (1 : Int32)), (.ref b94), (.long ((own_L3 (own_f fd rn) fk).getD 1 0))])) (fun _ zq => XS.iconst X106.here hx rfl (hb hby own_d_m6_170) zq) ?_
      refine own_st (T' := T106) (g' := (mkF m 172 #[.val (.ref ag), .val (.ref ak), .val (.ref ad), .val (.int r_), .val (.ref b94), .val (.int t3), .val (.int (1 : Int32))] [(.long ((own_L3 (own_f fd rn) fk).getD 1 0)), (.long ((own_L3 (own_f fd rn) fk).getD 1 0))])) (own_ldJ X106 hx hZ e106 V_b94 (j := (1 : Int32)) (1) rfl (by omega) (w := (.long ((own_L3 (own_f fd rn) fk).getD 1 0))) (hf3 1 (by omega)) (g := (mkF m 171 #[.val (.ref ag), .val (.ref ak), .val (.ref ad), .val (.int r_), .val (.ref b94), .val (.int t3), .val (.int (1 : Int32))] [(.int (1 : Int32)), (.ref b94), (.long ((own_L3 (own_f fd rn) fk).getD 1 0))])) rfl rfl (hb hby own_d_m6_171)) ?_
      refine own_st (T' := T106) (g' := (mkF m 173 #[.val (.ref ag), .val (.ref ak), .val (.ref ad), .val (.int r_), .val (.ref b94), .val (.int t3), .val (.int (1 : Int32))] [(.int (lcmpW ((own_L3 (own_f fd rn) fk).getD 1 0) ((own_L3 (own_f fd rn) fk).getD 1 0)))])) (fun _ zq => XS.lcmp X106.here hx rfl (hb hby own_d_m6_172) rfl zq) ?_
      refine own_st (T' := T106) (g' := (mkF m 176 #[.val (.ref ag), .val (.ref ak), .val (.ref ad), .val (.int r_), .val (.ref b94), .val (.int t3), .val (.int (1 : Int32))] [])) (fun _ zq => XS.ifNo X106.here hx rfl (hb hby own_d_m6_173) rfl (own_lteq rfl).2 zq) ?_
      refine own_st (T' := T106) (g' := (mkF m 177 #[.val (.ref ag), .val (.ref ak), .val (.ref ad), .val (.int r_), .val (.ref b94), .val (.int t3), .val (.int (1 : Int32))] [(.int (1 : Int32))])) (fun _ zq => XS.iconst X106.here hx rfl (hb hby own_d_m6_176) zq) ?_
      refine own_st (T' := T106) (g' := (mkF m 181 #[.val (.ref ag), .val (.ref ak), .val (.ref ad), .val (.int r_), .val (.ref b94), .val (.int t3), .val (.int (1 : Int32))] [(.int (1 : Int32))])) (fun _ zq => XS.goto X106.here hx rfl (pc0 := 177) (pc' := 181) rfl (hb hby own_d_m6_177) (by decide) (by decide) zq) ?_
      refine own_st (T' := T106) (g' := (mkF m 183 #[.val (.ref ag), .val (.ref ak), .val (.ref ad), .val (.int r_), .val (.ref b94), .val (.int t3), .val (.int (1 : Int32))] [])) (fun _ zq => XS.istore X106.here hx rfl (hb hby own_d_m6_181) rfl (l' := #[.val (.ref ag), .val (.ref ak), .val (.ref ad), .val (.int r_), .val (.ref b94), .val (.int t3), .val (.int (1 : Int32))]) rfl zq) ?_
      exact J183 T106 _ h106 (X106.more (Nat.le_of_ble_eq_true rfl) (Nat.le_of_ble_eq_true rfl)) e106 N101 Z101 K101 V_g V_k V_d V_b94
  intro T107 lo107 h107 X107 e107 N107 Z107 K107 V_g V_k V_d V_b94
  refine own_st (T' := T107) (g' := (mkF m 185 #[.val (.ref ag), .val (.ref ak), .val (.ref ad), .val (.int r_), .val (.ref b94), .val (.int t3), .val (.int (1 : Int32))] [(.int t3)])) (fun _ zq => XS.iload X107.here hx rfl (hb hby own_d_m6_183) rfl zq) ?_
  refine own_st (T' := T107) (g' := (mkF m 186 #[.val (.ref ag), .val (.ref ak), .val (.ref ad), .val (.int r_), .val (.ref b94), .val (.int t3), .val (.int (1 : Int32))] [(.int (4 : Int32)), (.int t3)])) (fun _ zq => XS.iconst X107.here hx rfl (hb hby own_d_m6_185) zq) ?_
  by_cases hn : t3 < (4 : Int32)
  · skip
    refine own_st (T' := T107) (g' := (mkF m 223 #[.val (.ref ag), .val (.ref ak), .val (.ref ad), .val (.int r_), .val (.ref b94), .val (.int t3), .val (.int (1 : Int32))] [])) (fun _ zq => XS.icmpYes X107.here hx rfl (pc0 := 186) (pc' := 223) rfl (hb hby own_d_m6_186) rfl (tlt hn).1 (by decide) (by decide) zq) ?_
    refine own_st (T' := T107) (g' := (mkF m 225 #[.val (.ref ag), .val (.ref ak), .val (.ref ad), .val (.int r_), .val (.ref b94), .val (.int t3), .val (.int (1 : Int32))] [(.int (1 : Int32))])) (fun _ zq => XS.iload X107.here hx rfl (hb hby own_d_m6_223) rfl zq) ?_
    exact own_ret X107 hx hret hlk (i := .ireturn) rfl (Or.inl ⟨rfl, by decide, _, rfl⟩) (hb hby own_d_m6_225) e107 (Nat.le_of_ble_eq_true rfl) (Nat.le_of_ble_eq_true rfl) ⟨rfl, N107, K107, V_d⟩
  · skip
    refine own_st (T' := T107) (g' := (mkF m 189 #[.val (.ref ag), .val (.ref ak), .val (.ref ad), .val (.int r_), .val (.ref b94), .val (.int t3), .val (.int (1 : Int32))] [])) (fun _ zq => XS.icmpNo X107.here hx rfl (hb hby own_d_m6_186) rfl (flt hn).1 zq) ?_
    refine own_st (T' := T107) (g' := (mkF m 191 #[.val (.ref ag), .val (.ref ak), .val (.ref ad), .val (.int r_), .val (.ref b94), .val (.int t3), .val (.int (1 : Int32))] [(.int (1 : Int32))])) (fun _ zq => XS.iload X107.here hx rfl (hb hby own_d_m6_189) rfl zq) ?_
    have hbn : 4 ≤ (own_L3 (own_f fd rn) fk).length := own_ge (a := 4) rfl hp3 hn
    refine own_st (T' := T107) (g' := (mkF m 194 #[.val (.ref ag), .val (.ref ak), .val (.ref ad), .val (.int r_), .val (.ref b94), .val (.int t3), .val (.int (1 : Int32))] [])) (fun _ zq => XS.ifNo X107.here hx rfl (hb hby own_d_m6_191) rfl ((if0 _ _).trans (feq (by decide)).1) zq) ?_
    refine own_st (T' := T107) (g' := (mkF m 195 #[.val (.ref ag), .val (.ref ak), .val (.ref ad), .val (.int r_), .val (.ref b94), .val (.int t3), .val (.int (1 : Int32))] [(.ref ag)])) (fun _ zq => XS.aloadN X107.here hx rfl (hb hby own_d_m6_194) rfl rfl zq) ?_
    refine own_st (T' := T107) (g' := (mkF m 196 #[.val (.ref ag), .val (.ref ak), .val (.ref ad), .val (.int r_), .val (.ref b94), .val (.int t3), .val (.int (1 : Int32))] [(.int (2 : Int32)), (.ref ag)])) (fun _ zq => XS.iconst X107.here hx rfl (hb hby own_d_m6_195) zq) ?_
    refine own_st (T' := T107) (g' := (mkF m 197 #[.val (.ref ag), .val (.ref ak), .val (.ref ad), .val (.int r_), .val (.ref b94), .val (.int t3), .val (.int (1 : Int32))] [(.long ((own_L3 (own_f fd rn) fk).getD 2 0))])) (own_ldJ X107 hx hZ e107 V_g (j := (2 : Int32)) (2) rfl (by omega) (w := (.long ((own_L3 (own_f fd rn) fk).getD 2 0))) rfl (g := (mkF m 196 #[.val (.ref ag), .val (.ref ak), .val (.ref ad), .val (.int r_), .val (.ref b94), .val (.int t3), .val (.int (1 : Int32))] [(.int (2 : Int32)), (.ref ag)])) rfl rfl (hb hby own_d_m6_196)) ?_
    refine own_st (T' := T107) (g' := (mkF m 199 #[.val (.ref ag), .val (.ref ak), .val (.ref ad), .val (.int r_), .val (.ref b94), .val (.int t3), .val (.int (1 : Int32))] [(.ref b94), (.long ((own_L3 (own_f fd rn) fk).getD 2 0))])) (fun _ zq => XS.aload X107.here hx rfl (hb hby own_d_m6_197) rfl rfl zq) ?_
    refine own_st (T' := T107) (g' := (mkF m 200 #[.val (.ref ag), .val (.ref ak), .val (.ref ad), .val (.int r_), .val (.ref b94), .val (.int t3), .val (.int (1 : Int32))] [(.int (2 : Int32)), (.ref b94), (.long ((own_L3 (own_f fd rn) fk).getD 2 0))])) (fun _ zq => XS.iconst X107.here hx rfl (hb hby own_d_m6_199) zq) ?_
    refine own_st (T' := T107) (g' := (mkF m 201 #[.val (.ref ag), .val (.ref ak), .val (.ref ad), .val (.int r_), .val (.ref b94), .val (.int t3), .val (.int (1 : Int32))] [(.long ((own_L3 (own_f fd rn) fk).getD 2 0)), (.long ((own_L3 (own_f fd rn) fk).getD 2 0))])) (own_ldJ X107 hx hZ e107 V_b94 (j := (2 : Int32)) (2) rfl (by omega) (w := (.long ((own_L3 (own_f fd rn) fk).getD 2 0))) (hf3 2 (by omega)) (g := (mkF m 200 #[.val (.ref ag), .val (.ref ak), .val (.ref ad), .val (.int r_), .val (.ref b94), .val (.int t3), .val (.int (1 : Int32))] [(.int (2 : Int32)), (.ref b94), (.long ((own_L3 (own_f fd rn) fk).getD 2 0))])) rfl rfl (hb hby own_d_m6_200)) ?_
    refine own_st (T' := T107) (g' := (mkF m 202 #[.val (.ref ag), .val (.ref ak), .val (.ref ad), .val (.int r_), .val (.ref b94), .val (.int t3), .val (.int (1 : Int32))] [(.int (lcmpW ((own_L3 (own_f fd rn) fk).getD 2 0) ((own_L3 (own_f fd rn) fk).getD 2 0)))])) (fun _ zq => XS.lcmp X107.here hx rfl (hb hby own_d_m6_201) rfl zq) ?_
    refine own_st (T' := T107) (g' := (mkF m 205 #[.val (.ref ag), .val (.ref ak), .val (.ref ad), .val (.int r_), .val (.ref b94), .val (.int t3), .val (.int (1 : Int32))] [])) (fun _ zq => XS.ifNo X107.here hx rfl (hb hby own_d_m6_202) rfl (own_lteq rfl).2 zq) ?_
    refine own_st (T' := T107) (g' := (mkF m 206 #[.val (.ref ag), .val (.ref ak), .val (.ref ad), .val (.int r_), .val (.ref b94), .val (.int t3), .val (.int (1 : Int32))] [(.ref ag)])) (fun _ zq => XS.aloadN X107.here hx rfl (hb hby own_d_m6_205) rfl rfl zq) ?_
    refine own_st (T' := T107) (g' := (mkF m 207 #[.val (.ref ag), .val (.ref ak), .val (.ref ad), .val (.int r_), .val (.ref b94), .val (.int t3), .val (.int (1 : Int32))] [(.int (3 : Int32)), (.ref ag)])) (fun _ zq => XS.iconst X107.here hx rfl (hb hby own_d_m6_206) zq) ?_
    refine own_st (T' := T107) (g' := (mkF m 208 #[.val (.ref ag), .val (.ref ak), .val (.ref ad), .val (.int r_), .val (.ref b94), .val (.int t3), .val (.int (1 : Int32))] [(.long ((own_L3 (own_f fd rn) fk).getD 3 0))])) (own_ldJ X107 hx hZ e107 V_g (j := (3 : Int32)) (3) rfl (by omega) (w := (.long ((own_L3 (own_f fd rn) fk).getD 3 0))) rfl (g := (mkF m 207 #[.val (.ref ag), .val (.ref ak), .val (.ref ad), .val (.int r_), .val (.ref b94), .val (.int t3), .val (.int (1 : Int32))] [(.int (3 : Int32)), (.ref ag)])) rfl rfl (hb hby own_d_m6_207)) ?_
    refine own_st (T' := T107) (g' := (mkF m 210 #[.val (.ref ag), .val (.ref ak), .val (.ref ad), .val (.int r_), .val (.ref b94), .val (.int t3), .val (.int (1 : Int32))] [(.ref b94), (.long ((own_L3 (own_f fd rn) fk).getD 3 0))])) (fun _ zq => XS.aload X107.here hx rfl (hb hby own_d_m6_208) rfl rfl zq) ?_
    refine own_st (T' := T107) (g' := (mkF m 211 #[.val (.ref ag), .val (.ref ak), .val (.ref ad), .val (.int r_), .val (.ref b94), .val (.int t3), .val (.int (1 : Int32))] [(.int (3 : Int32)), (.ref b94), (.long ((own_L3 (own_f fd rn) fk).getD 3 0))])) (fun _ zq => XS.iconst X107.here hx rfl (hb hby own_d_m6_210) zq) ?_
    refine own_st (T' := T107) (g' := (mkF m 212 #[.val (.ref ag), .val (.ref ak), .val (.ref ad), .val (.int r_), .val (.ref b94), .val (.int t3), .val (.int (1 : Int32))] [(.long ((own_L3 (own_f fd rn) fk).getD 3 0)), (.long ((own_L3 (own_f fd rn) fk).getD 3 0))])) (own_ldJ X107 hx hZ e107 V_b94 (j := (3 : Int32)) (3) rfl (by omega) (w := (.long ((own_L3 (own_f fd rn) fk).getD 3 0))) (hf3 3 (by omega)) (g := (mkF m 211 #[.val (.ref ag), .val (.ref ak), .val (.ref ad), .val (.int r_), .val (.ref b94), .val (.int t3), .val (.int (1 : Int32))] [(.int (3 : Int32)), (.ref b94), (.long ((own_L3 (own_f fd rn) fk).getD 3 0))])) rfl rfl (hb hby own_d_m6_211)) ?_
    refine own_st (T' := T107) (g' := (mkF m 213 #[.val (.ref ag), .val (.ref ak), .val (.ref ad), .val (.int r_), .val (.ref b94), .val (.int t3), .val (.int (1 : Int32))] [(.int (lcmpW ((own_L3 (own_f fd rn) fk).getD 3 0) ((own_L3 (own_f fd rn) fk).getD 3 0)))])) (fun _ zq => XS.lcmp X107.here hx rfl (hb hby own_d_m6_212) rfl zq) ?_
    refine own_st (T' := T107) (g' := (mkF m 216 #[.val (.ref ag), .val (.ref ak), .val (.ref ad), .val (.int r_), .val (.ref b94), .val (.int t3), .val (.int (1 : Int32))] [])) (fun _ zq => XS.ifNo X107.here hx rfl (hb hby own_d_m6_213) rfl (own_lteq rfl).2 zq) ?_
    refine own_st (T' := T107) (g' := (mkF m 217 #[.val (.ref ag), .val (.ref ak), .val (.ref ad), .val (.int r_), .val (.ref b94), .val (.int t3), .val (.int (1 : Int32))] [(.int (1 : Int32))])) (fun _ zq => XS.iconst X107.here hx rfl (hb hby own_d_m6_216) zq) ?_
    refine own_st (T' := T107) (g' := (mkF m 221 #[.val (.ref ag), .val (.ref ak), .val (.ref ad), .val (.int r_), .val (.ref b94), .val (.int t3), .val (.int (1 : Int32))] [(.int (1 : Int32))])) (fun _ zq => XS.goto X107.here hx rfl (pc0 := 217) (pc' := 221) rfl (hb hby own_d_m6_217) (by decide) (by decide) zq) ?_
    refine own_st (T' := T107) (g' := (mkF m 223 #[.val (.ref ag), .val (.ref ak), .val (.ref ad), .val (.int r_), .val (.ref b94), .val (.int t3), .val (.int (1 : Int32))] [])) (fun _ zq => XS.istore X107.here hx rfl (hb hby own_d_m6_221) rfl (l' := #[.val (.ref ag), .val (.ref ak), .val (.ref ad), .val (.int r_), .val (.ref b94), .val (.int t3), .val (.int (1 : Int32))]) rfl zq) ?_
    refine own_st (T' := T107) (g' := (mkF m 225 #[.val (.ref ag), .val (.ref ak), .val (.ref ad), .val (.int r_), .val (.ref b94), .val (.int t3), .val (.int (1 : Int32))] [(.int (1 : Int32))])) (fun _ zq => XS.iload X107.here hx rfl (hb hby own_d_m6_223) rfl zq) ?_
    exact own_ret X107 hx hret hlk (i := .ireturn) rfl (Or.inl ⟨rfl, by decide, _, rfl⟩) (hb hby own_d_m6_225) e107 (Nat.le_of_ble_eq_true rfl) (Nat.le_of_ble_eq_true rfl) ⟨rfl, N107, K107, V_d⟩
def Q_law (Z : State) (p0 : Int32) (p1 : Int32) (p2 : Int32) (xx : Int64) (yy : Int64) (zz : Int64) (aN : Addr) (fN : Nat → Value) (h0 : Heap) (n0 : Nat) (v : Option Value) (h : Heap) (L : List Loc) : Prop := v = some (.int 1) ∧ Fr n0 L
theorem ef_law (m : MethodId) (x0 : Int32) (x1 : Int32) (x2 : Int32) (x3 : Int64) (x4 : Int64) (x5 : Int64)  : entryFrame m #[(.int x0), (.int x1), (.int x2), (.long x3), (.long x4), (.long x5)] maxLocals = mkF m 0 #[.val (.int x0), .val (.int x1), .val (.int x2), .val (.long x3), .second, .val (.long x4), .second, .val (.long x5), .second, .unset, .unset, .unset, .unset, .unset, .unset, .unset, .unset, .unset, .unset, .unset] [] := by first | (simp [entryFrame, mkF, argsToLocals, Value.category, maxLocals]; done) | rfl
set_option maxRecDepth 65536 in
set_option maxHeartbeats 40000000 in
theorem rm_law (l : Launch) (Z : State) (a0 : Array Value) (hw : ∀ d ∈ tables_1, d.before a0 Z = true) (ws : List Jvm.Cond) (p0 : Int32) (p1 : Int32) (p2 : Int32) (xx : Int64) (yy : Int64) (zz : Int64) (aN : Addr) (fN : Nat → Value) (h0 : Heap) (n0 : Nat) (Zs : n0 ≤ h0.size) (O : Old Z n0 h0) (S0 : Sta Z Z.heap "com/example/coterie/coterie/runtime/KnownRequests" "NOTHING_NEW" "[J" (.ref aN)) (VN : own_AV Z Z.heap aN .long 0 fN) :
    MetFree l x (head1 (Jvm.Cond.code x code maxLocals ret :: ws) room_1) (fun a U => a = #[(.int p0), (.int p1), (.int p2), (.long xx), (.long yy), (.long zz)] ∧ Z.Warmed39 U.vm ∧ U.heap = h0) (fun _ _ _ _ _ => True) (fun _ U o U' => ∃ v L, o = .returned v ∧ (Q_law Z p0 p1 p2 xx yy zz aN fN h0 n0) v U'.heap L ∧ FrameEnd U o U' L 48 192) := by
  refine MetFree.of_bodySF (plainFor_of_name own_pn2) hisR ?_
  intro p e s m args below meth c s₁ Bd hml0 hP hK
  obtain ⟨rfl, hZ, hh⟩ := hP
  have hx := Bd.exec
  have hby := Bd.bytes
  have hlk := BodyLoose.notSynchronized Bd
  have hret := Bd.returns
  have hml : c.maxLocals = 20 := hml0
  have hown : s.vm.findClass "com/example/coterie/coterie/runtime/KnownRequestsNewsPinLaw" = some m.cls := findClass_of_methodNamed Bd.named
  have hnm := (name_of_methodNamed Bd.named Bd.method).1
  have X : Stand p l e room_1 s m #[(.int p0), (.int p1), (.int p2), (.long xx), (.long yy), (.long zz)] below meth c s₁ [] 0 0 := Stand.of_body Bd
  have eT : s₁.heap = h0 := by rw [← hh, Bd.state]; rfl
  have N := Fr.nil n0
  have K0 : Keep h0 h0 [] := Keep.refl _ _
  show own_Go p e below s (Q_law Z p0 p1 p2 xx yy zz aN fN h0 n0) 48 192 s₁ (entryFrame m #[(.int p0), (.int p1), (.int p2), (.long xx), (.long yy), (.long zz)] maxLocals)
  rw [ef_law m p0 p1 p2 xx yy zz]
  refine own_st (T' := s₁) (g' := (mkF m 1 #[.val (.int p0), .val (.int p1), .val (.int p2), .val (.long xx), .second, .val (.long yy), .second, .val (.long zz), .second, .unset, .unset, .unset, .unset, .unset, .unset, .unset, .unset, .unset, .unset, .unset] [(.int p0)])) (fun _ zq => XS.iloadN X.here hx rfl (hb hby at_0) rfl zq) ?_
  refine own_st (T' := s₁) (g' := (mkF m 3 #[.val (.int p0), .val (.int p1), .val (.int p2), .val (.long xx), .second, .val (.long yy), .second, .val (.long zz), .second, .unset, .unset, .unset, .unset, .unset, .unset, .unset, .unset, .unset, .unset, .unset] [(.int (2147483647 : Int32)), (.int p0)])) (fun _ zq => X.ldcInt hx hown (mvT hZ (hw _ (List.mem_of_getElem? (i := 0) rfl))) (g := (mkF m 1 #[.val (.int p0), .val (.int p1), .val (.int p2), .val (.long xx), .second, .val (.long yy), .second, .val (.long zz), .second, .unset, .unset, .unset, .unset, .unset, .unset, .unset, .unset, .unset, .unset, .unset] [(.int p0)])) rfl (hb hby at_1) _ zq) ?_
  refine own_st (T' := s₁) (g' := (mkF m 4 #[.val (.int p0), .val (.int p1), .val (.int p2), .val (.long xx), .second, .val (.long yy), .second, .val (.long zz), .second, .unset, .unset, .unset, .unset, .unset, .unset, .unset, .unset, .unset, .unset, .unset] [(.int (p0 &&& (2147483647 : Int32)))])) (fun _ zq => XS.iand X.here hx rfl (hb hby at_3) rfl zq) ?_
  refine own_st (T' := s₁) (g' := (mkF m 5 #[.val (.int p0), .val (.int p1), .val (.int p2), .val (.long xx), .second, .val (.long yy), .second, .val (.long zz), .second, .unset, .unset, .unset, .unset, .unset, .unset, .unset, .unset, .unset, .unset, .unset] [(.int (3 : Int32)), (.int (p0 &&& (2147483647 : Int32)))])) (fun _ zq => XS.iconst X.here hx rfl (hb hby at_4) zq) ?_
  refine own_st (T' := s₁) (g' := (mkF m 6 #[.val (.int p0), .val (.int p1), .val (.int p2), .val (.long xx), .second, .val (.long yy), .second, .val (.long zz), .second, .unset, .unset, .unset, .unset, .unset, .unset, .unset, .unset, .unset, .unset, .unset] [(.int ((p0 &&& (2147483647 : Int32)) % (3 : Int32)))])) (fun _ zq => iremM (g := (mkF m 5 #[.val (.int p0), .val (.int p1), .val (.int p2), .val (.long xx), .second, .val (.long yy), .second, .val (.long zz), .second, .unset, .unset, .unset, .unset, .unset, .unset, .unset, .unset, .unset, .unset, .unset] [(.int (3 : Int32)), (.int (p0 &&& (2147483647 : Int32)))])) X hx rfl (hb hby at_5) rfl (by decide) zq) ?_
  refine own_nm (f := fun z_ => (mkF m 6 #[.val (.int p0), .val (.int p1), .val (.int p2), .val (.long xx), .second, .val (.long yy), .second, .val (.long zz), .second, .unset, .unset, .unset, .unset, .unset, .unset, .unset, .unset, .unset, .unset, .unset] [(.int z_)])) ((p0 &&& (2147483647 : Int32)) % (3 : Int32)) (fun sf hsf0 => ?_)
  show own_Go p e below s (Q_law Z p0 p1 p2 xx yy zz aN fN h0 n0) 48 192 s₁ (mkF m 6 #[.val (.int p0), .val (.int p1), .val (.int p2), .val (.long xx), .second, .val (.long yy), .second, .val (.long zz), .second, .unset, .unset, .unset, .unset, .unset, .unset, .unset, .unset, .unset, .unset, .unset] [(.int sf)])
  obtain ⟨sn, hs, hls⟩ := own_rem p0 (3 : Int32) sf 3 rfl (by decide) hsf0
  refine own_st (T' := s₁) (g' := (mkF m 8 #[.val (.int p0), .val (.int p1), .val (.int p2), .val (.long xx), .second, .val (.long yy), .second, .val (.long zz), .second, .val (.int sf), .unset, .unset, .unset, .unset, .unset, .unset, .unset, .unset, .unset, .unset] [])) (fun _ zq => XS.istore X.here hx rfl (hb hby at_6) rfl (l' := #[.val (.int p0), .val (.int p1), .val (.int p2), .val (.long xx), .second, .val (.long yy), .second, .val (.long zz), .second, .val (.int sf), .unset, .unset, .unset, .unset, .unset, .unset, .unset, .unset, .unset, .unset]) rfl zq) ?_
  refine own_st (T' := s₁) (g' := (mkF m 10 #[.val (.int p0), .val (.int p1), .val (.int p2), .val (.long xx), .second, .val (.long yy), .second, .val (.long zz), .second, .val (.int sf), .unset, .unset, .unset, .unset, .unset, .unset, .unset, .unset, .unset, .unset] [(.int sf)])) (fun _ zq => XS.iload X.here hx rfl (hb hby at_8) rfl zq) ?_
  refine own_st (T' := s₁) (g' := (mkF m 11 #[.val (.int p0), .val (.int p1), .val (.int p2), .val (.long xx), .second, .val (.long yy), .second, .val (.long zz), .second, .val (.int sf), .unset, .unset, .unset, .unset, .unset, .unset, .unset, .unset, .unset, .unset] [(.int (1 : Int32)), (.int sf)])) (fun _ zq => XS.iconst X.here hx rfl (hb hby at_10) zq) ?_
  refine own_st (T' := s₁) (g' := (mkF m 12 #[.val (.int p0), .val (.int p1), .val (.int p2), .val (.long xx), .second, .val (.long yy), .second, .val (.long zz), .second, .val (.int sf), .unset, .unset, .unset, .unset, .unset, .unset, .unset, .unset, .unset, .unset] [(.int (sf + (1 : Int32)))])) (fun _ zq => XS.iadd X.here hx rfl (hb hby at_11) rfl zq) ?_
  refine own_st (T' := s₁) (g' := (mkF m 13 #[.val (.int p0), .val (.int p1), .val (.int p2), .val (.long xx), .second, .val (.long yy), .second, .val (.long zz), .second, .val (.int sf), .unset, .unset, .unset, .unset, .unset, .unset, .unset, .unset, .unset, .unset] [(.int (3 : Int32)), (.int (sf + (1 : Int32)))])) (fun _ zq => XS.iconst X.here hx rfl (hb hby at_12) zq) ?_
  refine own_st (T' := s₁) (g' := (mkF m 14 #[.val (.int p0), .val (.int p1), .val (.int p2), .val (.long xx), .second, .val (.long yy), .second, .val (.long zz), .second, .val (.int sf), .unset, .unset, .unset, .unset, .unset, .unset, .unset, .unset, .unset, .unset] [(.int ((sf + (1 : Int32)) % (3 : Int32)))])) (fun _ zq => iremM (g := (mkF m 13 #[.val (.int p0), .val (.int p1), .val (.int p2), .val (.long xx), .second, .val (.long yy), .second, .val (.long zz), .second, .val (.int sf), .unset, .unset, .unset, .unset, .unset, .unset, .unset, .unset, .unset, .unset] [(.int (3 : Int32)), (.int (sf + (1 : Int32)))])) X hx rfl (hb hby at_13) rfl (by decide) zq) ?_
  refine own_nm (f := fun z_ => (mkF m 14 #[.val (.int p0), .val (.int p1), .val (.int p2), .val (.long xx), .second, .val (.long yy), .second, .val (.long zz), .second, .val (.int sf), .unset, .unset, .unset, .unset, .unset, .unset, .unset, .unset, .unset, .unset] [(.int z_)])) ((sf + (1 : Int32)) % (3 : Int32)) (fun o1 ho10 => ?_)
  show own_Go p e below s (Q_law Z p0 p1 p2 xx yy zz aN fN h0 n0) 48 192 s₁ (mkF m 14 #[.val (.int p0), .val (.int p1), .val (.int p2), .val (.long xx), .second, .val (.long yy), .second, .val (.long zz), .second, .val (.int sf), .unset, .unset, .unset, .unset, .unset, .unset, .unset, .unset, .unset, .unset] [(.int o1)])
  refine own_st (T' := s₁) (g' := (mkF m 16 #[.val (.int p0), .val (.int p1), .val (.int p2), .val (.long xx), .second, .val (.long yy), .second, .val (.long zz), .second, .val (.int sf), .val (.int o1), .unset, .unset, .unset, .unset, .unset, .unset, .unset, .unset, .unset] [])) (fun _ zq => XS.istore X.here hx rfl (hb hby at_14) rfl (l' := #[.val (.int p0), .val (.int p1), .val (.int p2), .val (.long xx), .second, .val (.long yy), .second, .val (.long zz), .second, .val (.int sf), .val (.int o1), .unset, .unset, .unset, .unset, .unset, .unset, .unset, .unset, .unset]) rfl zq) ?_
  refine own_st (T' := s₁) (g' := (mkF m 18 #[.val (.int p0), .val (.int p1), .val (.int p2), .val (.long xx), .second, .val (.long yy), .second, .val (.long zz), .second, .val (.int sf), .val (.int o1), .unset, .unset, .unset, .unset, .unset, .unset, .unset, .unset, .unset] [(.int sf)])) (fun _ zq => XS.iload X.here hx rfl (hb hby at_16) rfl zq) ?_
  refine own_st (T' := s₁) (g' := (mkF m 19 #[.val (.int p0), .val (.int p1), .val (.int p2), .val (.long xx), .second, .val (.long yy), .second, .val (.long zz), .second, .val (.int sf), .val (.int o1), .unset, .unset, .unset, .unset, .unset, .unset, .unset, .unset, .unset] [(.int (2 : Int32)), (.int sf)])) (fun _ zq => XS.iconst X.here hx rfl (hb hby at_18) zq) ?_
  refine own_st (T' := s₁) (g' := (mkF m 20 #[.val (.int p0), .val (.int p1), .val (.int p2), .val (.long xx), .second, .val (.long yy), .second, .val (.long zz), .second, .val (.int sf), .val (.int o1), .unset, .unset, .unset, .unset, .unset, .unset, .unset, .unset, .unset] [(.int (sf + (2 : Int32)))])) (fun _ zq => XS.iadd X.here hx rfl (hb hby at_19) rfl zq) ?_
  refine own_st (T' := s₁) (g' := (mkF m 21 #[.val (.int p0), .val (.int p1), .val (.int p2), .val (.long xx), .second, .val (.long yy), .second, .val (.long zz), .second, .val (.int sf), .val (.int o1), .unset, .unset, .unset, .unset, .unset, .unset, .unset, .unset, .unset] [(.int (3 : Int32)), (.int (sf + (2 : Int32)))])) (fun _ zq => XS.iconst X.here hx rfl (hb hby at_20) zq) ?_
  refine own_st (T' := s₁) (g' := (mkF m 22 #[.val (.int p0), .val (.int p1), .val (.int p2), .val (.long xx), .second, .val (.long yy), .second, .val (.long zz), .second, .val (.int sf), .val (.int o1), .unset, .unset, .unset, .unset, .unset, .unset, .unset, .unset, .unset] [(.int ((sf + (2 : Int32)) % (3 : Int32)))])) (fun _ zq => iremM (g := (mkF m 21 #[.val (.int p0), .val (.int p1), .val (.int p2), .val (.long xx), .second, .val (.long yy), .second, .val (.long zz), .second, .val (.int sf), .val (.int o1), .unset, .unset, .unset, .unset, .unset, .unset, .unset, .unset, .unset] [(.int (3 : Int32)), (.int (sf + (2 : Int32)))])) X hx rfl (hb hby at_21) rfl (by decide) zq) ?_
  refine own_nm (f := fun z_ => (mkF m 22 #[.val (.int p0), .val (.int p1), .val (.int p2), .val (.long xx), .second, .val (.long yy), .second, .val (.long zz), .second, .val (.int sf), .val (.int o1), .unset, .unset, .unset, .unset, .unset, .unset, .unset, .unset, .unset] [(.int z_)])) ((sf + (2 : Int32)) % (3 : Int32)) (fun o2 ho20 => ?_)
  show own_Go p e below s (Q_law Z p0 p1 p2 xx yy zz aN fN h0 n0) 48 192 s₁ (mkF m 22 #[.val (.int p0), .val (.int p1), .val (.int p2), .val (.long xx), .second, .val (.long yy), .second, .val (.long zz), .second, .val (.int sf), .val (.int o1), .unset, .unset, .unset, .unset, .unset, .unset, .unset, .unset, .unset] [(.int o2)])
  obtain ⟨o1n, ho1, hl1, o2n, ho2, hl2⟩ := own_oo hs hls ho10 ho20
  refine own_st (T' := s₁) (g' := (mkF m 24 #[.val (.int p0), .val (.int p1), .val (.int p2), .val (.long xx), .second, .val (.long yy), .second, .val (.long zz), .second, .val (.int sf), .val (.int o1), .val (.int o2), .unset, .unset, .unset, .unset, .unset, .unset, .unset, .unset] [])) (fun _ zq => XS.istore X.here hx rfl (hb hby at_22) rfl (l' := #[.val (.int p0), .val (.int p1), .val (.int p2), .val (.long xx), .second, .val (.long yy), .second, .val (.long zz), .second, .val (.int sf), .val (.int o1), .val (.int o2), .unset, .unset, .unset, .unset, .unset, .unset, .unset, .unset]) rfl zq) ?_
  obtain ⟨T108, h108, X108, e108, E108, A108, D108, -, st108⟩ := newO X hx hZ hown (hw _ (List.mem_of_getElem? (i := 1) rfl)) (hw _ (List.mem_of_getElem? (i := 2) rfl)) (hw _ (List.mem_of_getElem? (i := 3) rfl)) eT (g := (mkF m 24 #[.val (.int p0), .val (.int p1), .val (.int p2), .val (.long xx), .second, .val (.long yy), .second, .val (.long zz), .second, .val (.int sf), .val (.int o1), .val (.int o2), .unset, .unset, .unset, .unset, .unset, .unset, .unset, .unset] [])) rfl (hb hby at_24) (by decide) (by decide)
  obtain ⟨b108, ga108⟩ : ∃ z, z = h0.size := ⟨_, rfl⟩
  rw [← ga108] at A108 D108 st108
  have g_b108 : n0 ≤ b108 := Nat.le_trans Zs (Nat.le_of_eq ga108.symm)
  have E_b108 := A108
  replace O := O.ext E108
  replace Zs := Nat.le_trans Zs E108.1
  have F_b108_self : Fld Z h108 b108 "com/example/coterie/coterie/runtime/KnownRequests" "self" "I" (.int (0 : Int32)) := D108 (Or.inr (hw _ (List.mem_of_getElem? (i := 11) rfl))) (ty := .int) (by decide)
  have F_b108_known : Fld Z h108 b108 "com/example/coterie/coterie/runtime/KnownRequests" "known" "[J" .null := D108 (Or.inr (hw _ (List.mem_of_getElem? (i := 14) rfl))) (ty := (.array .long)) (by decide)
  have F_b108_roseAt : Fld Z h108 b108 "com/example/coterie/coterie/runtime/KnownRequests" "roseAt" "[J" .null := D108 (Or.inr (hw _ (List.mem_of_getElem? (i := 16) rfl))) (ty := (.array .long)) (by decide)
  have F_b108_told : Fld Z h108 b108 "com/example/coterie/coterie/runtime/KnownRequests" "told" "[J" .null := D108 (Or.inr (hw _ (List.mem_of_getElem? (i := 18) rfl))) (ty := (.array .long)) (by decide)
  have F_b108_rises : Fld Z h108 b108 "com/example/coterie/coterie/runtime/KnownRequests" "rises" "J" (.long (0 : Int64)) := D108 (Or.inl (hw _ (List.mem_of_getElem? (i := 34) rfl))) (ty := .long) (by decide)
  refine own_st (g' := (mkF m 27 #[.val (.int p0), .val (.int p1), .val (.int p2), .val (.long xx), .second, .val (.long yy), .second, .val (.long zz), .second, .val (.int sf), .val (.int o1), .val (.int o2), .unset, .unset, .unset, .unset, .unset, .unset, .unset, .unset] [(.ref b108)])) st108 ?_
  refine own_st (T' := T108) (g' := (mkF m 28 #[.val (.int p0), .val (.int p1), .val (.int p2), .val (.long xx), .second, .val (.long yy), .second, .val (.long zz), .second, .val (.int sf), .val (.int o1), .val (.int o2), .unset, .unset, .unset, .unset, .unset, .unset, .unset, .unset] [(.ref b108), (.ref b108)])) (fun _ zq => XS.dup X108.here hx rfl (hb hby at_27) rfl rfl zq) ?_
  refine own_st (T' := T108) (g' := (mkF m 30 #[.val (.int p0), .val (.int p1), .val (.int p2), .val (.long xx), .second, .val (.long yy), .second, .val (.long zz), .second, .val (.int sf), .val (.int o1), .val (.int o2), .unset, .unset, .unset, .unset, .unset, .unset, .unset, .unset] [(.int sf), (.ref b108), (.ref b108)])) (fun _ zq => XS.iload X108.here hx rfl (hb hby at_28) rfl zq) ?_
  refine own_st (T' := T108) (g' := (mkF m 31 #[.val (.int p0), .val (.int p1), .val (.int p2), .val (.long xx), .second, .val (.long yy), .second, .val (.long zz), .second, .val (.int sf), .val (.int o1), .val (.int o2), .unset, .unset, .unset, .unset, .unset, .unset, .unset, .unset] [(.int (3 : Int32)), (.int sf), (.ref b108), (.ref b108)])) (fun _ zq => XS.iconst X108.here hx rfl (hb hby at_30) zq) ?_
  obtain ⟨_, _, ⟨T109, L109, k109, n109⟩, -, X109, ⟨Lc109, hQ109, l109, y109, z109⟩, st109⟩ := X108.specialBack hx (y := (⟨"com/example/coterie/coterie/runtime/KnownRequests", "<init>", "(II)V"⟩ : MethodName)) rfl hown (mvT hZ (hw _ (List.mem_of_getElem? (i := 4) rfl))) (mvT hZ (hw _ (List.mem_of_getElem? (i := 5) rfl))) (mvT hZ (hw _ (List.mem_of_getElem? (i := 6) rfl))) (by decide) (backOf (W := 1) (rm_kinit l Z a0 hw [] b108 sf h108 n0 Zs E_b108 F_b108_self F_b108_known F_b108_roseAt F_b108_told F_b108_rises g_b108) hZ (hw _ (List.mem_of_getElem? (i := 6) rfl)) (hw _ (List.mem_of_getElem? (i := 3) rfl)) (by decide) (by decide)) (g := (mkF m 31 #[.val (.int p0), .val (.int p1), .val (.int p2), .val (.long xx), .second, .val (.long yy), .second, .val (.long zz), .second, .val (.int sf), .val (.int o1), .val (.int o2), .unset, .unset, .unset, .unset, .unset, .unset, .unset, .unset] [(.int (3 : Int32)), (.int sf), (.ref b108), (.ref b108)])) rfl (by rw [hml]; rfl) (Steps.refl _) (a := b108) (argsL := [(.int sf), (.int (3 : Int32))]) (rest := [(.ref b108)]) (lenOf own_pd7 rfl) rfl (by show 2 * 0 + _ ≤ _; exact Nat.le_of_eq rfl) (hb hby at_31) (fun _ _ => ⟨rfl, e108, (by decide : 1 + 3 ≤ _), (by decide : 5 + 9 ≤ _)⟩)
  dsimp only [Pt.U, Pt.locs, Pt.cells, Pt.slots] at X109 l109 y109 z109 st109 hQ109
  subst l109 y109 z109
  obtain ⟨aK, aR, aT, rfl, Nq109, Kq109, BB, n1, n2, n3, n4, n5, n6, g_aK, g_aR, g_aT, zK, zR, zT⟩ := hQ109
  replace N := Fr.app N Nq109
  replace O := O.keep Kq109 (allS g_b108 all0)
  replace Zs := Nat.le_trans Zs Kq109.1
  refine own_tr (g' := (mkF m 34 #[.val (.int p0), .val (.int p1), .val (.int p2), .val (.long xx), .second, .val (.long yy), .second, .val (.long zz), .second, .val (.int sf), .val (.int o1), .val (.int o2), .unset, .unset, .unset, .unset, .unset, .unset, .unset, .unset] [(.ref b108)])) st109 ?_
  obtain ⟨E_k, F_self, F_known, F_rose, F_told, F_rises, V_K, V_R, V_T, E_aK⟩ := BB
  refine own_st (T' := T109) (g' := (mkF m 36 #[.val (.int p0), .val (.int p1), .val (.int p2), .val (.long xx), .second, .val (.long yy), .second, .val (.long zz), .second, .val (.int sf), .val (.int o1), .val (.int o2), .val (.ref b108), .unset, .unset, .unset, .unset, .unset, .unset, .unset] [])) (fun _ zq => XS.astore X109.here hx rfl (hb hby at_34) rfl rfl (l' := #[.val (.int p0), .val (.int p1), .val (.int p2), .val (.long xx), .second, .val (.long yy), .second, .val (.long zz), .second, .val (.int sf), .val (.int o1), .val (.int o2), .val (.ref b108), .unset, .unset, .unset, .unset, .unset, .unset, .unset]) rfl zq) ?_
  refine own_st (T' := T109) (g' := (mkF m 37 #[.val (.int p0), .val (.int p1), .val (.int p2), .val (.long xx), .second, .val (.long yy), .second, .val (.long zz), .second, .val (.int sf), .val (.int o1), .val (.int o2), .val (.ref b108), .unset, .unset, .unset, .unset, .unset, .unset, .unset] [(.int (3 : Int32))])) (fun _ zq => XS.iconst X109.here hx rfl (hb hby at_36) zq) ?_
  obtain ⟨T110, h110, k110, X110, e110, E110, A110, st110⟩ := newP X109 hx hZ (hw _ (List.mem_of_getElem? (i := 12) rfl)) rfl (g := (mkF m 37 #[.val (.int p0), .val (.int p1), .val (.int p2), .val (.long xx), .second, .val (.long yy), .second, .val (.long zz), .second, .val (.int sf), .val (.int o1), .val (.int o2), .val (.ref b108), .unset, .unset, .unset, .unset, .unset, .unset, .unset] [(.int (3 : Int32))])) rfl (hb hby at_37) rfl (by decide) (cap := 3) (by decide) (by decide) (by decide) (by decide)
  obtain ⟨b110, ga110⟩ : ∃ z, z = T109.heap.size := ⟨_, rfl⟩
  rw [← ga110] at A110 st110
  have g_b110 : n0 ≤ b110 := Nat.le_trans Zs (Nat.le_of_eq ga110.symm)
  have ne_b108_b110 : b108 ≠ b110 := fun q => Nat.lt_irrefl _ (Nat.lt_of_lt_of_eq E_k.lt (ga110.symm.trans q.symm))
  have ne_aK_b110 : aK ≠ b110 := fun q => Nat.lt_irrefl _ (Nat.lt_of_lt_of_eq V_K.lt (ga110.symm.trans q.symm))
  have ne_aR_b110 : aR ≠ b110 := fun q => Nat.lt_irrefl _ (Nat.lt_of_lt_of_eq V_R.lt (ga110.symm.trans q.symm))
  have ne_aT_b110 : aT ≠ b110 := fun q => Nat.lt_irrefl _ (Nat.lt_of_lt_of_eq V_T.lt (ga110.symm.trans q.symm))
  replace O := O.ext E110
  replace E_k := E_k.ext E110
  replace F_self := F_self.ext E110
  replace F_known := F_known.ext E110
  replace F_rose := F_rose.ext E110
  replace F_told := F_told.ext E110
  replace F_rises := F_rises.ext E110
  replace V_K := V_K.ext E110
  replace V_R := V_R.ext E110
  replace V_T := V_T.ext E110
  replace E_aK := E_aK.ext E110
  replace Zs := Nat.le_trans Zs E110.1
  have V_b110 : own_AV Z h110 b110 .long 3 (fun _ => .long (0 : Int64)) := own_AV.new A110 rfl
  refine own_st (g' := (mkF m 39 #[.val (.int p0), .val (.int p1), .val (.int p2), .val (.long xx), .second, .val (.long yy), .second, .val (.long zz), .second, .val (.int sf), .val (.int o1), .val (.int o2), .val (.ref b108), .unset, .unset, .unset, .unset, .unset, .unset, .unset] [(.ref b110)])) st110 ?_
  refine own_st (T' := T110) (g' := (mkF m 41 #[.val (.int p0), .val (.int p1), .val (.int p2), .val (.long xx), .second, .val (.long yy), .second, .val (.long zz), .second, .val (.int sf), .val (.int o1), .val (.int o2), .val (.ref b108), .val (.ref b110), .unset, .unset, .unset, .unset, .unset, .unset] [])) (fun _ zq => XS.astore X110.here hx rfl (hb hby at_39) rfl rfl (l' := #[.val (.int p0), .val (.int p1), .val (.int p2), .val (.long xx), .second, .val (.long yy), .second, .val (.long zz), .second, .val (.int sf), .val (.int o1), .val (.int o2), .val (.ref b108), .val (.ref b110), .unset, .unset, .unset, .unset, .unset, .unset]) rfl zq) ?_
  refine own_st (T' := T110) (g' := (mkF m 43 #[.val (.int p0), .val (.int p1), .val (.int p2), .val (.long xx), .second, .val (.long yy), .second, .val (.long zz), .second, .val (.int sf), .val (.int o1), .val (.int o2), .val (.ref b108), .val (.ref b110), .unset, .unset, .unset, .unset, .unset, .unset] [(.int (9 : Int32))])) (fun _ zq => XS.bipush X110.here hx rfl (hb hby at_41) zq) ?_
  obtain ⟨T111, h111, k111, X111, e111, E111, A111, st111⟩ := newP X110 hx hZ (hw _ (List.mem_of_getElem? (i := 19) rfl)) e110 (g := (mkF m 43 #[.val (.int p0), .val (.int p1), .val (.int p2), .val (.long xx), .second, .val (.long yy), .second, .val (.long zz), .second, .val (.int sf), .val (.int o1), .val (.int o2), .val (.ref b108), .val (.ref b110), .unset, .unset, .unset, .unset, .unset, .unset] [(.int (9 : Int32))])) rfl (hb hby at_43) rfl (by decide) (cap := 9) (by decide) (by decide) (by decide) (by decide)
  obtain ⟨b111, ga111⟩ : ∃ z, z = h110.size := ⟨_, rfl⟩
  rw [← ga111] at A111 st111
  have g_b111 : n0 ≤ b111 := Nat.le_trans Zs (Nat.le_of_eq ga111.symm)
  have ne_b108_b111 : b108 ≠ b111 := fun q => Nat.lt_irrefl _ (Nat.lt_of_lt_of_eq E_k.lt (ga111.symm.trans q.symm))
  have ne_aK_b111 : aK ≠ b111 := fun q => Nat.lt_irrefl _ (Nat.lt_of_lt_of_eq V_K.lt (ga111.symm.trans q.symm))
  have ne_aR_b111 : aR ≠ b111 := fun q => Nat.lt_irrefl _ (Nat.lt_of_lt_of_eq V_R.lt (ga111.symm.trans q.symm))
  have ne_aT_b111 : aT ≠ b111 := fun q => Nat.lt_irrefl _ (Nat.lt_of_lt_of_eq V_T.lt (ga111.symm.trans q.symm))
  have ne_b110_b111 : b110 ≠ b111 := fun q => Nat.lt_irrefl _ (Nat.lt_of_lt_of_eq V_b110.lt (ga111.symm.trans q.symm))
  replace O := O.ext E111
  replace E_k := E_k.ext E111
  replace F_self := F_self.ext E111
  replace F_known := F_known.ext E111
  replace F_rose := F_rose.ext E111
  replace F_told := F_told.ext E111
  replace F_rises := F_rises.ext E111
  replace V_K := V_K.ext E111
  replace V_R := V_R.ext E111
  replace V_T := V_T.ext E111
  replace E_aK := E_aK.ext E111
  replace V_b110 := V_b110.ext E111
  replace Zs := Nat.le_trans Zs E111.1
  have V_b111 : own_AV Z h111 b111 .boolean 9 (fun _ => .int (0 : Int32)) := own_AV.new A111 rfl
  refine own_st (g' := (mkF m 45 #[.val (.int p0), .val (.int p1), .val (.int p2), .val (.long xx), .second, .val (.long yy), .second, .val (.long zz), .second, .val (.int sf), .val (.int o1), .val (.int o2), .val (.ref b108), .val (.ref b110), .unset, .unset, .unset, .unset, .unset, .unset] [(.ref b111)])) st111 ?_
  refine own_st (T' := T111) (g' := (mkF m 47 #[.val (.int p0), .val (.int p1), .val (.int p2), .val (.long xx), .second, .val (.long yy), .second, .val (.long zz), .second, .val (.int sf), .val (.int o1), .val (.int o2), .val (.ref b108), .val (.ref b110), .val (.ref b111), .unset, .unset, .unset, .unset, .unset] [])) (fun _ zq => XS.astore X111.here hx rfl (hb hby at_45) rfl rfl (l' := #[.val (.int p0), .val (.int p1), .val (.int p2), .val (.long xx), .second, .val (.long yy), .second, .val (.long zz), .second, .val (.int sf), .val (.int o1), .val (.int o2), .val (.ref b108), .val (.ref b110), .val (.ref b111), .unset, .unset, .unset, .unset, .unset]) rfl zq) ?_
  refine own_st (T' := T111) (g' := (mkF m 49 #[.val (.int p0), .val (.int p1), .val (.int p2), .val (.long xx), .second, .val (.long yy), .second, .val (.long zz), .second, .val (.int sf), .val (.int o1), .val (.int o2), .val (.ref b108), .val (.ref b110), .val (.ref b111), .unset, .unset, .unset, .unset, .unset] [(.ref b108)])) (fun _ zq => XS.aload X111.here hx rfl (hb hby at_47) rfl rfl zq) ?_
  refine own_st (T' := T111) (g' := (mkF m 51 #[.val (.int p0), .val (.int p1), .val (.int p2), .val (.long xx), .second, .val (.long yy), .second, .val (.long zz), .second, .val (.int sf), .val (.int o1), .val (.int o2), .val (.ref b108), .val (.ref b110), .val (.ref b111), .unset, .unset, .unset, .unset, .unset] [(.ref b110), (.ref b108)])) (fun _ zq => XS.aload X111.here hx rfl (hb hby at_49) rfl rfl zq) ?_
  refine own_st (T' := T111) (g' := (mkF m 53 #[.val (.int p0), .val (.int p1), .val (.int p2), .val (.long xx), .second, .val (.long yy), .second, .val (.long zz), .second, .val (.int sf), .val (.int o1), .val (.int o2), .val (.ref b108), .val (.ref b110), .val (.ref b111), .unset, .unset, .unset, .unset, .unset] [(.ref b111), (.ref b110), (.ref b108)])) (fun _ zq => XS.aload X111.here hx rfl (hb hby at_51) rfl rfl zq) ?_
  refine own_st (T' := T111) (g' := (mkF m 55 #[.val (.int p0), .val (.int p1), .val (.int p2), .val (.long xx), .second, .val (.long yy), .second, .val (.long zz), .second, .val (.int sf), .val (.int o1), .val (.int o2), .val (.ref b108), .val (.ref b110), .val (.ref b111), .unset, .unset, .unset, .unset, .unset] [(.int sf), (.ref b111), (.ref b110), (.ref b108)])) (fun _ zq => XS.iload X111.here hx rfl (hb hby at_53) rfl zq) ?_
  refine own_st (T' := T111) (g' := (mkF m 57 #[.val (.int p0), .val (.int p1), .val (.int p2), .val (.long xx), .second, .val (.long yy), .second, .val (.long zz), .second, .val (.int sf), .val (.int o1), .val (.int o2), .val (.ref b108), .val (.ref b110), .val (.ref b111), .unset, .unset, .unset, .unset, .unset] [(.int o1), (.int sf), (.ref b111), (.ref b110), (.ref b108)])) (fun _ zq => XS.iload X111.here hx rfl (hb hby at_55) rfl zq) ?_
  refine own_st (T' := T111) (g' := (mkF m 59 #[.val (.int p0), .val (.int p1), .val (.int p2), .val (.long xx), .second, .val (.long yy), .second, .val (.long zz), .second, .val (.int sf), .val (.int o1), .val (.int o2), .val (.ref b108), .val (.ref b110), .val (.ref b111), .unset, .unset, .unset, .unset, .unset] [(.int o2), (.int o1), (.int sf), (.ref b111), (.ref b110), (.ref b108)])) (fun _ zq => XS.iload X111.here hx rfl (hb hby at_57) rfl zq) ?_
  refine own_st (T' := T111) (g' := (mkF m 60 #[.val (.int p0), .val (.int p1), .val (.int p2), .val (.long xx), .second, .val (.long yy), .second, .val (.long zz), .second, .val (.int sf), .val (.int o1), .val (.int o2), .val (.ref b108), .val (.ref b110), .val (.ref b111), .unset, .unset, .unset, .unset, .unset] [(.int p1), (.int o2), (.int o1), (.int sf), (.ref b111), (.ref b110), (.ref b108)])) (fun _ zq => XS.iloadN X111.here hx rfl (hb hby at_59) rfl zq) ?_
  refine own_st (T' := T111) (g' := (mkF m 61 #[.val (.int p0), .val (.int p1), .val (.int p2), .val (.long xx), .second, .val (.long yy), .second, .val (.long zz), .second, .val (.int sf), .val (.int o1), .val (.int o2), .val (.ref b108), .val (.ref b110), .val (.ref b111), .unset, .unset, .unset, .unset, .unset] [(.long xx), (.int p1), (.int o2), (.int o1), (.int sf), (.ref b111), (.ref b110), (.ref b108)])) (fun _ zq => XS.lloadN X111.here hx rfl (hb hby at_60) rfl zq) ?_
  refine own_st (T' := T111) (g' := (mkF m 63 #[.val (.int p0), .val (.int p1), .val (.int p2), .val (.long xx), .second, .val (.long yy), .second, .val (.long zz), .second, .val (.int sf), .val (.int o1), .val (.int o2), .val (.ref b108), .val (.ref b110), .val (.ref b111), .unset, .unset, .unset, .unset, .unset] [(.long yy), (.long xx), (.int p1), (.int o2), (.int o1), (.int sf), (.ref b111), (.ref b110), (.ref b108)])) (fun _ zq => XS.lload X111.here hx rfl (hb hby at_61) rfl zq) ?_
  have BB : own_KR Z h111 b108 aK aR aT sf (fun _ => (0 : Int64)) (fun _ => (0 : Int64)) (fun _ => (0 : Int64)) (0 : Int64) := ⟨E_k, F_self, F_known, F_rose, F_told, F_rises, V_K, V_R, V_T, E_aK⟩
  replace V_b110 : own_AV Z h111 b110 .long 3 (fun i => .long ((fun _ => (0 : Int64)) i)) := V_b110
  replace V_b111 : own_AV Z h111 b111 .boolean 9 (fun i => .int ((fun _ => (0 : Int32)) i)) := V_b111
  have V_k := V_b110
  have V_d := V_b111
  have I0 : own_Inv sn (fun _ => (0 : Int64)) (fun _ => (0 : Int64)) (fun _ => (0 : Int64)) (0 : Int64) (fun _ => (0 : Int64)) (fun _ => (0 : Int32)) 0 := own_inv0 sn
  obtain ⟨_, _, ⟨T112, L112, k112, n112⟩, -, X112, ⟨Lc112, hQ112, l112, y112, z112⟩, st112⟩ := Jvm.LawKit.callS X111 hx (y := (⟨"com/example/coterie/coterie/runtime/KnownRequestsNewsPinLaw", "event", "(Lcom/example/coterie/coterie/runtime/KnownRequests;[J[ZIIIIJJ)V"⟩ : MethodName)) hown (mvT hZ (hw _ (List.mem_of_getElem? (i := 20) rfl))) (mvT hZ (hw _ (List.mem_of_getElem? (i := 21) rfl))) (mvT hZ (hw _ (List.mem_of_getElem? (i := 22) rfl))) (mvT hZ (hw _ (List.mem_of_getElem? (i := 23) rfl))) (by decide) (backOf (W := 0) (rm_event l Z a0 hw [] b108 aK aR aT sf (fun _ => (0 : Int64)) (fun _ => (0 : Int64)) (fun _ => (0 : Int64)) (0 : Int64) b110 (fun _ => (0 : Int64)) b111 (fun _ => (0 : Int32)) sn o1 o1n o2 o2n p1 xx yy 0 h111 n0 Zs BB V_k V_d hs hls ho1 hl1 ho2 hl2 I0 (by decide) n1 n2 n3 n4 n5 n6 g_b108 g_aK g_aR g_aT ne_b108_b110 ne_aK_b110 ne_aR_b110 ne_aT_b110 ne_b108_b111 ne_aK_b111 ne_aR_b111 ne_aT_b111 ne_b110_b111 g_b110 g_b111) hZ (hw _ (List.mem_of_getElem? (i := 23) rfl)) (hw _ (List.mem_of_getElem? (i := 22) rfl)) (by decide) (by decide)) (g := (mkF m 63 #[.val (.int p0), .val (.int p1), .val (.int p2), .val (.long xx), .second, .val (.long yy), .second, .val (.long zz), .second, .val (.int sf), .val (.int o1), .val (.int o2), .val (.ref b108), .val (.ref b110), .val (.ref b111), .unset, .unset, .unset, .unset, .unset] [(.long yy), (.long xx), (.int p1), (.int o2), (.int o1), (.int sf), (.ref b111), (.ref b110), (.ref b108)])) rfl (by rw [hml]; rfl) (argsL := [(.ref b108), (.ref b110), (.ref b111), (.int sf), (.int o1), (.int o2), (.int p1), (.long xx), (.long yy)]) (rest := []) (lenOf own_pd8 rfl) rfl (by show 2 * 0 + _ ≤ _; exact Nat.le_of_eq rfl) (hb hby at_63) (fun _ _ => ⟨rfl, e111, (by decide : 6 + 2 ≤ _), (by decide : 26 + 5 ≤ _)⟩)
  dsimp only [Pt.U, Pt.locs, Pt.cells, Pt.slots] at X112 l112 y112 z112 st112 hQ112
  subst l112 y112 z112
  obtain ⟨K1, R1, rs1, fk1, fd1, rfl, Nq112, Kq112, BB, V_k, V_d, I1⟩ := hQ112
  replace N := Fr.app N Nq112
  replace O := O.keep Kq112 (allS g_b108 (allS g_aK (allS g_aR (allS g_aT (allS g_b110 (allS g_b111 all0))))))
  replace Zs := Nat.le_trans Zs Kq112.1
  refine own_st (g' := (mkF m 66 #[.val (.int p0), .val (.int p1), .val (.int p2), .val (.long xx), .second, .val (.long yy), .second, .val (.long zz), .second, .val (.int sf), .val (.int o1), .val (.int o2), .val (.ref b108), .val (.ref b110), .val (.ref b111), .unset, .unset, .unset, .unset, .unset] [])) st112 ?_
  refine own_st (T' := T112) (g' := (mkF m 68 #[.val (.int p0), .val (.int p1), .val (.int p2), .val (.long xx), .second, .val (.long yy), .second, .val (.long zz), .second, .val (.int sf), .val (.int o1), .val (.int o2), .val (.ref b108), .val (.ref b110), .val (.ref b111), .unset, .unset, .unset, .unset, .unset] [(.ref b108)])) (fun _ zq => XS.aload X112.here hx rfl (hb hby at_66) rfl rfl zq) ?_
  refine own_st (T' := T112) (g' := (mkF m 70 #[.val (.int p0), .val (.int p1), .val (.int p2), .val (.long xx), .second, .val (.long yy), .second, .val (.long zz), .second, .val (.int sf), .val (.int o1), .val (.int o2), .val (.ref b108), .val (.ref b110), .val (.ref b111), .unset, .unset, .unset, .unset, .unset] [(.ref b110), (.ref b108)])) (fun _ zq => XS.aload X112.here hx rfl (hb hby at_68) rfl rfl zq) ?_
  refine own_st (T' := T112) (g' := (mkF m 72 #[.val (.int p0), .val (.int p1), .val (.int p2), .val (.long xx), .second, .val (.long yy), .second, .val (.long zz), .second, .val (.int sf), .val (.int o1), .val (.int o2), .val (.ref b108), .val (.ref b110), .val (.ref b111), .unset, .unset, .unset, .unset, .unset] [(.ref b111), (.ref b110), (.ref b108)])) (fun _ zq => XS.aload X112.here hx rfl (hb hby at_70) rfl rfl zq) ?_
  refine own_st (T' := T112) (g' := (mkF m 74 #[.val (.int p0), .val (.int p1), .val (.int p2), .val (.long xx), .second, .val (.long yy), .second, .val (.long zz), .second, .val (.int sf), .val (.int o1), .val (.int o2), .val (.ref b108), .val (.ref b110), .val (.ref b111), .unset, .unset, .unset, .unset, .unset] [(.int sf), (.ref b111), (.ref b110), (.ref b108)])) (fun _ zq => XS.iload X112.here hx rfl (hb hby at_72) rfl zq) ?_
  refine own_st (T' := T112) (g' := (mkF m 76 #[.val (.int p0), .val (.int p1), .val (.int p2), .val (.long xx), .second, .val (.long yy), .second, .val (.long zz), .second, .val (.int sf), .val (.int o1), .val (.int o2), .val (.ref b108), .val (.ref b110), .val (.ref b111), .unset, .unset, .unset, .unset, .unset] [(.int o1), (.int sf), (.ref b111), (.ref b110), (.ref b108)])) (fun _ zq => XS.iload X112.here hx rfl (hb hby at_74) rfl zq) ?_
  refine own_st (T' := T112) (g' := (mkF m 78 #[.val (.int p0), .val (.int p1), .val (.int p2), .val (.long xx), .second, .val (.long yy), .second, .val (.long zz), .second, .val (.int sf), .val (.int o1), .val (.int o2), .val (.ref b108), .val (.ref b110), .val (.ref b111), .unset, .unset, .unset, .unset, .unset] [(.int o2), (.int o1), (.int sf), (.ref b111), (.ref b110), (.ref b108)])) (fun _ zq => XS.iload X112.here hx rfl (hb hby at_76) rfl zq) ?_
  refine own_st (T' := T112) (g' := (mkF m 79 #[.val (.int p0), .val (.int p1), .val (.int p2), .val (.long xx), .second, .val (.long yy), .second, .val (.long zz), .second, .val (.int sf), .val (.int o1), .val (.int o2), .val (.ref b108), .val (.ref b110), .val (.ref b111), .unset, .unset, .unset, .unset, .unset] [(.int p1), (.int o2), (.int o1), (.int sf), (.ref b111), (.ref b110), (.ref b108)])) (fun _ zq => XS.iloadN X112.here hx rfl (hb hby at_78) rfl zq) ?_
  refine own_st (T' := T112) (g' := (mkF m 80 #[.val (.int p0), .val (.int p1), .val (.int p2), .val (.long xx), .second, .val (.long yy), .second, .val (.long zz), .second, .val (.int sf), .val (.int o1), .val (.int o2), .val (.ref b108), .val (.ref b110), .val (.ref b111), .unset, .unset, .unset, .unset, .unset] [(.int (3 : Int32)), (.int p1), (.int o2), (.int o1), (.int sf), (.ref b111), (.ref b110), (.ref b108)])) (fun _ zq => XS.iconst X112.here hx rfl (hb hby at_79) zq) ?_
  refine own_st (T' := T112) (g' := (mkF m 81 #[.val (.int p0), .val (.int p1), .val (.int p2), .val (.long xx), .second, .val (.long yy), .second, .val (.long zz), .second, .val (.int sf), .val (.int o1), .val (.int o2), .val (.ref b108), .val (.ref b110), .val (.ref b111), .unset, .unset, .unset, .unset, .unset] [(.int ((p1.toUInt32 >>> ((3 : Int32) &&& 31).toUInt32).toInt32)), (.int o2), (.int o1), (.int sf), (.ref b111), (.ref b110), (.ref b108)])) (fun _ zq => XS.iushr X112.here hx rfl (hb hby at_80) rfl zq) ?_
  refine own_st (T' := T112) (g' := (mkF m 83 #[.val (.int p0), .val (.int p1), .val (.int p2), .val (.long xx), .second, .val (.long yy), .second, .val (.long zz), .second, .val (.int sf), .val (.int o1), .val (.int o2), .val (.ref b108), .val (.ref b110), .val (.ref b111), .unset, .unset, .unset, .unset, .unset] [(.long yy), (.int ((p1.toUInt32 >>> ((3 : Int32) &&& 31).toUInt32).toInt32)), (.int o2), (.int o1), (.int sf), (.ref b111), (.ref b110), (.ref b108)])) (fun _ zq => XS.lload X112.here hx rfl (hb hby at_81) rfl zq) ?_
  refine own_st (T' := T112) (g' := (mkF m 85 #[.val (.int p0), .val (.int p1), .val (.int p2), .val (.long xx), .second, .val (.long yy), .second, .val (.long zz), .second, .val (.int sf), .val (.int o1), .val (.int o2), .val (.ref b108), .val (.ref b110), .val (.ref b111), .unset, .unset, .unset, .unset, .unset] [(.long zz), (.long yy), (.int ((p1.toUInt32 >>> ((3 : Int32) &&& 31).toUInt32).toInt32)), (.int o2), (.int o1), (.int sf), (.ref b111), (.ref b110), (.ref b108)])) (fun _ zq => XS.lload X112.here hx rfl (hb hby at_83) rfl zq) ?_
  obtain ⟨_, _, ⟨T113, L113, k113, n113⟩, -, X113, ⟨Lc113, hQ113, l113, y113, z113⟩, st113⟩ := Jvm.LawKit.callS X112 hx (y := (⟨"com/example/coterie/coterie/runtime/KnownRequestsNewsPinLaw", "event", "(Lcom/example/coterie/coterie/runtime/KnownRequests;[J[ZIIIIJJ)V"⟩ : MethodName)) hown (mvT hZ (hw _ (List.mem_of_getElem? (i := 20) rfl))) (mvT hZ (hw _ (List.mem_of_getElem? (i := 21) rfl))) (mvT hZ (hw _ (List.mem_of_getElem? (i := 22) rfl))) (mvT hZ (hw _ (List.mem_of_getElem? (i := 23) rfl))) (by decide) (backOf (W := 0) (rm_event l Z a0 hw [] b108 aK aR aT sf K1 R1 (fun _ => (0 : Int64)) rs1 b110 fk1 b111 fd1 sn o1 o1n o2 o2n ((p1.toUInt32 >>> ((3 : Int32) &&& 31).toUInt32).toInt32) yy zz (0 + 2) T112.heap n0 Zs BB V_k V_d hs hls ho1 hl1 ho2 hl2 I1 (by decide) n1 n2 n3 n4 n5 n6 g_b108 g_aK g_aR g_aT ne_b108_b110 ne_aK_b110 ne_aR_b110 ne_aT_b110 ne_b108_b111 ne_aK_b111 ne_aR_b111 ne_aT_b111 ne_b110_b111 g_b110 g_b111) hZ (hw _ (List.mem_of_getElem? (i := 23) rfl)) (hw _ (List.mem_of_getElem? (i := 22) rfl)) (by decide) (by decide)) (g := (mkF m 85 #[.val (.int p0), .val (.int p1), .val (.int p2), .val (.long xx), .second, .val (.long yy), .second, .val (.long zz), .second, .val (.int sf), .val (.int o1), .val (.int o2), .val (.ref b108), .val (.ref b110), .val (.ref b111), .unset, .unset, .unset, .unset, .unset] [(.long zz), (.long yy), (.int ((p1.toUInt32 >>> ((3 : Int32) &&& 31).toUInt32).toInt32)), (.int o2), (.int o1), (.int sf), (.ref b111), (.ref b110), (.ref b108)])) rfl (by rw [hml]; rfl) (argsL := [(.ref b108), (.ref b110), (.ref b111), (.int sf), (.int o1), (.int o2), (.int ((p1.toUInt32 >>> ((3 : Int32) &&& 31).toUInt32).toInt32)), (.long yy), (.long zz)]) (rest := []) (lenOf own_pd8 rfl) rfl (by show 2 * 0 + _ ≤ _; exact Nat.le_of_eq rfl) (hb hby at_85) (fun _ _ => ⟨rfl, rfl, (by decide : 8 + 2 ≤ _), (by decide : 31 + 5 ≤ _)⟩)
  dsimp only [Pt.U, Pt.locs, Pt.cells, Pt.slots] at X113 l113 y113 z113 st113 hQ113
  subst l113 y113 z113
  obtain ⟨K2, R2, rs2, fk2, fd2, rfl, Nq113, Kq113, BB, V_k, V_d, I2⟩ := hQ113
  replace N := Fr.app N Nq113
  replace O := O.keep Kq113 (allS g_b108 (allS g_aK (allS g_aR (allS g_aT (allS g_b110 (allS g_b111 all0))))))
  replace Zs := Nat.le_trans Zs Kq113.1
  refine own_st (g' := (mkF m 88 #[.val (.int p0), .val (.int p1), .val (.int p2), .val (.long xx), .second, .val (.long yy), .second, .val (.long zz), .second, .val (.int sf), .val (.int o1), .val (.int o2), .val (.ref b108), .val (.ref b110), .val (.ref b111), .unset, .unset, .unset, .unset, .unset] [])) st113 ?_
  refine own_st (T' := T113) (g' := (mkF m 89 #[.val (.int p0), .val (.int p1), .val (.int p2), .val (.long xx), .second, .val (.long yy), .second, .val (.long zz), .second, .val (.int sf), .val (.int o1), .val (.int o2), .val (.ref b108), .val (.ref b110), .val (.ref b111), .unset, .unset, .unset, .unset, .unset] [(.int p1)])) (fun _ zq => XS.iloadN X113.here hx rfl (hb hby at_88) rfl zq) ?_
  refine own_st (T' := T113) (g' := (mkF m 91 #[.val (.int p0), .val (.int p1), .val (.int p2), .val (.long xx), .second, .val (.long yy), .second, .val (.long zz), .second, .val (.int sf), .val (.int o1), .val (.int o2), .val (.ref b108), .val (.ref b110), .val (.ref b111), .unset, .unset, .unset, .unset, .unset] [(.int (64 : Int32)), (.int p1)])) (fun _ zq => XS.bipush X113.here hx rfl (hb hby at_89) zq) ?_
  refine own_st (T' := T113) (g' := (mkF m 92 #[.val (.int p0), .val (.int p1), .val (.int p2), .val (.long xx), .second, .val (.long yy), .second, .val (.long zz), .second, .val (.int sf), .val (.int o1), .val (.int o2), .val (.ref b108), .val (.ref b110), .val (.ref b111), .unset, .unset, .unset, .unset, .unset] [(.int (p1 &&& (64 : Int32)))])) (fun _ zq => XS.iand X113.here hx rfl (hb hby at_91) rfl zq) ?_
  suffices J102 : ∀ (ra : Int32) (ran : Nat) (hra : ra.toInt = (ran : Int)) (hlra : ran < 3 ∧ ran ≠ sn), own_Go p e below s (Q_law Z p0 p1 p2 xx yy zz aN fN h0 n0) 48 192 T113 (mkF m 102 #[.val (.int p0), .val (.int p1), .val (.int p2), .val (.long xx), .second, .val (.long yy), .second, .val (.long zz), .second, .val (.int sf), .val (.int o1), .val (.int o2), .val (.ref b108), .val (.ref b110), .val (.ref b111), .unset, .unset, .unset, .unset, .unset] [(.int ra)]) by
    by_cases hc : (p1 &&& (64 : Int32)) = (0 : Int32)
    · skip
      refine own_st (T' := T113) (g' := (mkF m 100 #[.val (.int p0), .val (.int p1), .val (.int p2), .val (.long xx), .second, .val (.long yy), .second, .val (.long zz), .second, .val (.int sf), .val (.int o1), .val (.int o2), .val (.ref b108), .val (.ref b110), .val (.ref b111), .unset, .unset, .unset, .unset, .unset] [])) (fun _ zq => XS.ifYes X113.here hx rfl (pc0 := 92) (pc' := 100) rfl (hb hby at_92) rfl ((if0 _ _).trans (teq hc).1) (by decide) (by decide) zq) ?_
      refine own_st (T' := T113) (g' := (mkF m 102 #[.val (.int p0), .val (.int p1), .val (.int p2), .val (.long xx), .second, .val (.long yy), .second, .val (.long zz), .second, .val (.int sf), .val (.int o1), .val (.int o2), .val (.ref b108), .val (.ref b110), .val (.ref b111), .unset, .unset, .unset, .unset, .unset] [(.int o1)])) (fun _ zq => XS.iload X113.here hx rfl (hb hby at_100) rfl zq) ?_
      exact J102 _ _ ho1 hl1
    · skip
      refine own_st (T' := T113) (g' := (mkF m 95 #[.val (.int p0), .val (.int p1), .val (.int p2), .val (.long xx), .second, .val (.long yy), .second, .val (.long zz), .second, .val (.int sf), .val (.int o1), .val (.int o2), .val (.ref b108), .val (.ref b110), .val (.ref b111), .unset, .unset, .unset, .unset, .unset] [])) (fun _ zq => XS.ifNo X113.here hx rfl (hb hby at_92) rfl ((if0 _ _).trans (feq hc).1) zq) ?_
      refine own_st (T' := T113) (g' := (mkF m 97 #[.val (.int p0), .val (.int p1), .val (.int p2), .val (.long xx), .second, .val (.long yy), .second, .val (.long zz), .second, .val (.int sf), .val (.int o1), .val (.int o2), .val (.ref b108), .val (.ref b110), .val (.ref b111), .unset, .unset, .unset, .unset, .unset] [(.int o2)])) (fun _ zq => XS.iload X113.here hx rfl (hb hby at_95) rfl zq) ?_
      refine own_st (T' := T113) (g' := (mkF m 102 #[.val (.int p0), .val (.int p1), .val (.int p2), .val (.long xx), .second, .val (.long yy), .second, .val (.long zz), .second, .val (.int sf), .val (.int o1), .val (.int o2), .val (.ref b108), .val (.ref b110), .val (.ref b111), .unset, .unset, .unset, .unset, .unset] [(.int o2)])) (fun _ zq => XS.goto X113.here hx rfl (pc0 := 97) (pc' := 102) rfl (hb hby at_97) (by decide) (by decide) zq) ?_
      exact J102 _ _ ho2 hl2
  intro ra ran hra hlra
  refine own_st (T' := T113) (g' := (mkF m 104 #[.val (.int p0), .val (.int p1), .val (.int p2), .val (.long xx), .second, .val (.long yy), .second, .val (.long zz), .second, .val (.int sf), .val (.int o1), .val (.int o2), .val (.ref b108), .val (.ref b110), .val (.ref b111), .val (.int ra), .unset, .unset, .unset, .unset] [])) (fun _ zq => XS.istore X113.here hx rfl (hb hby at_102) rfl (l' := #[.val (.int p0), .val (.int p1), .val (.int p2), .val (.long xx), .second, .val (.long yy), .second, .val (.long zz), .second, .val (.int sf), .val (.int o1), .val (.int o2), .val (.ref b108), .val (.ref b110), .val (.ref b111), .val (.int ra), .unset, .unset, .unset, .unset]) rfl zq) ?_
  refine own_st (T' := T113) (g' := (mkF m 106 #[.val (.int p0), .val (.int p1), .val (.int p2), .val (.long xx), .second, .val (.long yy), .second, .val (.long zz), .second, .val (.int sf), .val (.int o1), .val (.int o2), .val (.ref b108), .val (.ref b110), .val (.ref b111), .val (.int ra), .unset, .unset, .unset, .unset] [(.ref b108)])) (fun _ zq => XS.aload X113.here hx rfl (hb hby at_104) rfl rfl zq) ?_
  refine own_st (T' := T113) (g' := (mkF m 108 #[.val (.int p0), .val (.int p1), .val (.int p2), .val (.long xx), .second, .val (.long yy), .second, .val (.long zz), .second, .val (.int sf), .val (.int o1), .val (.int o2), .val (.ref b108), .val (.ref b110), .val (.ref b111), .val (.int ra), .unset, .unset, .unset, .unset] [(.int ra), (.ref b108)])) (fun _ zq => XS.iload X113.here hx rfl (hb hby at_106) rfl zq) ?_
  have ltd3 := V_d.lt
  have hel3 := own_elq I2 hlra.1
  obtain ⟨cq114, kq114, q114a, q114b, q114c⟩ := isOf hZ rfl BB.1
  obtain ⟨_, _, ⟨T114, L114, k114, n114⟩, -, X114, ⟨Lc114, hQ114, l114, y114, z114⟩, st114⟩ := X113.virtualBack hx (y := (⟨"com/example/coterie/coterie/runtime/KnownRequests", "news", "(I)[J"⟩ : MethodName)) (z := (⟨"com/example/coterie/coterie/runtime/KnownRequests", "news", "(I)[J"⟩ : MethodName)) hown (mvT hZ (hw _ (List.mem_of_getElem? (i := 41) rfl))) (mvT hZ (hw _ (List.mem_of_getElem? (i := 42) rfl))) (notFace_of_selects (args := #[]) (mvT hZ (hw _ (List.mem_of_getElem? (i := 44) rfl)))) (mvT hZ (hw _ (List.mem_of_getElem? (i := 44) rfl))) (mvT hZ (hw _ (List.mem_of_getElem? (i := 43) rfl))) (by decide) (backOf (W := 0) (rm_news l Z a0 hw [] b108 aK aR aT sf K2 R2 (fun _ => (0 : Int64)) rs2 ra ran aN fN T113.heap n0 Zs BB hra hlra.1 (own_invR I2) O S0 VN n1 n2 n3 n4 n5 n6 g_b108 g_aK g_aR g_aT) hZ (hw _ (List.mem_of_getElem? (i := 45) rfl)) (hw _ (List.mem_of_getElem? (i := 3) rfl)) (by decide) (by decide)) q114a q114c (g := (mkF m 108 #[.val (.int p0), .val (.int p1), .val (.int p2), .val (.long xx), .second, .val (.long yy), .second, .val (.long zz), .second, .val (.int sf), .val (.int o1), .val (.int o2), .val (.ref b108), .val (.ref b110), .val (.ref b111), .val (.int ra), .unset, .unset, .unset, .unset] [(.int ra), (.ref b108)])) rfl (by rw [hml]; rfl) (Steps.refl _) (argsL := [(.int ra)]) (rest := []) (lenOf own_pd9 rfl) rfl (by show 2 * 0 + _ ≤ _; exact Nat.le_of_eq rfl) (hb hby at_108) (fun _ _ => ⟨rfl, rfl, (by decide : 10 + 1 ≤ _), (by decide : 36 + 6 ≤ _)⟩)
  dsimp only [Pt.U, Pt.locs, Pt.cells, Pt.slots] at X114 l114 y114 z114 st114 hQ114
  subst l114 y114 z114
  obtain ⟨rr3, rfl, Nq114, Kq114, BB, V_g3, hne3⟩ := hQ114
  replace N := Fr.app N Nq114
  replace O := O.keep Kq114 (allS g_b108 (allS g_aK (allS g_aR (allS g_aT all0))))
  replace V_k := V_k.keep Kq114 (ninS ne_b108_b110.symm (ninS ne_aK_b110.symm (ninS ne_aR_b110.symm (ninS ne_aT_b110.symm nin0))))
  replace V_d := V_d.keep Kq114 (ninS ne_b108_b111.symm (ninS ne_aK_b111.symm (ninS ne_aR_b111.symm (ninS ne_aT_b111.symm nin0))))
  replace Zs := Nat.le_trans Zs Kq114.1
  refine own_tr (g' := (mkF m 111 #[.val (.int p0), .val (.int p1), .val (.int p2), .val (.long xx), .second, .val (.long yy), .second, .val (.long zz), .second, .val (.int sf), .val (.int o1), .val (.int o2), .val (.ref b108), .val (.ref b110), .val (.ref b111), .val (.int ra), .unset, .unset, .unset, .unset] [(.ref rr3)])) st114 ?_
  rw [hel3] at V_g3
  have V_g := V_g3
  refine own_st (T' := T114) (g' := (mkF m 113 #[.val (.int p0), .val (.int p1), .val (.int p2), .val (.long xx), .second, .val (.long yy), .second, .val (.long zz), .second, .val (.int sf), .val (.int o1), .val (.int o2), .val (.ref b108), .val (.ref b110), .val (.ref b111), .val (.int ra), .unset, .unset, .unset, .unset] [(.ref b110), (.ref rr3)])) (fun _ zq => XS.aload X114.here hx rfl (hb hby at_111) rfl rfl zq) ?_
  refine own_st (T' := T114) (g' := (mkF m 115 #[.val (.int p0), .val (.int p1), .val (.int p2), .val (.long xx), .second, .val (.long yy), .second, .val (.long zz), .second, .val (.int sf), .val (.int o1), .val (.int o2), .val (.ref b108), .val (.ref b110), .val (.ref b111), .val (.int ra), .unset, .unset, .unset, .unset] [(.ref b111), (.ref b110), (.ref rr3)])) (fun _ zq => XS.aload X114.here hx rfl (hb hby at_113) rfl rfl zq) ?_
  refine own_st (T' := T114) (g' := (mkF m 117 #[.val (.int p0), .val (.int p1), .val (.int p2), .val (.long xx), .second, .val (.long yy), .second, .val (.long zz), .second, .val (.int sf), .val (.int o1), .val (.int o2), .val (.ref b108), .val (.ref b110), .val (.ref b111), .val (.int ra), .unset, .unset, .unset, .unset] [(.int ra), (.ref b111), (.ref b110), (.ref rr3)])) (fun _ zq => XS.iload X114.here hx rfl (hb hby at_115) rfl zq) ?_
  obtain ⟨E_k, F_self, F_known, F_rose, F_told, F_rises, V_K, V_R, V_T, E_aK⟩ := BB
  have nrd3 : rr3 ≠ b111 := hne3 _ g_b111 ltd3
  obtain ⟨_, _, ⟨T115, L115, k115, n115⟩, -, X115, ⟨Lc115, hQ115, l115, y115, z115⟩, st115⟩ := Jvm.LawKit.callS X114 hx (y := (⟨"com/example/coterie/coterie/runtime/KnownRequestsNewsPinLaw", "check", "([J[J[ZI)Z"⟩ : MethodName)) hown (mvT hZ (hw _ (List.mem_of_getElem? (i := 50) rfl))) (mvT hZ (hw _ (List.mem_of_getElem? (i := 51) rfl))) (mvT hZ (hw _ (List.mem_of_getElem? (i := 22) rfl))) (mvT hZ (hw _ (List.mem_of_getElem? (i := 52) rfl))) (by decide) (backOf (W := 0) (rm_check l Z a0 hw [] rr3 b110 fk2 b111 fd2 ra ran T114.heap n0 Zs V_g V_k V_d hra hlra.1 nrd3 ne_b110_b111 g_b111) hZ (hw _ (List.mem_of_getElem? (i := 52) rfl)) (hw _ (List.mem_of_getElem? (i := 22) rfl)) (by decide) (by decide)) (g := (mkF m 117 #[.val (.int p0), .val (.int p1), .val (.int p2), .val (.long xx), .second, .val (.long yy), .second, .val (.long zz), .second, .val (.int sf), .val (.int o1), .val (.int o2), .val (.ref b108), .val (.ref b110), .val (.ref b111), .val (.int ra), .unset, .unset, .unset, .unset] [(.int ra), (.ref b111), (.ref b110), (.ref rr3)])) rfl (by rw [hml]; rfl) (argsL := [(.ref rr3), (.ref b110), (.ref b111), (.int ra)]) (rest := []) (lenOf own_pd10 rfl) rfl (by show 2 * 0 + _ ≤ _; exact Nat.le_of_eq rfl) (hb hby at_117) (fun _ _ => ⟨rfl, rfl, (by decide : 11 + 1 ≤ _), (by decide : 42 + 4 ≤ _)⟩)
  dsimp only [Pt.U, Pt.locs, Pt.cells, Pt.slots] at X115 l115 y115 z115 st115 hQ115
  subst l115 y115 z115
  obtain ⟨rfl, Nq115, Kq115, V_d⟩ := hQ115
  replace N := Fr.app N Nq115
  replace O := O.keep Kq115 (allS g_b111 all0)
  replace V_k := V_k.keep Kq115 (ninS ne_b110_b111 nin0)
  replace E_k := E_k.keep Kq115
  replace F_self := F_self.keep Kq115 (ninS ne_b108_b111 nin0)
  replace F_known := F_known.keep Kq115 (ninS ne_b108_b111 nin0)
  replace F_rose := F_rose.keep Kq115 (ninS ne_b108_b111 nin0)
  replace F_told := F_told.keep Kq115 (ninS ne_b108_b111 nin0)
  replace F_rises := F_rises.keep Kq115 (ninS ne_b108_b111 nin0)
  replace V_K := V_K.keep Kq115 (ninS ne_aK_b111 nin0)
  replace V_R := V_R.keep Kq115 (ninS ne_aR_b111 nin0)
  replace V_T := V_T.keep Kq115 (ninS ne_aT_b111 nin0)
  replace E_aK := E_aK.keep Kq115
  replace Zs := Nat.le_trans Zs Kq115.1
  refine own_st (g' := (mkF m 120 #[.val (.int p0), .val (.int p1), .val (.int p2), .val (.long xx), .second, .val (.long yy), .second, .val (.long zz), .second, .val (.int sf), .val (.int o1), .val (.int o2), .val (.ref b108), .val (.ref b110), .val (.ref b111), .val (.int ra), .unset, .unset, .unset, .unset] [(.int (1 : Int32))])) st115 ?_
  have BB : own_KR Z T115.heap b108 aK aR aT sf K2 R2 (own_upd (fun _ => (0 : Int64)) ran rs2) rs2 := ⟨E_k, F_self, F_known, F_rose, F_told, F_rises, V_K, V_R, V_T, E_aK⟩
  have I3 := own_invN I2 hlra.1
  refine own_st (T' := T115) (g' := (mkF m 122 #[.val (.int p0), .val (.int p1), .val (.int p2), .val (.long xx), .second, .val (.long yy), .second, .val (.long zz), .second, .val (.int sf), .val (.int o1), .val (.int o2), .val (.ref b108), .val (.ref b110), .val (.ref b111), .val (.int ra), .val (.int (1 : Int32)), .unset, .unset, .unset] [])) (fun _ zq => XS.istore X115.here hx rfl (hb hby at_120) rfl (l' := #[.val (.int p0), .val (.int p1), .val (.int p2), .val (.long xx), .second, .val (.long yy), .second, .val (.long zz), .second, .val (.int sf), .val (.int o1), .val (.int o2), .val (.ref b108), .val (.ref b110), .val (.ref b111), .val (.int ra), .val (.int (1 : Int32)), .unset, .unset, .unset]) rfl zq) ?_
  refine own_st (T' := T115) (g' := (mkF m 124 #[.val (.int p0), .val (.int p1), .val (.int p2), .val (.long xx), .second, .val (.long yy), .second, .val (.long zz), .second, .val (.int sf), .val (.int o1), .val (.int o2), .val (.ref b108), .val (.ref b110), .val (.ref b111), .val (.int ra), .val (.int (1 : Int32)), .unset, .unset, .unset] [(.ref b108)])) (fun _ zq => XS.aload X115.here hx rfl (hb hby at_122) rfl rfl zq) ?_
  refine own_st (T' := T115) (g' := (mkF m 126 #[.val (.int p0), .val (.int p1), .val (.int p2), .val (.long xx), .second, .val (.long yy), .second, .val (.long zz), .second, .val (.int sf), .val (.int o1), .val (.int o2), .val (.ref b108), .val (.ref b110), .val (.ref b111), .val (.int ra), .val (.int (1 : Int32)), .unset, .unset, .unset] [(.ref b110), (.ref b108)])) (fun _ zq => XS.aload X115.here hx rfl (hb hby at_124) rfl rfl zq) ?_
  refine own_st (T' := T115) (g' := (mkF m 128 #[.val (.int p0), .val (.int p1), .val (.int p2), .val (.long xx), .second, .val (.long yy), .second, .val (.long zz), .second, .val (.int sf), .val (.int o1), .val (.int o2), .val (.ref b108), .val (.ref b110), .val (.ref b111), .val (.int ra), .val (.int (1 : Int32)), .unset, .unset, .unset] [(.ref b111), (.ref b110), (.ref b108)])) (fun _ zq => XS.aload X115.here hx rfl (hb hby at_126) rfl rfl zq) ?_
  refine own_st (T' := T115) (g' := (mkF m 130 #[.val (.int p0), .val (.int p1), .val (.int p2), .val (.long xx), .second, .val (.long yy), .second, .val (.long zz), .second, .val (.int sf), .val (.int o1), .val (.int o2), .val (.ref b108), .val (.ref b110), .val (.ref b111), .val (.int ra), .val (.int (1 : Int32)), .unset, .unset, .unset] [(.int sf), (.ref b111), (.ref b110), (.ref b108)])) (fun _ zq => XS.iload X115.here hx rfl (hb hby at_128) rfl zq) ?_
  refine own_st (T' := T115) (g' := (mkF m 132 #[.val (.int p0), .val (.int p1), .val (.int p2), .val (.long xx), .second, .val (.long yy), .second, .val (.long zz), .second, .val (.int sf), .val (.int o1), .val (.int o2), .val (.ref b108), .val (.ref b110), .val (.ref b111), .val (.int ra), .val (.int (1 : Int32)), .unset, .unset, .unset] [(.int o1), (.int sf), (.ref b111), (.ref b110), (.ref b108)])) (fun _ zq => XS.iload X115.here hx rfl (hb hby at_130) rfl zq) ?_
  refine own_st (T' := T115) (g' := (mkF m 134 #[.val (.int p0), .val (.int p1), .val (.int p2), .val (.long xx), .second, .val (.long yy), .second, .val (.long zz), .second, .val (.int sf), .val (.int o1), .val (.int o2), .val (.ref b108), .val (.ref b110), .val (.ref b111), .val (.int ra), .val (.int (1 : Int32)), .unset, .unset, .unset] [(.int o2), (.int o1), (.int sf), (.ref b111), (.ref b110), (.ref b108)])) (fun _ zq => XS.iload X115.here hx rfl (hb hby at_132) rfl zq) ?_
  refine own_st (T' := T115) (g' := (mkF m 135 #[.val (.int p0), .val (.int p1), .val (.int p2), .val (.long xx), .second, .val (.long yy), .second, .val (.long zz), .second, .val (.int sf), .val (.int o1), .val (.int o2), .val (.ref b108), .val (.ref b110), .val (.ref b111), .val (.int ra), .val (.int (1 : Int32)), .unset, .unset, .unset] [(.int p2), (.int o2), (.int o1), (.int sf), (.ref b111), (.ref b110), (.ref b108)])) (fun _ zq => XS.iloadN X115.here hx rfl (hb hby at_134) rfl zq) ?_
  refine own_st (T' := T115) (g' := (mkF m 137 #[.val (.int p0), .val (.int p1), .val (.int p2), .val (.long xx), .second, .val (.long yy), .second, .val (.long zz), .second, .val (.int sf), .val (.int o1), .val (.int o2), .val (.ref b108), .val (.ref b110), .val (.ref b111), .val (.int ra), .val (.int (1 : Int32)), .unset, .unset, .unset] [(.long zz), (.int p2), (.int o2), (.int o1), (.int sf), (.ref b111), (.ref b110), (.ref b108)])) (fun _ zq => XS.lload X115.here hx rfl (hb hby at_135) rfl zq) ?_
  refine own_st (T' := T115) (g' := (mkF m 138 #[.val (.int p0), .val (.int p1), .val (.int p2), .val (.long xx), .second, .val (.long yy), .second, .val (.long zz), .second, .val (.int sf), .val (.int o1), .val (.int o2), .val (.ref b108), .val (.ref b110), .val (.ref b111), .val (.int ra), .val (.int (1 : Int32)), .unset, .unset, .unset] [(.long xx), (.long zz), (.int p2), (.int o2), (.int o1), (.int sf), (.ref b111), (.ref b110), (.ref b108)])) (fun _ zq => XS.lloadN X115.here hx rfl (hb hby at_137) rfl zq) ?_
  obtain ⟨_, _, ⟨T116, L116, k116, n116⟩, -, X116, ⟨Lc116, hQ116, l116, y116, z116⟩, st116⟩ := Jvm.LawKit.callS X115 hx (y := (⟨"com/example/coterie/coterie/runtime/KnownRequestsNewsPinLaw", "event", "(Lcom/example/coterie/coterie/runtime/KnownRequests;[J[ZIIIIJJ)V"⟩ : MethodName)) hown (mvT hZ (hw _ (List.mem_of_getElem? (i := 20) rfl))) (mvT hZ (hw _ (List.mem_of_getElem? (i := 21) rfl))) (mvT hZ (hw _ (List.mem_of_getElem? (i := 22) rfl))) (mvT hZ (hw _ (List.mem_of_getElem? (i := 23) rfl))) (by decide) (backOf (W := 0) (rm_event l Z a0 hw [] b108 aK aR aT sf K2 R2 (own_upd (fun _ => (0 : Int64)) ran rs2) rs2 b110 fk2 b111 (own_clr fd2 ran) sn o1 o1n o2 o2n p2 zz xx ((0 + 2) + 2) T115.heap n0 Zs BB V_k V_d hs hls ho1 hl1 ho2 hl2 I3 (by decide) n1 n2 n3 n4 n5 n6 g_b108 g_aK g_aR g_aT ne_b108_b110 ne_aK_b110 ne_aR_b110 ne_aT_b110 ne_b108_b111 ne_aK_b111 ne_aR_b111 ne_aT_b111 ne_b110_b111 g_b110 g_b111) hZ (hw _ (List.mem_of_getElem? (i := 23) rfl)) (hw _ (List.mem_of_getElem? (i := 22) rfl)) (by decide) (by decide)) (g := (mkF m 138 #[.val (.int p0), .val (.int p1), .val (.int p2), .val (.long xx), .second, .val (.long yy), .second, .val (.long zz), .second, .val (.int sf), .val (.int o1), .val (.int o2), .val (.ref b108), .val (.ref b110), .val (.ref b111), .val (.int ra), .val (.int (1 : Int32)), .unset, .unset, .unset] [(.long xx), (.long zz), (.int p2), (.int o2), (.int o1), (.int sf), (.ref b111), (.ref b110), (.ref b108)])) rfl (by rw [hml]; rfl) (argsL := [(.ref b108), (.ref b110), (.ref b111), (.int sf), (.int o1), (.int o2), (.int p2), (.long zz), (.long xx)]) (rest := []) (lenOf own_pd8 rfl) rfl (by show 2 * 0 + _ ≤ _; exact Nat.le_of_eq rfl) (hb hby at_138) (fun _ _ => ⟨rfl, rfl, (by decide : 12 + 2 ≤ _), (by decide : 46 + 5 ≤ _)⟩)
  dsimp only [Pt.U, Pt.locs, Pt.cells, Pt.slots] at X116 l116 y116 z116 st116 hQ116
  subst l116 y116 z116
  obtain ⟨K4, R4, rs4, fk4, fd4, rfl, Nq116, Kq116, BB, V_k, V_d, I4⟩ := hQ116
  replace N := Fr.app N Nq116
  replace O := O.keep Kq116 (allS g_b108 (allS g_aK (allS g_aR (allS g_aT (allS g_b110 (allS g_b111 all0))))))
  replace Zs := Nat.le_trans Zs Kq116.1
  refine own_st (g' := (mkF m 141 #[.val (.int p0), .val (.int p1), .val (.int p2), .val (.long xx), .second, .val (.long yy), .second, .val (.long zz), .second, .val (.int sf), .val (.int o1), .val (.int o2), .val (.ref b108), .val (.ref b110), .val (.ref b111), .val (.int ra), .val (.int (1 : Int32)), .unset, .unset, .unset] [])) st116 ?_
  refine own_st (T' := T116) (g' := (mkF m 142 #[.val (.int p0), .val (.int p1), .val (.int p2), .val (.long xx), .second, .val (.long yy), .second, .val (.long zz), .second, .val (.int sf), .val (.int o1), .val (.int o2), .val (.ref b108), .val (.ref b110), .val (.ref b111), .val (.int ra), .val (.int (1 : Int32)), .unset, .unset, .unset] [(.int p2)])) (fun _ zq => XS.iloadN X116.here hx rfl (hb hby at_141) rfl zq) ?_
  refine own_st (T' := T116) (g' := (mkF m 144 #[.val (.int p0), .val (.int p1), .val (.int p2), .val (.long xx), .second, .val (.long yy), .second, .val (.long zz), .second, .val (.int sf), .val (.int o1), .val (.int o2), .val (.ref b108), .val (.ref b110), .val (.ref b111), .val (.int ra), .val (.int (1 : Int32)), .unset, .unset, .unset] [(.int (8 : Int32)), (.int p2)])) (fun _ zq => XS.bipush X116.here hx rfl (hb hby at_142) zq) ?_
  refine own_st (T' := T116) (g' := (mkF m 145 #[.val (.int p0), .val (.int p1), .val (.int p2), .val (.long xx), .second, .val (.long yy), .second, .val (.long zz), .second, .val (.int sf), .val (.int o1), .val (.int o2), .val (.ref b108), .val (.ref b110), .val (.ref b111), .val (.int ra), .val (.int (1 : Int32)), .unset, .unset, .unset] [(.int (p2 &&& (8 : Int32)))])) (fun _ zq => XS.iand X116.here hx rfl (hb hby at_144) rfl zq) ?_
  suffices J155 : ∀ (rb : Int32) (rbn : Nat) (hrb : rb.toInt = (rbn : Int)) (hlrb : rbn < 3 ∧ rbn ≠ sn), own_Go p e below s (Q_law Z p0 p1 p2 xx yy zz aN fN h0 n0) 48 192 T116 (mkF m 155 #[.val (.int p0), .val (.int p1), .val (.int p2), .val (.long xx), .second, .val (.long yy), .second, .val (.long zz), .second, .val (.int sf), .val (.int o1), .val (.int o2), .val (.ref b108), .val (.ref b110), .val (.ref b111), .val (.int ra), .val (.int (1 : Int32)), .unset, .unset, .unset] [(.int rb)]) by
    by_cases hc : (p2 &&& (8 : Int32)) = (0 : Int32)
    · skip
      refine own_st (T' := T116) (g' := (mkF m 153 #[.val (.int p0), .val (.int p1), .val (.int p2), .val (.long xx), .second, .val (.long yy), .second, .val (.long zz), .second, .val (.int sf), .val (.int o1), .val (.int o2), .val (.ref b108), .val (.ref b110), .val (.ref b111), .val (.int ra), .val (.int (1 : Int32)), .unset, .unset, .unset] [])) (fun _ zq => XS.ifYes X116.here hx rfl (pc0 := 145) (pc' := 153) rfl (hb hby at_145) rfl ((if0 _ _).trans (teq hc).1) (by decide) (by decide) zq) ?_
      refine own_st (T' := T116) (g' := (mkF m 155 #[.val (.int p0), .val (.int p1), .val (.int p2), .val (.long xx), .second, .val (.long yy), .second, .val (.long zz), .second, .val (.int sf), .val (.int o1), .val (.int o2), .val (.ref b108), .val (.ref b110), .val (.ref b111), .val (.int ra), .val (.int (1 : Int32)), .unset, .unset, .unset] [(.int o1)])) (fun _ zq => XS.iload X116.here hx rfl (hb hby at_153) rfl zq) ?_
      exact J155 _ _ ho1 hl1
    · skip
      refine own_st (T' := T116) (g' := (mkF m 148 #[.val (.int p0), .val (.int p1), .val (.int p2), .val (.long xx), .second, .val (.long yy), .second, .val (.long zz), .second, .val (.int sf), .val (.int o1), .val (.int o2), .val (.ref b108), .val (.ref b110), .val (.ref b111), .val (.int ra), .val (.int (1 : Int32)), .unset, .unset, .unset] [])) (fun _ zq => XS.ifNo X116.here hx rfl (hb hby at_145) rfl ((if0 _ _).trans (feq hc).1) zq) ?_
      refine own_st (T' := T116) (g' := (mkF m 150 #[.val (.int p0), .val (.int p1), .val (.int p2), .val (.long xx), .second, .val (.long yy), .second, .val (.long zz), .second, .val (.int sf), .val (.int o1), .val (.int o2), .val (.ref b108), .val (.ref b110), .val (.ref b111), .val (.int ra), .val (.int (1 : Int32)), .unset, .unset, .unset] [(.int o2)])) (fun _ zq => XS.iload X116.here hx rfl (hb hby at_148) rfl zq) ?_
      refine own_st (T' := T116) (g' := (mkF m 155 #[.val (.int p0), .val (.int p1), .val (.int p2), .val (.long xx), .second, .val (.long yy), .second, .val (.long zz), .second, .val (.int sf), .val (.int o1), .val (.int o2), .val (.ref b108), .val (.ref b110), .val (.ref b111), .val (.int ra), .val (.int (1 : Int32)), .unset, .unset, .unset] [(.int o2)])) (fun _ zq => XS.goto X116.here hx rfl (pc0 := 150) (pc' := 155) rfl (hb hby at_150) (by decide) (by decide) zq) ?_
      exact J155 _ _ ho2 hl2
  intro rb rbn hrb hlrb
  refine own_st (T' := T116) (g' := (mkF m 157 #[.val (.int p0), .val (.int p1), .val (.int p2), .val (.long xx), .second, .val (.long yy), .second, .val (.long zz), .second, .val (.int sf), .val (.int o1), .val (.int o2), .val (.ref b108), .val (.ref b110), .val (.ref b111), .val (.int ra), .val (.int (1 : Int32)), .val (.int rb), .unset, .unset] [])) (fun _ zq => XS.istore X116.here hx rfl (hb hby at_155) rfl (l' := #[.val (.int p0), .val (.int p1), .val (.int p2), .val (.long xx), .second, .val (.long yy), .second, .val (.long zz), .second, .val (.int sf), .val (.int o1), .val (.int o2), .val (.ref b108), .val (.ref b110), .val (.ref b111), .val (.int ra), .val (.int (1 : Int32)), .val (.int rb), .unset, .unset]) rfl zq) ?_
  refine own_st (T' := T116) (g' := (mkF m 159 #[.val (.int p0), .val (.int p1), .val (.int p2), .val (.long xx), .second, .val (.long yy), .second, .val (.long zz), .second, .val (.int sf), .val (.int o1), .val (.int o2), .val (.ref b108), .val (.ref b110), .val (.ref b111), .val (.int ra), .val (.int (1 : Int32)), .val (.int rb), .unset, .unset] [(.ref b108)])) (fun _ zq => XS.aload X116.here hx rfl (hb hby at_157) rfl rfl zq) ?_
  refine own_st (T' := T116) (g' := (mkF m 161 #[.val (.int p0), .val (.int p1), .val (.int p2), .val (.long xx), .second, .val (.long yy), .second, .val (.long zz), .second, .val (.int sf), .val (.int o1), .val (.int o2), .val (.ref b108), .val (.ref b110), .val (.ref b111), .val (.int ra), .val (.int (1 : Int32)), .val (.int rb), .unset, .unset] [(.int rb), (.ref b108)])) (fun _ zq => XS.iload X116.here hx rfl (hb hby at_159) rfl zq) ?_
  have ltd5 := V_d.lt
  have hel5 := own_elq I4 hlrb.1
  obtain ⟨cq117, kq117, q117a, q117b, q117c⟩ := isOf hZ rfl BB.1
  obtain ⟨_, _, ⟨T117, L117, k117, n117⟩, -, X117, ⟨Lc117, hQ117, l117, y117, z117⟩, st117⟩ := X116.virtualBack hx (y := (⟨"com/example/coterie/coterie/runtime/KnownRequests", "news", "(I)[J"⟩ : MethodName)) (z := (⟨"com/example/coterie/coterie/runtime/KnownRequests", "news", "(I)[J"⟩ : MethodName)) hown (mvT hZ (hw _ (List.mem_of_getElem? (i := 41) rfl))) (mvT hZ (hw _ (List.mem_of_getElem? (i := 42) rfl))) (notFace_of_selects (args := #[]) (mvT hZ (hw _ (List.mem_of_getElem? (i := 44) rfl)))) (mvT hZ (hw _ (List.mem_of_getElem? (i := 44) rfl))) (mvT hZ (hw _ (List.mem_of_getElem? (i := 43) rfl))) (by decide) (backOf (W := 0) (rm_news l Z a0 hw [] b108 aK aR aT sf K4 R4 (own_upd (fun _ => (0 : Int64)) ran rs2) rs4 rb rbn aN fN T116.heap n0 Zs BB hrb hlrb.1 (own_invR I4) O S0 VN n1 n2 n3 n4 n5 n6 g_b108 g_aK g_aR g_aT) hZ (hw _ (List.mem_of_getElem? (i := 45) rfl)) (hw _ (List.mem_of_getElem? (i := 3) rfl)) (by decide) (by decide)) q117a q117c (g := (mkF m 161 #[.val (.int p0), .val (.int p1), .val (.int p2), .val (.long xx), .second, .val (.long yy), .second, .val (.long zz), .second, .val (.int sf), .val (.int o1), .val (.int o2), .val (.ref b108), .val (.ref b110), .val (.ref b111), .val (.int ra), .val (.int (1 : Int32)), .val (.int rb), .unset, .unset] [(.int rb), (.ref b108)])) rfl (by rw [hml]; rfl) (Steps.refl _) (argsL := [(.int rb)]) (rest := []) (lenOf own_pd9 rfl) rfl (by show 2 * 0 + _ ≤ _; exact Nat.le_of_eq rfl) (hb hby at_161) (fun _ _ => ⟨rfl, rfl, (by decide : 14 + 1 ≤ _), (by decide : 51 + 6 ≤ _)⟩)
  dsimp only [Pt.U, Pt.locs, Pt.cells, Pt.slots] at X117 l117 y117 z117 st117 hQ117
  subst l117 y117 z117
  obtain ⟨rr5, rfl, Nq117, Kq117, BB, V_g5, hne5⟩ := hQ117
  replace N := Fr.app N Nq117
  replace O := O.keep Kq117 (allS g_b108 (allS g_aK (allS g_aR (allS g_aT all0))))
  replace V_k := V_k.keep Kq117 (ninS ne_b108_b110.symm (ninS ne_aK_b110.symm (ninS ne_aR_b110.symm (ninS ne_aT_b110.symm nin0))))
  replace V_d := V_d.keep Kq117 (ninS ne_b108_b111.symm (ninS ne_aK_b111.symm (ninS ne_aR_b111.symm (ninS ne_aT_b111.symm nin0))))
  replace Zs := Nat.le_trans Zs Kq117.1
  refine own_tr (g' := (mkF m 164 #[.val (.int p0), .val (.int p1), .val (.int p2), .val (.long xx), .second, .val (.long yy), .second, .val (.long zz), .second, .val (.int sf), .val (.int o1), .val (.int o2), .val (.ref b108), .val (.ref b110), .val (.ref b111), .val (.int ra), .val (.int (1 : Int32)), .val (.int rb), .unset, .unset] [(.ref rr5)])) st117 ?_
  rw [hel5] at V_g5
  have V_g := V_g5
  refine own_st (T' := T117) (g' := (mkF m 166 #[.val (.int p0), .val (.int p1), .val (.int p2), .val (.long xx), .second, .val (.long yy), .second, .val (.long zz), .second, .val (.int sf), .val (.int o1), .val (.int o2), .val (.ref b108), .val (.ref b110), .val (.ref b111), .val (.int ra), .val (.int (1 : Int32)), .val (.int rb), .unset, .unset] [(.ref b110), (.ref rr5)])) (fun _ zq => XS.aload X117.here hx rfl (hb hby at_164) rfl rfl zq) ?_
  refine own_st (T' := T117) (g' := (mkF m 168 #[.val (.int p0), .val (.int p1), .val (.int p2), .val (.long xx), .second, .val (.long yy), .second, .val (.long zz), .second, .val (.int sf), .val (.int o1), .val (.int o2), .val (.ref b108), .val (.ref b110), .val (.ref b111), .val (.int ra), .val (.int (1 : Int32)), .val (.int rb), .unset, .unset] [(.ref b111), (.ref b110), (.ref rr5)])) (fun _ zq => XS.aload X117.here hx rfl (hb hby at_166) rfl rfl zq) ?_
  refine own_st (T' := T117) (g' := (mkF m 170 #[.val (.int p0), .val (.int p1), .val (.int p2), .val (.long xx), .second, .val (.long yy), .second, .val (.long zz), .second, .val (.int sf), .val (.int o1), .val (.int o2), .val (.ref b108), .val (.ref b110), .val (.ref b111), .val (.int ra), .val (.int (1 : Int32)), .val (.int rb), .unset, .unset] [(.int rb), (.ref b111), (.ref b110), (.ref rr5)])) (fun _ zq => XS.iload X117.here hx rfl (hb hby at_168) rfl zq) ?_
  obtain ⟨E_k, F_self, F_known, F_rose, F_told, F_rises, V_K, V_R, V_T, E_aK⟩ := BB
  have nrd5 : rr5 ≠ b111 := hne5 _ g_b111 ltd5
  obtain ⟨_, _, ⟨T118, L118, k118, n118⟩, -, X118, ⟨Lc118, hQ118, l118, y118, z118⟩, st118⟩ := Jvm.LawKit.callS X117 hx (y := (⟨"com/example/coterie/coterie/runtime/KnownRequestsNewsPinLaw", "check", "([J[J[ZI)Z"⟩ : MethodName)) hown (mvT hZ (hw _ (List.mem_of_getElem? (i := 50) rfl))) (mvT hZ (hw _ (List.mem_of_getElem? (i := 51) rfl))) (mvT hZ (hw _ (List.mem_of_getElem? (i := 22) rfl))) (mvT hZ (hw _ (List.mem_of_getElem? (i := 52) rfl))) (by decide) (backOf (W := 0) (rm_check l Z a0 hw [] rr5 b110 fk4 b111 fd4 rb rbn T117.heap n0 Zs V_g V_k V_d hrb hlrb.1 nrd5 ne_b110_b111 g_b111) hZ (hw _ (List.mem_of_getElem? (i := 52) rfl)) (hw _ (List.mem_of_getElem? (i := 22) rfl)) (by decide) (by decide)) (g := (mkF m 170 #[.val (.int p0), .val (.int p1), .val (.int p2), .val (.long xx), .second, .val (.long yy), .second, .val (.long zz), .second, .val (.int sf), .val (.int o1), .val (.int o2), .val (.ref b108), .val (.ref b110), .val (.ref b111), .val (.int ra), .val (.int (1 : Int32)), .val (.int rb), .unset, .unset] [(.int rb), (.ref b111), (.ref b110), (.ref rr5)])) rfl (by rw [hml]; rfl) (argsL := [(.ref rr5), (.ref b110), (.ref b111), (.int rb)]) (rest := []) (lenOf own_pd10 rfl) rfl (by show 2 * 0 + _ ≤ _; exact Nat.le_of_eq rfl) (hb hby at_170) (fun _ _ => ⟨rfl, rfl, (by decide : 15 + 1 ≤ _), (by decide : 57 + 4 ≤ _)⟩)
  dsimp only [Pt.U, Pt.locs, Pt.cells, Pt.slots] at X118 l118 y118 z118 st118 hQ118
  subst l118 y118 z118
  obtain ⟨rfl, Nq118, Kq118, V_d⟩ := hQ118
  replace N := Fr.app N Nq118
  replace O := O.keep Kq118 (allS g_b111 all0)
  replace V_k := V_k.keep Kq118 (ninS ne_b110_b111 nin0)
  replace E_k := E_k.keep Kq118
  replace F_self := F_self.keep Kq118 (ninS ne_b108_b111 nin0)
  replace F_known := F_known.keep Kq118 (ninS ne_b108_b111 nin0)
  replace F_rose := F_rose.keep Kq118 (ninS ne_b108_b111 nin0)
  replace F_told := F_told.keep Kq118 (ninS ne_b108_b111 nin0)
  replace F_rises := F_rises.keep Kq118 (ninS ne_b108_b111 nin0)
  replace V_K := V_K.keep Kq118 (ninS ne_aK_b111 nin0)
  replace V_R := V_R.keep Kq118 (ninS ne_aR_b111 nin0)
  replace V_T := V_T.keep Kq118 (ninS ne_aT_b111 nin0)
  replace E_aK := E_aK.keep Kq118
  replace Zs := Nat.le_trans Zs Kq118.1
  refine own_st (g' := (mkF m 173 #[.val (.int p0), .val (.int p1), .val (.int p2), .val (.long xx), .second, .val (.long yy), .second, .val (.long zz), .second, .val (.int sf), .val (.int o1), .val (.int o2), .val (.ref b108), .val (.ref b110), .val (.ref b111), .val (.int ra), .val (.int (1 : Int32)), .val (.int rb), .unset, .unset] [(.int (1 : Int32))])) st118 ?_
  have BB : own_KR Z T118.heap b108 aK aR aT sf K4 R4 (own_upd (own_upd (fun _ => (0 : Int64)) ran rs2) rbn rs4) rs4 := ⟨E_k, F_self, F_known, F_rose, F_told, F_rises, V_K, V_R, V_T, E_aK⟩
  have I5 := own_invN I4 hlrb.1
  refine own_st (T' := T118) (g' := (mkF m 175 #[.val (.int p0), .val (.int p1), .val (.int p2), .val (.long xx), .second, .val (.long yy), .second, .val (.long zz), .second, .val (.int sf), .val (.int o1), .val (.int o2), .val (.ref b108), .val (.ref b110), .val (.ref b111), .val (.int ra), .val (.int (1 : Int32)), .val (.int rb), .val (.int (1 : Int32)), .unset] [])) (fun _ zq => XS.istore X118.here hx rfl (hb hby at_173) rfl (l' := #[.val (.int p0), .val (.int p1), .val (.int p2), .val (.long xx), .second, .val (.long yy), .second, .val (.long zz), .second, .val (.int sf), .val (.int o1), .val (.int o2), .val (.ref b108), .val (.ref b110), .val (.ref b111), .val (.int ra), .val (.int (1 : Int32)), .val (.int rb), .val (.int (1 : Int32)), .unset]) rfl zq) ?_
  refine own_st (T' := T118) (g' := (mkF m 177 #[.val (.int p0), .val (.int p1), .val (.int p2), .val (.long xx), .second, .val (.long yy), .second, .val (.long zz), .second, .val (.int sf), .val (.int o1), .val (.int o2), .val (.ref b108), .val (.ref b110), .val (.ref b111), .val (.int ra), .val (.int (1 : Int32)), .val (.int rb), .val (.int (1 : Int32)), .unset] [(.ref b108)])) (fun _ zq => XS.aload X118.here hx rfl (hb hby at_175) rfl rfl zq) ?_
  refine own_st (T' := T118) (g' := (mkF m 179 #[.val (.int p0), .val (.int p1), .val (.int p2), .val (.long xx), .second, .val (.long yy), .second, .val (.long zz), .second, .val (.int sf), .val (.int o1), .val (.int o2), .val (.ref b108), .val (.ref b110), .val (.ref b111), .val (.int ra), .val (.int (1 : Int32)), .val (.int rb), .val (.int (1 : Int32)), .unset] [(.int ra), (.ref b108)])) (fun _ zq => XS.iload X118.here hx rfl (hb hby at_177) rfl zq) ?_
  have ltd6 := V_d.lt
  have hel6 := own_elq I5 hlra.1
  obtain ⟨cq119, kq119, q119a, q119b, q119c⟩ := isOf hZ rfl BB.1
  obtain ⟨_, _, ⟨T119, L119, k119, n119⟩, -, X119, ⟨Lc119, hQ119, l119, y119, z119⟩, st119⟩ := X118.virtualBack hx (y := (⟨"com/example/coterie/coterie/runtime/KnownRequests", "news", "(I)[J"⟩ : MethodName)) (z := (⟨"com/example/coterie/coterie/runtime/KnownRequests", "news", "(I)[J"⟩ : MethodName)) hown (mvT hZ (hw _ (List.mem_of_getElem? (i := 41) rfl))) (mvT hZ (hw _ (List.mem_of_getElem? (i := 42) rfl))) (notFace_of_selects (args := #[]) (mvT hZ (hw _ (List.mem_of_getElem? (i := 44) rfl)))) (mvT hZ (hw _ (List.mem_of_getElem? (i := 44) rfl))) (mvT hZ (hw _ (List.mem_of_getElem? (i := 43) rfl))) (by decide) (backOf (W := 0) (rm_news l Z a0 hw [] b108 aK aR aT sf K4 R4 (own_upd (own_upd (fun _ => (0 : Int64)) ran rs2) rbn rs4) rs4 ra ran aN fN T118.heap n0 Zs BB hra hlra.1 (own_invR I5) O S0 VN n1 n2 n3 n4 n5 n6 g_b108 g_aK g_aR g_aT) hZ (hw _ (List.mem_of_getElem? (i := 45) rfl)) (hw _ (List.mem_of_getElem? (i := 3) rfl)) (by decide) (by decide)) q119a q119c (g := (mkF m 179 #[.val (.int p0), .val (.int p1), .val (.int p2), .val (.long xx), .second, .val (.long yy), .second, .val (.long zz), .second, .val (.int sf), .val (.int o1), .val (.int o2), .val (.ref b108), .val (.ref b110), .val (.ref b111), .val (.int ra), .val (.int (1 : Int32)), .val (.int rb), .val (.int (1 : Int32)), .unset] [(.int ra), (.ref b108)])) rfl (by rw [hml]; rfl) (Steps.refl _) (argsL := [(.int ra)]) (rest := []) (lenOf own_pd9 rfl) rfl (by show 2 * 0 + _ ≤ _; exact Nat.le_of_eq rfl) (hb hby at_179) (fun _ _ => ⟨rfl, rfl, (by decide : 16 + 1 ≤ _), (by decide : 61 + 6 ≤ _)⟩)
  dsimp only [Pt.U, Pt.locs, Pt.cells, Pt.slots] at X119 l119 y119 z119 st119 hQ119
  subst l119 y119 z119
  obtain ⟨rr6, rfl, Nq119, Kq119, BB, V_g6, hne6⟩ := hQ119
  replace N := Fr.app N Nq119
  replace O := O.keep Kq119 (allS g_b108 (allS g_aK (allS g_aR (allS g_aT all0))))
  replace V_k := V_k.keep Kq119 (ninS ne_b108_b110.symm (ninS ne_aK_b110.symm (ninS ne_aR_b110.symm (ninS ne_aT_b110.symm nin0))))
  replace V_d := V_d.keep Kq119 (ninS ne_b108_b111.symm (ninS ne_aK_b111.symm (ninS ne_aR_b111.symm (ninS ne_aT_b111.symm nin0))))
  replace Zs := Nat.le_trans Zs Kq119.1
  refine own_tr (g' := (mkF m 182 #[.val (.int p0), .val (.int p1), .val (.int p2), .val (.long xx), .second, .val (.long yy), .second, .val (.long zz), .second, .val (.int sf), .val (.int o1), .val (.int o2), .val (.ref b108), .val (.ref b110), .val (.ref b111), .val (.int ra), .val (.int (1 : Int32)), .val (.int rb), .val (.int (1 : Int32)), .unset] [(.ref rr6)])) st119 ?_
  rw [hel6] at V_g6
  have V_g := V_g6
  refine own_st (T' := T119) (g' := (mkF m 184 #[.val (.int p0), .val (.int p1), .val (.int p2), .val (.long xx), .second, .val (.long yy), .second, .val (.long zz), .second, .val (.int sf), .val (.int o1), .val (.int o2), .val (.ref b108), .val (.ref b110), .val (.ref b111), .val (.int ra), .val (.int (1 : Int32)), .val (.int rb), .val (.int (1 : Int32)), .unset] [(.ref b110), (.ref rr6)])) (fun _ zq => XS.aload X119.here hx rfl (hb hby at_182) rfl rfl zq) ?_
  refine own_st (T' := T119) (g' := (mkF m 186 #[.val (.int p0), .val (.int p1), .val (.int p2), .val (.long xx), .second, .val (.long yy), .second, .val (.long zz), .second, .val (.int sf), .val (.int o1), .val (.int o2), .val (.ref b108), .val (.ref b110), .val (.ref b111), .val (.int ra), .val (.int (1 : Int32)), .val (.int rb), .val (.int (1 : Int32)), .unset] [(.ref b111), (.ref b110), (.ref rr6)])) (fun _ zq => XS.aload X119.here hx rfl (hb hby at_184) rfl rfl zq) ?_
  refine own_st (T' := T119) (g' := (mkF m 188 #[.val (.int p0), .val (.int p1), .val (.int p2), .val (.long xx), .second, .val (.long yy), .second, .val (.long zz), .second, .val (.int sf), .val (.int o1), .val (.int o2), .val (.ref b108), .val (.ref b110), .val (.ref b111), .val (.int ra), .val (.int (1 : Int32)), .val (.int rb), .val (.int (1 : Int32)), .unset] [(.int ra), (.ref b111), (.ref b110), (.ref rr6)])) (fun _ zq => XS.iload X119.here hx rfl (hb hby at_186) rfl zq) ?_
  obtain ⟨E_k, F_self, F_known, F_rose, F_told, F_rises, V_K, V_R, V_T, E_aK⟩ := BB
  have nrd6 : rr6 ≠ b111 := hne6 _ g_b111 ltd6
  obtain ⟨_, _, ⟨T120, L120, k120, n120⟩, -, X120, ⟨Lc120, hQ120, l120, y120, z120⟩, st120⟩ := Jvm.LawKit.callS X119 hx (y := (⟨"com/example/coterie/coterie/runtime/KnownRequestsNewsPinLaw", "check", "([J[J[ZI)Z"⟩ : MethodName)) hown (mvT hZ (hw _ (List.mem_of_getElem? (i := 50) rfl))) (mvT hZ (hw _ (List.mem_of_getElem? (i := 51) rfl))) (mvT hZ (hw _ (List.mem_of_getElem? (i := 22) rfl))) (mvT hZ (hw _ (List.mem_of_getElem? (i := 52) rfl))) (by decide) (backOf (W := 0) (rm_check l Z a0 hw [] rr6 b110 fk4 b111 (own_clr fd4 rbn) ra ran T119.heap n0 Zs V_g V_k V_d hra hlra.1 nrd6 ne_b110_b111 g_b111) hZ (hw _ (List.mem_of_getElem? (i := 52) rfl)) (hw _ (List.mem_of_getElem? (i := 22) rfl)) (by decide) (by decide)) (g := (mkF m 188 #[.val (.int p0), .val (.int p1), .val (.int p2), .val (.long xx), .second, .val (.long yy), .second, .val (.long zz), .second, .val (.int sf), .val (.int o1), .val (.int o2), .val (.ref b108), .val (.ref b110), .val (.ref b111), .val (.int ra), .val (.int (1 : Int32)), .val (.int rb), .val (.int (1 : Int32)), .unset] [(.int ra), (.ref b111), (.ref b110), (.ref rr6)])) rfl (by rw [hml]; rfl) (argsL := [(.ref rr6), (.ref b110), (.ref b111), (.int ra)]) (rest := []) (lenOf own_pd10 rfl) rfl (by show 2 * 0 + _ ≤ _; exact Nat.le_of_eq rfl) (hb hby at_188) (fun _ _ => ⟨rfl, rfl, (by decide : 17 + 1 ≤ _), (by decide : 67 + 4 ≤ _)⟩)
  dsimp only [Pt.U, Pt.locs, Pt.cells, Pt.slots] at X120 l120 y120 z120 st120 hQ120
  subst l120 y120 z120
  obtain ⟨rfl, Nq120, Kq120, V_d⟩ := hQ120
  replace N := Fr.app N Nq120
  replace O := O.keep Kq120 (allS g_b111 all0)
  replace V_k := V_k.keep Kq120 (ninS ne_b110_b111 nin0)
  replace E_k := E_k.keep Kq120
  replace F_self := F_self.keep Kq120 (ninS ne_b108_b111 nin0)
  replace F_known := F_known.keep Kq120 (ninS ne_b108_b111 nin0)
  replace F_rose := F_rose.keep Kq120 (ninS ne_b108_b111 nin0)
  replace F_told := F_told.keep Kq120 (ninS ne_b108_b111 nin0)
  replace F_rises := F_rises.keep Kq120 (ninS ne_b108_b111 nin0)
  replace V_K := V_K.keep Kq120 (ninS ne_aK_b111 nin0)
  replace V_R := V_R.keep Kq120 (ninS ne_aR_b111 nin0)
  replace V_T := V_T.keep Kq120 (ninS ne_aT_b111 nin0)
  replace E_aK := E_aK.keep Kq120
  replace Zs := Nat.le_trans Zs Kq120.1
  refine own_st (g' := (mkF m 191 #[.val (.int p0), .val (.int p1), .val (.int p2), .val (.long xx), .second, .val (.long yy), .second, .val (.long zz), .second, .val (.int sf), .val (.int o1), .val (.int o2), .val (.ref b108), .val (.ref b110), .val (.ref b111), .val (.int ra), .val (.int (1 : Int32)), .val (.int rb), .val (.int (1 : Int32)), .unset] [(.int (1 : Int32))])) st120 ?_
  have BB : own_KR Z T120.heap b108 aK aR aT sf K4 R4 (own_upd (own_upd (own_upd (fun _ => (0 : Int64)) ran rs2) rbn rs4) ran rs4) rs4 := ⟨E_k, F_self, F_known, F_rose, F_told, F_rises, V_K, V_R, V_T, E_aK⟩
  have I6 := own_invN I5 hlra.1
  refine own_st (T' := T120) (g' := (mkF m 193 #[.val (.int p0), .val (.int p1), .val (.int p2), .val (.long xx), .second, .val (.long yy), .second, .val (.long zz), .second, .val (.int sf), .val (.int o1), .val (.int o2), .val (.ref b108), .val (.ref b110), .val (.ref b111), .val (.int ra), .val (.int (1 : Int32)), .val (.int rb), .val (.int (1 : Int32)), .val (.int (1 : Int32))] [])) (fun _ zq => XS.istore X120.here hx rfl (hb hby at_191) rfl (l' := #[.val (.int p0), .val (.int p1), .val (.int p2), .val (.long xx), .second, .val (.long yy), .second, .val (.long zz), .second, .val (.int sf), .val (.int o1), .val (.int o2), .val (.ref b108), .val (.ref b110), .val (.ref b111), .val (.int ra), .val (.int (1 : Int32)), .val (.int rb), .val (.int (1 : Int32)), .val (.int (1 : Int32))]) rfl zq) ?_
  refine own_st (T' := T120) (g' := (mkF m 195 #[.val (.int p0), .val (.int p1), .val (.int p2), .val (.long xx), .second, .val (.long yy), .second, .val (.long zz), .second, .val (.int sf), .val (.int o1), .val (.int o2), .val (.ref b108), .val (.ref b110), .val (.ref b111), .val (.int ra), .val (.int (1 : Int32)), .val (.int rb), .val (.int (1 : Int32)), .val (.int (1 : Int32))] [(.int (1 : Int32))])) (fun _ zq => XS.iload X120.here hx rfl (hb hby at_193) rfl zq) ?_
  refine own_st (T' := T120) (g' := (mkF m 198 #[.val (.int p0), .val (.int p1), .val (.int p2), .val (.long xx), .second, .val (.long yy), .second, .val (.long zz), .second, .val (.int sf), .val (.int o1), .val (.int o2), .val (.ref b108), .val (.ref b110), .val (.ref b111), .val (.int ra), .val (.int (1 : Int32)), .val (.int rb), .val (.int (1 : Int32)), .val (.int (1 : Int32))] [])) (fun _ zq => XS.ifNo X120.here hx rfl (hb hby at_195) rfl ((if0 _ _).trans (feq (by decide)).1) zq) ?_
  refine own_st (T' := T120) (g' := (mkF m 200 #[.val (.int p0), .val (.int p1), .val (.int p2), .val (.long xx), .second, .val (.long yy), .second, .val (.long zz), .second, .val (.int sf), .val (.int o1), .val (.int o2), .val (.ref b108), .val (.ref b110), .val (.ref b111), .val (.int ra), .val (.int (1 : Int32)), .val (.int rb), .val (.int (1 : Int32)), .val (.int (1 : Int32))] [(.int (1 : Int32))])) (fun _ zq => XS.iload X120.here hx rfl (hb hby at_198) rfl zq) ?_
  refine own_st (T' := T120) (g' := (mkF m 203 #[.val (.int p0), .val (.int p1), .val (.int p2), .val (.long xx), .second, .val (.long yy), .second, .val (.long zz), .second, .val (.int sf), .val (.int o1), .val (.int o2), .val (.ref b108), .val (.ref b110), .val (.ref b111), .val (.int ra), .val (.int (1 : Int32)), .val (.int rb), .val (.int (1 : Int32)), .val (.int (1 : Int32))] [])) (fun _ zq => XS.ifNo X120.here hx rfl (hb hby at_200) rfl ((if0 _ _).trans (feq (by decide)).1) zq) ?_
  refine own_st (T' := T120) (g' := (mkF m 205 #[.val (.int p0), .val (.int p1), .val (.int p2), .val (.long xx), .second, .val (.long yy), .second, .val (.long zz), .second, .val (.int sf), .val (.int o1), .val (.int o2), .val (.ref b108), .val (.ref b110), .val (.ref b111), .val (.int ra), .val (.int (1 : Int32)), .val (.int rb), .val (.int (1 : Int32)), .val (.int (1 : Int32))] [(.int (1 : Int32))])) (fun _ zq => XS.iload X120.here hx rfl (hb hby at_203) rfl zq) ?_
  refine own_st (T' := T120) (g' := (mkF m 208 #[.val (.int p0), .val (.int p1), .val (.int p2), .val (.long xx), .second, .val (.long yy), .second, .val (.long zz), .second, .val (.int sf), .val (.int o1), .val (.int o2), .val (.ref b108), .val (.ref b110), .val (.ref b111), .val (.int ra), .val (.int (1 : Int32)), .val (.int rb), .val (.int (1 : Int32)), .val (.int (1 : Int32))] [])) (fun _ zq => XS.ifNo X120.here hx rfl (hb hby at_205) rfl ((if0 _ _).trans (feq (by decide)).1) zq) ?_
  refine own_st (T' := T120) (g' := (mkF m 209 #[.val (.int p0), .val (.int p1), .val (.int p2), .val (.long xx), .second, .val (.long yy), .second, .val (.long zz), .second, .val (.int sf), .val (.int o1), .val (.int o2), .val (.ref b108), .val (.ref b110), .val (.ref b111), .val (.int ra), .val (.int (1 : Int32)), .val (.int rb), .val (.int (1 : Int32)), .val (.int (1 : Int32))] [(.int (1 : Int32))])) (fun _ zq => XS.iconst X120.here hx rfl (hb hby at_208) zq) ?_
  refine own_st (T' := T120) (g' := (mkF m 213 #[.val (.int p0), .val (.int p1), .val (.int p2), .val (.long xx), .second, .val (.long yy), .second, .val (.long zz), .second, .val (.int sf), .val (.int o1), .val (.int o2), .val (.ref b108), .val (.ref b110), .val (.ref b111), .val (.int ra), .val (.int (1 : Int32)), .val (.int rb), .val (.int (1 : Int32)), .val (.int (1 : Int32))] [(.int (1 : Int32))])) (fun _ zq => XS.goto X120.here hx rfl (pc0 := 209) (pc' := 213) rfl (hb hby at_209) (by decide) (by decide) zq) ?_
  exact own_ret X120 hx hret hlk (i := .ireturn) rfl (Or.inl ⟨rfl, by decide, _, rfl⟩) (hb hby at_213) rfl (Nat.le_of_ble_eq_true rfl) (Nat.le_of_ble_eq_true rfl) ⟨rfl, N⟩
set_option maxRecDepth 65536 in
set_option maxHeartbeats 40000000 in
theorem comes_1 {Post : Tables → Env → Array Value → State → Outcome → State → Prop} (hpost : ∀ tb e args s v u, (limb_1_1.after args s (.returned v) u = true ∧ limb_1_2.after args s (.returned v) u = true ∧ True) → FrameEnd s (.returned v) u (Jvm.fieldLocs frame_1_writes args s ++ Jvm.arrayLocs frame_1_arrays args s ++ Jvm.staticLocs frame_1_statics s) 48 192 → Post tb e args s (.returned v) u) :
    ArmFor flags0 classFile x code maxLocals ret World_1 tables_1 room_1 Calls_1 rest_1 Pre_1 Post := by
  intro l hfl _ _ p e ha hc hk s m args below hf hA hF happ hP
  obtain ⟨hcalls, hrest, hpre⟩ := hP
  obtain ⟨-, -, -, hnamed, -, -, -, hat⟩ := (Spec.applies_iff hf).mp happ
  obtain ⟨hg, hn⟩ := and_e (Cond.before_iff.mp (show (Jvm.Cond.and given_1 narrow_1).before args s = true from hpre))
  obtain ⟨hcnt, hgs⟩ := and_e hg
  obtain ⟨w0, w1, w2, w3, w4, w5, rfl⟩ : ∃ w0 w1 w2 w3 w4 w5 : Value, args = #[w0, w1, w2, w3, w4, w5] := by
    have hs : args.size = 6 := by simpa [Cond.value, given_1] using hcnt
    obtain ⟨L⟩ := args
    match L, hs with
    | [w0, w1, w2, w3, w4, w5], _ => exact ⟨w0, w1, w2, w3, w4, w5, rfl⟩
  have hw := fun d (hd : d ∈ tables_1) => atoms_spec (ws := Jvm.Cond.code x code maxLocals ret :: tables_1) hat d (List.mem_cons_of_mem _ hd)
  have hfit : Fit s := fun {y c} hc i hi => by
    obtain ⟨ha, rfl⟩ := Array.getElem?_eq_some_iff.mp hc
    have q := List.all_eq_true.mp ((Array.all_eq_true_iff_forall_mem.mp hF) _ (Array.getElem_mem ha)) i (List.mem_range.mpr hi)
    simpa [Array.getElem?_eq_getElem hi] using q
  obtain ⟨k0, hgs⟩ := and_e hgs
  obtain ⟨i0, q0⟩ := is_v k0
  obtain rfl : w0 = (.int i0) := Option.some.inj q0
  obtain ⟨k1, hgs⟩ := and_e hgs
  obtain ⟨i1, q1⟩ := is_v k1
  obtain rfl : w1 = (.int i1) := Option.some.inj q1
  obtain ⟨k2, hgs⟩ := and_e hgs
  obtain ⟨i2, q2⟩ := is_v k2
  obtain rfl : w2 = (.int i2) := Option.some.inj q2
  obtain ⟨k3, hgs⟩ := and_e hgs
  obtain ⟨i3, q3⟩ := isL_v k3
  obtain rfl : w3 = (.long i3) := Option.some.inj q3
  obtain ⟨k4, hgs⟩ := and_e hgs
  obtain ⟨i4, q4⟩ := isL_v k4
  obtain rfl : w4 = (.long i4) := Option.some.inj q4
  obtain ⟨i5, q5⟩ := isL_v hgs
  obtain rfl : w5 = (.long i5) := Option.some.inj q5
  obtain ⟨n1, n2⟩ := and_e hn
  obtain ⟨aN, evN⟩ := arr_v n1
  have SN := Sta.start evN (Or.inr ⟨(hw _ (List.mem_of_getElem? (i := 3) rfl)), (hw _ (List.mem_of_getElem? (i := 55) rfl))⟩)
  obtain ⟨fN, VN⟩ := own_empty evN (Cond.before_iff.mpr n1) (Cond.before_iff.mpr n2)
  obtain ⟨n, o, h1, h2, h3, _, L, rfl, ⟨rfl, N⟩, hq⟩ := rm_law l s _ hw tables_1 i0 i1 i2 i3 i4 i5 aN fN s.heap s.heap.size (Nat.le_refl _) (Old.start s) SN VN p e ha hc hk s m _ below hf ((Spec.applies_iff_loose hf).mp happ).1 ⟨rfl, State.Warmed39.refl s, rfl⟩ trivial
  refine ⟨n, _, h1, h2, h3, hpost _ _ _ _ _ _ ⟨Cond.after_iff.mpr rfl, Cond.after_iff.mpr (eq_i res_at (Term.int_eval (1)) rfl), trivial⟩ ⟨hq.1, hq.2.1, (hq.2.2.sift fun y hy => Or.inr (N y hy)).mono (by decide) (by decide)⟩⟩
theorem main_1_1 : Claimed_1_1 := comes_1 fun _ _ _ _ _ _ h hF => ⟨h.1, hF⟩
theorem main_1_2 : Claimed_1_2 := comes_1 fun _ _ _ _ _ _ h hF => ⟨h.2.1, hF⟩
end Jvm.Pilot.@@N@@
namespace Jvm.Pilot.@@N@@
open Jvm Jvm.ClassFile Sem Op Lib Jvm.Free Jvm.Stand Jvm.Pilot.@@N@@.Jvm.D
/-! MADE BY PROGRAM (witnessworld.py) out of the Statement's table words and the real class files: 14 classes; the members and pool entries that the words name. The judged class is class 1, her method 1. -/
namespace start1
open Jvm.ClassFile
def u (s : String) : CpInfo := .utf8 (stringToUtf16 s)
/-- a pool by its gaps: so many unusable entries, then the entry; so many at the end -/
def gap : Nat → List CpInfo → List CpInfo
  | 0, r => r
  | n + 1, r => .unusable :: gap n r
def poolList (es : List (Nat × CpInfo)) (last : Nat) : List CpInfo := es.foldr (fun e r => gap e.1 (e.2 :: r)) (gap last [])
def pool (es : List (Nat × CpInfo)) (last : Nat) : Array CpInfo := ⟨poolList es last⟩
def fileOf (pool : Array CpInfo) (this : Nat) (attrs : Array Attribute := #[]) (ms : Array MethodInfo := #[]) (fl : Nat := 33) (sup : Nat := 0) (ifs : Array Nat := #[]) (fds : Array FieldInfo := #[]) : ClassFile where
  minorVersion := 0
  majorVersion := 65
  constantPool := pool
  accessFlags := fl
  thisClass := this
  superClass := sup
  interfaces := ifs
  fields := fds
  methods := ms
  attributes := attrs
def plain (name : String) (sup : Option ClassId) : Class where
  name := name
  kind := .ordinary
  loader := none
  accessFlags := 33
  super := sup
  interfaces := #[]
  cf := none
  fields := #[]
  methods := #[]
  instanceTypes := #[]
  staticTypes := #[]
  resolved := #[]
  callSites := []
  init := .initialized
  statics := none
  mirror := none

def pool0 : Array CpInfo := pool [(5, u "<init>"), (0, u "()V"), (1, .class_ 10), (1, u "java/lang/Object"), (85, u "clone"), (0, u "()Ljava/lang/Object;")] 26

def k0c0 : Code := { maxStack := 0, maxLocals := 1, code := object_method_1_code, exceptionTable := #[], attributes := #[] }
def k0m0 : Method := { name := "<init>", desc := "()V", sig := { parameters := [], returnType := none }, accessFlags := 1, code := some k0c0 }
def k0m1 : Method := { name := "clone", desc := "()Ljava/lang/Object;", sig := { parameters := [], returnType := some (.object "java/lang/Object") }, accessFlags := 260, code := none }
/-- java/lang/Object -/
def k0 : Class := { plain "java/lang/Object" none with
  accessFlags := 33
  interfaces := #[]
  cf := some (fileOf pool0 8 #[] #[{ accessFlags := 1, nameIndex := 5, descriptorIndex := 6, attributes := #[] }, { accessFlags := 260, nameIndex := 96, descriptorIndex := 97, attributes := #[] }] 33 0 #[] #[])
  fields := #[]
  methods := #[k0m0, k0m1]
  instanceTypes := #[]
  staticTypes := #[]
  resolved := Array.replicate 124 none
  statics := none }

def pool1 : Array CpInfo := pool [(2, .class_ 4), (1, u "java/lang/Object"), (0, u "<init>"), (0, u "()V"), (0, .integer 2147483647), (0, .class_ 9), (0, u "com/example/coterie/coterie/runtime/KnownRequests"), (0, .methodref 8 11), (0, .nameAndType 5 12), (0, u "(II)V"), (0, .methodref 14 15), (0, .class_ 16), (0, .nameAndType 17 18), (0, u "com/example/coterie/coterie/runtime/KnownRequestsNewsPinLaw"), (0, u "event"), (0, u "(Lcom/example/coterie/coterie/runtime/KnownRequests;[J[ZIIIIJJ)V"), (0, .methodref 8 20), (0, .nameAndType 21 22), (0, u "news"), (0, u "(I)[J"), (0, .methodref 14 24), (0, .nameAndType 25 26), (0, u "check"), (0, u "([J[J[ZI)Z"), (0, .methodref 8 28), (0, .nameAndType 29 30), (0, u "request"), (0, u "()Lcom/example/coterie/coterie/message/VectorStamp;"), (0, .methodref 14 32), (0, .nameAndType 33 34), (0, u "mark"), (0, u "([ZI)V"), (0, .methodref 8 36), (0, .nameAndType 37 38), (0, u "learn"), (0, u "([J)V"), (0, .methodref 14 40), (0, .nameAndType 41 42), (0, u "learnt"), (0, u "([J[ZIJ)V"), (0, .long 2), (3, u "law"), (0, u "(IIIJJJ)Z")] 7

def k1m0 : Method := { name := "<init>", desc := "()V", sig := { parameters := [], returnType := none }, accessFlags := 1, code := none }
def k1c1 : Code := { maxStack := 11, maxLocals := 20, code := code, exceptionTable := #[], attributes := #[] }
def k1m1 : Method := { name := "law", desc := "(IIIJJJ)Z", sig := { parameters := [.int, .int, .int, .long, .long, .long], returnType := some .boolean }, accessFlags := 9, code := some k1c1 }
def k1c2 : Code := { maxStack := 6, maxLocals := 13, code := method_3_code, exceptionTable := #[], attributes := #[] }
def k1m2 : Method := { name := "event", desc := "(Lcom/example/coterie/coterie/runtime/KnownRequests;[J[ZIIIIJJ)V", sig := { parameters := [(.object "com/example/coterie/coterie/runtime/KnownRequests"), (.array .long), (.array .boolean), .int, .int, .int, .int, .long, .long], returnType := none }, accessFlags := 10, code := some k1c2 }
def k1c3 : Code := { maxStack := 4, maxLocals := 5, code := method_4_code, exceptionTable := #[], attributes := #[] }
def k1m3 : Method := { name := "learnt", desc := "([J[ZIJ)V", sig := { parameters := [(.array .long), (.array .boolean), .int, .long], returnType := none }, accessFlags := 10, code := some k1c3 }
def k1c4 : Code := { maxStack := 3, maxLocals := 2, code := method_5_code, exceptionTable := #[], attributes := #[] }
def k1m4 : Method := { name := "mark", desc := "([ZI)V", sig := { parameters := [(.array .boolean), .int], returnType := none }, accessFlags := 10, code := some k1c4 }
def k1c5 : Code := { maxStack := 4, maxLocals := 7, code := method_6_code, exceptionTable := #[], attributes := #[] }
def k1m5 : Method := { name := "check", desc := "([J[J[ZI)Z", sig := { parameters := [(.array .long), (.array .long), (.array .boolean), .int], returnType := some .boolean }, accessFlags := 10, code := some k1c5 }
/-- com/example/coterie/coterie/runtime/KnownRequestsNewsPinLaw -/
def k1 : Class := { plain "com/example/coterie/coterie/runtime/KnownRequestsNewsPinLaw" (some 0) with
  accessFlags := 49
  interfaces := #[]
  cf := some (fileOf pool1 14 #[] #[{ accessFlags := 1, nameIndex := 5, descriptorIndex := 6, attributes := #[] }, { accessFlags := 9, nameIndex := 47, descriptorIndex := 48, attributes := #[] }, { accessFlags := 10, nameIndex := 17, descriptorIndex := 18, attributes := #[] }, { accessFlags := 10, nameIndex := 41, descriptorIndex := 42, attributes := #[] }, { accessFlags := 10, nameIndex := 33, descriptorIndex := 34, attributes := #[] }, { accessFlags := 10, nameIndex := 25, descriptorIndex := 26, attributes := #[] }] 49 2 #[] #[])
  fields := #[]
  methods := #[k1m0, k1m1, k1m2, k1m3, k1m4, k1m5]
  instanceTypes := #[]
  staticTypes := #[]
  resolved := Array.replicate 56 none
  statics := none }

def pool2 : Array CpInfo := pool [(1, .methodref 2 3), (0, .class_ 4), (0, .nameAndType 5 6), (0, u "java/lang/Object"), (0, u "<init>"), (0, u "()V"), (0, .fieldref 8 9), (0, .class_ 10), (0, .nameAndType 11 12), (0, u "com/example/coterie/coterie/runtime/KnownRequests"), (0, u "self"), (0, u "I"), (0, .fieldref 8 14), (0, .nameAndType 15 16), (0, u "known"), (0, u "[J"), (0, .fieldref 8 18), (0, .nameAndType 19 16), (0, u "roseAt"), (0, .fieldref 8 21), (0, .nameAndType 22 16), (0, u "told"), (0, .methodref 8 24), (0, .nameAndType 25 26), (0, u "rise"), (0, u "(IJ)V"), (0, .class_ 28), (0, u "com/example/coterie/coterie/message/VectorStamp"), (0, .methodref 27 30), (0, .nameAndType 5 31), (0, u "(I[J)V"), (0, .fieldref 8 33), (0, .nameAndType 34 35), (0, u "rises"), (0, u "J"), (0, .fieldref 8 37), (0, .nameAndType 38 16), (0, u "NOTHING_NEW"), (0, .methodref 8 40), (0, .nameAndType 41 42), (0, u "untold"), (0, u "(II)Z"), (0, u "(II)V"), (2, u "request"), (0, u "()Lcom/example/coterie/coterie/message/VectorStamp;"), (0, u "news"), (0, u "(I)[J"), (2, u "learn"), (0, u "([J)V")] 3

def k2c0 : Code := { maxStack := 2, maxLocals := 3, code := prog_86_method_1_code, exceptionTable := #[], attributes := #[] }
def k2m0 : Method := { name := "<init>", desc := "(II)V", sig := { parameters := [.int, .int], returnType := none }, accessFlags := 0, code := some k2c0 }
def k2c1 : Code := { maxStack := 6, maxLocals := 1, code := prog_86_method_2_code, exceptionTable := #[], attributes := #[] }
def k2m1 : Method := { name := "request", desc := "()Lcom/example/coterie/coterie/message/VectorStamp;", sig := { parameters := [], returnType := some (.object "com/example/coterie/coterie/message/VectorStamp") }, accessFlags := 0, code := some k2c1 }
def k2c2 : Code := { maxStack := 4, maxLocals := 6, code := prog_86_method_3_code, exceptionTable := #[], attributes := #[] }
def k2m2 : Method := { name := "news", desc := "(I)[J", sig := { parameters := [.int], returnType := some (.array .long) }, accessFlags := 0, code := some k2c2 }
def k2c3 : Code := { maxStack := 5, maxLocals := 4, code := prog_86_method_4_code, exceptionTable := #[], attributes := #[] }
def k2m3 : Method := { name := "learn", desc := "([J)V", sig := { parameters := [(.array .long)], returnType := none }, accessFlags := 0, code := some k2c3 }
def k2c4 : Code := { maxStack := 4, maxLocals := 3, code := prog_86_method_5_code, exceptionTable := #[], attributes := #[] }
def k2m4 : Method := { name := "untold", desc := "(II)Z", sig := { parameters := [.int, .int], returnType := some .boolean }, accessFlags := 2, code := some k2c4 }
def k2c5 : Code := { maxStack := 5, maxLocals := 4, code := prog_86_method_6_code, exceptionTable := #[], attributes := #[] }
def k2m5 : Method := { name := "rise", desc := "(IJ)V", sig := { parameters := [.int, .long], returnType := none }, accessFlags := 2, code := some k2c5 }
/-- com/example/coterie/coterie/runtime/KnownRequests -/
def k2 : Class := { plain "com/example/coterie/coterie/runtime/KnownRequests" (some 0) with
  accessFlags := 48
  interfaces := #[]
  cf := some (fileOf pool2 8 #[] #[{ accessFlags := 0, nameIndex := 5, descriptorIndex := 43, attributes := #[] }, { accessFlags := 0, nameIndex := 46, descriptorIndex := 47, attributes := #[] }, { accessFlags := 0, nameIndex := 48, descriptorIndex := 49, attributes := #[] }, { accessFlags := 0, nameIndex := 52, descriptorIndex := 53, attributes := #[] }, { accessFlags := 2, nameIndex := 41, descriptorIndex := 42, attributes := #[] }, { accessFlags := 2, nameIndex := 25, descriptorIndex := 26, attributes := #[] }] 48 2 #[] #[{ accessFlags := 26, nameIndex := 38, descriptorIndex := 16, attributes := #[] }, { accessFlags := 18, nameIndex := 11, descriptorIndex := 12, attributes := #[] }, { accessFlags := 18, nameIndex := 15, descriptorIndex := 16, attributes := #[] }, { accessFlags := 18, nameIndex := 19, descriptorIndex := 16, attributes := #[] }, { accessFlags := 18, nameIndex := 22, descriptorIndex := 16, attributes := #[] }, { accessFlags := 2, nameIndex := 34, descriptorIndex := 35, attributes := #[] }])
  fields := #[{ name := "NOTHING_NEW", type := (.array .long), accessFlags := 26, slot := 0, constantValue := 0 }, { name := "self", type := .int, accessFlags := 18, slot := 0, constantValue := 0 }, { name := "known", type := (.array .long), accessFlags := 18, slot := 1, constantValue := 0 }, { name := "roseAt", type := (.array .long), accessFlags := 18, slot := 2, constantValue := 0 }, { name := "told", type := (.array .long), accessFlags := 18, slot := 3, constantValue := 0 }, { name := "rises", type := .long, accessFlags := 2, slot := 4, constantValue := 0 }]
  methods := #[k2m0, k2m1, k2m2, k2m3, k2m4, k2m5]
  instanceTypes := #[.int, (.array .long), (.array .long), (.array .long), .long]
  staticTypes := #[(.array .long)]
  resolved := Array.replicate 57 none
  statics := some 0 }

def pool3 : Array CpInfo := pool [(1, .methodref 2 3), (0, .class_ 4), (0, .nameAndType 5 6), (0, u "java/lang/Object"), (0, u "<init>"), (0, u "()V"), (12, .fieldref 20 21), (0, .class_ 22), (0, .nameAndType 23 24), (0, u "com/example/coterie/coterie/message/VectorStamp"), (0, u "node"), (0, u "I"), (0, .methodref 26 27), (0, .class_ 28), (0, .nameAndType 29 30), (0, u "[J"), (0, u "clone"), (0, u "()Ljava/lang/Object;"), (0, .fieldref 20 32), (0, .nameAndType 33 28), (0, u "counts"), (16, u "(I[J)V"), (27, u "SEPARATOR"), (0, u "Ljava/lang/String;")] 31

def k3c0 : Code := { maxStack := 5, maxLocals := 3, code := prog_65_method_1_code, exceptionTable := #[], attributes := #[] }
def k3m0 : Method := { name := "<init>", desc := "(I[J)V", sig := { parameters := [.int, (.array .long)], returnType := none }, accessFlags := 1, code := some k3c0 }
/-- com/example/coterie/coterie/message/VectorStamp -/
def k3 : Class := { plain "com/example/coterie/coterie/message/VectorStamp" (some 0) with
  accessFlags := 49
  interfaces := #[]
  cf := some (fileOf pool3 20 #[] #[{ accessFlags := 1, nameIndex := 5, descriptorIndex := 50, attributes := #[] }] 49 2 #[] #[{ accessFlags := 26, nameIndex := 78, descriptorIndex := 79, attributes := #[] }, { accessFlags := 18, nameIndex := 23, descriptorIndex := 24, attributes := #[] }, { accessFlags := 18, nameIndex := 33, descriptorIndex := 28, attributes := #[] }])
  fields := #[{ name := "SEPARATOR", type := (.object "java/lang/String"), accessFlags := 26, slot := 0, constantValue := 0 }, { name := "node", type := .int, accessFlags := 18, slot := 0, constantValue := 0 }, { name := "counts", type := (.array .long), accessFlags := 18, slot := 1, constantValue := 0 }]
  methods := #[k3m0]
  instanceTypes := #[.int, (.array .long)]
  staticTypes := #[(.object "java/lang/String")]
  resolved := Array.replicate 111 none
  statics := none }

def pool4 : Array CpInfo := pool [(1, .class_ 2), (0, u "java/lang/Cloneable"), (0, .class_ 4), (0, u "java/lang/Object")] 2

/-- java/lang/Cloneable -/
def k4 : Class := { plain "java/lang/Cloneable" (some 0) with
  accessFlags := 1537
  interfaces := #[]
  cf := some (fileOf pool4 1 #[] #[] 1537 3 #[] #[])
  fields := #[]
  methods := #[]
  instanceTypes := #[]
  staticTypes := #[]
  resolved := Array.replicate 7 none
  statics := none }

def pool5 : Array CpInfo := pool [(1, u "java/io/Serializable"), (0, .class_ 1), (0, u "java/lang/Object"), (0, .class_ 3)] 3

/-- java/io/Serializable -/
def k5 : Class := { plain "java/io/Serializable" (some 0) with
  accessFlags := 1537
  interfaces := #[]
  cf := some (fileOf pool5 2 #[] #[] 1537 4 #[] #[])
  fields := #[]
  methods := #[]
  instanceTypes := #[]
  staticTypes := #[]
  resolved := Array.replicate 8 none
  statics := none }

/-- the primitive boolean -/
def k6 : Class := { plain "boolean" none with kind := .primitive 'Z', accessFlags := 0x411 }
/-- [Z -/
def k7 : Class := { plain "[Z" (some 0) with kind := .array 6 .boolean, interfaces := #[4, 5], accessFlags := 1041 }

/-- the primitive byte -/
def k8 : Class := { plain "byte" none with kind := .primitive 'B', accessFlags := 0x411 }
/-- [B -/
def k9 : Class := { plain "[B" (some 0) with kind := .array 8 .byte, interfaces := #[4, 5], accessFlags := 1041 }

/-- the primitive int -/
def k10 : Class := { plain "int" none with kind := .primitive 'I', accessFlags := 0x411 }
/-- [I -/
def k11 : Class := { plain "[I" (some 0) with kind := .array 10 .int, interfaces := #[4, 5], accessFlags := 1041 }

/-- the primitive long -/
def k12 : Class := { plain "long" none with kind := .primitive 'J', accessFlags := 0x411 }
/-- [J -/
def k13 : Class := { plain "[J" (some 0) with kind := .array 12 .long, interfaces := #[4, 5], accessFlags := 1041 }

def heap : Heap := #[{ cls := 2, slots := #[.ref 1], vm := .statics 2 },
  { cls := 13, slots := #[], vm := .none }]
def classes : Array Class := #[k0, k1, k2, k3, k4, k5, k6, k7, k8, k9, k10, k11, k12, k13]
def interned : List (Array UInt16 × Addr) := []
def slotsUsed : Nat := 1
def theMethod : MethodId := ⟨1, 1⟩
def args0 : Array Value := #[.int 1, .int 2, .int 3, .long 3, .long 4, .long 5]
def aboutOver (below : List Frame) : State where
  vm := { classes := classes, interned := interned.toArray }
  heap := heap
  slotsUsed := slotsUsed
  threads := #[{ frames := .invoking theMethod args0 :: below }]
def below0 : List Frame := [.native { method := ⟨0, 0⟩, args := #[] }]
def about1 : State := aboutOver below0
def p0 : Program := .bare "" "" ""
def e0 : Env := launch0.env 0 0 0
theorem w_frames : about1.frames = Frame.invoking theMethod args0 :: below0 := rfl
set_option maxRecDepth 65536 in
theorem w_args : argsFit about1.vm theMethod args0 = true := by decide +kernel
set_option maxRecDepth 65536 in
theorem w_heap : heapFits about1 = true := by decide +kernel
set_option maxRecDepth 65536 in
theorem w_runnable : about1.curStatus? = some .runnable := by decide +kernel
set_option maxRecDepth 65536 in
theorem w_alone : about1.alone = true := by decide +kernel
set_option maxRecDepth 65536 in
theorem w_named : about1.methodNamed? x = some theMethod := by decide +kernel
set_option maxRecDepth 65536 in
theorem w_hears : about1.hears theMethod below0 = true := by decide +kernel
set_option maxRecDepth 65536 in
theorem w_ripe : about1.ripe theMethod args0 below0 = true := by decide +kernel
theorem w_running : about1.status = .running := rfl
set_option maxRecDepth 65536 in
theorem w_room : about1.hasRoom e0.platform room_1 = true :=
  launch0.hasRoom_least _ room_1 (by decide +kernel) (by decide +kernel) (by decide +kernel) (by decide +kernel) (by decide +kernel) (by decide +kernel)
theorem allAtoms_all (ts : List Jvm.Cond) (a : Array Jvm.Value) (st : Jvm.State) : (allAtoms ts).before a st = ts.all (fun c => c.before a st) := by
  induction ts with
  | nil => rfl
  | cons c t ih =>
    show (Jvm.Cond.and c (allAtoms t)).before a st = _
    rw [Jvm.Cond.before_and, ih, List.all_cons]
def words1 : List Jvm.Cond := Jvm.Cond.code x code maxLocals ret :: tables_1
/-- a 'code' word, met by the world's own term for the bytes: nothing is compared byte by byte -/
theorem code_word {y : MethodName} {bytes : ByteArray} {mx : Nat} {rt : Option FieldType} {a : Array Value} {s : State} {m : MethodId} {meth : Method} {c : Code} (h1 : s.methodNamed? y = some m) (h2 : s.vm.method? m = some meth) (h3 : meth.code = some c) (h4 : c.code = bytes)
    (h5 : (c.maxLocals == mx && c.exceptionTable.isEmpty && decide (c.maxStack ≤ mostOperands) && decide (meth.sig.returnType = rt) && !meth.locks && decide (parseMethodDescriptor y.desc = some meth.sig)) = true) : (Jvm.Cond.code y bytes mx rt).before a s = true := by
  simp only [Bool.and_eq_true, beq_iff_eq, Bool.not_eq_true', decide_eq_true_eq] at h5
  obtain ⟨⟨⟨⟨⟨g1, g2⟩, g3⟩, g4⟩, g5⟩, g6⟩ := h5
  simp [Cond.before, Cond.holds, Cond.value, h1, h2, h3, h4, g1, g2, g3, g4, g5, g6]
def isCode : Jvm.Cond → Bool
  | .code _ _ _ _ => true
  | _ => false
theorem all_split {L : List Jvm.Cond} {P : Jvm.Cond → Bool} (h1 : L.all (fun c => isCode c || P c) = true) (h2 : ∀ c ∈ L.filter isCode, P c = true) : L.all P = true := by
  refine List.all_eq_true.mpr fun c hc => ?_
  have h := List.all_eq_true.mp h1 c hc
  rcases Bool.eq_false_or_eq_true (isCode c) with hi | hi
  · exact h2 c (List.mem_filter.mpr ⟨hc, hi⟩)
  · simpa [hi] using h
set_option maxRecDepth 65536 in
theorem w_c0 : (Jvm.Cond.code x code maxLocals ret).before args0 about1 = true := code_word (m := ⟨1, 1⟩) (meth := k1m1) (c := k1c1) (by decide +kernel) rfl rfl rfl (by decide +kernel)
set_option maxRecDepth 65536 in
theorem w_c1 : (Jvm.Cond.code ({ cls := "com/example/coterie/coterie/runtime/KnownRequests", name := "<init>", desc := "(II)V" } : Jvm.MethodName) prog_86_method_1_code (3 : Nat) (Option.none : Option Jvm.ClassFile.FieldType)).before args0 about1 = true := code_word (m := ⟨2, 0⟩) (meth := k2m0) (c := k2c0) (by decide +kernel) rfl rfl rfl (by decide +kernel)
set_option maxRecDepth 65536 in
theorem w_c2 : (Jvm.Cond.code ({ cls := "java/lang/Object", name := "<init>", desc := "()V" } : Jvm.MethodName) object_method_1_code (1 : Nat) (Option.none : Option Jvm.ClassFile.FieldType)).before args0 about1 = true := code_word (m := ⟨0, 0⟩) (meth := k0m0) (c := k0c0) (by decide +kernel) rfl rfl rfl (by decide +kernel)
set_option maxRecDepth 65536 in
theorem w_c3 : (Jvm.Cond.code ({ cls := "com/example/coterie/coterie/runtime/KnownRequestsNewsPinLaw", name := "event", desc := "(Lcom/example/coterie/coterie/runtime/KnownRequests;[J[ZIIIIJJ)V" } : Jvm.MethodName) method_3_code (13 : Nat) (Option.none : Option Jvm.ClassFile.FieldType)).before args0 about1 = true := code_word (m := ⟨1, 2⟩) (meth := k1m2) (c := k1c2) (by decide +kernel) rfl rfl rfl (by decide +kernel)
set_option maxRecDepth 65536 in
theorem w_c4 : (Jvm.Cond.code ({ cls := "com/example/coterie/coterie/runtime/KnownRequests", name := "learn", desc := "([J)V" } : Jvm.MethodName) prog_86_method_4_code (4 : Nat) (Option.none : Option Jvm.ClassFile.FieldType)).before args0 about1 = true := code_word (m := ⟨2, 3⟩) (meth := k2m3) (c := k2c3) (by decide +kernel) rfl rfl rfl (by decide +kernel)
set_option maxRecDepth 65536 in
theorem w_c5 : (Jvm.Cond.code ({ cls := "com/example/coterie/coterie/runtime/KnownRequests", name := "rise", desc := "(IJ)V" } : Jvm.MethodName) prog_86_method_6_code (4 : Nat) (Option.none : Option Jvm.ClassFile.FieldType)).before args0 about1 = true := code_word (m := ⟨2, 5⟩) (meth := k2m5) (c := k2c5) (by decide +kernel) rfl rfl rfl (by decide +kernel)
set_option maxRecDepth 65536 in
theorem w_c6 : (Jvm.Cond.code ({ cls := "com/example/coterie/coterie/runtime/KnownRequestsNewsPinLaw", name := "learnt", desc := "([J[ZIJ)V" } : Jvm.MethodName) method_4_code (5 : Nat) (Option.none : Option Jvm.ClassFile.FieldType)).before args0 about1 = true := code_word (m := ⟨1, 3⟩) (meth := k1m3) (c := k1c3) (by decide +kernel) rfl rfl rfl (by decide +kernel)
set_option maxRecDepth 65536 in
theorem w_c7 : (Jvm.Cond.code ({ cls := "com/example/coterie/coterie/runtime/KnownRequestsNewsPinLaw", name := "mark", desc := "([ZI)V" } : Jvm.MethodName) method_5_code (2 : Nat) (Option.none : Option Jvm.ClassFile.FieldType)).before args0 about1 = true := code_word (m := ⟨1, 4⟩) (meth := k1m4) (c := k1c4) (by decide +kernel) rfl rfl rfl (by decide +kernel)
set_option maxRecDepth 65536 in
theorem w_c8 : (Jvm.Cond.code ({ cls := "com/example/coterie/coterie/runtime/KnownRequests", name := "news", desc := "(I)[J" } : Jvm.MethodName) prog_86_method_3_code (6 : Nat) (Option.some (Jvm.ClassFile.FieldType.array Jvm.ClassFile.FieldType.long))).before args0 about1 = true := code_word (m := ⟨2, 2⟩) (meth := k2m2) (c := k2c2) (by decide +kernel) rfl rfl rfl (by decide +kernel)
set_option maxRecDepth 65536 in
theorem w_c9 : (Jvm.Cond.code ({ cls := "com/example/coterie/coterie/runtime/KnownRequests", name := "untold", desc := "(II)Z" } : Jvm.MethodName) prog_86_method_5_code (3 : Nat) (Option.some Jvm.ClassFile.FieldType.boolean)).before args0 about1 = true := code_word (m := ⟨2, 4⟩) (meth := k2m4) (c := k2c4) (by decide +kernel) rfl rfl rfl (by decide +kernel)
set_option maxRecDepth 65536 in
theorem w_c10 : (Jvm.Cond.code ({ cls := "com/example/coterie/coterie/runtime/KnownRequestsNewsPinLaw", name := "check", desc := "([J[J[ZI)Z" } : Jvm.MethodName) method_6_code (7 : Nat) (Option.some Jvm.ClassFile.FieldType.boolean)).before args0 about1 = true := code_word (m := ⟨1, 5⟩) (meth := k1m5) (c := k1c5) (by decide +kernel) rfl rfl rfl (by decide +kernel)
set_option maxRecDepth 65536 in
theorem w_c11 : (Jvm.Cond.code ({ cls := "com/example/coterie/coterie/runtime/KnownRequests", name := "request", desc := "()Lcom/example/coterie/coterie/message/VectorStamp;" } : Jvm.MethodName) prog_86_method_2_code (1 : Nat) (Option.some (Jvm.ClassFile.FieldType.object "com/example/coterie/coterie/message/VectorStamp"))).before args0 about1 = true := code_word (m := ⟨2, 1⟩) (meth := k2m1) (c := k2c1) (by decide +kernel) rfl rfl rfl (by decide +kernel)
set_option maxRecDepth 65536 in
theorem w_c12 : (Jvm.Cond.code ({ cls := "com/example/coterie/coterie/message/VectorStamp", name := "<init>", desc := "(I[J)V" } : Jvm.MethodName) prog_65_method_1_code (3 : Nat) (Option.none : Option Jvm.ClassFile.FieldType)).before args0 about1 = true := code_word (m := ⟨3, 0⟩) (meth := k3m0) (c := k3c0) (by decide +kernel) rfl rfl rfl (by decide +kernel)
def codes1 : List Jvm.Cond := [Jvm.Cond.code x code maxLocals ret, Jvm.Cond.code ({ cls := "com/example/coterie/coterie/runtime/KnownRequests", name := "<init>", desc := "(II)V" } : Jvm.MethodName) prog_86_method_1_code (3 : Nat) (Option.none : Option Jvm.ClassFile.FieldType), Jvm.Cond.code ({ cls := "java/lang/Object", name := "<init>", desc := "()V" } : Jvm.MethodName) object_method_1_code (1 : Nat) (Option.none : Option Jvm.ClassFile.FieldType), Jvm.Cond.code ({ cls := "com/example/coterie/coterie/runtime/KnownRequestsNewsPinLaw", name := "event", desc := "(Lcom/example/coterie/coterie/runtime/KnownRequests;[J[ZIIIIJJ)V" } : Jvm.MethodName) method_3_code (13 : Nat) (Option.none : Option Jvm.ClassFile.FieldType), Jvm.Cond.code ({ cls := "com/example/coterie/coterie/runtime/KnownRequests", name := "learn", desc := "([J)V" } : Jvm.MethodName) prog_86_method_4_code (4 : Nat) (Option.none : Option Jvm.ClassFile.FieldType), Jvm.Cond.code ({ cls := "com/example/coterie/coterie/runtime/KnownRequests", name := "rise", desc := "(IJ)V" } : Jvm.MethodName) prog_86_method_6_code (4 : Nat) (Option.none : Option Jvm.ClassFile.FieldType), Jvm.Cond.code ({ cls := "com/example/coterie/coterie/runtime/KnownRequestsNewsPinLaw", name := "learnt", desc := "([J[ZIJ)V" } : Jvm.MethodName) method_4_code (5 : Nat) (Option.none : Option Jvm.ClassFile.FieldType), Jvm.Cond.code ({ cls := "com/example/coterie/coterie/runtime/KnownRequestsNewsPinLaw", name := "mark", desc := "([ZI)V" } : Jvm.MethodName) method_5_code (2 : Nat) (Option.none : Option Jvm.ClassFile.FieldType), Jvm.Cond.code ({ cls := "com/example/coterie/coterie/runtime/KnownRequests", name := "news", desc := "(I)[J" } : Jvm.MethodName) prog_86_method_3_code (6 : Nat) (Option.some (Jvm.ClassFile.FieldType.array Jvm.ClassFile.FieldType.long)), Jvm.Cond.code ({ cls := "com/example/coterie/coterie/runtime/KnownRequests", name := "untold", desc := "(II)Z" } : Jvm.MethodName) prog_86_method_5_code (3 : Nat) (Option.some Jvm.ClassFile.FieldType.boolean), Jvm.Cond.code ({ cls := "com/example/coterie/coterie/runtime/KnownRequestsNewsPinLaw", name := "check", desc := "([J[J[ZI)Z" } : Jvm.MethodName) method_6_code (7 : Nat) (Option.some Jvm.ClassFile.FieldType.boolean), Jvm.Cond.code ({ cls := "com/example/coterie/coterie/runtime/KnownRequests", name := "request", desc := "()Lcom/example/coterie/coterie/message/VectorStamp;" } : Jvm.MethodName) prog_86_method_2_code (1 : Nat) (Option.some (Jvm.ClassFile.FieldType.object "com/example/coterie/coterie/message/VectorStamp")), Jvm.Cond.code ({ cls := "com/example/coterie/coterie/message/VectorStamp", name := "<init>", desc := "(I[J)V" } : Jvm.MethodName) prog_65_method_1_code (3 : Nat) (Option.none : Option Jvm.ClassFile.FieldType)]
set_option maxRecDepth 65536 in
theorem codes_eq : words1.filter isCode = codes1 := rfl
theorem w_codes : ∀ c ∈ words1.filter isCode, c.before args0 about1 = true := by
  rw [codes_eq]
  intro c hc
  simp only [codes1, List.mem_cons, List.not_mem_nil, or_false] at hc
  rcases hc with rfl | rfl | rfl | rfl | rfl | rfl | rfl | rfl | rfl | rfl | rfl | rfl | rfl
  · exact w_c0
  · exact w_c1
  · exact w_c2
  · exact w_c3
  · exact w_c4
  · exact w_c5
  · exact w_c6
  · exact w_c7
  · exact w_c8
  · exact w_c9
  · exact w_c10
  · exact w_c11
  · exact w_c12
set_option maxRecDepth 65536 in
theorem w_t1 : (words1.take 24).all (fun c => isCode c || c.before args0 about1) = true := by decide +kernel
set_option maxRecDepth 65536 in
theorem w_t2 : ((words1.drop 24).take 24).all (fun c => isCode c || c.before args0 about1) = true := by decide +kernel
set_option maxRecDepth 65536 in
theorem w_t3 : (((words1.drop 24).drop 24).take 24).all (fun c => isCode c || c.before args0 about1) = true := by decide +kernel
set_option maxRecDepth 65536 in
theorem w_t4 : (((words1.drop 24).drop 24).drop 24).all (fun c => isCode c || c.before args0 about1) = true := by decide +kernel
theorem w_tables : (allAtoms (Jvm.Cond.code x code maxLocals ret :: tables_1)).before args0 about1 = true := by
  rw [allAtoms_all]
  show words1.all (fun c => c.before args0 about1) = true
  refine all_split ?_ w_codes
  rw [← List.take_append_drop 24 words1, List.all_append, w_t1, ← List.take_append_drop 24 (words1.drop 24), List.all_append, w_t2, ← List.take_append_drop 24 ((words1.drop 24).drop 24), List.all_append, w_t3, w_t4]
  rfl
set_option maxRecDepth 65536 in
theorem w_case : (Jvm.Cond.and given_1 narrow_1).before args0 about1 = true := by decide +kernel
theorem w_applies : (headSpec (Jvm.Cond.code x code maxLocals ret :: tables_1) room_1).applies x e0.platform about1 = true :=
  (Spec.applies_iff w_frames).mpr ⟨w_running, w_runnable, w_alone, w_named, w_hears, w_ripe, w_room, w_tables⟩
theorem atStart : AtStart classFile x code maxLocals ret World_1 tables_1 room_1 Calls_1 rest_1 Pre_1 launch0 p0 e0 about1 theMethod args0 below0 :=
  ⟨lists_1, trivial, launch0.admits_env _ _ _, launch0.least_env, fairChoices_fair.cas, fairChoices_fair.clock, w_frames, w_args, w_heap, w_applies, trivial, trivial, w_case⟩
end start1
theorem witness_1 : WitnessClaimed_1 := ⟨start1.p0, start1.e0, start1.about1, start1.theMethod, start1.args0, start1.below0, start1.atStart⟩
end Jvm.Pilot.@@N@@
