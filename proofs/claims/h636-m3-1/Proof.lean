import JvmDerived
import JvmDerived.Pilot.@@N@@Statement
import JvmDerived.Pilot.@@N@@Code
set_option linter.unusedVariables false
set_option linter.unusedSimpArgs false
namespace Jvm.Pilot.@@N@@
open Jvm Jvm.ClassFile Sem Op Lib Jvm.Free Jvm.Stand Jvm.LawKit Jvm.RoadKit Bundle Jvm.Pilot.@@N@@.Jvm.D
section OwnLayer
variable {p : Program} {l : Launch} {e : Env} {R : Room} {s : State} {m : MethodId} {args : Array Value} {below : List Frame} {meth : Method} {c : Code} {T T' : State} {locs : List Loc} {cells slots : Nat} {Z : State} {h h' : Heap}
/-- from T at the frame g the body runs to its end, and the end is as Q says -/
def own_Go (p : Program) (e : Env) (below : List Frame) (s : State) (Q : Option Value → Heap → List Loc → Prop) (k n : Nat) (T : State) (g : JFrame) : Prop :=
  ∃ s₂ o, Steps p.tables e below (T.setTop g) s₂ ∧ s₂.status = .running ∧ Ended s₂ below o ∧ ∃ v L, o = .returned v ∧ Q v s₂.heap L ∧ FrameEnd s o s₂ L k n
theorem own_st {Q : Option Value → Heap → List Loc → Prop} {k n : Nat} {g g' : JFrame} (st : ∀ t, Steps p.tables e below (T'.setTop g') t → Steps p.tables e below (T.setTop g) t) (G : own_Go p e below s Q k n T' g') : own_Go p e below s Q k n T g := by
  obtain ⟨s₂, o, h1, h2⟩ := G
  exact ⟨s₂, o, st _ h1, h2⟩
theorem own_tr {Q : Option Value → Heap → List Loc → Prop} {k n : Nat} {g g' : JFrame} (st : Steps p.tables e below (T.setTop g) (T'.setTop g')) (G : own_Go p e below s Q k n T' g') : own_Go p e below s Q k n T g :=
  own_st (fun _ q => st.trans q) G
theorem own_nm {α : Type} {Q : Option Value → Heap → List Loc → Prop} {k n : Nat} {f : α → JFrame} (v : α) (G : ∀ z, z = v → own_Go p e below s Q k n T (f z)) : own_Go p e below s Q k n T (f v) := G v rfl
theorem own_ret {Q : Option Value → Heap → List Loc → Prop} {k n : Nat} (X : Stand p l e R s m args below meth c T locs cells slots) (hx : p.tables.exec = Jvm.exec) {pc : Nat} {Ls : Array Slot} {w : Value} {t : FieldType} {i : Instr} {rest : List Value} (hret : meth.sig.returnType = some t) (hlk : meth.locks = false) (hn : narrow t w = w)
    (hi : (i = .ireturn ∧ (t = .int ∨ t = .boolean ∨ t = .byte ∨ t = .char ∨ t = .short) ∧ ∃ z, w = .int z) ∨ (i = .lreturn ∧ t = .long ∧ ∃ z, w = .long z) ∨ (i = .dreturn ∧ t = .double ∧ ∃ z, w = .double z) ∨ (i = .freturn ∧ t = .float ∧ ∃ z, w = .float z) ∨ (i = .areturn ∧ t.isReference = true ∧ w.isRef = true))
    (hd : decode c.code pc = .ok (i, 1)) (eT : T.heap = h) (hk : cells ≤ k) (hl : slots ≤ n) (hq : Q (some w) h locs) : own_Go p e below s Q k n T (mkF m pc Ls (w :: rest)) := by
  obtain ⟨fs, hr, hrun, hended, hW, hsame⟩ := X.leave (v := some w) (fun q => by rw [hret] at q; cases q) hlk
  exact ⟨_, _, retOut X hx hret hn hi hd hr, hrun, hended, _, _, rfl, by show Q (some w) T.heap locs; rw [eT]; exact hq, ⟨_, rfl⟩, hW, hsame.mono hk hl⟩
theorem own_ret0 {Q : Option Value → Heap → List Loc → Prop} {k n : Nat} (X : Stand p l e R s m args below meth c T locs cells slots) (hx : p.tables.exec = Jvm.exec) {pc : Nat} {Ls : Array Slot} (hret : meth.sig.returnType = none) (hlk : meth.locks = false)
    (hd : decode c.code pc = .ok (.return_, 1)) (eT : T.heap = h) (hk : cells ≤ k) (hl : slots ≤ n) (hq : Q none h locs) : own_Go p e below s Q k n T (mkF m pc Ls []) := by
  obtain ⟨fs, hr, hrun, hended, hW, hsame⟩ := X.leave (v := none) (fun _ => rfl) hlk
  exact ⟨_, _, X.returnOut hx hret hd hr, hrun, hended, _, _, rfl, by show Q none T.heap locs; rw [eT]; exact hq, ⟨_, rfl⟩, hW, hsame.mono hk hl⟩
theorem own_cat {v : Value} (q : v.isRef = true) : v.category = 1 := by cases v <;> first | rfl | cases q
theorem own_Ins_keep {a : Addr} {C : String} {b : Bool} {ws : List Addr} (F : Ins Z h a C b) (K : Keep h h' ws) : Ins Z h' a C b := by
  obtain ⟨cell, cT, h1, h2, h3⟩ := F
  obtain ⟨c', q1, q2, q3, -⟩ := K.2.2 _ _ h1
  exact ⟨c', cT, q1, h2, by rw [q2, q3]; exact h3⟩
end OwnLayer
theorem own_ltlt {x y : Int64} (h : x < y) : ifCond.holds .lt (lcmpW x y) = true ∧ ifCond.holds .ge (lcmpW x y) = false ∧ ifCond.holds .gt (lcmpW y x) = true ∧ ifCond.holds .le (lcmpW y x) = false := by
  have a : lcmpW x y < 0 := (lw_lt x y).mpr h
  have b : 0 < lcmpW y x := (lw_gt y x).mpr h
  exact ⟨(if0 _ _).trans (tlt a).1, (if0 _ _).trans (tlt a).2.1, (if0 _ _).trans (tlt b).2.2.1, (if0 _ _).trans (tlt b).2.2.2⟩
theorem own_lflt {x y : Int64} (h : ¬ x < y) : ifCond.holds .lt (lcmpW x y) = false ∧ ifCond.holds .ge (lcmpW x y) = true ∧ ifCond.holds .gt (lcmpW y x) = false ∧ ifCond.holds .le (lcmpW y x) = true := by
  have a : ¬ lcmpW x y < 0 := fun q => h ((lw_lt x y).mp q)
  have b : ¬ 0 < lcmpW y x := fun q => h ((lw_gt y x).mp q)
  exact ⟨(if0 _ _).trans (flt a).1, (if0 _ _).trans (flt a).2.1, (if0 _ _).trans (flt b).2.2.1, (if0 _ _).trans (flt b).2.2.2⟩
theorem own_lteq {x y : Int64} (h : x = y) : ifCond.holds .eq (lcmpW x y) = true ∧ ifCond.holds .ne (lcmpW x y) = false := by
  have a : lcmpW x y = 0 := (lw_eq x y).mpr h
  exact ⟨(if0 _ _).trans (teq a).1, (if0 _ _).trans (teq a).2⟩
theorem own_lfeq {x y : Int64} (h : ¬ x = y) : ifCond.holds .eq (lcmpW x y) = false ∧ ifCond.holds .ne (lcmpW x y) = true := by
  have a : ¬ lcmpW x y = 0 := fun q => h ((lw_eq x y).mp q)
  exact ⟨(if0 _ _).trans (feq a).1, (if0 _ _).trans (feq a).2⟩
theorem own_ifc {α : Type} {P Q : Prop} [Decidable P] [Decidable Q] {x y : α} (h : P ↔ Q) : (if P then x else y) = if Q then x else y := by
  by_cases q : P
  · rw [if_pos q, if_pos (h.mp q)]
  · rw [if_neg q, if_neg (fun r => q (h.mpr r))]
section OwnRefs
variable {p : Program} {l : Launch} {e : Env} {R : Room} {s : State} {m : MethodId} {args : Array Value} {below : List Frame} {meth : Method} {c : Code} {T : State} {locs : List Loc} {cells slots : Nat} {Z : State} {a0 : Array Value} {h : Heap} {a : Addr}
/-- getfield by an entry that is resolved ('fieldRef') -/
theorem own_getR (X : Stand p l e R s m args below meth c T locs cells slots) (hx : p.tables.exec = Jvm.exec) (hZ : Z.Warmed39 s.vm) {own O n d : String} {index : Nat} (hown : s.vm.findClass own = some m.cls) (w : (Jvm.Cond.fieldRef own index O n d).before a0 Z = true)
    (eT : T.heap = h) {v : Value} (F : Fld Z h a O n d v) {g : JFrame} (hg : g.method = m) {rest : List Value} (hs : g.stack = .ref a :: rest) (hd : decode c.code g.pc = .ok (.getfield index, 3)) : ∀ target, Steps p.tables e below (T.setTop { g with pc := g.pc + 3, stack := v :: rest }) target → Steps p.tables e below (T.setTop g) target := by
  have hT : Z.Warmed39 T.vm := wtrans hZ X.warmed
  have w1 := Cond.fieldRef_warmed39 hT w
  have hcur : (Z.setVm T.vm).vm.findClass own = some m.cls := by show T.vm.findClass own = _; rw [X.warmed.alike.findClass]; exact hown
  obtain ⟨c', k', i', f', q1, hready⟩ := Cond.fieldRef_spec hcur w1
  obtain ⟨cell, cf, k, i, f, h1, h2, h3, h4, -, -, h7⟩ := F
  obtain ⟨kz, hi, -⟩ := State.fieldFound?_setVm (s := Z) hT.alike h2
  cases q1.symm.trans hi
  have hcell : T.heap[a]? = some cell := by rw [eT]; exact h1
  have hready' : T.vm.fieldReady m.cls index c' f' := hready
  intro target hrest
  subst hg
  jvm_step X.here [hx, hd, getfield.wp_ready (e := e) (s := T) (f := g) X.here.top hready' h3 hs hcell h4 h7]
  exact hrest
/-- putfield by an entry that is resolved -/
theorem own_putR (X : Stand p l e R s m args below meth c T locs cells slots) (hx : p.tables.exec = Jvm.exec) (hZ : Z.Warmed39 s.vm) {own O n d C : String} {index kk : Nat} {ty : FieldType} (hown : s.vm.findClass own = some m.cls) (w : (Jvm.Cond.fieldRef own index O n d).before a0 Z = true)
    (eT : T.heap = h) {v old : Value} (F : Fld Z h a O n d old) (E : Exa Z h a C) (L : (Jvm.Cond.lays C O n d).before a0 Z = true) (wi : (Jvm.Cond.instantiable C kk).before a0 Z = true)
    (hty : parseFieldDescriptor d = some ty) (hn : narrow ty v = v) (hf : fits ty v = true) {g : JFrame} (hg : g.method = m) {rest : List Value} (hs : g.stack = v :: .ref a :: rest) (hd : decode c.code g.pc = .ok (.putfield index, 3)) :
    ∃ T' h', Stand p l e R s m args below meth c T' (locs ++ [⟨a, Jvm.RoadKit.slotOf Z O n d⟩]) cells slots ∧ T'.heap = h' ∧ Wr h h' a (Jvm.RoadKit.slotOf Z O n d) v ∧ ∀ target, Steps p.tables e below (T'.setTop { g with pc := g.pc + 3, stack := rest }) target → Steps p.tables e below (T.setTop g) target := by
  have hT : Z.Warmed39 T.vm := wtrans hZ X.warmed
  have w1 := Cond.fieldRef_warmed39 hT w
  have hcur : (Z.setVm T.vm).vm.findClass own = some m.cls := by show T.vm.findClass own = _; rw [X.warmed.alike.findClass]; exact hown
  obtain ⟨c', k', i', f', q1, hready⟩ := Cond.fieldRef_spec hcur w1
  obtain ⟨cell, cf, k, i, f, h1, h2, h3, h4, h5, -, h7⟩ := F
  obtain ⟨kz, hi, -⟩ := State.fieldFound?_setVm (s := Z) hT.alike h2
  cases q1.symm.trans hi
  obtain ⟨cell', kc, e1, e2, e3, -⟩ := E
  cases h1.symm.trans e1
  obtain ⟨c1, k1, cf1, kf1, i1, f1, a1, a2, a3, -, -, a6, -⟩ := Laid.spec (Or.inl L)
  cases h2.symm.trans a3
  cases e2.symm.trans a1
  obtain ⟨c2, k2, j1, j2, j3, -⟩ := Cond.instantiable_spec wi
  cases e2.symm.trans j1
  cases a2.symm.trans j2
  have ht := (State.fieldFound?_type h2 hty).2
  have hfit : Z.fitsSlot cell.cls cell.vm f'.slot v = true := by
    have q : Z.slotType? cell.cls cell.vm f'.slot = some ty := by
      simp only [State.slotType?, a2, Option.bind_eq_bind, Option.bind_some, j3]
      cases hq : cell.vm <;> first | (rw [hq] at h5; exact Bool.noConfusion h5) | (rw [a6, ht])
    simp [State.fitsSlot, q, hf]
  have hfitT : T.fitsSlot cell.cls cell.vm f'.slot v = true := by rw [← State.fitsSlot_setVm hT.alike] at hfit; exact hfit
  obtain ⟨_, _, _, _, _, _, -, -, b3, -, b5, -⟩ := Cond.lays_spec L
  cases h2.symm.trans b3
  have hlt := (Array.getElem?_eq_some_iff.mp h7).1
  have es : Jvm.RoadKit.slotOf Z O n d = f'.slot := by simp [Jvm.RoadKit.slotOf, h2]
  rw [es]
  have hready' : T.vm.fieldReady m.cls index c' f' := hready
  obtain ⟨X', st⟩ := X.putfieldReady hx hready' h3 (Or.inl b5) (by rw [eT]; exact h1) h4 hlt (by rw [ht]; exact hn) hfitT hg hs hd
  exact ⟨_, _, X', rfl, ⟨cell, h1, h5, hlt, by rw [← eT]; rfl⟩, st⟩
/-- what a resolved method entry ('methodRef') gives where the walk stands -/
theorem own_ready (X : Stand p l e R s m args below meth c T locs cells slots) (hZ : Z.Warmed39 s.vm) {own : String} {index : Nat} {y : MethodName} (hown : s.vm.findClass own = some m.cls) (hlink : (Jvm.Cond.methodRef own index y).before a0 Z = true) {mk : MethodId} (hnamed : s.methodNamed? y = some mk)
    (hy : y.cls ≠ "java/lang/invoke/MethodHandle" ∧ y.cls ≠ "java/lang/invoke/VarHandle") : T.methodNamed? y = some mk ∧ T.vm.methodReady m.cls index mk ∧ namesResolved T.vm m.cls index mk.cls := by
  have hnT : T.methodNamed? y = some mk := X.named hnamed
  have hT : Z.Warmed39 T.vm := wtrans hZ X.warmed
  have hnZ : Z.methodNamed? y = some mk := by
    have q : (Z.setVm s.vm).methodNamed? y = some mk := hnamed
    rw [State.methodNamed?_setVm hZ.alike] at q; exact q
  have w1 := Cond.methodRef_warmed39 hT hnZ hy hlink
  have hcur : (Z.setVm T.vm).vm.findClass own = some m.cls := by show T.vm.findClass own = _; rw [X.warmed.alike.findClass]; exact hown
  obtain ⟨m', c', hm', hready, hfind, hres⟩ := Cond.methodRef_named e hcur w1
  have hnU : (Z.setVm T.vm).methodNamed? y = some mk := hnT
  have hfd := State.methodFound?_of_named hnU hy
  cases hm'.symm.trans hfd
  cases hfind.symm.trans (findClass_of_methodNamed hnU)
  exact ⟨hnT, hready, hres⟩
/-- a constructor by its contract, over a resolved entry -/
theorem own_specialRef (X : Stand p l e R s m args below meth c T locs cells slots) (hexec : p.tables.exec = Jvm.exec) (hZ : Z.Warmed39 s.vm) {own : String} {index : Nat} {y : MethodName} (hy1 : y.name = "<init>")
    (hown : s.vm.findClass own = some m.cls) (hlink : (Jvm.Cond.methodRef own index y).before a0 Z = true) (hinst : (Jvm.Cond.instanceMethod y).before args s = true)
    {bytes : ByteArray} {maxL : Nat} (hcode : (Jvm.Cond.code y bytes maxL none).before args s = true)
    (hy : y.cls ≠ "java/lang/invoke/MethodHandle" ∧ y.cls ≠ "java/lang/invoke/VarHandle")
    {W : Nat} {Pre : Pt → Array Value → Prop} {Post : Pt → Array Value → Option Value → Pt → Prop} (hK : Back l R p e below s args y 3 W Pre Post)
    {g : JFrame} (hg : g.method = m) (hsize : g.locals.size = c.maxLocals) {argsL rest : List Value}
    (hlen : ∀ sig, parseMethodDescriptor y.desc = some sig → argsL.length = sig.parameters.length) (hstack : g.stack = argsL.reverse ++ .ref a :: rest) (hW : 2 * g.monitorRoom + (rest.map fun v => v.category).sum ≤ W)
    (hdg : decode c.code g.pc = .ok (.invokespecial index, 3)) (hpre : Pre ⟨T, locs, cells, slots⟩ (.ref a :: argsL).toArray) :
    ∃ (v : Option Value) (B : Pt), Stand p l e R s m args below meth c B.U B.locs B.cells B.slots ∧ Post ⟨T, locs, cells, slots⟩ (.ref a :: argsL).toArray v B ∧
      Steps p.tables e below (T.setTop g) (B.U.setTop { g with pc := g.pc + 3, stack := v.toList ++ rest }) := by
  obtain ⟨mk, methM, hnamed, hmethM, hstM, habM⟩ := Cond.instanceMethod_spec hinst
  obtain ⟨methM', cM, hmethM', -, -, -, -, -, -, hsigM⟩ := Cond.code_spec hnamed hcode
  cases hmethM.symm.trans hmethM'
  obtain ⟨hnT, hready, hres⟩ := own_ready X hZ hown hlink hnamed hy
  obtain ⟨kO, hkO, hnameO⟩ := className_of_methodNamed hnT
  obtain ⟨hnameM, hdescM⟩ := name_of_methodNamed hnamed hmethM
  have hmT : T.vm.method? mk = some methM := by rw [X.warmed.alike.method?]; exact hmethM
  have hfound : lookupSpecial T.vm mk.cls "<init>" methM.desc = .method mk := by rw [hdescM, ← hy1]; exact lookupSpecial_of_named hnT hmT hstM
  obtain ⟨v, B, X', hpost, hsteps⟩ := hK m meth c ⟨T, locs, cells, slots⟩ { g with stack := rest } (.invokespecial index) mk (.ref a :: argsL).toArray X hg hsize hdg hW hnT hpre
  refine ⟨v, B, X', hpost, ?_⟩
  subst hg
  have st : ∀ target, (∀ acts, Steps p.tables e below (doInvoke e (T.setTop { g with stack := rest }) acts mk (.ref a :: argsL).toArray).1 target) → Steps p.tables e below (T.setTop g) target := fun target hrest => by
    jvm_step X.here [hexec, hdg, invokespecial.wp_init (e := e) (s := T) (k := kO) (meth := methM) (m := mk) (a := a) (args := argsL) (rest := rest) (f := g)
      X.here.top hres hready hkO hmT (by rw [hnameM]; exact hy1) hstM habM hfound (hlen _ hsigM) hstack]
    exact hrest
  exact (st _ fun acts => by rw [doInvoke_state]; exact Steps.refl _).trans hsteps
/-- a private method by its contract, over a resolved entry -/
theorem own_virtRef (X : Stand p l e R s m args below meth c T locs cells slots) (hexec : p.tables.exec = Jvm.exec) (hZ : Z.Warmed39 s.vm) {own : String} {index kk : Nat} {y : MethodName}
    (hown : s.vm.findClass own = some m.cls) (hlink : (Jvm.Cond.methodRef own index y).before a0 Z = true) (hinst : (Jvm.Cond.instanceMethod y).before args s = true) (hpriv : s.PrivateAt y) (wi : (Jvm.Cond.instantiable y.cls kk).before args s = true)
    {bytes : ByteArray} {maxL : Nat} {ret : Option FieldType} (hcode : (Jvm.Cond.code y bytes maxL ret).before args s = true)
    (hy : y.cls ≠ "java/lang/invoke/MethodHandle" ∧ y.cls ≠ "java/lang/invoke/VarHandle")
    {W : Nat} {Pre : Pt → Array Value → Prop} {Post : Pt → Array Value → Option Value → Pt → Prop} (hK : Back l R p e below s args y 3 W Pre Post)
    {g : JFrame} (hg : g.method = m) (hsize : g.locals.size = c.maxLocals) {cell : Cell} (hcell : T.heap[a]? = some cell) (hobj : ∀ q, cell.vm ≠ .statics q) {argsL rest : List Value}
    (hlen : ∀ sig, parseMethodDescriptor y.desc = some sig → argsL.length = sig.parameters.length) (hstack : g.stack = argsL.reverse ++ .ref a :: rest) (hW : 2 * g.monitorRoom + (rest.map fun v => v.category).sum ≤ W)
    (hdg : decode c.code g.pc = .ok (.invokevirtual index, 3)) (hpre : Pre ⟨T, locs, cells, slots⟩ (.ref a :: argsL).toArray) :
    ∃ (v : Option Value) (B : Pt), Stand p l e R s m args below meth c B.U B.locs B.cells B.slots ∧ Post ⟨T, locs, cells, slots⟩ (.ref a :: argsL).toArray v B ∧
      Steps p.tables e below (T.setTop g) (B.U.setTop { g with pc := g.pc + 3, stack := v.toList ++ rest }) := by
  obtain ⟨mk, methM, hnamed, hmethM, hstM, habM⟩ := Cond.instanceMethod_spec hinst
  obtain ⟨methM', cM, hmethM', -, -, -, -, -, -, hsigM⟩ := Cond.code_spec hnamed hcode
  cases hmethM.symm.trans hmethM'
  obtain ⟨hnT, hready, hres⟩ := own_ready X hZ hown hlink hnamed hy
  obtain ⟨cI, kI, i1, i2, i3, i4, -, -⟩ := Cond.instantiable_spec wi
  cases i1.symm.trans (findClass_of_methodNamed hnamed)
  have hni : kI.isInterface = false := (Bool.or_eq_false_iff.mp i4).1
  obtain ⟨kT, hkT, hkT2⟩ := X.warmed.alike.2.2 _ _ i2
  obtain ⟨kO, hkO, hnameO⟩ := className_of_methodNamed hnT
  cases hkT.symm.trans hkO
  have hniT : kT.isInterface = false := by rw [hkT2]; exact hni
  have hmT : T.vm.method? mk = some methM := by rw [X.warmed.alike.method?]; exact hmethM
  have hpoly : signaturePolymorphic kT methM = false := by simp [signaturePolymorphic, hnameO, hy.1, hy.2]
  have hsel : selectMethod e.platform T.vm cell.cls mk = .method mk := selectMethod_private hmT (hpriv mk methM hnamed hmethM)
  obtain ⟨v, B, X', hpost, hsteps⟩ := hK m meth c ⟨T, locs, cells, slots⟩ { g with stack := rest } (.invokevirtual index) mk (.ref a :: argsL).toArray X hg hsize hdg hW hnT hpre
  refine ⟨v, B, X', hpost, ?_⟩
  subst hg
  have st : ∀ target, (∀ acts, Steps p.tables e below (doInvoke e (T.setTop { g with stack := rest }) acts mk (.ref a :: argsL).toArray).1 target) → Steps p.tables e below (T.setTop g) target := fun target hrest => by
    jvm_step X.here [hexec, hdg, invokevirtual.wp_named (e := e) (s := T) (f := g) (r := mk) (m := mk) (c' := mk.cls) (k := kT) (k' := kT) (mk := kT) (rmeth := methM) (meth := methM) (a := a) (args := argsL) (rest := rest) (cell := cell)
      X.here.top hres hkT hniT hready hkT hmT hpoly hstM (hlen _ hsigM) hstack hcell hobj hsel hmT habM hkT hniT]
    exact hrest
  exact (st _ fun acts => by rw [doInvoke_state]; exact Steps.refl _).trans hsteps
end OwnRefs
theorem own_selP {Z s : State} {a0 args : Array Value} {y : MethodName} {kk : Nat} (hZ : Z.Warmed39 s.vm) (wi : (Jvm.Cond.instantiable y.cls kk).before a0 Z = true) (hp : (Jvm.Cond.privateMethod y).before a0 Z = true) (hi : (Jvm.Cond.instanceMethod y).before a0 Z = true)
    (hy : y.cls ≠ "java/lang/invoke/MethodHandle" ∧ y.cls ≠ "java/lang/invoke/VarHandle") : (Jvm.Cond.selects y.cls y y).before args s = true := by
  have wi' : (Jvm.Cond.instantiable y.cls kk).before args s = true := mvT hZ wi
  obtain ⟨cI, kI, i1, i2, i3, i4, -, -⟩ := Cond.instantiable_spec wi'
  exact selects_self_of_private i1 i2 (Bool.or_eq_false_iff.mp i4).1 (Cond.privateMethod_at (mvP hZ hp (args := args))) (mvT hZ hi) hy
section OwnArr
variable {p : Program} {l : Launch} {e : Env} {R : Room} {s : State} {m : MethodId} {args : Array Value} {below : List Frame} {meth : Method} {c : Code} {T : State} {locs : List Loc} {cells slots : Nat} {Z : State} {h h' : Heap} {a b : Addr} {n : Nat} {ty : FieldType} {ws : List Addr} {sl : Nat} {v : Value}
/-- an array of kind ty, of n places, the i-th holds f i -/
def own_AV (Z : State) (h : Heap) (a : Addr) (ty : FieldType) (n : Nat) (f : Nat → Value) : Prop := ∃ c : Cell, Arr Z h a c ty ∧ c.slots.size = n ∧ n < 2147483648 ∧ ∀ i, i < n → c.slots[i]? = some (f i)
theorem own_AV.lt {f : Nat → Value} (F : own_AV Z h a ty n f) : a < h.size := by obtain ⟨c, A, -⟩ := F; exact A.lt
theorem own_AV.ext {f : Nat → Value} (F : own_AV Z h a ty n f) (E : Ext h h') : own_AV Z h' a ty n f := by obtain ⟨c, A, r⟩ := F; exact ⟨c, A.ext E, r⟩
theorem own_AV.other {f : Nat → Value} (F : own_AV Z h a ty n f) (W : Wr h h' b sl v) (q : a ≠ b) : own_AV Z h' a ty n f := by obtain ⟨c, A, r⟩ := F; exact ⟨c, A.other W q, r⟩
theorem own_AV.keep {f : Nat → Value} (F : own_AV Z h a ty n f) (K : Keep h h' ws) (q : a ∉ ws) : own_AV Z h' a ty n f := by obtain ⟨c, A, r⟩ := F; exact ⟨c, ⟨K.2.1 a c A.1 q, A.2⟩, r⟩
theorem own_AV.cong {f g : Nat → Value} (F : own_AV Z h a ty n f) (q : ∀ i, i < n → f i = g i) : own_AV Z h a ty n g := by obtain ⟨c, A, r1, r2, r3⟩ := F; exact ⟨c, A, r1, r2, fun i hi => (r3 i hi).trans (congrArg some (q i hi))⟩
theorem own_AV.new {k : ClassId} {z : Int32} (A : Arr Z h a (newA k ty z) ty) (hz : z.toInt = (n : Int)) : own_AV Z h a ty n (fun _ => defaultValue ty) := by
  have q : ¬ z < 0 := fun r => by have := Int32.lt_iff_toInt_lt.mp r; have : (0 : Int32).toInt = 0 := rfl; omega
  have e : z.toNatClampNeg = n := by have := nat_of q; omega
  have b := rng32 z
  refine ⟨_, A, (sz_new _ _ _).trans e, by omega, fun i hi => ?_⟩
  show (Array.replicate z.toNatClampNeg (defaultValue ty))[i]? = _
  rw [Array.getElem?_replicate, if_pos (by omega)]
theorem own_clamp {j : Int32} {jn : Nat} (hj : j.toInt = (jn : Int)) : ¬ j < 0 ∧ j.toNatClampNeg = jn := by
  have q : ¬ j < 0 := fun r => by have := Int32.lt_iff_toInt_lt.mp r; have : (0 : Int32).toInt = 0 := rfl; omega
  exact ⟨q, by have := nat_of q; omega⟩
theorem own_set {f : Nat → Value} {c : Cell} {jn : Nat} {w : Value} (A : Arr Z h a c ty) (hs : c.slots.size = n) (hn : n < 2147483648) (H : ∀ i, i < n → c.slots[i]? = some (f i)) (hlt : jn < n) (W : Wr h h' a jn w) : own_AV Z h' a ty n (fun i => if i = jn then w else f i) := by
  refine ⟨_, A.same W, (sz_set _ _ _).trans hs, hn, fun i hi => ?_⟩
  show (c.slots.setIfInBounds jn w)[i]? = some (if i = jn then w else f i)
  by_cases q : i = jn
  · subst q; rw [if_pos rfl]; simp [hs, hi]
  · rw [if_neg q, Array.getElem?_setIfInBounds_ne (Ne.symm q)]; exact H i hi
theorem own_inb {c : Cell} {j : Int32} {jn : Nat} (hs : c.slots.size = n) (hj : j.toInt = (jn : Int)) (hlt : jn < n) : ¬ (j < 0 ∨ c.slots.size ≤ j.toNatClampNeg) := by
  obtain ⟨q, e⟩ := own_clamp hj
  rw [hs, e]; exact fun r => r.elim q (fun z => by omega)
theorem own_stJ {f : Nat → Value} (X : Stand p l e R s m args below meth c T locs cells slots) (hx : p.tables.exec = Jvm.exec) (hZ : Z.Warmed39 s.vm) (eT : T.heap = h) (A : own_AV Z h a .long n f) {j : Int32} {x : Int64} (jn : Nat) (hj : j.toInt = (jn : Int)) (hlt : jn < n) {g : JFrame} (hg : g.method = m) {rest : List Value} (hs : g.stack = .long x :: .int j :: .ref a :: rest) (hd : decode c.code g.pc = .ok (.lastore, 1)) :
    ∃ T' h', Stand p l e R s m args below meth c T' (locs ++ [⟨a, jn⟩]) cells slots ∧ T'.heap = h' ∧ Wr h h' a jn (.long x) ∧ own_AV Z h' a .long n (fun i => if i = jn then .long x else f i) ∧ ∀ t, Steps p.tables e below (T'.setTop { g with pc := g.pc + 1, stack := rest }) t → Steps p.tables e below (T.setTop g) t := by
  obtain ⟨cl, A1, A2, A3, A4⟩ := A
  obtain ⟨T', h', X', e', W, st⟩ := stJ X hx hZ eT A1 (own_inb A2 hj hlt) hg hs hd
  rw [(own_clamp hj).2] at X' W
  exact ⟨T', h', X', e', W, own_set A1 A2 A3 A4 hlt W, st⟩
theorem own_stI {f : Nat → Value} (X : Stand p l e R s m args below meth c T locs cells slots) (hx : p.tables.exec = Jvm.exec) (hZ : Z.Warmed39 s.vm) (eT : T.heap = h) (A : own_AV Z h a .int n f) {j : Int32} {x : Int32} (jn : Nat) (hj : j.toInt = (jn : Int)) (hlt : jn < n) {g : JFrame} (hg : g.method = m) {rest : List Value} (hs : g.stack = .int x :: .int j :: .ref a :: rest) (hd : decode c.code g.pc = .ok (.iastore, 1)) :
    ∃ T' h', Stand p l e R s m args below meth c T' (locs ++ [⟨a, jn⟩]) cells slots ∧ T'.heap = h' ∧ Wr h h' a jn (.int x) ∧ own_AV Z h' a .int n (fun i => if i = jn then .int x else f i) ∧ ∀ t, Steps p.tables e below (T'.setTop { g with pc := g.pc + 1, stack := rest }) t → Steps p.tables e below (T.setTop g) t := by
  obtain ⟨cl, A1, A2, A3, A4⟩ := A
  obtain ⟨T', h', X', e', W, st⟩ := stI X hx hZ eT A1 (own_inb A2 hj hlt) hg hs hd
  rw [(own_clamp hj).2] at X' W
  exact ⟨T', h', X', e', W, own_set A1 A2 A3 A4 hlt W, st⟩
theorem own_stB {f : Nat → Value} (X : Stand p l e R s m args below meth c T locs cells slots) (hx : p.tables.exec = Jvm.exec) (hZ : Z.Warmed39 s.vm) (eT : T.heap = h) (A : own_AV Z h a .byte n f) {j : Int32} {x : Int32} (jn : Nat) (hj : j.toInt = (jn : Int)) (hlt : jn < n) {g : JFrame} (hg : g.method = m) {rest : List Value} (hs : g.stack = .int x :: .int j :: .ref a :: rest) (hd : decode c.code g.pc = .ok (.bastore, 1)) :
    ∃ T' h', Stand p l e R s m args below meth c T' (locs ++ [⟨a, jn⟩]) cells slots ∧ T'.heap = h' ∧ Wr h h' a jn (.int (nar .byte x)) ∧ own_AV Z h' a .byte n (fun i => if i = jn then .int (nar .byte x) else f i) ∧ ∀ t, Steps p.tables e below (T'.setTop { g with pc := g.pc + 1, stack := rest }) t → Steps p.tables e below (T.setTop g) t := by
  obtain ⟨cl, A1, A2, A3, A4⟩ := A
  obtain ⟨T', h', X', e', W, st⟩ := stB X hx hZ eT A1 (own_inb A2 hj hlt) hg hs hd
  rw [(own_clamp hj).2] at X' W
  exact ⟨T', h', X', e', W, own_set A1 A2 A3 A4 hlt W, st⟩
theorem own_stZ {f : Nat → Value} (X : Stand p l e R s m args below meth c T locs cells slots) (hx : p.tables.exec = Jvm.exec) (hZ : Z.Warmed39 s.vm) (eT : T.heap = h) (A : own_AV Z h a .boolean n f) {j : Int32} {x : Int32} (jn : Nat) (hj : j.toInt = (jn : Int)) (hlt : jn < n) {g : JFrame} (hg : g.method = m) {rest : List Value} (hs : g.stack = .int x :: .int j :: .ref a :: rest) (hd : decode c.code g.pc = .ok (.bastore, 1)) :
    ∃ T' h', Stand p l e R s m args below meth c T' (locs ++ [⟨a, jn⟩]) cells slots ∧ T'.heap = h' ∧ Wr h h' a jn (.int (nar .boolean x)) ∧ own_AV Z h' a .boolean n (fun i => if i = jn then .int (nar .boolean x) else f i) ∧ ∀ t, Steps p.tables e below (T'.setTop { g with pc := g.pc + 1, stack := rest }) t → Steps p.tables e below (T.setTop g) t := by
  obtain ⟨cl, A1, A2, A3, A4⟩ := A
  obtain ⟨T', h', X', e', W, st⟩ := stZ X hx hZ eT A1 (own_inb A2 hj hlt) hg hs hd
  rw [(own_clamp hj).2] at X' W
  exact ⟨T', h', X', e', W, own_set A1 A2 A3 A4 hlt W, st⟩
theorem own_ldJ {f : Nat → Value} {w : Value} (X : Stand p l e R s m args below meth c T locs cells slots) (hx : p.tables.exec = Jvm.exec) (hZ : Z.Warmed39 s.vm) (eT : T.heap = h) (A : own_AV Z h a .long n f) {j : Int32} (jn : Nat) (hj : j.toInt = (jn : Int)) (hlt : jn < n) (hw : f jn = w) {g : JFrame} (hg : g.method = m) {rest : List Value} (hs : g.stack = .int j :: .ref a :: rest) (hd : decode c.code g.pc = .ok (.laload, 1)) :
    ∀ t, Steps p.tables e below (T.setTop { g with pc := g.pc + 1, stack := w :: rest }) t → Steps p.tables e below (T.setTop g) t := by
  obtain ⟨cl, A1, A2, A3, A4⟩ := A
  subst hw
  exact X.laload hx (by rw [eT]; exact A1.1) (State.isArrayOf_alike hZ.alike A1.2.1) A1.2.2 (own_inb A2 hj hlt) (by rw [(own_clamp hj).2]; exact A4 _ hlt) hg hs hd
theorem own_ldI {f : Nat → Value} {w : Value} (X : Stand p l e R s m args below meth c T locs cells slots) (hx : p.tables.exec = Jvm.exec) (hZ : Z.Warmed39 s.vm) (eT : T.heap = h) (A : own_AV Z h a .int n f) {j : Int32} (jn : Nat) (hj : j.toInt = (jn : Int)) (hlt : jn < n) (hw : f jn = w) {g : JFrame} (hg : g.method = m) {rest : List Value} (hs : g.stack = .int j :: .ref a :: rest) (hd : decode c.code g.pc = .ok (.iaload, 1)) :
    ∀ t, Steps p.tables e below (T.setTop { g with pc := g.pc + 1, stack := w :: rest }) t → Steps p.tables e below (T.setTop g) t := by
  obtain ⟨cl, A1, A2, A3, A4⟩ := A
  subst hw
  exact X.iaload hx (by rw [eT]; exact A1.1) (State.isArrayOf_alike hZ.alike A1.2.1) A1.2.2 (own_inb A2 hj hlt) (by rw [(own_clamp hj).2]; exact A4 _ hlt) hg hs hd
theorem own_ldB {f : Nat → Value} {w : Value} (X : Stand p l e R s m args below meth c T locs cells slots) (hx : p.tables.exec = Jvm.exec) (hZ : Z.Warmed39 s.vm) (eT : T.heap = h) (A : own_AV Z h a .byte n f) {j : Int32} (jn : Nat) (hj : j.toInt = (jn : Int)) (hlt : jn < n) (hw : f jn = w) {g : JFrame} (hg : g.method = m) {rest : List Value} (hs : g.stack = .int j :: .ref a :: rest) (hd : decode c.code g.pc = .ok (.baload, 1)) :
    ∀ t, Steps p.tables e below (T.setTop { g with pc := g.pc + 1, stack := w :: rest }) t → Steps p.tables e below (T.setTop g) t := by
  obtain ⟨cl, A1, A2, A3, A4⟩ := A
  subst hw
  exact X.baloadBytes hx (by rw [eT]; exact A1.1) (State.isArrayOf_alike hZ.alike A1.2.1) A1.2.2 (own_inb A2 hj hlt) (by rw [(own_clamp hj).2]; exact A4 _ hlt) hg hs hd
theorem own_ldZ {f : Nat → Value} {w : Value} (X : Stand p l e R s m args below meth c T locs cells slots) (hx : p.tables.exec = Jvm.exec) (hZ : Z.Warmed39 s.vm) (eT : T.heap = h) (A : own_AV Z h a .boolean n f) {j : Int32} (jn : Nat) (hj : j.toInt = (jn : Int)) (hlt : jn < n) (hw : f jn = w) {g : JFrame} (hg : g.method = m) {rest : List Value} (hs : g.stack = .int j :: .ref a :: rest) (hd : decode c.code g.pc = .ok (.baload, 1)) :
    ∀ t, Steps p.tables e below (T.setTop { g with pc := g.pc + 1, stack := w :: rest }) t → Steps p.tables e below (T.setTop g) t := by
  obtain ⟨cl, A1, A2, A3, A4⟩ := A
  subst hw
  exact X.baloadBooleans hx (by rw [eT]; exact A1.1) (State.isArrayOf_alike hZ.alike A1.2.1) A1.2.2 (own_inb A2 hj hlt) (by rw [(own_clamp hj).2]; exact A4 _ hlt) hg hs hd
theorem own_len {f : Nat → Value} {z : Int32} (X : Stand p l e R s m args below meth c T locs cells slots) (hx : p.tables.exec = Jvm.exec) (hZ : Z.Warmed39 s.vm) (eT : T.heap = h) (A : own_AV Z h a ty n f) (hz : z.toInt = (n : Int)) {g : JFrame} (hg : g.method = m) {rest : List Value} (hs : g.stack = .ref a :: rest) (hd : decode c.code g.pc = .ok (.arraylength, 1)) :
    ∀ t, Steps p.tables e below (T.setTop { g with pc := g.pc + 1, stack := .int z :: rest }) t → Steps p.tables e below (T.setTop g) t := by
  obtain ⟨cl, A1, A2, A3, A4⟩ := A
  have q : cl.slots.size.toInt32 = z := by
    apply Int32.toInt_inj.mp
    rw [A2, len_toInt A3, hz]
  subst q
  exact X.arraylength hx (by rw [eT]; exact A1.1) (State.isArrayOf_alike hZ.alike A1.2.1) hg hs hd
end OwnArr
def own_upd (f : Nat → Int64) (j : Nat) (x : Int64) : Nat → Int64 := fun i => if i = j then x else f i
theorem own_updL {n : Nat} (f : Nat → Int64) (j : Nat) (x : Int64) : ∀ i, i < n → (if i = j then Value.long x else Value.long (f i)) = Value.long (own_upd f j x i) := fun i _ => by
  unfold own_upd; split <;> rfl
theorem own_updSame {f : Nat → Int64} {j : Nat} {x : Int64} (h : f j = x) : own_upd f j x = f := by
  funext i; unfold own_upd; split
  · next q => rw [q, h]
  · rfl
theorem own_fitJ {Z : State} {h : Heap} {a : Addr} {cl : Cell} {n : Nat} {f : Nat → Int64} (A : Arr Z h a cl .long) (S : cl.slots.size = n) (H : ∀ i, i < n → cl.slots[i]? = some (.long (f i))) : FitC Z cl :=
  fitC_of A fun i hi v hv => by rw [H i (S ▸ hi)] at hv; cases hv; rfl
/-- the numbers m < 3 with p m, in order, each with its K m -/
def own_L1 (p : Nat → Bool) (K : Nat → Int64) : List Int64 := if p 0 = true then [0, K 0] else []
def own_L2 (p : Nat → Bool) (K : Nat → Int64) : List Int64 := own_L1 p K ++ (if p 1 = true then [1, K 1] else [])
def own_L3 (p : Nat → Bool) (K : Nat → Int64) : List Int64 := own_L2 p K ++ (if p 2 = true then [2, K 2] else [])
theorem own_len3g {P0 P1 P2 : Prop} [Decidable P0] [Decidable P1] [Decidable P2] {a b c : Int64} {c1 c2 c3 : Int32} (h1 : c1 = if P0 then (0 : Int32) + 1 else 0) (h2 : c2 = if P1 then c1 + 1 else c1) (h3 : c3 = if P2 then c2 + 1 else c2) :
    ((2 : Int32) * c3).toInt = ((((if P0 then [0, a] else []) ++ (if P1 then [1, b] else [])) ++ (if P2 then [2, c] else []) : List Int64).length : Int) ∧ (((if P0 then [0, a] else []) ++ (if P1 then [1, b] else [])) ++ (if P2 then [2, c] else []) : List Int64).length ≤ 6 := by
  by_cases x : P0 <;> by_cases y : P1 <;> by_cases z : P2 <;> simp only [x, y, z, if_true, if_false] at h1 h2 h3 ⊢ <;> subst h1 <;> subst h2 <;> subst h3 <;> exact ⟨rfl, by simp⟩
theorem own_len3 {p : Nat → Bool} {K : Nat → Int64} {c1 c2 c3 : Int32} (h1 : c1 = if p 0 = true then (0 : Int32) + 1 else 0) (h2 : c2 = if p 1 = true then c1 + 1 else c1) (h3 : c3 = if p 2 = true then c2 + 1 else c2) :
    ((2 : Int32) * c3).toInt = ((own_L3 p K).length : Int) ∧ (own_L3 p K).length ≤ 6 := own_len3g h1 h2 h3
theorem own_ext2 {f : Nat → Value} {w : List Int64} {x y : Int64} {n : Nat} (hn : n = w.length) (hf : ∀ j, j < w.length → f j = .long (w.getD j 0)) :
    ∀ j, j < (w ++ [x, y]).length → (if j = n + 1 then Value.long y else if j = n then Value.long x else f j) = .long ((w ++ [x, y]).getD j 0) := fun j hj => by
  subst hn
  simp only [List.length_append, List.length_cons, List.length_nil] at hj
  by_cases q : j = w.length + 1
  · rw [if_pos q, q]; simp [List.getD_eq_getElem?_getD]
  · rw [if_neg q]
    by_cases q2 : j = w.length
    · rw [if_pos q2, q2]; simp [List.getD_eq_getElem?_getD]
    · rw [if_neg q2, hf j (by omega)]
      simp [List.getD_eq_getElem?_getD, List.getElem?_append_left (show j < w.length by omega)]
theorem own_i3 {m : Int32} {mn : Nat} (h : m.toInt = (mn : Int)) : (m.toInt64.toInt32).toInt = (mn : Int) := by
  have a := c_l2i m.toInt64
  have b := rng32 m.toInt64.toInt32
  have c := rng32 m
  have d := c_i2l m
  omega
theorem own_l3 {m : Int32} {mn : Nat} (h : m.toInt = (mn : Int)) (hl : mn < 3) : m < (3 : Int32) := Int32.lt_iff_toInt_lt.mpr (by have : (3 : Int32).toInt = 3 := rfl; omega)
theorem own_p1 {t : Int32} {n : Nat} (h : t.toInt = (n : Int)) {N : Nat} (hN : N ≤ 6) (hl : n + 2 ≤ N) : (t + (1 : Int32)).toInt = ((n + 1 : Nat) : Int) := by
  have a := c_iadd t (1 : Int32); have b : (1 : Int32).toInt = 1 := rfl; have c := rng32 (t + (1 : Int32)); omega
theorem own_p2 {t : Int32} {w : List Int64} {x y : Int64} (h : t.toInt = ((w.length : Nat) : Int)) (hl : w.length ≤ 6) : ((t + (1 : Int32)) + (1 : Int32)).toInt = (((w ++ [x, y]).length : Nat) : Int) := by
  have a := c_iadd t (1 : Int32); have b : (1 : Int32).toInt = 1 := rfl; have c := rng32 (t + (1 : Int32)); have d := c_iadd (t + (1 : Int32)) (1 : Int32); have e := rng32 ((t + (1 : Int32)) + (1 : Int32))
  simp only [List.length_append, List.length_cons, List.length_nil]; omega
section
variable {p q : Nat → Bool} {K K' : Nat → Int64}
theorem own_w0 (h : p 0 = true) : own_L1 p K = ([] : List Int64) ++ [0, K 0] := by unfold own_L1; rw [if_pos h]; rfl
theorem own_w1 (h : p 1 = true) : own_L2 p K = own_L1 p K ++ [1, K 1] := by unfold own_L2; rw [if_pos h]
theorem own_w2 (h : p 2 = true) : own_L3 p K = own_L2 p K ++ [2, K 2] := by unfold own_L3; rw [if_pos h]
theorem own_v0 (h : ¬ p 0 = true) : own_L1 p K = ([] : List Int64) := by unfold own_L1; rw [if_neg h]
theorem own_v1 (h : ¬ p 1 = true) : own_L2 p K = own_L1 p K := by unfold own_L2; rw [if_neg h, List.append_nil]
theorem own_v2 (h : ¬ p 2 = true) : own_L3 p K = own_L2 p K := by unfold own_L3; rw [if_neg h, List.append_nil]
theorem own_b2 (h : p 2 = true) : (own_L2 p K).length + 2 ≤ (own_L3 p K).length := by rw [own_w2 h]; simp
theorem own_b1 (h : p 1 = true) : (own_L1 p K).length + 2 ≤ (own_L3 p K).length := by unfold own_L3; rw [own_w1 h]; simp
theorem own_b0 (h : p 0 = true) : ([] : List Int64).length + 2 ≤ (own_L3 p K).length := by unfold own_L3 own_L2; rw [own_w0 h]; simp
theorem own_L3nil (h : ∀ i, i < 3 → ¬ p i = true) : own_L3 p K = [] := by rw [own_v2 (h 2 (by decide)), own_v1 (h 1 (by decide)), own_v0 (h 0 (by decide))]
theorem own_L3cong (h : ∀ i, i < 3 → p i = q i) (hk : ∀ i, i < 3 → K i = K' i) : own_L3 p K = own_L3 q K' := by
  unfold own_L3 own_L2 own_L1
  rw [h 0 (by decide), h 1 (by decide), h 2 (by decide), hk 0 (by decide), hk 1 (by decide), hk 2 (by decide)]
theorem own_L3len (p : Nat → Bool) (K : Nat → Int64) : (own_L3 p K).length = (if p 0 = true then 2 else 0) + (if p 1 = true then 2 else 0) + (if p 2 = true then 2 else 0) := by
  unfold own_L3 own_L2 own_L1
  by_cases x : p 0 = true <;> by_cases y : p 1 = true <;> by_cases z : p 2 = true <;> simp [x, y, z]
end
/-- m's number is news for r -/
abbrev own_u (Rr Tt : Nat → Int64) (r : Nat) : Nat → Bool := fun m => decide (m ≠ r ∧ Tt r < Rr m)
theorem own_nil {Rr Tt K : Nat → Int64} {rn : Nat} {rs : Int64} (h : Tt rn = rs) (hi : ∀ i, i < 3 → ¬ rs < Rr i) : own_L3 (own_u Rr Tt rn) K = [] :=
  own_L3nil fun i hl q => hi i hl (h ▸ (of_decide_eq_true q).2)
def own_KR (Z : State) (h : Heap) (k aK aR aT : Addr) (sf : Int32) (K Rr Tt : Nat → Int64) (rs : Int64) : Prop := (Exa Z h k "com/example/coterie/coterie/runtime/KnownRequests") ∧ (Fld Z h k "com/example/coterie/coterie/runtime/KnownRequests" "self" "I" (.int sf)) ∧ (Fld Z h k "com/example/coterie/coterie/runtime/KnownRequests" "known" "[J" (.ref aK)) ∧ (Fld Z h k "com/example/coterie/coterie/runtime/KnownRequests" "roseAt" "[J" (.ref aR)) ∧ (Fld Z h k "com/example/coterie/coterie/runtime/KnownRequests" "told" "[J" (.ref aT)) ∧ (Fld Z h k "com/example/coterie/coterie/runtime/KnownRequests" "rises" "J" (.long rs)) ∧ (own_AV Z h aK .long 3 (fun i => .long (K i))) ∧ (own_AV Z h aR .long 3 (fun i => .long (Rr i))) ∧ (own_AV Z h aT .long 3 (fun i => .long (Tt i))) ∧ (Exa Z h aK "[J")
def own_updI (f : Nat → Int32) (j : Nat) (x : Int32) : Nat → Int32 := fun i => if i = j then x else f i
theorem own_updZ1 {n : Nat} (f : Nat → Int32) (j : Nat) : ∀ i, i < n → (if i = j then Value.int (nar .boolean (1 : Int32)) else Value.int (f i)) = Value.int (own_updI f j 1 i) := fun i _ => by
  unfold own_updI; split <;> rfl
theorem own_updZ0 {n : Nat} (f : Nat → Int32) (j : Nat) : ∀ i, i < n → (if i = j then Value.int (nar .boolean (0 : Int32)) else Value.int (f i)) = Value.int (own_updI f j 0 i) := fun i _ => by
  unfold own_updI; split <;> rfl
def own_mark (fd : Nat → Int32) (m : Nat) : Nat → Int32 := own_updI (own_updI (own_updI fd m 1) (3 + m) 1) (6 + m) 1
def own_clr (fd : Nat → Int32) (r : Nat) : Nat → Int32 := own_updI (own_updI (own_updI fd (3 * r) 0) (3 * r + 1) 0) (3 * r + 2) 0
theorem own_k3 {m : Int32} {n : Nat} (h : m.toInt = (n : Int)) (hl : n < 3) : ((3 : Int32) + m).toInt = ((3 + n : Nat) : Int) := by
  have a := c_iadd (3 : Int32) m; have b : (3 : Int32).toInt = 3 := rfl; have c := rng32 ((3 : Int32) + m); omega
theorem own_k6 {m : Int32} {n : Nat} (h : m.toInt = (n : Int)) (hl : n < 3) : ((6 : Int32) + m).toInt = ((6 + n : Nat) : Int) := by
  have a := c_iadd (6 : Int32) m; have b : (6 : Int32).toInt = 6 := rfl; have c := rng32 ((6 : Int32) + m); omega
theorem own_q0 {r : Int32} {n : Nat} (h : r.toInt = (n : Int)) (hl : n < 3) : ((3 : Int32) * r).toInt = ((3 * n : Nat) : Int) := by
  have a := c_imul (3 : Int32) r; have b : (3 : Int32).toInt = 3 := rfl; have c := rng32 ((3 : Int32) * r); rw [b] at a; omega
theorem own_q1 {r : Int32} {n : Nat} (h : r.toInt = (n : Int)) (hl : n < 3) : ((3 : Int32) * r + (1 : Int32)).toInt = ((3 * n + 1 : Nat) : Int) := by
  have q := own_q0 h hl; have a := c_iadd ((3 : Int32) * r) (1 : Int32); have b : (1 : Int32).toInt = 1 := rfl; have c := rng32 ((3 : Int32) * r + (1 : Int32)); omega
theorem own_q2 {r : Int32} {n : Nat} (h : r.toInt = (n : Int)) (hl : n < 3) : ((3 : Int32) * r + (2 : Int32)).toInt = ((3 * n + 2 : Nat) : Int) := by
  have q := own_q0 h hl; have a := c_iadd ((3 : Int32) * r) (2 : Int32); have b : (2 : Int32).toInt = 2 := rfl; have c := rng32 ((3 : Int32) * r + (2 : Int32)); omega
theorem own_p2' {t : Int32} {w : List Int64} {x y : Int64} (h : t.toInt = ((w.length : Nat) : Int)) (hl : w.length ≤ 6) : (t + (2 : Int32)).toInt = (((w ++ [x, y]).length : Nat) : Int) := by
  have a := c_iadd t (2 : Int32); have b : (2 : Int32).toInt = 2 := rfl; have c := rng32 (t + (2 : Int32))
  simp only [List.length_append, List.length_cons, List.length_nil]; omega
abbrev own_f (fd : Nat → Int32) (r : Nat) : Nat → Bool := fun m => decide (¬ m = r ∧ ¬ fd (3 * r + m) = 0)
theorem own_fe {fd : Nat → Int32} {r m : Nat} (h : m = r) : ¬ own_f fd r m = true := fun q => (of_decide_eq_true q).1 h
theorem own_fz {fd : Nat → Int32} {r m : Nat} (h : fd (3 * r + m) = 0) : ¬ own_f fd r m = true := fun q => (of_decide_eq_true q).2 h
theorem own_eqn {a : Nat} {x : Int32} {n : Nat} (hx : x.toInt = (a : Int)) (h : x.toInt = (n : Int)) : a = n := by omega
theorem own_eqi {a : Nat} {x r : Int32} {n : Nat} (hx : x.toInt = (a : Int)) (h : r.toInt = (n : Int)) (e : a = n) : r = x := Int32.toInt_inj.mp (by omega)
theorem own_el4 {fd : Nat → Int32} {fk : Nat → Int64} {r : Nat} (h : r < 3) : (own_L3 (own_f fd r) fk).length ≤ 4 := by
  rw [own_L3len]
  have q : ¬ own_f fd r r = true := own_fe rfl
  match r, h with
  | 0, _ => rw [if_neg q]; split <;> split <;> omega
  | 1, _ => rw [if_neg q]; split <;> split <;> omega
  | 2, _ => rw [if_neg q]; split <;> split <;> omega
theorem own_ge {a : Nat} {x t : Int32} {n : Nat} (hx : x.toInt = (a : Int)) (ht : t.toInt = (n : Int)) (h : ¬ t < x) : a ≤ n := by
  have q : ¬ t.toInt < x.toInt := fun r => h (Int32.lt_iff_toInt_lt.mpr r)
  omega
theorem own_rem (p d v : Int32) (D : Nat) (hd : d.toInt = (D : Int)) (hD : 0 < D ∧ D < 100) (h : v = (p &&& (2147483647 : Int32)) % d) : ∃ n : Nat, v.toInt = (n : Int) ∧ n < D := by
  have q := (c_and p (2147483647 : Int32) (by decide)).1
  have r := (c_irem (p &&& (2147483647 : Int32)) d D hd).1 q
  rw [← h] at r
  have r1 := Int.emod_nonneg (p &&& (2147483647 : Int32)).toInt (b := (D : Int)) (by omega)
  have r2 := Int.emod_lt_of_pos (p &&& (2147483647 : Int32)).toInt (b := (D : Int)) (by omega)
  exact ⟨v.toInt.toNat, by omega, by omega⟩
theorem own_oo {s o1 o2 : Int32} {sn : Nat} (hs : s.toInt = (sn : Int)) (hl : sn < 3) (h1 : o1 = (s + (1 : Int32)) % (3 : Int32)) (h2 : o2 = (s + (2 : Int32)) % (3 : Int32)) :
    ∃ n1, o1.toInt = ((n1 : Nat) : Int) ∧ (n1 < 3 ∧ n1 ≠ sn) ∧ ∃ n2, o2.toInt = ((n2 : Nat) : Int) ∧ (n2 < 3 ∧ n2 ≠ sn) := by
  match sn, hl, hs with
  | 0, _, hs => obtain rfl : s = 0 := Int32.toInt_inj.mp hs; subst h1 h2; exact ⟨1, by decide, by decide, 2, by decide, by decide⟩
  | 1, _, hs => obtain rfl : s = 1 := Int32.toInt_inj.mp hs; subst h1 h2; exact ⟨2, by decide, by decide, 0, by decide, by decide⟩
  | 2, _, hs => obtain rfl : s = 2 := Int32.toInt_inj.mp hs; subst h1 h2; exact ⟨0, by decide, by decide, 1, by decide, by decide⟩
/-- what holds between the object's arrays and the law's own -/
def own_Inv (sn : Nat) (K R T : Nat → Int64) (rs : Int64) (fk : Nat → Int64) (fd : Nat → Int32) (c : Int) : Prop :=
  (∀ m, m < 3 → fk m = K m) ∧ (∀ r m, r < 3 → m < 3 → fd (3 * r + m) = if T r < R m then 1 else 0) ∧ (0 ≤ rs.toInt ∧ rs.toInt ≤ c) ∧ (∀ m, m < 3 → 0 ≤ (R m).toInt ∧ (R m).toInt ≤ rs.toInt) ∧ (∀ m, m < 3 → 0 ≤ (T m).toInt ∧ (T m).toInt ≤ rs.toInt) ∧ (0 ≤ (K sn).toInt ∧ (K sn).toInt ≤ c)
section
variable {sn : Nat} {K R T : Nat → Int64} {rs : Int64} {fk : Nat → Int64} {fd : Nat → Int32} {c : Int}
theorem own_inv0 (sn : Nat) : own_Inv sn (fun _ => (0 : Int64)) (fun _ => (0 : Int64)) (fun _ => (0 : Int64)) (0 : Int64) (fun _ => (0 : Int64)) (fun _ => (0 : Int32)) 0 :=
  have z : (0 : Int) ≤ (0 : Int64).toInt ∧ (0 : Int64).toInt ≤ (0 : Int64).toInt := by decide
  ⟨fun _ _ => rfl, fun _ _ _ _ => rfl, by decide, fun _ _ => z, fun _ _ => z, (by decide : (0 : Int) ≤ (0 : Int64).toInt ∧ (0 : Int64).toInt ≤ (0 : Int))⟩
theorem own_mono {c' : Int} (h : own_Inv sn K R T rs fk fd c) (hc : c ≤ c') : own_Inv sn K R T rs fk fd c' := by
  obtain ⟨h1, h2, h3, h4, h5, h6⟩ := h
  exact ⟨h1, h2, ⟨h3.1, by omega⟩, h4, h5, ⟨h6.1, by omega⟩⟩
theorem own_pos (h : own_Inv sn K R T rs fk fd c) (hc : c ≤ 50) : ¬ (K sn + 1) < (1 : Int64) := fun q => by
  have a := Int64.lt_iff_toInt_lt.mp q; have b := c_ladd (K sn) 1; have d : (1 : Int64).toInt = 1 := rfl; have e := rng64 (K sn + 1); have f := h.2.2.2.2.2; omega
theorem own_invR (h : own_Inv sn K R T rs fk fd c) : ∀ i, i < 3 → ¬ rs < R i := fun i hi q => by have := Int64.lt_iff_toInt_lt.mp q; have := (h.2.2.2.1 i hi).2; omega
theorem own_s1 (h : own_Inv sn K R T rs fk fd c) (hc : c ≤ 60) : (rs + 1).toInt = rs.toInt + 1 := by
  have b := c_ladd rs 1; have d : (1 : Int64).toInt = 1 := rfl; have e := rng64 (rs + 1); have f := h.2.2.1; omega
theorem own_rise (h : own_Inv sn K R T rs fk fd c) (hc : c ≤ 60) {m : Nat} (hm : m < 3) {v : Int64} (hv : m = sn → 0 ≤ v.toInt ∧ v.toInt ≤ c + 1) :
    own_Inv sn (own_upd K m v) (own_upd R m (rs + 1)) T (rs + 1) (own_upd fk m v) (own_mark fd m) (c + 1) := by
  have s1 := own_s1 h hc
  obtain ⟨h1, h2, h3, h4, h5, h6⟩ := h
  refine ⟨fun i hi => ?_, fun r i hr hi => ?_, by omega, fun i hi => ?_, fun i hi => ?_, ?_⟩
  · unfold own_upd; split; rfl; exact h1 i hi
  · have e : own_mark fd m (3 * r + i) = if i = m then 1 else fd (3 * r + i) := by
      unfold own_mark own_updI
      by_cases q : i = m
      · subst q; rw [if_pos rfl]
        match r, hr with
        | 0, _ => simp
        | 1, _ => simp
        | 2, _ => simp
      · rw [if_neg q, if_neg (by omega), if_neg (by omega), if_neg (by omega)]
    rw [e]
    by_cases q : i = m
    · subst q
      have t := (h5 r hr).2
      have g : T r < own_upd R i (rs + 1) i := by unfold own_upd; rw [if_pos rfl]; exact Int64.lt_iff_toInt_lt.mpr (by omega)
      rw [if_pos rfl, if_pos g]
    · have g : own_upd R m (rs + 1) i = R i := by unfold own_upd; rw [if_neg q]
      rw [if_neg q, g]; exact h2 r i hr hi
  · unfold own_upd; split
    · omega
    · have := h4 i hi; omega
  · have := h5 i hi; omega
  · unfold own_upd; split
    · next q => exact hv q.symm
    · omega
theorem own_ev1 (h : own_Inv sn K R T rs fk fd c) (hc : c ≤ 50) (hs : sn < 3) : own_Inv sn (own_upd K sn (K sn + 1)) (own_upd R sn (rs + 1)) T (rs + 1) (own_upd fk sn (fk sn + 1)) (own_mark fd sn) (c + 2) := by
  rw [h.1 sn hs]
  refine own_mono (own_rise h (by omega) hs (fun _ => ?_)) (by omega)
  have b := c_ladd (K sn) 1; have d : (1 : Int64).toInt = 1 := rfl; have e := rng64 (K sn + 1); have f := h.2.2.2.2.2; omega
theorem own_ivl (h : own_Inv sn K R T rs fk fd c) (hc : c ≤ 60) {m : Nat} (hm : m < 3) (hn : m ≠ sn) {v : Int64} :
    own_Inv sn (if K m < v then own_upd K m v else K) (if K m < v then own_upd R m (rs + 1) else R) T (if K m < v then rs + 1 else rs) (if fk m < v then own_upd fk m v else fk) (if fk m < v then own_mark fd m else fd) (c + 1) := by
  rw [h.1 m hm]
  by_cases q : K m < v
  · simp only [if_pos q]; exact own_rise h hc hm (fun e => absurd e hn)
  · simp only [if_neg q]; exact own_mono h (by omega)
theorem own_invN (h : own_Inv sn K R T rs fk fd c) {r : Nat} (hr : r < 3) : own_Inv sn K R (own_upd T r rs) rs fk (own_clr fd r) c := by
  have hR := own_invR h
  obtain ⟨h1, h2, h3, h4, h5, h6⟩ := h
  refine ⟨h1, fun r' m hr' hm => ?_, h3, h4, fun i hi => ?_, h6⟩
  · by_cases q : r' = r
    · subst q
      have g : ¬ own_upd T r' rs r' < R m := by unfold own_upd; rw [if_pos rfl]; exact hR m hm
      rw [if_neg g]
      unfold own_clr own_updI
      match m, hm with
      | 0, _ => simp
      | 1, _ => simp
      | 2, _ => simp
    · have g : own_upd T r rs r' = T r' := by unfold own_upd; rw [if_neg q]
      rw [g, ← h2 r' m hr' hm]
      unfold own_clr own_updI
      rw [if_neg (by omega), if_neg (by omega), if_neg (by omega)]
  · unfold own_upd; split
    · omega
    · exact h5 i hi
theorem own_elq (h : own_Inv sn K R T rs fk fd c) {r : Nat} (hr : r < 3) : own_L3 (own_u R T r) K = own_L3 (own_f fd r) fk := by
  refine own_L3cong (fun i hi => ?_) (fun i hi => (h.1 i hi).symm)
  show decide (i ≠ r ∧ T r < R i) = decide (¬ i = r ∧ ¬ fd (3 * r + i) = 0)
  rw [h.2.1 r i hr hi]
  by_cases q : T r < R i
  · rw [if_pos q]; simp [q]
  · rw [if_neg q]; simp [q]
end
theorem own_empty {Z : State} {args : Array Value} {a : Addr} {C n d : String} (ev : (Term.static C n d).eval args Z none [] Z = some (.ref a)) (hA : (Jvm.Cond.arrayOf (Term.static C n d) .long).before args Z = true) (hL : (Jvm.Cond.eq (.length (Term.static C n d)) (.int 0)).before args Z = true) :
    ∃ f, own_AV Z Z.heap a .long 0 f := by
  obtain ⟨a', c, q1, hc, harr, hvm⟩ := Jvm.Free.IntBox.arrayOf_fwd hA ev
  cases q1
  obtain ⟨hsz, hlen⟩ := Jvm.Free.IntBox.length_fwd hL ev hc harr hvm
  have h0 : c.slots.size = 0 := by have q := len_toInt hsz; rw [hlen] at q; have : ((0 : Int32)).toInt = 0 := rfl; omega
  exact ⟨fun _ => .null, c, ⟨hc, harr, hvm⟩, h0, by decide, fun i hi => absurd hi (Nat.not_lt_zero _)⟩
theorem own_L3cong' {p q : Nat → Bool} {K K' : Nat → Int64} (h : ∀ i, i < 3 → p i = q i ∧ (p i = true → K i = K' i)) : own_L3 p K = own_L3 q K' := by
  have h0 := h 0 (by decide)
  have h1 := h 1 (by decide)
  have h2 := h 2 (by decide)
  unfold own_L3 own_L2 own_L1
  rw [← h0.1, ← h1.1, ← h2.1]
  by_cases x : p 0 = true <;> by_cases y : p 1 = true <;> by_cases z : p 2 = true <;> simp only [x, y, z, if_true, if_false, Bool.false_eq_true] <;> simp_all
/-- learn's doing, by the list of what is told -/
def own_fK : List (Nat × Int64) → (Nat → Int64) → (Nat → Int64)
  | [], K => K
  | e :: es, K => own_fK es (if K e.1 < e.2 then own_upd K e.1 e.2 else K)
def own_fs : List (Nat × Int64) → (Nat → Int64) → Int64 → Int64
  | [], _, rs => rs
  | e :: es, K, rs => own_fs es (if K e.1 < e.2 then own_upd K e.1 e.2 else K) (if K e.1 < e.2 then rs + 1 else rs)
def own_fR : List (Nat × Int64) → (Nat → Int64) → (Nat → Int64) → Int64 → (Nat → Int64)
  | [], _, R, _ => R
  | e :: es, K, R, rs => own_fR es (if K e.1 < e.2 then own_upd K e.1 e.2 else K) (if K e.1 < e.2 then own_upd R e.1 (rs + 1) else R) (if K e.1 < e.2 then rs + 1 else rs)
/-- the message's places -/
def own_ms (fm : Nat → Value) : Nat → List (Nat × Int64) → Prop
  | _, [] => True
  | i, e :: es => (∃ x : Int32, x.toInt = (e.1 : Int) ∧ e.1 < 3 ∧ fm i = .long x.toInt64 ∧ fm (i + 1) = .long e.2) ∧ own_ms fm (i + 2) es
def own_ph (sn m1n : Nat) (rq : Int32) (a : Int64) (j : Nat) : Int64 := if j = sn then (if rq = 0 then 0 else 1) else if j = m1n then (if (0 : Int64) < a then a else 0) else 0
def own_ro (sn m1n : Nat) (rq : Int32) (a : Int64) (j : Nat) : Int32 := if j = sn then rq else if j = m1n then (if (0 : Int64) < a then 1 else 0) else 0
def own_h2 (o1n o2n : Nat) (i1 i2 : Int32) (j : Nat) : Int32 := if (j = o1n ∧ ¬ i1 = 0) ∨ (j = o2n ∧ ¬ i2 = 0) then 1 else 0
def own_t2 (o1n : Nat) (b c : Int64) (j : Nat) : Int64 := if j = o1n then b else c
def own_x2 (h : Int32) (p t : Int64) : Int32 := if h = 0 then 0 else if p < t then 1 else 0
def own_es (i1 i2 : Int32) (o1n o2n : Nat) (b c : Int64) (es : List (Nat × Int64)) : Prop :=
  (¬ i1 = 0 ∧ ¬ i2 = 0 ∧ (es = [(o2n, c), (o1n, b)] ∨ es = [(o1n, b), (o2n, c)])) ∨ (¬ i1 = 0 ∧ i2 = 0 ∧ es = [(o1n, b)]) ∨ (i1 = 0 ∧ ¬ i2 = 0 ∧ es = [(o2n, c)]) ∨ (i1 = 0 ∧ i2 = 0 ∧ es = [])
/-- the flags as check sees them -/
abbrev own_g (x : Nat → Int32) (r : Nat) : Nat → Bool := fun m => decide (¬ x m = 0 ∧ ¬ m = r)
section
variable {sn o1n o2n m1n rn : Nat} {rq : Int32} {a b c : Int64} {K1 R1 : Nat → Int64} {rs1 : Int64}
/-- the numbers stay small -/
def own_sm (R : Nat → Int64) (rs : Int64) (n : Int) : Prop := 0 ≤ rs.toInt ∧ rs.toInt ≤ n ∧ ∀ i, 0 ≤ (R i).toInt ∧ (R i).toInt ≤ rs.toInt
theorem own_smR {R : Nat → Int64} {rs : Int64} {n : Int} (h : own_sm R rs n) : ∀ i, i < 3 → ¬ rs < R i := fun i _ q => by have := Int64.lt_iff_toInt_lt.mp q; have := (h.2.2 i).2; omega
theorem own_sm1 {R : Nat → Int64} {rs : Int64} {n : Int} (h : own_sm R rs n) (hn : n ≤ 60) : (rs + 1).toInt = rs.toInt + 1 := by
  have q := c_ladd rs 1; have d : (1 : Int64).toInt = 1 := rfl; have e := rng64 (rs + 1); obtain ⟨f, g, -⟩ := h; omega
theorem own_smU {R : Nat → Int64} {rs : Int64} {n : Int} (h : own_sm R rs n) (hn : n ≤ 60) (m : Nat) (P : Prop) [Decidable P] : own_sm (if P then own_upd R m (rs + 1) else R) (if P then rs + 1 else rs) (n + 1) := by
  have s := own_sm1 h hn
  obtain ⟨h1, h2, h3⟩ := h
  by_cases p : P
  · rw [if_pos p, if_pos p]
    refine ⟨by omega, by omega, fun i => ?_⟩
    unfold own_upd; split
    · omega
    · have := h3 i; omega
  · rw [if_neg p, if_neg p]; exact ⟨h1, by omega, h3⟩
theorem own_smF : ∀ (es : List (Nat × Int64)) {K R : Nat → Int64} {rs : Int64} {n : Int}, own_sm R rs n → n + es.length ≤ 60 → own_sm (own_fR es K R rs) (own_fs es K rs) (n + es.length)
  | [], _, _, _, _, h, _ => by simpa [own_fR, own_fs] using h
  | e :: es, K, R, rs, n, h, hn => by
    simp only [List.length_cons] at hn ⊢
    have q := own_smF es (own_smU h (by omega) e.1 (K e.1 < e.2)) (K := if K e.1 < e.2 then own_upd K e.1 e.2 else K) (by omega)
    have r : n + 1 + (es.length : Int) = n + ((es.length + 1 : Nat) : Int) := by omega
    rw [r] at q; exact q
end
section
variable {sn o1n o2n m1n rn : Nat} {rq : Int32} {a b c : Int64} {K1 R1 : Nat → Int64} {rs1 : Int64}
abbrev own_z : Nat → Int64 := fun _ => (0 : Int64)
theorem own_list1 (hm : m1n ≠ sn) (hrq : rq = 0 ∨ rq = 1) (hK1 : K1 = if rq = 0 then own_z else own_upd own_z sn (own_z sn + 1)) (hR1 : R1 = if rq = 0 then own_z else own_upd own_z sn ((0 : Int64) + 1)) (hs1 : rs1 = if rq = 0 then (0 : Int64) else (0 : Int64) + 1) (T : Nat → Int64) (hT : T rn = 0) :
    own_L3 (own_u (if K1 m1n < a then own_upd R1 m1n (rs1 + 1) else R1) T rn) (if K1 m1n < a then own_upd K1 m1n a else K1) = own_L3 (own_g (own_ro sn m1n rq a) rn) (own_ph sn m1n rq a) := by
  refine own_L3cong' (fun j _ => ?_)
  have hkm : K1 m1n = 0 := by rw [hK1]; split; rfl; unfold own_upd; rw [if_neg hm]
  rw [hkm]
  have e1 : own_u (if (0 : Int64) < a then own_upd R1 m1n (rs1 + 1) else R1) T rn j = decide (j ≠ rn ∧ (0 : Int64) < (if (0 : Int64) < a then own_upd R1 m1n (rs1 + 1) else R1) j) := by show decide (j ≠ rn ∧ T rn < _) = _; rw [hT]
  rw [e1]
  show decide (j ≠ rn ∧ (0 : Int64) < (if (0 : Int64) < a then own_upd R1 m1n (rs1 + 1) else R1) j) = decide (¬ own_ro sn m1n rq a j = 0 ∧ ¬ j = rn) ∧ _
  unfold own_ro own_ph
  rcases hrq with rfl | rfl
  · rw [if_pos rfl] at hK1 hR1 hs1
    subst hK1 hR1 hs1
    by_cases qa : (0 : Int64) < a
    · simp only [if_pos qa]; by_cases qs : j = sn <;> by_cases qm : j = m1n <;> simp [qs, qm, own_upd, own_z] <;> simp_all
    · simp only [if_neg qa]; by_cases qs : j = sn <;> by_cases qm : j = m1n <;> simp [qs, qm, own_upd, own_z] <;> simp_all
  · rw [if_neg (by decide)] at hK1 hR1 hs1
    subst hK1 hR1 hs1
    by_cases qa : (0 : Int64) < a
    · simp only [if_pos qa]; by_cases qs : j = sn <;> by_cases qm : j = m1n <;> simp [qs, qm, own_upd, own_z] <;> simp_all
    · simp only [if_neg qa]; by_cases qs : j = sn <;> by_cases qm : j = m1n <;> simp [qs, qm, own_upd, own_z] <;> simp_all
end
theorem own_ka {sn m1n : Nat} {rq : Int32} {a : Int64} {K1 : Nat → Int64} (hm : m1n ≠ sn) (hrq : rq = 0 ∨ rq = 1) (hK1 : K1 = if rq = 0 then own_z else own_upd own_z sn (own_z sn + 1)) (j : Nat) : (if K1 m1n < a then own_upd K1 m1n a else K1) j = own_ph sn m1n rq a j := by
  have hkm : K1 m1n = 0 := by rw [hK1]; split; rfl; unfold own_upd; rw [if_neg hm]
  rw [hkm]
  unfold own_ph
  rcases hrq with rfl | rfl
  · rw [if_pos rfl] at hK1
    subst hK1
    by_cases qa : (0 : Int64) < a
    · simp only [if_pos qa]; by_cases qs : j = sn <;> by_cases qm : j = m1n <;> simp [qs, qm, own_upd, own_z] <;> simp_all
    · simp only [if_neg qa]; by_cases qs : j = sn <;> by_cases qm : j = m1n <;> simp [qs, qm, own_upd, own_z] <;> simp_all
  · rw [if_neg (by decide)] at hK1
    subst hK1
    by_cases qa : (0 : Int64) < a
    · simp only [if_pos qa]; by_cases qs : j = sn <;> by_cases qm : j = m1n <;> simp [qs, qm, own_upd, own_z] <;> simp_all
    · simp only [if_neg qa]; by_cases qs : j = sn <;> by_cases qm : j = m1n <;> simp [qs, qm, own_upd, own_z] <;> simp_all
theorem own_two {o1 o2 : Nat} {b c : Int64} {K R : Nat → Int64} {rs : Int64} (ho : o1 ≠ o2) (g1 : rs < rs + 1) (g2 : rs < rs + 1 + 1) (g0 : ∀ j, ¬ rs < R j) (j : Nat) :
    (rs < own_fR [(o1, b), (o2, c)] K R rs j ↔ (j = o1 ∧ K o1 < b) ∨ (j = o2 ∧ K o2 < c)) ∧ (rs < own_fR [(o1, b), (o2, c)] K R rs j → own_fK [(o1, b), (o2, c)] K j = if j = o1 then b else c) := by
  have g0' := g0 j
  simp only [own_fR, own_fK]
  have e2 : (if K o1 < b then own_upd K o1 b else K) o2 = K o2 := by
    by_cases p : K o1 < b
    · rw [if_pos p]; unfold own_upd; rw [if_neg (fun q => ho q.symm)]
    · rw [if_neg p]
  rw [e2]
  by_cases p1 : K o1 < b <;> by_cases p2 : K o2 < c
  all_goals simp only [if_pos, if_neg, p1, p2, not_false_eq_true, if_true, if_false]
  all_goals (by_cases q1 : j = o1 <;> by_cases q2 : j = o2)
  all_goals (try (exact absurd (q1.symm.trans q2) ho))
  all_goals (try unfold own_upd)
  all_goals (simp only [q1, q2, if_true, if_false, ho, Ne.symm ho, g1, g2, g0, true_and, false_and, or_true, true_or, or_false, false_or, true_iff, false_iff, iff_true, iff_false, not_false_eq_true, implies_true, false_implies, and_true, true_implies, and_self])
  all_goals (try (first | exact ⟨fun h => absurd h g0', fun h => absurd h g0'⟩ | exact ⟨g0', fun h => absurd h g0'⟩ | (subst q1; exact ⟨g0', fun h => absurd h g0'⟩) | (subst q2; exact ⟨g0', fun h => absurd h g0'⟩)))
theorem own_one {o1 : Nat} {b : Int64} {K R : Nat → Int64} {rs : Int64} (g1 : rs < rs + 1) (g0 : ∀ j, ¬ rs < R j) (j : Nat) :
    (rs < own_fR [(o1, b)] K R rs j ↔ (j = o1 ∧ K o1 < b)) ∧ (rs < own_fR [(o1, b)] K R rs j → own_fK [(o1, b)] K j = b) := by
  have g0' := g0 j
  simp only [own_fR, own_fK]
  by_cases p1 : K o1 < b
  · simp only [if_pos p1]
    by_cases q1 : j = o1
    · simp only [q1, own_upd, if_true, g1, p1, and_self, true_iff, implies_true]
    · simp only [own_upd, if_neg q1, q1, false_and, iff_false]; exact ⟨g0', fun h => absurd h g0'⟩
  · simp only [if_neg p1, p1, and_false, iff_false]; exact ⟨g0', fun h => absurd h g0'⟩
theorem own_list2 {o1n o2n rn : Nat} {i1 i2 : Int32} {b c : Int64} {es : List (Nat × Int64)} {K2 R2 T1 P : Nat → Int64} {rs2 : Int64} {n : Int} (ho : o1n ≠ o2n) (hes : own_es i1 i2 o1n o2n b c es) (hK : ∀ j, K2 j = P j) (hsm : own_sm R2 rs2 n) (hn : n ≤ 50) (hT : T1 rn = rs2) :
    own_L3 (own_u (own_fR es K2 R2 rs2) T1 rn) (own_fK es K2) = own_L3 (own_g (fun j => own_x2 (own_h2 o1n o2n i1 i2 j) (P j) (own_t2 o1n b c j)) rn) (own_t2 o1n b c) := by
  have d1 : (1 : Int64).toInt = 1 := rfl
  have s1 := own_sm1 hsm (by omega)
  have s2 : (rs2 + 1 + 1).toInt = rs2.toInt + 2 := by
    have q := c_ladd (rs2 + 1) 1; have e := rng64 (rs2 + 1 + 1); obtain ⟨f, g, -⟩ := hsm; omega
  have g1 : rs2 < rs2 + 1 := Int64.lt_iff_toInt_lt.mpr (by omega)
  have g2 : rs2 < rs2 + 1 + 1 := Int64.lt_iff_toInt_lt.mpr (by omega)
  have g0 : ∀ j, ¬ rs2 < R2 j := fun j q => by have := Int64.lt_iff_toInt_lt.mp q; have := (hsm.2.2 j).2; omega
  refine own_L3cong' (fun j _ => ?_)
  have key : (rs2 < own_fR es K2 R2 rs2 j ↔ (j = o1n ∧ ¬ i1 = 0 ∧ K2 o1n < b) ∨ (j = o2n ∧ ¬ i2 = 0 ∧ K2 o2n < c)) ∧ (rs2 < own_fR es K2 R2 rs2 j → own_fK es K2 j = own_t2 o1n b c j) := by
    rcases hes with ⟨e1, e2, rfl | rfl⟩ | ⟨e1, e2, rfl⟩ | ⟨e1, e2, rfl⟩ | ⟨e1, e2, rfl⟩
    · obtain ⟨t1, t2⟩ := own_two (b := c) (c := b) (K := K2) (Ne.symm ho) g1 g2 g0 j
      refine ⟨t1.trans ⟨fun h => h.elim (fun x => Or.inr ⟨x.1, e2, x.2⟩) (fun x => Or.inl ⟨x.1, e1, x.2⟩), fun h => h.elim (fun x => Or.inr ⟨x.1, x.2.2⟩) (fun x => Or.inl ⟨x.1, x.2.2⟩)⟩, fun h => ?_⟩
      rw [t2 h]; unfold own_t2
      rcases t1.mp h with x | x
      · rw [if_pos x.1, if_neg (fun q => ho (q.symm.trans x.1))]
      · rw [if_neg (fun q => ho (x.1.symm.trans q)), if_pos x.1]
    · obtain ⟨t1, t2⟩ := own_two (b := b) (c := c) (K := K2) ho g1 g2 g0 j
      exact ⟨t1.trans ⟨fun h => h.elim (fun x => Or.inl ⟨x.1, e1, x.2⟩) (fun x => Or.inr ⟨x.1, e2, x.2⟩), fun h => h.elim (fun x => Or.inl ⟨x.1, x.2.2⟩) (fun x => Or.inr ⟨x.1, x.2.2⟩)⟩, t2⟩
    · obtain ⟨t1, t2⟩ := own_one (o1 := o1n) (b := b) (K := K2) g1 g0 j
      refine ⟨t1.trans ⟨fun x => Or.inl ⟨x.1, e1, x.2⟩, fun h => h.elim (fun x => ⟨x.1, x.2.2⟩) (fun x => absurd e2 x.2.1)⟩, fun h => ?_⟩
      rw [t2 h]; unfold own_t2; rw [if_pos (t1.mp h).1]
    · obtain ⟨t1, t2⟩ := own_one (o1 := o2n) (b := c) (K := K2) g1 g0 j
      refine ⟨t1.trans ⟨fun x => Or.inr ⟨x.1, e2, x.2⟩, fun h => h.elim (fun x => absurd e1 x.2.1) (fun x => ⟨x.1, x.2.2⟩)⟩, fun h => ?_⟩
      rw [t2 h]; unfold own_t2; rw [if_neg (fun q => ho (q.symm.trans (t1.mp h).1))]
    · exact ⟨⟨fun h => absurd h (g0 j), fun h => h.elim (fun x => absurd e1 x.2.1) (fun x => absurd e2 x.2.1)⟩, fun h => absurd h (g0 j)⟩
  have ex : (¬ own_x2 (own_h2 o1n o2n i1 i2 j) (P j) (own_t2 o1n b c j) = 0) ↔ (j = o1n ∧ ¬ i1 = 0 ∧ K2 o1n < b) ∨ (j = o2n ∧ ¬ i2 = 0 ∧ K2 o2n < c) := by
    unfold own_x2 own_h2 own_t2
    rw [← hK j]
    by_cases q1 : j = o1n
    · have q2 : ¬ j = o2n := fun q => ho (q1.symm.trans q)
      subst q1
      by_cases z : i1 = 0 <;> by_cases y : K2 j < b <;> simp [z, y, q2]
    · by_cases q2 : j = o2n
      · subst q2
        by_cases z : i2 = 0 <;> by_cases y : K2 j < c <;> simp [z, y, q1]
      · simp [q1, q2]
  refine ⟨?_, fun h => key.2 (hT ▸ (of_decide_eq_true h).2)⟩
  show decide (j ≠ rn ∧ T1 rn < own_fR es K2 R2 rs2 j) = decide (¬ own_x2 (own_h2 o1n o2n i1 i2 j) (P j) (own_t2 o1n b c j) = 0 ∧ ¬ j = rn)
  rw [hT]
  exact decide_eq_decide.mpr ⟨fun h => ⟨ex.mpr (key.1.mp h.2), h.1⟩, fun h => ⟨h.2, key.1.mpr (ex.mp h.1)⟩⟩
theorem own_eqN {j s : Int32} {jn sn : Nat} (hj : j.toInt = (jn : Int)) (hs : s.toInt = (sn : Int)) (h : j = s) : jn = sn := by subst h; omega
theorem own_eqI {j s : Int32} {jn sn : Nat} (hj : j.toInt = (jn : Int)) (hs : s.toInt = (sn : Int)) (h : jn = sn) : j = s := Int32.toInt_inj.mp (by omega)
theorem own_nb {x : Int32} (h : x = 0 ∨ x = 1) : narrow .boolean (.int x) = .int x := by rcases h with rfl | rfl <;> rfl
theorem own_le6 (p : Nat → Bool) (K : Nat → Int64) : (own_L3 p K).length ≤ 6 := by rw [own_L3len]; split <;> split <;> split <;> omega
theorem own_rem3 (x v : Int32) (h : v = (x &&& (255 : Int32)) % (3 : Int32)) : ∃ n : Nat, v.toInt = (n : Int) ∧ n < 3 := by
  have q := (c_and x (255 : Int32) (by decide)).1
  have r := (c_irem (x &&& (255 : Int32)) (3 : Int32) 3 rfl).1 q
  rw [← h] at r
  exact ⟨v.toInt.toNat, by omega, by omega⟩
theorem own_od {s o1 o2 : Int32} {sn n1 n2 : Nat} (hs : s.toInt = (sn : Int)) (hl : sn < 3) (h1 : o1 = (s + (1 : Int32)) % (3 : Int32)) (h2 : o2 = (s + (2 : Int32)) % (3 : Int32)) (e1 : o1.toInt = (n1 : Int)) (e2 : o2.toInt = (n2 : Int)) : n1 ≠ n2 := by
  match sn, hl, hs with
  | 0, _, hs => obtain rfl : s = 0 := Int32.toInt_inj.mp hs; subst h1 h2; have a : (((0 : Int32) + 1) % 3).toInt = 1 := (by decide); have b : (((0 : Int32) + 2) % 3).toInt = 2 := (by decide); omega
  | 1, _, hs => obtain rfl : s = 1 := Int32.toInt_inj.mp hs; subst h1 h2; have a : (((1 : Int32) + 1) % 3).toInt = 2 := (by decide); have b : (((1 : Int32) + 2) % 3).toInt = 0 := (by decide); omega
  | 2, _, hs => obtain rfl : s = 2 := Int32.toInt_inj.mp hs; subst h1 h2; have a : (((2 : Int32) + 1) % 3).toInt = 0 := (by decide); have b : (((2 : Int32) + 2) % 3).toInt = 1 := (by decide); omega
theorem own_smq {rq : Int32} {sn : Nat} {R1 : Nat → Int64} {rs1 : Int64} (hrq : rq = 0 ∨ rq = 1) (hR : R1 = if rq = 0 then own_z else own_upd own_z sn ((0 : Int64) + 1)) (hs : rs1 = if rq = 0 then (0 : Int64) else (0 : Int64) + 1) : own_sm R1 rs1 1 := by
  have z : own_sm own_z (0 : Int64) 0 := ⟨by decide, by decide, fun _ => (by decide : (0 : Int) ≤ (0 : Int64).toInt ∧ (0 : Int64).toInt ≤ (0 : Int64).toInt)⟩
  have q := own_smU z (by decide) sn (¬ rq = 0)
  rw [hR, hs]
  by_cases h : rq = 0
  · rw [if_pos h, if_pos h]; rw [if_neg (fun q => q h), if_neg (fun q => q h)] at q; exact q
  · rw [if_neg h, if_neg h]; rw [if_pos h, if_pos h] at q; exact q

theorem own_pn0 : plainName "com/example/coterie/coterie/runtime/KnownRequests" = true := by first | (simp [plainName, overriddenIn]; done) | decide +kernel
theorem own_d_prog_86_m1_0 : decode prog_86_method_1_code 0 = .ok (.aload_n 0, 1) := by decide +kernel
theorem own_d_prog_86_m1_1 : decode prog_86_method_1_code 1 = .ok (.invokespecial 1, 3) := by decide +kernel
theorem own_d_prog_86_m1_4 : decode prog_86_method_1_code 4 = .ok (.aload_n 0, 1) := by decide +kernel
theorem own_d_prog_86_m1_5 : decode prog_86_method_1_code 5 = .ok (.iload_n 1, 1) := by decide +kernel
theorem own_d_prog_86_m1_6 : decode prog_86_method_1_code 6 = .ok (.putfield 7, 3) := by decide +kernel
theorem own_d_prog_86_m1_9 : decode prog_86_method_1_code 9 = .ok (.aload_n 0, 1) := by decide +kernel
theorem own_d_prog_86_m1_10 : decode prog_86_method_1_code 10 = .ok (.iload_n 2, 1) := by decide +kernel
theorem own_d_prog_86_m1_11 : decode prog_86_method_1_code 11 = .ok (.newarray .long, 2) := by decide +kernel
theorem own_d_prog_86_m1_13 : decode prog_86_method_1_code 13 = .ok (.putfield 13, 3) := by decide +kernel
theorem own_d_prog_86_m1_16 : decode prog_86_method_1_code 16 = .ok (.aload_n 0, 1) := by decide +kernel
theorem own_d_prog_86_m1_17 : decode prog_86_method_1_code 17 = .ok (.iload_n 2, 1) := by decide +kernel
theorem own_d_prog_86_m1_18 : decode prog_86_method_1_code 18 = .ok (.newarray .long, 2) := by decide +kernel
theorem own_d_prog_86_m1_20 : decode prog_86_method_1_code 20 = .ok (.putfield 17, 3) := by decide +kernel
theorem own_d_prog_86_m1_23 : decode prog_86_method_1_code 23 = .ok (.aload_n 0, 1) := by decide +kernel
theorem own_d_prog_86_m1_24 : decode prog_86_method_1_code 24 = .ok (.iload_n 2, 1) := by decide +kernel
theorem own_d_prog_86_m1_25 : decode prog_86_method_1_code 25 = .ok (.newarray .long, 2) := by decide +kernel
theorem own_d_prog_86_m1_27 : decode prog_86_method_1_code 27 = .ok (.putfield 20, 3) := by decide +kernel
theorem own_d_prog_86_m1_30 : decode prog_86_method_1_code 30 = .ok (.return_, 1) := by decide +kernel
theorem own_d_prog_86_m6_0 : decode prog_86_method_6_code 0 = .ok (.aload_n 0, 1) := by decide +kernel
theorem own_d_prog_86_m6_1 : decode prog_86_method_6_code 1 = .ok (.getfield 13, 3) := by decide +kernel
theorem own_d_prog_86_m6_4 : decode prog_86_method_6_code 4 = .ok (.iload_n 1, 1) := by decide +kernel
theorem own_d_prog_86_m6_5 : decode prog_86_method_6_code 5 = .ok (.lload_n 2, 1) := by decide +kernel
theorem own_d_prog_86_m6_6 : decode prog_86_method_6_code 6 = .ok (.lastore, 1) := by decide +kernel
theorem own_d_prog_86_m6_7 : decode prog_86_method_6_code 7 = .ok (.aload_n 0, 1) := by decide +kernel
theorem own_d_prog_86_m6_8 : decode prog_86_method_6_code 8 = .ok (.dup, 1) := by decide +kernel
theorem own_d_prog_86_m6_9 : decode prog_86_method_6_code 9 = .ok (.getfield 32, 3) := by decide +kernel
theorem own_d_prog_86_m6_12 : decode prog_86_method_6_code 12 = .ok (.lconst 1, 1) := by decide +kernel
theorem own_d_prog_86_m6_13 : decode prog_86_method_6_code 13 = .ok (.ladd, 1) := by decide +kernel
theorem own_d_prog_86_m6_14 : decode prog_86_method_6_code 14 = .ok (.putfield 32, 3) := by decide +kernel
theorem own_d_prog_86_m6_17 : decode prog_86_method_6_code 17 = .ok (.aload_n 0, 1) := by decide +kernel
theorem own_d_prog_86_m6_18 : decode prog_86_method_6_code 18 = .ok (.getfield 17, 3) := by decide +kernel
theorem own_d_prog_86_m6_21 : decode prog_86_method_6_code 21 = .ok (.iload_n 1, 1) := by decide +kernel
theorem own_d_prog_86_m6_22 : decode prog_86_method_6_code 22 = .ok (.aload_n 0, 1) := by decide +kernel
theorem own_d_prog_86_m6_23 : decode prog_86_method_6_code 23 = .ok (.getfield 32, 3) := by decide +kernel
theorem own_d_prog_86_m6_26 : decode prog_86_method_6_code 26 = .ok (.lastore, 1) := by decide +kernel
theorem own_d_prog_86_m6_27 : decode prog_86_method_6_code 27 = .ok (.return_, 1) := by decide +kernel
theorem own_d_prog_86_m5_0 : decode prog_86_method_5_code 0 = .ok (.iload_n 1, 1) := by decide +kernel
theorem own_d_prog_86_m5_1 : decode prog_86_method_5_code 1 = .ok (.iload_n 2, 1) := by decide +kernel
theorem own_d_prog_86_m5_2 : decode prog_86_method_5_code 2 = .ok (.if_icmp .eq 23, 3) := by decide +kernel
theorem own_d_prog_86_m5_25 : decode prog_86_method_5_code 25 = .ok (.iconst 0, 1) := by decide +kernel
theorem own_d_prog_86_m5_26 : decode prog_86_method_5_code 26 = .ok (.ireturn, 1) := by decide +kernel
theorem own_d_prog_86_m5_5 : decode prog_86_method_5_code 5 = .ok (.aload_n 0, 1) := by decide +kernel
theorem own_d_prog_86_m5_6 : decode prog_86_method_5_code 6 = .ok (.getfield 17, 3) := by decide +kernel
theorem own_d_prog_86_m5_9 : decode prog_86_method_5_code 9 = .ok (.iload_n 1, 1) := by decide +kernel
theorem own_d_prog_86_m5_10 : decode prog_86_method_5_code 10 = .ok (.laload, 1) := by decide +kernel
theorem own_d_prog_86_m5_11 : decode prog_86_method_5_code 11 = .ok (.aload_n 0, 1) := by decide +kernel
theorem own_d_prog_86_m5_12 : decode prog_86_method_5_code 12 = .ok (.getfield 20, 3) := by decide +kernel
theorem own_d_prog_86_m5_15 : decode prog_86_method_5_code 15 = .ok (.iload_n 2, 1) := by decide +kernel
theorem own_d_prog_86_m5_16 : decode prog_86_method_5_code 16 = .ok (.laload, 1) := by decide +kernel
theorem own_d_prog_86_m5_17 : decode prog_86_method_5_code 17 = .ok (.lcmp, 1) := by decide +kernel
theorem own_d_prog_86_m5_18 : decode prog_86_method_5_code 18 = .ok (.ifCond .le 7, 3) := by decide +kernel
theorem own_d_prog_86_m5_21 : decode prog_86_method_5_code 21 = .ok (.iconst 1, 1) := by decide +kernel
theorem own_d_prog_86_m5_22 : decode prog_86_method_5_code 22 = .ok (.goto 4, 3) := by decide +kernel
theorem own_d_prog_86_m4_0 : decode prog_86_method_4_code 0 = .ok (.iconst 0, 1) := by decide +kernel
theorem own_d_prog_86_m4_1 : decode prog_86_method_4_code 1 = .ok (.istore_n 2, 1) := by decide +kernel
theorem own_d_prog_86_m4_2 : decode prog_86_method_4_code 2 = .ok (.iload_n 2, 1) := by decide +kernel
theorem own_d_prog_86_m4_3 : decode prog_86_method_4_code 3 = .ok (.aload_n 1, 1) := by decide +kernel
theorem own_d_prog_86_m4_4 : decode prog_86_method_4_code 4 = .ok (.arraylength, 1) := by decide +kernel
theorem own_d_prog_86_m4_5 : decode prog_86_method_4_code 5 = .ok (.if_icmp .ge 39, 3) := by decide +kernel
theorem own_d_prog_86_m4_44 : decode prog_86_method_4_code 44 = .ok (.return_, 1) := by decide +kernel
theorem own_d_prog_86_m4_8 : decode prog_86_method_4_code 8 = .ok (.aload_n 1, 1) := by decide +kernel
theorem own_d_prog_86_m4_9 : decode prog_86_method_4_code 9 = .ok (.iload_n 2, 1) := by decide +kernel
theorem own_d_prog_86_m4_10 : decode prog_86_method_4_code 10 = .ok (.laload, 1) := by decide +kernel
theorem own_d_prog_86_m4_11 : decode prog_86_method_4_code 11 = .ok (.l2i, 1) := by decide +kernel
theorem own_d_prog_86_m4_12 : decode prog_86_method_4_code 12 = .ok (.istore_n 3, 1) := by decide +kernel
theorem own_d_prog_86_m4_13 : decode prog_86_method_4_code 13 = .ok (.aload_n 1, 1) := by decide +kernel
theorem own_d_prog_86_m4_14 : decode prog_86_method_4_code 14 = .ok (.iload_n 2, 1) := by decide +kernel
theorem own_d_prog_86_m4_15 : decode prog_86_method_4_code 15 = .ok (.iconst 1, 1) := by decide +kernel
theorem own_d_prog_86_m4_16 : decode prog_86_method_4_code 16 = .ok (.iadd, 1) := by decide +kernel
theorem own_d_prog_86_m4_17 : decode prog_86_method_4_code 17 = .ok (.laload, 1) := by decide +kernel
theorem own_d_prog_86_m4_18 : decode prog_86_method_4_code 18 = .ok (.aload_n 0, 1) := by decide +kernel
theorem own_d_prog_86_m4_19 : decode prog_86_method_4_code 19 = .ok (.getfield 13, 3) := by decide +kernel
theorem own_d_prog_86_m4_22 : decode prog_86_method_4_code 22 = .ok (.iload_n 3, 1) := by decide +kernel
theorem own_d_prog_86_m4_23 : decode prog_86_method_4_code 23 = .ok (.laload, 1) := by decide +kernel
theorem own_d_prog_86_m4_24 : decode prog_86_method_4_code 24 = .ok (.lcmp, 1) := by decide +kernel
theorem own_d_prog_86_m4_25 : decode prog_86_method_4_code 25 = .ok (.ifCond .le 13, 3) := by decide +kernel
theorem own_d_prog_86_m4_28 : decode prog_86_method_4_code 28 = .ok (.aload_n 0, 1) := by decide +kernel
theorem own_d_prog_86_m4_29 : decode prog_86_method_4_code 29 = .ok (.iload_n 3, 1) := by decide +kernel
theorem own_d_prog_86_m4_30 : decode prog_86_method_4_code 30 = .ok (.aload_n 1, 1) := by decide +kernel
theorem own_d_prog_86_m4_31 : decode prog_86_method_4_code 31 = .ok (.iload_n 2, 1) := by decide +kernel
theorem own_d_prog_86_m4_32 : decode prog_86_method_4_code 32 = .ok (.iconst 1, 1) := by decide +kernel
theorem own_d_prog_86_m4_33 : decode prog_86_method_4_code 33 = .ok (.iadd, 1) := by decide +kernel
theorem own_d_prog_86_m4_34 : decode prog_86_method_4_code 34 = .ok (.laload, 1) := by decide +kernel
theorem own_d_prog_86_m4_35 : decode prog_86_method_4_code 35 = .ok (.invokevirtual 23, 3) := by decide +kernel
theorem own_pd0 : parseMethodDescriptor "(IJ)V" = some ⟨[.int, .long], none⟩ := by decide +kernel
theorem own_d_prog_86_m4_38 : decode prog_86_method_4_code 38 = .ok (.iinc 2 2, 3) := by decide +kernel
theorem own_d_prog_86_m4_41 : decode prog_86_method_4_code 41 = .ok (.goto (-39), 3) := by decide +kernel
theorem own_d_prog_86_m3_0 : decode prog_86_method_3_code 0 = .ok (.aload_n 0, 1) := by decide +kernel
theorem own_d_prog_86_m3_1 : decode prog_86_method_3_code 1 = .ok (.getfield 20, 3) := by decide +kernel
theorem own_d_prog_86_m3_4 : decode prog_86_method_3_code 4 = .ok (.iload_n 1, 1) := by decide +kernel
theorem own_d_prog_86_m3_5 : decode prog_86_method_3_code 5 = .ok (.laload, 1) := by decide +kernel
theorem own_d_prog_86_m3_6 : decode prog_86_method_3_code 6 = .ok (.aload_n 0, 1) := by decide +kernel
theorem own_d_prog_86_m3_7 : decode prog_86_method_3_code 7 = .ok (.getfield 32, 3) := by decide +kernel
theorem own_d_prog_86_m3_10 : decode prog_86_method_3_code 10 = .ok (.lcmp, 1) := by decide +kernel
theorem own_d_prog_86_m3_11 : decode prog_86_method_3_code 11 = .ok (.ifCond .ne 7, 3) := by decide +kernel
theorem own_d_prog_86_m3_14 : decode prog_86_method_3_code 14 = .ok (.getstatic 36, 3) := by decide +kernel
theorem own_d_prog_86_m3_17 : decode prog_86_method_3_code 17 = .ok (.areturn, 1) := by decide +kernel
theorem own_d_prog_86_m3_18 : decode prog_86_method_3_code 18 = .ok (.iconst 0, 1) := by decide +kernel
theorem own_d_prog_86_m3_19 : decode prog_86_method_3_code 19 = .ok (.istore_n 2, 1) := by decide +kernel
theorem own_d_prog_86_m3_20 : decode prog_86_method_3_code 20 = .ok (.iconst 0, 1) := by decide +kernel
theorem own_d_prog_86_m3_21 : decode prog_86_method_3_code 21 = .ok (.istore_n 3, 1) := by decide +kernel
theorem own_d_prog_86_m3_22 : decode prog_86_method_3_code 22 = .ok (.iload_n 3, 1) := by decide +kernel
theorem own_d_prog_86_m3_23 : decode prog_86_method_3_code 23 = .ok (.aload_n 0, 1) := by decide +kernel
theorem own_d_prog_86_m3_24 : decode prog_86_method_3_code 24 = .ok (.getfield 13, 3) := by decide +kernel
theorem own_d_prog_86_m3_27 : decode prog_86_method_3_code 27 = .ok (.arraylength, 1) := by decide +kernel
theorem own_d_prog_86_m3_28 : decode prog_86_method_3_code 28 = .ok (.if_icmp .ge 21, 3) := by decide +kernel
theorem own_d_prog_86_m3_31 : decode prog_86_method_3_code 31 = .ok (.aload_n 0, 1) := by decide +kernel
theorem own_d_prog_86_m3_32 : decode prog_86_method_3_code 32 = .ok (.iload_n 3, 1) := by decide +kernel
theorem own_d_prog_86_m3_33 : decode prog_86_method_3_code 33 = .ok (.iload_n 1, 1) := by decide +kernel
theorem own_d_prog_86_m3_34 : decode prog_86_method_3_code 34 = .ok (.invokevirtual 39, 3) := by decide +kernel
theorem own_pd1 : parseMethodDescriptor "(II)Z" = some ⟨[.int, .int], some .boolean⟩ := by decide +kernel
theorem own_d_prog_86_m3_37 : decode prog_86_method_3_code 37 = .ok (.ifCond .eq 6, 3) := by decide +kernel
theorem own_d_prog_86_m3_40 : decode prog_86_method_3_code 40 = .ok (.iinc 2 1, 3) := by decide +kernel
theorem own_d_prog_86_m3_43 : decode prog_86_method_3_code 43 = .ok (.iinc 3 1, 3) := by decide +kernel
theorem own_d_prog_86_m3_46 : decode prog_86_method_3_code 46 = .ok (.goto (-24), 3) := by decide +kernel
theorem own_d_prog_86_m3_49 : decode prog_86_method_3_code 49 = .ok (.iconst 2, 1) := by decide +kernel
theorem own_d_prog_86_m3_50 : decode prog_86_method_3_code 50 = .ok (.iload_n 2, 1) := by decide +kernel
theorem own_d_prog_86_m3_51 : decode prog_86_method_3_code 51 = .ok (.imul, 1) := by decide +kernel
theorem own_d_prog_86_m3_52 : decode prog_86_method_3_code 52 = .ok (.newarray .long, 2) := by decide +kernel
theorem own_d_prog_86_m3_54 : decode prog_86_method_3_code 54 = .ok (.astore_n 3, 1) := by decide +kernel
theorem own_d_prog_86_m3_55 : decode prog_86_method_3_code 55 = .ok (.iconst 0, 1) := by decide +kernel
theorem own_d_prog_86_m3_56 : decode prog_86_method_3_code 56 = .ok (.istore 4, 2) := by decide +kernel
theorem own_d_prog_86_m3_58 : decode prog_86_method_3_code 58 = .ok (.iconst 0, 1) := by decide +kernel
theorem own_d_prog_86_m3_59 : decode prog_86_method_3_code 59 = .ok (.istore 5, 2) := by decide +kernel
theorem own_d_prog_86_m3_61 : decode prog_86_method_3_code 61 = .ok (.iload 5, 2) := by decide +kernel
theorem own_d_prog_86_m3_63 : decode prog_86_method_3_code 63 = .ok (.aload_n 0, 1) := by decide +kernel
theorem own_d_prog_86_m3_64 : decode prog_86_method_3_code 64 = .ok (.getfield 13, 3) := by decide +kernel
theorem own_d_prog_86_m3_67 : decode prog_86_method_3_code 67 = .ok (.arraylength, 1) := by decide +kernel
theorem own_d_prog_86_m3_68 : decode prog_86_method_3_code 68 = .ok (.if_icmp .ge 43, 3) := by decide +kernel
theorem own_d_prog_86_m3_71 : decode prog_86_method_3_code 71 = .ok (.aload_n 0, 1) := by decide +kernel
theorem own_d_prog_86_m3_72 : decode prog_86_method_3_code 72 = .ok (.iload 5, 2) := by decide +kernel
theorem own_d_prog_86_m3_74 : decode prog_86_method_3_code 74 = .ok (.iload_n 1, 1) := by decide +kernel
theorem own_d_prog_86_m3_75 : decode prog_86_method_3_code 75 = .ok (.invokevirtual 39, 3) := by decide +kernel
theorem own_d_prog_86_m3_78 : decode prog_86_method_3_code 78 = .ok (.ifCond .eq 27, 3) := by decide +kernel
theorem own_d_prog_86_m3_81 : decode prog_86_method_3_code 81 = .ok (.aload_n 3, 1) := by decide +kernel
theorem own_d_prog_86_m3_82 : decode prog_86_method_3_code 82 = .ok (.iload 4, 2) := by decide +kernel
theorem own_d_prog_86_m3_84 : decode prog_86_method_3_code 84 = .ok (.iinc 4 1, 3) := by decide +kernel
theorem own_d_prog_86_m3_87 : decode prog_86_method_3_code 87 = .ok (.iload 5, 2) := by decide +kernel
theorem own_d_prog_86_m3_89 : decode prog_86_method_3_code 89 = .ok (.i2l, 1) := by decide +kernel
theorem own_d_prog_86_m3_90 : decode prog_86_method_3_code 90 = .ok (.lastore, 1) := by decide +kernel
theorem own_d_prog_86_m3_91 : decode prog_86_method_3_code 91 = .ok (.aload_n 3, 1) := by decide +kernel
theorem own_d_prog_86_m3_92 : decode prog_86_method_3_code 92 = .ok (.iload 4, 2) := by decide +kernel
theorem own_d_prog_86_m3_94 : decode prog_86_method_3_code 94 = .ok (.iinc 4 1, 3) := by decide +kernel
theorem own_d_prog_86_m3_97 : decode prog_86_method_3_code 97 = .ok (.aload_n 0, 1) := by decide +kernel
theorem own_d_prog_86_m3_98 : decode prog_86_method_3_code 98 = .ok (.getfield 13, 3) := by decide +kernel
theorem own_d_prog_86_m3_101 : decode prog_86_method_3_code 101 = .ok (.iload 5, 2) := by decide +kernel
theorem own_d_prog_86_m3_103 : decode prog_86_method_3_code 103 = .ok (.laload, 1) := by decide +kernel
theorem own_d_prog_86_m3_104 : decode prog_86_method_3_code 104 = .ok (.lastore, 1) := by decide +kernel
theorem own_d_prog_86_m3_105 : decode prog_86_method_3_code 105 = .ok (.iinc 5 1, 3) := by decide +kernel
theorem own_d_prog_86_m3_108 : decode prog_86_method_3_code 108 = .ok (.goto (-47), 3) := by decide +kernel
theorem own_d_prog_86_m3_111 : decode prog_86_method_3_code 111 = .ok (.aload_n 0, 1) := by decide +kernel
theorem own_d_prog_86_m3_112 : decode prog_86_method_3_code 112 = .ok (.getfield 20, 3) := by decide +kernel
theorem own_d_prog_86_m3_115 : decode prog_86_method_3_code 115 = .ok (.iload_n 1, 1) := by decide +kernel
theorem own_d_prog_86_m3_116 : decode prog_86_method_3_code 116 = .ok (.aload_n 0, 1) := by decide +kernel
theorem own_d_prog_86_m3_117 : decode prog_86_method_3_code 117 = .ok (.getfield 32, 3) := by decide +kernel
theorem own_d_prog_86_m3_120 : decode prog_86_method_3_code 120 = .ok (.lastore, 1) := by decide +kernel
theorem own_d_prog_86_m3_121 : decode prog_86_method_3_code 121 = .ok (.aload_n 3, 1) := by decide +kernel
theorem own_d_prog_86_m3_122 : decode prog_86_method_3_code 122 = .ok (.areturn, 1) := by decide +kernel
theorem own_pn1 : plainName "com/example/coterie/coterie/message/VectorStamp" = true := by first | (simp [plainName, overriddenIn]; done) | decide +kernel
theorem own_d_prog_65_m1_0 : decode prog_65_method_1_code 0 = .ok (.aload_n 0, 1) := by decide +kernel
theorem own_d_prog_65_m1_1 : decode prog_65_method_1_code 1 = .ok (.invokespecial 1, 3) := by decide +kernel
theorem own_d_prog_65_m1_4 : decode prog_65_method_1_code 4 = .ok (.iload_n 1, 1) := by decide +kernel
theorem own_d_prog_65_m1_5 : decode prog_65_method_1_code 5 = .ok (.ifCond .lt 9, 3) := by decide +kernel
theorem own_d_prog_65_m1_8 : decode prog_65_method_1_code 8 = .ok (.iload_n 1, 1) := by decide +kernel
theorem own_d_prog_65_m1_9 : decode prog_65_method_1_code 9 = .ok (.aload_n 2, 1) := by decide +kernel
theorem own_d_prog_65_m1_10 : decode prog_65_method_1_code 10 = .ok (.arraylength, 1) := by decide +kernel
theorem own_d_prog_65_m1_11 : decode prog_65_method_1_code 11 = .ok (.if_icmp .lt 21, 3) := by decide +kernel
theorem own_d_prog_65_m1_32 : decode prog_65_method_1_code 32 = .ok (.aload_n 2, 1) := by decide +kernel
theorem own_d_prog_65_m1_33 : decode prog_65_method_1_code 33 = .ok (.iload_n 1, 1) := by decide +kernel
theorem own_d_prog_65_m1_34 : decode prog_65_method_1_code 34 = .ok (.laload, 1) := by decide +kernel
theorem own_d_prog_65_m1_35 : decode prog_65_method_1_code 35 = .ok (.lconst 1, 1) := by decide +kernel
theorem own_d_prog_65_m1_36 : decode prog_65_method_1_code 36 = .ok (.lcmp, 1) := by decide +kernel
theorem own_d_prog_65_m1_37 : decode prog_65_method_1_code 37 = .ok (.ifCond .ge 20, 3) := by decide +kernel
theorem own_d_prog_65_m1_57 : decode prog_65_method_1_code 57 = .ok (.aload_n 0, 1) := by decide +kernel
theorem own_d_prog_65_m1_58 : decode prog_65_method_1_code 58 = .ok (.iload_n 1, 1) := by decide +kernel
theorem own_d_prog_65_m1_59 : decode prog_65_method_1_code 59 = .ok (.putfield 19, 3) := by decide +kernel
theorem own_d_prog_65_m1_62 : decode prog_65_method_1_code 62 = .ok (.aload_n 0, 1) := by decide +kernel
theorem own_d_prog_65_m1_63 : decode prog_65_method_1_code 63 = .ok (.aload_n 2, 1) := by decide +kernel
theorem own_d_prog_65_m1_64 : decode prog_65_method_1_code 64 = .ok (.invokevirtual 25, 3) := by decide +kernel
theorem own_d_prog_65_m1_67 : decode prog_65_method_1_code 67 = .ok (.checkcast 26, 3) := by decide +kernel
theorem own_d_prog_65_m1_70 : decode prog_65_method_1_code 70 = .ok (.putfield 31, 3) := by decide +kernel
theorem own_d_prog_65_m1_73 : decode prog_65_method_1_code 73 = .ok (.return_, 1) := by decide +kernel
theorem own_d_prog_86_m2_0 : decode prog_86_method_2_code 0 = .ok (.aload_n 0, 1) := by decide +kernel
theorem own_d_prog_86_m2_1 : decode prog_86_method_2_code 1 = .ok (.aload_n 0, 1) := by decide +kernel
theorem own_d_prog_86_m2_2 : decode prog_86_method_2_code 2 = .ok (.getfield 7, 3) := by decide +kernel
theorem own_d_prog_86_m2_5 : decode prog_86_method_2_code 5 = .ok (.aload_n 0, 1) := by decide +kernel
theorem own_d_prog_86_m2_6 : decode prog_86_method_2_code 6 = .ok (.getfield 13, 3) := by decide +kernel
theorem own_d_prog_86_m2_9 : decode prog_86_method_2_code 9 = .ok (.aload_n 0, 1) := by decide +kernel
theorem own_d_prog_86_m2_10 : decode prog_86_method_2_code 10 = .ok (.getfield 7, 3) := by decide +kernel
theorem own_d_prog_86_m2_13 : decode prog_86_method_2_code 13 = .ok (.laload, 1) := by decide +kernel
theorem own_d_prog_86_m2_14 : decode prog_86_method_2_code 14 = .ok (.lconst 1, 1) := by decide +kernel
theorem own_d_prog_86_m2_15 : decode prog_86_method_2_code 15 = .ok (.ladd, 1) := by decide +kernel
theorem own_d_prog_86_m2_16 : decode prog_86_method_2_code 16 = .ok (.invokevirtual 23, 3) := by decide +kernel
theorem own_d_prog_86_m2_19 : decode prog_86_method_2_code 19 = .ok (.new 27, 3) := by decide +kernel
theorem own_d_prog_86_m2_22 : decode prog_86_method_2_code 22 = .ok (.dup, 1) := by decide +kernel
theorem own_d_prog_86_m2_23 : decode prog_86_method_2_code 23 = .ok (.aload_n 0, 1) := by decide +kernel
theorem own_d_prog_86_m2_24 : decode prog_86_method_2_code 24 = .ok (.getfield 7, 3) := by decide +kernel
theorem own_d_prog_86_m2_27 : decode prog_86_method_2_code 27 = .ok (.aload_n 0, 1) := by decide +kernel
theorem own_d_prog_86_m2_28 : decode prog_86_method_2_code 28 = .ok (.getfield 13, 3) := by decide +kernel
theorem own_d_prog_86_m2_31 : decode prog_86_method_2_code 31 = .ok (.invokespecial 29, 3) := by decide +kernel
theorem own_pd2 : parseMethodDescriptor "(I[J)V" = some ⟨[.int, (.array .long)], none⟩ := by decide +kernel
theorem own_d_prog_86_m2_34 : decode prog_86_method_2_code 34 = .ok (.areturn, 1) := by decide +kernel
theorem own_d_jdk_29_m66_0 : decode jdk_29_method_66_code 0 = .ok (.lload_n 0, 1) := by decide +kernel
theorem own_d_jdk_29_m66_1 : decode jdk_29_method_66_code 1 = .ok (.lload_n 2, 1) := by decide +kernel
theorem own_d_jdk_29_m66_2 : decode jdk_29_method_66_code 2 = .ok (.lcmp, 1) := by decide +kernel
theorem own_d_jdk_29_m66_3 : decode jdk_29_method_66_code 3 = .ok (.ifCond .lt 7, 3) := by decide +kernel
theorem own_d_jdk_29_m66_10 : decode jdk_29_method_66_code 10 = .ok (.lload_n 2, 1) := by decide +kernel
theorem own_d_jdk_29_m66_11 : decode jdk_29_method_66_code 11 = .ok (.lreturn, 1) := by decide +kernel
theorem own_d_jdk_29_m66_6 : decode jdk_29_method_66_code 6 = .ok (.lload_n 0, 1) := by decide +kernel
theorem own_d_jdk_29_m66_7 : decode jdk_29_method_66_code 7 = .ok (.goto 4, 3) := by decide +kernel
theorem own_pn2 : plainName "com/example/coterie/coterie/runtime/KnownRequestsLearnPinLaw" = true := by first | (simp [plainName, overriddenIn]; done) | decide +kernel
theorem own_d_m3_0 : decode method_3_code 0 = .ok (.iload_n 0, 1) := by decide +kernel
theorem own_d_m3_1 : decode method_3_code 1 = .ok (.iload_n 1, 1) := by decide +kernel
theorem own_d_m3_2 : decode method_3_code 2 = .ok (.if_icmp .ne 13, 3) := by decide +kernel
theorem own_d_m3_5 : decode method_3_code 5 = .ok (.iload_n 2, 1) := by decide +kernel
theorem own_d_m3_6 : decode method_3_code 6 = .ok (.ifCond .eq 7, 3) := by decide +kernel
theorem own_d_m3_13 : decode method_3_code 13 = .ok (.lconst 0, 1) := by decide +kernel
theorem own_d_m3_14 : decode method_3_code 14 = .ok (.lreturn, 1) := by decide +kernel
theorem own_d_m3_9 : decode method_3_code 9 = .ok (.lconst 1, 1) := by decide +kernel
theorem own_d_m3_10 : decode method_3_code 10 = .ok (.goto 4, 3) := by decide +kernel
theorem own_d_m3_15 : decode method_3_code 15 = .ok (.iload_n 0, 1) := by decide +kernel
theorem own_d_m3_16 : decode method_3_code 16 = .ok (.iload_n 3, 1) := by decide +kernel
theorem own_d_m3_17 : decode method_3_code 17 = .ok (.if_icmp .ne 10, 3) := by decide +kernel
theorem own_d_m3_20 : decode method_3_code 20 = .ok (.lconst 0, 1) := by decide +kernel
theorem own_d_m3_21 : decode method_3_code 21 = .ok (.lload 4, 2) := by decide +kernel
theorem own_d_m3_23 : decode method_3_code 23 = .ok (.invokestatic 46, 3) := by decide +kernel
theorem own_pd3 : parseMethodDescriptor "(JJ)J" = some ⟨[.long, .long], some .long⟩ := by decide +kernel
theorem own_d_m3_26 : decode method_3_code 26 = .ok (.lreturn, 1) := by decide +kernel
theorem own_d_m3_27 : decode method_3_code 27 = .ok (.lconst 0, 1) := by decide +kernel
theorem own_d_m3_28 : decode method_3_code 28 = .ok (.lreturn, 1) := by decide +kernel
theorem own_d_m4_0 : decode method_4_code 0 = .ok (.iload_n 0, 1) := by decide +kernel
theorem own_d_m4_1 : decode method_4_code 1 = .ok (.iload_n 1, 1) := by decide +kernel
theorem own_d_m4_2 : decode method_4_code 2 = .ok (.if_icmp .ne 5, 3) := by decide +kernel
theorem own_d_m4_5 : decode method_4_code 5 = .ok (.iload_n 2, 1) := by decide +kernel
theorem own_d_m4_6 : decode method_4_code 6 = .ok (.ireturn, 1) := by decide +kernel
theorem own_d_m4_7 : decode method_4_code 7 = .ok (.iload_n 0, 1) := by decide +kernel
theorem own_d_m4_8 : decode method_4_code 8 = .ok (.iload_n 3, 1) := by decide +kernel
theorem own_d_m4_9 : decode method_4_code 9 = .ok (.if_icmp .ne 14, 3) := by decide +kernel
theorem own_d_m4_23 : decode method_4_code 23 = .ok (.iconst 0, 1) := by decide +kernel
theorem own_d_m4_24 : decode method_4_code 24 = .ok (.ireturn, 1) := by decide +kernel
theorem own_d_m4_12 : decode method_4_code 12 = .ok (.lload 4, 2) := by decide +kernel
theorem own_d_m4_14 : decode method_4_code 14 = .ok (.lconst 0, 1) := by decide +kernel
theorem own_d_m4_15 : decode method_4_code 15 = .ok (.lcmp, 1) := by decide +kernel
theorem own_d_m4_16 : decode method_4_code 16 = .ok (.ifCond .le 7, 3) := by decide +kernel
theorem own_d_m4_19 : decode method_4_code 19 = .ok (.iconst 1, 1) := by decide +kernel
theorem own_d_m4_20 : decode method_4_code 20 = .ok (.goto 4, 3) := by decide +kernel
theorem own_d_m5_0 : decode method_5_code 0 = .ok (.iload_n 0, 1) := by decide +kernel
theorem own_d_m5_1 : decode method_5_code 1 = .ok (.iload_n 1, 1) := by decide +kernel
theorem own_d_m5_2 : decode method_5_code 2 = .ok (.if_icmp .ne 7, 3) := by decide +kernel
theorem own_d_m5_5 : decode method_5_code 5 = .ok (.iload_n 3, 1) := by decide +kernel
theorem own_d_m5_6 : decode method_5_code 6 = .ok (.ifCond .ne 13, 3) := by decide +kernel
theorem own_d_m5_19 : decode method_5_code 19 = .ok (.iconst 1, 1) := by decide +kernel
theorem own_d_m5_20 : decode method_5_code 20 = .ok (.goto 4, 3) := by decide +kernel
theorem own_d_m5_24 : decode method_5_code 24 = .ok (.ireturn, 1) := by decide +kernel
theorem own_d_m5_9 : decode method_5_code 9 = .ok (.iload_n 0, 1) := by decide +kernel
theorem own_d_m5_10 : decode method_5_code 10 = .ok (.iload_n 2, 1) := by decide +kernel
theorem own_d_m5_11 : decode method_5_code 11 = .ok (.if_icmp .ne 12, 3) := by decide +kernel
theorem own_d_m5_23 : decode method_5_code 23 = .ok (.iconst 0, 1) := by decide +kernel
theorem own_d_m5_14 : decode method_5_code 14 = .ok (.iload 4, 2) := by decide +kernel
theorem own_d_m5_16 : decode method_5_code 16 = .ok (.ifCond .eq 7, 3) := by decide +kernel
theorem own_d_m6_0 : decode method_6_code 0 = .ok (.iload_n 0, 1) := by decide +kernel
theorem own_d_m6_1 : decode method_6_code 1 = .ok (.iload_n 1, 1) := by decide +kernel
theorem own_d_m6_2 : decode method_6_code 2 = .ok (.if_icmp .ne 7, 3) := by decide +kernel
theorem own_d_m6_5 : decode method_6_code 5 = .ok (.lload_n 2, 1) := by decide +kernel
theorem own_d_m6_6 : decode method_6_code 6 = .ok (.goto 5, 3) := by decide +kernel
theorem own_d_m6_11 : decode method_6_code 11 = .ok (.lreturn, 1) := by decide +kernel
theorem own_d_m6_9 : decode method_6_code 9 = .ok (.lload 4, 2) := by decide +kernel
theorem own_d_m7_0 : decode method_7_code 0 = .ok (.bipush 6, 2) := by decide +kernel
theorem own_d_m7_2 : decode method_7_code 2 = .ok (.newarray .long, 2) := by decide +kernel
theorem own_d_m7_4 : decode method_7_code 4 = .ok (.astore 11, 2) := by decide +kernel
theorem own_d_m7_6 : decode method_7_code 6 = .ok (.iconst 0, 1) := by decide +kernel
theorem own_d_m7_7 : decode method_7_code 7 = .ok (.istore 12, 2) := by decide +kernel
theorem own_d_m7_9 : decode method_7_code 9 = .ok (.iload_n 2, 1) := by decide +kernel
theorem own_d_m7_10 : decode method_7_code 10 = .ok (.ifCond .eq 24, 3) := by decide +kernel
theorem own_d_m7_13 : decode method_7_code 13 = .ok (.iload_n 1, 1) := by decide +kernel
theorem own_d_m7_14 : decode method_7_code 14 = .ok (.ifCond .eq 20, 3) := by decide +kernel
theorem own_d_m7_17 : decode method_7_code 17 = .ok (.aload 11, 2) := by decide +kernel
theorem own_d_m7_19 : decode method_7_code 19 = .ok (.iload 12, 2) := by decide +kernel
theorem own_d_m7_21 : decode method_7_code 21 = .ok (.lconst 0, 1) := by decide +kernel
theorem own_d_m7_22 : decode method_7_code 22 = .ok (.lastore, 1) := by decide +kernel
theorem own_d_m7_23 : decode method_7_code 23 = .ok (.aload 11, 2) := by decide +kernel
theorem own_d_m7_25 : decode method_7_code 25 = .ok (.iload 12, 2) := by decide +kernel
theorem own_d_m7_27 : decode method_7_code 27 = .ok (.iconst 1, 1) := by decide +kernel
theorem own_d_m7_28 : decode method_7_code 28 = .ok (.iadd, 1) := by decide +kernel
theorem own_d_m7_29 : decode method_7_code 29 = .ok (.lload_n 3, 1) := by decide +kernel
theorem own_d_m7_30 : decode method_7_code 30 = .ok (.lastore, 1) := by decide +kernel
theorem own_d_m7_31 : decode method_7_code 31 = .ok (.iinc 12 2, 3) := by decide +kernel
theorem own_d_m7_34 : decode method_7_code 34 = .ok (.iload 5, 2) := by decide +kernel
theorem own_d_m7_36 : decode method_7_code 36 = .ok (.ifCond .eq 26, 3) := by decide +kernel
theorem own_d_m7_39 : decode method_7_code 39 = .ok (.iload_n 1, 1) := by decide +kernel
theorem own_d_m7_40 : decode method_7_code 40 = .ok (.iconst 1, 1) := by decide +kernel
theorem own_d_m7_41 : decode method_7_code 41 = .ok (.if_icmp .eq 21, 3) := by decide +kernel
theorem own_d_m7_44 : decode method_7_code 44 = .ok (.aload 11, 2) := by decide +kernel
theorem own_d_m7_46 : decode method_7_code 46 = .ok (.iload 12, 2) := by decide +kernel
theorem own_d_m7_48 : decode method_7_code 48 = .ok (.lconst 1, 1) := by decide +kernel
theorem own_d_m7_49 : decode method_7_code 49 = .ok (.lastore, 1) := by decide +kernel
theorem own_d_m7_50 : decode method_7_code 50 = .ok (.aload 11, 2) := by decide +kernel
theorem own_d_m7_52 : decode method_7_code 52 = .ok (.iload 12, 2) := by decide +kernel
theorem own_d_m7_54 : decode method_7_code 54 = .ok (.iconst 1, 1) := by decide +kernel
theorem own_d_m7_55 : decode method_7_code 55 = .ok (.iadd, 1) := by decide +kernel
theorem own_d_m7_56 : decode method_7_code 56 = .ok (.lload 6, 2) := by decide +kernel
theorem own_d_m7_58 : decode method_7_code 58 = .ok (.lastore, 1) := by decide +kernel
theorem own_d_m7_59 : decode method_7_code 59 = .ok (.iinc 12 2, 3) := by decide +kernel
theorem own_d_m7_62 : decode method_7_code 62 = .ok (.iload 8, 2) := by decide +kernel
theorem own_d_m7_64 : decode method_7_code 64 = .ok (.ifCond .eq 28, 3) := by decide +kernel
theorem own_d_m7_67 : decode method_7_code 67 = .ok (.iload_n 1, 1) := by decide +kernel
theorem own_d_m7_68 : decode method_7_code 68 = .ok (.iconst 2, 1) := by decide +kernel
theorem own_d_m7_69 : decode method_7_code 69 = .ok (.if_icmp .eq 23, 3) := by decide +kernel
theorem own_d_m7_72 : decode method_7_code 72 = .ok (.aload 11, 2) := by decide +kernel
theorem own_d_m7_74 : decode method_7_code 74 = .ok (.iload 12, 2) := by decide +kernel
theorem own_d_m7_76 : decode method_7_code 76 = .ok (.ldc2_w 52, 3) := by decide +kernel
theorem own_d_m7_79 : decode method_7_code 79 = .ok (.lastore, 1) := by decide +kernel
theorem own_d_m7_80 : decode method_7_code 80 = .ok (.aload 11, 2) := by decide +kernel
theorem own_d_m7_82 : decode method_7_code 82 = .ok (.iload 12, 2) := by decide +kernel
theorem own_d_m7_84 : decode method_7_code 84 = .ok (.iconst 1, 1) := by decide +kernel
theorem own_d_m7_85 : decode method_7_code 85 = .ok (.iadd, 1) := by decide +kernel
theorem own_d_m7_86 : decode method_7_code 86 = .ok (.lload 9, 2) := by decide +kernel
theorem own_d_m7_88 : decode method_7_code 88 = .ok (.lastore, 1) := by decide +kernel
theorem own_d_m7_89 : decode method_7_code 89 = .ok (.iinc 12 2, 3) := by decide +kernel
theorem own_d_m7_92 : decode method_7_code 92 = .ok (.aload_n 0, 1) := by decide +kernel
theorem own_d_m7_93 : decode method_7_code 93 = .ok (.arraylength, 1) := by decide +kernel
theorem own_d_m7_94 : decode method_7_code 94 = .ok (.iload 12, 2) := by decide +kernel
theorem own_d_m7_96 : decode method_7_code 96 = .ok (.if_icmp .eq 5, 3) := by decide +kernel
theorem own_d_m7_101 : decode method_7_code 101 = .ok (.iload 12, 2) := by decide +kernel
theorem own_d_m7_103 : decode method_7_code 103 = .ok (.iconst 2, 1) := by decide +kernel
theorem own_d_m7_104 : decode method_7_code 104 = .ok (.if_icmp .lt 25, 3) := by decide +kernel
theorem own_d_m7_107 : decode method_7_code 107 = .ok (.aload_n 0, 1) := by decide +kernel
theorem own_d_m7_108 : decode method_7_code 108 = .ok (.iconst 0, 1) := by decide +kernel
theorem own_d_m7_109 : decode method_7_code 109 = .ok (.laload, 1) := by decide +kernel
theorem own_d_m7_110 : decode method_7_code 110 = .ok (.aload 11, 2) := by decide +kernel
theorem own_d_m7_112 : decode method_7_code 112 = .ok (.iconst 0, 1) := by decide +kernel
theorem own_d_m7_113 : decode method_7_code 113 = .ok (.laload, 1) := by decide +kernel
theorem own_d_m7_114 : decode method_7_code 114 = .ok (.lcmp, 1) := by decide +kernel
theorem own_d_m7_115 : decode method_7_code 115 = .ok (.ifCond .ne 75, 3) := by decide +kernel
theorem own_d_m7_118 : decode method_7_code 118 = .ok (.aload_n 0, 1) := by decide +kernel
theorem own_d_m7_119 : decode method_7_code 119 = .ok (.iconst 1, 1) := by decide +kernel
theorem own_d_m7_120 : decode method_7_code 120 = .ok (.laload, 1) := by decide +kernel
theorem own_d_m7_121 : decode method_7_code 121 = .ok (.aload 11, 2) := by decide +kernel
theorem own_d_m7_123 : decode method_7_code 123 = .ok (.iconst 1, 1) := by decide +kernel
theorem own_d_m7_124 : decode method_7_code 124 = .ok (.laload, 1) := by decide +kernel
theorem own_d_m7_125 : decode method_7_code 125 = .ok (.lcmp, 1) := by decide +kernel
theorem own_d_m7_126 : decode method_7_code 126 = .ok (.ifCond .ne 64, 3) := by decide +kernel
theorem own_d_m7_129 : decode method_7_code 129 = .ok (.iload 12, 2) := by decide +kernel
theorem own_d_m7_131 : decode method_7_code 131 = .ok (.iconst 4, 1) := by decide +kernel
theorem own_d_m7_132 : decode method_7_code 132 = .ok (.if_icmp .lt 25, 3) := by decide +kernel
theorem own_d_m7_135 : decode method_7_code 135 = .ok (.aload_n 0, 1) := by decide +kernel
theorem own_d_m7_136 : decode method_7_code 136 = .ok (.iconst 2, 1) := by decide +kernel
theorem own_d_m7_137 : decode method_7_code 137 = .ok (.laload, 1) := by decide +kernel
theorem own_d_m7_138 : decode method_7_code 138 = .ok (.aload 11, 2) := by decide +kernel
theorem own_d_m7_140 : decode method_7_code 140 = .ok (.iconst 2, 1) := by decide +kernel
theorem own_d_m7_141 : decode method_7_code 141 = .ok (.laload, 1) := by decide +kernel
theorem own_d_m7_142 : decode method_7_code 142 = .ok (.lcmp, 1) := by decide +kernel
theorem own_d_m7_143 : decode method_7_code 143 = .ok (.ifCond .ne 47, 3) := by decide +kernel
theorem own_d_m7_146 : decode method_7_code 146 = .ok (.aload_n 0, 1) := by decide +kernel
theorem own_d_m7_147 : decode method_7_code 147 = .ok (.iconst 3, 1) := by decide +kernel
theorem own_d_m7_148 : decode method_7_code 148 = .ok (.laload, 1) := by decide +kernel
theorem own_d_m7_149 : decode method_7_code 149 = .ok (.aload 11, 2) := by decide +kernel
theorem own_d_m7_151 : decode method_7_code 151 = .ok (.iconst 3, 1) := by decide +kernel
theorem own_d_m7_152 : decode method_7_code 152 = .ok (.laload, 1) := by decide +kernel
theorem own_d_m7_153 : decode method_7_code 153 = .ok (.lcmp, 1) := by decide +kernel
theorem own_d_m7_154 : decode method_7_code 154 = .ok (.ifCond .ne 36, 3) := by decide +kernel
theorem own_d_m7_157 : decode method_7_code 157 = .ok (.iload 12, 2) := by decide +kernel
theorem own_d_m7_159 : decode method_7_code 159 = .ok (.bipush 6, 2) := by decide +kernel
theorem own_d_m7_161 : decode method_7_code 161 = .ok (.if_icmp .lt 25, 3) := by decide +kernel
theorem own_d_m7_164 : decode method_7_code 164 = .ok (.aload_n 0, 1) := by decide +kernel
theorem own_d_m7_165 : decode method_7_code 165 = .ok (.iconst 4, 1) := by decide +kernel
theorem own_d_m7_166 : decode method_7_code 166 = .ok (.laload, 1) := by decide +kernel
theorem own_d_m7_167 : decode method_7_code 167 = .ok (.aload 11, 2) := by decide +kernel
theorem own_d_m7_169 : decode method_7_code 169 = .ok (.iconst 4, 1) := by decide +kernel
theorem own_d_m7_170 : decode method_7_code 170 = .ok (.laload, 1) := by decide +kernel
theorem own_d_m7_171 : decode method_7_code 171 = .ok (.lcmp, 1) := by decide +kernel
theorem own_d_m7_172 : decode method_7_code 172 = .ok (.ifCond .ne 18, 3) := by decide +kernel
theorem own_d_m7_175 : decode method_7_code 175 = .ok (.aload_n 0, 1) := by decide +kernel
theorem own_d_m7_176 : decode method_7_code 176 = .ok (.iconst 5, 1) := by decide +kernel
theorem own_d_m7_177 : decode method_7_code 177 = .ok (.laload, 1) := by decide +kernel
theorem own_d_m7_178 : decode method_7_code 178 = .ok (.aload 11, 2) := by decide +kernel
theorem own_d_m7_180 : decode method_7_code 180 = .ok (.iconst 5, 1) := by decide +kernel
theorem own_d_m7_181 : decode method_7_code 181 = .ok (.laload, 1) := by decide +kernel
theorem own_d_m7_182 : decode method_7_code 182 = .ok (.lcmp, 1) := by decide +kernel
theorem own_d_m7_183 : decode method_7_code 183 = .ok (.ifCond .ne 7, 3) := by decide +kernel
theorem own_d_m7_186 : decode method_7_code 186 = .ok (.iconst 1, 1) := by decide +kernel
theorem own_d_m7_187 : decode method_7_code 187 = .ok (.goto 4, 3) := by decide +kernel
theorem own_d_m7_191 : decode method_7_code 191 = .ok (.ireturn, 1) := by decide +kernel
theorem own_pd4 : parseMethodDescriptor "(II)V" = some ⟨[.int, .int], none⟩ := by decide +kernel
theorem own_pd5 : parseMethodDescriptor "()Lcom/example/coterie/coterie/message/VectorStamp;" = some ⟨[], some (.object "com/example/coterie/coterie/message/VectorStamp")⟩ := by decide +kernel
theorem own_pd6 : parseMethodDescriptor "([J)V" = some ⟨[(.array .long)], none⟩ := by decide +kernel
theorem own_pd7 : parseMethodDescriptor "(I)[J" = some ⟨[.int], some (.array .long)⟩ := by decide +kernel
theorem own_pd8 : parseMethodDescriptor "(IIZIJ)J" = some ⟨[.int, .int, .boolean, .int, .long], some .long⟩ := by decide +kernel
theorem own_pd9 : parseMethodDescriptor "(IIZIJ)Z" = some ⟨[.int, .int, .boolean, .int, .long], some .boolean⟩ := by decide +kernel
theorem own_pd10 : parseMethodDescriptor "([JIZJZJZJ)Z" = some ⟨[(.array .long), .int, .boolean, .long, .boolean, .long, .boolean, .long], some .boolean⟩ := by decide +kernel
theorem own_pd11 : parseMethodDescriptor "(IIIZZ)Z" = some ⟨[.int, .int, .int, .boolean, .boolean], some .boolean⟩ := by decide +kernel
theorem own_pd12 : parseMethodDescriptor "(IIJJ)J" = some ⟨[.int, .int, .long, .long], some .long⟩ := by decide +kernel
def Q_kinit (Z : State) (k : Addr) (sf : Int32) (h0 : Heap) (n0 : Nat) (v : Option Value) (h : Heap) (L : List Loc) : Prop := ∃ aK : Addr, ∃ aR : Addr, ∃ aT : Addr, v = none ∧ Fr n0 L ∧ (Keep h0 h [k]) ∧ (own_KR Z h k aK aR aT sf (fun _ => (0 : Int64)) (fun _ => (0 : Int64)) (fun _ => (0 : Int64)) (0 : Int64)) ∧ (k ≠ aK) ∧ (k ≠ aR) ∧ (k ≠ aT) ∧ (aK ≠ aR) ∧ (aK ≠ aT) ∧ (aR ≠ aT) ∧ (n0 ≤ aK) ∧ (n0 ≤ aR) ∧ (n0 ≤ aT) ∧ (h0.size ≤ aK) ∧ (h0.size ≤ aR) ∧ (h0.size ≤ aT)
theorem ef_kinit (m : MethodId) (x0 : Addr) (x1 : Int32) (x2 : Int32)  : entryFrame m #[(.ref x0), (.int x1), (.int x2)] 3 = mkF m 0 #[.val (.ref x0), .val (.int x1), .val (.int x2)] [] := by first | (simp [entryFrame, mkF, argsToLocals, Value.category]; done) | rfl
set_option maxRecDepth 65536 in
set_option maxHeartbeats 40000000 in
theorem rm_kinit (l : Launch) (Z : State) (a0 : Array Value) (hw : ∀ d ∈ tables_1, d.before a0 Z = true) (ws : List Jvm.Cond) (k : Addr) (sf : Int32) (h0 : Heap) (n0 : Nat) (Zs : n0 ≤ h0.size) (E_k : Exa Z h0 k "com/example/coterie/coterie/runtime/KnownRequests") (F_self : Fld Z h0 k "com/example/coterie/coterie/runtime/KnownRequests" "self" "I" (.int (0 : Int32))) (F_known : Fld Z h0 k "com/example/coterie/coterie/runtime/KnownRequests" "known" "[J" .null) (F_rose : Fld Z h0 k "com/example/coterie/coterie/runtime/KnownRequests" "roseAt" "[J" .null) (F_told : Fld Z h0 k "com/example/coterie/coterie/runtime/KnownRequests" "told" "[J" .null) (F_rises : Fld Z h0 k "com/example/coterie/coterie/runtime/KnownRequests" "rises" "J" (.long (0 : Int64))) (g_k : n0 ≤ k) :
    MetFree l (⟨"com/example/coterie/coterie/runtime/KnownRequests", "<init>", "(II)V"⟩ : MethodName) (head1 (Jvm.Cond.code (⟨"com/example/coterie/coterie/runtime/KnownRequests", "<init>", "(II)V"⟩ : MethodName) prog_86_method_1_code 3 none :: ws) ({ frames := 1, cells := 3, slots := 9, locals := 24 } : Room)) (fun a U => a = #[(.ref k), (.int sf), (.int (3 : Int32))] ∧ Z.Warmed39 U.vm ∧ U.heap = h0) (fun _ _ _ _ _ => True) (fun _ U o U' => ∃ v L, o = .returned v ∧ (Q_kinit Z k sf h0 n0) v U'.heap L ∧ FrameEnd U o U' L ({ frames := 1, cells := 3, slots := 9, locals := 24 } : Room).cells ({ frames := 1, cells := 3, slots := 9, locals := 24 } : Room).slots) := by
  refine MetFree.of_bodySF (plainFor_of_name own_pn0) hisR ?_
  intro p e s m args below meth c s₁ Bd hml0 hP hK
  obtain ⟨rfl, hZ, hh⟩ := hP
  have hx := Bd.exec
  have hby := Bd.bytes
  have hlk := BodyLoose.notSynchronized Bd
  have hret := Bd.returns
  have hml : c.maxLocals = 3 := hml0
  have hown : s.vm.findClass "com/example/coterie/coterie/runtime/KnownRequests" = some m.cls := findClass_of_methodNamed Bd.named
  have hnm := (name_of_methodNamed Bd.named Bd.method).1
  have X : Stand p l e ({ frames := 1, cells := 3, slots := 9, locals := 24 } : Room) s m #[(.ref k), (.int sf), (.int (3 : Int32))] below meth c s₁ [] 0 0 := Stand.of_body Bd
  have eT : s₁.heap = h0 := by rw [← hh, Bd.state]; rfl
  have N := Fr.nil n0
  have K0 : Keep h0 h0 [k] := Keep.refl _ _
  show own_Go p e below s (Q_kinit Z k sf h0 n0) ({ frames := 1, cells := 3, slots := 9, locals := 24 } : Room).cells ({ frames := 1, cells := 3, slots := 9, locals := 24 } : Room).slots s₁ (entryFrame m #[(.ref k), (.int sf), (.int (3 : Int32))] 3)
  rw [ef_kinit m k sf (3 : Int32)]
  refine own_st (T' := s₁) (g' := (mkF m 1 #[.val (.ref k), .val (.int sf), .val (.int (3 : Int32))] [(.ref k)])) (fun _ zq => XS.aloadN X.here hx rfl (hb hby own_d_prog_86_m1_0) rfl rfl zq) ?_
  obtain ⟨T1, X1, e1, st1⟩ := initO X hx hZ hown (hw _ (List.mem_of_getElem? (i := 7) rfl)) (hw _ (List.mem_of_getElem? (i := 8) rfl)) (hw _ (List.mem_of_getElem? (i := 9) rfl)) eT (g := (mkF m 1 #[.val (.ref k), .val (.int sf), .val (.int (3 : Int32))] [(.ref k)])) rfl (by rw [hml]; rfl) rfl (hb hby own_d_prog_86_m1_1) (by decide) (W := 0) (by show 2 * 0 + _ ≤ _; exact Nat.le_of_eq rfl) (by decide)
  refine own_st (g' := (mkF m 4 #[.val (.ref k), .val (.int sf), .val (.int (3 : Int32))] [])) st1 ?_
  refine own_st (T' := T1) (g' := (mkF m 5 #[.val (.ref k), .val (.int sf), .val (.int (3 : Int32))] [(.ref k)])) (fun _ zq => XS.aloadN X1.here hx rfl (hb hby own_d_prog_86_m1_4) rfl rfl zq) ?_
  refine own_st (T' := T1) (g' := (mkF m 6 #[.val (.ref k), .val (.int sf), .val (.int (3 : Int32))] [(.int sf), (.ref k)])) (fun _ zq => XS.iloadN X1.here hx rfl (hb hby own_d_prog_86_m1_5) rfl zq) ?_
  obtain ⟨T2, h2, X2, e2, W2, st2⟩ := putF X1 hx hZ hown (host := "") (Or.inl (hw _ (List.mem_of_getElem? (i := 10) rfl))) Via.refl e1 F_self E_k (Or.inr ⟨(hw _ (List.mem_of_getElem? (i := 11) rfl)), rfl, hnm⟩) (hw _ (List.mem_of_getElem? (i := 2) rfl)) (ty := .int) (by decide) rfl rfl (g := (mkF m 6 #[.val (.ref k), .val (.int sf), .val (.int (3 : Int32))] [(.int sf), (.ref k)])) rfl rfl (hb hby own_d_prog_86_m1_6)
  replace E_k := E_k.wr W2
  replace F_self := F_self.same W2
  replace F_known := F_known.other W2 (Or.inr (slot_ne (C := "com/example/coterie/coterie/runtime/KnownRequests") (Or.inr (hw _ (List.mem_of_getElem? (i := 13) rfl))) (Or.inr (hw _ (List.mem_of_getElem? (i := 11) rfl))) (by decide) (t := (.array .long)) (by decide) (t' := .int) (by decide)))
  replace F_rose := F_rose.other W2 (Or.inr (slot_ne (C := "com/example/coterie/coterie/runtime/KnownRequests") (Or.inr (hw _ (List.mem_of_getElem? (i := 15) rfl))) (Or.inr (hw _ (List.mem_of_getElem? (i := 11) rfl))) (by decide) (t := (.array .long)) (by decide) (t' := .int) (by decide)))
  replace F_told := F_told.other W2 (Or.inr (slot_ne (C := "com/example/coterie/coterie/runtime/KnownRequests") (Or.inr (hw _ (List.mem_of_getElem? (i := 17) rfl))) (Or.inr (hw _ (List.mem_of_getElem? (i := 11) rfl))) (by decide) (t := (.array .long)) (by decide) (t' := .int) (by decide)))
  replace F_rises := F_rises.other W2 (Or.inr (slot_ne (C := "com/example/coterie/coterie/runtime/KnownRequests") (Or.inl (hw _ (List.mem_of_getElem? (i := 28) rfl))) (Or.inr (hw _ (List.mem_of_getElem? (i := 11) rfl))) (by decide) (t := .long) (by decide) (t' := .int) (by decide)))
  replace Zs := Nat.le_trans Zs (Keep.of_wr W2).1
  replace K0 := K0.wr W2 (Or.inl (List.mem_of_getElem? (i := 0) rfl))
  replace N := Fr.snoc X2 N g_k
  refine own_st (g' := (mkF m 9 #[.val (.ref k), .val (.int sf), .val (.int (3 : Int32))] [])) st2 ?_
  refine own_st (T' := T2) (g' := (mkF m 10 #[.val (.ref k), .val (.int sf), .val (.int (3 : Int32))] [(.ref k)])) (fun _ zq => XS.aloadN X2.here hx rfl (hb hby own_d_prog_86_m1_9) rfl rfl zq) ?_
  refine own_st (T' := T2) (g' := (mkF m 11 #[.val (.ref k), .val (.int sf), .val (.int (3 : Int32))] [(.int (3 : Int32)), (.ref k)])) (fun _ zq => XS.iloadN X2.here hx rfl (hb hby own_d_prog_86_m1_10) rfl zq) ?_
  obtain ⟨T3, h3, k3, X3, e3, E3, A3, EA3, st3⟩ := newPE X2 hx hZ (hw _ (List.mem_of_getElem? (i := 0) rfl)) e2 (g := (mkF m 11 #[.val (.ref k), .val (.int sf), .val (.int (3 : Int32))] [(.int (3 : Int32)), (.ref k)])) rfl (hb hby own_d_prog_86_m1_11) rfl (by decide) (cap := 3) (by decide) (by decide) (by decide) (by decide) (ad := "[J") (by decide)
  obtain ⟨b3, ga3⟩ : ∃ z, z = h2.size := ⟨_, rfl⟩
  rw [← ga3] at A3 EA3 st3
  have g_b3 : n0 ≤ b3 := Nat.le_trans Zs (Nat.le_of_eq ga3.symm)
  have sz_b3 : h0.size ≤ b3 := Nat.le_trans K0.1 (Nat.le_of_eq ga3.symm)
  have ne_k_b3 : k ≠ b3 := fun q => Nat.lt_irrefl _ (Nat.lt_of_lt_of_eq E_k.lt (ga3.symm.trans q.symm))
  replace E_k := E_k.ext E3
  replace F_self := F_self.ext E3
  replace F_known := F_known.ext E3
  replace F_rose := F_rose.ext E3
  replace F_told := F_told.ext E3
  replace F_rises := F_rises.ext E3
  replace Zs := Nat.le_trans Zs E3.1
  replace K0 := K0.ext E3
  have V_b3 : own_AV Z h3 b3 .long 3 (fun _ => .long (0 : Int64)) := own_AV.new A3 rfl
  refine own_st (g' := (mkF m 13 #[.val (.ref k), .val (.int sf), .val (.int (3 : Int32))] [(.ref b3), (.ref k)])) st3 ?_
  obtain ⟨T4, h4, X4, e4, W4, st4⟩ := putF X3 hx hZ hown (host := "") (Or.inl (hw _ (List.mem_of_getElem? (i := 12) rfl))) Via.refl e3 F_known E_k (Or.inr ⟨(hw _ (List.mem_of_getElem? (i := 13) rfl)), rfl, hnm⟩) (hw _ (List.mem_of_getElem? (i := 2) rfl)) (ty := (.array .long)) (by decide) rfl rfl (g := (mkF m 13 #[.val (.ref k), .val (.int sf), .val (.int (3 : Int32))] [(.ref b3), (.ref k)])) rfl rfl (hb hby own_d_prog_86_m1_13)
  replace E_k := E_k.wr W4
  replace F_self := F_self.other W4 (Or.inr (slot_ne (C := "com/example/coterie/coterie/runtime/KnownRequests") (Or.inr (hw _ (List.mem_of_getElem? (i := 11) rfl))) (Or.inr (hw _ (List.mem_of_getElem? (i := 13) rfl))) (by decide) (t := .int) (by decide) (t' := (.array .long)) (by decide)))
  replace F_known := F_known.same W4
  replace F_rose := F_rose.other W4 (Or.inr (slot_ne (C := "com/example/coterie/coterie/runtime/KnownRequests") (Or.inr (hw _ (List.mem_of_getElem? (i := 15) rfl))) (Or.inr (hw _ (List.mem_of_getElem? (i := 13) rfl))) (by decide) (t := (.array .long)) (by decide) (t' := (.array .long)) (by decide)))
  replace F_told := F_told.other W4 (Or.inr (slot_ne (C := "com/example/coterie/coterie/runtime/KnownRequests") (Or.inr (hw _ (List.mem_of_getElem? (i := 17) rfl))) (Or.inr (hw _ (List.mem_of_getElem? (i := 13) rfl))) (by decide) (t := (.array .long)) (by decide) (t' := (.array .long)) (by decide)))
  replace F_rises := F_rises.other W4 (Or.inr (slot_ne (C := "com/example/coterie/coterie/runtime/KnownRequests") (Or.inl (hw _ (List.mem_of_getElem? (i := 28) rfl))) (Or.inr (hw _ (List.mem_of_getElem? (i := 13) rfl))) (by decide) (t := .long) (by decide) (t' := (.array .long)) (by decide)))
  replace EA3 := EA3.wr W4
  replace V_b3 := V_b3.other W4 ne_k_b3.symm
  replace Zs := Nat.le_trans Zs (Keep.of_wr W4).1
  replace K0 := K0.wr W4 (Or.inl (List.mem_of_getElem? (i := 0) rfl))
  replace N := Fr.snoc X4 N g_k
  refine own_st (g' := (mkF m 16 #[.val (.ref k), .val (.int sf), .val (.int (3 : Int32))] [])) st4 ?_
  refine own_st (T' := T4) (g' := (mkF m 17 #[.val (.ref k), .val (.int sf), .val (.int (3 : Int32))] [(.ref k)])) (fun _ zq => XS.aloadN X4.here hx rfl (hb hby own_d_prog_86_m1_16) rfl rfl zq) ?_
  refine own_st (T' := T4) (g' := (mkF m 18 #[.val (.ref k), .val (.int sf), .val (.int (3 : Int32))] [(.int (3 : Int32)), (.ref k)])) (fun _ zq => XS.iloadN X4.here hx rfl (hb hby own_d_prog_86_m1_17) rfl zq) ?_
  obtain ⟨T5, h5, k5, X5, e5, E5, A5, st5⟩ := newP X4 hx hZ (hw _ (List.mem_of_getElem? (i := 0) rfl)) e4 (g := (mkF m 18 #[.val (.ref k), .val (.int sf), .val (.int (3 : Int32))] [(.int (3 : Int32)), (.ref k)])) rfl (hb hby own_d_prog_86_m1_18) rfl (by decide) (cap := 3) (by decide) (by decide) (by decide) (by decide)
  obtain ⟨b5, ga5⟩ : ∃ z, z = h4.size := ⟨_, rfl⟩
  rw [← ga5] at A5 st5
  have g_b5 : n0 ≤ b5 := Nat.le_trans Zs (Nat.le_of_eq ga5.symm)
  have sz_b5 : h0.size ≤ b5 := Nat.le_trans K0.1 (Nat.le_of_eq ga5.symm)
  have ne_k_b5 : k ≠ b5 := fun q => Nat.lt_irrefl _ (Nat.lt_of_lt_of_eq E_k.lt (ga5.symm.trans q.symm))
  have ne_b3_b5 : b3 ≠ b5 := fun q => Nat.lt_irrefl _ (Nat.lt_of_lt_of_eq EA3.lt (ga5.symm.trans q.symm))
  replace E_k := E_k.ext E5
  replace F_self := F_self.ext E5
  replace F_known := F_known.ext E5
  replace F_rose := F_rose.ext E5
  replace F_told := F_told.ext E5
  replace F_rises := F_rises.ext E5
  replace EA3 := EA3.ext E5
  replace V_b3 := V_b3.ext E5
  replace Zs := Nat.le_trans Zs E5.1
  replace K0 := K0.ext E5
  have V_b5 : own_AV Z h5 b5 .long 3 (fun _ => .long (0 : Int64)) := own_AV.new A5 rfl
  refine own_st (g' := (mkF m 20 #[.val (.ref k), .val (.int sf), .val (.int (3 : Int32))] [(.ref b5), (.ref k)])) st5 ?_
  obtain ⟨T6, h6, X6, e6, W6, st6⟩ := putF X5 hx hZ hown (host := "") (Or.inl (hw _ (List.mem_of_getElem? (i := 14) rfl))) Via.refl e5 F_rose E_k (Or.inr ⟨(hw _ (List.mem_of_getElem? (i := 15) rfl)), rfl, hnm⟩) (hw _ (List.mem_of_getElem? (i := 2) rfl)) (ty := (.array .long)) (by decide) rfl rfl (g := (mkF m 20 #[.val (.ref k), .val (.int sf), .val (.int (3 : Int32))] [(.ref b5), (.ref k)])) rfl rfl (hb hby own_d_prog_86_m1_20)
  replace E_k := E_k.wr W6
  replace F_self := F_self.other W6 (Or.inr (slot_ne (C := "com/example/coterie/coterie/runtime/KnownRequests") (Or.inr (hw _ (List.mem_of_getElem? (i := 11) rfl))) (Or.inr (hw _ (List.mem_of_getElem? (i := 15) rfl))) (by decide) (t := .int) (by decide) (t' := (.array .long)) (by decide)))
  replace F_known := F_known.other W6 (Or.inr (slot_ne (C := "com/example/coterie/coterie/runtime/KnownRequests") (Or.inr (hw _ (List.mem_of_getElem? (i := 13) rfl))) (Or.inr (hw _ (List.mem_of_getElem? (i := 15) rfl))) (by decide) (t := (.array .long)) (by decide) (t' := (.array .long)) (by decide)))
  replace F_rose := F_rose.same W6
  replace F_told := F_told.other W6 (Or.inr (slot_ne (C := "com/example/coterie/coterie/runtime/KnownRequests") (Or.inr (hw _ (List.mem_of_getElem? (i := 17) rfl))) (Or.inr (hw _ (List.mem_of_getElem? (i := 15) rfl))) (by decide) (t := (.array .long)) (by decide) (t' := (.array .long)) (by decide)))
  replace F_rises := F_rises.other W6 (Or.inr (slot_ne (C := "com/example/coterie/coterie/runtime/KnownRequests") (Or.inl (hw _ (List.mem_of_getElem? (i := 28) rfl))) (Or.inr (hw _ (List.mem_of_getElem? (i := 15) rfl))) (by decide) (t := .long) (by decide) (t' := (.array .long)) (by decide)))
  replace EA3 := EA3.wr W6
  replace V_b3 := V_b3.other W6 ne_k_b3.symm
  replace V_b5 := V_b5.other W6 ne_k_b5.symm
  replace Zs := Nat.le_trans Zs (Keep.of_wr W6).1
  replace K0 := K0.wr W6 (Or.inl (List.mem_of_getElem? (i := 0) rfl))
  replace N := Fr.snoc X6 N g_k
  refine own_st (g' := (mkF m 23 #[.val (.ref k), .val (.int sf), .val (.int (3 : Int32))] [])) st6 ?_
  refine own_st (T' := T6) (g' := (mkF m 24 #[.val (.ref k), .val (.int sf), .val (.int (3 : Int32))] [(.ref k)])) (fun _ zq => XS.aloadN X6.here hx rfl (hb hby own_d_prog_86_m1_23) rfl rfl zq) ?_
  refine own_st (T' := T6) (g' := (mkF m 25 #[.val (.ref k), .val (.int sf), .val (.int (3 : Int32))] [(.int (3 : Int32)), (.ref k)])) (fun _ zq => XS.iloadN X6.here hx rfl (hb hby own_d_prog_86_m1_24) rfl zq) ?_
  obtain ⟨T7, h7, k7, X7, e7, E7, A7, st7⟩ := newP X6 hx hZ (hw _ (List.mem_of_getElem? (i := 0) rfl)) e6 (g := (mkF m 25 #[.val (.ref k), .val (.int sf), .val (.int (3 : Int32))] [(.int (3 : Int32)), (.ref k)])) rfl (hb hby own_d_prog_86_m1_25) rfl (by decide) (cap := 3) (by decide) (by decide) (by decide) (by decide)
  obtain ⟨b7, ga7⟩ : ∃ z, z = h6.size := ⟨_, rfl⟩
  rw [← ga7] at A7 st7
  have g_b7 : n0 ≤ b7 := Nat.le_trans Zs (Nat.le_of_eq ga7.symm)
  have sz_b7 : h0.size ≤ b7 := Nat.le_trans K0.1 (Nat.le_of_eq ga7.symm)
  have ne_k_b7 : k ≠ b7 := fun q => Nat.lt_irrefl _ (Nat.lt_of_lt_of_eq E_k.lt (ga7.symm.trans q.symm))
  have ne_b3_b7 : b3 ≠ b7 := fun q => Nat.lt_irrefl _ (Nat.lt_of_lt_of_eq EA3.lt (ga7.symm.trans q.symm))
  have ne_b5_b7 : b5 ≠ b7 := fun q => Nat.lt_irrefl _ (Nat.lt_of_lt_of_eq V_b5.lt (ga7.symm.trans q.symm))
  replace E_k := E_k.ext E7
  replace F_self := F_self.ext E7
  replace F_known := F_known.ext E7
  replace F_rose := F_rose.ext E7
  replace F_told := F_told.ext E7
  replace F_rises := F_rises.ext E7
  replace EA3 := EA3.ext E7
  replace V_b3 := V_b3.ext E7
  replace V_b5 := V_b5.ext E7
  replace Zs := Nat.le_trans Zs E7.1
  replace K0 := K0.ext E7
  have V_b7 : own_AV Z h7 b7 .long 3 (fun _ => .long (0 : Int64)) := own_AV.new A7 rfl
  refine own_st (g' := (mkF m 27 #[.val (.ref k), .val (.int sf), .val (.int (3 : Int32))] [(.ref b7), (.ref k)])) st7 ?_
  obtain ⟨T8, h8, X8, e8, W8, st8⟩ := putF X7 hx hZ hown (host := "") (Or.inl (hw _ (List.mem_of_getElem? (i := 16) rfl))) Via.refl e7 F_told E_k (Or.inr ⟨(hw _ (List.mem_of_getElem? (i := 17) rfl)), rfl, hnm⟩) (hw _ (List.mem_of_getElem? (i := 2) rfl)) (ty := (.array .long)) (by decide) rfl rfl (g := (mkF m 27 #[.val (.ref k), .val (.int sf), .val (.int (3 : Int32))] [(.ref b7), (.ref k)])) rfl rfl (hb hby own_d_prog_86_m1_27)
  replace E_k := E_k.wr W8
  replace F_self := F_self.other W8 (Or.inr (slot_ne (C := "com/example/coterie/coterie/runtime/KnownRequests") (Or.inr (hw _ (List.mem_of_getElem? (i := 11) rfl))) (Or.inr (hw _ (List.mem_of_getElem? (i := 17) rfl))) (by decide) (t := .int) (by decide) (t' := (.array .long)) (by decide)))
  replace F_known := F_known.other W8 (Or.inr (slot_ne (C := "com/example/coterie/coterie/runtime/KnownRequests") (Or.inr (hw _ (List.mem_of_getElem? (i := 13) rfl))) (Or.inr (hw _ (List.mem_of_getElem? (i := 17) rfl))) (by decide) (t := (.array .long)) (by decide) (t' := (.array .long)) (by decide)))
  replace F_rose := F_rose.other W8 (Or.inr (slot_ne (C := "com/example/coterie/coterie/runtime/KnownRequests") (Or.inr (hw _ (List.mem_of_getElem? (i := 15) rfl))) (Or.inr (hw _ (List.mem_of_getElem? (i := 17) rfl))) (by decide) (t := (.array .long)) (by decide) (t' := (.array .long)) (by decide)))
  replace F_told := F_told.same W8
  replace F_rises := F_rises.other W8 (Or.inr (slot_ne (C := "com/example/coterie/coterie/runtime/KnownRequests") (Or.inl (hw _ (List.mem_of_getElem? (i := 28) rfl))) (Or.inr (hw _ (List.mem_of_getElem? (i := 17) rfl))) (by decide) (t := .long) (by decide) (t' := (.array .long)) (by decide)))
  replace EA3 := EA3.wr W8
  replace V_b3 := V_b3.other W8 ne_k_b3.symm
  replace V_b5 := V_b5.other W8 ne_k_b5.symm
  replace V_b7 := V_b7.other W8 ne_k_b7.symm
  replace Zs := Nat.le_trans Zs (Keep.of_wr W8).1
  replace K0 := K0.wr W8 (Or.inl (List.mem_of_getElem? (i := 0) rfl))
  replace N := Fr.snoc X8 N g_k
  refine own_st (g' := (mkF m 30 #[.val (.ref k), .val (.int sf), .val (.int (3 : Int32))] [])) st8 ?_
  exact own_ret0 X8 hx hret hlk (hb hby own_d_prog_86_m1_30) e8 (Nat.le_of_ble_eq_true rfl) (Nat.le_of_ble_eq_true rfl) ⟨b3, b5, b7, rfl, N, K0, ⟨E_k, F_self, F_known, F_rose, F_told, F_rises, V_b3, V_b5, V_b7, EA3⟩, ne_k_b3, ne_k_b5, ne_k_b7, ne_b3_b5, ne_b3_b7, ne_b5_b7, g_b3, g_b5, g_b7, sz_b3, sz_b5, sz_b7⟩
def Q_rise (Z : State) (k : Addr) (aK : Addr) (aR : Addr) (aT : Addr) (sf : Int32) (K : Nat → Int64) (Rr : Nat → Int64) (Tt : Nat → Int64) (rs : Int64) (m_ : Int32) (mn : Nat) (v_ : Int64) (h0 : Heap) (n0 : Nat) (v : Option Value) (h : Heap) (L : List Loc) : Prop := v = none ∧ Fr n0 L ∧ (Keep h0 h [k, aK, aR, aT]) ∧ (own_KR Z h k aK aR aT sf (own_upd K mn v_) (own_upd Rr mn (rs + 1)) Tt (rs + 1))
theorem ef_rise (m : MethodId) (x0 : Addr) (x1 : Int32) (x2 : Int64)  : entryFrame m #[(.ref x0), (.int x1), (.long x2)] 4 = mkF m 0 #[.val (.ref x0), .val (.int x1), .val (.long x2), .second] [] := by first | (simp [entryFrame, mkF, argsToLocals, Value.category]; done) | rfl
set_option maxRecDepth 65536 in
set_option maxHeartbeats 40000000 in
theorem rm_rise (l : Launch) (Z : State) (a0 : Array Value) (hw : ∀ d ∈ tables_1, d.before a0 Z = true) (ws : List Jvm.Cond) (k : Addr) (aK : Addr) (aR : Addr) (aT : Addr) (sf : Int32) (K : Nat → Int64) (Rr : Nat → Int64) (Tt : Nat → Int64) (rs : Int64) (m_ : Int32) (mn : Nat) (v_ : Int64) (h0 : Heap) (n0 : Nat) (Zs : n0 ≤ h0.size) (BB : own_KR Z h0 k aK aR aT sf K Rr Tt rs) (hm : m_.toInt = (mn : Int)) (hlt : mn < 3) (n1 : k ≠ aK) (n2 : k ≠ aR) (n3 : k ≠ aT) (n4 : aK ≠ aR) (n5 : aK ≠ aT) (n6 : aR ≠ aT) (g_k : n0 ≤ k) (g_aK : n0 ≤ aK) (g_aR : n0 ≤ aR) (g_aT : n0 ≤ aT) :
    MetFree l (⟨"com/example/coterie/coterie/runtime/KnownRequests", "rise", "(IJ)V"⟩ : MethodName) (head1 (Jvm.Cond.code (⟨"com/example/coterie/coterie/runtime/KnownRequests", "rise", "(IJ)V"⟩ : MethodName) prog_86_method_6_code 4 none :: ws) ({ frames := 0, cells := 0, slots := 0, locals := 0 } : Room)) (fun a U => a = #[(.ref k), (.int m_), (.long v_)] ∧ Z.Warmed39 U.vm ∧ U.heap = h0) (fun _ _ _ _ _ => True) (fun _ U o U' => ∃ v L, o = .returned v ∧ (Q_rise Z k aK aR aT sf K Rr Tt rs m_ mn v_ h0 n0) v U'.heap L ∧ FrameEnd U o U' L ({ frames := 0, cells := 0, slots := 0, locals := 0 } : Room).cells ({ frames := 0, cells := 0, slots := 0, locals := 0 } : Room).slots) := by
  refine MetFree.of_bodySF (plainFor_of_name own_pn0) hisR ?_
  intro p e s m args below meth c s₁ Bd hml0 hP hK
  obtain ⟨rfl, hZ, hh⟩ := hP
  have hx := Bd.exec
  have hby := Bd.bytes
  have hlk := BodyLoose.notSynchronized Bd
  have hret := Bd.returns
  have hml : c.maxLocals = 4 := hml0
  have hown : s.vm.findClass "com/example/coterie/coterie/runtime/KnownRequests" = some m.cls := findClass_of_methodNamed Bd.named
  have hnm := (name_of_methodNamed Bd.named Bd.method).1
  have X : Stand p l e ({ frames := 0, cells := 0, slots := 0, locals := 0 } : Room) s m #[(.ref k), (.int m_), (.long v_)] below meth c s₁ [] 0 0 := Stand.of_body Bd
  have eT : s₁.heap = h0 := by rw [← hh, Bd.state]; rfl
  have N := Fr.nil n0
  have K0 : Keep h0 h0 [k, aK, aR, aT] := Keep.refl _ _
  show own_Go p e below s (Q_rise Z k aK aR aT sf K Rr Tt rs m_ mn v_ h0 n0) ({ frames := 0, cells := 0, slots := 0, locals := 0 } : Room).cells ({ frames := 0, cells := 0, slots := 0, locals := 0 } : Room).slots s₁ (entryFrame m #[(.ref k), (.int m_), (.long v_)] 4)
  rw [ef_rise m k m_ v_]
  obtain ⟨E_k, F_self, F_known, F_rose, F_told, F_rises, V_K, V_R, V_T, E_aK⟩ := BB
  refine own_st (T' := s₁) (g' := (mkF m 1 #[.val (.ref k), .val (.int m_), .val (.long v_), .second] [(.ref k)])) (fun _ zq => XS.aloadN X.here hx rfl (hb hby own_d_prog_86_m6_0) rfl rfl zq) ?_
  obtain ⟨T9, X9, e9, st9⟩ := getF X hx hZ hown (host := "") (Or.inl (hw _ (List.mem_of_getElem? (i := 12) rfl))) Via.refl eT F_known (g := (mkF m 1 #[.val (.ref k), .val (.int m_), .val (.long v_), .second] [(.ref k)])) rfl rfl (hb hby own_d_prog_86_m6_1)
  refine own_st (g' := (mkF m 4 #[.val (.ref k), .val (.int m_), .val (.long v_), .second] [(.ref aK)])) st9 ?_
  refine own_st (T' := T9) (g' := (mkF m 5 #[.val (.ref k), .val (.int m_), .val (.long v_), .second] [(.int m_), (.ref aK)])) (fun _ zq => XS.iloadN X9.here hx rfl (hb hby own_d_prog_86_m6_4) rfl zq) ?_
  refine own_st (T' := T9) (g' := (mkF m 6 #[.val (.ref k), .val (.int m_), .val (.long v_), .second] [(.long v_), (.int m_), (.ref aK)])) (fun _ zq => XS.lloadN X9.here hx rfl (hb hby own_d_prog_86_m6_5) rfl zq) ?_
  obtain ⟨T10, h10, X10, e10, W10, V10, st10⟩ := own_stJ X9 hx hZ e9 V_K (j := m_) (mn) hm hlt (g := (mkF m 6 #[.val (.ref k), .val (.int m_), .val (.long v_), .second] [(.long v_), (.int m_), (.ref aK)])) rfl rfl (hb hby own_d_prog_86_m6_6)
  replace E_k := E_k.wr W10
  replace F_self := F_self.other W10 (Or.inl n1)
  replace F_known := F_known.other W10 (Or.inl n1)
  replace F_rose := F_rose.other W10 (Or.inl n1)
  replace F_told := F_told.other W10 (Or.inl n1)
  replace F_rises := F_rises.other W10 (Or.inl n1)
  replace V_R := V_R.other W10 n4.symm
  replace V_T := V_T.other W10 n5.symm
  replace E_aK := E_aK.wr W10
  replace Zs := Nat.le_trans Zs (Keep.of_wr W10).1
  replace K0 := K0.wr W10 (Or.inl (List.mem_of_getElem? (i := 1) rfl))
  replace V_K : own_AV Z h10 aK .long 3 (fun i => .long ((own_upd K mn v_) i)) := V10.cong (own_updL _ _ _)
  replace N := Fr.snoc X10 N g_aK
  refine own_st (g' := (mkF m 7 #[.val (.ref k), .val (.int m_), .val (.long v_), .second] [])) st10 ?_
  refine own_st (T' := T10) (g' := (mkF m 8 #[.val (.ref k), .val (.int m_), .val (.long v_), .second] [(.ref k)])) (fun _ zq => XS.aloadN X10.here hx rfl (hb hby own_d_prog_86_m6_7) rfl rfl zq) ?_
  refine own_st (T' := T10) (g' := (mkF m 9 #[.val (.ref k), .val (.int m_), .val (.long v_), .second] [(.ref k), (.ref k)])) (fun _ zq => XS.dup X10.here hx rfl (hb hby own_d_prog_86_m6_8) rfl rfl zq) ?_
  obtain ⟨T11, X11, e11, st11⟩ := getF X10 hx hZ hown (host := "") (Or.inl (hw _ (List.mem_of_getElem? (i := 27) rfl))) Via.refl e10 F_rises (g := (mkF m 9 #[.val (.ref k), .val (.int m_), .val (.long v_), .second] [(.ref k), (.ref k)])) rfl rfl (hb hby own_d_prog_86_m6_9)
  refine own_st (g' := (mkF m 12 #[.val (.ref k), .val (.int m_), .val (.long v_), .second] [(.long rs), (.ref k)])) st11 ?_
  refine own_st (T' := T11) (g' := (mkF m 13 #[.val (.ref k), .val (.int m_), .val (.long v_), .second] [(.long (1 : Int64)), (.long rs), (.ref k)])) (fun _ zq => XS.lconst X11.here hx rfl (hb hby own_d_prog_86_m6_12) zq) ?_
  refine own_st (T' := T11) (g' := (mkF m 14 #[.val (.ref k), .val (.int m_), .val (.long v_), .second] [(.long (rs + (1 : Int64))), (.ref k)])) (fun _ zq => XS.ladd X11.here hx rfl (hb hby own_d_prog_86_m6_13) rfl zq) ?_
  obtain ⟨T12, h12, X12, e12, W12, st12⟩ := putF X11 hx hZ hown (host := "") (Or.inl (hw _ (List.mem_of_getElem? (i := 27) rfl))) Via.refl e11 F_rises E_k (Or.inl (hw _ (List.mem_of_getElem? (i := 28) rfl))) (hw _ (List.mem_of_getElem? (i := 2) rfl)) (ty := .long) (by decide) rfl rfl (g := (mkF m 14 #[.val (.ref k), .val (.int m_), .val (.long v_), .second] [(.long (rs + (1 : Int64))), (.ref k)])) rfl rfl (hb hby own_d_prog_86_m6_14)
  replace E_k := E_k.wr W12
  replace F_self := F_self.other W12 (Or.inr (slot_ne (C := "com/example/coterie/coterie/runtime/KnownRequests") (Or.inr (hw _ (List.mem_of_getElem? (i := 11) rfl))) (Or.inl (hw _ (List.mem_of_getElem? (i := 28) rfl))) (by decide) (t := .int) (by decide) (t' := .long) (by decide)))
  replace F_known := F_known.other W12 (Or.inr (slot_ne (C := "com/example/coterie/coterie/runtime/KnownRequests") (Or.inr (hw _ (List.mem_of_getElem? (i := 13) rfl))) (Or.inl (hw _ (List.mem_of_getElem? (i := 28) rfl))) (by decide) (t := (.array .long)) (by decide) (t' := .long) (by decide)))
  replace F_rose := F_rose.other W12 (Or.inr (slot_ne (C := "com/example/coterie/coterie/runtime/KnownRequests") (Or.inr (hw _ (List.mem_of_getElem? (i := 15) rfl))) (Or.inl (hw _ (List.mem_of_getElem? (i := 28) rfl))) (by decide) (t := (.array .long)) (by decide) (t' := .long) (by decide)))
  replace F_told := F_told.other W12 (Or.inr (slot_ne (C := "com/example/coterie/coterie/runtime/KnownRequests") (Or.inr (hw _ (List.mem_of_getElem? (i := 17) rfl))) (Or.inl (hw _ (List.mem_of_getElem? (i := 28) rfl))) (by decide) (t := (.array .long)) (by decide) (t' := .long) (by decide)))
  replace F_rises := F_rises.same W12
  replace V_K := V_K.other W12 n1.symm
  replace V_R := V_R.other W12 n2.symm
  replace V_T := V_T.other W12 n3.symm
  replace E_aK := E_aK.wr W12
  replace Zs := Nat.le_trans Zs (Keep.of_wr W12).1
  replace K0 := K0.wr W12 (Or.inl (List.mem_of_getElem? (i := 0) rfl))
  replace N := Fr.snoc X12 N g_k
  refine own_st (g' := (mkF m 17 #[.val (.ref k), .val (.int m_), .val (.long v_), .second] [])) st12 ?_
  refine own_st (T' := T12) (g' := (mkF m 18 #[.val (.ref k), .val (.int m_), .val (.long v_), .second] [(.ref k)])) (fun _ zq => XS.aloadN X12.here hx rfl (hb hby own_d_prog_86_m6_17) rfl rfl zq) ?_
  obtain ⟨T13, X13, e13, st13⟩ := getF X12 hx hZ hown (host := "") (Or.inl (hw _ (List.mem_of_getElem? (i := 14) rfl))) Via.refl e12 F_rose (g := (mkF m 18 #[.val (.ref k), .val (.int m_), .val (.long v_), .second] [(.ref k)])) rfl rfl (hb hby own_d_prog_86_m6_18)
  refine own_st (g' := (mkF m 21 #[.val (.ref k), .val (.int m_), .val (.long v_), .second] [(.ref aR)])) st13 ?_
  refine own_st (T' := T13) (g' := (mkF m 22 #[.val (.ref k), .val (.int m_), .val (.long v_), .second] [(.int m_), (.ref aR)])) (fun _ zq => XS.iloadN X13.here hx rfl (hb hby own_d_prog_86_m6_21) rfl zq) ?_
  refine own_st (T' := T13) (g' := (mkF m 23 #[.val (.ref k), .val (.int m_), .val (.long v_), .second] [(.ref k), (.int m_), (.ref aR)])) (fun _ zq => XS.aloadN X13.here hx rfl (hb hby own_d_prog_86_m6_22) rfl rfl zq) ?_
  obtain ⟨T14, X14, e14, st14⟩ := getF X13 hx hZ hown (host := "") (Or.inl (hw _ (List.mem_of_getElem? (i := 27) rfl))) Via.refl e13 F_rises (g := (mkF m 23 #[.val (.ref k), .val (.int m_), .val (.long v_), .second] [(.ref k), (.int m_), (.ref aR)])) rfl rfl (hb hby own_d_prog_86_m6_23)
  refine own_st (g' := (mkF m 26 #[.val (.ref k), .val (.int m_), .val (.long v_), .second] [(.long (rs + (1 : Int64))), (.int m_), (.ref aR)])) st14 ?_
  obtain ⟨T15, h15, X15, e15, W15, V15, st15⟩ := own_stJ X14 hx hZ e14 V_R (j := m_) (mn) hm hlt (g := (mkF m 26 #[.val (.ref k), .val (.int m_), .val (.long v_), .second] [(.long (rs + (1 : Int64))), (.int m_), (.ref aR)])) rfl rfl (hb hby own_d_prog_86_m6_26)
  replace E_k := E_k.wr W15
  replace F_self := F_self.other W15 (Or.inl n2)
  replace F_known := F_known.other W15 (Or.inl n2)
  replace F_rose := F_rose.other W15 (Or.inl n2)
  replace F_told := F_told.other W15 (Or.inl n2)
  replace F_rises := F_rises.other W15 (Or.inl n2)
  replace V_K := V_K.other W15 n4
  replace V_T := V_T.other W15 n6.symm
  replace E_aK := E_aK.wr W15
  replace Zs := Nat.le_trans Zs (Keep.of_wr W15).1
  replace K0 := K0.wr W15 (Or.inl (List.mem_of_getElem? (i := 2) rfl))
  replace V_R : own_AV Z h15 aR .long 3 (fun i => .long ((own_upd Rr mn (rs + (1 : Int64))) i)) := V15.cong (own_updL _ _ _)
  replace N := Fr.snoc X15 N g_aR
  refine own_st (g' := (mkF m 27 #[.val (.ref k), .val (.int m_), .val (.long v_), .second] [])) st15 ?_
  exact own_ret0 X15 hx hret hlk (hb hby own_d_prog_86_m6_27) e15 (Nat.le_of_ble_eq_true rfl) (Nat.le_of_ble_eq_true rfl) ⟨rfl, N, K0, ⟨E_k, F_self, F_known, F_rose, F_told, F_rises, V_K, V_R, V_T, E_aK⟩⟩
def Q_untold (Z : State) (k : Addr) (aK : Addr) (aR : Addr) (aT : Addr) (sf : Int32) (K : Nat → Int64) (Rr : Nat → Int64) (Tt : Nat → Int64) (rs : Int64) (m_ : Int32) (mn : Nat) (r_ : Int32) (rn : Nat) (h0 : Heap) (n0 : Nat) (v : Option Value) (h : Heap) (L : List Loc) : Prop := v = some (.int (if own_u Rr Tt rn mn = true then 1 else 0)) ∧ Fr n0 L ∧ (h = h0)
theorem ef_untold (m : MethodId) (x0 : Addr) (x1 : Int32) (x2 : Int32)  : entryFrame m #[(.ref x0), (.int x1), (.int x2)] 3 = mkF m 0 #[.val (.ref x0), .val (.int x1), .val (.int x2)] [] := by first | (simp [entryFrame, mkF, argsToLocals, Value.category]; done) | rfl
set_option maxRecDepth 65536 in
set_option maxHeartbeats 40000000 in
theorem rm_untold (l : Launch) (Z : State) (a0 : Array Value) (hw : ∀ d ∈ tables_1, d.before a0 Z = true) (ws : List Jvm.Cond) (k : Addr) (aK : Addr) (aR : Addr) (aT : Addr) (sf : Int32) (K : Nat → Int64) (Rr : Nat → Int64) (Tt : Nat → Int64) (rs : Int64) (m_ : Int32) (mn : Nat) (r_ : Int32) (rn : Nat) (h0 : Heap) (n0 : Nat) (Zs : n0 ≤ h0.size) (BB : own_KR Z h0 k aK aR aT sf K Rr Tt rs) (hm : m_.toInt = (mn : Int)) (hlt : mn < 3) (hr : r_.toInt = (rn : Int)) (hlr : rn < 3) :
    MetFree l (⟨"com/example/coterie/coterie/runtime/KnownRequests", "untold", "(II)Z"⟩ : MethodName) (head1 (Jvm.Cond.code (⟨"com/example/coterie/coterie/runtime/KnownRequests", "untold", "(II)Z"⟩ : MethodName) prog_86_method_5_code 3 (some .boolean) :: ws) ({ frames := 0, cells := 0, slots := 0, locals := 0 } : Room)) (fun a U => a = #[(.ref k), (.int m_), (.int r_)] ∧ Z.Warmed39 U.vm ∧ U.heap = h0) (fun _ _ _ _ _ => True) (fun _ U o U' => ∃ v L, o = .returned v ∧ (Q_untold Z k aK aR aT sf K Rr Tt rs m_ mn r_ rn h0 n0) v U'.heap L ∧ FrameEnd U o U' L ({ frames := 0, cells := 0, slots := 0, locals := 0 } : Room).cells ({ frames := 0, cells := 0, slots := 0, locals := 0 } : Room).slots) := by
  refine MetFree.of_bodySF (plainFor_of_name own_pn0) hisR ?_
  intro p e s m args below meth c s₁ Bd hml0 hP hK
  obtain ⟨rfl, hZ, hh⟩ := hP
  have hx := Bd.exec
  have hby := Bd.bytes
  have hlk := BodyLoose.notSynchronized Bd
  have hret := Bd.returns
  have hml : c.maxLocals = 3 := hml0
  have hown : s.vm.findClass "com/example/coterie/coterie/runtime/KnownRequests" = some m.cls := findClass_of_methodNamed Bd.named
  have hnm := (name_of_methodNamed Bd.named Bd.method).1
  have X : Stand p l e ({ frames := 0, cells := 0, slots := 0, locals := 0 } : Room) s m #[(.ref k), (.int m_), (.int r_)] below meth c s₁ [] 0 0 := Stand.of_body Bd
  have eT : s₁.heap = h0 := by rw [← hh, Bd.state]; rfl
  have N := Fr.nil n0
  have K0 : Keep h0 h0 [] := Keep.refl _ _
  show own_Go p e below s (Q_untold Z k aK aR aT sf K Rr Tt rs m_ mn r_ rn h0 n0) ({ frames := 0, cells := 0, slots := 0, locals := 0 } : Room).cells ({ frames := 0, cells := 0, slots := 0, locals := 0 } : Room).slots s₁ (entryFrame m #[(.ref k), (.int m_), (.int r_)] 3)
  rw [ef_untold m k m_ r_]
  obtain ⟨E_k, F_self, F_known, F_rose, F_told, F_rises, V_K, V_R, V_T, E_aK⟩ := BB
  refine own_st (T' := s₁) (g' := (mkF m 1 #[.val (.ref k), .val (.int m_), .val (.int r_)] [(.int m_)])) (fun _ zq => XS.iloadN X.here hx rfl (hb hby own_d_prog_86_m5_0) rfl zq) ?_
  refine own_st (T' := s₁) (g' := (mkF m 2 #[.val (.ref k), .val (.int m_), .val (.int r_)] [(.int r_), (.int m_)])) (fun _ zq => XS.iloadN X.here hx rfl (hb hby own_d_prog_86_m5_1) rfl zq) ?_
  by_cases hc : m_ = r_
  · skip
    refine own_st (T' := s₁) (g' := (mkF m 25 #[.val (.ref k), .val (.int m_), .val (.int r_)] [])) (fun _ zq => XS.icmpYes X.here hx rfl (pc0 := 2) (pc' := 25) rfl (hb hby own_d_prog_86_m5_2) rfl (teq hc).1 (by decide) (by decide) zq) ?_
    refine own_st (T' := s₁) (g' := (mkF m 26 #[.val (.ref k), .val (.int m_), .val (.int r_)] [(.int (0 : Int32))])) (fun _ zq => XS.iconst X.here hx rfl (hb hby own_d_prog_86_m5_25) zq) ?_
    exact own_ret X hx hret hlk (i := .ireturn) rfl (Or.inl ⟨rfl, by decide, _, rfl⟩) (hb hby own_d_prog_86_m5_26) eT (Nat.le_of_ble_eq_true rfl) (Nat.le_of_ble_eq_true rfl) ⟨by rw [if_neg (fun q => (of_decide_eq_true q).1 (by rw [hc, hr] at hm; omega))], N, rfl⟩
  · skip
    refine own_st (T' := s₁) (g' := (mkF m 5 #[.val (.ref k), .val (.int m_), .val (.int r_)] [])) (fun _ zq => XS.icmpNo X.here hx rfl (hb hby own_d_prog_86_m5_2) rfl (feq hc).1 zq) ?_
    refine own_st (T' := s₁) (g' := (mkF m 6 #[.val (.ref k), .val (.int m_), .val (.int r_)] [(.ref k)])) (fun _ zq => XS.aloadN X.here hx rfl (hb hby own_d_prog_86_m5_5) rfl rfl zq) ?_
    obtain ⟨T16, X16, e16, st16⟩ := getF X hx hZ hown (host := "") (Or.inl (hw _ (List.mem_of_getElem? (i := 14) rfl))) Via.refl eT F_rose (g := (mkF m 6 #[.val (.ref k), .val (.int m_), .val (.int r_)] [(.ref k)])) rfl rfl (hb hby own_d_prog_86_m5_6)
    refine own_st (g' := (mkF m 9 #[.val (.ref k), .val (.int m_), .val (.int r_)] [(.ref aR)])) st16 ?_
    refine own_st (T' := T16) (g' := (mkF m 10 #[.val (.ref k), .val (.int m_), .val (.int r_)] [(.int m_), (.ref aR)])) (fun _ zq => XS.iloadN X16.here hx rfl (hb hby own_d_prog_86_m5_9) rfl zq) ?_
    refine own_st (T' := T16) (g' := (mkF m 11 #[.val (.ref k), .val (.int m_), .val (.int r_)] [(.long (Rr mn))])) (own_ldJ X16 hx hZ e16 V_R (j := m_) (mn) hm hlt (w := (.long (Rr mn))) rfl (g := (mkF m 10 #[.val (.ref k), .val (.int m_), .val (.int r_)] [(.int m_), (.ref aR)])) rfl rfl (hb hby own_d_prog_86_m5_10)) ?_
    refine own_st (T' := T16) (g' := (mkF m 12 #[.val (.ref k), .val (.int m_), .val (.int r_)] [(.ref k), (.long (Rr mn))])) (fun _ zq => XS.aloadN X16.here hx rfl (hb hby own_d_prog_86_m5_11) rfl rfl zq) ?_
    obtain ⟨T17, X17, e17, st17⟩ := getF X16 hx hZ hown (host := "") (Or.inl (hw _ (List.mem_of_getElem? (i := 16) rfl))) Via.refl e16 F_told (g := (mkF m 12 #[.val (.ref k), .val (.int m_), .val (.int r_)] [(.ref k), (.long (Rr mn))])) rfl rfl (hb hby own_d_prog_86_m5_12)
    refine own_st (g' := (mkF m 15 #[.val (.ref k), .val (.int m_), .val (.int r_)] [(.ref aT), (.long (Rr mn))])) st17 ?_
    refine own_st (T' := T17) (g' := (mkF m 16 #[.val (.ref k), .val (.int m_), .val (.int r_)] [(.int r_), (.ref aT), (.long (Rr mn))])) (fun _ zq => XS.iloadN X17.here hx rfl (hb hby own_d_prog_86_m5_15) rfl zq) ?_
    refine own_st (T' := T17) (g' := (mkF m 17 #[.val (.ref k), .val (.int m_), .val (.int r_)] [(.long (Tt rn)), (.long (Rr mn))])) (own_ldJ X17 hx hZ e17 V_T (j := r_) (rn) hr hlr (w := (.long (Tt rn))) rfl (g := (mkF m 16 #[.val (.ref k), .val (.int m_), .val (.int r_)] [(.int r_), (.ref aT), (.long (Rr mn))])) rfl rfl (hb hby own_d_prog_86_m5_16)) ?_
    refine own_st (T' := T17) (g' := (mkF m 18 #[.val (.ref k), .val (.int m_), .val (.int r_)] [(.int (lcmpW (Rr mn) (Tt rn)))])) (fun _ zq => XS.lcmp X17.here hx rfl (hb hby own_d_prog_86_m5_17) rfl zq) ?_
    by_cases hd : (Tt rn) < (Rr mn)
    · skip
      refine own_st (T' := T17) (g' := (mkF m 21 #[.val (.ref k), .val (.int m_), .val (.int r_)] [])) (fun _ zq => XS.ifNo X17.here hx rfl (hb hby own_d_prog_86_m5_18) rfl (own_ltlt hd).2.2.2 zq) ?_
      refine own_st (T' := T17) (g' := (mkF m 22 #[.val (.ref k), .val (.int m_), .val (.int r_)] [(.int (1 : Int32))])) (fun _ zq => XS.iconst X17.here hx rfl (hb hby own_d_prog_86_m5_21) zq) ?_
      refine own_st (T' := T17) (g' := (mkF m 26 #[.val (.ref k), .val (.int m_), .val (.int r_)] [(.int (1 : Int32))])) (fun _ zq => XS.goto X17.here hx rfl (pc0 := 22) (pc' := 26) rfl (hb hby own_d_prog_86_m5_22) (by decide) (by decide) zq) ?_
      exact own_ret X17 hx hret hlk (i := .ireturn) rfl (Or.inl ⟨rfl, by decide, _, rfl⟩) (hb hby own_d_prog_86_m5_26) e17 (Nat.le_of_ble_eq_true rfl) (Nat.le_of_ble_eq_true rfl) ⟨by rw [if_pos (decide_eq_true ⟨fun q => hc (Int32.toInt_inj.mp (by rw [hm, hr, q])), hd⟩)], N, rfl⟩
    · skip
      refine own_st (T' := T17) (g' := (mkF m 25 #[.val (.ref k), .val (.int m_), .val (.int r_)] [])) (fun _ zq => XS.ifYes X17.here hx rfl (pc0 := 18) (pc' := 25) rfl (hb hby own_d_prog_86_m5_18) rfl (own_lflt hd).2.2.2 (by decide) (by decide) zq) ?_
      refine own_st (T' := T17) (g' := (mkF m 26 #[.val (.ref k), .val (.int m_), .val (.int r_)] [(.int (0 : Int32))])) (fun _ zq => XS.iconst X17.here hx rfl (hb hby own_d_prog_86_m5_25) zq) ?_
      exact own_ret X17 hx hret hlk (i := .ireturn) rfl (Or.inl ⟨rfl, by decide, _, rfl⟩) (hb hby own_d_prog_86_m5_26) e17 (Nat.le_of_ble_eq_true rfl) (Nat.le_of_ble_eq_true rfl) ⟨by rw [if_neg (fun q => hd (of_decide_eq_true q).2)], N, rfl⟩
def Q_learn0 (Z : State) (k : Addr) (aK : Addr) (aR : Addr) (aT : Addr) (sf : Int32) (K : Nat → Int64) (Rr : Nat → Int64) (Tt : Nat → Int64) (rs : Int64) (am : Addr) (fm : Nat → Value) (h0 : Heap) (n0 : Nat) (v : Option Value) (h : Heap) (L : List Loc) : Prop := v = none ∧ Fr n0 L ∧ (Keep h0 h [k, aK, aR, aT]) ∧ (own_KR Z h k aK aR aT sf K Rr Tt rs)
theorem ef_learn0 (m : MethodId) (x0 : Addr) (x1 : Addr)  : entryFrame m #[(.ref x0), (.ref x1)] 4 = mkF m 0 #[.val (.ref x0), .val (.ref x1), .unset, .unset] [] := by first | (simp [entryFrame, mkF, argsToLocals, Value.category]; done) | rfl
set_option maxRecDepth 65536 in
set_option maxHeartbeats 40000000 in
theorem rm_learn0 (l : Launch) (Z : State) (a0 : Array Value) (hw : ∀ d ∈ tables_1, d.before a0 Z = true) (ws : List Jvm.Cond) (k : Addr) (aK : Addr) (aR : Addr) (aT : Addr) (sf : Int32) (K : Nat → Int64) (Rr : Nat → Int64) (Tt : Nat → Int64) (rs : Int64) (am : Addr) (fm : Nat → Value) (h0 : Heap) (n0 : Nat) (Zs : n0 ≤ h0.size) (BB : own_KR Z h0 k aK aR aT sf K Rr Tt rs) (V_m : own_AV Z h0 am .long 0 fm) (n1 : k ≠ aK) (n2 : k ≠ aR) (n3 : k ≠ aT) (n4 : aK ≠ aR) (n5 : aK ≠ aT) (n6 : aR ≠ aT) (g_k : n0 ≤ k) (g_aK : n0 ≤ aK) (g_aR : n0 ≤ aR) (g_aT : n0 ≤ aT) (q1 : am ≠ k) (q2 : am ≠ aK) (q3 : am ≠ aR) (q4 : am ≠ aT) :
    MetFree l (⟨"com/example/coterie/coterie/runtime/KnownRequests", "learn", "([J)V"⟩ : MethodName) (head1 (Jvm.Cond.code (⟨"com/example/coterie/coterie/runtime/KnownRequests", "learn", "([J)V"⟩ : MethodName) prog_86_method_4_code 4 none :: ws) ({ frames := 1, cells := 0, slots := 0, locals := 24 } : Room)) (fun a U => a = #[(.ref k), (.ref am)] ∧ Z.Warmed39 U.vm ∧ U.heap = h0) (fun _ _ _ _ _ => True) (fun _ U o U' => ∃ v L, o = .returned v ∧ (Q_learn0 Z k aK aR aT sf K Rr Tt rs am fm h0 n0) v U'.heap L ∧ FrameEnd U o U' L ({ frames := 1, cells := 0, slots := 0, locals := 24 } : Room).cells ({ frames := 1, cells := 0, slots := 0, locals := 24 } : Room).slots) := by
  refine MetFree.of_bodySF (plainFor_of_name own_pn0) hisR ?_
  intro p e s m args below meth c s₁ Bd hml0 hP hK
  obtain ⟨rfl, hZ, hh⟩ := hP
  have hx := Bd.exec
  have hby := Bd.bytes
  have hlk := BodyLoose.notSynchronized Bd
  have hret := Bd.returns
  have hml : c.maxLocals = 4 := hml0
  have hown : s.vm.findClass "com/example/coterie/coterie/runtime/KnownRequests" = some m.cls := findClass_of_methodNamed Bd.named
  have hnm := (name_of_methodNamed Bd.named Bd.method).1
  have X : Stand p l e ({ frames := 1, cells := 0, slots := 0, locals := 24 } : Room) s m #[(.ref k), (.ref am)] below meth c s₁ [] 0 0 := Stand.of_body Bd
  have eT : s₁.heap = h0 := by rw [← hh, Bd.state]; rfl
  have N := Fr.nil n0
  have K0 : Keep h0 h0 [k, aK, aR, aT] := Keep.refl _ _
  show own_Go p e below s (Q_learn0 Z k aK aR aT sf K Rr Tt rs am fm h0 n0) ({ frames := 1, cells := 0, slots := 0, locals := 24 } : Room).cells ({ frames := 1, cells := 0, slots := 0, locals := 24 } : Room).slots s₁ (entryFrame m #[(.ref k), (.ref am)] 4)
  rw [ef_learn0 m k am]
  obtain ⟨E_k, F_self, F_known, F_rose, F_told, F_rises, V_K, V_R, V_T, E_aK⟩ := BB
  refine own_st (T' := s₁) (g' := (mkF m 1 #[.val (.ref k), .val (.ref am), .unset, .unset] [(.int (0 : Int32))])) (fun _ zq => XS.iconst X.here hx rfl (hb hby own_d_prog_86_m4_0) zq) ?_
  refine own_st (T' := s₁) (g' := (mkF m 2 #[.val (.ref k), .val (.ref am), .val (.int (0 : Int32)), .unset] [])) (fun _ zq => XS.istoreN X.here hx rfl (hb hby own_d_prog_86_m4_1) rfl (l' := #[.val (.ref k), .val (.ref am), .val (.int (0 : Int32)), .unset]) rfl zq) ?_
  refine own_st (T' := s₁) (g' := (mkF m 3 #[.val (.ref k), .val (.ref am), .val (.int (0 : Int32)), .unset] [(.int (0 : Int32))])) (fun _ zq => XS.iloadN X.here hx rfl (hb hby own_d_prog_86_m4_2) rfl zq) ?_
  refine own_st (T' := s₁) (g' := (mkF m 4 #[.val (.ref k), .val (.ref am), .val (.int (0 : Int32)), .unset] [(.ref am), (.int (0 : Int32))])) (fun _ zq => XS.aloadN X.here hx rfl (hb hby own_d_prog_86_m4_3) rfl rfl zq) ?_
  refine own_st (T' := s₁) (g' := (mkF m 5 #[.val (.ref k), .val (.ref am), .val (.int (0 : Int32)), .unset] [(.int (0 : Int32)), (.int (0 : Int32))])) (own_len (z := (0 : Int32)) X hx hZ eT V_m rfl (g := (mkF m 4 #[.val (.ref k), .val (.ref am), .val (.int (0 : Int32)), .unset] [(.ref am), (.int (0 : Int32))])) rfl rfl (hb hby own_d_prog_86_m4_4)) ?_
  refine own_st (T' := s₁) (g' := (mkF m 44 #[.val (.ref k), .val (.ref am), .val (.int (0 : Int32)), .unset] [])) (fun _ zq => XS.icmpYes X.here hx rfl (pc0 := 5) (pc' := 44) rfl (hb hby own_d_prog_86_m4_5) rfl (flt (by decide)).2.1 (by decide) (by decide) zq) ?_
  exact own_ret0 X hx hret hlk (hb hby own_d_prog_86_m4_44) eT (Nat.le_of_ble_eq_true rfl) (Nat.le_of_ble_eq_true rfl) ⟨rfl, N, K0, ⟨E_k, F_self, F_known, F_rose, F_told, F_rises, V_K, V_R, V_T, E_aK⟩⟩
def Q_learn2 (Z : State) (k : Addr) (aK : Addr) (aR : Addr) (aT : Addr) (sf : Int32) (K : Nat → Int64) (Rr : Nat → Int64) (Tt : Nat → Int64) (rs : Int64) (am : Addr) (fm : Nat → Value) (m0 : Int32) (mn0 : Nat) (v0 : Int64) (h0 : Heap) (n0 : Nat) (v : Option Value) (h : Heap) (L : List Loc) : Prop := v = none ∧ Fr n0 L ∧ (Keep h0 h [k, aK, aR, aT]) ∧ (own_KR Z h k aK aR aT sf (if K mn0 < v0 then (own_upd K mn0 v0) else K) (if K mn0 < v0 then (own_upd Rr mn0 (rs + 1)) else Rr) Tt (if K mn0 < v0 then rs + 1 else rs))
theorem ef_learn2 (m : MethodId) (x0 : Addr) (x1 : Addr)  : entryFrame m #[(.ref x0), (.ref x1)] 4 = mkF m 0 #[.val (.ref x0), .val (.ref x1), .unset, .unset] [] := by first | (simp [entryFrame, mkF, argsToLocals, Value.category]; done) | rfl
set_option maxRecDepth 65536 in
set_option maxHeartbeats 40000000 in
theorem rm_learn2 (l : Launch) (Z : State) (a0 : Array Value) (hw : ∀ d ∈ tables_1, d.before a0 Z = true) (ws : List Jvm.Cond) (k : Addr) (aK : Addr) (aR : Addr) (aT : Addr) (sf : Int32) (K : Nat → Int64) (Rr : Nat → Int64) (Tt : Nat → Int64) (rs : Int64) (am : Addr) (fm : Nat → Value) (m0 : Int32) (mn0 : Nat) (v0 : Int64) (h0 : Heap) (n0 : Nat) (Zs : n0 ≤ h0.size) (BB : own_KR Z h0 k aK aR aT sf K Rr Tt rs) (V_m : own_AV Z h0 am .long 2 fm) (hm0 : m0.toInt = (mn0 : Int)) (hl0 : mn0 < 3) (ha0 : fm 0 = .long m0.toInt64) (hb0 : fm 1 = .long v0) (n1 : k ≠ aK) (n2 : k ≠ aR) (n3 : k ≠ aT) (n4 : aK ≠ aR) (n5 : aK ≠ aT) (n6 : aR ≠ aT) (g_k : n0 ≤ k) (g_aK : n0 ≤ aK) (g_aR : n0 ≤ aR) (g_aT : n0 ≤ aT) (q1 : am ≠ k) (q2 : am ≠ aK) (q3 : am ≠ aR) (q4 : am ≠ aT) :
    MetFree l (⟨"com/example/coterie/coterie/runtime/KnownRequests", "learn", "([J)V"⟩ : MethodName) (head1 (Jvm.Cond.code (⟨"com/example/coterie/coterie/runtime/KnownRequests", "learn", "([J)V"⟩ : MethodName) prog_86_method_4_code 4 none :: ws) ({ frames := 1, cells := 0, slots := 0, locals := 24 } : Room)) (fun a U => a = #[(.ref k), (.ref am)] ∧ Z.Warmed39 U.vm ∧ U.heap = h0) (fun _ _ _ _ _ => True) (fun _ U o U' => ∃ v L, o = .returned v ∧ (Q_learn2 Z k aK aR aT sf K Rr Tt rs am fm m0 mn0 v0 h0 n0) v U'.heap L ∧ FrameEnd U o U' L ({ frames := 1, cells := 0, slots := 0, locals := 24 } : Room).cells ({ frames := 1, cells := 0, slots := 0, locals := 24 } : Room).slots) := by
  refine MetFree.of_bodySF (plainFor_of_name own_pn0) hisR ?_
  intro p e s m args below meth c s₁ Bd hml0 hP hK
  obtain ⟨rfl, hZ, hh⟩ := hP
  have hx := Bd.exec
  have hby := Bd.bytes
  have hlk := BodyLoose.notSynchronized Bd
  have hret := Bd.returns
  have hml : c.maxLocals = 4 := hml0
  have hown : s.vm.findClass "com/example/coterie/coterie/runtime/KnownRequests" = some m.cls := findClass_of_methodNamed Bd.named
  have hnm := (name_of_methodNamed Bd.named Bd.method).1
  have X : Stand p l e ({ frames := 1, cells := 0, slots := 0, locals := 24 } : Room) s m #[(.ref k), (.ref am)] below meth c s₁ [] 0 0 := Stand.of_body Bd
  have eT : s₁.heap = h0 := by rw [← hh, Bd.state]; rfl
  have N := Fr.nil n0
  have K0 : Keep h0 h0 [k, aK, aR, aT] := Keep.refl _ _
  show own_Go p e below s (Q_learn2 Z k aK aR aT sf K Rr Tt rs am fm m0 mn0 v0 h0 n0) ({ frames := 1, cells := 0, slots := 0, locals := 24 } : Room).cells ({ frames := 1, cells := 0, slots := 0, locals := 24 } : Room).slots s₁ (entryFrame m #[(.ref k), (.ref am)] 4)
  rw [ef_learn2 m k am]
  obtain ⟨E_k, F_self, F_known, F_rose, F_told, F_rises, V_K, V_R, V_T, E_aK⟩ := BB
  refine own_st (T' := s₁) (g' := (mkF m 1 #[.val (.ref k), .val (.ref am), .unset, .unset] [(.int (0 : Int32))])) (fun _ zq => XS.iconst X.here hx rfl (hb hby own_d_prog_86_m4_0) zq) ?_
  refine own_st (T' := s₁) (g' := (mkF m 2 #[.val (.ref k), .val (.ref am), .val (.int (0 : Int32)), .unset] [])) (fun _ zq => XS.istoreN X.here hx rfl (hb hby own_d_prog_86_m4_1) rfl (l' := #[.val (.ref k), .val (.ref am), .val (.int (0 : Int32)), .unset]) rfl zq) ?_
  refine own_st (T' := s₁) (g' := (mkF m 3 #[.val (.ref k), .val (.ref am), .val (.int (0 : Int32)), .unset] [(.int (0 : Int32))])) (fun _ zq => XS.iloadN X.here hx rfl (hb hby own_d_prog_86_m4_2) rfl zq) ?_
  refine own_st (T' := s₁) (g' := (mkF m 4 #[.val (.ref k), .val (.ref am), .val (.int (0 : Int32)), .unset] [(.ref am), (.int (0 : Int32))])) (fun _ zq => XS.aloadN X.here hx rfl (hb hby own_d_prog_86_m4_3) rfl rfl zq) ?_
  refine own_st (T' := s₁) (g' := (mkF m 5 #[.val (.ref k), .val (.ref am), .val (.int (0 : Int32)), .unset] [(.int (2 : Int32)), (.int (0 : Int32))])) (own_len (z := (2 : Int32)) X hx hZ eT V_m rfl (g := (mkF m 4 #[.val (.ref k), .val (.ref am), .val (.int (0 : Int32)), .unset] [(.ref am), (.int (0 : Int32))])) rfl rfl (hb hby own_d_prog_86_m4_4)) ?_
  refine own_st (T' := s₁) (g' := (mkF m 8 #[.val (.ref k), .val (.ref am), .val (.int (0 : Int32)), .unset] [])) (fun _ zq => XS.icmpNo X.here hx rfl (hb hby own_d_prog_86_m4_5) rfl (tlt (by decide)).2.1 zq) ?_
  refine own_st (T' := s₁) (g' := (mkF m 9 #[.val (.ref k), .val (.ref am), .val (.int (0 : Int32)), .unset] [(.ref am)])) (fun _ zq => XS.aloadN X.here hx rfl (hb hby own_d_prog_86_m4_8) rfl rfl zq) ?_
  refine own_st (T' := s₁) (g' := (mkF m 10 #[.val (.ref k), .val (.ref am), .val (.int (0 : Int32)), .unset] [(.int (0 : Int32)), (.ref am)])) (fun _ zq => XS.iloadN X.here hx rfl (hb hby own_d_prog_86_m4_9) rfl zq) ?_
  refine own_st (T' := s₁) (g' := (mkF m 11 #[.val (.ref k), .val (.ref am), .val (.int (0 : Int32)), .unset] [(.long m0.toInt64)])) (own_ldJ X hx hZ eT V_m (j := (0 : Int32)) (0) rfl (by decide) (w := (.long m0.toInt64)) ha0 (g := (mkF m 10 #[.val (.ref k), .val (.ref am), .val (.int (0 : Int32)), .unset] [(.int (0 : Int32)), (.ref am)])) rfl rfl (hb hby own_d_prog_86_m4_10)) ?_
  refine own_st (T' := s₁) (g' := (mkF m 12 #[.val (.ref k), .val (.ref am), .val (.int (0 : Int32)), .unset] [(.int (m0.toInt64.toInt32))])) (fun _ zq => XS.l2i X.here hx rfl (hb hby own_d_prog_86_m4_11) rfl zq) ?_
  refine own_nm (f := fun z_ => (mkF m 12 #[.val (.ref k), .val (.ref am), .val (.int (0 : Int32)), .unset] [(.int z_)])) (m0.toInt64.toInt32) (fun j0 hj0 => ?_)
  show own_Go p e below s (Q_learn2 Z k aK aR aT sf K Rr Tt rs am fm m0 mn0 v0 h0 n0) ({ frames := 1, cells := 0, slots := 0, locals := 24 } : Room).cells ({ frames := 1, cells := 0, slots := 0, locals := 24 } : Room).slots s₁ (mkF m 12 #[.val (.ref k), .val (.ref am), .val (.int (0 : Int32)), .unset] [(.int j0)])
  have hi0 : j0.toInt = (mn0 : Int) := by rw [hj0]; exact own_i3 hm0
  refine own_st (T' := s₁) (g' := (mkF m 13 #[.val (.ref k), .val (.ref am), .val (.int (0 : Int32)), .val (.int j0)] [])) (fun _ zq => XS.istoreN X.here hx rfl (hb hby own_d_prog_86_m4_12) rfl (l' := #[.val (.ref k), .val (.ref am), .val (.int (0 : Int32)), .val (.int j0)]) rfl zq) ?_
  refine own_st (T' := s₁) (g' := (mkF m 14 #[.val (.ref k), .val (.ref am), .val (.int (0 : Int32)), .val (.int j0)] [(.ref am)])) (fun _ zq => XS.aloadN X.here hx rfl (hb hby own_d_prog_86_m4_13) rfl rfl zq) ?_
  refine own_st (T' := s₁) (g' := (mkF m 15 #[.val (.ref k), .val (.ref am), .val (.int (0 : Int32)), .val (.int j0)] [(.int (0 : Int32)), (.ref am)])) (fun _ zq => XS.iloadN X.here hx rfl (hb hby own_d_prog_86_m4_14) rfl zq) ?_
  refine own_st (T' := s₁) (g' := (mkF m 16 #[.val (.ref k), .val (.ref am), .val (.int (0 : Int32)), .val (.int j0)] [(.int (1 : Int32)), (.int (0 : Int32)), (.ref am)])) (fun _ zq => XS.iconst X.here hx rfl (hb hby own_d_prog_86_m4_15) zq) ?_
  refine own_st (T' := s₁) (g' := (mkF m 17 #[.val (.ref k), .val (.ref am), .val (.int (0 : Int32)), .val (.int j0)] [(.int ((0 : Int32) + (1 : Int32))), (.ref am)])) (fun _ zq => XS.iadd X.here hx rfl (hb hby own_d_prog_86_m4_16) rfl zq) ?_
  refine own_st (T' := s₁) (g' := (mkF m 18 #[.val (.ref k), .val (.ref am), .val (.int (0 : Int32)), .val (.int j0)] [(.long v0)])) (own_ldJ X hx hZ eT V_m (j := ((0 : Int32) + (1 : Int32))) (1) rfl (by decide) (w := (.long v0)) hb0 (g := (mkF m 17 #[.val (.ref k), .val (.ref am), .val (.int (0 : Int32)), .val (.int j0)] [(.int ((0 : Int32) + (1 : Int32))), (.ref am)])) rfl rfl (hb hby own_d_prog_86_m4_17)) ?_
  refine own_st (T' := s₁) (g' := (mkF m 19 #[.val (.ref k), .val (.ref am), .val (.int (0 : Int32)), .val (.int j0)] [(.ref k), (.long v0)])) (fun _ zq => XS.aloadN X.here hx rfl (hb hby own_d_prog_86_m4_18) rfl rfl zq) ?_
  obtain ⟨T18, X18, e18, st18⟩ := getF X hx hZ hown (host := "") (Or.inl (hw _ (List.mem_of_getElem? (i := 12) rfl))) Via.refl eT F_known (g := (mkF m 19 #[.val (.ref k), .val (.ref am), .val (.int (0 : Int32)), .val (.int j0)] [(.ref k), (.long v0)])) rfl rfl (hb hby own_d_prog_86_m4_19)
  refine own_st (g' := (mkF m 22 #[.val (.ref k), .val (.ref am), .val (.int (0 : Int32)), .val (.int j0)] [(.ref aK), (.long v0)])) st18 ?_
  refine own_st (T' := T18) (g' := (mkF m 23 #[.val (.ref k), .val (.ref am), .val (.int (0 : Int32)), .val (.int j0)] [(.int j0), (.ref aK), (.long v0)])) (fun _ zq => XS.iloadN X18.here hx rfl (hb hby own_d_prog_86_m4_22) rfl zq) ?_
  refine own_st (T' := T18) (g' := (mkF m 24 #[.val (.ref k), .val (.ref am), .val (.int (0 : Int32)), .val (.int j0)] [(.long (K mn0)), (.long v0)])) (own_ldJ X18 hx hZ e18 V_K (j := j0) (mn0) hi0 hl0 (w := (.long (K mn0))) rfl (g := (mkF m 23 #[.val (.ref k), .val (.ref am), .val (.int (0 : Int32)), .val (.int j0)] [(.int j0), (.ref aK), (.long v0)])) rfl rfl (hb hby own_d_prog_86_m4_23)) ?_
  refine own_st (T' := T18) (g' := (mkF m 25 #[.val (.ref k), .val (.ref am), .val (.int (0 : Int32)), .val (.int j0)] [(.int (lcmpW v0 (K mn0)))])) (fun _ zq => XS.lcmp X18.here hx rfl (hb hby own_d_prog_86_m4_24) rfl zq) ?_
  suffices J38_0 : ∀ (T19 : State) (lo19 : List Loc) (h19 : Heap) (X19 : Stand p l e ({ frames := 1, cells := 0, slots := 0, locals := 24 } : Room) s m #[(.ref k), (.ref am)] below meth c T19 lo19 0 0) (e19 : T19.heap = h19) (N19 : Fr n0 lo19) (Z19 : n0 ≤ h19.size) (K19 : Keep h0 h19 [k, aK, aR, aT]) (K1 : Nat → Int64) (R1 : Nat → Int64) (rs1 : Int64) (E_k : Exa Z h19 k "com/example/coterie/coterie/runtime/KnownRequests") (F_self : Fld Z h19 k "com/example/coterie/coterie/runtime/KnownRequests" "self" "I" (.int sf)) (F_known : Fld Z h19 k "com/example/coterie/coterie/runtime/KnownRequests" "known" "[J" (.ref aK)) (F_rose : Fld Z h19 k "com/example/coterie/coterie/runtime/KnownRequests" "roseAt" "[J" (.ref aR)) (F_told : Fld Z h19 k "com/example/coterie/coterie/runtime/KnownRequests" "told" "[J" (.ref aT)) (F_rises : Fld Z h19 k "com/example/coterie/coterie/runtime/KnownRequests" "rises" "J" (.long rs1)) (V_K : own_AV Z h19 aK .long 3 (fun i => .long (K1 i))) (V_R : own_AV Z h19 aR .long 3 (fun i => .long (R1 i))) (V_T : own_AV Z h19 aT .long 3 (fun i => .long (Tt i))) (E_aK : Exa Z h19 aK "[J") (V_m : own_AV Z h19 am .long 2 fm) (hK1 : K1 = if K mn0 < v0 then (own_upd K mn0 v0) else K) (hR1 : R1 = if K mn0 < v0 then (own_upd Rr mn0 (rs + 1)) else Rr) (hs1 : rs1 = if K mn0 < v0 then rs + 1 else rs), own_Go p e below s (Q_learn2 Z k aK aR aT sf K Rr Tt rs am fm m0 mn0 v0 h0 n0) ({ frames := 1, cells := 0, slots := 0, locals := 24 } : Room).cells ({ frames := 1, cells := 0, slots := 0, locals := 24 } : Room).slots T19 (mkF m 38 #[.val (.ref k), .val (.ref am), .val (.int (0 : Int32)), .val (.int j0)] []) by
    by_cases hc : (K mn0) < v0
    · skip
      refine own_st (T' := T18) (g' := (mkF m 28 #[.val (.ref k), .val (.ref am), .val (.int (0 : Int32)), .val (.int j0)] [])) (fun _ zq => XS.ifNo X18.here hx rfl (hb hby own_d_prog_86_m4_25) rfl (own_ltlt hc).2.2.2 zq) ?_
      refine own_st (T' := T18) (g' := (mkF m 29 #[.val (.ref k), .val (.ref am), .val (.int (0 : Int32)), .val (.int j0)] [(.ref k)])) (fun _ zq => XS.aloadN X18.here hx rfl (hb hby own_d_prog_86_m4_28) rfl rfl zq) ?_
      refine own_st (T' := T18) (g' := (mkF m 30 #[.val (.ref k), .val (.ref am), .val (.int (0 : Int32)), .val (.int j0)] [(.int j0), (.ref k)])) (fun _ zq => XS.iloadN X18.here hx rfl (hb hby own_d_prog_86_m4_29) rfl zq) ?_
      refine own_st (T' := T18) (g' := (mkF m 31 #[.val (.ref k), .val (.ref am), .val (.int (0 : Int32)), .val (.int j0)] [(.ref am), (.int j0), (.ref k)])) (fun _ zq => XS.aloadN X18.here hx rfl (hb hby own_d_prog_86_m4_30) rfl rfl zq) ?_
      refine own_st (T' := T18) (g' := (mkF m 32 #[.val (.ref k), .val (.ref am), .val (.int (0 : Int32)), .val (.int j0)] [(.int (0 : Int32)), (.ref am), (.int j0), (.ref k)])) (fun _ zq => XS.iloadN X18.here hx rfl (hb hby own_d_prog_86_m4_31) rfl zq) ?_
      refine own_st (T' := T18) (g' := (mkF m 33 #[.val (.ref k), .val (.ref am), .val (.int (0 : Int32)), .val (.int j0)] [(.int (1 : Int32)), (.int (0 : Int32)), (.ref am), (.int j0), (.ref k)])) (fun _ zq => XS.iconst X18.here hx rfl (hb hby own_d_prog_86_m4_32) zq) ?_
      refine own_st (T' := T18) (g' := (mkF m 34 #[.val (.ref k), .val (.ref am), .val (.int (0 : Int32)), .val (.int j0)] [(.int ((0 : Int32) + (1 : Int32))), (.ref am), (.int j0), (.ref k)])) (fun _ zq => XS.iadd X18.here hx rfl (hb hby own_d_prog_86_m4_33) rfl zq) ?_
      refine own_st (T' := T18) (g' := (mkF m 35 #[.val (.ref k), .val (.ref am), .val (.int (0 : Int32)), .val (.int j0)] [(.long v0), (.int j0), (.ref k)])) (own_ldJ X18 hx hZ e18 V_m (j := ((0 : Int32) + (1 : Int32))) (1) rfl (by decide) (w := (.long v0)) hb0 (g := (mkF m 34 #[.val (.ref k), .val (.ref am), .val (.int (0 : Int32)), .val (.int j0)] [(.int ((0 : Int32) + (1 : Int32))), (.ref am), (.int j0), (.ref k)])) rfl rfl (hb hby own_d_prog_86_m4_34)) ?_
      have BB : own_KR Z h0 k aK aR aT sf K Rr Tt rs := ⟨E_k, F_self, F_known, F_rose, F_told, F_rises, V_K, V_R, V_T, E_aK⟩
      obtain ⟨cq20, q20, q20'⟩ := BB.1.cell
      obtain ⟨_, _, ⟨T20, L20, k20, n20⟩, -, X20, ⟨Lc20, hQ20, l20, y20, z20⟩, st20⟩ := X18.privateBack hx (y := (⟨"com/example/coterie/coterie/runtime/KnownRequests", "rise", "(IJ)V"⟩ : MethodName)) hown (mvT hZ (hw _ (List.mem_of_getElem? (i := 23) rfl))) (mvT hZ (hw _ (List.mem_of_getElem? (i := 24) rfl))) (own_selP hZ (hw _ (List.mem_of_getElem? (i := 2) rfl)) (hw _ (List.mem_of_getElem? (i := 25) rfl)) (hw _ (List.mem_of_getElem? (i := 24) rfl)) (by decide)) (Cond.privateMethod_at (mvP hZ (hw _ (List.mem_of_getElem? (i := 25) rfl)) (args := #[]))) (mvT hZ (hw _ (List.mem_of_getElem? (i := 26) rfl))) (by decide) (backOf (W := 0) (rm_rise l Z a0 hw [] k aK aR aT sf K Rr Tt rs j0 mn0 v0 h0 n0 Zs BB hi0 hl0 n1 n2 n3 n4 n5 n6 g_k g_aK g_aR g_aT) hZ (hw _ (List.mem_of_getElem? (i := 26) rfl)) (hw _ (List.mem_of_getElem? (i := 3) rfl)) (by decide) (by decide)) (g := (mkF m 35 #[.val (.ref k), .val (.ref am), .val (.int (0 : Int32)), .val (.int j0)] [(.long v0), (.int j0), (.ref k)])) rfl (by rw [hml]; rfl) (Steps.refl _) (a := k) (by rw [e18]; exact q20) q20' (argsL := [(.int j0), (.long v0)]) (rest := []) (lenOf own_pd0 rfl) rfl (by show 2 * 0 + _ ≤ _; exact Nat.le_of_eq rfl) (hb hby own_d_prog_86_m4_35) (fun _ _ => ⟨rfl, e18, (by decide : 0 + 0 ≤ _), (by decide : 0 + 0 ≤ _)⟩)
      dsimp only [Pt.U, Pt.locs, Pt.cells, Pt.slots] at X20 l20 y20 z20 st20 hQ20
      subst l20 y20 z20
      obtain ⟨rfl, Nq20, Kq20, BB⟩ := hQ20
      replace N := Fr.app N Nq20
      replace V_m := V_m.keep Kq20 (ninS q1 (ninS q2 (ninS q3 (ninS q4 nin0))))
      replace Zs := Nat.le_trans Zs Kq20.1
      replace K0 := K0.trans Kq20 (allS (Or.inl (List.mem_of_getElem? (i := 0) rfl)) (allS (Or.inl (List.mem_of_getElem? (i := 1) rfl)) (allS (Or.inl (List.mem_of_getElem? (i := 2) rfl)) (allS (Or.inl (List.mem_of_getElem? (i := 3) rfl)) all0))))
      refine own_tr (g' := (mkF m 38 #[.val (.ref k), .val (.ref am), .val (.int (0 : Int32)), .val (.int j0)] [])) st20 ?_
      obtain ⟨E_k, F_self, F_known, F_rose, F_told, F_rises, V_K, V_R, V_T, E_aK⟩ := BB
      exact J38_0 T20 _ T20.heap (X20.more (Nat.le_of_ble_eq_true rfl) (Nat.le_of_ble_eq_true rfl)) rfl N Zs K0 _ _ _ E_k F_self F_known F_rose F_told F_rises V_K V_R V_T E_aK V_m (if_pos hc).symm (if_pos hc).symm (if_pos hc).symm
    · skip
      refine own_st (T' := T18) (g' := (mkF m 38 #[.val (.ref k), .val (.ref am), .val (.int (0 : Int32)), .val (.int j0)] [])) (fun _ zq => XS.ifYes X18.here hx rfl (pc0 := 25) (pc' := 38) rfl (hb hby own_d_prog_86_m4_25) rfl (own_lflt hc).2.2.2 (by decide) (by decide) zq) ?_
      exact J38_0 T18 _ h0 (X18.more (Nat.le_of_ble_eq_true rfl) (Nat.le_of_ble_eq_true rfl)) e18 N Zs K0 _ _ _ E_k F_self F_known F_rose F_told F_rises V_K V_R V_T E_aK V_m (if_neg hc).symm (if_neg hc).symm (if_neg hc).symm
  intro T19 lo19 h19 X19 e19 N19 Z19 K19 K1 R1 rs1 E_k F_self F_known F_rose F_told F_rises V_K V_R V_T E_aK V_m hK1 hR1 hs1
  refine own_st (T' := T19) (g' := (mkF m 41 #[.val (.ref k), .val (.ref am), .val (.int ((0 : Int32) + (2 : Int32))), .val (.int j0)] [])) (fun _ zq => XS.iinc X19.here hx rfl (hb hby own_d_prog_86_m4_38) rfl (l' := #[.val (.ref k), .val (.ref am), .val (.int ((0 : Int32) + (2 : Int32))), .val (.int j0)]) rfl zq) ?_
  refine own_st (T' := T19) (g' := (mkF m 2 #[.val (.ref k), .val (.ref am), .val (.int ((0 : Int32) + (2 : Int32))), .val (.int j0)] [])) (fun _ zq => XS.goto X19.here hx rfl (pc0 := 41) (pc' := 2) rfl (hb hby own_d_prog_86_m4_41) (by decide) (by decide) zq) ?_
  refine own_st (T' := T19) (g' := (mkF m 3 #[.val (.ref k), .val (.ref am), .val (.int ((0 : Int32) + (2 : Int32))), .val (.int j0)] [(.int ((0 : Int32) + (2 : Int32)))])) (fun _ zq => XS.iloadN X19.here hx rfl (hb hby own_d_prog_86_m4_2) rfl zq) ?_
  refine own_st (T' := T19) (g' := (mkF m 4 #[.val (.ref k), .val (.ref am), .val (.int ((0 : Int32) + (2 : Int32))), .val (.int j0)] [(.ref am), (.int ((0 : Int32) + (2 : Int32)))])) (fun _ zq => XS.aloadN X19.here hx rfl (hb hby own_d_prog_86_m4_3) rfl rfl zq) ?_
  show own_Go p e below s (Q_learn2 Z k aK aR aT sf K Rr Tt rs am fm m0 mn0 v0 h0 n0) ({ frames := 1, cells := 0, slots := 0, locals := 24 } : Room).cells ({ frames := 1, cells := 0, slots := 0, locals := 24 } : Room).slots T19 (mkF m 4 #[.val (.ref k), .val (.ref am), .val (.int (2 : Int32)), .val (.int j0)] [(.ref am), (.int ((0 : Int32) + (2 : Int32)))])
  refine own_st (T' := T19) (g' := (mkF m 5 #[.val (.ref k), .val (.ref am), .val (.int (2 : Int32)), .val (.int j0)] [(.int (2 : Int32)), (.int ((0 : Int32) + (2 : Int32)))])) (own_len (z := (2 : Int32)) X19 hx hZ e19 V_m rfl (g := (mkF m 4 #[.val (.ref k), .val (.ref am), .val (.int (2 : Int32)), .val (.int j0)] [(.ref am), (.int ((0 : Int32) + (2 : Int32)))])) rfl rfl (hb hby own_d_prog_86_m4_4)) ?_
  refine own_st (T' := T19) (g' := (mkF m 44 #[.val (.ref k), .val (.ref am), .val (.int (2 : Int32)), .val (.int j0)] [])) (fun _ zq => XS.icmpYes X19.here hx rfl (pc0 := 5) (pc' := 44) rfl (hb hby own_d_prog_86_m4_5) rfl (flt (by decide)).2.1 (by decide) (by decide) zq) ?_
  subst hK1 hR1 hs1
  exact own_ret0 X19 hx hret hlk (hb hby own_d_prog_86_m4_44) e19 (Nat.le_of_ble_eq_true rfl) (Nat.le_of_ble_eq_true rfl) ⟨rfl, N19, K19, ⟨E_k, F_self, F_known, F_rose, F_told, F_rises, V_K, V_R, V_T, E_aK⟩⟩
def Q_learn4 (Z : State) (k : Addr) (aK : Addr) (aR : Addr) (aT : Addr) (sf : Int32) (K : Nat → Int64) (Rr : Nat → Int64) (Tt : Nat → Int64) (rs : Int64) (am : Addr) (fm : Nat → Value) (m0 : Int32) (m1 : Int32) (mn0 : Nat) (mn1 : Nat) (v0 : Int64) (v1 : Int64) (h0 : Heap) (n0 : Nat) (v : Option Value) (h : Heap) (L : List Loc) : Prop := v = none ∧ Fr n0 L ∧ (Keep h0 h [k, aK, aR, aT]) ∧ (own_KR Z h k aK aR aT sf (if (if K mn0 < v0 then (own_upd K mn0 v0) else K) mn1 < v1 then (own_upd (if K mn0 < v0 then (own_upd K mn0 v0) else K) mn1 v1) else (if K mn0 < v0 then (own_upd K mn0 v0) else K)) (if (if K mn0 < v0 then (own_upd K mn0 v0) else K) mn1 < v1 then (own_upd (if K mn0 < v0 then (own_upd Rr mn0 (rs + 1)) else Rr) mn1 ((if K mn0 < v0 then rs + 1 else rs) + 1)) else (if K mn0 < v0 then (own_upd Rr mn0 (rs + 1)) else Rr)) Tt (if (if K mn0 < v0 then (own_upd K mn0 v0) else K) mn1 < v1 then (if K mn0 < v0 then rs + 1 else rs) + 1 else (if K mn0 < v0 then rs + 1 else rs)))
theorem ef_learn4 (m : MethodId) (x0 : Addr) (x1 : Addr)  : entryFrame m #[(.ref x0), (.ref x1)] 4 = mkF m 0 #[.val (.ref x0), .val (.ref x1), .unset, .unset] [] := by first | (simp [entryFrame, mkF, argsToLocals, Value.category]; done) | rfl
set_option maxRecDepth 65536 in
set_option maxHeartbeats 40000000 in
theorem rm_learn4 (l : Launch) (Z : State) (a0 : Array Value) (hw : ∀ d ∈ tables_1, d.before a0 Z = true) (ws : List Jvm.Cond) (k : Addr) (aK : Addr) (aR : Addr) (aT : Addr) (sf : Int32) (K : Nat → Int64) (Rr : Nat → Int64) (Tt : Nat → Int64) (rs : Int64) (am : Addr) (fm : Nat → Value) (m0 : Int32) (m1 : Int32) (mn0 : Nat) (mn1 : Nat) (v0 : Int64) (v1 : Int64) (h0 : Heap) (n0 : Nat) (Zs : n0 ≤ h0.size) (BB : own_KR Z h0 k aK aR aT sf K Rr Tt rs) (V_m : own_AV Z h0 am .long 4 fm) (hm0 : m0.toInt = (mn0 : Int)) (hl0 : mn0 < 3) (ha0 : fm 0 = .long m0.toInt64) (hb0 : fm 1 = .long v0) (hm1 : m1.toInt = (mn1 : Int)) (hl1 : mn1 < 3) (ha1 : fm 2 = .long m1.toInt64) (hb1 : fm 3 = .long v1) (n1 : k ≠ aK) (n2 : k ≠ aR) (n3 : k ≠ aT) (n4 : aK ≠ aR) (n5 : aK ≠ aT) (n6 : aR ≠ aT) (g_k : n0 ≤ k) (g_aK : n0 ≤ aK) (g_aR : n0 ≤ aR) (g_aT : n0 ≤ aT) (q1 : am ≠ k) (q2 : am ≠ aK) (q3 : am ≠ aR) (q4 : am ≠ aT) :
    MetFree l (⟨"com/example/coterie/coterie/runtime/KnownRequests", "learn", "([J)V"⟩ : MethodName) (head1 (Jvm.Cond.code (⟨"com/example/coterie/coterie/runtime/KnownRequests", "learn", "([J)V"⟩ : MethodName) prog_86_method_4_code 4 none :: ws) ({ frames := 1, cells := 0, slots := 0, locals := 24 } : Room)) (fun a U => a = #[(.ref k), (.ref am)] ∧ Z.Warmed39 U.vm ∧ U.heap = h0) (fun _ _ _ _ _ => True) (fun _ U o U' => ∃ v L, o = .returned v ∧ (Q_learn4 Z k aK aR aT sf K Rr Tt rs am fm m0 m1 mn0 mn1 v0 v1 h0 n0) v U'.heap L ∧ FrameEnd U o U' L ({ frames := 1, cells := 0, slots := 0, locals := 24 } : Room).cells ({ frames := 1, cells := 0, slots := 0, locals := 24 } : Room).slots) := by
  refine MetFree.of_bodySF (plainFor_of_name own_pn0) hisR ?_
  intro p e s m args below meth c s₁ Bd hml0 hP hK
  obtain ⟨rfl, hZ, hh⟩ := hP
  have hx := Bd.exec
  have hby := Bd.bytes
  have hlk := BodyLoose.notSynchronized Bd
  have hret := Bd.returns
  have hml : c.maxLocals = 4 := hml0
  have hown : s.vm.findClass "com/example/coterie/coterie/runtime/KnownRequests" = some m.cls := findClass_of_methodNamed Bd.named
  have hnm := (name_of_methodNamed Bd.named Bd.method).1
  have X : Stand p l e ({ frames := 1, cells := 0, slots := 0, locals := 24 } : Room) s m #[(.ref k), (.ref am)] below meth c s₁ [] 0 0 := Stand.of_body Bd
  have eT : s₁.heap = h0 := by rw [← hh, Bd.state]; rfl
  have N := Fr.nil n0
  have K0 : Keep h0 h0 [k, aK, aR, aT] := Keep.refl _ _
  show own_Go p e below s (Q_learn4 Z k aK aR aT sf K Rr Tt rs am fm m0 m1 mn0 mn1 v0 v1 h0 n0) ({ frames := 1, cells := 0, slots := 0, locals := 24 } : Room).cells ({ frames := 1, cells := 0, slots := 0, locals := 24 } : Room).slots s₁ (entryFrame m #[(.ref k), (.ref am)] 4)
  rw [ef_learn4 m k am]
  obtain ⟨E_k, F_self, F_known, F_rose, F_told, F_rises, V_K, V_R, V_T, E_aK⟩ := BB
  refine own_st (T' := s₁) (g' := (mkF m 1 #[.val (.ref k), .val (.ref am), .unset, .unset] [(.int (0 : Int32))])) (fun _ zq => XS.iconst X.here hx rfl (hb hby own_d_prog_86_m4_0) zq) ?_
  refine own_st (T' := s₁) (g' := (mkF m 2 #[.val (.ref k), .val (.ref am), .val (.int (0 : Int32)), .unset] [])) (fun _ zq => XS.istoreN X.here hx rfl (hb hby own_d_prog_86_m4_1) rfl (l' := #[.val (.ref k), .val (.ref am), .val (.int (0 : Int32)), .unset]) rfl zq) ?_
  refine own_st (T' := s₁) (g' := (mkF m 3 #[.val (.ref k), .val (.ref am), .val (.int (0 : Int32)), .unset] [(.int (0 : Int32))])) (fun _ zq => XS.iloadN X.here hx rfl (hb hby own_d_prog_86_m4_2) rfl zq) ?_
  refine own_st (T' := s₁) (g' := (mkF m 4 #[.val (.ref k), .val (.ref am), .val (.int (0 : Int32)), .unset] [(.ref am), (.int (0 : Int32))])) (fun _ zq => XS.aloadN X.here hx rfl (hb hby own_d_prog_86_m4_3) rfl rfl zq) ?_
  refine own_st (T' := s₁) (g' := (mkF m 5 #[.val (.ref k), .val (.ref am), .val (.int (0 : Int32)), .unset] [(.int (4 : Int32)), (.int (0 : Int32))])) (own_len (z := (4 : Int32)) X hx hZ eT V_m rfl (g := (mkF m 4 #[.val (.ref k), .val (.ref am), .val (.int (0 : Int32)), .unset] [(.ref am), (.int (0 : Int32))])) rfl rfl (hb hby own_d_prog_86_m4_4)) ?_
  refine own_st (T' := s₁) (g' := (mkF m 8 #[.val (.ref k), .val (.ref am), .val (.int (0 : Int32)), .unset] [])) (fun _ zq => XS.icmpNo X.here hx rfl (hb hby own_d_prog_86_m4_5) rfl (tlt (by decide)).2.1 zq) ?_
  refine own_st (T' := s₁) (g' := (mkF m 9 #[.val (.ref k), .val (.ref am), .val (.int (0 : Int32)), .unset] [(.ref am)])) (fun _ zq => XS.aloadN X.here hx rfl (hb hby own_d_prog_86_m4_8) rfl rfl zq) ?_
  refine own_st (T' := s₁) (g' := (mkF m 10 #[.val (.ref k), .val (.ref am), .val (.int (0 : Int32)), .unset] [(.int (0 : Int32)), (.ref am)])) (fun _ zq => XS.iloadN X.here hx rfl (hb hby own_d_prog_86_m4_9) rfl zq) ?_
  refine own_st (T' := s₁) (g' := (mkF m 11 #[.val (.ref k), .val (.ref am), .val (.int (0 : Int32)), .unset] [(.long m0.toInt64)])) (own_ldJ X hx hZ eT V_m (j := (0 : Int32)) (0) rfl (by decide) (w := (.long m0.toInt64)) ha0 (g := (mkF m 10 #[.val (.ref k), .val (.ref am), .val (.int (0 : Int32)), .unset] [(.int (0 : Int32)), (.ref am)])) rfl rfl (hb hby own_d_prog_86_m4_10)) ?_
  refine own_st (T' := s₁) (g' := (mkF m 12 #[.val (.ref k), .val (.ref am), .val (.int (0 : Int32)), .unset] [(.int (m0.toInt64.toInt32))])) (fun _ zq => XS.l2i X.here hx rfl (hb hby own_d_prog_86_m4_11) rfl zq) ?_
  refine own_nm (f := fun z_ => (mkF m 12 #[.val (.ref k), .val (.ref am), .val (.int (0 : Int32)), .unset] [(.int z_)])) (m0.toInt64.toInt32) (fun j0 hj0 => ?_)
  show own_Go p e below s (Q_learn4 Z k aK aR aT sf K Rr Tt rs am fm m0 m1 mn0 mn1 v0 v1 h0 n0) ({ frames := 1, cells := 0, slots := 0, locals := 24 } : Room).cells ({ frames := 1, cells := 0, slots := 0, locals := 24 } : Room).slots s₁ (mkF m 12 #[.val (.ref k), .val (.ref am), .val (.int (0 : Int32)), .unset] [(.int j0)])
  have hi0 : j0.toInt = (mn0 : Int) := by rw [hj0]; exact own_i3 hm0
  refine own_st (T' := s₁) (g' := (mkF m 13 #[.val (.ref k), .val (.ref am), .val (.int (0 : Int32)), .val (.int j0)] [])) (fun _ zq => XS.istoreN X.here hx rfl (hb hby own_d_prog_86_m4_12) rfl (l' := #[.val (.ref k), .val (.ref am), .val (.int (0 : Int32)), .val (.int j0)]) rfl zq) ?_
  refine own_st (T' := s₁) (g' := (mkF m 14 #[.val (.ref k), .val (.ref am), .val (.int (0 : Int32)), .val (.int j0)] [(.ref am)])) (fun _ zq => XS.aloadN X.here hx rfl (hb hby own_d_prog_86_m4_13) rfl rfl zq) ?_
  refine own_st (T' := s₁) (g' := (mkF m 15 #[.val (.ref k), .val (.ref am), .val (.int (0 : Int32)), .val (.int j0)] [(.int (0 : Int32)), (.ref am)])) (fun _ zq => XS.iloadN X.here hx rfl (hb hby own_d_prog_86_m4_14) rfl zq) ?_
  refine own_st (T' := s₁) (g' := (mkF m 16 #[.val (.ref k), .val (.ref am), .val (.int (0 : Int32)), .val (.int j0)] [(.int (1 : Int32)), (.int (0 : Int32)), (.ref am)])) (fun _ zq => XS.iconst X.here hx rfl (hb hby own_d_prog_86_m4_15) zq) ?_
  refine own_st (T' := s₁) (g' := (mkF m 17 #[.val (.ref k), .val (.ref am), .val (.int (0 : Int32)), .val (.int j0)] [(.int ((0 : Int32) + (1 : Int32))), (.ref am)])) (fun _ zq => XS.iadd X.here hx rfl (hb hby own_d_prog_86_m4_16) rfl zq) ?_
  refine own_st (T' := s₁) (g' := (mkF m 18 #[.val (.ref k), .val (.ref am), .val (.int (0 : Int32)), .val (.int j0)] [(.long v0)])) (own_ldJ X hx hZ eT V_m (j := ((0 : Int32) + (1 : Int32))) (1) rfl (by decide) (w := (.long v0)) hb0 (g := (mkF m 17 #[.val (.ref k), .val (.ref am), .val (.int (0 : Int32)), .val (.int j0)] [(.int ((0 : Int32) + (1 : Int32))), (.ref am)])) rfl rfl (hb hby own_d_prog_86_m4_17)) ?_
  refine own_st (T' := s₁) (g' := (mkF m 19 #[.val (.ref k), .val (.ref am), .val (.int (0 : Int32)), .val (.int j0)] [(.ref k), (.long v0)])) (fun _ zq => XS.aloadN X.here hx rfl (hb hby own_d_prog_86_m4_18) rfl rfl zq) ?_
  obtain ⟨T21, X21, e21, st21⟩ := getF X hx hZ hown (host := "") (Or.inl (hw _ (List.mem_of_getElem? (i := 12) rfl))) Via.refl eT F_known (g := (mkF m 19 #[.val (.ref k), .val (.ref am), .val (.int (0 : Int32)), .val (.int j0)] [(.ref k), (.long v0)])) rfl rfl (hb hby own_d_prog_86_m4_19)
  refine own_st (g' := (mkF m 22 #[.val (.ref k), .val (.ref am), .val (.int (0 : Int32)), .val (.int j0)] [(.ref aK), (.long v0)])) st21 ?_
  refine own_st (T' := T21) (g' := (mkF m 23 #[.val (.ref k), .val (.ref am), .val (.int (0 : Int32)), .val (.int j0)] [(.int j0), (.ref aK), (.long v0)])) (fun _ zq => XS.iloadN X21.here hx rfl (hb hby own_d_prog_86_m4_22) rfl zq) ?_
  refine own_st (T' := T21) (g' := (mkF m 24 #[.val (.ref k), .val (.ref am), .val (.int (0 : Int32)), .val (.int j0)] [(.long (K mn0)), (.long v0)])) (own_ldJ X21 hx hZ e21 V_K (j := j0) (mn0) hi0 hl0 (w := (.long (K mn0))) rfl (g := (mkF m 23 #[.val (.ref k), .val (.ref am), .val (.int (0 : Int32)), .val (.int j0)] [(.int j0), (.ref aK), (.long v0)])) rfl rfl (hb hby own_d_prog_86_m4_23)) ?_
  refine own_st (T' := T21) (g' := (mkF m 25 #[.val (.ref k), .val (.ref am), .val (.int (0 : Int32)), .val (.int j0)] [(.int (lcmpW v0 (K mn0)))])) (fun _ zq => XS.lcmp X21.here hx rfl (hb hby own_d_prog_86_m4_24) rfl zq) ?_
  suffices J38_0 : ∀ (T22 : State) (lo22 : List Loc) (h22 : Heap) (X22 : Stand p l e ({ frames := 1, cells := 0, slots := 0, locals := 24 } : Room) s m #[(.ref k), (.ref am)] below meth c T22 lo22 0 0) (e22 : T22.heap = h22) (N22 : Fr n0 lo22) (Z22 : n0 ≤ h22.size) (K22 : Keep h0 h22 [k, aK, aR, aT]) (K1 : Nat → Int64) (R1 : Nat → Int64) (rs1 : Int64) (E_k : Exa Z h22 k "com/example/coterie/coterie/runtime/KnownRequests") (F_self : Fld Z h22 k "com/example/coterie/coterie/runtime/KnownRequests" "self" "I" (.int sf)) (F_known : Fld Z h22 k "com/example/coterie/coterie/runtime/KnownRequests" "known" "[J" (.ref aK)) (F_rose : Fld Z h22 k "com/example/coterie/coterie/runtime/KnownRequests" "roseAt" "[J" (.ref aR)) (F_told : Fld Z h22 k "com/example/coterie/coterie/runtime/KnownRequests" "told" "[J" (.ref aT)) (F_rises : Fld Z h22 k "com/example/coterie/coterie/runtime/KnownRequests" "rises" "J" (.long rs1)) (V_K : own_AV Z h22 aK .long 3 (fun i => .long (K1 i))) (V_R : own_AV Z h22 aR .long 3 (fun i => .long (R1 i))) (V_T : own_AV Z h22 aT .long 3 (fun i => .long (Tt i))) (E_aK : Exa Z h22 aK "[J") (V_m : own_AV Z h22 am .long 4 fm) (hK1 : K1 = if K mn0 < v0 then (own_upd K mn0 v0) else K) (hR1 : R1 = if K mn0 < v0 then (own_upd Rr mn0 (rs + 1)) else Rr) (hs1 : rs1 = if K mn0 < v0 then rs + 1 else rs), own_Go p e below s (Q_learn4 Z k aK aR aT sf K Rr Tt rs am fm m0 m1 mn0 mn1 v0 v1 h0 n0) ({ frames := 1, cells := 0, slots := 0, locals := 24 } : Room).cells ({ frames := 1, cells := 0, slots := 0, locals := 24 } : Room).slots T22 (mkF m 38 #[.val (.ref k), .val (.ref am), .val (.int (0 : Int32)), .val (.int j0)] []) by
    by_cases hc : (K mn0) < v0
    · skip
      refine own_st (T' := T21) (g' := (mkF m 28 #[.val (.ref k), .val (.ref am), .val (.int (0 : Int32)), .val (.int j0)] [])) (fun _ zq => XS.ifNo X21.here hx rfl (hb hby own_d_prog_86_m4_25) rfl (own_ltlt hc).2.2.2 zq) ?_
      refine own_st (T' := T21) (g' := (mkF m 29 #[.val (.ref k), .val (.ref am), .val (.int (0 : Int32)), .val (.int j0)] [(.ref k)])) (fun _ zq => XS.aloadN X21.here hx rfl (hb hby own_d_prog_86_m4_28) rfl rfl zq) ?_
      refine own_st (T' := T21) (g' := (mkF m 30 #[.val (.ref k), .val (.ref am), .val (.int (0 : Int32)), .val (.int j0)] [(.int j0), (.ref k)])) (fun _ zq => XS.iloadN X21.here hx rfl (hb hby own_d_prog_86_m4_29) rfl zq) ?_
      refine own_st (T' := T21) (g' := (mkF m 31 #[.val (.ref k), .val (.ref am), .val (.int (0 : Int32)), .val (.int j0)] [(.ref am), (.int j0), (.ref k)])) (fun _ zq => XS.aloadN X21.here hx rfl (hb hby own_d_prog_86_m4_30) rfl rfl zq) ?_
      refine own_st (T' := T21) (g' := (mkF m 32 #[.val (.ref k), .val (.ref am), .val (.int (0 : Int32)), .val (.int j0)] [(.int (0 : Int32)), (.ref am), (.int j0), (.ref k)])) (fun _ zq => XS.iloadN X21.here hx rfl (hb hby own_d_prog_86_m4_31) rfl zq) ?_
      refine own_st (T' := T21) (g' := (mkF m 33 #[.val (.ref k), .val (.ref am), .val (.int (0 : Int32)), .val (.int j0)] [(.int (1 : Int32)), (.int (0 : Int32)), (.ref am), (.int j0), (.ref k)])) (fun _ zq => XS.iconst X21.here hx rfl (hb hby own_d_prog_86_m4_32) zq) ?_
      refine own_st (T' := T21) (g' := (mkF m 34 #[.val (.ref k), .val (.ref am), .val (.int (0 : Int32)), .val (.int j0)] [(.int ((0 : Int32) + (1 : Int32))), (.ref am), (.int j0), (.ref k)])) (fun _ zq => XS.iadd X21.here hx rfl (hb hby own_d_prog_86_m4_33) rfl zq) ?_
      refine own_st (T' := T21) (g' := (mkF m 35 #[.val (.ref k), .val (.ref am), .val (.int (0 : Int32)), .val (.int j0)] [(.long v0), (.int j0), (.ref k)])) (own_ldJ X21 hx hZ e21 V_m (j := ((0 : Int32) + (1 : Int32))) (1) rfl (by decide) (w := (.long v0)) hb0 (g := (mkF m 34 #[.val (.ref k), .val (.ref am), .val (.int (0 : Int32)), .val (.int j0)] [(.int ((0 : Int32) + (1 : Int32))), (.ref am), (.int j0), (.ref k)])) rfl rfl (hb hby own_d_prog_86_m4_34)) ?_
      have BB : own_KR Z h0 k aK aR aT sf K Rr Tt rs := ⟨E_k, F_self, F_known, F_rose, F_told, F_rises, V_K, V_R, V_T, E_aK⟩
      obtain ⟨cq23, q23, q23'⟩ := BB.1.cell
      obtain ⟨_, _, ⟨T23, L23, k23, n23⟩, -, X23, ⟨Lc23, hQ23, l23, y23, z23⟩, st23⟩ := X21.privateBack hx (y := (⟨"com/example/coterie/coterie/runtime/KnownRequests", "rise", "(IJ)V"⟩ : MethodName)) hown (mvT hZ (hw _ (List.mem_of_getElem? (i := 23) rfl))) (mvT hZ (hw _ (List.mem_of_getElem? (i := 24) rfl))) (own_selP hZ (hw _ (List.mem_of_getElem? (i := 2) rfl)) (hw _ (List.mem_of_getElem? (i := 25) rfl)) (hw _ (List.mem_of_getElem? (i := 24) rfl)) (by decide)) (Cond.privateMethod_at (mvP hZ (hw _ (List.mem_of_getElem? (i := 25) rfl)) (args := #[]))) (mvT hZ (hw _ (List.mem_of_getElem? (i := 26) rfl))) (by decide) (backOf (W := 0) (rm_rise l Z a0 hw [] k aK aR aT sf K Rr Tt rs j0 mn0 v0 h0 n0 Zs BB hi0 hl0 n1 n2 n3 n4 n5 n6 g_k g_aK g_aR g_aT) hZ (hw _ (List.mem_of_getElem? (i := 26) rfl)) (hw _ (List.mem_of_getElem? (i := 3) rfl)) (by decide) (by decide)) (g := (mkF m 35 #[.val (.ref k), .val (.ref am), .val (.int (0 : Int32)), .val (.int j0)] [(.long v0), (.int j0), (.ref k)])) rfl (by rw [hml]; rfl) (Steps.refl _) (a := k) (by rw [e21]; exact q23) q23' (argsL := [(.int j0), (.long v0)]) (rest := []) (lenOf own_pd0 rfl) rfl (by show 2 * 0 + _ ≤ _; exact Nat.le_of_eq rfl) (hb hby own_d_prog_86_m4_35) (fun _ _ => ⟨rfl, e21, (by decide : 0 + 0 ≤ _), (by decide : 0 + 0 ≤ _)⟩)
      dsimp only [Pt.U, Pt.locs, Pt.cells, Pt.slots] at X23 l23 y23 z23 st23 hQ23
      subst l23 y23 z23
      obtain ⟨rfl, Nq23, Kq23, BB⟩ := hQ23
      replace N := Fr.app N Nq23
      replace V_m := V_m.keep Kq23 (ninS q1 (ninS q2 (ninS q3 (ninS q4 nin0))))
      replace Zs := Nat.le_trans Zs Kq23.1
      replace K0 := K0.trans Kq23 (allS (Or.inl (List.mem_of_getElem? (i := 0) rfl)) (allS (Or.inl (List.mem_of_getElem? (i := 1) rfl)) (allS (Or.inl (List.mem_of_getElem? (i := 2) rfl)) (allS (Or.inl (List.mem_of_getElem? (i := 3) rfl)) all0))))
      refine own_tr (g' := (mkF m 38 #[.val (.ref k), .val (.ref am), .val (.int (0 : Int32)), .val (.int j0)] [])) st23 ?_
      obtain ⟨E_k, F_self, F_known, F_rose, F_told, F_rises, V_K, V_R, V_T, E_aK⟩ := BB
      exact J38_0 T23 _ T23.heap (X23.more (Nat.le_of_ble_eq_true rfl) (Nat.le_of_ble_eq_true rfl)) rfl N Zs K0 _ _ _ E_k F_self F_known F_rose F_told F_rises V_K V_R V_T E_aK V_m (if_pos hc).symm (if_pos hc).symm (if_pos hc).symm
    · skip
      refine own_st (T' := T21) (g' := (mkF m 38 #[.val (.ref k), .val (.ref am), .val (.int (0 : Int32)), .val (.int j0)] [])) (fun _ zq => XS.ifYes X21.here hx rfl (pc0 := 25) (pc' := 38) rfl (hb hby own_d_prog_86_m4_25) rfl (own_lflt hc).2.2.2 (by decide) (by decide) zq) ?_
      exact J38_0 T21 _ h0 (X21.more (Nat.le_of_ble_eq_true rfl) (Nat.le_of_ble_eq_true rfl)) e21 N Zs K0 _ _ _ E_k F_self F_known F_rose F_told F_rises V_K V_R V_T E_aK V_m (if_neg hc).symm (if_neg hc).symm (if_neg hc).symm
  intro T22 lo22 h22 X22 e22 N22 Z22 K22 K1 R1 rs1 E_k F_self F_known F_rose F_told F_rises V_K V_R V_T E_aK V_m hK1 hR1 hs1
  refine own_st (T' := T22) (g' := (mkF m 41 #[.val (.ref k), .val (.ref am), .val (.int ((0 : Int32) + (2 : Int32))), .val (.int j0)] [])) (fun _ zq => XS.iinc X22.here hx rfl (hb hby own_d_prog_86_m4_38) rfl (l' := #[.val (.ref k), .val (.ref am), .val (.int ((0 : Int32) + (2 : Int32))), .val (.int j0)]) rfl zq) ?_
  refine own_st (T' := T22) (g' := (mkF m 2 #[.val (.ref k), .val (.ref am), .val (.int ((0 : Int32) + (2 : Int32))), .val (.int j0)] [])) (fun _ zq => XS.goto X22.here hx rfl (pc0 := 41) (pc' := 2) rfl (hb hby own_d_prog_86_m4_41) (by decide) (by decide) zq) ?_
  refine own_st (T' := T22) (g' := (mkF m 3 #[.val (.ref k), .val (.ref am), .val (.int ((0 : Int32) + (2 : Int32))), .val (.int j0)] [(.int ((0 : Int32) + (2 : Int32)))])) (fun _ zq => XS.iloadN X22.here hx rfl (hb hby own_d_prog_86_m4_2) rfl zq) ?_
  refine own_st (T' := T22) (g' := (mkF m 4 #[.val (.ref k), .val (.ref am), .val (.int ((0 : Int32) + (2 : Int32))), .val (.int j0)] [(.ref am), (.int ((0 : Int32) + (2 : Int32)))])) (fun _ zq => XS.aloadN X22.here hx rfl (hb hby own_d_prog_86_m4_3) rfl rfl zq) ?_
  show own_Go p e below s (Q_learn4 Z k aK aR aT sf K Rr Tt rs am fm m0 m1 mn0 mn1 v0 v1 h0 n0) ({ frames := 1, cells := 0, slots := 0, locals := 24 } : Room).cells ({ frames := 1, cells := 0, slots := 0, locals := 24 } : Room).slots T22 (mkF m 4 #[.val (.ref k), .val (.ref am), .val (.int (2 : Int32)), .val (.int j0)] [(.ref am), (.int ((0 : Int32) + (2 : Int32)))])
  refine own_st (T' := T22) (g' := (mkF m 5 #[.val (.ref k), .val (.ref am), .val (.int (2 : Int32)), .val (.int j0)] [(.int (4 : Int32)), (.int ((0 : Int32) + (2 : Int32)))])) (own_len (z := (4 : Int32)) X22 hx hZ e22 V_m rfl (g := (mkF m 4 #[.val (.ref k), .val (.ref am), .val (.int (2 : Int32)), .val (.int j0)] [(.ref am), (.int ((0 : Int32) + (2 : Int32)))])) rfl rfl (hb hby own_d_prog_86_m4_4)) ?_
  refine own_st (T' := T22) (g' := (mkF m 8 #[.val (.ref k), .val (.ref am), .val (.int (2 : Int32)), .val (.int j0)] [])) (fun _ zq => XS.icmpNo X22.here hx rfl (hb hby own_d_prog_86_m4_5) rfl (tlt (by decide)).2.1 zq) ?_
  refine own_st (T' := T22) (g' := (mkF m 9 #[.val (.ref k), .val (.ref am), .val (.int (2 : Int32)), .val (.int j0)] [(.ref am)])) (fun _ zq => XS.aloadN X22.here hx rfl (hb hby own_d_prog_86_m4_8) rfl rfl zq) ?_
  refine own_st (T' := T22) (g' := (mkF m 10 #[.val (.ref k), .val (.ref am), .val (.int (2 : Int32)), .val (.int j0)] [(.int (2 : Int32)), (.ref am)])) (fun _ zq => XS.iloadN X22.here hx rfl (hb hby own_d_prog_86_m4_9) rfl zq) ?_
  refine own_st (T' := T22) (g' := (mkF m 11 #[.val (.ref k), .val (.ref am), .val (.int (2 : Int32)), .val (.int j0)] [(.long m1.toInt64)])) (own_ldJ X22 hx hZ e22 V_m (j := (2 : Int32)) (2) rfl (by decide) (w := (.long m1.toInt64)) ha1 (g := (mkF m 10 #[.val (.ref k), .val (.ref am), .val (.int (2 : Int32)), .val (.int j0)] [(.int (2 : Int32)), (.ref am)])) rfl rfl (hb hby own_d_prog_86_m4_10)) ?_
  refine own_st (T' := T22) (g' := (mkF m 12 #[.val (.ref k), .val (.ref am), .val (.int (2 : Int32)), .val (.int j0)] [(.int (m1.toInt64.toInt32))])) (fun _ zq => XS.l2i X22.here hx rfl (hb hby own_d_prog_86_m4_11) rfl zq) ?_
  refine own_nm (f := fun z_ => (mkF m 12 #[.val (.ref k), .val (.ref am), .val (.int (2 : Int32)), .val (.int j0)] [(.int z_)])) (m1.toInt64.toInt32) (fun j1 hj1 => ?_)
  show own_Go p e below s (Q_learn4 Z k aK aR aT sf K Rr Tt rs am fm m0 m1 mn0 mn1 v0 v1 h0 n0) ({ frames := 1, cells := 0, slots := 0, locals := 24 } : Room).cells ({ frames := 1, cells := 0, slots := 0, locals := 24 } : Room).slots T22 (mkF m 12 #[.val (.ref k), .val (.ref am), .val (.int (2 : Int32)), .val (.int j0)] [(.int j1)])
  have hi1 : j1.toInt = (mn1 : Int) := by rw [hj1]; exact own_i3 hm1
  refine own_st (T' := T22) (g' := (mkF m 13 #[.val (.ref k), .val (.ref am), .val (.int (2 : Int32)), .val (.int j1)] [])) (fun _ zq => XS.istoreN X22.here hx rfl (hb hby own_d_prog_86_m4_12) rfl (l' := #[.val (.ref k), .val (.ref am), .val (.int (2 : Int32)), .val (.int j1)]) rfl zq) ?_
  refine own_st (T' := T22) (g' := (mkF m 14 #[.val (.ref k), .val (.ref am), .val (.int (2 : Int32)), .val (.int j1)] [(.ref am)])) (fun _ zq => XS.aloadN X22.here hx rfl (hb hby own_d_prog_86_m4_13) rfl rfl zq) ?_
  refine own_st (T' := T22) (g' := (mkF m 15 #[.val (.ref k), .val (.ref am), .val (.int (2 : Int32)), .val (.int j1)] [(.int (2 : Int32)), (.ref am)])) (fun _ zq => XS.iloadN X22.here hx rfl (hb hby own_d_prog_86_m4_14) rfl zq) ?_
  refine own_st (T' := T22) (g' := (mkF m 16 #[.val (.ref k), .val (.ref am), .val (.int (2 : Int32)), .val (.int j1)] [(.int (1 : Int32)), (.int (2 : Int32)), (.ref am)])) (fun _ zq => XS.iconst X22.here hx rfl (hb hby own_d_prog_86_m4_15) zq) ?_
  refine own_st (T' := T22) (g' := (mkF m 17 #[.val (.ref k), .val (.ref am), .val (.int (2 : Int32)), .val (.int j1)] [(.int ((2 : Int32) + (1 : Int32))), (.ref am)])) (fun _ zq => XS.iadd X22.here hx rfl (hb hby own_d_prog_86_m4_16) rfl zq) ?_
  refine own_st (T' := T22) (g' := (mkF m 18 #[.val (.ref k), .val (.ref am), .val (.int (2 : Int32)), .val (.int j1)] [(.long v1)])) (own_ldJ X22 hx hZ e22 V_m (j := ((2 : Int32) + (1 : Int32))) (3) rfl (by decide) (w := (.long v1)) hb1 (g := (mkF m 17 #[.val (.ref k), .val (.ref am), .val (.int (2 : Int32)), .val (.int j1)] [(.int ((2 : Int32) + (1 : Int32))), (.ref am)])) rfl rfl (hb hby own_d_prog_86_m4_17)) ?_
  refine own_st (T' := T22) (g' := (mkF m 19 #[.val (.ref k), .val (.ref am), .val (.int (2 : Int32)), .val (.int j1)] [(.ref k), (.long v1)])) (fun _ zq => XS.aloadN X22.here hx rfl (hb hby own_d_prog_86_m4_18) rfl rfl zq) ?_
  obtain ⟨T24, X24, e24, st24⟩ := getF X22 hx hZ hown (host := "") (Or.inl (hw _ (List.mem_of_getElem? (i := 12) rfl))) Via.refl e22 F_known (g := (mkF m 19 #[.val (.ref k), .val (.ref am), .val (.int (2 : Int32)), .val (.int j1)] [(.ref k), (.long v1)])) rfl rfl (hb hby own_d_prog_86_m4_19)
  refine own_st (g' := (mkF m 22 #[.val (.ref k), .val (.ref am), .val (.int (2 : Int32)), .val (.int j1)] [(.ref aK), (.long v1)])) st24 ?_
  refine own_st (T' := T24) (g' := (mkF m 23 #[.val (.ref k), .val (.ref am), .val (.int (2 : Int32)), .val (.int j1)] [(.int j1), (.ref aK), (.long v1)])) (fun _ zq => XS.iloadN X24.here hx rfl (hb hby own_d_prog_86_m4_22) rfl zq) ?_
  refine own_st (T' := T24) (g' := (mkF m 24 #[.val (.ref k), .val (.ref am), .val (.int (2 : Int32)), .val (.int j1)] [(.long (K1 mn1)), (.long v1)])) (own_ldJ X24 hx hZ e24 V_K (j := j1) (mn1) hi1 hl1 (w := (.long (K1 mn1))) rfl (g := (mkF m 23 #[.val (.ref k), .val (.ref am), .val (.int (2 : Int32)), .val (.int j1)] [(.int j1), (.ref aK), (.long v1)])) rfl rfl (hb hby own_d_prog_86_m4_23)) ?_
  refine own_st (T' := T24) (g' := (mkF m 25 #[.val (.ref k), .val (.ref am), .val (.int (2 : Int32)), .val (.int j1)] [(.int (lcmpW v1 (K1 mn1)))])) (fun _ zq => XS.lcmp X24.here hx rfl (hb hby own_d_prog_86_m4_24) rfl zq) ?_
  suffices J38_1 : ∀ (T25 : State) (lo25 : List Loc) (h25 : Heap) (X25 : Stand p l e ({ frames := 1, cells := 0, slots := 0, locals := 24 } : Room) s m #[(.ref k), (.ref am)] below meth c T25 lo25 0 0) (e25 : T25.heap = h25) (N25 : Fr n0 lo25) (Z25 : n0 ≤ h25.size) (K25 : Keep h0 h25 [k, aK, aR, aT]) (K2 : Nat → Int64) (R2 : Nat → Int64) (rs2 : Int64) (E_k : Exa Z h25 k "com/example/coterie/coterie/runtime/KnownRequests") (F_self : Fld Z h25 k "com/example/coterie/coterie/runtime/KnownRequests" "self" "I" (.int sf)) (F_known : Fld Z h25 k "com/example/coterie/coterie/runtime/KnownRequests" "known" "[J" (.ref aK)) (F_rose : Fld Z h25 k "com/example/coterie/coterie/runtime/KnownRequests" "roseAt" "[J" (.ref aR)) (F_told : Fld Z h25 k "com/example/coterie/coterie/runtime/KnownRequests" "told" "[J" (.ref aT)) (F_rises : Fld Z h25 k "com/example/coterie/coterie/runtime/KnownRequests" "rises" "J" (.long rs2)) (V_K : own_AV Z h25 aK .long 3 (fun i => .long (K2 i))) (V_R : own_AV Z h25 aR .long 3 (fun i => .long (R2 i))) (V_T : own_AV Z h25 aT .long 3 (fun i => .long (Tt i))) (E_aK : Exa Z h25 aK "[J") (V_m : own_AV Z h25 am .long 4 fm) (hK2 : K2 = if K1 mn1 < v1 then (own_upd K1 mn1 v1) else K1) (hR2 : R2 = if K1 mn1 < v1 then (own_upd R1 mn1 (rs1 + 1)) else R1) (hs2 : rs2 = if K1 mn1 < v1 then rs1 + 1 else rs1), own_Go p e below s (Q_learn4 Z k aK aR aT sf K Rr Tt rs am fm m0 m1 mn0 mn1 v0 v1 h0 n0) ({ frames := 1, cells := 0, slots := 0, locals := 24 } : Room).cells ({ frames := 1, cells := 0, slots := 0, locals := 24 } : Room).slots T25 (mkF m 38 #[.val (.ref k), .val (.ref am), .val (.int (2 : Int32)), .val (.int j1)] []) by
    by_cases hc : (K1 mn1) < v1
    · skip
      refine own_st (T' := T24) (g' := (mkF m 28 #[.val (.ref k), .val (.ref am), .val (.int (2 : Int32)), .val (.int j1)] [])) (fun _ zq => XS.ifNo X24.here hx rfl (hb hby own_d_prog_86_m4_25) rfl (own_ltlt hc).2.2.2 zq) ?_
      refine own_st (T' := T24) (g' := (mkF m 29 #[.val (.ref k), .val (.ref am), .val (.int (2 : Int32)), .val (.int j1)] [(.ref k)])) (fun _ zq => XS.aloadN X24.here hx rfl (hb hby own_d_prog_86_m4_28) rfl rfl zq) ?_
      refine own_st (T' := T24) (g' := (mkF m 30 #[.val (.ref k), .val (.ref am), .val (.int (2 : Int32)), .val (.int j1)] [(.int j1), (.ref k)])) (fun _ zq => XS.iloadN X24.here hx rfl (hb hby own_d_prog_86_m4_29) rfl zq) ?_
      refine own_st (T' := T24) (g' := (mkF m 31 #[.val (.ref k), .val (.ref am), .val (.int (2 : Int32)), .val (.int j1)] [(.ref am), (.int j1), (.ref k)])) (fun _ zq => XS.aloadN X24.here hx rfl (hb hby own_d_prog_86_m4_30) rfl rfl zq) ?_
      refine own_st (T' := T24) (g' := (mkF m 32 #[.val (.ref k), .val (.ref am), .val (.int (2 : Int32)), .val (.int j1)] [(.int (2 : Int32)), (.ref am), (.int j1), (.ref k)])) (fun _ zq => XS.iloadN X24.here hx rfl (hb hby own_d_prog_86_m4_31) rfl zq) ?_
      refine own_st (T' := T24) (g' := (mkF m 33 #[.val (.ref k), .val (.ref am), .val (.int (2 : Int32)), .val (.int j1)] [(.int (1 : Int32)), (.int (2 : Int32)), (.ref am), (.int j1), (.ref k)])) (fun _ zq => XS.iconst X24.here hx rfl (hb hby own_d_prog_86_m4_32) zq) ?_
      refine own_st (T' := T24) (g' := (mkF m 34 #[.val (.ref k), .val (.ref am), .val (.int (2 : Int32)), .val (.int j1)] [(.int ((2 : Int32) + (1 : Int32))), (.ref am), (.int j1), (.ref k)])) (fun _ zq => XS.iadd X24.here hx rfl (hb hby own_d_prog_86_m4_33) rfl zq) ?_
      refine own_st (T' := T24) (g' := (mkF m 35 #[.val (.ref k), .val (.ref am), .val (.int (2 : Int32)), .val (.int j1)] [(.long v1), (.int j1), (.ref k)])) (own_ldJ X24 hx hZ e24 V_m (j := ((2 : Int32) + (1 : Int32))) (3) rfl (by decide) (w := (.long v1)) hb1 (g := (mkF m 34 #[.val (.ref k), .val (.ref am), .val (.int (2 : Int32)), .val (.int j1)] [(.int ((2 : Int32) + (1 : Int32))), (.ref am), (.int j1), (.ref k)])) rfl rfl (hb hby own_d_prog_86_m4_34)) ?_
      have BB : own_KR Z h22 k aK aR aT sf K1 R1 Tt rs1 := ⟨E_k, F_self, F_known, F_rose, F_told, F_rises, V_K, V_R, V_T, E_aK⟩
      obtain ⟨cq26, q26, q26'⟩ := BB.1.cell
      obtain ⟨_, _, ⟨T26, L26, k26, n26⟩, -, X26, ⟨Lc26, hQ26, l26, y26, z26⟩, st26⟩ := X24.privateBack hx (y := (⟨"com/example/coterie/coterie/runtime/KnownRequests", "rise", "(IJ)V"⟩ : MethodName)) hown (mvT hZ (hw _ (List.mem_of_getElem? (i := 23) rfl))) (mvT hZ (hw _ (List.mem_of_getElem? (i := 24) rfl))) (own_selP hZ (hw _ (List.mem_of_getElem? (i := 2) rfl)) (hw _ (List.mem_of_getElem? (i := 25) rfl)) (hw _ (List.mem_of_getElem? (i := 24) rfl)) (by decide)) (Cond.privateMethod_at (mvP hZ (hw _ (List.mem_of_getElem? (i := 25) rfl)) (args := #[]))) (mvT hZ (hw _ (List.mem_of_getElem? (i := 26) rfl))) (by decide) (backOf (W := 0) (rm_rise l Z a0 hw [] k aK aR aT sf K1 R1 Tt rs1 j1 mn1 v1 h22 n0 Z22 BB hi1 hl1 n1 n2 n3 n4 n5 n6 g_k g_aK g_aR g_aT) hZ (hw _ (List.mem_of_getElem? (i := 26) rfl)) (hw _ (List.mem_of_getElem? (i := 3) rfl)) (by decide) (by decide)) (g := (mkF m 35 #[.val (.ref k), .val (.ref am), .val (.int (2 : Int32)), .val (.int j1)] [(.long v1), (.int j1), (.ref k)])) rfl (by rw [hml]; rfl) (Steps.refl _) (a := k) (by rw [e24]; exact q26) q26' (argsL := [(.int j1), (.long v1)]) (rest := []) (lenOf own_pd0 rfl) rfl (by show 2 * 0 + _ ≤ _; exact Nat.le_of_eq rfl) (hb hby own_d_prog_86_m4_35) (fun _ _ => ⟨rfl, e24, (by decide : 0 + 0 ≤ _), (by decide : 0 + 0 ≤ _)⟩)
      dsimp only [Pt.U, Pt.locs, Pt.cells, Pt.slots] at X26 l26 y26 z26 st26 hQ26
      subst l26 y26 z26
      obtain ⟨rfl, Nq26, Kq26, BB⟩ := hQ26
      replace N22 := Fr.app N22 Nq26
      replace V_m := V_m.keep Kq26 (ninS q1 (ninS q2 (ninS q3 (ninS q4 nin0))))
      replace Z22 := Nat.le_trans Z22 Kq26.1
      replace K22 := K22.trans Kq26 (allS (Or.inl (List.mem_of_getElem? (i := 0) rfl)) (allS (Or.inl (List.mem_of_getElem? (i := 1) rfl)) (allS (Or.inl (List.mem_of_getElem? (i := 2) rfl)) (allS (Or.inl (List.mem_of_getElem? (i := 3) rfl)) all0))))
      refine own_tr (g' := (mkF m 38 #[.val (.ref k), .val (.ref am), .val (.int (2 : Int32)), .val (.int j1)] [])) st26 ?_
      obtain ⟨E_k, F_self, F_known, F_rose, F_told, F_rises, V_K, V_R, V_T, E_aK⟩ := BB
      exact J38_1 T26 _ T26.heap (X26.more (Nat.le_of_ble_eq_true rfl) (Nat.le_of_ble_eq_true rfl)) rfl N22 Z22 K22 _ _ _ E_k F_self F_known F_rose F_told F_rises V_K V_R V_T E_aK V_m (if_pos hc).symm (if_pos hc).symm (if_pos hc).symm
    · skip
      refine own_st (T' := T24) (g' := (mkF m 38 #[.val (.ref k), .val (.ref am), .val (.int (2 : Int32)), .val (.int j1)] [])) (fun _ zq => XS.ifYes X24.here hx rfl (pc0 := 25) (pc' := 38) rfl (hb hby own_d_prog_86_m4_25) rfl (own_lflt hc).2.2.2 (by decide) (by decide) zq) ?_
      exact J38_1 T24 _ h22 (X24.more (Nat.le_of_ble_eq_true rfl) (Nat.le_of_ble_eq_true rfl)) e24 N22 Z22 K22 _ _ _ E_k F_self F_known F_rose F_told F_rises V_K V_R V_T E_aK V_m (if_neg hc).symm (if_neg hc).symm (if_neg hc).symm
  intro T25 lo25 h25 X25 e25 N25 Z25 K25 K2 R2 rs2 E_k F_self F_known F_rose F_told F_rises V_K V_R V_T E_aK V_m hK2 hR2 hs2
  refine own_st (T' := T25) (g' := (mkF m 41 #[.val (.ref k), .val (.ref am), .val (.int ((2 : Int32) + (2 : Int32))), .val (.int j1)] [])) (fun _ zq => XS.iinc X25.here hx rfl (hb hby own_d_prog_86_m4_38) rfl (l' := #[.val (.ref k), .val (.ref am), .val (.int ((2 : Int32) + (2 : Int32))), .val (.int j1)]) rfl zq) ?_
  refine own_st (T' := T25) (g' := (mkF m 2 #[.val (.ref k), .val (.ref am), .val (.int ((2 : Int32) + (2 : Int32))), .val (.int j1)] [])) (fun _ zq => XS.goto X25.here hx rfl (pc0 := 41) (pc' := 2) rfl (hb hby own_d_prog_86_m4_41) (by decide) (by decide) zq) ?_
  refine own_st (T' := T25) (g' := (mkF m 3 #[.val (.ref k), .val (.ref am), .val (.int ((2 : Int32) + (2 : Int32))), .val (.int j1)] [(.int ((2 : Int32) + (2 : Int32)))])) (fun _ zq => XS.iloadN X25.here hx rfl (hb hby own_d_prog_86_m4_2) rfl zq) ?_
  refine own_st (T' := T25) (g' := (mkF m 4 #[.val (.ref k), .val (.ref am), .val (.int ((2 : Int32) + (2 : Int32))), .val (.int j1)] [(.ref am), (.int ((2 : Int32) + (2 : Int32)))])) (fun _ zq => XS.aloadN X25.here hx rfl (hb hby own_d_prog_86_m4_3) rfl rfl zq) ?_
  show own_Go p e below s (Q_learn4 Z k aK aR aT sf K Rr Tt rs am fm m0 m1 mn0 mn1 v0 v1 h0 n0) ({ frames := 1, cells := 0, slots := 0, locals := 24 } : Room).cells ({ frames := 1, cells := 0, slots := 0, locals := 24 } : Room).slots T25 (mkF m 4 #[.val (.ref k), .val (.ref am), .val (.int (4 : Int32)), .val (.int j1)] [(.ref am), (.int ((2 : Int32) + (2 : Int32)))])
  refine own_st (T' := T25) (g' := (mkF m 5 #[.val (.ref k), .val (.ref am), .val (.int (4 : Int32)), .val (.int j1)] [(.int (4 : Int32)), (.int ((2 : Int32) + (2 : Int32)))])) (own_len (z := (4 : Int32)) X25 hx hZ e25 V_m rfl (g := (mkF m 4 #[.val (.ref k), .val (.ref am), .val (.int (4 : Int32)), .val (.int j1)] [(.ref am), (.int ((2 : Int32) + (2 : Int32)))])) rfl rfl (hb hby own_d_prog_86_m4_4)) ?_
  refine own_st (T' := T25) (g' := (mkF m 44 #[.val (.ref k), .val (.ref am), .val (.int (4 : Int32)), .val (.int j1)] [])) (fun _ zq => XS.icmpYes X25.here hx rfl (pc0 := 5) (pc' := 44) rfl (hb hby own_d_prog_86_m4_5) rfl (flt (by decide)).2.1 (by decide) (by decide) zq) ?_
  subst hK2 hR2 hs2 hK1 hR1 hs1
  exact own_ret0 X25 hx hret hlk (hb hby own_d_prog_86_m4_44) e25 (Nat.le_of_ble_eq_true rfl) (Nat.le_of_ble_eq_true rfl) ⟨rfl, N25, K25, ⟨E_k, F_self, F_known, F_rose, F_told, F_rises, V_K, V_R, V_T, E_aK⟩⟩
def Q_news (Z : State) (k : Addr) (aK : Addr) (aR : Addr) (aT : Addr) (sf : Int32) (K : Nat → Int64) (Rr : Nat → Int64) (Tt : Nat → Int64) (rs : Int64) (r_ : Int32) (rn : Nat) (aN : Addr) (fN : Nat → Value) (h0 : Heap) (n0 : Nat) (v : Option Value) (h : Heap) (L : List Loc) : Prop := ∃ rr : Addr, v = some (.ref rr) ∧ Fr n0 L ∧ (Keep h0 h [k, aK, aR, aT]) ∧ (own_KR Z h k aK aR aT sf K Rr (own_upd Tt rn rs) rs) ∧ (own_AV Z h rr .long (own_L3 (own_u Rr Tt rn) K).length (fun i => .long ((own_L3 (own_u Rr Tt rn) K).getD i 0))) ∧ (∀ x : Addr, n0 ≤ x → x < h0.size → rr ≠ x)
theorem ef_news (m : MethodId) (x0 : Addr) (x1 : Int32)  : entryFrame m #[(.ref x0), (.int x1)] 6 = mkF m 0 #[.val (.ref x0), .val (.int x1), .unset, .unset, .unset, .unset] [] := by first | (simp [entryFrame, mkF, argsToLocals, Value.category]; done) | rfl
set_option maxRecDepth 65536 in
set_option maxHeartbeats 40000000 in
theorem rm_news (l : Launch) (Z : State) (a0 : Array Value) (hw : ∀ d ∈ tables_1, d.before a0 Z = true) (ws : List Jvm.Cond) (k : Addr) (aK : Addr) (aR : Addr) (aT : Addr) (sf : Int32) (K : Nat → Int64) (Rr : Nat → Int64) (Tt : Nat → Int64) (rs : Int64) (r_ : Int32) (rn : Nat) (aN : Addr) (fN : Nat → Value) (h0 : Heap) (n0 : Nat) (Zs : n0 ≤ h0.size) (BB : own_KR Z h0 k aK aR aT sf K Rr Tt rs) (hr : r_.toInt = (rn : Int)) (hlr : rn < 3) (hinv : ∀ i, i < 3 → ¬ rs < Rr i) (O : Old Z n0 h0) (S0 : Sta Z Z.heap "com/example/coterie/coterie/runtime/KnownRequests" "NOTHING_NEW" "[J" (.ref aN)) (VN : own_AV Z Z.heap aN .long 0 fN) (n1 : k ≠ aK) (n2 : k ≠ aR) (n3 : k ≠ aT) (n4 : aK ≠ aR) (n5 : aK ≠ aT) (n6 : aR ≠ aT) (g_k : n0 ≤ k) (g_aK : n0 ≤ aK) (g_aR : n0 ≤ aR) (g_aT : n0 ≤ aT) :
    MetFree l (⟨"com/example/coterie/coterie/runtime/KnownRequests", "news", "(I)[J"⟩ : MethodName) (head1 (Jvm.Cond.code (⟨"com/example/coterie/coterie/runtime/KnownRequests", "news", "(I)[J"⟩ : MethodName) prog_86_method_3_code 6 (some (.array .long)) :: ws) ({ frames := 1, cells := 1, slots := 6, locals := 30 } : Room)) (fun a U => a = #[(.ref k), (.int r_)] ∧ Z.Warmed39 U.vm ∧ U.heap = h0) (fun _ _ _ _ _ => True) (fun _ U o U' => ∃ v L, o = .returned v ∧ (Q_news Z k aK aR aT sf K Rr Tt rs r_ rn aN fN h0 n0) v U'.heap L ∧ FrameEnd U o U' L ({ frames := 1, cells := 1, slots := 6, locals := 30 } : Room).cells ({ frames := 1, cells := 1, slots := 6, locals := 30 } : Room).slots) := by
  refine MetFree.of_bodySF (plainFor_of_name own_pn0) hisR ?_
  intro p e s m args below meth c s₁ Bd hml0 hP hK
  obtain ⟨rfl, hZ, hh⟩ := hP
  have hx := Bd.exec
  have hby := Bd.bytes
  have hlk := BodyLoose.notSynchronized Bd
  have hret := Bd.returns
  have hml : c.maxLocals = 6 := hml0
  have hown : s.vm.findClass "com/example/coterie/coterie/runtime/KnownRequests" = some m.cls := findClass_of_methodNamed Bd.named
  have hnm := (name_of_methodNamed Bd.named Bd.method).1
  have X : Stand p l e ({ frames := 1, cells := 1, slots := 6, locals := 30 } : Room) s m #[(.ref k), (.int r_)] below meth c s₁ [] 0 0 := Stand.of_body Bd
  have eT : s₁.heap = h0 := by rw [← hh, Bd.state]; rfl
  have N := Fr.nil n0
  have K0 : Keep h0 h0 [k, aK, aR, aT] := Keep.refl _ _
  show own_Go p e below s (Q_news Z k aK aR aT sf K Rr Tt rs r_ rn aN fN h0 n0) ({ frames := 1, cells := 1, slots := 6, locals := 30 } : Room).cells ({ frames := 1, cells := 1, slots := 6, locals := 30 } : Room).slots s₁ (entryFrame m #[(.ref k), (.int r_)] 6)
  rw [ef_news m k r_]
  obtain ⟨E_k, F_self, F_known, F_rose, F_told, F_rises, V_K, V_R, V_T, E_aK⟩ := BB
  refine own_st (T' := s₁) (g' := (mkF m 1 #[.val (.ref k), .val (.int r_), .unset, .unset, .unset, .unset] [(.ref k)])) (fun _ zq => XS.aloadN X.here hx rfl (hb hby own_d_prog_86_m3_0) rfl rfl zq) ?_
  obtain ⟨T27, X27, e27, st27⟩ := getF X hx hZ hown (host := "") (Or.inl (hw _ (List.mem_of_getElem? (i := 16) rfl))) Via.refl eT F_told (g := (mkF m 1 #[.val (.ref k), .val (.int r_), .unset, .unset, .unset, .unset] [(.ref k)])) rfl rfl (hb hby own_d_prog_86_m3_1)
  refine own_st (g' := (mkF m 4 #[.val (.ref k), .val (.int r_), .unset, .unset, .unset, .unset] [(.ref aT)])) st27 ?_
  refine own_st (T' := T27) (g' := (mkF m 5 #[.val (.ref k), .val (.int r_), .unset, .unset, .unset, .unset] [(.int r_), (.ref aT)])) (fun _ zq => XS.iloadN X27.here hx rfl (hb hby own_d_prog_86_m3_4) rfl zq) ?_
  refine own_st (T' := T27) (g' := (mkF m 6 #[.val (.ref k), .val (.int r_), .unset, .unset, .unset, .unset] [(.long (Tt rn))])) (own_ldJ X27 hx hZ e27 V_T (j := r_) (rn) hr hlr (w := (.long (Tt rn))) rfl (g := (mkF m 5 #[.val (.ref k), .val (.int r_), .unset, .unset, .unset, .unset] [(.int r_), (.ref aT)])) rfl rfl (hb hby own_d_prog_86_m3_5)) ?_
  refine own_st (T' := T27) (g' := (mkF m 7 #[.val (.ref k), .val (.int r_), .unset, .unset, .unset, .unset] [(.ref k), (.long (Tt rn))])) (fun _ zq => XS.aloadN X27.here hx rfl (hb hby own_d_prog_86_m3_6) rfl rfl zq) ?_
  obtain ⟨T28, X28, e28, st28⟩ := getF X27 hx hZ hown (host := "") (Or.inl (hw _ (List.mem_of_getElem? (i := 27) rfl))) Via.refl e27 F_rises (g := (mkF m 7 #[.val (.ref k), .val (.int r_), .unset, .unset, .unset, .unset] [(.ref k), (.long (Tt rn))])) rfl rfl (hb hby own_d_prog_86_m3_7)
  refine own_st (g' := (mkF m 10 #[.val (.ref k), .val (.int r_), .unset, .unset, .unset, .unset] [(.long rs), (.long (Tt rn))])) st28 ?_
  refine own_st (T' := T28) (g' := (mkF m 11 #[.val (.ref k), .val (.int r_), .unset, .unset, .unset, .unset] [(.int (lcmpW (Tt rn) rs))])) (fun _ zq => XS.lcmp X28.here hx rfl (hb hby own_d_prog_86_m3_10) rfl zq) ?_
  by_cases hc : (Tt rn) = rs
  · skip
    refine own_st (T' := T28) (g' := (mkF m 14 #[.val (.ref k), .val (.int r_), .unset, .unset, .unset, .unset] [])) (fun _ zq => XS.ifNo X28.here hx rfl (hb hby own_d_prog_86_m3_11) rfl (own_lteq hc).2 zq) ?_
    have Sv := S0.ext O.2
    obtain ⟨T29, X29, e29, st29⟩ := getS2 X28 hx hZ hown (host := "") (Or.inl (hw _ (List.mem_of_getElem? (i := 38) rfl))) Via.refl e28 Sv (g := (mkF m 14 #[.val (.ref k), .val (.int r_), .unset, .unset, .unset, .unset] [])) rfl (hb hby own_d_prog_86_m3_14)
    refine own_st (g' := (mkF m 17 #[.val (.ref k), .val (.int r_), .unset, .unset, .unset, .unset] [(.ref aN)])) st29 ?_
    have hnil := own_nil (K := K) hc hinv
    have hul := own_updSame hc
    exact own_ret X29 hx hret hlk (i := .areturn) rfl (Or.inr (Or.inr (Or.inr (Or.inr ⟨rfl, rfl, rfl⟩)))) (hb hby own_d_prog_86_m3_17) e29 (Nat.le_of_ble_eq_true rfl) (Nat.le_of_ble_eq_true rfl) ⟨aN, rfl, N, K0, by rw [hul]; exact ⟨E_k, F_self, F_known, F_rose, F_told, F_rises, V_K, V_R, V_T, E_aK⟩, by rw [hnil]; exact (VN.ext O.2).cong (fun i hi => absurd hi (Nat.not_lt_zero _)), fun x h1 _ q => Nat.lt_irrefl _ (Nat.lt_of_lt_of_le (O.1 ▸ VN.lt) (q ▸ h1))⟩
  · skip
    refine own_st (T' := T28) (g' := (mkF m 18 #[.val (.ref k), .val (.int r_), .unset, .unset, .unset, .unset] [])) (fun _ zq => XS.ifYes X28.here hx rfl (pc0 := 11) (pc' := 18) rfl (hb hby own_d_prog_86_m3_11) rfl (own_lfeq hc).2 (by decide) (by decide) zq) ?_
    refine own_st (T' := T28) (g' := (mkF m 19 #[.val (.ref k), .val (.int r_), .unset, .unset, .unset, .unset] [(.int (0 : Int32))])) (fun _ zq => XS.iconst X28.here hx rfl (hb hby own_d_prog_86_m3_18) zq) ?_
    refine own_st (T' := T28) (g' := (mkF m 20 #[.val (.ref k), .val (.int r_), .val (.int (0 : Int32)), .unset, .unset, .unset] [])) (fun _ zq => XS.istoreN X28.here hx rfl (hb hby own_d_prog_86_m3_19) rfl (l' := #[.val (.ref k), .val (.int r_), .val (.int (0 : Int32)), .unset, .unset, .unset]) rfl zq) ?_
    refine own_st (T' := T28) (g' := (mkF m 21 #[.val (.ref k), .val (.int r_), .val (.int (0 : Int32)), .unset, .unset, .unset] [(.int (0 : Int32))])) (fun _ zq => XS.iconst X28.here hx rfl (hb hby own_d_prog_86_m3_20) zq) ?_
    refine own_st (T' := T28) (g' := (mkF m 22 #[.val (.ref k), .val (.int r_), .val (.int (0 : Int32)), .val (.int (0 : Int32)), .unset, .unset] [])) (fun _ zq => XS.istoreN X28.here hx rfl (hb hby own_d_prog_86_m3_21) rfl (l' := #[.val (.ref k), .val (.int r_), .val (.int (0 : Int32)), .val (.int (0 : Int32)), .unset, .unset]) rfl zq) ?_
    refine own_st (T' := T28) (g' := (mkF m 23 #[.val (.ref k), .val (.int r_), .val (.int (0 : Int32)), .val (.int (0 : Int32)), .unset, .unset] [(.int (0 : Int32))])) (fun _ zq => XS.iloadN X28.here hx rfl (hb hby own_d_prog_86_m3_22) rfl zq) ?_
    refine own_st (T' := T28) (g' := (mkF m 24 #[.val (.ref k), .val (.int r_), .val (.int (0 : Int32)), .val (.int (0 : Int32)), .unset, .unset] [(.ref k), (.int (0 : Int32))])) (fun _ zq => XS.aloadN X28.here hx rfl (hb hby own_d_prog_86_m3_23) rfl rfl zq) ?_
    obtain ⟨T30, X30, e30, st30⟩ := getF X28 hx hZ hown (host := "") (Or.inl (hw _ (List.mem_of_getElem? (i := 12) rfl))) Via.refl e28 F_known (g := (mkF m 24 #[.val (.ref k), .val (.int r_), .val (.int (0 : Int32)), .val (.int (0 : Int32)), .unset, .unset] [(.ref k), (.int (0 : Int32))])) rfl rfl (hb hby own_d_prog_86_m3_24)
    refine own_st (g' := (mkF m 27 #[.val (.ref k), .val (.int r_), .val (.int (0 : Int32)), .val (.int (0 : Int32)), .unset, .unset] [(.ref aK), (.int (0 : Int32))])) st30 ?_
    refine own_st (T' := T30) (g' := (mkF m 28 #[.val (.ref k), .val (.int r_), .val (.int (0 : Int32)), .val (.int (0 : Int32)), .unset, .unset] [(.int (3 : Int32)), (.int (0 : Int32))])) (own_len (z := (3 : Int32)) X30 hx hZ e30 V_K rfl (g := (mkF m 27 #[.val (.ref k), .val (.int r_), .val (.int (0 : Int32)), .val (.int (0 : Int32)), .unset, .unset] [(.ref aK), (.int (0 : Int32))])) rfl rfl (hb hby own_d_prog_86_m3_27)) ?_
    refine own_st (T' := T30) (g' := (mkF m 31 #[.val (.ref k), .val (.int r_), .val (.int (0 : Int32)), .val (.int (0 : Int32)), .unset, .unset] [])) (fun _ zq => XS.icmpNo X30.here hx rfl (hb hby own_d_prog_86_m3_28) rfl (tlt (by decide)).2.1 zq) ?_
    refine own_st (T' := T30) (g' := (mkF m 32 #[.val (.ref k), .val (.int r_), .val (.int (0 : Int32)), .val (.int (0 : Int32)), .unset, .unset] [(.ref k)])) (fun _ zq => XS.aloadN X30.here hx rfl (hb hby own_d_prog_86_m3_31) rfl rfl zq) ?_
    refine own_st (T' := T30) (g' := (mkF m 33 #[.val (.ref k), .val (.int r_), .val (.int (0 : Int32)), .val (.int (0 : Int32)), .unset, .unset] [(.int (0 : Int32)), (.ref k)])) (fun _ zq => XS.iloadN X30.here hx rfl (hb hby own_d_prog_86_m3_32) rfl zq) ?_
    refine own_st (T' := T30) (g' := (mkF m 34 #[.val (.ref k), .val (.int r_), .val (.int (0 : Int32)), .val (.int (0 : Int32)), .unset, .unset] [(.int r_), (.int (0 : Int32)), (.ref k)])) (fun _ zq => XS.iloadN X30.here hx rfl (hb hby own_d_prog_86_m3_33) rfl zq) ?_
    have BB : own_KR Z h0 k aK aR aT sf K Rr Tt rs := ⟨E_k, F_self, F_known, F_rose, F_told, F_rises, V_K, V_R, V_T, E_aK⟩
    obtain ⟨cq31, q31, q31'⟩ := E_k.cell
    obtain ⟨_, _, ⟨T31, L31, k31, n31⟩, -, X31, ⟨Lc31, hQ31, l31, y31, z31⟩, st31⟩ := X30.privateBack hx (y := (⟨"com/example/coterie/coterie/runtime/KnownRequests", "untold", "(II)Z"⟩ : MethodName)) hown (mvT hZ (hw _ (List.mem_of_getElem? (i := 34) rfl))) (mvT hZ (hw _ (List.mem_of_getElem? (i := 35) rfl))) (own_selP hZ (hw _ (List.mem_of_getElem? (i := 2) rfl)) (hw _ (List.mem_of_getElem? (i := 36) rfl)) (hw _ (List.mem_of_getElem? (i := 35) rfl)) (by decide)) (Cond.privateMethod_at (mvP hZ (hw _ (List.mem_of_getElem? (i := 36) rfl)) (args := #[]))) (mvT hZ (hw _ (List.mem_of_getElem? (i := 37) rfl))) (by decide) (backOf (W := 0) (rm_untold l Z a0 hw [] k aK aR aT sf K Rr Tt rs (0 : Int32) 0 r_ rn h0 n0 Zs BB rfl (by decide) hr hlr) hZ (hw _ (List.mem_of_getElem? (i := 37) rfl)) (hw _ (List.mem_of_getElem? (i := 3) rfl)) (by decide) (by decide)) (g := (mkF m 34 #[.val (.ref k), .val (.int r_), .val (.int (0 : Int32)), .val (.int (0 : Int32)), .unset, .unset] [(.int r_), (.int (0 : Int32)), (.ref k)])) rfl (by rw [hml]; rfl) (Steps.refl _) (a := k) (by rw [e30]; exact q31) q31' (argsL := [(.int (0 : Int32)), (.int r_)]) (rest := []) (lenOf own_pd1 rfl) rfl (by show 2 * 0 + _ ≤ _; exact Nat.le_of_eq rfl) (hb hby own_d_prog_86_m3_34) (fun _ _ => ⟨rfl, e30, (by decide : 0 + 0 ≤ _), (by decide : 0 + 0 ≤ _)⟩)
    dsimp only [Pt.U, Pt.locs, Pt.cells, Pt.slots] at X31 l31 y31 z31 st31 hQ31
    subst l31 y31 z31
    obtain ⟨rfl, Nq31, eq31⟩ := hQ31
    replace N := Fr.app N Nq31
    refine own_tr (g' := (mkF m 37 #[.val (.ref k), .val (.int r_), .val (.int (0 : Int32)), .val (.int (0 : Int32)), .unset, .unset] [(.int (if own_u Rr Tt rn 0 = true then 1 else 0))])) st31 ?_
    suffices J43_0 : ∀ (c1 : Int32) (hc1 : c1 = if own_u Rr Tt rn 0 = true then (0 : Int32) + 1 else (0 : Int32)), own_Go p e below s (Q_news Z k aK aR aT sf K Rr Tt rs r_ rn aN fN h0 n0) ({ frames := 1, cells := 1, slots := 6, locals := 30 } : Room).cells ({ frames := 1, cells := 1, slots := 6, locals := 30 } : Room).slots T31 (mkF m 43 #[.val (.ref k), .val (.int r_), .val (.int c1), .val (.int (0 : Int32)), .unset, .unset] []) by
      by_cases hu : own_u Rr Tt rn 0 = true
      · skip
        refine own_st (T' := T31) (g' := (mkF m 40 #[.val (.ref k), .val (.int r_), .val (.int (0 : Int32)), .val (.int (0 : Int32)), .unset, .unset] [])) (fun _ zq => XS.ifNo X31.here hx rfl (hb hby own_d_prog_86_m3_37) rfl ((if0 _ _).trans (feq (by rw [if_pos hu]; decide)).1) zq) ?_
        refine own_st (T' := T31) (g' := (mkF m 43 #[.val (.ref k), .val (.int r_), .val (.int ((0 : Int32) + (1 : Int32))), .val (.int (0 : Int32)), .unset, .unset] [])) (fun _ zq => XS.iinc X31.here hx rfl (hb hby own_d_prog_86_m3_40) rfl (l' := #[.val (.ref k), .val (.int r_), .val (.int ((0 : Int32) + (1 : Int32))), .val (.int (0 : Int32)), .unset, .unset]) rfl zq) ?_
        exact J43_0 _ (if_pos hu).symm
      · skip
        refine own_st (T' := T31) (g' := (mkF m 43 #[.val (.ref k), .val (.int r_), .val (.int (0 : Int32)), .val (.int (0 : Int32)), .unset, .unset] [])) (fun _ zq => XS.ifYes X31.here hx rfl (pc0 := 37) (pc' := 43) rfl (hb hby own_d_prog_86_m3_37) rfl ((if0 _ _).trans (teq (by rw [if_neg hu])).1) (by decide) (by decide) zq) ?_
        exact J43_0 _ (if_neg hu).symm
    intro c1 hc1
    refine own_st (T' := T31) (g' := (mkF m 46 #[.val (.ref k), .val (.int r_), .val (.int c1), .val (.int ((0 : Int32) + (1 : Int32))), .unset, .unset] [])) (fun _ zq => XS.iinc X31.here hx rfl (hb hby own_d_prog_86_m3_43) rfl (l' := #[.val (.ref k), .val (.int r_), .val (.int c1), .val (.int ((0 : Int32) + (1 : Int32))), .unset, .unset]) rfl zq) ?_
    show own_Go p e below s (Q_news Z k aK aR aT sf K Rr Tt rs r_ rn aN fN h0 n0) ({ frames := 1, cells := 1, slots := 6, locals := 30 } : Room).cells ({ frames := 1, cells := 1, slots := 6, locals := 30 } : Room).slots T31 (mkF m 46 #[.val (.ref k), .val (.int r_), .val (.int c1), .val (.int (1 : Int32)), .unset, .unset] [])
    refine own_st (T' := T31) (g' := (mkF m 22 #[.val (.ref k), .val (.int r_), .val (.int c1), .val (.int (1 : Int32)), .unset, .unset] [])) (fun _ zq => XS.goto X31.here hx rfl (pc0 := 46) (pc' := 22) rfl (hb hby own_d_prog_86_m3_46) (by decide) (by decide) zq) ?_
    refine own_st (T' := T31) (g' := (mkF m 23 #[.val (.ref k), .val (.int r_), .val (.int c1), .val (.int (1 : Int32)), .unset, .unset] [(.int (1 : Int32))])) (fun _ zq => XS.iloadN X31.here hx rfl (hb hby own_d_prog_86_m3_22) rfl zq) ?_
    refine own_st (T' := T31) (g' := (mkF m 24 #[.val (.ref k), .val (.int r_), .val (.int c1), .val (.int (1 : Int32)), .unset, .unset] [(.ref k), (.int (1 : Int32))])) (fun _ zq => XS.aloadN X31.here hx rfl (hb hby own_d_prog_86_m3_23) rfl rfl zq) ?_
    obtain ⟨T32, X32, e32, st32⟩ := getF X31 hx hZ hown (host := "") (Or.inl (hw _ (List.mem_of_getElem? (i := 12) rfl))) Via.refl (eq31) F_known (g := (mkF m 24 #[.val (.ref k), .val (.int r_), .val (.int c1), .val (.int (1 : Int32)), .unset, .unset] [(.ref k), (.int (1 : Int32))])) rfl rfl (hb hby own_d_prog_86_m3_24)
    refine own_st (g' := (mkF m 27 #[.val (.ref k), .val (.int r_), .val (.int c1), .val (.int (1 : Int32)), .unset, .unset] [(.ref aK), (.int (1 : Int32))])) st32 ?_
    refine own_st (T' := T32) (g' := (mkF m 28 #[.val (.ref k), .val (.int r_), .val (.int c1), .val (.int (1 : Int32)), .unset, .unset] [(.int (3 : Int32)), (.int (1 : Int32))])) (own_len (z := (3 : Int32)) X32 hx hZ e32 V_K rfl (g := (mkF m 27 #[.val (.ref k), .val (.int r_), .val (.int c1), .val (.int (1 : Int32)), .unset, .unset] [(.ref aK), (.int (1 : Int32))])) rfl rfl (hb hby own_d_prog_86_m3_27)) ?_
    refine own_st (T' := T32) (g' := (mkF m 31 #[.val (.ref k), .val (.int r_), .val (.int c1), .val (.int (1 : Int32)), .unset, .unset] [])) (fun _ zq => XS.icmpNo X32.here hx rfl (hb hby own_d_prog_86_m3_28) rfl (tlt (by decide)).2.1 zq) ?_
    refine own_st (T' := T32) (g' := (mkF m 32 #[.val (.ref k), .val (.int r_), .val (.int c1), .val (.int (1 : Int32)), .unset, .unset] [(.ref k)])) (fun _ zq => XS.aloadN X32.here hx rfl (hb hby own_d_prog_86_m3_31) rfl rfl zq) ?_
    refine own_st (T' := T32) (g' := (mkF m 33 #[.val (.ref k), .val (.int r_), .val (.int c1), .val (.int (1 : Int32)), .unset, .unset] [(.int (1 : Int32)), (.ref k)])) (fun _ zq => XS.iloadN X32.here hx rfl (hb hby own_d_prog_86_m3_32) rfl zq) ?_
    refine own_st (T' := T32) (g' := (mkF m 34 #[.val (.ref k), .val (.int r_), .val (.int c1), .val (.int (1 : Int32)), .unset, .unset] [(.int r_), (.int (1 : Int32)), (.ref k)])) (fun _ zq => XS.iloadN X32.here hx rfl (hb hby own_d_prog_86_m3_33) rfl zq) ?_
    have BB : own_KR Z h0 k aK aR aT sf K Rr Tt rs := ⟨E_k, F_self, F_known, F_rose, F_told, F_rises, V_K, V_R, V_T, E_aK⟩
    obtain ⟨cq33, q33, q33'⟩ := E_k.cell
    obtain ⟨_, _, ⟨T33, L33, k33, n33⟩, -, X33, ⟨Lc33, hQ33, l33, y33, z33⟩, st33⟩ := X32.privateBack hx (y := (⟨"com/example/coterie/coterie/runtime/KnownRequests", "untold", "(II)Z"⟩ : MethodName)) hown (mvT hZ (hw _ (List.mem_of_getElem? (i := 34) rfl))) (mvT hZ (hw _ (List.mem_of_getElem? (i := 35) rfl))) (own_selP hZ (hw _ (List.mem_of_getElem? (i := 2) rfl)) (hw _ (List.mem_of_getElem? (i := 36) rfl)) (hw _ (List.mem_of_getElem? (i := 35) rfl)) (by decide)) (Cond.privateMethod_at (mvP hZ (hw _ (List.mem_of_getElem? (i := 36) rfl)) (args := #[]))) (mvT hZ (hw _ (List.mem_of_getElem? (i := 37) rfl))) (by decide) (backOf (W := 0) (rm_untold l Z a0 hw [] k aK aR aT sf K Rr Tt rs (1 : Int32) 1 r_ rn h0 n0 Zs BB rfl (by decide) hr hlr) hZ (hw _ (List.mem_of_getElem? (i := 37) rfl)) (hw _ (List.mem_of_getElem? (i := 3) rfl)) (by decide) (by decide)) (g := (mkF m 34 #[.val (.ref k), .val (.int r_), .val (.int c1), .val (.int (1 : Int32)), .unset, .unset] [(.int r_), (.int (1 : Int32)), (.ref k)])) rfl (by rw [hml]; rfl) (Steps.refl _) (a := k) (by rw [e32]; exact q33) q33' (argsL := [(.int (1 : Int32)), (.int r_)]) (rest := []) (lenOf own_pd1 rfl) rfl (by show 2 * 0 + _ ≤ _; exact Nat.le_of_eq rfl) (hb hby own_d_prog_86_m3_34) (fun _ _ => ⟨rfl, e32, (by decide : 0 + 0 ≤ _), (by decide : 0 + 0 ≤ _)⟩)
    dsimp only [Pt.U, Pt.locs, Pt.cells, Pt.slots] at X33 l33 y33 z33 st33 hQ33
    subst l33 y33 z33
    obtain ⟨rfl, Nq33, eq33⟩ := hQ33
    replace N := Fr.app N Nq33
    refine own_tr (g' := (mkF m 37 #[.val (.ref k), .val (.int r_), .val (.int c1), .val (.int (1 : Int32)), .unset, .unset] [(.int (if own_u Rr Tt rn 1 = true then 1 else 0))])) st33 ?_
    suffices J43_1 : ∀ (c2 : Int32) (hc2 : c2 = if own_u Rr Tt rn 1 = true then c1 + 1 else c1), own_Go p e below s (Q_news Z k aK aR aT sf K Rr Tt rs r_ rn aN fN h0 n0) ({ frames := 1, cells := 1, slots := 6, locals := 30 } : Room).cells ({ frames := 1, cells := 1, slots := 6, locals := 30 } : Room).slots T33 (mkF m 43 #[.val (.ref k), .val (.int r_), .val (.int c2), .val (.int (1 : Int32)), .unset, .unset] []) by
      by_cases hu : own_u Rr Tt rn 1 = true
      · skip
        refine own_st (T' := T33) (g' := (mkF m 40 #[.val (.ref k), .val (.int r_), .val (.int c1), .val (.int (1 : Int32)), .unset, .unset] [])) (fun _ zq => XS.ifNo X33.here hx rfl (hb hby own_d_prog_86_m3_37) rfl ((if0 _ _).trans (feq (by rw [if_pos hu]; decide)).1) zq) ?_
        refine own_st (T' := T33) (g' := (mkF m 43 #[.val (.ref k), .val (.int r_), .val (.int (c1 + (1 : Int32))), .val (.int (1 : Int32)), .unset, .unset] [])) (fun _ zq => XS.iinc X33.here hx rfl (hb hby own_d_prog_86_m3_40) rfl (l' := #[.val (.ref k), .val (.int r_), .val (.int (c1 + (1 : Int32))), .val (.int (1 : Int32)), .unset, .unset]) rfl zq) ?_
        exact J43_1 _ (if_pos hu).symm
      · skip
        refine own_st (T' := T33) (g' := (mkF m 43 #[.val (.ref k), .val (.int r_), .val (.int c1), .val (.int (1 : Int32)), .unset, .unset] [])) (fun _ zq => XS.ifYes X33.here hx rfl (pc0 := 37) (pc' := 43) rfl (hb hby own_d_prog_86_m3_37) rfl ((if0 _ _).trans (teq (by rw [if_neg hu])).1) (by decide) (by decide) zq) ?_
        exact J43_1 _ (if_neg hu).symm
    intro c2 hc2
    refine own_st (T' := T33) (g' := (mkF m 46 #[.val (.ref k), .val (.int r_), .val (.int c2), .val (.int ((1 : Int32) + (1 : Int32))), .unset, .unset] [])) (fun _ zq => XS.iinc X33.here hx rfl (hb hby own_d_prog_86_m3_43) rfl (l' := #[.val (.ref k), .val (.int r_), .val (.int c2), .val (.int ((1 : Int32) + (1 : Int32))), .unset, .unset]) rfl zq) ?_
    show own_Go p e below s (Q_news Z k aK aR aT sf K Rr Tt rs r_ rn aN fN h0 n0) ({ frames := 1, cells := 1, slots := 6, locals := 30 } : Room).cells ({ frames := 1, cells := 1, slots := 6, locals := 30 } : Room).slots T33 (mkF m 46 #[.val (.ref k), .val (.int r_), .val (.int c2), .val (.int (2 : Int32)), .unset, .unset] [])
    refine own_st (T' := T33) (g' := (mkF m 22 #[.val (.ref k), .val (.int r_), .val (.int c2), .val (.int (2 : Int32)), .unset, .unset] [])) (fun _ zq => XS.goto X33.here hx rfl (pc0 := 46) (pc' := 22) rfl (hb hby own_d_prog_86_m3_46) (by decide) (by decide) zq) ?_
    refine own_st (T' := T33) (g' := (mkF m 23 #[.val (.ref k), .val (.int r_), .val (.int c2), .val (.int (2 : Int32)), .unset, .unset] [(.int (2 : Int32))])) (fun _ zq => XS.iloadN X33.here hx rfl (hb hby own_d_prog_86_m3_22) rfl zq) ?_
    refine own_st (T' := T33) (g' := (mkF m 24 #[.val (.ref k), .val (.int r_), .val (.int c2), .val (.int (2 : Int32)), .unset, .unset] [(.ref k), (.int (2 : Int32))])) (fun _ zq => XS.aloadN X33.here hx rfl (hb hby own_d_prog_86_m3_23) rfl rfl zq) ?_
    obtain ⟨T34, X34, e34, st34⟩ := getF X33 hx hZ hown (host := "") (Or.inl (hw _ (List.mem_of_getElem? (i := 12) rfl))) Via.refl (eq33) F_known (g := (mkF m 24 #[.val (.ref k), .val (.int r_), .val (.int c2), .val (.int (2 : Int32)), .unset, .unset] [(.ref k), (.int (2 : Int32))])) rfl rfl (hb hby own_d_prog_86_m3_24)
    refine own_st (g' := (mkF m 27 #[.val (.ref k), .val (.int r_), .val (.int c2), .val (.int (2 : Int32)), .unset, .unset] [(.ref aK), (.int (2 : Int32))])) st34 ?_
    refine own_st (T' := T34) (g' := (mkF m 28 #[.val (.ref k), .val (.int r_), .val (.int c2), .val (.int (2 : Int32)), .unset, .unset] [(.int (3 : Int32)), (.int (2 : Int32))])) (own_len (z := (3 : Int32)) X34 hx hZ e34 V_K rfl (g := (mkF m 27 #[.val (.ref k), .val (.int r_), .val (.int c2), .val (.int (2 : Int32)), .unset, .unset] [(.ref aK), (.int (2 : Int32))])) rfl rfl (hb hby own_d_prog_86_m3_27)) ?_
    refine own_st (T' := T34) (g' := (mkF m 31 #[.val (.ref k), .val (.int r_), .val (.int c2), .val (.int (2 : Int32)), .unset, .unset] [])) (fun _ zq => XS.icmpNo X34.here hx rfl (hb hby own_d_prog_86_m3_28) rfl (tlt (by decide)).2.1 zq) ?_
    refine own_st (T' := T34) (g' := (mkF m 32 #[.val (.ref k), .val (.int r_), .val (.int c2), .val (.int (2 : Int32)), .unset, .unset] [(.ref k)])) (fun _ zq => XS.aloadN X34.here hx rfl (hb hby own_d_prog_86_m3_31) rfl rfl zq) ?_
    refine own_st (T' := T34) (g' := (mkF m 33 #[.val (.ref k), .val (.int r_), .val (.int c2), .val (.int (2 : Int32)), .unset, .unset] [(.int (2 : Int32)), (.ref k)])) (fun _ zq => XS.iloadN X34.here hx rfl (hb hby own_d_prog_86_m3_32) rfl zq) ?_
    refine own_st (T' := T34) (g' := (mkF m 34 #[.val (.ref k), .val (.int r_), .val (.int c2), .val (.int (2 : Int32)), .unset, .unset] [(.int r_), (.int (2 : Int32)), (.ref k)])) (fun _ zq => XS.iloadN X34.here hx rfl (hb hby own_d_prog_86_m3_33) rfl zq) ?_
    have BB : own_KR Z h0 k aK aR aT sf K Rr Tt rs := ⟨E_k, F_self, F_known, F_rose, F_told, F_rises, V_K, V_R, V_T, E_aK⟩
    obtain ⟨cq35, q35, q35'⟩ := E_k.cell
    obtain ⟨_, _, ⟨T35, L35, k35, n35⟩, -, X35, ⟨Lc35, hQ35, l35, y35, z35⟩, st35⟩ := X34.privateBack hx (y := (⟨"com/example/coterie/coterie/runtime/KnownRequests", "untold", "(II)Z"⟩ : MethodName)) hown (mvT hZ (hw _ (List.mem_of_getElem? (i := 34) rfl))) (mvT hZ (hw _ (List.mem_of_getElem? (i := 35) rfl))) (own_selP hZ (hw _ (List.mem_of_getElem? (i := 2) rfl)) (hw _ (List.mem_of_getElem? (i := 36) rfl)) (hw _ (List.mem_of_getElem? (i := 35) rfl)) (by decide)) (Cond.privateMethod_at (mvP hZ (hw _ (List.mem_of_getElem? (i := 36) rfl)) (args := #[]))) (mvT hZ (hw _ (List.mem_of_getElem? (i := 37) rfl))) (by decide) (backOf (W := 0) (rm_untold l Z a0 hw [] k aK aR aT sf K Rr Tt rs (2 : Int32) 2 r_ rn h0 n0 Zs BB rfl (by decide) hr hlr) hZ (hw _ (List.mem_of_getElem? (i := 37) rfl)) (hw _ (List.mem_of_getElem? (i := 3) rfl)) (by decide) (by decide)) (g := (mkF m 34 #[.val (.ref k), .val (.int r_), .val (.int c2), .val (.int (2 : Int32)), .unset, .unset] [(.int r_), (.int (2 : Int32)), (.ref k)])) rfl (by rw [hml]; rfl) (Steps.refl _) (a := k) (by rw [e34]; exact q35) q35' (argsL := [(.int (2 : Int32)), (.int r_)]) (rest := []) (lenOf own_pd1 rfl) rfl (by show 2 * 0 + _ ≤ _; exact Nat.le_of_eq rfl) (hb hby own_d_prog_86_m3_34) (fun _ _ => ⟨rfl, e34, (by decide : 0 + 0 ≤ _), (by decide : 0 + 0 ≤ _)⟩)
    dsimp only [Pt.U, Pt.locs, Pt.cells, Pt.slots] at X35 l35 y35 z35 st35 hQ35
    subst l35 y35 z35
    obtain ⟨rfl, Nq35, eq35⟩ := hQ35
    replace N := Fr.app N Nq35
    refine own_tr (g' := (mkF m 37 #[.val (.ref k), .val (.int r_), .val (.int c2), .val (.int (2 : Int32)), .unset, .unset] [(.int (if own_u Rr Tt rn 2 = true then 1 else 0))])) st35 ?_
    suffices J43_2 : ∀ (c3 : Int32) (hc3 : c3 = if own_u Rr Tt rn 2 = true then c2 + 1 else c2), own_Go p e below s (Q_news Z k aK aR aT sf K Rr Tt rs r_ rn aN fN h0 n0) ({ frames := 1, cells := 1, slots := 6, locals := 30 } : Room).cells ({ frames := 1, cells := 1, slots := 6, locals := 30 } : Room).slots T35 (mkF m 43 #[.val (.ref k), .val (.int r_), .val (.int c3), .val (.int (2 : Int32)), .unset, .unset] []) by
      by_cases hu : own_u Rr Tt rn 2 = true
      · skip
        refine own_st (T' := T35) (g' := (mkF m 40 #[.val (.ref k), .val (.int r_), .val (.int c2), .val (.int (2 : Int32)), .unset, .unset] [])) (fun _ zq => XS.ifNo X35.here hx rfl (hb hby own_d_prog_86_m3_37) rfl ((if0 _ _).trans (feq (by rw [if_pos hu]; decide)).1) zq) ?_
        refine own_st (T' := T35) (g' := (mkF m 43 #[.val (.ref k), .val (.int r_), .val (.int (c2 + (1 : Int32))), .val (.int (2 : Int32)), .unset, .unset] [])) (fun _ zq => XS.iinc X35.here hx rfl (hb hby own_d_prog_86_m3_40) rfl (l' := #[.val (.ref k), .val (.int r_), .val (.int (c2 + (1 : Int32))), .val (.int (2 : Int32)), .unset, .unset]) rfl zq) ?_
        exact J43_2 _ (if_pos hu).symm
      · skip
        refine own_st (T' := T35) (g' := (mkF m 43 #[.val (.ref k), .val (.int r_), .val (.int c2), .val (.int (2 : Int32)), .unset, .unset] [])) (fun _ zq => XS.ifYes X35.here hx rfl (pc0 := 37) (pc' := 43) rfl (hb hby own_d_prog_86_m3_37) rfl ((if0 _ _).trans (teq (by rw [if_neg hu])).1) (by decide) (by decide) zq) ?_
        exact J43_2 _ (if_neg hu).symm
    intro c3 hc3
    refine own_st (T' := T35) (g' := (mkF m 46 #[.val (.ref k), .val (.int r_), .val (.int c3), .val (.int ((2 : Int32) + (1 : Int32))), .unset, .unset] [])) (fun _ zq => XS.iinc X35.here hx rfl (hb hby own_d_prog_86_m3_43) rfl (l' := #[.val (.ref k), .val (.int r_), .val (.int c3), .val (.int ((2 : Int32) + (1 : Int32))), .unset, .unset]) rfl zq) ?_
    show own_Go p e below s (Q_news Z k aK aR aT sf K Rr Tt rs r_ rn aN fN h0 n0) ({ frames := 1, cells := 1, slots := 6, locals := 30 } : Room).cells ({ frames := 1, cells := 1, slots := 6, locals := 30 } : Room).slots T35 (mkF m 46 #[.val (.ref k), .val (.int r_), .val (.int c3), .val (.int (3 : Int32)), .unset, .unset] [])
    refine own_st (T' := T35) (g' := (mkF m 22 #[.val (.ref k), .val (.int r_), .val (.int c3), .val (.int (3 : Int32)), .unset, .unset] [])) (fun _ zq => XS.goto X35.here hx rfl (pc0 := 46) (pc' := 22) rfl (hb hby own_d_prog_86_m3_46) (by decide) (by decide) zq) ?_
    refine own_st (T' := T35) (g' := (mkF m 23 #[.val (.ref k), .val (.int r_), .val (.int c3), .val (.int (3 : Int32)), .unset, .unset] [(.int (3 : Int32))])) (fun _ zq => XS.iloadN X35.here hx rfl (hb hby own_d_prog_86_m3_22) rfl zq) ?_
    refine own_st (T' := T35) (g' := (mkF m 24 #[.val (.ref k), .val (.int r_), .val (.int c3), .val (.int (3 : Int32)), .unset, .unset] [(.ref k), (.int (3 : Int32))])) (fun _ zq => XS.aloadN X35.here hx rfl (hb hby own_d_prog_86_m3_23) rfl rfl zq) ?_
    obtain ⟨T36, X36, e36, st36⟩ := getF X35 hx hZ hown (host := "") (Or.inl (hw _ (List.mem_of_getElem? (i := 12) rfl))) Via.refl (eq35) F_known (g := (mkF m 24 #[.val (.ref k), .val (.int r_), .val (.int c3), .val (.int (3 : Int32)), .unset, .unset] [(.ref k), (.int (3 : Int32))])) rfl rfl (hb hby own_d_prog_86_m3_24)
    refine own_st (g' := (mkF m 27 #[.val (.ref k), .val (.int r_), .val (.int c3), .val (.int (3 : Int32)), .unset, .unset] [(.ref aK), (.int (3 : Int32))])) st36 ?_
    refine own_st (T' := T36) (g' := (mkF m 28 #[.val (.ref k), .val (.int r_), .val (.int c3), .val (.int (3 : Int32)), .unset, .unset] [(.int (3 : Int32)), (.int (3 : Int32))])) (own_len (z := (3 : Int32)) X36 hx hZ e36 V_K rfl (g := (mkF m 27 #[.val (.ref k), .val (.int r_), .val (.int c3), .val (.int (3 : Int32)), .unset, .unset] [(.ref aK), (.int (3 : Int32))])) rfl rfl (hb hby own_d_prog_86_m3_27)) ?_
    refine own_st (T' := T36) (g' := (mkF m 49 #[.val (.ref k), .val (.int r_), .val (.int c3), .val (.int (3 : Int32)), .unset, .unset] [])) (fun _ zq => XS.icmpYes X36.here hx rfl (pc0 := 28) (pc' := 49) rfl (hb hby own_d_prog_86_m3_28) rfl (flt (by decide)).2.1 (by decide) (by decide) zq) ?_
    refine own_st (T' := T36) (g' := (mkF m 50 #[.val (.ref k), .val (.int r_), .val (.int c3), .val (.int (3 : Int32)), .unset, .unset] [(.int (2 : Int32))])) (fun _ zq => XS.iconst X36.here hx rfl (hb hby own_d_prog_86_m3_49) zq) ?_
    refine own_st (T' := T36) (g' := (mkF m 51 #[.val (.ref k), .val (.int r_), .val (.int c3), .val (.int (3 : Int32)), .unset, .unset] [(.int c3), (.int (2 : Int32))])) (fun _ zq => XS.iloadN X36.here hx rfl (hb hby own_d_prog_86_m3_50) rfl zq) ?_
    refine own_st (T' := T36) (g' := (mkF m 52 #[.val (.ref k), .val (.int r_), .val (.int c3), .val (.int (3 : Int32)), .unset, .unset] [(.int ((2 : Int32) * c3))])) (fun _ zq => XS.imul X36.here hx rfl (hb hby own_d_prog_86_m3_51) rfl zq) ?_
    obtain ⟨hlen, hle6⟩ := own_len3 (p := own_u Rr Tt rn) (K := K) hc1 hc2 hc3
    obtain ⟨T37, h37, k37, X37, e37, E37, A37, st37⟩ := newP X36 hx hZ (hw _ (List.mem_of_getElem? (i := 0) rfl)) e36 (g := (mkF m 52 #[.val (.ref k), .val (.int r_), .val (.int c3), .val (.int (3 : Int32)), .unset, .unset] [(.int ((2 : Int32) * c3))])) rfl (hb hby own_d_prog_86_m3_52) rfl (own_clamp hlen).1 (cap := 6) (by rw [(own_clamp hlen).2]; exact hle6) (by decide) (by decide) (by decide)
    obtain ⟨b37, ga37⟩ : ∃ z, z = h0.size := ⟨_, rfl⟩
    rw [← ga37] at A37 st37
    have g_b37 : n0 ≤ b37 := Nat.le_trans Zs (Nat.le_of_eq ga37.symm)
    have sz_b37 : h0.size ≤ b37 := Nat.le_trans K0.1 (Nat.le_of_eq ga37.symm)
    have ne_k_b37 : k ≠ b37 := fun q => Nat.lt_irrefl _ (Nat.lt_of_lt_of_eq E_k.lt (ga37.symm.trans q.symm))
    have ne_aK_b37 : aK ≠ b37 := fun q => Nat.lt_irrefl _ (Nat.lt_of_lt_of_eq V_K.lt (ga37.symm.trans q.symm))
    have ne_aR_b37 : aR ≠ b37 := fun q => Nat.lt_irrefl _ (Nat.lt_of_lt_of_eq V_R.lt (ga37.symm.trans q.symm))
    have ne_aT_b37 : aT ≠ b37 := fun q => Nat.lt_irrefl _ (Nat.lt_of_lt_of_eq V_T.lt (ga37.symm.trans q.symm))
    replace O := O.ext E37
    replace E_k := E_k.ext E37
    replace F_self := F_self.ext E37
    replace F_known := F_known.ext E37
    replace F_rose := F_rose.ext E37
    replace F_told := F_told.ext E37
    replace F_rises := F_rises.ext E37
    replace V_K := V_K.ext E37
    replace V_R := V_R.ext E37
    replace V_T := V_T.ext E37
    replace E_aK := E_aK.ext E37
    replace Zs := Nat.le_trans Zs E37.1
    replace K0 := K0.ext E37
    have V_b37 : own_AV Z h37 b37 .long (own_L3 (own_u Rr Tt rn) K).length (fun _ => .long (0 : Int64)) := own_AV.new A37 hlen
    refine own_st (g' := (mkF m 54 #[.val (.ref k), .val (.int r_), .val (.int c3), .val (.int (3 : Int32)), .unset, .unset] [(.ref b37)])) st37 ?_
    refine own_st (T' := T37) (g' := (mkF m 55 #[.val (.ref k), .val (.int r_), .val (.int c3), .val (.ref b37), .unset, .unset] [])) (fun _ zq => XS.astoreN X37.here hx rfl (hb hby own_d_prog_86_m3_54) rfl rfl (l' := #[.val (.ref k), .val (.int r_), .val (.int c3), .val (.ref b37), .unset, .unset]) rfl zq) ?_
    refine own_st (T' := T37) (g' := (mkF m 56 #[.val (.ref k), .val (.int r_), .val (.int c3), .val (.ref b37), .unset, .unset] [(.int (0 : Int32))])) (fun _ zq => XS.iconst X37.here hx rfl (hb hby own_d_prog_86_m3_55) zq) ?_
    refine own_st (T' := T37) (g' := (mkF m 58 #[.val (.ref k), .val (.int r_), .val (.int c3), .val (.ref b37), .val (.int (0 : Int32)), .unset] [])) (fun _ zq => XS.istore X37.here hx rfl (hb hby own_d_prog_86_m3_56) rfl (l' := #[.val (.ref k), .val (.int r_), .val (.int c3), .val (.ref b37), .val (.int (0 : Int32)), .unset]) rfl zq) ?_
    refine own_st (T' := T37) (g' := (mkF m 59 #[.val (.ref k), .val (.int r_), .val (.int c3), .val (.ref b37), .val (.int (0 : Int32)), .unset] [(.int (0 : Int32))])) (fun _ zq => XS.iconst X37.here hx rfl (hb hby own_d_prog_86_m3_58) zq) ?_
    refine own_st (T' := T37) (g' := (mkF m 61 #[.val (.ref k), .val (.int r_), .val (.int c3), .val (.ref b37), .val (.int (0 : Int32)), .val (.int (0 : Int32))] [])) (fun _ zq => XS.istore X37.here hx rfl (hb hby own_d_prog_86_m3_59) rfl (l' := #[.val (.ref k), .val (.int r_), .val (.int c3), .val (.ref b37), .val (.int (0 : Int32)), .val (.int (0 : Int32))]) rfl zq) ?_
    refine own_st (T' := T37) (g' := (mkF m 63 #[.val (.ref k), .val (.int r_), .val (.int c3), .val (.ref b37), .val (.int (0 : Int32)), .val (.int (0 : Int32))] [(.int (0 : Int32))])) (fun _ zq => XS.iload X37.here hx rfl (hb hby own_d_prog_86_m3_61) rfl zq) ?_
    refine own_st (T' := T37) (g' := (mkF m 64 #[.val (.ref k), .val (.int r_), .val (.int c3), .val (.ref b37), .val (.int (0 : Int32)), .val (.int (0 : Int32))] [(.ref k), (.int (0 : Int32))])) (fun _ zq => XS.aloadN X37.here hx rfl (hb hby own_d_prog_86_m3_63) rfl rfl zq) ?_
    obtain ⟨T38, X38, e38, st38⟩ := getF X37 hx hZ hown (host := "") (Or.inl (hw _ (List.mem_of_getElem? (i := 12) rfl))) Via.refl e37 F_known (g := (mkF m 64 #[.val (.ref k), .val (.int r_), .val (.int c3), .val (.ref b37), .val (.int (0 : Int32)), .val (.int (0 : Int32))] [(.ref k), (.int (0 : Int32))])) rfl rfl (hb hby own_d_prog_86_m3_64)
    refine own_st (g' := (mkF m 67 #[.val (.ref k), .val (.int r_), .val (.int c3), .val (.ref b37), .val (.int (0 : Int32)), .val (.int (0 : Int32))] [(.ref aK), (.int (0 : Int32))])) st38 ?_
    have hf0 : ∀ j, j < ([] : List Int64).length → (fun _ => Value.long (0 : Int64)) j = .long (([] : List Int64).getD j 0) := fun j hj => absurd hj (Nat.not_lt_zero _)
    refine own_st (T' := T38) (g' := (mkF m 68 #[.val (.ref k), .val (.int r_), .val (.int c3), .val (.ref b37), .val (.int (0 : Int32)), .val (.int (0 : Int32))] [(.int (3 : Int32)), (.int (0 : Int32))])) (own_len (z := (3 : Int32)) X38 hx hZ e38 V_K rfl (g := (mkF m 67 #[.val (.ref k), .val (.int r_), .val (.int c3), .val (.ref b37), .val (.int (0 : Int32)), .val (.int (0 : Int32))] [(.ref aK), (.int (0 : Int32))])) rfl rfl (hb hby own_d_prog_86_m3_67)) ?_
    refine own_st (T' := T38) (g' := (mkF m 71 #[.val (.ref k), .val (.int r_), .val (.int c3), .val (.ref b37), .val (.int (0 : Int32)), .val (.int (0 : Int32))] [])) (fun _ zq => XS.icmpNo X38.here hx rfl (hb hby own_d_prog_86_m3_68) rfl (tlt (by decide)).2.1 zq) ?_
    refine own_st (T' := T38) (g' := (mkF m 72 #[.val (.ref k), .val (.int r_), .val (.int c3), .val (.ref b37), .val (.int (0 : Int32)), .val (.int (0 : Int32))] [(.ref k)])) (fun _ zq => XS.aloadN X38.here hx rfl (hb hby own_d_prog_86_m3_71) rfl rfl zq) ?_
    refine own_st (T' := T38) (g' := (mkF m 74 #[.val (.ref k), .val (.int r_), .val (.int c3), .val (.ref b37), .val (.int (0 : Int32)), .val (.int (0 : Int32))] [(.int (0 : Int32)), (.ref k)])) (fun _ zq => XS.iload X38.here hx rfl (hb hby own_d_prog_86_m3_72) rfl zq) ?_
    refine own_st (T' := T38) (g' := (mkF m 75 #[.val (.ref k), .val (.int r_), .val (.int c3), .val (.ref b37), .val (.int (0 : Int32)), .val (.int (0 : Int32))] [(.int r_), (.int (0 : Int32)), (.ref k)])) (fun _ zq => XS.iloadN X38.here hx rfl (hb hby own_d_prog_86_m3_74) rfl zq) ?_
    have BB : own_KR Z h37 k aK aR aT sf K Rr Tt rs := ⟨E_k, F_self, F_known, F_rose, F_told, F_rises, V_K, V_R, V_T, E_aK⟩
    obtain ⟨cq39, q39, q39'⟩ := E_k.cell
    obtain ⟨_, _, ⟨T39, L39, k39, n39⟩, -, X39, ⟨Lc39, hQ39, l39, y39, z39⟩, st39⟩ := X38.privateBack hx (y := (⟨"com/example/coterie/coterie/runtime/KnownRequests", "untold", "(II)Z"⟩ : MethodName)) hown (mvT hZ (hw _ (List.mem_of_getElem? (i := 34) rfl))) (mvT hZ (hw _ (List.mem_of_getElem? (i := 35) rfl))) (own_selP hZ (hw _ (List.mem_of_getElem? (i := 2) rfl)) (hw _ (List.mem_of_getElem? (i := 36) rfl)) (hw _ (List.mem_of_getElem? (i := 35) rfl)) (by decide)) (Cond.privateMethod_at (mvP hZ (hw _ (List.mem_of_getElem? (i := 36) rfl)) (args := #[]))) (mvT hZ (hw _ (List.mem_of_getElem? (i := 37) rfl))) (by decide) (backOf (W := 0) (rm_untold l Z a0 hw [] k aK aR aT sf K Rr Tt rs (0 : Int32) 0 r_ rn h37 n0 Zs BB rfl (by decide) hr hlr) hZ (hw _ (List.mem_of_getElem? (i := 37) rfl)) (hw _ (List.mem_of_getElem? (i := 3) rfl)) (by decide) (by decide)) (g := (mkF m 75 #[.val (.ref k), .val (.int r_), .val (.int c3), .val (.ref b37), .val (.int (0 : Int32)), .val (.int (0 : Int32))] [(.int r_), (.int (0 : Int32)), (.ref k)])) rfl (by rw [hml]; rfl) (Steps.refl _) (a := k) (by rw [e38]; exact q39) q39' (argsL := [(.int (0 : Int32)), (.int r_)]) (rest := []) (lenOf own_pd1 rfl) rfl (by show 2 * 0 + _ ≤ _; exact Nat.le_of_eq rfl) (hb hby own_d_prog_86_m3_75) (fun _ _ => ⟨rfl, e38, (by decide : 1 + 0 ≤ _), (by decide : 6 + 0 ≤ _)⟩)
    dsimp only [Pt.U, Pt.locs, Pt.cells, Pt.slots] at X39 l39 y39 z39 st39 hQ39
    subst l39 y39 z39
    obtain ⟨rfl, Nq39, eq39⟩ := hQ39
    replace N := Fr.app N Nq39
    refine own_tr (g' := (mkF m 78 #[.val (.ref k), .val (.int r_), .val (.int c3), .val (.ref b37), .val (.int (0 : Int32)), .val (.int (0 : Int32))] [(.int (if own_u Rr Tt rn 0 = true then 1 else 0))])) st39 ?_
    suffices J105_0 : ∀ (T40 : State) (lo40 : List Loc) (h40 : Heap) (X40 : Stand p l e ({ frames := 1, cells := 1, slots := 6, locals := 30 } : Room) s m #[(.ref k), (.int r_)] below meth c T40 lo40 1 6) (e40 : T40.heap = h40) (N40 : Fr n0 lo40) (Z40 : n0 ≤ h40.size) (K40 : Keep h0 h40 [k, aK, aR, aT]) (t1 : Int32) (f1 : Nat → Value) (E_k : Exa Z h40 k "com/example/coterie/coterie/runtime/KnownRequests") (F_self : Fld Z h40 k "com/example/coterie/coterie/runtime/KnownRequests" "self" "I" (.int sf)) (F_known : Fld Z h40 k "com/example/coterie/coterie/runtime/KnownRequests" "known" "[J" (.ref aK)) (F_rose : Fld Z h40 k "com/example/coterie/coterie/runtime/KnownRequests" "roseAt" "[J" (.ref aR)) (F_told : Fld Z h40 k "com/example/coterie/coterie/runtime/KnownRequests" "told" "[J" (.ref aT)) (F_rises : Fld Z h40 k "com/example/coterie/coterie/runtime/KnownRequests" "rises" "J" (.long rs)) (V_K : own_AV Z h40 aK .long 3 (fun i => .long (K i))) (V_R : own_AV Z h40 aR .long 3 (fun i => .long (Rr i))) (V_T : own_AV Z h40 aT .long 3 (fun i => .long (Tt i))) (E_aK : Exa Z h40 aK "[J") (V_b37 : own_AV Z h40 b37 .long (own_L3 (own_u Rr Tt rn) K).length f1) (O : Old Z n0 h40) (hp1 : t1.toInt = (((own_L1 (own_u Rr Tt rn) K).length : Nat) : Int)) (hf1 : ∀ j, j < (own_L1 (own_u Rr Tt rn) K).length → f1 j = .long ((own_L1 (own_u Rr Tt rn) K).getD j 0)), own_Go p e below s (Q_news Z k aK aR aT sf K Rr Tt rs r_ rn aN fN h0 n0) ({ frames := 1, cells := 1, slots := 6, locals := 30 } : Room).cells ({ frames := 1, cells := 1, slots := 6, locals := 30 } : Room).slots T40 (mkF m 105 #[.val (.ref k), .val (.int r_), .val (.int c3), .val (.ref b37), .val (.int t1), .val (.int (0 : Int32))] []) by
      by_cases hu : own_u Rr Tt rn 0 = true
      · skip
        refine own_st (T' := T39) (g' := (mkF m 81 #[.val (.ref k), .val (.int r_), .val (.int c3), .val (.ref b37), .val (.int (0 : Int32)), .val (.int (0 : Int32))] [])) (fun _ zq => XS.ifNo X39.here hx rfl (hb hby own_d_prog_86_m3_78) rfl ((if0 _ _).trans (feq (by rw [if_pos hu]; decide)).1) zq) ?_
        have hwl : (own_L1 (own_u Rr Tt rn) K) = ([] : List Int64) ++ [0, K 0] := own_w0 (p := own_u Rr Tt rn) hu
        have hll : ([] : List Int64).length + 2 ≤ (own_L3 (own_u Rr Tt rn) K).length := own_b0 (p := own_u Rr Tt rn) hu
        refine own_st (T' := T39) (g' := (mkF m 82 #[.val (.ref k), .val (.int r_), .val (.int c3), .val (.ref b37), .val (.int (0 : Int32)), .val (.int (0 : Int32))] [(.ref b37)])) (fun _ zq => XS.aloadN X39.here hx rfl (hb hby own_d_prog_86_m3_81) rfl rfl zq) ?_
        refine own_st (T' := T39) (g' := (mkF m 84 #[.val (.ref k), .val (.int r_), .val (.int c3), .val (.ref b37), .val (.int (0 : Int32)), .val (.int (0 : Int32))] [(.int (0 : Int32)), (.ref b37)])) (fun _ zq => XS.iload X39.here hx rfl (hb hby own_d_prog_86_m3_82) rfl zq) ?_
        refine own_st (T' := T39) (g' := (mkF m 87 #[.val (.ref k), .val (.int r_), .val (.int c3), .val (.ref b37), .val (.int ((0 : Int32) + (1 : Int32))), .val (.int (0 : Int32))] [(.int (0 : Int32)), (.ref b37)])) (fun _ zq => XS.iinc X39.here hx rfl (hb hby own_d_prog_86_m3_84) rfl (l' := #[.val (.ref k), .val (.int r_), .val (.int c3), .val (.ref b37), .val (.int ((0 : Int32) + (1 : Int32))), .val (.int (0 : Int32))]) rfl zq) ?_
        refine own_st (T' := T39) (g' := (mkF m 89 #[.val (.ref k), .val (.int r_), .val (.int c3), .val (.ref b37), .val (.int ((0 : Int32) + (1 : Int32))), .val (.int (0 : Int32))] [(.int (0 : Int32)), (.int (0 : Int32)), (.ref b37)])) (fun _ zq => XS.iload X39.here hx rfl (hb hby own_d_prog_86_m3_87) rfl zq) ?_
        refine own_st (T' := T39) (g' := (mkF m 90 #[.val (.ref k), .val (.int r_), .val (.int c3), .val (.ref b37), .val (.int ((0 : Int32) + (1 : Int32))), .val (.int (0 : Int32))] [(.long ((0 : Int32).toInt64)), (.int (0 : Int32)), (.ref b37)])) (fun _ zq => XS.i2l X39.here hx rfl (hb hby own_d_prog_86_m3_89) rfl zq) ?_
        obtain ⟨T41, h41, X41, e41, W41, V41, st41⟩ := own_stJ X39 hx hZ (eq39) V_b37 (j := (0 : Int32)) (([] : List Int64).length) (rfl : ((0 : Int32)).toInt = ((([] : List Int64).length : Nat) : Int)) (by omega) (g := (mkF m 90 #[.val (.ref k), .val (.int r_), .val (.int c3), .val (.ref b37), .val (.int ((0 : Int32) + (1 : Int32))), .val (.int (0 : Int32))] [(.long ((0 : Int32).toInt64)), (.int (0 : Int32)), (.ref b37)])) rfl rfl (hb hby own_d_prog_86_m3_90)
        replace O := O.wr W41 g_b37
        replace E_k := E_k.wr W41
        replace F_self := F_self.other W41 (Or.inl ne_k_b37)
        replace F_known := F_known.other W41 (Or.inl ne_k_b37)
        replace F_rose := F_rose.other W41 (Or.inl ne_k_b37)
        replace F_told := F_told.other W41 (Or.inl ne_k_b37)
        replace F_rises := F_rises.other W41 (Or.inl ne_k_b37)
        replace V_K := V_K.other W41 ne_aK_b37
        replace V_R := V_R.other W41 ne_aR_b37
        replace V_T := V_T.other W41 ne_aT_b37
        replace E_aK := E_aK.wr W41
        replace Zs := Nat.le_trans Zs (Keep.of_wr W41).1
        replace K0 := K0.wr W41 (Or.inr sz_b37)
        replace V_b37 := V41
        replace N := Fr.snoc X41 N g_b37
        refine own_st (g' := (mkF m 91 #[.val (.ref k), .val (.int r_), .val (.int c3), .val (.ref b37), .val (.int ((0 : Int32) + (1 : Int32))), .val (.int (0 : Int32))] [])) st41 ?_
        refine own_st (T' := T41) (g' := (mkF m 92 #[.val (.ref k), .val (.int r_), .val (.int c3), .val (.ref b37), .val (.int ((0 : Int32) + (1 : Int32))), .val (.int (0 : Int32))] [(.ref b37)])) (fun _ zq => XS.aloadN X41.here hx rfl (hb hby own_d_prog_86_m3_91) rfl rfl zq) ?_
        refine own_st (T' := T41) (g' := (mkF m 94 #[.val (.ref k), .val (.int r_), .val (.int c3), .val (.ref b37), .val (.int ((0 : Int32) + (1 : Int32))), .val (.int (0 : Int32))] [(.int ((0 : Int32) + (1 : Int32))), (.ref b37)])) (fun _ zq => XS.iload X41.here hx rfl (hb hby own_d_prog_86_m3_92) rfl zq) ?_
        refine own_st (T' := T41) (g' := (mkF m 97 #[.val (.ref k), .val (.int r_), .val (.int c3), .val (.ref b37), .val (.int (((0 : Int32) + (1 : Int32)) + (1 : Int32))), .val (.int (0 : Int32))] [(.int ((0 : Int32) + (1 : Int32))), (.ref b37)])) (fun _ zq => XS.iinc X41.here hx rfl (hb hby own_d_prog_86_m3_94) rfl (l' := #[.val (.ref k), .val (.int r_), .val (.int c3), .val (.ref b37), .val (.int (((0 : Int32) + (1 : Int32)) + (1 : Int32))), .val (.int (0 : Int32))]) rfl zq) ?_
        refine own_st (T' := T41) (g' := (mkF m 98 #[.val (.ref k), .val (.int r_), .val (.int c3), .val (.ref b37), .val (.int (((0 : Int32) + (1 : Int32)) + (1 : Int32))), .val (.int (0 : Int32))] [(.ref k), (.int ((0 : Int32) + (1 : Int32))), (.ref b37)])) (fun _ zq => XS.aloadN X41.here hx rfl (hb hby own_d_prog_86_m3_97) rfl rfl zq) ?_
        obtain ⟨T42, X42, e42, st42⟩ := getF X41 hx hZ hown (host := "") (Or.inl (hw _ (List.mem_of_getElem? (i := 12) rfl))) Via.refl e41 F_known (g := (mkF m 98 #[.val (.ref k), .val (.int r_), .val (.int c3), .val (.ref b37), .val (.int (((0 : Int32) + (1 : Int32)) + (1 : Int32))), .val (.int (0 : Int32))] [(.ref k), (.int ((0 : Int32) + (1 : Int32))), (.ref b37)])) rfl rfl (hb hby own_d_prog_86_m3_98)
        refine own_st (g' := (mkF m 101 #[.val (.ref k), .val (.int r_), .val (.int c3), .val (.ref b37), .val (.int (((0 : Int32) + (1 : Int32)) + (1 : Int32))), .val (.int (0 : Int32))] [(.ref aK), (.int ((0 : Int32) + (1 : Int32))), (.ref b37)])) st42 ?_
        refine own_st (T' := T42) (g' := (mkF m 103 #[.val (.ref k), .val (.int r_), .val (.int c3), .val (.ref b37), .val (.int (((0 : Int32) + (1 : Int32)) + (1 : Int32))), .val (.int (0 : Int32))] [(.int (0 : Int32)), (.ref aK), (.int ((0 : Int32) + (1 : Int32))), (.ref b37)])) (fun _ zq => XS.iload X42.here hx rfl (hb hby own_d_prog_86_m3_101) rfl zq) ?_
        refine own_st (T' := T42) (g' := (mkF m 104 #[.val (.ref k), .val (.int r_), .val (.int c3), .val (.ref b37), .val (.int (((0 : Int32) + (1 : Int32)) + (1 : Int32))), .val (.int (0 : Int32))] [(.long (K 0)), (.int ((0 : Int32) + (1 : Int32))), (.ref b37)])) (own_ldJ X42 hx hZ e42 V_K (j := (0 : Int32)) (0) rfl (by decide) (w := (.long (K 0))) rfl (g := (mkF m 103 #[.val (.ref k), .val (.int r_), .val (.int c3), .val (.ref b37), .val (.int (((0 : Int32) + (1 : Int32)) + (1 : Int32))), .val (.int (0 : Int32))] [(.int (0 : Int32)), (.ref aK), (.int ((0 : Int32) + (1 : Int32))), (.ref b37)])) rfl rfl (hb hby own_d_prog_86_m3_103)) ?_
        obtain ⟨T43, h43, X43, e43, W43, V43, st43⟩ := own_stJ X42 hx hZ e42 V_b37 (j := ((0 : Int32) + (1 : Int32))) (([] : List Int64).length + 1) (own_p1 (rfl : ((0 : Int32)).toInt = ((([] : List Int64).length : Nat) : Int)) hle6 hll) (by omega) (g := (mkF m 104 #[.val (.ref k), .val (.int r_), .val (.int c3), .val (.ref b37), .val (.int (((0 : Int32) + (1 : Int32)) + (1 : Int32))), .val (.int (0 : Int32))] [(.long (K 0)), (.int ((0 : Int32) + (1 : Int32))), (.ref b37)])) rfl rfl (hb hby own_d_prog_86_m3_104)
        replace O := O.wr W43 g_b37
        replace E_k := E_k.wr W43
        replace F_self := F_self.other W43 (Or.inl ne_k_b37)
        replace F_known := F_known.other W43 (Or.inl ne_k_b37)
        replace F_rose := F_rose.other W43 (Or.inl ne_k_b37)
        replace F_told := F_told.other W43 (Or.inl ne_k_b37)
        replace F_rises := F_rises.other W43 (Or.inl ne_k_b37)
        replace V_K := V_K.other W43 ne_aK_b37
        replace V_R := V_R.other W43 ne_aR_b37
        replace V_T := V_T.other W43 ne_aT_b37
        replace E_aK := E_aK.wr W43
        replace Zs := Nat.le_trans Zs (Keep.of_wr W43).1
        replace K0 := K0.wr W43 (Or.inr sz_b37)
        replace V_b37 := V43
        replace N := Fr.snoc X43 N g_b37
        refine own_st (g' := (mkF m 105 #[.val (.ref k), .val (.int r_), .val (.int c3), .val (.ref b37), .val (.int (((0 : Int32) + (1 : Int32)) + (1 : Int32))), .val (.int (0 : Int32))] [])) st43 ?_
        exact J105_0 T43 _ h43 (X43.more (Nat.le_of_ble_eq_true rfl) (Nat.le_of_ble_eq_true rfl)) e43 N Zs K0 _ _ E_k F_self F_known F_rose F_told F_rises V_K V_R V_T E_aK V_b37 O (by rw [hwl]; exact own_p2 (rfl : ((0 : Int32)).toInt = ((([] : List Int64).length : Nat) : Int)) (by omega)) (by rw [hwl]; exact own_ext2 rfl hf0)
      · skip
        refine own_st (T' := T39) (g' := (mkF m 105 #[.val (.ref k), .val (.int r_), .val (.int c3), .val (.ref b37), .val (.int (0 : Int32)), .val (.int (0 : Int32))] [])) (fun _ zq => XS.ifYes X39.here hx rfl (pc0 := 78) (pc' := 105) rfl (hb hby own_d_prog_86_m3_78) rfl ((if0 _ _).trans (teq (by rw [if_neg hu])).1) (by decide) (by decide) zq) ?_
        have hwl : (own_L1 (own_u Rr Tt rn) K) = ([] : List Int64) := own_v0 (p := own_u Rr Tt rn) hu
        exact J105_0 T39 _ h37 (X39.more (Nat.le_of_ble_eq_true rfl) (Nat.le_of_ble_eq_true rfl)) (eq39) N Zs K0 _ _ E_k F_self F_known F_rose F_told F_rises V_K V_R V_T E_aK V_b37 O (by rw [hwl]; exact (rfl : ((0 : Int32)).toInt = ((([] : List Int64).length : Nat) : Int))) (by rw [hwl]; exact hf0)
    intro T40 lo40 h40 X40 e40 N40 Z40 K40 t1 f1 E_k F_self F_known F_rose F_told F_rises V_K V_R V_T E_aK V_b37 O hp1 hf1
    refine own_st (T' := T40) (g' := (mkF m 108 #[.val (.ref k), .val (.int r_), .val (.int c3), .val (.ref b37), .val (.int t1), .val (.int ((0 : Int32) + (1 : Int32)))] [])) (fun _ zq => XS.iinc X40.here hx rfl (hb hby own_d_prog_86_m3_105) rfl (l' := #[.val (.ref k), .val (.int r_), .val (.int c3), .val (.ref b37), .val (.int t1), .val (.int ((0 : Int32) + (1 : Int32)))]) rfl zq) ?_
    show own_Go p e below s (Q_news Z k aK aR aT sf K Rr Tt rs r_ rn aN fN h0 n0) ({ frames := 1, cells := 1, slots := 6, locals := 30 } : Room).cells ({ frames := 1, cells := 1, slots := 6, locals := 30 } : Room).slots T40 (mkF m 108 #[.val (.ref k), .val (.int r_), .val (.int c3), .val (.ref b37), .val (.int t1), .val (.int (1 : Int32))] [])
    refine own_st (T' := T40) (g' := (mkF m 61 #[.val (.ref k), .val (.int r_), .val (.int c3), .val (.ref b37), .val (.int t1), .val (.int (1 : Int32))] [])) (fun _ zq => XS.goto X40.here hx rfl (pc0 := 108) (pc' := 61) rfl (hb hby own_d_prog_86_m3_108) (by decide) (by decide) zq) ?_
    refine own_st (T' := T40) (g' := (mkF m 63 #[.val (.ref k), .val (.int r_), .val (.int c3), .val (.ref b37), .val (.int t1), .val (.int (1 : Int32))] [(.int (1 : Int32))])) (fun _ zq => XS.iload X40.here hx rfl (hb hby own_d_prog_86_m3_61) rfl zq) ?_
    refine own_st (T' := T40) (g' := (mkF m 64 #[.val (.ref k), .val (.int r_), .val (.int c3), .val (.ref b37), .val (.int t1), .val (.int (1 : Int32))] [(.ref k), (.int (1 : Int32))])) (fun _ zq => XS.aloadN X40.here hx rfl (hb hby own_d_prog_86_m3_63) rfl rfl zq) ?_
    obtain ⟨T44, X44, e44, st44⟩ := getF X40 hx hZ hown (host := "") (Or.inl (hw _ (List.mem_of_getElem? (i := 12) rfl))) Via.refl e40 F_known (g := (mkF m 64 #[.val (.ref k), .val (.int r_), .val (.int c3), .val (.ref b37), .val (.int t1), .val (.int (1 : Int32))] [(.ref k), (.int (1 : Int32))])) rfl rfl (hb hby own_d_prog_86_m3_64)
    refine own_st (g' := (mkF m 67 #[.val (.ref k), .val (.int r_), .val (.int c3), .val (.ref b37), .val (.int t1), .val (.int (1 : Int32))] [(.ref aK), (.int (1 : Int32))])) st44 ?_
    refine own_st (T' := T44) (g' := (mkF m 68 #[.val (.ref k), .val (.int r_), .val (.int c3), .val (.ref b37), .val (.int t1), .val (.int (1 : Int32))] [(.int (3 : Int32)), (.int (1 : Int32))])) (own_len (z := (3 : Int32)) X44 hx hZ e44 V_K rfl (g := (mkF m 67 #[.val (.ref k), .val (.int r_), .val (.int c3), .val (.ref b37), .val (.int t1), .val (.int (1 : Int32))] [(.ref aK), (.int (1 : Int32))])) rfl rfl (hb hby own_d_prog_86_m3_67)) ?_
    refine own_st (T' := T44) (g' := (mkF m 71 #[.val (.ref k), .val (.int r_), .val (.int c3), .val (.ref b37), .val (.int t1), .val (.int (1 : Int32))] [])) (fun _ zq => XS.icmpNo X44.here hx rfl (hb hby own_d_prog_86_m3_68) rfl (tlt (by decide)).2.1 zq) ?_
    refine own_st (T' := T44) (g' := (mkF m 72 #[.val (.ref k), .val (.int r_), .val (.int c3), .val (.ref b37), .val (.int t1), .val (.int (1 : Int32))] [(.ref k)])) (fun _ zq => XS.aloadN X44.here hx rfl (hb hby own_d_prog_86_m3_71) rfl rfl zq) ?_
    refine own_st (T' := T44) (g' := (mkF m 74 #[.val (.ref k), .val (.int r_), .val (.int c3), .val (.ref b37), .val (.int t1), .val (.int (1 : Int32))] [(.int (1 : Int32)), (.ref k)])) (fun _ zq => XS.iload X44.here hx rfl (hb hby own_d_prog_86_m3_72) rfl zq) ?_
    refine own_st (T' := T44) (g' := (mkF m 75 #[.val (.ref k), .val (.int r_), .val (.int c3), .val (.ref b37), .val (.int t1), .val (.int (1 : Int32))] [(.int r_), (.int (1 : Int32)), (.ref k)])) (fun _ zq => XS.iloadN X44.here hx rfl (hb hby own_d_prog_86_m3_74) rfl zq) ?_
    have BB : own_KR Z h40 k aK aR aT sf K Rr Tt rs := ⟨E_k, F_self, F_known, F_rose, F_told, F_rises, V_K, V_R, V_T, E_aK⟩
    obtain ⟨cq45, q45, q45'⟩ := E_k.cell
    obtain ⟨_, _, ⟨T45, L45, k45, n45⟩, -, X45, ⟨Lc45, hQ45, l45, y45, z45⟩, st45⟩ := X44.privateBack hx (y := (⟨"com/example/coterie/coterie/runtime/KnownRequests", "untold", "(II)Z"⟩ : MethodName)) hown (mvT hZ (hw _ (List.mem_of_getElem? (i := 34) rfl))) (mvT hZ (hw _ (List.mem_of_getElem? (i := 35) rfl))) (own_selP hZ (hw _ (List.mem_of_getElem? (i := 2) rfl)) (hw _ (List.mem_of_getElem? (i := 36) rfl)) (hw _ (List.mem_of_getElem? (i := 35) rfl)) (by decide)) (Cond.privateMethod_at (mvP hZ (hw _ (List.mem_of_getElem? (i := 36) rfl)) (args := #[]))) (mvT hZ (hw _ (List.mem_of_getElem? (i := 37) rfl))) (by decide) (backOf (W := 0) (rm_untold l Z a0 hw [] k aK aR aT sf K Rr Tt rs (1 : Int32) 1 r_ rn h40 n0 Z40 BB rfl (by decide) hr hlr) hZ (hw _ (List.mem_of_getElem? (i := 37) rfl)) (hw _ (List.mem_of_getElem? (i := 3) rfl)) (by decide) (by decide)) (g := (mkF m 75 #[.val (.ref k), .val (.int r_), .val (.int c3), .val (.ref b37), .val (.int t1), .val (.int (1 : Int32))] [(.int r_), (.int (1 : Int32)), (.ref k)])) rfl (by rw [hml]; rfl) (Steps.refl _) (a := k) (by rw [e44]; exact q45) q45' (argsL := [(.int (1 : Int32)), (.int r_)]) (rest := []) (lenOf own_pd1 rfl) rfl (by show 2 * 0 + _ ≤ _; exact Nat.le_of_eq rfl) (hb hby own_d_prog_86_m3_75) (fun _ _ => ⟨rfl, e44, (by decide : 1 + 0 ≤ _), (by decide : 6 + 0 ≤ _)⟩)
    dsimp only [Pt.U, Pt.locs, Pt.cells, Pt.slots] at X45 l45 y45 z45 st45 hQ45
    subst l45 y45 z45
    obtain ⟨rfl, Nq45, eq45⟩ := hQ45
    replace N40 := Fr.app N40 Nq45
    refine own_tr (g' := (mkF m 78 #[.val (.ref k), .val (.int r_), .val (.int c3), .val (.ref b37), .val (.int t1), .val (.int (1 : Int32))] [(.int (if own_u Rr Tt rn 1 = true then 1 else 0))])) st45 ?_
    suffices J105_1 : ∀ (T46 : State) (lo46 : List Loc) (h46 : Heap) (X46 : Stand p l e ({ frames := 1, cells := 1, slots := 6, locals := 30 } : Room) s m #[(.ref k), (.int r_)] below meth c T46 lo46 1 6) (e46 : T46.heap = h46) (N46 : Fr n0 lo46) (Z46 : n0 ≤ h46.size) (K46 : Keep h0 h46 [k, aK, aR, aT]) (t2 : Int32) (f2 : Nat → Value) (E_k : Exa Z h46 k "com/example/coterie/coterie/runtime/KnownRequests") (F_self : Fld Z h46 k "com/example/coterie/coterie/runtime/KnownRequests" "self" "I" (.int sf)) (F_known : Fld Z h46 k "com/example/coterie/coterie/runtime/KnownRequests" "known" "[J" (.ref aK)) (F_rose : Fld Z h46 k "com/example/coterie/coterie/runtime/KnownRequests" "roseAt" "[J" (.ref aR)) (F_told : Fld Z h46 k "com/example/coterie/coterie/runtime/KnownRequests" "told" "[J" (.ref aT)) (F_rises : Fld Z h46 k "com/example/coterie/coterie/runtime/KnownRequests" "rises" "J" (.long rs)) (V_K : own_AV Z h46 aK .long 3 (fun i => .long (K i))) (V_R : own_AV Z h46 aR .long 3 (fun i => .long (Rr i))) (V_T : own_AV Z h46 aT .long 3 (fun i => .long (Tt i))) (E_aK : Exa Z h46 aK "[J") (V_b37 : own_AV Z h46 b37 .long (own_L3 (own_u Rr Tt rn) K).length f2) (O : Old Z n0 h46) (hp2 : t2.toInt = (((own_L2 (own_u Rr Tt rn) K).length : Nat) : Int)) (hf2 : ∀ j, j < (own_L2 (own_u Rr Tt rn) K).length → f2 j = .long ((own_L2 (own_u Rr Tt rn) K).getD j 0)), own_Go p e below s (Q_news Z k aK aR aT sf K Rr Tt rs r_ rn aN fN h0 n0) ({ frames := 1, cells := 1, slots := 6, locals := 30 } : Room).cells ({ frames := 1, cells := 1, slots := 6, locals := 30 } : Room).slots T46 (mkF m 105 #[.val (.ref k), .val (.int r_), .val (.int c3), .val (.ref b37), .val (.int t2), .val (.int (1 : Int32))] []) by
      by_cases hu : own_u Rr Tt rn 1 = true
      · skip
        refine own_st (T' := T45) (g' := (mkF m 81 #[.val (.ref k), .val (.int r_), .val (.int c3), .val (.ref b37), .val (.int t1), .val (.int (1 : Int32))] [])) (fun _ zq => XS.ifNo X45.here hx rfl (hb hby own_d_prog_86_m3_78) rfl ((if0 _ _).trans (feq (by rw [if_pos hu]; decide)).1) zq) ?_
        have hwl : (own_L2 (own_u Rr Tt rn) K) = (own_L1 (own_u Rr Tt rn) K) ++ [1, K 1] := own_w1 (p := own_u Rr Tt rn) hu
        have hll : (own_L1 (own_u Rr Tt rn) K).length + 2 ≤ (own_L3 (own_u Rr Tt rn) K).length := own_b1 (p := own_u Rr Tt rn) hu
        refine own_st (T' := T45) (g' := (mkF m 82 #[.val (.ref k), .val (.int r_), .val (.int c3), .val (.ref b37), .val (.int t1), .val (.int (1 : Int32))] [(.ref b37)])) (fun _ zq => XS.aloadN X45.here hx rfl (hb hby own_d_prog_86_m3_81) rfl rfl zq) ?_
        refine own_st (T' := T45) (g' := (mkF m 84 #[.val (.ref k), .val (.int r_), .val (.int c3), .val (.ref b37), .val (.int t1), .val (.int (1 : Int32))] [(.int t1), (.ref b37)])) (fun _ zq => XS.iload X45.here hx rfl (hb hby own_d_prog_86_m3_82) rfl zq) ?_
        refine own_st (T' := T45) (g' := (mkF m 87 #[.val (.ref k), .val (.int r_), .val (.int c3), .val (.ref b37), .val (.int (t1 + (1 : Int32))), .val (.int (1 : Int32))] [(.int t1), (.ref b37)])) (fun _ zq => XS.iinc X45.here hx rfl (hb hby own_d_prog_86_m3_84) rfl (l' := #[.val (.ref k), .val (.int r_), .val (.int c3), .val (.ref b37), .val (.int (t1 + (1 : Int32))), .val (.int (1 : Int32))]) rfl zq) ?_
        refine own_st (T' := T45) (g' := (mkF m 89 #[.val (.ref k), .val (.int r_), .val (.int c3), .val (.ref b37), .val (.int (t1 + (1 : Int32))), .val (.int (1 : Int32))] [(.int (1 : Int32)), (.int t1), (.ref b37)])) (fun _ zq => XS.iload X45.here hx rfl (hb hby own_d_prog_86_m3_87) rfl zq) ?_
        refine own_st (T' := T45) (g' := (mkF m 90 #[.val (.ref k), .val (.int r_), .val (.int c3), .val (.ref b37), .val (.int (t1 + (1 : Int32))), .val (.int (1 : Int32))] [(.long ((1 : Int32).toInt64)), (.int t1), (.ref b37)])) (fun _ zq => XS.i2l X45.here hx rfl (hb hby own_d_prog_86_m3_89) rfl zq) ?_
        obtain ⟨T47, h47, X47, e47, W47, V47, st47⟩ := own_stJ X45 hx hZ (eq45) V_b37 (j := t1) ((own_L1 (own_u Rr Tt rn) K).length) hp1 (by omega) (g := (mkF m 90 #[.val (.ref k), .val (.int r_), .val (.int c3), .val (.ref b37), .val (.int (t1 + (1 : Int32))), .val (.int (1 : Int32))] [(.long ((1 : Int32).toInt64)), (.int t1), (.ref b37)])) rfl rfl (hb hby own_d_prog_86_m3_90)
        replace E_k := E_k.wr W47
        replace F_self := F_self.other W47 (Or.inl ne_k_b37)
        replace F_known := F_known.other W47 (Or.inl ne_k_b37)
        replace F_rose := F_rose.other W47 (Or.inl ne_k_b37)
        replace F_told := F_told.other W47 (Or.inl ne_k_b37)
        replace F_rises := F_rises.other W47 (Or.inl ne_k_b37)
        replace V_K := V_K.other W47 ne_aK_b37
        replace V_R := V_R.other W47 ne_aR_b37
        replace V_T := V_T.other W47 ne_aT_b37
        replace E_aK := E_aK.wr W47
        replace O := O.wr W47 g_b37
        replace Z40 := Nat.le_trans Z40 (Keep.of_wr W47).1
        replace K40 := K40.wr W47 (Or.inr sz_b37)
        replace V_b37 := V47
        replace N40 := Fr.snoc X47 N40 g_b37
        refine own_st (g' := (mkF m 91 #[.val (.ref k), .val (.int r_), .val (.int c3), .val (.ref b37), .val (.int (t1 + (1 : Int32))), .val (.int (1 : Int32))] [])) st47 ?_
        refine own_st (T' := T47) (g' := (mkF m 92 #[.val (.ref k), .val (.int r_), .val (.int c3), .val (.ref b37), .val (.int (t1 + (1 : Int32))), .val (.int (1 : Int32))] [(.ref b37)])) (fun _ zq => XS.aloadN X47.here hx rfl (hb hby own_d_prog_86_m3_91) rfl rfl zq) ?_
        refine own_st (T' := T47) (g' := (mkF m 94 #[.val (.ref k), .val (.int r_), .val (.int c3), .val (.ref b37), .val (.int (t1 + (1 : Int32))), .val (.int (1 : Int32))] [(.int (t1 + (1 : Int32))), (.ref b37)])) (fun _ zq => XS.iload X47.here hx rfl (hb hby own_d_prog_86_m3_92) rfl zq) ?_
        refine own_st (T' := T47) (g' := (mkF m 97 #[.val (.ref k), .val (.int r_), .val (.int c3), .val (.ref b37), .val (.int ((t1 + (1 : Int32)) + (1 : Int32))), .val (.int (1 : Int32))] [(.int (t1 + (1 : Int32))), (.ref b37)])) (fun _ zq => XS.iinc X47.here hx rfl (hb hby own_d_prog_86_m3_94) rfl (l' := #[.val (.ref k), .val (.int r_), .val (.int c3), .val (.ref b37), .val (.int ((t1 + (1 : Int32)) + (1 : Int32))), .val (.int (1 : Int32))]) rfl zq) ?_
        refine own_st (T' := T47) (g' := (mkF m 98 #[.val (.ref k), .val (.int r_), .val (.int c3), .val (.ref b37), .val (.int ((t1 + (1 : Int32)) + (1 : Int32))), .val (.int (1 : Int32))] [(.ref k), (.int (t1 + (1 : Int32))), (.ref b37)])) (fun _ zq => XS.aloadN X47.here hx rfl (hb hby own_d_prog_86_m3_97) rfl rfl zq) ?_
        obtain ⟨T48, X48, e48, st48⟩ := getF X47 hx hZ hown (host := "") (Or.inl (hw _ (List.mem_of_getElem? (i := 12) rfl))) Via.refl e47 F_known (g := (mkF m 98 #[.val (.ref k), .val (.int r_), .val (.int c3), .val (.ref b37), .val (.int ((t1 + (1 : Int32)) + (1 : Int32))), .val (.int (1 : Int32))] [(.ref k), (.int (t1 + (1 : Int32))), (.ref b37)])) rfl rfl (hb hby own_d_prog_86_m3_98)
        refine own_st (g' := (mkF m 101 #[.val (.ref k), .val (.int r_), .val (.int c3), .val (.ref b37), .val (.int ((t1 + (1 : Int32)) + (1 : Int32))), .val (.int (1 : Int32))] [(.ref aK), (.int (t1 + (1 : Int32))), (.ref b37)])) st48 ?_
        refine own_st (T' := T48) (g' := (mkF m 103 #[.val (.ref k), .val (.int r_), .val (.int c3), .val (.ref b37), .val (.int ((t1 + (1 : Int32)) + (1 : Int32))), .val (.int (1 : Int32))] [(.int (1 : Int32)), (.ref aK), (.int (t1 + (1 : Int32))), (.ref b37)])) (fun _ zq => XS.iload X48.here hx rfl (hb hby own_d_prog_86_m3_101) rfl zq) ?_
        refine own_st (T' := T48) (g' := (mkF m 104 #[.val (.ref k), .val (.int r_), .val (.int c3), .val (.ref b37), .val (.int ((t1 + (1 : Int32)) + (1 : Int32))), .val (.int (1 : Int32))] [(.long (K 1)), (.int (t1 + (1 : Int32))), (.ref b37)])) (own_ldJ X48 hx hZ e48 V_K (j := (1 : Int32)) (1) rfl (by decide) (w := (.long (K 1))) rfl (g := (mkF m 103 #[.val (.ref k), .val (.int r_), .val (.int c3), .val (.ref b37), .val (.int ((t1 + (1 : Int32)) + (1 : Int32))), .val (.int (1 : Int32))] [(.int (1 : Int32)), (.ref aK), (.int (t1 + (1 : Int32))), (.ref b37)])) rfl rfl (hb hby own_d_prog_86_m3_103)) ?_
        obtain ⟨T49, h49, X49, e49, W49, V49, st49⟩ := own_stJ X48 hx hZ e48 V_b37 (j := (t1 + (1 : Int32))) ((own_L1 (own_u Rr Tt rn) K).length + 1) (own_p1 hp1 hle6 hll) (by omega) (g := (mkF m 104 #[.val (.ref k), .val (.int r_), .val (.int c3), .val (.ref b37), .val (.int ((t1 + (1 : Int32)) + (1 : Int32))), .val (.int (1 : Int32))] [(.long (K 1)), (.int (t1 + (1 : Int32))), (.ref b37)])) rfl rfl (hb hby own_d_prog_86_m3_104)
        replace E_k := E_k.wr W49
        replace F_self := F_self.other W49 (Or.inl ne_k_b37)
        replace F_known := F_known.other W49 (Or.inl ne_k_b37)
        replace F_rose := F_rose.other W49 (Or.inl ne_k_b37)
        replace F_told := F_told.other W49 (Or.inl ne_k_b37)
        replace F_rises := F_rises.other W49 (Or.inl ne_k_b37)
        replace V_K := V_K.other W49 ne_aK_b37
        replace V_R := V_R.other W49 ne_aR_b37
        replace V_T := V_T.other W49 ne_aT_b37
        replace E_aK := E_aK.wr W49
        replace O := O.wr W49 g_b37
        replace Z40 := Nat.le_trans Z40 (Keep.of_wr W49).1
        replace K40 := K40.wr W49 (Or.inr sz_b37)
        replace V_b37 := V49
        replace N40 := Fr.snoc X49 N40 g_b37
        refine own_st (g' := (mkF m 105 #[.val (.ref k), .val (.int r_), .val (.int c3), .val (.ref b37), .val (.int ((t1 + (1 : Int32)) + (1 : Int32))), .val (.int (1 : Int32))] [])) st49 ?_
        exact J105_1 T49 _ h49 (X49.more (Nat.le_of_ble_eq_true rfl) (Nat.le_of_ble_eq_true rfl)) e49 N40 Z40 K40 _ _ E_k F_self F_known F_rose F_told F_rises V_K V_R V_T E_aK V_b37 O (by rw [hwl]; exact own_p2 hp1 (by omega)) (by rw [hwl]; exact own_ext2 rfl hf1)
      · skip
        refine own_st (T' := T45) (g' := (mkF m 105 #[.val (.ref k), .val (.int r_), .val (.int c3), .val (.ref b37), .val (.int t1), .val (.int (1 : Int32))] [])) (fun _ zq => XS.ifYes X45.here hx rfl (pc0 := 78) (pc' := 105) rfl (hb hby own_d_prog_86_m3_78) rfl ((if0 _ _).trans (teq (by rw [if_neg hu])).1) (by decide) (by decide) zq) ?_
        have hwl : (own_L2 (own_u Rr Tt rn) K) = (own_L1 (own_u Rr Tt rn) K) := own_v1 (p := own_u Rr Tt rn) hu
        exact J105_1 T45 _ h40 (X45.more (Nat.le_of_ble_eq_true rfl) (Nat.le_of_ble_eq_true rfl)) (eq45) N40 Z40 K40 _ _ E_k F_self F_known F_rose F_told F_rises V_K V_R V_T E_aK V_b37 O (by rw [hwl]; exact hp1) (by rw [hwl]; exact hf1)
    intro T46 lo46 h46 X46 e46 N46 Z46 K46 t2 f2 E_k F_self F_known F_rose F_told F_rises V_K V_R V_T E_aK V_b37 O hp2 hf2
    refine own_st (T' := T46) (g' := (mkF m 108 #[.val (.ref k), .val (.int r_), .val (.int c3), .val (.ref b37), .val (.int t2), .val (.int ((1 : Int32) + (1 : Int32)))] [])) (fun _ zq => XS.iinc X46.here hx rfl (hb hby own_d_prog_86_m3_105) rfl (l' := #[.val (.ref k), .val (.int r_), .val (.int c3), .val (.ref b37), .val (.int t2), .val (.int ((1 : Int32) + (1 : Int32)))]) rfl zq) ?_
    show own_Go p e below s (Q_news Z k aK aR aT sf K Rr Tt rs r_ rn aN fN h0 n0) ({ frames := 1, cells := 1, slots := 6, locals := 30 } : Room).cells ({ frames := 1, cells := 1, slots := 6, locals := 30 } : Room).slots T46 (mkF m 108 #[.val (.ref k), .val (.int r_), .val (.int c3), .val (.ref b37), .val (.int t2), .val (.int (2 : Int32))] [])
    refine own_st (T' := T46) (g' := (mkF m 61 #[.val (.ref k), .val (.int r_), .val (.int c3), .val (.ref b37), .val (.int t2), .val (.int (2 : Int32))] [])) (fun _ zq => XS.goto X46.here hx rfl (pc0 := 108) (pc' := 61) rfl (hb hby own_d_prog_86_m3_108) (by decide) (by decide) zq) ?_
    refine own_st (T' := T46) (g' := (mkF m 63 #[.val (.ref k), .val (.int r_), .val (.int c3), .val (.ref b37), .val (.int t2), .val (.int (2 : Int32))] [(.int (2 : Int32))])) (fun _ zq => XS.iload X46.here hx rfl (hb hby own_d_prog_86_m3_61) rfl zq) ?_
    refine own_st (T' := T46) (g' := (mkF m 64 #[.val (.ref k), .val (.int r_), .val (.int c3), .val (.ref b37), .val (.int t2), .val (.int (2 : Int32))] [(.ref k), (.int (2 : Int32))])) (fun _ zq => XS.aloadN X46.here hx rfl (hb hby own_d_prog_86_m3_63) rfl rfl zq) ?_
    obtain ⟨T50, X50, e50, st50⟩ := getF X46 hx hZ hown (host := "") (Or.inl (hw _ (List.mem_of_getElem? (i := 12) rfl))) Via.refl e46 F_known (g := (mkF m 64 #[.val (.ref k), .val (.int r_), .val (.int c3), .val (.ref b37), .val (.int t2), .val (.int (2 : Int32))] [(.ref k), (.int (2 : Int32))])) rfl rfl (hb hby own_d_prog_86_m3_64)
    refine own_st (g' := (mkF m 67 #[.val (.ref k), .val (.int r_), .val (.int c3), .val (.ref b37), .val (.int t2), .val (.int (2 : Int32))] [(.ref aK), (.int (2 : Int32))])) st50 ?_
    refine own_st (T' := T50) (g' := (mkF m 68 #[.val (.ref k), .val (.int r_), .val (.int c3), .val (.ref b37), .val (.int t2), .val (.int (2 : Int32))] [(.int (3 : Int32)), (.int (2 : Int32))])) (own_len (z := (3 : Int32)) X50 hx hZ e50 V_K rfl (g := (mkF m 67 #[.val (.ref k), .val (.int r_), .val (.int c3), .val (.ref b37), .val (.int t2), .val (.int (2 : Int32))] [(.ref aK), (.int (2 : Int32))])) rfl rfl (hb hby own_d_prog_86_m3_67)) ?_
    refine own_st (T' := T50) (g' := (mkF m 71 #[.val (.ref k), .val (.int r_), .val (.int c3), .val (.ref b37), .val (.int t2), .val (.int (2 : Int32))] [])) (fun _ zq => XS.icmpNo X50.here hx rfl (hb hby own_d_prog_86_m3_68) rfl (tlt (by decide)).2.1 zq) ?_
    refine own_st (T' := T50) (g' := (mkF m 72 #[.val (.ref k), .val (.int r_), .val (.int c3), .val (.ref b37), .val (.int t2), .val (.int (2 : Int32))] [(.ref k)])) (fun _ zq => XS.aloadN X50.here hx rfl (hb hby own_d_prog_86_m3_71) rfl rfl zq) ?_
    refine own_st (T' := T50) (g' := (mkF m 74 #[.val (.ref k), .val (.int r_), .val (.int c3), .val (.ref b37), .val (.int t2), .val (.int (2 : Int32))] [(.int (2 : Int32)), (.ref k)])) (fun _ zq => XS.iload X50.here hx rfl (hb hby own_d_prog_86_m3_72) rfl zq) ?_
    refine own_st (T' := T50) (g' := (mkF m 75 #[.val (.ref k), .val (.int r_), .val (.int c3), .val (.ref b37), .val (.int t2), .val (.int (2 : Int32))] [(.int r_), (.int (2 : Int32)), (.ref k)])) (fun _ zq => XS.iloadN X50.here hx rfl (hb hby own_d_prog_86_m3_74) rfl zq) ?_
    have BB : own_KR Z h46 k aK aR aT sf K Rr Tt rs := ⟨E_k, F_self, F_known, F_rose, F_told, F_rises, V_K, V_R, V_T, E_aK⟩
    obtain ⟨cq51, q51, q51'⟩ := E_k.cell
    obtain ⟨_, _, ⟨T51, L51, k51, n51⟩, -, X51, ⟨Lc51, hQ51, l51, y51, z51⟩, st51⟩ := X50.privateBack hx (y := (⟨"com/example/coterie/coterie/runtime/KnownRequests", "untold", "(II)Z"⟩ : MethodName)) hown (mvT hZ (hw _ (List.mem_of_getElem? (i := 34) rfl))) (mvT hZ (hw _ (List.mem_of_getElem? (i := 35) rfl))) (own_selP hZ (hw _ (List.mem_of_getElem? (i := 2) rfl)) (hw _ (List.mem_of_getElem? (i := 36) rfl)) (hw _ (List.mem_of_getElem? (i := 35) rfl)) (by decide)) (Cond.privateMethod_at (mvP hZ (hw _ (List.mem_of_getElem? (i := 36) rfl)) (args := #[]))) (mvT hZ (hw _ (List.mem_of_getElem? (i := 37) rfl))) (by decide) (backOf (W := 0) (rm_untold l Z a0 hw [] k aK aR aT sf K Rr Tt rs (2 : Int32) 2 r_ rn h46 n0 Z46 BB rfl (by decide) hr hlr) hZ (hw _ (List.mem_of_getElem? (i := 37) rfl)) (hw _ (List.mem_of_getElem? (i := 3) rfl)) (by decide) (by decide)) (g := (mkF m 75 #[.val (.ref k), .val (.int r_), .val (.int c3), .val (.ref b37), .val (.int t2), .val (.int (2 : Int32))] [(.int r_), (.int (2 : Int32)), (.ref k)])) rfl (by rw [hml]; rfl) (Steps.refl _) (a := k) (by rw [e50]; exact q51) q51' (argsL := [(.int (2 : Int32)), (.int r_)]) (rest := []) (lenOf own_pd1 rfl) rfl (by show 2 * 0 + _ ≤ _; exact Nat.le_of_eq rfl) (hb hby own_d_prog_86_m3_75) (fun _ _ => ⟨rfl, e50, (by decide : 1 + 0 ≤ _), (by decide : 6 + 0 ≤ _)⟩)
    dsimp only [Pt.U, Pt.locs, Pt.cells, Pt.slots] at X51 l51 y51 z51 st51 hQ51
    subst l51 y51 z51
    obtain ⟨rfl, Nq51, eq51⟩ := hQ51
    replace N46 := Fr.app N46 Nq51
    refine own_tr (g' := (mkF m 78 #[.val (.ref k), .val (.int r_), .val (.int c3), .val (.ref b37), .val (.int t2), .val (.int (2 : Int32))] [(.int (if own_u Rr Tt rn 2 = true then 1 else 0))])) st51 ?_
    suffices J105_2 : ∀ (T52 : State) (lo52 : List Loc) (h52 : Heap) (X52 : Stand p l e ({ frames := 1, cells := 1, slots := 6, locals := 30 } : Room) s m #[(.ref k), (.int r_)] below meth c T52 lo52 1 6) (e52 : T52.heap = h52) (N52 : Fr n0 lo52) (Z52 : n0 ≤ h52.size) (K52 : Keep h0 h52 [k, aK, aR, aT]) (t3 : Int32) (f3 : Nat → Value) (E_k : Exa Z h52 k "com/example/coterie/coterie/runtime/KnownRequests") (F_self : Fld Z h52 k "com/example/coterie/coterie/runtime/KnownRequests" "self" "I" (.int sf)) (F_known : Fld Z h52 k "com/example/coterie/coterie/runtime/KnownRequests" "known" "[J" (.ref aK)) (F_rose : Fld Z h52 k "com/example/coterie/coterie/runtime/KnownRequests" "roseAt" "[J" (.ref aR)) (F_told : Fld Z h52 k "com/example/coterie/coterie/runtime/KnownRequests" "told" "[J" (.ref aT)) (F_rises : Fld Z h52 k "com/example/coterie/coterie/runtime/KnownRequests" "rises" "J" (.long rs)) (V_K : own_AV Z h52 aK .long 3 (fun i => .long (K i))) (V_R : own_AV Z h52 aR .long 3 (fun i => .long (Rr i))) (V_T : own_AV Z h52 aT .long 3 (fun i => .long (Tt i))) (E_aK : Exa Z h52 aK "[J") (V_b37 : own_AV Z h52 b37 .long (own_L3 (own_u Rr Tt rn) K).length f3) (O : Old Z n0 h52) (hp3 : t3.toInt = (((own_L3 (own_u Rr Tt rn) K).length : Nat) : Int)) (hf3 : ∀ j, j < (own_L3 (own_u Rr Tt rn) K).length → f3 j = .long ((own_L3 (own_u Rr Tt rn) K).getD j 0)), own_Go p e below s (Q_news Z k aK aR aT sf K Rr Tt rs r_ rn aN fN h0 n0) ({ frames := 1, cells := 1, slots := 6, locals := 30 } : Room).cells ({ frames := 1, cells := 1, slots := 6, locals := 30 } : Room).slots T52 (mkF m 105 #[.val (.ref k), .val (.int r_), .val (.int c3), .val (.ref b37), .val (.int t3), .val (.int (2 : Int32))] []) by
      by_cases hu : own_u Rr Tt rn 2 = true
      · skip
        refine own_st (T' := T51) (g' := (mkF m 81 #[.val (.ref k), .val (.int r_), .val (.int c3), .val (.ref b37), .val (.int t2), .val (.int (2 : Int32))] [])) (fun _ zq => XS.ifNo X51.here hx rfl (hb hby own_d_prog_86_m3_78) rfl ((if0 _ _).trans (feq (by rw [if_pos hu]; decide)).1) zq) ?_
        have hwl : (own_L3 (own_u Rr Tt rn) K) = (own_L2 (own_u Rr Tt rn) K) ++ [2, K 2] := own_w2 (p := own_u Rr Tt rn) hu
        have hll : (own_L2 (own_u Rr Tt rn) K).length + 2 ≤ (own_L3 (own_u Rr Tt rn) K).length := own_b2 (p := own_u Rr Tt rn) hu
        refine own_st (T' := T51) (g' := (mkF m 82 #[.val (.ref k), .val (.int r_), .val (.int c3), .val (.ref b37), .val (.int t2), .val (.int (2 : Int32))] [(.ref b37)])) (fun _ zq => XS.aloadN X51.here hx rfl (hb hby own_d_prog_86_m3_81) rfl rfl zq) ?_
        refine own_st (T' := T51) (g' := (mkF m 84 #[.val (.ref k), .val (.int r_), .val (.int c3), .val (.ref b37), .val (.int t2), .val (.int (2 : Int32))] [(.int t2), (.ref b37)])) (fun _ zq => XS.iload X51.here hx rfl (hb hby own_d_prog_86_m3_82) rfl zq) ?_
        refine own_st (T' := T51) (g' := (mkF m 87 #[.val (.ref k), .val (.int r_), .val (.int c3), .val (.ref b37), .val (.int (t2 + (1 : Int32))), .val (.int (2 : Int32))] [(.int t2), (.ref b37)])) (fun _ zq => XS.iinc X51.here hx rfl (hb hby own_d_prog_86_m3_84) rfl (l' := #[.val (.ref k), .val (.int r_), .val (.int c3), .val (.ref b37), .val (.int (t2 + (1 : Int32))), .val (.int (2 : Int32))]) rfl zq) ?_
        refine own_st (T' := T51) (g' := (mkF m 89 #[.val (.ref k), .val (.int r_), .val (.int c3), .val (.ref b37), .val (.int (t2 + (1 : Int32))), .val (.int (2 : Int32))] [(.int (2 : Int32)), (.int t2), (.ref b37)])) (fun _ zq => XS.iload X51.here hx rfl (hb hby own_d_prog_86_m3_87) rfl zq) ?_
        refine own_st (T' := T51) (g' := (mkF m 90 #[.val (.ref k), .val (.int r_), .val (.int c3), .val (.ref b37), .val (.int (t2 + (1 : Int32))), .val (.int (2 : Int32))] [(.long ((2 : Int32).toInt64)), (.int t2), (.ref b37)])) (fun _ zq => XS.i2l X51.here hx rfl (hb hby own_d_prog_86_m3_89) rfl zq) ?_
        obtain ⟨T53, h53, X53, e53, W53, V53, st53⟩ := own_stJ X51 hx hZ (eq51) V_b37 (j := t2) ((own_L2 (own_u Rr Tt rn) K).length) hp2 (by omega) (g := (mkF m 90 #[.val (.ref k), .val (.int r_), .val (.int c3), .val (.ref b37), .val (.int (t2 + (1 : Int32))), .val (.int (2 : Int32))] [(.long ((2 : Int32).toInt64)), (.int t2), (.ref b37)])) rfl rfl (hb hby own_d_prog_86_m3_90)
        replace E_k := E_k.wr W53
        replace F_self := F_self.other W53 (Or.inl ne_k_b37)
        replace F_known := F_known.other W53 (Or.inl ne_k_b37)
        replace F_rose := F_rose.other W53 (Or.inl ne_k_b37)
        replace F_told := F_told.other W53 (Or.inl ne_k_b37)
        replace F_rises := F_rises.other W53 (Or.inl ne_k_b37)
        replace V_K := V_K.other W53 ne_aK_b37
        replace V_R := V_R.other W53 ne_aR_b37
        replace V_T := V_T.other W53 ne_aT_b37
        replace E_aK := E_aK.wr W53
        replace O := O.wr W53 g_b37
        replace Z46 := Nat.le_trans Z46 (Keep.of_wr W53).1
        replace K46 := K46.wr W53 (Or.inr sz_b37)
        replace V_b37 := V53
        replace N46 := Fr.snoc X53 N46 g_b37
        refine own_st (g' := (mkF m 91 #[.val (.ref k), .val (.int r_), .val (.int c3), .val (.ref b37), .val (.int (t2 + (1 : Int32))), .val (.int (2 : Int32))] [])) st53 ?_
        refine own_st (T' := T53) (g' := (mkF m 92 #[.val (.ref k), .val (.int r_), .val (.int c3), .val (.ref b37), .val (.int (t2 + (1 : Int32))), .val (.int (2 : Int32))] [(.ref b37)])) (fun _ zq => XS.aloadN X53.here hx rfl (hb hby own_d_prog_86_m3_91) rfl rfl zq) ?_
        refine own_st (T' := T53) (g' := (mkF m 94 #[.val (.ref k), .val (.int r_), .val (.int c3), .val (.ref b37), .val (.int (t2 + (1 : Int32))), .val (.int (2 : Int32))] [(.int (t2 + (1 : Int32))), (.ref b37)])) (fun _ zq => XS.iload X53.here hx rfl (hb hby own_d_prog_86_m3_92) rfl zq) ?_
        refine own_st (T' := T53) (g' := (mkF m 97 #[.val (.ref k), .val (.int r_), .val (.int c3), .val (.ref b37), .val (.int ((t2 + (1 : Int32)) + (1 : Int32))), .val (.int (2 : Int32))] [(.int (t2 + (1 : Int32))), (.ref b37)])) (fun _ zq => XS.iinc X53.here hx rfl (hb hby own_d_prog_86_m3_94) rfl (l' := #[.val (.ref k), .val (.int r_), .val (.int c3), .val (.ref b37), .val (.int ((t2 + (1 : Int32)) + (1 : Int32))), .val (.int (2 : Int32))]) rfl zq) ?_
        refine own_st (T' := T53) (g' := (mkF m 98 #[.val (.ref k), .val (.int r_), .val (.int c3), .val (.ref b37), .val (.int ((t2 + (1 : Int32)) + (1 : Int32))), .val (.int (2 : Int32))] [(.ref k), (.int (t2 + (1 : Int32))), (.ref b37)])) (fun _ zq => XS.aloadN X53.here hx rfl (hb hby own_d_prog_86_m3_97) rfl rfl zq) ?_
        obtain ⟨T54, X54, e54, st54⟩ := getF X53 hx hZ hown (host := "") (Or.inl (hw _ (List.mem_of_getElem? (i := 12) rfl))) Via.refl e53 F_known (g := (mkF m 98 #[.val (.ref k), .val (.int r_), .val (.int c3), .val (.ref b37), .val (.int ((t2 + (1 : Int32)) + (1 : Int32))), .val (.int (2 : Int32))] [(.ref k), (.int (t2 + (1 : Int32))), (.ref b37)])) rfl rfl (hb hby own_d_prog_86_m3_98)
        refine own_st (g' := (mkF m 101 #[.val (.ref k), .val (.int r_), .val (.int c3), .val (.ref b37), .val (.int ((t2 + (1 : Int32)) + (1 : Int32))), .val (.int (2 : Int32))] [(.ref aK), (.int (t2 + (1 : Int32))), (.ref b37)])) st54 ?_
        refine own_st (T' := T54) (g' := (mkF m 103 #[.val (.ref k), .val (.int r_), .val (.int c3), .val (.ref b37), .val (.int ((t2 + (1 : Int32)) + (1 : Int32))), .val (.int (2 : Int32))] [(.int (2 : Int32)), (.ref aK), (.int (t2 + (1 : Int32))), (.ref b37)])) (fun _ zq => XS.iload X54.here hx rfl (hb hby own_d_prog_86_m3_101) rfl zq) ?_
        refine own_st (T' := T54) (g' := (mkF m 104 #[.val (.ref k), .val (.int r_), .val (.int c3), .val (.ref b37), .val (.int ((t2 + (1 : Int32)) + (1 : Int32))), .val (.int (2 : Int32))] [(.long (K 2)), (.int (t2 + (1 : Int32))), (.ref b37)])) (own_ldJ X54 hx hZ e54 V_K (j := (2 : Int32)) (2) rfl (by decide) (w := (.long (K 2))) rfl (g := (mkF m 103 #[.val (.ref k), .val (.int r_), .val (.int c3), .val (.ref b37), .val (.int ((t2 + (1 : Int32)) + (1 : Int32))), .val (.int (2 : Int32))] [(.int (2 : Int32)), (.ref aK), (.int (t2 + (1 : Int32))), (.ref b37)])) rfl rfl (hb hby own_d_prog_86_m3_103)) ?_
        obtain ⟨T55, h55, X55, e55, W55, V55, st55⟩ := own_stJ X54 hx hZ e54 V_b37 (j := (t2 + (1 : Int32))) ((own_L2 (own_u Rr Tt rn) K).length + 1) (own_p1 hp2 hle6 hll) (by omega) (g := (mkF m 104 #[.val (.ref k), .val (.int r_), .val (.int c3), .val (.ref b37), .val (.int ((t2 + (1 : Int32)) + (1 : Int32))), .val (.int (2 : Int32))] [(.long (K 2)), (.int (t2 + (1 : Int32))), (.ref b37)])) rfl rfl (hb hby own_d_prog_86_m3_104)
        replace E_k := E_k.wr W55
        replace F_self := F_self.other W55 (Or.inl ne_k_b37)
        replace F_known := F_known.other W55 (Or.inl ne_k_b37)
        replace F_rose := F_rose.other W55 (Or.inl ne_k_b37)
        replace F_told := F_told.other W55 (Or.inl ne_k_b37)
        replace F_rises := F_rises.other W55 (Or.inl ne_k_b37)
        replace V_K := V_K.other W55 ne_aK_b37
        replace V_R := V_R.other W55 ne_aR_b37
        replace V_T := V_T.other W55 ne_aT_b37
        replace E_aK := E_aK.wr W55
        replace O := O.wr W55 g_b37
        replace Z46 := Nat.le_trans Z46 (Keep.of_wr W55).1
        replace K46 := K46.wr W55 (Or.inr sz_b37)
        replace V_b37 := V55
        replace N46 := Fr.snoc X55 N46 g_b37
        refine own_st (g' := (mkF m 105 #[.val (.ref k), .val (.int r_), .val (.int c3), .val (.ref b37), .val (.int ((t2 + (1 : Int32)) + (1 : Int32))), .val (.int (2 : Int32))] [])) st55 ?_
        exact J105_2 T55 _ h55 (X55.more (Nat.le_of_ble_eq_true rfl) (Nat.le_of_ble_eq_true rfl)) e55 N46 Z46 K46 _ _ E_k F_self F_known F_rose F_told F_rises V_K V_R V_T E_aK V_b37 O (by rw [hwl]; exact own_p2 hp2 (by omega)) (by rw [hwl]; exact own_ext2 rfl hf2)
      · skip
        refine own_st (T' := T51) (g' := (mkF m 105 #[.val (.ref k), .val (.int r_), .val (.int c3), .val (.ref b37), .val (.int t2), .val (.int (2 : Int32))] [])) (fun _ zq => XS.ifYes X51.here hx rfl (pc0 := 78) (pc' := 105) rfl (hb hby own_d_prog_86_m3_78) rfl ((if0 _ _).trans (teq (by rw [if_neg hu])).1) (by decide) (by decide) zq) ?_
        have hwl : (own_L3 (own_u Rr Tt rn) K) = (own_L2 (own_u Rr Tt rn) K) := own_v2 (p := own_u Rr Tt rn) hu
        exact J105_2 T51 _ h46 (X51.more (Nat.le_of_ble_eq_true rfl) (Nat.le_of_ble_eq_true rfl)) (eq51) N46 Z46 K46 _ _ E_k F_self F_known F_rose F_told F_rises V_K V_R V_T E_aK V_b37 O (by rw [hwl]; exact hp2) (by rw [hwl]; exact hf2)
    intro T52 lo52 h52 X52 e52 N52 Z52 K52 t3 f3 E_k F_self F_known F_rose F_told F_rises V_K V_R V_T E_aK V_b37 O hp3 hf3
    refine own_st (T' := T52) (g' := (mkF m 108 #[.val (.ref k), .val (.int r_), .val (.int c3), .val (.ref b37), .val (.int t3), .val (.int ((2 : Int32) + (1 : Int32)))] [])) (fun _ zq => XS.iinc X52.here hx rfl (hb hby own_d_prog_86_m3_105) rfl (l' := #[.val (.ref k), .val (.int r_), .val (.int c3), .val (.ref b37), .val (.int t3), .val (.int ((2 : Int32) + (1 : Int32)))]) rfl zq) ?_
    show own_Go p e below s (Q_news Z k aK aR aT sf K Rr Tt rs r_ rn aN fN h0 n0) ({ frames := 1, cells := 1, slots := 6, locals := 30 } : Room).cells ({ frames := 1, cells := 1, slots := 6, locals := 30 } : Room).slots T52 (mkF m 108 #[.val (.ref k), .val (.int r_), .val (.int c3), .val (.ref b37), .val (.int t3), .val (.int (3 : Int32))] [])
    refine own_st (T' := T52) (g' := (mkF m 61 #[.val (.ref k), .val (.int r_), .val (.int c3), .val (.ref b37), .val (.int t3), .val (.int (3 : Int32))] [])) (fun _ zq => XS.goto X52.here hx rfl (pc0 := 108) (pc' := 61) rfl (hb hby own_d_prog_86_m3_108) (by decide) (by decide) zq) ?_
    refine own_st (T' := T52) (g' := (mkF m 63 #[.val (.ref k), .val (.int r_), .val (.int c3), .val (.ref b37), .val (.int t3), .val (.int (3 : Int32))] [(.int (3 : Int32))])) (fun _ zq => XS.iload X52.here hx rfl (hb hby own_d_prog_86_m3_61) rfl zq) ?_
    refine own_st (T' := T52) (g' := (mkF m 64 #[.val (.ref k), .val (.int r_), .val (.int c3), .val (.ref b37), .val (.int t3), .val (.int (3 : Int32))] [(.ref k), (.int (3 : Int32))])) (fun _ zq => XS.aloadN X52.here hx rfl (hb hby own_d_prog_86_m3_63) rfl rfl zq) ?_
    obtain ⟨T56, X56, e56, st56⟩ := getF X52 hx hZ hown (host := "") (Or.inl (hw _ (List.mem_of_getElem? (i := 12) rfl))) Via.refl e52 F_known (g := (mkF m 64 #[.val (.ref k), .val (.int r_), .val (.int c3), .val (.ref b37), .val (.int t3), .val (.int (3 : Int32))] [(.ref k), (.int (3 : Int32))])) rfl rfl (hb hby own_d_prog_86_m3_64)
    refine own_st (g' := (mkF m 67 #[.val (.ref k), .val (.int r_), .val (.int c3), .val (.ref b37), .val (.int t3), .val (.int (3 : Int32))] [(.ref aK), (.int (3 : Int32))])) st56 ?_
    refine own_st (T' := T56) (g' := (mkF m 68 #[.val (.ref k), .val (.int r_), .val (.int c3), .val (.ref b37), .val (.int t3), .val (.int (3 : Int32))] [(.int (3 : Int32)), (.int (3 : Int32))])) (own_len (z := (3 : Int32)) X56 hx hZ e56 V_K rfl (g := (mkF m 67 #[.val (.ref k), .val (.int r_), .val (.int c3), .val (.ref b37), .val (.int t3), .val (.int (3 : Int32))] [(.ref aK), (.int (3 : Int32))])) rfl rfl (hb hby own_d_prog_86_m3_67)) ?_
    refine own_st (T' := T56) (g' := (mkF m 111 #[.val (.ref k), .val (.int r_), .val (.int c3), .val (.ref b37), .val (.int t3), .val (.int (3 : Int32))] [])) (fun _ zq => XS.icmpYes X56.here hx rfl (pc0 := 68) (pc' := 111) rfl (hb hby own_d_prog_86_m3_68) rfl (flt (by decide)).2.1 (by decide) (by decide) zq) ?_
    refine own_st (T' := T56) (g' := (mkF m 112 #[.val (.ref k), .val (.int r_), .val (.int c3), .val (.ref b37), .val (.int t3), .val (.int (3 : Int32))] [(.ref k)])) (fun _ zq => XS.aloadN X56.here hx rfl (hb hby own_d_prog_86_m3_111) rfl rfl zq) ?_
    obtain ⟨T57, X57, e57, st57⟩ := getF X56 hx hZ hown (host := "") (Or.inl (hw _ (List.mem_of_getElem? (i := 16) rfl))) Via.refl e56 F_told (g := (mkF m 112 #[.val (.ref k), .val (.int r_), .val (.int c3), .val (.ref b37), .val (.int t3), .val (.int (3 : Int32))] [(.ref k)])) rfl rfl (hb hby own_d_prog_86_m3_112)
    refine own_st (g' := (mkF m 115 #[.val (.ref k), .val (.int r_), .val (.int c3), .val (.ref b37), .val (.int t3), .val (.int (3 : Int32))] [(.ref aT)])) st57 ?_
    refine own_st (T' := T57) (g' := (mkF m 116 #[.val (.ref k), .val (.int r_), .val (.int c3), .val (.ref b37), .val (.int t3), .val (.int (3 : Int32))] [(.int r_), (.ref aT)])) (fun _ zq => XS.iloadN X57.here hx rfl (hb hby own_d_prog_86_m3_115) rfl zq) ?_
    refine own_st (T' := T57) (g' := (mkF m 117 #[.val (.ref k), .val (.int r_), .val (.int c3), .val (.ref b37), .val (.int t3), .val (.int (3 : Int32))] [(.ref k), (.int r_), (.ref aT)])) (fun _ zq => XS.aloadN X57.here hx rfl (hb hby own_d_prog_86_m3_116) rfl rfl zq) ?_
    obtain ⟨T58, X58, e58, st58⟩ := getF X57 hx hZ hown (host := "") (Or.inl (hw _ (List.mem_of_getElem? (i := 27) rfl))) Via.refl e57 F_rises (g := (mkF m 117 #[.val (.ref k), .val (.int r_), .val (.int c3), .val (.ref b37), .val (.int t3), .val (.int (3 : Int32))] [(.ref k), (.int r_), (.ref aT)])) rfl rfl (hb hby own_d_prog_86_m3_117)
    refine own_st (g' := (mkF m 120 #[.val (.ref k), .val (.int r_), .val (.int c3), .val (.ref b37), .val (.int t3), .val (.int (3 : Int32))] [(.long rs), (.int r_), (.ref aT)])) st58 ?_
    obtain ⟨T59, h59, X59, e59, W59, V59, st59⟩ := own_stJ X58 hx hZ e58 V_T (j := r_) (rn) hr hlr (g := (mkF m 120 #[.val (.ref k), .val (.int r_), .val (.int c3), .val (.ref b37), .val (.int t3), .val (.int (3 : Int32))] [(.long rs), (.int r_), (.ref aT)])) rfl rfl (hb hby own_d_prog_86_m3_120)
    replace E_k := E_k.wr W59
    replace F_self := F_self.other W59 (Or.inl n3)
    replace F_known := F_known.other W59 (Or.inl n3)
    replace F_rose := F_rose.other W59 (Or.inl n3)
    replace F_told := F_told.other W59 (Or.inl n3)
    replace F_rises := F_rises.other W59 (Or.inl n3)
    replace V_K := V_K.other W59 n5
    replace V_R := V_R.other W59 n6
    replace E_aK := E_aK.wr W59
    replace V_b37 := V_b37.other W59 ne_aT_b37.symm
    replace O := O.wr W59 g_aT
    replace Z52 := Nat.le_trans Z52 (Keep.of_wr W59).1
    replace K52 := K52.wr W59 (Or.inl (List.mem_of_getElem? (i := 3) rfl))
    replace V_T : own_AV Z h59 aT .long 3 (fun i => .long ((own_upd Tt rn rs) i)) := V59.cong (own_updL _ _ _)
    replace N52 := Fr.snoc X59 N52 g_aT
    refine own_st (g' := (mkF m 121 #[.val (.ref k), .val (.int r_), .val (.int c3), .val (.ref b37), .val (.int t3), .val (.int (3 : Int32))] [])) st59 ?_
    refine own_st (T' := T59) (g' := (mkF m 122 #[.val (.ref k), .val (.int r_), .val (.int c3), .val (.ref b37), .val (.int t3), .val (.int (3 : Int32))] [(.ref b37)])) (fun _ zq => XS.aloadN X59.here hx rfl (hb hby own_d_prog_86_m3_121) rfl rfl zq) ?_
    exact own_ret X59 hx hret hlk (i := .areturn) rfl (Or.inr (Or.inr (Or.inr (Or.inr ⟨rfl, rfl, rfl⟩)))) (hb hby own_d_prog_86_m3_122) e59 (Nat.le_of_ble_eq_true rfl) (Nat.le_of_ble_eq_true rfl) ⟨b37, rfl, N52, K52, ⟨E_k, F_self, F_known, F_rose, F_told, F_rises, V_K, V_R, V_T, E_aK⟩, V_b37.cong hf3, fun x _ h2 q => Nat.lt_irrefl _ (Nat.lt_of_lt_of_le (q ▸ h2) sz_b37)⟩
def Q_vsinit (Z : State) (a1 : Addr) (nd : Int32) (nn : Nat) (aK : Addr) (K : Nat → Int64) (h0 : Heap) (n0 : Nat) (v : Option Value) (h : Heap) (L : List Loc) : Prop := v = none ∧ Fr n0 L ∧ (Keep h0 h [a1])
theorem ef_vsinit (m : MethodId) (x0 : Addr) (x1 : Int32) (x2 : Addr)  : entryFrame m #[(.ref x0), (.int x1), (.ref x2)] 3 = mkF m 0 #[.val (.ref x0), .val (.int x1), .val (.ref x2)] [] := by first | (simp [entryFrame, mkF, argsToLocals, Value.category]; done) | rfl
set_option maxRecDepth 65536 in
set_option maxHeartbeats 40000000 in
theorem rm_vsinit (l : Launch) (Z : State) (a0 : Array Value) (hw : ∀ d ∈ tables_1, d.before a0 Z = true) (ws : List Jvm.Cond) (a1 : Addr) (nd : Int32) (nn : Nat) (aK : Addr) (K : Nat → Int64) (h0 : Heap) (n0 : Nat) (Zs : n0 ≤ h0.size) (E_a1 : Exa Z h0 a1 "com/example/coterie/coterie/message/VectorStamp") (F_node : Fld Z h0 a1 "com/example/coterie/coterie/message/VectorStamp" "node" "I" (.int (0 : Int32))) (F_counts : Fld Z h0 a1 "com/example/coterie/coterie/message/VectorStamp" "counts" "[J" .null) (V_K : own_AV Z h0 aK .long 3 (fun i => .long (K i))) (E_aK : Exa Z h0 aK "[J") (hn : nd.toInt = (nn : Int)) (hl : nn < 3) (hpos : ¬ K nn < (1 : Int64)) (q1 : a1 ≠ aK) (g_a1 : n0 ≤ a1) :
    MetFree l (⟨"com/example/coterie/coterie/message/VectorStamp", "<init>", "(I[J)V"⟩ : MethodName) (head1 (Jvm.Cond.code (⟨"com/example/coterie/coterie/message/VectorStamp", "<init>", "(I[J)V"⟩ : MethodName) prog_65_method_1_code 3 none :: ws) ({ frames := 1, cells := 1, slots := 3, locals := 30 } : Room)) (fun a U => a = #[(.ref a1), (.int nd), (.ref aK)] ∧ Z.Warmed39 U.vm ∧ U.heap = h0) (fun _ _ _ _ _ => True) (fun _ U o U' => ∃ v L, o = .returned v ∧ (Q_vsinit Z a1 nd nn aK K h0 n0) v U'.heap L ∧ FrameEnd U o U' L ({ frames := 1, cells := 1, slots := 3, locals := 30 } : Room).cells ({ frames := 1, cells := 1, slots := 3, locals := 30 } : Room).slots) := by
  refine MetFree.of_bodySF (plainFor_of_name own_pn1) hisR ?_
  intro p e s m args below meth c s₁ Bd hml0 hP hK
  obtain ⟨rfl, hZ, hh⟩ := hP
  have hx := Bd.exec
  have hby := Bd.bytes
  have hlk := BodyLoose.notSynchronized Bd
  have hret := Bd.returns
  have hml : c.maxLocals = 3 := hml0
  have hown : s.vm.findClass "com/example/coterie/coterie/message/VectorStamp" = some m.cls := findClass_of_methodNamed Bd.named
  have hnm := (name_of_methodNamed Bd.named Bd.method).1
  have X : Stand p l e ({ frames := 1, cells := 1, slots := 3, locals := 30 } : Room) s m #[(.ref a1), (.int nd), (.ref aK)] below meth c s₁ [] 0 0 := Stand.of_body Bd
  have eT : s₁.heap = h0 := by rw [← hh, Bd.state]; rfl
  have N := Fr.nil n0
  have K0 : Keep h0 h0 [a1] := Keep.refl _ _
  show own_Go p e below s (Q_vsinit Z a1 nd nn aK K h0 n0) ({ frames := 1, cells := 1, slots := 3, locals := 30 } : Room).cells ({ frames := 1, cells := 1, slots := 3, locals := 30 } : Room).slots s₁ (entryFrame m #[(.ref a1), (.int nd), (.ref aK)] 3)
  rw [ef_vsinit m a1 nd aK]
  refine own_st (T' := s₁) (g' := (mkF m 1 #[.val (.ref a1), .val (.int nd), .val (.ref aK)] [(.ref a1)])) (fun _ zq => XS.aloadN X.here hx rfl (hb hby own_d_prog_65_m1_0) rfl rfl zq) ?_
  obtain ⟨T60, X60, e60, st60⟩ := initO X hx hZ hown (hw _ (List.mem_of_getElem? (i := 71) rfl)) (hw _ (List.mem_of_getElem? (i := 8) rfl)) (hw _ (List.mem_of_getElem? (i := 9) rfl)) eT (g := (mkF m 1 #[.val (.ref a1), .val (.int nd), .val (.ref aK)] [(.ref a1)])) rfl (by rw [hml]; rfl) rfl (hb hby own_d_prog_65_m1_1) (by decide) (W := 0) (by show 2 * 0 + _ ≤ _; exact Nat.le_of_eq rfl) (by decide)
  refine own_st (g' := (mkF m 4 #[.val (.ref a1), .val (.int nd), .val (.ref aK)] [])) st60 ?_
  refine own_st (T' := T60) (g' := (mkF m 5 #[.val (.ref a1), .val (.int nd), .val (.ref aK)] [(.int nd)])) (fun _ zq => XS.iloadN X60.here hx rfl (hb hby own_d_prog_65_m1_4) rfl zq) ?_
  refine own_st (T' := T60) (g' := (mkF m 8 #[.val (.ref a1), .val (.int nd), .val (.ref aK)] [])) (fun _ zq => XS.ifNo X60.here hx rfl (hb hby own_d_prog_65_m1_5) rfl ((if0 _ _).trans (flt (own_clamp hn).1).1) zq) ?_
  refine own_st (T' := T60) (g' := (mkF m 9 #[.val (.ref a1), .val (.int nd), .val (.ref aK)] [(.int nd)])) (fun _ zq => XS.iloadN X60.here hx rfl (hb hby own_d_prog_65_m1_8) rfl zq) ?_
  refine own_st (T' := T60) (g' := (mkF m 10 #[.val (.ref a1), .val (.int nd), .val (.ref aK)] [(.ref aK), (.int nd)])) (fun _ zq => XS.aloadN X60.here hx rfl (hb hby own_d_prog_65_m1_9) rfl rfl zq) ?_
  refine own_st (T' := T60) (g' := (mkF m 11 #[.val (.ref a1), .val (.int nd), .val (.ref aK)] [(.int (3 : Int32)), (.int nd)])) (own_len (z := (3 : Int32)) X60 hx hZ e60 V_K rfl (g := (mkF m 10 #[.val (.ref a1), .val (.int nd), .val (.ref aK)] [(.ref aK), (.int nd)])) rfl rfl (hb hby own_d_prog_65_m1_10)) ?_
  refine own_st (T' := T60) (g' := (mkF m 32 #[.val (.ref a1), .val (.int nd), .val (.ref aK)] [])) (fun _ zq => XS.icmpYes X60.here hx rfl (pc0 := 11) (pc' := 32) rfl (hb hby own_d_prog_65_m1_11) rfl (tlt (own_l3 hn hl)).1 (by decide) (by decide) zq) ?_
  refine own_st (T' := T60) (g' := (mkF m 33 #[.val (.ref a1), .val (.int nd), .val (.ref aK)] [(.ref aK)])) (fun _ zq => XS.aloadN X60.here hx rfl (hb hby own_d_prog_65_m1_32) rfl rfl zq) ?_
  refine own_st (T' := T60) (g' := (mkF m 34 #[.val (.ref a1), .val (.int nd), .val (.ref aK)] [(.int nd), (.ref aK)])) (fun _ zq => XS.iloadN X60.here hx rfl (hb hby own_d_prog_65_m1_33) rfl zq) ?_
  refine own_st (T' := T60) (g' := (mkF m 35 #[.val (.ref a1), .val (.int nd), .val (.ref aK)] [(.long (K nn))])) (own_ldJ X60 hx hZ e60 V_K (j := nd) (nn) hn hl (w := (.long (K nn))) rfl (g := (mkF m 34 #[.val (.ref a1), .val (.int nd), .val (.ref aK)] [(.int nd), (.ref aK)])) rfl rfl (hb hby own_d_prog_65_m1_34)) ?_
  refine own_st (T' := T60) (g' := (mkF m 36 #[.val (.ref a1), .val (.int nd), .val (.ref aK)] [(.long (1 : Int64)), (.long (K nn))])) (fun _ zq => XS.lconst X60.here hx rfl (hb hby own_d_prog_65_m1_35) zq) ?_
  refine own_st (T' := T60) (g' := (mkF m 37 #[.val (.ref a1), .val (.int nd), .val (.ref aK)] [(.int (lcmpW (K nn) (1 : Int64)))])) (fun _ zq => XS.lcmp X60.here hx rfl (hb hby own_d_prog_65_m1_36) rfl zq) ?_
  refine own_st (T' := T60) (g' := (mkF m 57 #[.val (.ref a1), .val (.int nd), .val (.ref aK)] [])) (fun _ zq => XS.ifYes X60.here hx rfl (pc0 := 37) (pc' := 57) rfl (hb hby own_d_prog_65_m1_37) rfl (own_lflt hpos).2.1 (by decide) (by decide) zq) ?_
  refine own_st (T' := T60) (g' := (mkF m 58 #[.val (.ref a1), .val (.int nd), .val (.ref aK)] [(.ref a1)])) (fun _ zq => XS.aloadN X60.here hx rfl (hb hby own_d_prog_65_m1_57) rfl rfl zq) ?_
  refine own_st (T' := T60) (g' := (mkF m 59 #[.val (.ref a1), .val (.int nd), .val (.ref aK)] [(.int nd), (.ref a1)])) (fun _ zq => XS.iloadN X60.here hx rfl (hb hby own_d_prog_65_m1_58) rfl zq) ?_
  obtain ⟨T61, h61, X61, e61, W61, st61⟩ := putF X60 hx hZ hown (host := "") (Or.inl (hw _ (List.mem_of_getElem? (i := 72) rfl))) Via.refl e60 F_node E_a1 (Or.inr ⟨(hw _ (List.mem_of_getElem? (i := 73) rfl)), rfl, hnm⟩) (hw _ (List.mem_of_getElem? (i := 66) rfl)) (ty := .int) (by decide) rfl rfl (g := (mkF m 59 #[.val (.ref a1), .val (.int nd), .val (.ref aK)] [(.int nd), (.ref a1)])) rfl rfl (hb hby own_d_prog_65_m1_59)
  replace E_a1 := E_a1.wr W61
  replace F_node := F_node.same W61
  replace F_counts := F_counts.other W61 (Or.inr (slot_ne (C := "com/example/coterie/coterie/message/VectorStamp") (Or.inr (hw _ (List.mem_of_getElem? (i := 84) rfl))) (Or.inr (hw _ (List.mem_of_getElem? (i := 73) rfl))) (by decide) (t := (.array .long)) (by decide) (t' := .int) (by decide)))
  replace V_K := V_K.other W61 q1.symm
  replace E_aK := E_aK.wr W61
  replace Zs := Nat.le_trans Zs (Keep.of_wr W61).1
  replace K0 := K0.wr W61 (Or.inl (List.mem_of_getElem? (i := 0) rfl))
  replace N := Fr.snoc X61 N g_a1
  refine own_st (g' := (mkF m 62 #[.val (.ref a1), .val (.int nd), .val (.ref aK)] [])) st61 ?_
  refine own_st (T' := T61) (g' := (mkF m 63 #[.val (.ref a1), .val (.int nd), .val (.ref aK)] [(.ref a1)])) (fun _ zq => XS.aloadN X61.here hx rfl (hb hby own_d_prog_65_m1_62) rfl rfl zq) ?_
  refine own_st (T' := T61) (g' := (mkF m 64 #[.val (.ref a1), .val (.int nd), .val (.ref aK)] [(.ref aK), (.ref a1)])) (fun _ zq => XS.aloadN X61.here hx rfl (hb hby own_d_prog_65_m1_63) rfl rfl zq) ?_
  obtain ⟨cl, A1, A2, A3, A4⟩ := V_K
  obtain ⟨T62, h62, X62, e62, E62, Ac62, Ec62, st62⟩ := cloneA X61 hx hZ hown (hw _ (List.mem_of_getElem? (i := 74) rfl)) (hw _ (List.mem_of_getElem? (i := 75) rfl)) (hw _ (List.mem_of_getElem? (i := 79) rfl)) (hw _ (List.mem_of_getElem? (i := 77) rfl)) (hw _ (List.mem_of_getElem? (i := 78) rfl)) (hw _ (List.mem_of_getElem? (i := 80) rfl)) e61 A1 E_aK (own_fitJ A1 A2 A4) (g := (mkF m 64 #[.val (.ref a1), .val (.int nd), .val (.ref aK)] [(.ref aK), (.ref a1)])) rfl (by rw [hml]; rfl) rfl (hb hby own_d_prog_65_m1_64) (by decide) (W := 1) (by show 2 * 0 + _ ≤ _; exact Nat.le_of_eq rfl) (by decide) (cap := 3) (Nat.le_of_eq A2) (by decide) (by decide)
  have V_K : own_AV Z h61 aK .long 3 (fun i => .long (K i)) := ⟨cl, A1, A2, A3, A4⟩
  obtain ⟨b62, ga62⟩ : ∃ z, z = h61.size := ⟨_, rfl⟩
  rw [← ga62] at Ac62 Ec62 st62
  have g_b62 : n0 ≤ b62 := Nat.le_trans Zs (Nat.le_of_eq ga62.symm)
  have sz_b62 : h0.size ≤ b62 := Nat.le_trans K0.1 (Nat.le_of_eq ga62.symm)
  have ne_a1_b62 : a1 ≠ b62 := fun q => Nat.lt_irrefl _ (Nat.lt_of_lt_of_eq E_a1.lt (ga62.symm.trans q.symm))
  have ne_aK_b62 : aK ≠ b62 := fun q => Nat.lt_irrefl _ (Nat.lt_of_lt_of_eq V_K.lt (ga62.symm.trans q.symm))
  replace E_a1 := E_a1.ext E62
  replace F_node := F_node.ext E62
  replace F_counts := F_counts.ext E62
  replace V_K := V_K.ext E62
  replace E_aK := E_aK.ext E62
  replace Zs := Nat.le_trans Zs E62.1
  replace K0 := K0.ext E62
  refine own_st (g' := (mkF m 67 #[.val (.ref a1), .val (.int nd), .val (.ref aK)] [(.ref b62), (.ref a1)])) st62 ?_
  obtain ⟨T63, X63, e63, st63⟩ := castY X62 hx hZ hown (hw _ (List.mem_of_getElem? (i := 81) rfl)) e62 (Ins.self Ec62) (g := (mkF m 67 #[.val (.ref a1), .val (.int nd), .val (.ref aK)] [(.ref b62), (.ref a1)])) rfl rfl (hb hby own_d_prog_65_m1_67)
  refine own_st (g' := (mkF m 70 #[.val (.ref a1), .val (.int nd), .val (.ref aK)] [(.ref b62), (.ref a1)])) st63 ?_
  obtain ⟨T64, h64, X64, e64, W64, st64⟩ := putF X63 hx hZ hown (host := "") (Or.inl (hw _ (List.mem_of_getElem? (i := 83) rfl))) Via.refl e63 F_counts E_a1 (Or.inr ⟨(hw _ (List.mem_of_getElem? (i := 84) rfl)), rfl, hnm⟩) (hw _ (List.mem_of_getElem? (i := 66) rfl)) (ty := (.array .long)) (by decide) rfl rfl (g := (mkF m 70 #[.val (.ref a1), .val (.int nd), .val (.ref aK)] [(.ref b62), (.ref a1)])) rfl rfl (hb hby own_d_prog_65_m1_70)
  replace E_a1 := E_a1.wr W64
  replace F_node := F_node.other W64 (Or.inr (slot_ne (C := "com/example/coterie/coterie/message/VectorStamp") (Or.inr (hw _ (List.mem_of_getElem? (i := 73) rfl))) (Or.inr (hw _ (List.mem_of_getElem? (i := 84) rfl))) (by decide) (t := .int) (by decide) (t' := (.array .long)) (by decide)))
  replace F_counts := F_counts.same W64
  replace V_K := V_K.other W64 q1.symm
  replace E_aK := E_aK.wr W64
  replace Ec62 := Ec62.wr W64
  replace Zs := Nat.le_trans Zs (Keep.of_wr W64).1
  replace K0 := K0.wr W64 (Or.inl (List.mem_of_getElem? (i := 0) rfl))
  replace N := Fr.snoc X64 N g_a1
  refine own_st (g' := (mkF m 73 #[.val (.ref a1), .val (.int nd), .val (.ref aK)] [])) st64 ?_
  exact own_ret0 X64 hx hret hlk (hb hby own_d_prog_65_m1_73) e64 (Nat.le_of_ble_eq_true rfl) (Nat.le_of_ble_eq_true rfl) ⟨rfl, N, K0⟩
def Q_request (Z : State) (k : Addr) (aK : Addr) (aR : Addr) (aT : Addr) (sf : Int32) (K : Nat → Int64) (Rr : Nat → Int64) (Tt : Nat → Int64) (rs : Int64) (sn : Nat) (h0 : Heap) (n0 : Nat) (v : Option Value) (h : Heap) (L : List Loc) : Prop := ∃ rr : Addr, v = some (.ref rr) ∧ Fr n0 L ∧ (Keep h0 h [k, aK, aR, aT]) ∧ (own_KR Z h k aK aR aT sf (own_upd K sn (K sn + 1)) (own_upd Rr sn (rs + 1)) Tt (rs + 1))
theorem ef_request (m : MethodId) (x0 : Addr)  : entryFrame m #[(.ref x0)] 1 = mkF m 0 #[.val (.ref x0)] [] := by first | (simp [entryFrame, mkF, argsToLocals, Value.category]; done) | rfl
set_option maxRecDepth 65536 in
set_option maxHeartbeats 40000000 in
theorem rm_request (l : Launch) (Z : State) (a0 : Array Value) (hw : ∀ d ∈ tables_1, d.before a0 Z = true) (ws : List Jvm.Cond) (k : Addr) (aK : Addr) (aR : Addr) (aT : Addr) (sf : Int32) (K : Nat → Int64) (Rr : Nat → Int64) (Tt : Nat → Int64) (rs : Int64) (sn : Nat) (h0 : Heap) (n0 : Nat) (Zs : n0 ≤ h0.size) (BB : own_KR Z h0 k aK aR aT sf K Rr Tt rs) (hs : sf.toInt = (sn : Int)) (hl : sn < 3) (hpos : ¬ (K sn + 1) < (1 : Int64)) (n1 : k ≠ aK) (n2 : k ≠ aR) (n3 : k ≠ aT) (n4 : aK ≠ aR) (n5 : aK ≠ aT) (n6 : aR ≠ aT) (g_k : n0 ≤ k) (g_aK : n0 ≤ aK) (g_aR : n0 ≤ aR) (g_aT : n0 ≤ aT) :
    MetFree l (⟨"com/example/coterie/coterie/runtime/KnownRequests", "request", "()Lcom/example/coterie/coterie/message/VectorStamp;"⟩ : MethodName) (head1 (Jvm.Cond.code (⟨"com/example/coterie/coterie/runtime/KnownRequests", "request", "()Lcom/example/coterie/coterie/message/VectorStamp;"⟩ : MethodName) prog_86_method_2_code 1 (some (.object "com/example/coterie/coterie/message/VectorStamp")) :: ws) ({ frames := 2, cells := 2, slots := 5, locals := 70 } : Room)) (fun a U => a = #[(.ref k)] ∧ Z.Warmed39 U.vm ∧ U.heap = h0) (fun _ _ _ _ _ => True) (fun _ U o U' => ∃ v L, o = .returned v ∧ (Q_request Z k aK aR aT sf K Rr Tt rs sn h0 n0) v U'.heap L ∧ FrameEnd U o U' L ({ frames := 2, cells := 2, slots := 5, locals := 70 } : Room).cells ({ frames := 2, cells := 2, slots := 5, locals := 70 } : Room).slots) := by
  refine MetFree.of_bodySF (plainFor_of_name own_pn0) hisR ?_
  intro p e s m args below meth c s₁ Bd hml0 hP hK
  obtain ⟨rfl, hZ, hh⟩ := hP
  have hx := Bd.exec
  have hby := Bd.bytes
  have hlk := BodyLoose.notSynchronized Bd
  have hret := Bd.returns
  have hml : c.maxLocals = 1 := hml0
  have hown : s.vm.findClass "com/example/coterie/coterie/runtime/KnownRequests" = some m.cls := findClass_of_methodNamed Bd.named
  have hnm := (name_of_methodNamed Bd.named Bd.method).1
  have X : Stand p l e ({ frames := 2, cells := 2, slots := 5, locals := 70 } : Room) s m #[(.ref k)] below meth c s₁ [] 0 0 := Stand.of_body Bd
  have eT : s₁.heap = h0 := by rw [← hh, Bd.state]; rfl
  have N := Fr.nil n0
  have K0 : Keep h0 h0 [k, aK, aR, aT] := Keep.refl _ _
  show own_Go p e below s (Q_request Z k aK aR aT sf K Rr Tt rs sn h0 n0) ({ frames := 2, cells := 2, slots := 5, locals := 70 } : Room).cells ({ frames := 2, cells := 2, slots := 5, locals := 70 } : Room).slots s₁ (entryFrame m #[(.ref k)] 1)
  rw [ef_request m k]
  obtain ⟨E_k, F_self, F_known, F_rose, F_told, F_rises, V_K, V_R, V_T, E_aK⟩ := BB
  refine own_st (T' := s₁) (g' := (mkF m 1 #[.val (.ref k)] [(.ref k)])) (fun _ zq => XS.aloadN X.here hx rfl (hb hby own_d_prog_86_m2_0) rfl rfl zq) ?_
  refine own_st (T' := s₁) (g' := (mkF m 2 #[.val (.ref k)] [(.ref k), (.ref k)])) (fun _ zq => XS.aloadN X.here hx rfl (hb hby own_d_prog_86_m2_1) rfl rfl zq) ?_
  obtain ⟨T65, X65, e65, st65⟩ := getF X hx hZ hown (host := "") (Or.inl (hw _ (List.mem_of_getElem? (i := 10) rfl))) Via.refl eT F_self (g := (mkF m 2 #[.val (.ref k)] [(.ref k), (.ref k)])) rfl rfl (hb hby own_d_prog_86_m2_2)
  refine own_st (g' := (mkF m 5 #[.val (.ref k)] [(.int sf), (.ref k)])) st65 ?_
  refine own_st (T' := T65) (g' := (mkF m 6 #[.val (.ref k)] [(.ref k), (.int sf), (.ref k)])) (fun _ zq => XS.aloadN X65.here hx rfl (hb hby own_d_prog_86_m2_5) rfl rfl zq) ?_
  obtain ⟨T66, X66, e66, st66⟩ := getF X65 hx hZ hown (host := "") (Or.inl (hw _ (List.mem_of_getElem? (i := 12) rfl))) Via.refl e65 F_known (g := (mkF m 6 #[.val (.ref k)] [(.ref k), (.int sf), (.ref k)])) rfl rfl (hb hby own_d_prog_86_m2_6)
  refine own_st (g' := (mkF m 9 #[.val (.ref k)] [(.ref aK), (.int sf), (.ref k)])) st66 ?_
  refine own_st (T' := T66) (g' := (mkF m 10 #[.val (.ref k)] [(.ref k), (.ref aK), (.int sf), (.ref k)])) (fun _ zq => XS.aloadN X66.here hx rfl (hb hby own_d_prog_86_m2_9) rfl rfl zq) ?_
  obtain ⟨T67, X67, e67, st67⟩ := getF X66 hx hZ hown (host := "") (Or.inl (hw _ (List.mem_of_getElem? (i := 10) rfl))) Via.refl e66 F_self (g := (mkF m 10 #[.val (.ref k)] [(.ref k), (.ref aK), (.int sf), (.ref k)])) rfl rfl (hb hby own_d_prog_86_m2_10)
  refine own_st (g' := (mkF m 13 #[.val (.ref k)] [(.int sf), (.ref aK), (.int sf), (.ref k)])) st67 ?_
  refine own_st (T' := T67) (g' := (mkF m 14 #[.val (.ref k)] [(.long (K sn)), (.int sf), (.ref k)])) (own_ldJ X67 hx hZ e67 V_K (j := sf) (sn) hs hl (w := (.long (K sn))) rfl (g := (mkF m 13 #[.val (.ref k)] [(.int sf), (.ref aK), (.int sf), (.ref k)])) rfl rfl (hb hby own_d_prog_86_m2_13)) ?_
  refine own_st (T' := T67) (g' := (mkF m 15 #[.val (.ref k)] [(.long (1 : Int64)), (.long (K sn)), (.int sf), (.ref k)])) (fun _ zq => XS.lconst X67.here hx rfl (hb hby own_d_prog_86_m2_14) zq) ?_
  refine own_st (T' := T67) (g' := (mkF m 16 #[.val (.ref k)] [(.long ((K sn) + (1 : Int64))), (.int sf), (.ref k)])) (fun _ zq => XS.ladd X67.here hx rfl (hb hby own_d_prog_86_m2_15) rfl zq) ?_
  have BB : own_KR Z h0 k aK aR aT sf K Rr Tt rs := ⟨E_k, F_self, F_known, F_rose, F_told, F_rises, V_K, V_R, V_T, E_aK⟩
  obtain ⟨cq68, q68, q68'⟩ := BB.1.cell
  obtain ⟨_, _, ⟨T68, L68, k68, n68⟩, -, X68, ⟨Lc68, hQ68, l68, y68, z68⟩, st68⟩ := X67.privateBack hx (y := (⟨"com/example/coterie/coterie/runtime/KnownRequests", "rise", "(IJ)V"⟩ : MethodName)) hown (mvT hZ (hw _ (List.mem_of_getElem? (i := 23) rfl))) (mvT hZ (hw _ (List.mem_of_getElem? (i := 24) rfl))) (own_selP hZ (hw _ (List.mem_of_getElem? (i := 2) rfl)) (hw _ (List.mem_of_getElem? (i := 25) rfl)) (hw _ (List.mem_of_getElem? (i := 24) rfl)) (by decide)) (Cond.privateMethod_at (mvP hZ (hw _ (List.mem_of_getElem? (i := 25) rfl)) (args := #[]))) (mvT hZ (hw _ (List.mem_of_getElem? (i := 26) rfl))) (by decide) (backOf (W := 0) (rm_rise l Z a0 hw [] k aK aR aT sf K Rr Tt rs sf sn (K sn + (1 : Int64)) h0 n0 Zs BB hs hl n1 n2 n3 n4 n5 n6 g_k g_aK g_aR g_aT) hZ (hw _ (List.mem_of_getElem? (i := 26) rfl)) (hw _ (List.mem_of_getElem? (i := 3) rfl)) (by decide) (by decide)) (g := (mkF m 16 #[.val (.ref k)] [(.long ((K sn) + (1 : Int64))), (.int sf), (.ref k)])) rfl (by rw [hml]; rfl) (Steps.refl _) (a := k) (by rw [e67]; exact q68) q68' (argsL := [(.int sf), (.long ((K sn) + (1 : Int64)))]) (rest := []) (lenOf own_pd0 rfl) rfl (by show 2 * 0 + _ ≤ _; exact Nat.le_of_eq rfl) (hb hby own_d_prog_86_m2_16) (fun _ _ => ⟨rfl, e67, (by decide : 0 + 0 ≤ _), (by decide : 0 + 0 ≤ _)⟩)
  dsimp only [Pt.U, Pt.locs, Pt.cells, Pt.slots] at X68 l68 y68 z68 st68 hQ68
  subst l68 y68 z68
  obtain ⟨rfl, Nq68, Kq68, BB⟩ := hQ68
  replace N := Fr.app N Nq68
  replace Zs := Nat.le_trans Zs Kq68.1
  replace K0 := K0.trans Kq68 (allS (Or.inl (List.mem_of_getElem? (i := 0) rfl)) (allS (Or.inl (List.mem_of_getElem? (i := 1) rfl)) (allS (Or.inl (List.mem_of_getElem? (i := 2) rfl)) (allS (Or.inl (List.mem_of_getElem? (i := 3) rfl)) all0))))
  refine own_tr (g' := (mkF m 19 #[.val (.ref k)] [])) st68 ?_
  obtain ⟨E_k, F_self, F_known, F_rose, F_told, F_rises, V_K, V_R, V_T, E_aK⟩ := BB
  obtain ⟨T69, h69, X69, e69, E69, A69, D69, -, st69⟩ := newO X68 hx hZ hown (hw _ (List.mem_of_getElem? (i := 65) rfl)) (hw _ (List.mem_of_getElem? (i := 66) rfl)) (hw _ (List.mem_of_getElem? (i := 67) rfl)) rfl (g := (mkF m 19 #[.val (.ref k)] [])) rfl (hb hby own_d_prog_86_m2_19) (by decide) (by decide)
  obtain ⟨b69, ga69⟩ : ∃ z, z = T68.heap.size := ⟨_, rfl⟩
  rw [← ga69] at A69 D69 st69
  have g_b69 : n0 ≤ b69 := Nat.le_trans Zs (Nat.le_of_eq ga69.symm)
  have sz_b69 : h0.size ≤ b69 := Nat.le_trans K0.1 (Nat.le_of_eq ga69.symm)
  have ne_k_b69 : k ≠ b69 := fun q => Nat.lt_irrefl _ (Nat.lt_of_lt_of_eq E_k.lt (ga69.symm.trans q.symm))
  have ne_aK_b69 : aK ≠ b69 := fun q => Nat.lt_irrefl _ (Nat.lt_of_lt_of_eq V_K.lt (ga69.symm.trans q.symm))
  have ne_aR_b69 : aR ≠ b69 := fun q => Nat.lt_irrefl _ (Nat.lt_of_lt_of_eq V_R.lt (ga69.symm.trans q.symm))
  have ne_aT_b69 : aT ≠ b69 := fun q => Nat.lt_irrefl _ (Nat.lt_of_lt_of_eq V_T.lt (ga69.symm.trans q.symm))
  have E_b69 := A69
  replace E_k := E_k.ext E69
  replace F_self := F_self.ext E69
  replace F_known := F_known.ext E69
  replace F_rose := F_rose.ext E69
  replace F_told := F_told.ext E69
  replace F_rises := F_rises.ext E69
  replace V_K := V_K.ext E69
  replace V_R := V_R.ext E69
  replace V_T := V_T.ext E69
  replace E_aK := E_aK.ext E69
  replace Zs := Nat.le_trans Zs E69.1
  replace K0 := K0.ext E69
  have F_b69_node : Fld Z h69 b69 "com/example/coterie/coterie/message/VectorStamp" "node" "I" (.int (0 : Int32)) := D69 (Or.inr (hw _ (List.mem_of_getElem? (i := 73) rfl))) (ty := .int) (by decide)
  have F_b69_counts : Fld Z h69 b69 "com/example/coterie/coterie/message/VectorStamp" "counts" "[J" .null := D69 (Or.inr (hw _ (List.mem_of_getElem? (i := 84) rfl))) (ty := (.array .long)) (by decide)
  refine own_st (g' := (mkF m 22 #[.val (.ref k)] [(.ref b69)])) st69 ?_
  refine own_st (T' := T69) (g' := (mkF m 23 #[.val (.ref k)] [(.ref b69), (.ref b69)])) (fun _ zq => XS.dup X69.here hx rfl (hb hby own_d_prog_86_m2_22) rfl rfl zq) ?_
  refine own_st (T' := T69) (g' := (mkF m 24 #[.val (.ref k)] [(.ref k), (.ref b69), (.ref b69)])) (fun _ zq => XS.aloadN X69.here hx rfl (hb hby own_d_prog_86_m2_23) rfl rfl zq) ?_
  obtain ⟨T70, X70, e70, st70⟩ := getF X69 hx hZ hown (host := "") (Or.inl (hw _ (List.mem_of_getElem? (i := 10) rfl))) Via.refl e69 F_self (g := (mkF m 24 #[.val (.ref k)] [(.ref k), (.ref b69), (.ref b69)])) rfl rfl (hb hby own_d_prog_86_m2_24)
  refine own_st (g' := (mkF m 27 #[.val (.ref k)] [(.int sf), (.ref b69), (.ref b69)])) st70 ?_
  refine own_st (T' := T70) (g' := (mkF m 28 #[.val (.ref k)] [(.ref k), (.int sf), (.ref b69), (.ref b69)])) (fun _ zq => XS.aloadN X70.here hx rfl (hb hby own_d_prog_86_m2_27) rfl rfl zq) ?_
  obtain ⟨T71, X71, e71, st71⟩ := getF X70 hx hZ hown (host := "") (Or.inl (hw _ (List.mem_of_getElem? (i := 12) rfl))) Via.refl e70 F_known (g := (mkF m 28 #[.val (.ref k)] [(.ref k), (.int sf), (.ref b69), (.ref b69)])) rfl rfl (hb hby own_d_prog_86_m2_28)
  refine own_st (g' := (mkF m 31 #[.val (.ref k)] [(.ref aK), (.int sf), (.ref b69), (.ref b69)])) st71 ?_
  obtain ⟨_, _, ⟨T72, L72, k72, n72⟩, -, X72, ⟨Lc72, hQ72, l72, y72, z72⟩, st72⟩ := X71.specialBack hx (y := (⟨"com/example/coterie/coterie/message/VectorStamp", "<init>", "(I[J)V"⟩ : MethodName)) rfl hown (mvT hZ (hw _ (List.mem_of_getElem? (i := 68) rfl))) (mvT hZ (hw _ (List.mem_of_getElem? (i := 69) rfl))) (mvT hZ (hw _ (List.mem_of_getElem? (i := 70) rfl))) (by decide) (backOf (W := 1) (rm_vsinit l Z a0 hw [] b69 sf sn aK (own_upd K sn (K sn + 1)) h69 n0 Zs E_b69 F_b69_node F_b69_counts V_K E_aK hs hl (by rw [own_upd, if_pos rfl]; exact hpos) ne_aK_b69.symm g_b69) hZ (hw _ (List.mem_of_getElem? (i := 70) rfl)) (hw _ (List.mem_of_getElem? (i := 67) rfl)) (by decide) (by decide)) (g := (mkF m 31 #[.val (.ref k)] [(.ref aK), (.int sf), (.ref b69), (.ref b69)])) rfl (by rw [hml]; rfl) (Steps.refl _) (a := b69) (argsL := [(.int sf), (.ref aK)]) (rest := [(.ref b69)]) (lenOf own_pd2 rfl) rfl (by show 2 * 0 + _ ≤ _; exact Nat.le_of_eq rfl) (hb hby own_d_prog_86_m2_31) (fun _ _ => ⟨rfl, e71, (by decide : 1 + 1 ≤ _), (by decide : 2 + 3 ≤ _)⟩)
  dsimp only [Pt.U, Pt.locs, Pt.cells, Pt.slots] at X72 l72 y72 z72 st72 hQ72
  subst l72 y72 z72
  obtain ⟨rfl, Nq72, Kq72⟩ := hQ72
  replace N := Fr.app N Nq72
  replace E_k := E_k.keep Kq72
  replace F_self := F_self.keep Kq72 (ninS ne_k_b69 nin0)
  replace F_known := F_known.keep Kq72 (ninS ne_k_b69 nin0)
  replace F_rose := F_rose.keep Kq72 (ninS ne_k_b69 nin0)
  replace F_told := F_told.keep Kq72 (ninS ne_k_b69 nin0)
  replace F_rises := F_rises.keep Kq72 (ninS ne_k_b69 nin0)
  replace V_K := V_K.keep Kq72 (ninS ne_aK_b69 nin0)
  replace V_R := V_R.keep Kq72 (ninS ne_aR_b69 nin0)
  replace V_T := V_T.keep Kq72 (ninS ne_aT_b69 nin0)
  replace E_aK := E_aK.keep Kq72
  replace Zs := Nat.le_trans Zs Kq72.1
  replace K0 := K0.trans Kq72 (allS (Or.inr sz_b69) all0)
  refine own_tr (g' := (mkF m 34 #[.val (.ref k)] [(.ref b69)])) st72 ?_
  exact own_ret X72 hx hret hlk (i := .areturn) rfl (Or.inr (Or.inr (Or.inr (Or.inr ⟨rfl, rfl, rfl⟩)))) (hb hby own_d_prog_86_m2_34) rfl (Nat.le_of_ble_eq_true rfl) (Nat.le_of_ble_eq_true rfl) ⟨b69, rfl, N, K0, ⟨E_k, F_self, F_known, F_rose, F_told, F_rises, V_K, V_R, V_T, E_aK⟩⟩
def Q_learnG (Z : State) (k : Addr) (aK : Addr) (aR : Addr) (aT : Addr) (sf : Int32) (K : Nat → Int64) (Rr : Nat → Int64) (Tt : Nat → Int64) (rs : Int64) (am : Addr) (fm : Nat → Value) (es : List (Nat × Int64)) (h0 : Heap) (n0 : Nat) (v : Option Value) (h : Heap) (L : List Loc) : Prop := v = none ∧ Fr n0 L ∧ (Keep h0 h [k, aK, aR, aT]) ∧ (own_KR Z h k aK aR aT sf (own_fK es K) (own_fR es K Rr rs) Tt (own_fs es K rs))
theorem rm_learnG (l : Launch) (Z : State) (a0 : Array Value) (hw : ∀ d ∈ tables_1, d.before a0 Z = true) (ws : List Jvm.Cond) (k : Addr) (aK : Addr) (aR : Addr) (aT : Addr) (sf : Int32) (K : Nat → Int64) (Rr : Nat → Int64) (Tt : Nat → Int64) (rs : Int64) (am : Addr) (fm : Nat → Value) (es : List (Nat × Int64)) (h0 : Heap) (n0 : Nat) (Zs : n0 ≤ h0.size) (BB : own_KR Z h0 k aK aR aT sf K Rr Tt rs) (V_m : own_AV Z h0 am .long (2 * es.length) fm) (hms : own_ms fm 0 es) (hle : es.length ≤ 2) (n1 : k ≠ aK) (n2 : k ≠ aR) (n3 : k ≠ aT) (n4 : aK ≠ aR) (n5 : aK ≠ aT) (n6 : aR ≠ aT) (g_k : n0 ≤ k) (g_aK : n0 ≤ aK) (g_aR : n0 ≤ aR) (g_aT : n0 ≤ aT) (q1 : am ≠ k) (q2 : am ≠ aK) (q3 : am ≠ aR) (q4 : am ≠ aT) :
    MetFree l (⟨"com/example/coterie/coterie/runtime/KnownRequests", "learn", "([J)V"⟩ : MethodName) (head1 (Jvm.Cond.code (⟨"com/example/coterie/coterie/runtime/KnownRequests", "learn", "([J)V"⟩ : MethodName) prog_86_method_4_code 4 none :: ws) ({ frames := 1, cells := 0, slots := 0, locals := 24 } : Room)) (fun a U => a = #[(.ref k), (.ref am)] ∧ Z.Warmed39 U.vm ∧ U.heap = h0) (fun _ _ _ _ _ => True) (fun _ U o U' => ∃ v L, o = .returned v ∧ (Q_learnG Z k aK aR aT sf K Rr Tt rs am fm es h0 n0) v U'.heap L ∧ FrameEnd U o U' L ({ frames := 1, cells := 0, slots := 0, locals := 24 } : Room).cells ({ frames := 1, cells := 0, slots := 0, locals := 24 } : Room).slots) := by
  match es, V_m, hms, hle with
  | [], V_m, _, _ => exact rm_learn0 l Z a0 hw ws k aK aR aT sf K Rr Tt rs am fm h0 n0 Zs BB V_m n1 n2 n3 n4 n5 n6 g_k g_aK g_aR g_aT q1 q2 q3 q4
  | [e1], V_m, hms, _ =>
    obtain ⟨⟨x, a1, a2, a3, a4⟩, -⟩ := hms
    exact rm_learn2 l Z a0 hw ws k aK aR aT sf K Rr Tt rs am fm x e1.1 e1.2 h0 n0 Zs BB V_m a1 a2 a3 a4 n1 n2 n3 n4 n5 n6 g_k g_aK g_aR g_aT q1 q2 q3 q4
  | [e1, e2], V_m, hms, _ =>
    obtain ⟨⟨x, a1, a2, a3, a4⟩, ⟨y, b1, b2, b3, b4⟩, -⟩ := hms
    exact rm_learn4 l Z a0 hw ws k aK aR aT sf K Rr Tt rs am fm x y e1.1 e2.1 e1.2 e2.2 h0 n0 Zs BB V_m a1 a2 a3 a4 b1 b2 b3 b4 n1 n2 n3 n4 n5 n6 g_k g_aK g_aR g_aT q1 q2 q3 q4
  | _ :: _ :: _ :: _, _, _, h => exact absurd h (by simp)
def Q_max (Z : State) (x_ : Int64) (y_ : Int64) (h0 : Heap) (n0 : Nat) (v : Option Value) (h : Heap) (L : List Loc) : Prop := v = some (.long (if x_ < y_ then y_ else x_)) ∧ Fr n0 L ∧ (h = h0)
theorem ef_max (m : MethodId) (x0 : Int64) (x1 : Int64)  : entryFrame m #[(.long x0), (.long x1)] 4 = mkF m 0 #[.val (.long x0), .second, .val (.long x1), .second] [] := by first | (simp [entryFrame, mkF, argsToLocals, Value.category]; done) | rfl
set_option maxRecDepth 65536 in
set_option maxHeartbeats 40000000 in
theorem rm_max (l : Launch) (Z : State) (a0 : Array Value) (hw : ∀ d ∈ tables_1, d.before a0 Z = true) (ws : List Jvm.Cond) (x_ : Int64) (y_ : Int64) (h0 : Heap) (n0 : Nat) (Zs : n0 ≤ h0.size)  :
    MetFree l (⟨"java/lang/Math", "max", "(JJ)J"⟩ : MethodName) (head1 (Jvm.Cond.code (⟨"java/lang/Math", "max", "(JJ)J"⟩ : MethodName) jdk_29_method_66_code 4 (some .long) :: ws) ({ frames := 0, cells := 0, slots := 0, locals := 0 } : Room)) (fun a U => a = #[(.long x_), (.long y_)] ∧ Z.Warmed39 U.vm ∧ U.heap = h0) (fun _ _ _ _ _ => True) (fun _ U o U' => ∃ v L, o = .returned v ∧ (Q_max Z x_ y_ h0 n0) v U'.heap L ∧ FrameEnd U o U' L ({ frames := 0, cells := 0, slots := 0, locals := 0 } : Room).cells ({ frames := 0, cells := 0, slots := 0, locals := 0 } : Room).slots) := by
  refine MetFree.of_bodySF (Jvm.Free.JP.mathPlain rfl (by decide +kernel)) hisR ?_
  intro p e s m args below meth c s₁ Bd hml0 hP hK
  obtain ⟨rfl, hZ, hh⟩ := hP
  have hx := Bd.exec
  have hby := Bd.bytes
  have hlk := BodyLoose.notSynchronized Bd
  have hret := Bd.returns
  have hml : c.maxLocals = 4 := hml0
  have hown : s.vm.findClass "java/lang/Math" = some m.cls := findClass_of_methodNamed Bd.named
  have hnm := (name_of_methodNamed Bd.named Bd.method).1
  have X : Stand p l e ({ frames := 0, cells := 0, slots := 0, locals := 0 } : Room) s m #[(.long x_), (.long y_)] below meth c s₁ [] 0 0 := Stand.of_body Bd
  have eT : s₁.heap = h0 := by rw [← hh, Bd.state]; rfl
  have N := Fr.nil n0
  have K0 : Keep h0 h0 [] := Keep.refl _ _
  show own_Go p e below s (Q_max Z x_ y_ h0 n0) ({ frames := 0, cells := 0, slots := 0, locals := 0 } : Room).cells ({ frames := 0, cells := 0, slots := 0, locals := 0 } : Room).slots s₁ (entryFrame m #[(.long x_), (.long y_)] 4)
  rw [ef_max m x_ y_]
  refine own_st (T' := s₁) (g' := (mkF m 1 #[.val (.long x_), .second, .val (.long y_), .second] [(.long x_)])) (fun _ zq => XS.lloadN X.here hx rfl (hb hby own_d_jdk_29_m66_0) rfl zq) ?_
  refine own_st (T' := s₁) (g' := (mkF m 2 #[.val (.long x_), .second, .val (.long y_), .second] [(.long y_), (.long x_)])) (fun _ zq => XS.lloadN X.here hx rfl (hb hby own_d_jdk_29_m66_1) rfl zq) ?_
  refine own_st (T' := s₁) (g' := (mkF m 3 #[.val (.long x_), .second, .val (.long y_), .second] [(.int (lcmpW x_ y_))])) (fun _ zq => XS.lcmp X.here hx rfl (hb hby own_d_jdk_29_m66_2) rfl zq) ?_
  by_cases hc : x_ < y_
  · skip
    refine own_st (T' := s₁) (g' := (mkF m 10 #[.val (.long x_), .second, .val (.long y_), .second] [])) (fun _ zq => XS.ifYes X.here hx rfl (pc0 := 3) (pc' := 10) rfl (hb hby own_d_jdk_29_m66_3) rfl (own_ltlt hc).1 (by decide) (by decide) zq) ?_
    refine own_st (T' := s₁) (g' := (mkF m 11 #[.val (.long x_), .second, .val (.long y_), .second] [(.long y_)])) (fun _ zq => XS.lloadN X.here hx rfl (hb hby own_d_jdk_29_m66_10) rfl zq) ?_
    exact own_ret X hx hret hlk (i := .lreturn) rfl (Or.inr (Or.inl ⟨rfl, rfl, _, rfl⟩)) (hb hby own_d_jdk_29_m66_11) eT (Nat.le_of_ble_eq_true rfl) (Nat.le_of_ble_eq_true rfl) ⟨by rw [if_pos hc], N, rfl⟩
  · skip
    refine own_st (T' := s₁) (g' := (mkF m 6 #[.val (.long x_), .second, .val (.long y_), .second] [])) (fun _ zq => XS.ifNo X.here hx rfl (hb hby own_d_jdk_29_m66_3) rfl (own_lflt hc).1 zq) ?_
    refine own_st (T' := s₁) (g' := (mkF m 7 #[.val (.long x_), .second, .val (.long y_), .second] [(.long x_)])) (fun _ zq => XS.lloadN X.here hx rfl (hb hby own_d_jdk_29_m66_6) rfl zq) ?_
    refine own_st (T' := s₁) (g' := (mkF m 11 #[.val (.long x_), .second, .val (.long y_), .second] [(.long x_)])) (fun _ zq => XS.goto X.here hx rfl (pc0 := 7) (pc' := 11) rfl (hb hby own_d_jdk_29_m66_7) (by decide) (by decide) zq) ?_
    exact own_ret X hx hret hlk (i := .lreturn) rfl (Or.inr (Or.inl ⟨rfl, rfl, _, rfl⟩)) (hb hby own_d_jdk_29_m66_11) eT (Nat.le_of_ble_eq_true rfl) (Nat.le_of_ble_eq_true rfl) ⟨by rw [if_neg hc], N, rfl⟩
def Q_phase1 (Z : State) (j : Int32) (jn : Nat) (s_ : Int32) (sn : Nat) (rq : Int32) (m1 : Int32) (m1n : Nat) (a_ : Int64) (h0 : Heap) (n0 : Nat) (v : Option Value) (h : Heap) (L : List Loc) : Prop := v = some (.long (own_ph sn m1n rq a_ jn)) ∧ Fr n0 L ∧ (h = h0)
theorem ef_phase1 (m : MethodId) (x0 : Int32) (x1 : Int32) (x2 : Int32) (x3 : Int32) (x4 : Int64)  : entryFrame m #[(.int x0), (.int x1), (.int x2), (.int x3), (.long x4)] 6 = mkF m 0 #[.val (.int x0), .val (.int x1), .val (.int x2), .val (.int x3), .val (.long x4), .second] [] := by first | (simp [entryFrame, mkF, argsToLocals, Value.category]; done) | rfl
set_option maxRecDepth 65536 in
set_option maxHeartbeats 40000000 in
theorem rm_phase1 (l : Launch) (Z : State) (a0 : Array Value) (hw : ∀ d ∈ tables_1, d.before a0 Z = true) (ws : List Jvm.Cond) (j : Int32) (jn : Nat) (s_ : Int32) (sn : Nat) (rq : Int32) (m1 : Int32) (m1n : Nat) (a_ : Int64) (h0 : Heap) (n0 : Nat) (Zs : n0 ≤ h0.size) (hj : j.toInt = (jn : Int)) (hs : s_.toInt = (sn : Int)) (hm : m1.toInt = (m1n : Int)) :
    MetFree l (⟨"com/example/coterie/coterie/runtime/KnownRequestsLearnPinLaw", "phase1", "(IIZIJ)J"⟩ : MethodName) (head1 (Jvm.Cond.code (⟨"com/example/coterie/coterie/runtime/KnownRequestsLearnPinLaw", "phase1", "(IIZIJ)J"⟩ : MethodName) method_3_code 6 (some .long) :: ws) ({ frames := 1, cells := 0, slots := 0, locals := 20 } : Room)) (fun a U => a = #[(.int j), (.int s_), (.int rq), (.int m1), (.long a_)] ∧ Z.Warmed39 U.vm ∧ U.heap = h0) (fun _ _ _ _ _ => True) (fun _ U o U' => ∃ v L, o = .returned v ∧ (Q_phase1 Z j jn s_ sn rq m1 m1n a_ h0 n0) v U'.heap L ∧ FrameEnd U o U' L ({ frames := 1, cells := 0, slots := 0, locals := 20 } : Room).cells ({ frames := 1, cells := 0, slots := 0, locals := 20 } : Room).slots) := by
  refine MetFree.of_bodySF (plainFor_of_name own_pn2) hisR ?_
  intro p e s m args below meth c s₁ Bd hml0 hP hK
  obtain ⟨rfl, hZ, hh⟩ := hP
  have hx := Bd.exec
  have hby := Bd.bytes
  have hlk := BodyLoose.notSynchronized Bd
  have hret := Bd.returns
  have hml : c.maxLocals = 6 := hml0
  have hown : s.vm.findClass "com/example/coterie/coterie/runtime/KnownRequestsLearnPinLaw" = some m.cls := findClass_of_methodNamed Bd.named
  have hnm := (name_of_methodNamed Bd.named Bd.method).1
  have X : Stand p l e ({ frames := 1, cells := 0, slots := 0, locals := 20 } : Room) s m #[(.int j), (.int s_), (.int rq), (.int m1), (.long a_)] below meth c s₁ [] 0 0 := Stand.of_body Bd
  have eT : s₁.heap = h0 := by rw [← hh, Bd.state]; rfl
  have N := Fr.nil n0
  have K0 : Keep h0 h0 [] := Keep.refl _ _
  show own_Go p e below s (Q_phase1 Z j jn s_ sn rq m1 m1n a_ h0 n0) ({ frames := 1, cells := 0, slots := 0, locals := 20 } : Room).cells ({ frames := 1, cells := 0, slots := 0, locals := 20 } : Room).slots s₁ (entryFrame m #[(.int j), (.int s_), (.int rq), (.int m1), (.long a_)] 6)
  rw [ef_phase1 m j s_ rq m1 a_]
  refine own_st (T' := s₁) (g' := (mkF m 1 #[.val (.int j), .val (.int s_), .val (.int rq), .val (.int m1), .val (.long a_), .second] [(.int j)])) (fun _ zq => XS.iloadN X.here hx rfl (hb hby own_d_m3_0) rfl zq) ?_
  refine own_st (T' := s₁) (g' := (mkF m 2 #[.val (.int j), .val (.int s_), .val (.int rq), .val (.int m1), .val (.long a_), .second] [(.int s_), (.int j)])) (fun _ zq => XS.iloadN X.here hx rfl (hb hby own_d_m3_1) rfl zq) ?_
  by_cases hc : j = s_
  · skip
    refine own_st (T' := s₁) (g' := (mkF m 5 #[.val (.int j), .val (.int s_), .val (.int rq), .val (.int m1), .val (.long a_), .second] [])) (fun _ zq => XS.icmpNo X.here hx rfl (hb hby own_d_m3_2) rfl (teq hc).2 zq) ?_
    refine own_st (T' := s₁) (g' := (mkF m 6 #[.val (.int j), .val (.int s_), .val (.int rq), .val (.int m1), .val (.long a_), .second] [(.int rq)])) (fun _ zq => XS.iloadN X.here hx rfl (hb hby own_d_m3_5) rfl zq) ?_
    by_cases hd : rq = (0 : Int32)
    · skip
      refine own_st (T' := s₁) (g' := (mkF m 13 #[.val (.int j), .val (.int s_), .val (.int rq), .val (.int m1), .val (.long a_), .second] [])) (fun _ zq => XS.ifYes X.here hx rfl (pc0 := 6) (pc' := 13) rfl (hb hby own_d_m3_6) rfl ((if0 _ _).trans (teq hd).1) (by decide) (by decide) zq) ?_
      refine own_st (T' := s₁) (g' := (mkF m 14 #[.val (.int j), .val (.int s_), .val (.int rq), .val (.int m1), .val (.long a_), .second] [(.long (0 : Int64))])) (fun _ zq => XS.lconst X.here hx rfl (hb hby own_d_m3_13) zq) ?_
      exact own_ret X hx hret hlk (i := .lreturn) rfl (Or.inr (Or.inl ⟨rfl, rfl, _, rfl⟩)) (hb hby own_d_m3_14) eT (Nat.le_of_ble_eq_true rfl) (Nat.le_of_ble_eq_true rfl) ⟨by rw [own_ph, if_pos (own_eqN hj hs hc), if_pos hd], N, rfl⟩
    · skip
      refine own_st (T' := s₁) (g' := (mkF m 9 #[.val (.int j), .val (.int s_), .val (.int rq), .val (.int m1), .val (.long a_), .second] [])) (fun _ zq => XS.ifNo X.here hx rfl (hb hby own_d_m3_6) rfl ((if0 _ _).trans (feq hd).1) zq) ?_
      refine own_st (T' := s₁) (g' := (mkF m 10 #[.val (.int j), .val (.int s_), .val (.int rq), .val (.int m1), .val (.long a_), .second] [(.long (1 : Int64))])) (fun _ zq => XS.lconst X.here hx rfl (hb hby own_d_m3_9) zq) ?_
      refine own_st (T' := s₁) (g' := (mkF m 14 #[.val (.int j), .val (.int s_), .val (.int rq), .val (.int m1), .val (.long a_), .second] [(.long (1 : Int64))])) (fun _ zq => XS.goto X.here hx rfl (pc0 := 10) (pc' := 14) rfl (hb hby own_d_m3_10) (by decide) (by decide) zq) ?_
      exact own_ret X hx hret hlk (i := .lreturn) rfl (Or.inr (Or.inl ⟨rfl, rfl, _, rfl⟩)) (hb hby own_d_m3_14) eT (Nat.le_of_ble_eq_true rfl) (Nat.le_of_ble_eq_true rfl) ⟨by rw [own_ph, if_pos (own_eqN hj hs hc), if_neg hd], N, rfl⟩
  · skip
    refine own_st (T' := s₁) (g' := (mkF m 15 #[.val (.int j), .val (.int s_), .val (.int rq), .val (.int m1), .val (.long a_), .second] [])) (fun _ zq => XS.icmpYes X.here hx rfl (pc0 := 2) (pc' := 15) rfl (hb hby own_d_m3_2) rfl (feq hc).2 (by decide) (by decide) zq) ?_
    refine own_st (T' := s₁) (g' := (mkF m 16 #[.val (.int j), .val (.int s_), .val (.int rq), .val (.int m1), .val (.long a_), .second] [(.int j)])) (fun _ zq => XS.iloadN X.here hx rfl (hb hby own_d_m3_15) rfl zq) ?_
    refine own_st (T' := s₁) (g' := (mkF m 17 #[.val (.int j), .val (.int s_), .val (.int rq), .val (.int m1), .val (.long a_), .second] [(.int m1), (.int j)])) (fun _ zq => XS.iloadN X.here hx rfl (hb hby own_d_m3_16) rfl zq) ?_
    by_cases he : j = m1
    · skip
      refine own_st (T' := s₁) (g' := (mkF m 20 #[.val (.int j), .val (.int s_), .val (.int rq), .val (.int m1), .val (.long a_), .second] [])) (fun _ zq => XS.icmpNo X.here hx rfl (hb hby own_d_m3_17) rfl (teq he).2 zq) ?_
      refine own_st (T' := s₁) (g' := (mkF m 21 #[.val (.int j), .val (.int s_), .val (.int rq), .val (.int m1), .val (.long a_), .second] [(.long (0 : Int64))])) (fun _ zq => XS.lconst X.here hx rfl (hb hby own_d_m3_20) zq) ?_
      refine own_st (T' := s₁) (g' := (mkF m 23 #[.val (.int j), .val (.int s_), .val (.int rq), .val (.int m1), .val (.long a_), .second] [(.long a_), (.long (0 : Int64))])) (fun _ zq => XS.lload X.here hx rfl (hb hby own_d_m3_21) rfl zq) ?_
      obtain ⟨_, _, ⟨T73, L73, k73, n73⟩, -, X73, ⟨Lc73, hQ73, l73, y73, z73⟩, st73⟩ := Jvm.LawKit.callS X hx (y := (⟨"java/lang/Math", "max", "(JJ)J"⟩ : MethodName)) hown (mvT hZ (hw _ (List.mem_of_getElem? (i := 44) rfl))) (mvT hZ (hw _ (List.mem_of_getElem? (i := 45) rfl))) (mvT hZ (hw _ (List.mem_of_getElem? (i := 46) rfl))) (mvT hZ (hw _ (List.mem_of_getElem? (i := 47) rfl))) (by decide) (backOf (W := 0) (rm_max l Z a0 hw [] (0 : Int64) a_ h0 n0 Zs ) hZ (hw _ (List.mem_of_getElem? (i := 47) rfl)) (hw _ (List.mem_of_getElem? (i := 46) rfl)) (by decide) (by decide)) (g := (mkF m 23 #[.val (.int j), .val (.int s_), .val (.int rq), .val (.int m1), .val (.long a_), .second] [(.long a_), (.long (0 : Int64))])) rfl (by rw [hml]; rfl) (argsL := [(.long (0 : Int64)), (.long a_)]) (rest := []) (lenOf own_pd3 rfl) rfl (by show 2 * 0 + _ ≤ _; exact Nat.le_of_eq rfl) (hb hby own_d_m3_23) (fun _ _ => ⟨rfl, eT, (by decide : 0 + 0 ≤ _), (by decide : 0 + 0 ≤ _)⟩)
      dsimp only [Pt.U, Pt.locs, Pt.cells, Pt.slots] at X73 l73 y73 z73 st73 hQ73
      subst l73 y73 z73
      obtain ⟨rfl, Nq73, eq73⟩ := hQ73
      replace N := Fr.app N Nq73
      refine own_st (g' := (mkF m 26 #[.val (.int j), .val (.int s_), .val (.int rq), .val (.int m1), .val (.long a_), .second] [(.long (if (0 : Int64) < a_ then a_ else (0 : Int64)))])) st73 ?_
      exact own_ret X73 hx hret hlk (i := .lreturn) rfl (Or.inr (Or.inl ⟨rfl, rfl, _, rfl⟩)) (hb hby own_d_m3_26) (eq73) (Nat.le_of_ble_eq_true rfl) (Nat.le_of_ble_eq_true rfl) ⟨by rw [own_ph, if_neg (fun q => hc (own_eqI hj hs q)), if_pos (own_eqN hj hm he)], N, rfl⟩
    · skip
      refine own_st (T' := s₁) (g' := (mkF m 27 #[.val (.int j), .val (.int s_), .val (.int rq), .val (.int m1), .val (.long a_), .second] [])) (fun _ zq => XS.icmpYes X.here hx rfl (pc0 := 17) (pc' := 27) rfl (hb hby own_d_m3_17) rfl (feq he).2 (by decide) (by decide) zq) ?_
      refine own_st (T' := s₁) (g' := (mkF m 28 #[.val (.int j), .val (.int s_), .val (.int rq), .val (.int m1), .val (.long a_), .second] [(.long (0 : Int64))])) (fun _ zq => XS.lconst X.here hx rfl (hb hby own_d_m3_27) zq) ?_
      exact own_ret X hx hret hlk (i := .lreturn) rfl (Or.inr (Or.inl ⟨rfl, rfl, _, rfl⟩)) (hb hby own_d_m3_28) eT (Nat.le_of_ble_eq_true rfl) (Nat.le_of_ble_eq_true rfl) ⟨by rw [own_ph, if_neg (fun q => hc (own_eqI hj hs q)), if_neg (fun q => he (own_eqI hj hm q))], N, rfl⟩
def Q_rose1 (Z : State) (j : Int32) (jn : Nat) (s_ : Int32) (sn : Nat) (rq : Int32) (m1 : Int32) (m1n : Nat) (a_ : Int64) (h0 : Heap) (n0 : Nat) (v : Option Value) (h : Heap) (L : List Loc) : Prop := v = some (.int (own_ro sn m1n rq a_ jn)) ∧ Fr n0 L ∧ (h = h0)
theorem ef_rose1 (m : MethodId) (x0 : Int32) (x1 : Int32) (x2 : Int32) (x3 : Int32) (x4 : Int64)  : entryFrame m #[(.int x0), (.int x1), (.int x2), (.int x3), (.long x4)] 6 = mkF m 0 #[.val (.int x0), .val (.int x1), .val (.int x2), .val (.int x3), .val (.long x4), .second] [] := by first | (simp [entryFrame, mkF, argsToLocals, Value.category]; done) | rfl
set_option maxRecDepth 65536 in
set_option maxHeartbeats 40000000 in
theorem rm_rose1 (l : Launch) (Z : State) (a0 : Array Value) (hw : ∀ d ∈ tables_1, d.before a0 Z = true) (ws : List Jvm.Cond) (j : Int32) (jn : Nat) (s_ : Int32) (sn : Nat) (rq : Int32) (m1 : Int32) (m1n : Nat) (a_ : Int64) (h0 : Heap) (n0 : Nat) (Zs : n0 ≤ h0.size) (hj : j.toInt = (jn : Int)) (hs : s_.toInt = (sn : Int)) (hm : m1.toInt = (m1n : Int)) (hrq : rq = 0 ∨ rq = 1) :
    MetFree l (⟨"com/example/coterie/coterie/runtime/KnownRequestsLearnPinLaw", "rose1", "(IIZIJ)Z"⟩ : MethodName) (head1 (Jvm.Cond.code (⟨"com/example/coterie/coterie/runtime/KnownRequestsLearnPinLaw", "rose1", "(IIZIJ)Z"⟩ : MethodName) method_4_code 6 (some .boolean) :: ws) ({ frames := 0, cells := 0, slots := 0, locals := 0 } : Room)) (fun a U => a = #[(.int j), (.int s_), (.int rq), (.int m1), (.long a_)] ∧ Z.Warmed39 U.vm ∧ U.heap = h0) (fun _ _ _ _ _ => True) (fun _ U o U' => ∃ v L, o = .returned v ∧ (Q_rose1 Z j jn s_ sn rq m1 m1n a_ h0 n0) v U'.heap L ∧ FrameEnd U o U' L ({ frames := 0, cells := 0, slots := 0, locals := 0 } : Room).cells ({ frames := 0, cells := 0, slots := 0, locals := 0 } : Room).slots) := by
  refine MetFree.of_bodySF (plainFor_of_name own_pn2) hisR ?_
  intro p e s m args below meth c s₁ Bd hml0 hP hK
  obtain ⟨rfl, hZ, hh⟩ := hP
  have hx := Bd.exec
  have hby := Bd.bytes
  have hlk := BodyLoose.notSynchronized Bd
  have hret := Bd.returns
  have hml : c.maxLocals = 6 := hml0
  have hown : s.vm.findClass "com/example/coterie/coterie/runtime/KnownRequestsLearnPinLaw" = some m.cls := findClass_of_methodNamed Bd.named
  have hnm := (name_of_methodNamed Bd.named Bd.method).1
  have X : Stand p l e ({ frames := 0, cells := 0, slots := 0, locals := 0 } : Room) s m #[(.int j), (.int s_), (.int rq), (.int m1), (.long a_)] below meth c s₁ [] 0 0 := Stand.of_body Bd
  have eT : s₁.heap = h0 := by rw [← hh, Bd.state]; rfl
  have N := Fr.nil n0
  have K0 : Keep h0 h0 [] := Keep.refl _ _
  show own_Go p e below s (Q_rose1 Z j jn s_ sn rq m1 m1n a_ h0 n0) ({ frames := 0, cells := 0, slots := 0, locals := 0 } : Room).cells ({ frames := 0, cells := 0, slots := 0, locals := 0 } : Room).slots s₁ (entryFrame m #[(.int j), (.int s_), (.int rq), (.int m1), (.long a_)] 6)
  rw [ef_rose1 m j s_ rq m1 a_]
  refine own_st (T' := s₁) (g' := (mkF m 1 #[.val (.int j), .val (.int s_), .val (.int rq), .val (.int m1), .val (.long a_), .second] [(.int j)])) (fun _ zq => XS.iloadN X.here hx rfl (hb hby own_d_m4_0) rfl zq) ?_
  refine own_st (T' := s₁) (g' := (mkF m 2 #[.val (.int j), .val (.int s_), .val (.int rq), .val (.int m1), .val (.long a_), .second] [(.int s_), (.int j)])) (fun _ zq => XS.iloadN X.here hx rfl (hb hby own_d_m4_1) rfl zq) ?_
  by_cases hc : j = s_
  · skip
    refine own_st (T' := s₁) (g' := (mkF m 5 #[.val (.int j), .val (.int s_), .val (.int rq), .val (.int m1), .val (.long a_), .second] [])) (fun _ zq => XS.icmpNo X.here hx rfl (hb hby own_d_m4_2) rfl (teq hc).2 zq) ?_
    refine own_st (T' := s₁) (g' := (mkF m 6 #[.val (.int j), .val (.int s_), .val (.int rq), .val (.int m1), .val (.long a_), .second] [(.int rq)])) (fun _ zq => XS.iloadN X.here hx rfl (hb hby own_d_m4_5) rfl zq) ?_
    exact own_ret X hx hret hlk (i := .ireturn) (own_nb hrq) (Or.inl ⟨rfl, by decide, _, rfl⟩) (hb hby own_d_m4_6) eT (Nat.le_of_ble_eq_true rfl) (Nat.le_of_ble_eq_true rfl) ⟨by rw [own_ro, if_pos (own_eqN hj hs hc)], N, rfl⟩
  · skip
    refine own_st (T' := s₁) (g' := (mkF m 7 #[.val (.int j), .val (.int s_), .val (.int rq), .val (.int m1), .val (.long a_), .second] [])) (fun _ zq => XS.icmpYes X.here hx rfl (pc0 := 2) (pc' := 7) rfl (hb hby own_d_m4_2) rfl (feq hc).2 (by decide) (by decide) zq) ?_
    refine own_st (T' := s₁) (g' := (mkF m 8 #[.val (.int j), .val (.int s_), .val (.int rq), .val (.int m1), .val (.long a_), .second] [(.int j)])) (fun _ zq => XS.iloadN X.here hx rfl (hb hby own_d_m4_7) rfl zq) ?_
    refine own_st (T' := s₁) (g' := (mkF m 9 #[.val (.int j), .val (.int s_), .val (.int rq), .val (.int m1), .val (.long a_), .second] [(.int m1), (.int j)])) (fun _ zq => XS.iloadN X.here hx rfl (hb hby own_d_m4_8) rfl zq) ?_
    by_cases he : j = m1
    case neg =>
      refine own_st (T' := s₁) (g' := (mkF m 23 #[.val (.int j), .val (.int s_), .val (.int rq), .val (.int m1), .val (.long a_), .second] [])) (fun _ zq => XS.icmpYes X.here hx rfl (pc0 := 9) (pc' := 23) rfl (hb hby own_d_m4_9) rfl (feq he).2 (by decide) (by decide) zq) ?_
      refine own_st (T' := s₁) (g' := (mkF m 24 #[.val (.int j), .val (.int s_), .val (.int rq), .val (.int m1), .val (.long a_), .second] [(.int (0 : Int32))])) (fun _ zq => XS.iconst X.here hx rfl (hb hby own_d_m4_23) zq) ?_
      exact own_ret X hx hret hlk (i := .ireturn) rfl (Or.inl ⟨rfl, by decide, _, rfl⟩) (hb hby own_d_m4_24) eT (Nat.le_of_ble_eq_true rfl) (Nat.le_of_ble_eq_true rfl) ⟨by rw [own_ro, if_neg (fun q => hc (own_eqI hj hs q)), if_neg (fun q => he (own_eqI hj hm q))], N, rfl⟩
    · skip
      refine own_st (T' := s₁) (g' := (mkF m 12 #[.val (.int j), .val (.int s_), .val (.int rq), .val (.int m1), .val (.long a_), .second] [])) (fun _ zq => XS.icmpNo X.here hx rfl (hb hby own_d_m4_9) rfl (teq he).2 zq) ?_
      refine own_st (T' := s₁) (g' := (mkF m 14 #[.val (.int j), .val (.int s_), .val (.int rq), .val (.int m1), .val (.long a_), .second] [(.long a_)])) (fun _ zq => XS.lload X.here hx rfl (hb hby own_d_m4_12) rfl zq) ?_
      refine own_st (T' := s₁) (g' := (mkF m 15 #[.val (.int j), .val (.int s_), .val (.int rq), .val (.int m1), .val (.long a_), .second] [(.long (0 : Int64)), (.long a_)])) (fun _ zq => XS.lconst X.here hx rfl (hb hby own_d_m4_14) zq) ?_
      refine own_st (T' := s₁) (g' := (mkF m 16 #[.val (.int j), .val (.int s_), .val (.int rq), .val (.int m1), .val (.long a_), .second] [(.int (lcmpW a_ (0 : Int64)))])) (fun _ zq => XS.lcmp X.here hx rfl (hb hby own_d_m4_15) rfl zq) ?_
      by_cases hf : (0 : Int64) < a_
      · skip
        refine own_st (T' := s₁) (g' := (mkF m 19 #[.val (.int j), .val (.int s_), .val (.int rq), .val (.int m1), .val (.long a_), .second] [])) (fun _ zq => XS.ifNo X.here hx rfl (hb hby own_d_m4_16) rfl (own_ltlt hf).2.2.2 zq) ?_
        refine own_st (T' := s₁) (g' := (mkF m 20 #[.val (.int j), .val (.int s_), .val (.int rq), .val (.int m1), .val (.long a_), .second] [(.int (1 : Int32))])) (fun _ zq => XS.iconst X.here hx rfl (hb hby own_d_m4_19) zq) ?_
        refine own_st (T' := s₁) (g' := (mkF m 24 #[.val (.int j), .val (.int s_), .val (.int rq), .val (.int m1), .val (.long a_), .second] [(.int (1 : Int32))])) (fun _ zq => XS.goto X.here hx rfl (pc0 := 20) (pc' := 24) rfl (hb hby own_d_m4_20) (by decide) (by decide) zq) ?_
        exact own_ret X hx hret hlk (i := .ireturn) rfl (Or.inl ⟨rfl, by decide, _, rfl⟩) (hb hby own_d_m4_24) eT (Nat.le_of_ble_eq_true rfl) (Nat.le_of_ble_eq_true rfl) ⟨by rw [own_ro, if_neg (fun q => hc (own_eqI hj hs q)), if_pos (own_eqN hj hm he), if_pos hf], N, rfl⟩
      · skip
        refine own_st (T' := s₁) (g' := (mkF m 23 #[.val (.int j), .val (.int s_), .val (.int rq), .val (.int m1), .val (.long a_), .second] [])) (fun _ zq => XS.ifYes X.here hx rfl (pc0 := 16) (pc' := 23) rfl (hb hby own_d_m4_16) rfl (own_lflt hf).2.2.2 (by decide) (by decide) zq) ?_
        refine own_st (T' := s₁) (g' := (mkF m 24 #[.val (.int j), .val (.int s_), .val (.int rq), .val (.int m1), .val (.long a_), .second] [(.int (0 : Int32))])) (fun _ zq => XS.iconst X.here hx rfl (hb hby own_d_m4_23) zq) ?_
        exact own_ret X hx hret hlk (i := .ireturn) rfl (Or.inl ⟨rfl, by decide, _, rfl⟩) (hb hby own_d_m4_24) eT (Nat.le_of_ble_eq_true rfl) (Nat.le_of_ble_eq_true rfl) ⟨by rw [own_ro, if_neg (fun q => hc (own_eqI hj hs q)), if_pos (own_eqN hj hm he), if_neg hf], N, rfl⟩
def Q_has2 (Z : State) (j : Int32) (jn : Nat) (o1 : Int32) (o1n : Nat) (o2 : Int32) (o2n : Nat) (i1 : Int32) (i2 : Int32) (h0 : Heap) (n0 : Nat) (v : Option Value) (h : Heap) (L : List Loc) : Prop := v = some (.int (own_h2 o1n o2n i1 i2 jn)) ∧ Fr n0 L ∧ (h = h0)
theorem ef_has2 (m : MethodId) (x0 : Int32) (x1 : Int32) (x2 : Int32) (x3 : Int32) (x4 : Int32)  : entryFrame m #[(.int x0), (.int x1), (.int x2), (.int x3), (.int x4)] 5 = mkF m 0 #[.val (.int x0), .val (.int x1), .val (.int x2), .val (.int x3), .val (.int x4)] [] := by first | (simp [entryFrame, mkF, argsToLocals, Value.category]; done) | rfl
set_option maxRecDepth 65536 in
set_option maxHeartbeats 40000000 in
theorem rm_has2 (l : Launch) (Z : State) (a0 : Array Value) (hw : ∀ d ∈ tables_1, d.before a0 Z = true) (ws : List Jvm.Cond) (j : Int32) (jn : Nat) (o1 : Int32) (o1n : Nat) (o2 : Int32) (o2n : Nat) (i1 : Int32) (i2 : Int32) (h0 : Heap) (n0 : Nat) (Zs : n0 ≤ h0.size) (hj : j.toInt = (jn : Int)) (h1 : o1.toInt = (o1n : Int)) (h2 : o2.toInt = (o2n : Int)) :
    MetFree l (⟨"com/example/coterie/coterie/runtime/KnownRequestsLearnPinLaw", "has2", "(IIIZZ)Z"⟩ : MethodName) (head1 (Jvm.Cond.code (⟨"com/example/coterie/coterie/runtime/KnownRequestsLearnPinLaw", "has2", "(IIIZZ)Z"⟩ : MethodName) method_5_code 5 (some .boolean) :: ws) ({ frames := 0, cells := 0, slots := 0, locals := 0 } : Room)) (fun a U => a = #[(.int j), (.int o1), (.int o2), (.int i1), (.int i2)] ∧ Z.Warmed39 U.vm ∧ U.heap = h0) (fun _ _ _ _ _ => True) (fun _ U o U' => ∃ v L, o = .returned v ∧ (Q_has2 Z j jn o1 o1n o2 o2n i1 i2 h0 n0) v U'.heap L ∧ FrameEnd U o U' L ({ frames := 0, cells := 0, slots := 0, locals := 0 } : Room).cells ({ frames := 0, cells := 0, slots := 0, locals := 0 } : Room).slots) := by
  refine MetFree.of_bodySF (plainFor_of_name own_pn2) hisR ?_
  intro p e s m args below meth c s₁ Bd hml0 hP hK
  obtain ⟨rfl, hZ, hh⟩ := hP
  have hx := Bd.exec
  have hby := Bd.bytes
  have hlk := BodyLoose.notSynchronized Bd
  have hret := Bd.returns
  have hml : c.maxLocals = 5 := hml0
  have hown : s.vm.findClass "com/example/coterie/coterie/runtime/KnownRequestsLearnPinLaw" = some m.cls := findClass_of_methodNamed Bd.named
  have hnm := (name_of_methodNamed Bd.named Bd.method).1
  have X : Stand p l e ({ frames := 0, cells := 0, slots := 0, locals := 0 } : Room) s m #[(.int j), (.int o1), (.int o2), (.int i1), (.int i2)] below meth c s₁ [] 0 0 := Stand.of_body Bd
  have eT : s₁.heap = h0 := by rw [← hh, Bd.state]; rfl
  have N := Fr.nil n0
  have K0 : Keep h0 h0 [] := Keep.refl _ _
  show own_Go p e below s (Q_has2 Z j jn o1 o1n o2 o2n i1 i2 h0 n0) ({ frames := 0, cells := 0, slots := 0, locals := 0 } : Room).cells ({ frames := 0, cells := 0, slots := 0, locals := 0 } : Room).slots s₁ (entryFrame m #[(.int j), (.int o1), (.int o2), (.int i1), (.int i2)] 5)
  rw [ef_has2 m j o1 o2 i1 i2]
  refine own_st (T' := s₁) (g' := (mkF m 1 #[.val (.int j), .val (.int o1), .val (.int o2), .val (.int i1), .val (.int i2)] [(.int j)])) (fun _ zq => XS.iloadN X.here hx rfl (hb hby own_d_m5_0) rfl zq) ?_
  refine own_st (T' := s₁) (g' := (mkF m 2 #[.val (.int j), .val (.int o1), .val (.int o2), .val (.int i1), .val (.int i2)] [(.int o1), (.int j)])) (fun _ zq => XS.iloadN X.here hx rfl (hb hby own_d_m5_1) rfl zq) ?_
  suffices J9 : ∀ (hno : ¬ (jn = o1n ∧ ¬ i1 = 0)), own_Go p e below s (Q_has2 Z j jn o1 o1n o2 o2n i1 i2 h0 n0) ({ frames := 0, cells := 0, slots := 0, locals := 0 } : Room).cells ({ frames := 0, cells := 0, slots := 0, locals := 0 } : Room).slots s₁ (mkF m 9 #[.val (.int j), .val (.int o1), .val (.int o2), .val (.int i1), .val (.int i2)] []) by
    by_cases hc : j = o1
    case neg =>
      refine own_st (T' := s₁) (g' := (mkF m 9 #[.val (.int j), .val (.int o1), .val (.int o2), .val (.int i1), .val (.int i2)] [])) (fun _ zq => XS.icmpYes X.here hx rfl (pc0 := 2) (pc' := 9) rfl (hb hby own_d_m5_2) rfl (feq hc).2 (by decide) (by decide) zq) ?_
      exact J9 (fun q => hc (own_eqI hj h1 q.1))
    · skip
      refine own_st (T' := s₁) (g' := (mkF m 5 #[.val (.int j), .val (.int o1), .val (.int o2), .val (.int i1), .val (.int i2)] [])) (fun _ zq => XS.icmpNo X.here hx rfl (hb hby own_d_m5_2) rfl (teq hc).2 zq) ?_
      refine own_st (T' := s₁) (g' := (mkF m 6 #[.val (.int j), .val (.int o1), .val (.int o2), .val (.int i1), .val (.int i2)] [(.int i1)])) (fun _ zq => XS.iloadN X.here hx rfl (hb hby own_d_m5_5) rfl zq) ?_
      by_cases hd : i1 = (0 : Int32)
      · skip
        refine own_st (T' := s₁) (g' := (mkF m 9 #[.val (.int j), .val (.int o1), .val (.int o2), .val (.int i1), .val (.int i2)] [])) (fun _ zq => XS.ifNo X.here hx rfl (hb hby own_d_m5_6) rfl ((if0 _ _).trans (teq hd).2) zq) ?_
        exact J9 (fun q => q.2 hd)
      · skip
        refine own_st (T' := s₁) (g' := (mkF m 19 #[.val (.int j), .val (.int o1), .val (.int o2), .val (.int i1), .val (.int i2)] [])) (fun _ zq => XS.ifYes X.here hx rfl (pc0 := 6) (pc' := 19) rfl (hb hby own_d_m5_6) rfl ((if0 _ _).trans (feq hd).2) (by decide) (by decide) zq) ?_
        refine own_st (T' := s₁) (g' := (mkF m 20 #[.val (.int j), .val (.int o1), .val (.int o2), .val (.int i1), .val (.int i2)] [(.int (1 : Int32))])) (fun _ zq => XS.iconst X.here hx rfl (hb hby own_d_m5_19) zq) ?_
        refine own_st (T' := s₁) (g' := (mkF m 24 #[.val (.int j), .val (.int o1), .val (.int o2), .val (.int i1), .val (.int i2)] [(.int (1 : Int32))])) (fun _ zq => XS.goto X.here hx rfl (pc0 := 20) (pc' := 24) rfl (hb hby own_d_m5_20) (by decide) (by decide) zq) ?_
        exact own_ret X hx hret hlk (i := .ireturn) rfl (Or.inl ⟨rfl, by decide, _, rfl⟩) (hb hby own_d_m5_24) eT (Nat.le_of_ble_eq_true rfl) (Nat.le_of_ble_eq_true rfl) ⟨by rw [own_h2, if_pos (Or.inl ⟨own_eqN hj h1 hc, hd⟩)], N, rfl⟩
  intro hno
  refine own_st (T' := s₁) (g' := (mkF m 10 #[.val (.int j), .val (.int o1), .val (.int o2), .val (.int i1), .val (.int i2)] [(.int j)])) (fun _ zq => XS.iloadN X.here hx rfl (hb hby own_d_m5_9) rfl zq) ?_
  refine own_st (T' := s₁) (g' := (mkF m 11 #[.val (.int j), .val (.int o1), .val (.int o2), .val (.int i1), .val (.int i2)] [(.int o2), (.int j)])) (fun _ zq => XS.iloadN X.here hx rfl (hb hby own_d_m5_10) rfl zq) ?_
  by_cases hc : j = o2
  case neg =>
    refine own_st (T' := s₁) (g' := (mkF m 23 #[.val (.int j), .val (.int o1), .val (.int o2), .val (.int i1), .val (.int i2)] [])) (fun _ zq => XS.icmpYes X.here hx rfl (pc0 := 11) (pc' := 23) rfl (hb hby own_d_m5_11) rfl (feq hc).2 (by decide) (by decide) zq) ?_
    refine own_st (T' := s₁) (g' := (mkF m 24 #[.val (.int j), .val (.int o1), .val (.int o2), .val (.int i1), .val (.int i2)] [(.int (0 : Int32))])) (fun _ zq => XS.iconst X.here hx rfl (hb hby own_d_m5_23) zq) ?_
    exact own_ret X hx hret hlk (i := .ireturn) rfl (Or.inl ⟨rfl, by decide, _, rfl⟩) (hb hby own_d_m5_24) eT (Nat.le_of_ble_eq_true rfl) (Nat.le_of_ble_eq_true rfl) ⟨by rw [own_h2, if_neg (fun z => z.elim hno (fun q => hc (own_eqI hj h2 q.1)))], N, rfl⟩
  · skip
    refine own_st (T' := s₁) (g' := (mkF m 14 #[.val (.int j), .val (.int o1), .val (.int o2), .val (.int i1), .val (.int i2)] [])) (fun _ zq => XS.icmpNo X.here hx rfl (hb hby own_d_m5_11) rfl (teq hc).2 zq) ?_
    refine own_st (T' := s₁) (g' := (mkF m 16 #[.val (.int j), .val (.int o1), .val (.int o2), .val (.int i1), .val (.int i2)] [(.int i2)])) (fun _ zq => XS.iload X.here hx rfl (hb hby own_d_m5_14) rfl zq) ?_
    by_cases hd : i2 = (0 : Int32)
    · skip
      refine own_st (T' := s₁) (g' := (mkF m 23 #[.val (.int j), .val (.int o1), .val (.int o2), .val (.int i1), .val (.int i2)] [])) (fun _ zq => XS.ifYes X.here hx rfl (pc0 := 16) (pc' := 23) rfl (hb hby own_d_m5_16) rfl ((if0 _ _).trans (teq hd).1) (by decide) (by decide) zq) ?_
      refine own_st (T' := s₁) (g' := (mkF m 24 #[.val (.int j), .val (.int o1), .val (.int o2), .val (.int i1), .val (.int i2)] [(.int (0 : Int32))])) (fun _ zq => XS.iconst X.here hx rfl (hb hby own_d_m5_23) zq) ?_
      exact own_ret X hx hret hlk (i := .ireturn) rfl (Or.inl ⟨rfl, by decide, _, rfl⟩) (hb hby own_d_m5_24) eT (Nat.le_of_ble_eq_true rfl) (Nat.le_of_ble_eq_true rfl) ⟨by rw [own_h2, if_neg (fun z => z.elim hno (fun q => q.2 hd))], N, rfl⟩
    · skip
      refine own_st (T' := s₁) (g' := (mkF m 19 #[.val (.int j), .val (.int o1), .val (.int o2), .val (.int i1), .val (.int i2)] [])) (fun _ zq => XS.ifNo X.here hx rfl (hb hby own_d_m5_16) rfl ((if0 _ _).trans (feq hd).1) zq) ?_
      refine own_st (T' := s₁) (g' := (mkF m 20 #[.val (.int j), .val (.int o1), .val (.int o2), .val (.int i1), .val (.int i2)] [(.int (1 : Int32))])) (fun _ zq => XS.iconst X.here hx rfl (hb hby own_d_m5_19) zq) ?_
      refine own_st (T' := s₁) (g' := (mkF m 24 #[.val (.int j), .val (.int o1), .val (.int o2), .val (.int i1), .val (.int i2)] [(.int (1 : Int32))])) (fun _ zq => XS.goto X.here hx rfl (pc0 := 20) (pc' := 24) rfl (hb hby own_d_m5_20) (by decide) (by decide) zq) ?_
      exact own_ret X hx hret hlk (i := .ireturn) rfl (Or.inl ⟨rfl, by decide, _, rfl⟩) (hb hby own_d_m5_24) eT (Nat.le_of_ble_eq_true rfl) (Nat.le_of_ble_eq_true rfl) ⟨by rw [own_h2, if_pos (Or.inr ⟨own_eqN hj h2 hc, hd⟩)], N, rfl⟩
def Q_told2 (Z : State) (j : Int32) (jn : Nat) (o1 : Int32) (o1n : Nat) (b_ : Int64) (c_ : Int64) (h0 : Heap) (n0 : Nat) (v : Option Value) (h : Heap) (L : List Loc) : Prop := v = some (.long (own_t2 o1n b_ c_ jn)) ∧ Fr n0 L ∧ (h = h0)
theorem ef_told2 (m : MethodId) (x0 : Int32) (x1 : Int32) (x2 : Int64) (x3 : Int64)  : entryFrame m #[(.int x0), (.int x1), (.long x2), (.long x3)] 6 = mkF m 0 #[.val (.int x0), .val (.int x1), .val (.long x2), .second, .val (.long x3), .second] [] := by first | (simp [entryFrame, mkF, argsToLocals, Value.category]; done) | rfl
set_option maxRecDepth 65536 in
set_option maxHeartbeats 40000000 in
theorem rm_told2 (l : Launch) (Z : State) (a0 : Array Value) (hw : ∀ d ∈ tables_1, d.before a0 Z = true) (ws : List Jvm.Cond) (j : Int32) (jn : Nat) (o1 : Int32) (o1n : Nat) (b_ : Int64) (c_ : Int64) (h0 : Heap) (n0 : Nat) (Zs : n0 ≤ h0.size) (hj : j.toInt = (jn : Int)) (h1 : o1.toInt = (o1n : Int)) :
    MetFree l (⟨"com/example/coterie/coterie/runtime/KnownRequestsLearnPinLaw", "told2", "(IIJJ)J"⟩ : MethodName) (head1 (Jvm.Cond.code (⟨"com/example/coterie/coterie/runtime/KnownRequestsLearnPinLaw", "told2", "(IIJJ)J"⟩ : MethodName) method_6_code 6 (some .long) :: ws) ({ frames := 0, cells := 0, slots := 0, locals := 0 } : Room)) (fun a U => a = #[(.int j), (.int o1), (.long b_), (.long c_)] ∧ Z.Warmed39 U.vm ∧ U.heap = h0) (fun _ _ _ _ _ => True) (fun _ U o U' => ∃ v L, o = .returned v ∧ (Q_told2 Z j jn o1 o1n b_ c_ h0 n0) v U'.heap L ∧ FrameEnd U o U' L ({ frames := 0, cells := 0, slots := 0, locals := 0 } : Room).cells ({ frames := 0, cells := 0, slots := 0, locals := 0 } : Room).slots) := by
  refine MetFree.of_bodySF (plainFor_of_name own_pn2) hisR ?_
  intro p e s m args below meth c s₁ Bd hml0 hP hK
  obtain ⟨rfl, hZ, hh⟩ := hP
  have hx := Bd.exec
  have hby := Bd.bytes
  have hlk := BodyLoose.notSynchronized Bd
  have hret := Bd.returns
  have hml : c.maxLocals = 6 := hml0
  have hown : s.vm.findClass "com/example/coterie/coterie/runtime/KnownRequestsLearnPinLaw" = some m.cls := findClass_of_methodNamed Bd.named
  have hnm := (name_of_methodNamed Bd.named Bd.method).1
  have X : Stand p l e ({ frames := 0, cells := 0, slots := 0, locals := 0 } : Room) s m #[(.int j), (.int o1), (.long b_), (.long c_)] below meth c s₁ [] 0 0 := Stand.of_body Bd
  have eT : s₁.heap = h0 := by rw [← hh, Bd.state]; rfl
  have N := Fr.nil n0
  have K0 : Keep h0 h0 [] := Keep.refl _ _
  show own_Go p e below s (Q_told2 Z j jn o1 o1n b_ c_ h0 n0) ({ frames := 0, cells := 0, slots := 0, locals := 0 } : Room).cells ({ frames := 0, cells := 0, slots := 0, locals := 0 } : Room).slots s₁ (entryFrame m #[(.int j), (.int o1), (.long b_), (.long c_)] 6)
  rw [ef_told2 m j o1 b_ c_]
  refine own_st (T' := s₁) (g' := (mkF m 1 #[.val (.int j), .val (.int o1), .val (.long b_), .second, .val (.long c_), .second] [(.int j)])) (fun _ zq => XS.iloadN X.here hx rfl (hb hby own_d_m6_0) rfl zq) ?_
  refine own_st (T' := s₁) (g' := (mkF m 2 #[.val (.int j), .val (.int o1), .val (.long b_), .second, .val (.long c_), .second] [(.int o1), (.int j)])) (fun _ zq => XS.iloadN X.here hx rfl (hb hby own_d_m6_1) rfl zq) ?_
  by_cases hc : j = o1
  · skip
    refine own_st (T' := s₁) (g' := (mkF m 5 #[.val (.int j), .val (.int o1), .val (.long b_), .second, .val (.long c_), .second] [])) (fun _ zq => XS.icmpNo X.here hx rfl (hb hby own_d_m6_2) rfl (teq hc).2 zq) ?_
    refine own_st (T' := s₁) (g' := (mkF m 6 #[.val (.int j), .val (.int o1), .val (.long b_), .second, .val (.long c_), .second] [(.long b_)])) (fun _ zq => XS.lloadN X.here hx rfl (hb hby own_d_m6_5) rfl zq) ?_
    refine own_st (T' := s₁) (g' := (mkF m 11 #[.val (.int j), .val (.int o1), .val (.long b_), .second, .val (.long c_), .second] [(.long b_)])) (fun _ zq => XS.goto X.here hx rfl (pc0 := 6) (pc' := 11) rfl (hb hby own_d_m6_6) (by decide) (by decide) zq) ?_
    exact own_ret X hx hret hlk (i := .lreturn) rfl (Or.inr (Or.inl ⟨rfl, rfl, _, rfl⟩)) (hb hby own_d_m6_11) eT (Nat.le_of_ble_eq_true rfl) (Nat.le_of_ble_eq_true rfl) ⟨by rw [own_t2, if_pos (own_eqN hj h1 hc)], N, rfl⟩
  · skip
    refine own_st (T' := s₁) (g' := (mkF m 9 #[.val (.int j), .val (.int o1), .val (.long b_), .second, .val (.long c_), .second] [])) (fun _ zq => XS.icmpYes X.here hx rfl (pc0 := 2) (pc' := 9) rfl (hb hby own_d_m6_2) rfl (feq hc).2 (by decide) (by decide) zq) ?_
    refine own_st (T' := s₁) (g' := (mkF m 11 #[.val (.int j), .val (.int o1), .val (.long b_), .second, .val (.long c_), .second] [(.long c_)])) (fun _ zq => XS.lload X.here hx rfl (hb hby own_d_m6_9) rfl zq) ?_
    exact own_ret X hx hret hlk (i := .lreturn) rfl (Or.inr (Or.inl ⟨rfl, rfl, _, rfl⟩)) (hb hby own_d_m6_11) eT (Nat.le_of_ble_eq_true rfl) (Nat.le_of_ble_eq_true rfl) ⟨by rw [own_t2, if_neg (fun q => hc (own_eqI hj h1 q))], N, rfl⟩
def Q_check (Z : State) (ag : Addr) (r_ : Int32) (rn : Nat) (xf : Nat → Int32) (vf : Nat → Int64) (h0 : Heap) (n0 : Nat) (v : Option Value) (h : Heap) (L : List Loc) : Prop := v = some (.int 1) ∧ Fr n0 L ∧ (Keep h0 h [])
theorem ef_check (m : MethodId) (x0 : Addr) (x1 : Int32) (x2 : Int32) (x3 : Int64) (x4 : Int32) (x5 : Int64) (x6 : Int32) (x7 : Int64)  : entryFrame m #[(.ref x0), (.int x1), (.int x2), (.long x3), (.int x4), (.long x5), (.int x6), (.long x7)] 13 = mkF m 0 #[.val (.ref x0), .val (.int x1), .val (.int x2), .val (.long x3), .second, .val (.int x4), .val (.long x5), .second, .val (.int x6), .val (.long x7), .second, .unset, .unset] [] := by first | (simp [entryFrame, mkF, argsToLocals, Value.category]; done) | rfl
set_option maxRecDepth 65536 in
set_option maxHeartbeats 40000000 in
theorem rm_check (l : Launch) (Z : State) (a0 : Array Value) (hw : ∀ d ∈ tables_1, d.before a0 Z = true) (ws : List Jvm.Cond) (ag : Addr) (r_ : Int32) (rn : Nat) (xf : Nat → Int32) (vf : Nat → Int64) (h0 : Heap) (n0 : Nat) (Zs : n0 ≤ h0.size) (V_g : own_AV Z h0 ag .long (own_L3 (own_g xf rn) vf).length (fun i => .long ((own_L3 (own_g xf rn) vf).getD i 0))) (hr : r_.toInt = (rn : Int)) :
    MetFree l (⟨"com/example/coterie/coterie/runtime/KnownRequestsLearnPinLaw", "check", "([JIZJZJZJ)Z"⟩ : MethodName) (head1 (Jvm.Cond.code (⟨"com/example/coterie/coterie/runtime/KnownRequestsLearnPinLaw", "check", "([JIZJZJZJ)Z"⟩ : MethodName) method_7_code 13 (some .boolean) :: ws) ({ frames := 0, cells := 1, slots := 6, locals := 0 } : Room)) (fun a U => a = #[(.ref ag), (.int r_), (.int (xf 0)), (.long (vf 0)), (.int (xf 1)), (.long (vf 1)), (.int (xf 2)), (.long (vf 2))] ∧ Z.Warmed39 U.vm ∧ U.heap = h0) (fun _ _ _ _ _ => True) (fun _ U o U' => ∃ v L, o = .returned v ∧ (Q_check Z ag r_ rn xf vf h0 n0) v U'.heap L ∧ FrameEnd U o U' L ({ frames := 0, cells := 1, slots := 6, locals := 0 } : Room).cells ({ frames := 0, cells := 1, slots := 6, locals := 0 } : Room).slots) := by
  refine MetFree.of_bodySF (plainFor_of_name own_pn2) hisR ?_
  intro p e s m args below meth c s₁ Bd hml0 hP hK
  obtain ⟨rfl, hZ, hh⟩ := hP
  have hx := Bd.exec
  have hby := Bd.bytes
  have hlk := BodyLoose.notSynchronized Bd
  have hret := Bd.returns
  have hml : c.maxLocals = 13 := hml0
  have hown : s.vm.findClass "com/example/coterie/coterie/runtime/KnownRequestsLearnPinLaw" = some m.cls := findClass_of_methodNamed Bd.named
  have hnm := (name_of_methodNamed Bd.named Bd.method).1
  have X : Stand p l e ({ frames := 0, cells := 1, slots := 6, locals := 0 } : Room) s m #[(.ref ag), (.int r_), (.int (xf 0)), (.long (vf 0)), (.int (xf 1)), (.long (vf 1)), (.int (xf 2)), (.long (vf 2))] below meth c s₁ [] 0 0 := Stand.of_body Bd
  have eT : s₁.heap = h0 := by rw [← hh, Bd.state]; rfl
  have N := Fr.nil n0
  have K0 : Keep h0 h0 [] := Keep.refl _ _
  show own_Go p e below s (Q_check Z ag r_ rn xf vf h0 n0) ({ frames := 0, cells := 1, slots := 6, locals := 0 } : Room).cells ({ frames := 0, cells := 1, slots := 6, locals := 0 } : Room).slots s₁ (entryFrame m #[(.ref ag), (.int r_), (.int (xf 0)), (.long (vf 0)), (.int (xf 1)), (.long (vf 1)), (.int (xf 2)), (.long (vf 2))] 13)
  rw [ef_check m ag r_ (xf 0) (vf 0) (xf 1) (vf 1) (xf 2) (vf 2)]
  refine own_st (T' := s₁) (g' := (mkF m 2 #[.val (.ref ag), .val (.int r_), .val (.int (xf 0)), .val (.long (vf 0)), .second, .val (.int (xf 1)), .val (.long (vf 1)), .second, .val (.int (xf 2)), .val (.long (vf 2)), .second, .unset, .unset] [(.int (6 : Int32))])) (fun _ zq => XS.bipush X.here hx rfl (hb hby own_d_m7_0) zq) ?_
  obtain ⟨T74, h74, k74, X74, e74, E74, A74, st74⟩ := newP X hx hZ (hw _ (List.mem_of_getElem? (i := 0) rfl)) eT (g := (mkF m 2 #[.val (.ref ag), .val (.int r_), .val (.int (xf 0)), .val (.long (vf 0)), .second, .val (.int (xf 1)), .val (.long (vf 1)), .second, .val (.int (xf 2)), .val (.long (vf 2)), .second, .unset, .unset] [(.int (6 : Int32))])) rfl (hb hby own_d_m7_2) rfl (by decide) (cap := 6) (by decide) (by decide) (by decide) (by decide)
  obtain ⟨b74, ga74⟩ : ∃ z, z = h0.size := ⟨_, rfl⟩
  rw [← ga74] at A74 st74
  have g_b74 : n0 ≤ b74 := Nat.le_trans Zs (Nat.le_of_eq ga74.symm)
  have sz_b74 : h0.size ≤ b74 := Nat.le_trans K0.1 (Nat.le_of_eq ga74.symm)
  have ne_ag_b74 : ag ≠ b74 := fun q => Nat.lt_irrefl _ (Nat.lt_of_lt_of_eq V_g.lt (ga74.symm.trans q.symm))
  replace V_g := V_g.ext E74
  replace Zs := Nat.le_trans Zs E74.1
  replace K0 := K0.ext E74
  have V_b74 : own_AV Z h74 b74 .long 6 (fun _ => .long (0 : Int64)) := own_AV.new A74 rfl
  refine own_st (g' := (mkF m 4 #[.val (.ref ag), .val (.int r_), .val (.int (xf 0)), .val (.long (vf 0)), .second, .val (.int (xf 1)), .val (.long (vf 1)), .second, .val (.int (xf 2)), .val (.long (vf 2)), .second, .unset, .unset] [(.ref b74)])) st74 ?_
  refine own_st (T' := T74) (g' := (mkF m 6 #[.val (.ref ag), .val (.int r_), .val (.int (xf 0)), .val (.long (vf 0)), .second, .val (.int (xf 1)), .val (.long (vf 1)), .second, .val (.int (xf 2)), .val (.long (vf 2)), .second, .val (.ref b74), .unset] [])) (fun _ zq => XS.astore X74.here hx rfl (hb hby own_d_m7_4) rfl rfl (l' := #[.val (.ref ag), .val (.int r_), .val (.int (xf 0)), .val (.long (vf 0)), .second, .val (.int (xf 1)), .val (.long (vf 1)), .second, .val (.int (xf 2)), .val (.long (vf 2)), .second, .val (.ref b74), .unset]) rfl zq) ?_
  refine own_st (T' := T74) (g' := (mkF m 7 #[.val (.ref ag), .val (.int r_), .val (.int (xf 0)), .val (.long (vf 0)), .second, .val (.int (xf 1)), .val (.long (vf 1)), .second, .val (.int (xf 2)), .val (.long (vf 2)), .second, .val (.ref b74), .unset] [(.int (0 : Int32))])) (fun _ zq => XS.iconst X74.here hx rfl (hb hby own_d_m7_6) zq) ?_
  refine own_st (T' := T74) (g' := (mkF m 9 #[.val (.ref ag), .val (.int r_), .val (.int (xf 0)), .val (.long (vf 0)), .second, .val (.int (xf 1)), .val (.long (vf 1)), .second, .val (.int (xf 2)), .val (.long (vf 2)), .second, .val (.ref b74), .val (.int (0 : Int32))] [])) (fun _ zq => XS.istore X74.here hx rfl (hb hby own_d_m7_7) rfl (l' := #[.val (.ref ag), .val (.int r_), .val (.int (xf 0)), .val (.long (vf 0)), .second, .val (.int (xf 1)), .val (.long (vf 1)), .second, .val (.int (xf 2)), .val (.long (vf 2)), .second, .val (.ref b74), .val (.int (0 : Int32))]) rfl zq) ?_
  refine own_st (T' := T74) (g' := (mkF m 10 #[.val (.ref ag), .val (.int r_), .val (.int (xf 0)), .val (.long (vf 0)), .second, .val (.int (xf 1)), .val (.long (vf 1)), .second, .val (.int (xf 2)), .val (.long (vf 2)), .second, .val (.ref b74), .val (.int (0 : Int32))] [(.int (xf 0))])) (fun _ zq => XS.iloadN X74.here hx rfl (hb hby own_d_m7_9) rfl zq) ?_
  have hle6 : (own_L3 (own_g xf rn) vf).length ≤ 6 := own_le6 _ _
  have hf0 : ∀ j, j < ([] : List Int64).length → (fun _ => Value.long (0 : Int64)) j = .long (([] : List Int64).getD j 0) := fun j hj => absurd hj (Nat.not_lt_zero _)
  suffices J34 : ∀ (T75 : State) (lo75 : List Loc) (h75 : Heap) (X75 : Stand p l e ({ frames := 0, cells := 1, slots := 6, locals := 0 } : Room) s m #[(.ref ag), (.int r_), (.int (xf 0)), (.long (vf 0)), (.int (xf 1)), (.long (vf 1)), (.int (xf 2)), (.long (vf 2))] below meth c T75 lo75 1 6) (e75 : T75.heap = h75) (N75 : Fr n0 lo75) (Z75 : n0 ≤ h75.size) (K75 : Keep h0 h75 []) (t1 : Int32) (f1 : Nat → Value) (V_g : own_AV Z h75 ag .long (own_L3 (own_g xf rn) vf).length (fun i => .long ((own_L3 (own_g xf rn) vf).getD i 0))) (V_b74 : own_AV Z h75 b74 .long 6 f1) (hp1 : t1.toInt = (((own_L1 (own_g xf rn) vf).length : Nat) : Int)) (hf1 : ∀ j, j < (own_L1 (own_g xf rn) vf).length → f1 j = .long ((own_L1 (own_g xf rn) vf).getD j 0)), own_Go p e below s (Q_check Z ag r_ rn xf vf h0 n0) ({ frames := 0, cells := 1, slots := 6, locals := 0 } : Room).cells ({ frames := 0, cells := 1, slots := 6, locals := 0 } : Room).slots T75 (mkF m 34 #[.val (.ref ag), .val (.int r_), .val (.int (xf 0)), .val (.long (vf 0)), .second, .val (.int (xf 1)), .val (.long (vf 1)), .second, .val (.int (xf 2)), .val (.long (vf 2)), .second, .val (.ref b74), .val (.int t1)] []) by
    by_cases hc : (xf 0) = (0 : Int32)
    · skip
      refine own_st (T' := T74) (g' := (mkF m 34 #[.val (.ref ag), .val (.int r_), .val (.int (xf 0)), .val (.long (vf 0)), .second, .val (.int (xf 1)), .val (.long (vf 1)), .second, .val (.int (xf 2)), .val (.long (vf 2)), .second, .val (.ref b74), .val (.int (0 : Int32))] [])) (fun _ zq => XS.ifYes X74.here hx rfl (pc0 := 10) (pc' := 34) rfl (hb hby own_d_m7_10) rfl ((if0 _ _).trans (teq hc).1) (by decide) (by decide) zq) ?_
      have hwl : (own_L1 (own_g xf rn) vf) = ([] : List Int64) := own_v0 (p := own_g xf rn) (fun q => (of_decide_eq_true q).1 hc)
      exact J34 T74 _ h74 (X74.more (Nat.le_of_ble_eq_true rfl) (Nat.le_of_ble_eq_true rfl)) e74 N Zs K0 _ _ V_g V_b74 (by rw [hwl]; exact (rfl : ((0 : Int32)).toInt = ((([] : List Int64).length : Nat) : Int))) (by rw [hwl]; exact hf0)
    · skip
      refine own_st (T' := T74) (g' := (mkF m 13 #[.val (.ref ag), .val (.int r_), .val (.int (xf 0)), .val (.long (vf 0)), .second, .val (.int (xf 1)), .val (.long (vf 1)), .second, .val (.int (xf 2)), .val (.long (vf 2)), .second, .val (.ref b74), .val (.int (0 : Int32))] [])) (fun _ zq => XS.ifNo X74.here hx rfl (hb hby own_d_m7_10) rfl ((if0 _ _).trans (feq hc).1) zq) ?_
      refine own_st (T' := T74) (g' := (mkF m 14 #[.val (.ref ag), .val (.int r_), .val (.int (xf 0)), .val (.long (vf 0)), .second, .val (.int (xf 1)), .val (.long (vf 1)), .second, .val (.int (xf 2)), .val (.long (vf 2)), .second, .val (.ref b74), .val (.int (0 : Int32))] [(.int r_)])) (fun _ zq => XS.iloadN X74.here hx rfl (hb hby own_d_m7_13) rfl zq) ?_
      by_cases hd : r_ = (0 : Int32)
      · skip
        refine own_st (T' := T74) (g' := (mkF m 34 #[.val (.ref ag), .val (.int r_), .val (.int (xf 0)), .val (.long (vf 0)), .second, .val (.int (xf 1)), .val (.long (vf 1)), .second, .val (.int (xf 2)), .val (.long (vf 2)), .second, .val (.ref b74), .val (.int (0 : Int32))] [])) (fun _ zq => XS.ifYes X74.here hx rfl (pc0 := 14) (pc' := 34) rfl (hb hby own_d_m7_14) rfl ((if0 _ _).trans (teq hd).1) (by decide) (by decide) zq) ?_
        have hwl : (own_L1 (own_g xf rn) vf) = ([] : List Int64) := own_v0 (p := own_g xf rn) (fun q => (of_decide_eq_true q).2 (own_eqN (jn := 0) rfl hr hd.symm))
        exact J34 T74 _ h74 (X74.more (Nat.le_of_ble_eq_true rfl) (Nat.le_of_ble_eq_true rfl)) e74 N Zs K0 _ _ V_g V_b74 (by rw [hwl]; exact (rfl : ((0 : Int32)).toInt = ((([] : List Int64).length : Nat) : Int))) (by rw [hwl]; exact hf0)
      · skip
        refine own_st (T' := T74) (g' := (mkF m 17 #[.val (.ref ag), .val (.int r_), .val (.int (xf 0)), .val (.long (vf 0)), .second, .val (.int (xf 1)), .val (.long (vf 1)), .second, .val (.int (xf 2)), .val (.long (vf 2)), .second, .val (.ref b74), .val (.int (0 : Int32))] [])) (fun _ zq => XS.ifNo X74.here hx rfl (hb hby own_d_m7_14) rfl ((if0 _ _).trans (feq hd).1) zq) ?_
        have hu : own_g xf rn 0 = true := decide_eq_true ⟨hc, fun q => hd (own_eqI (jn := 0) rfl hr q).symm⟩
        have hwl : (own_L1 (own_g xf rn) vf) = ([] : List Int64) ++ [0, vf 0] := own_w0 (p := own_g xf rn) hu
        have hll : ([] : List Int64).length + 2 ≤ (own_L3 (own_g xf rn) vf).length := own_b0 (p := own_g xf rn) hu
        refine own_st (T' := T74) (g' := (mkF m 19 #[.val (.ref ag), .val (.int r_), .val (.int (xf 0)), .val (.long (vf 0)), .second, .val (.int (xf 1)), .val (.long (vf 1)), .second, .val (.int (xf 2)), .val (.long (vf 2)), .second, .val (.ref b74), .val (.int (0 : Int32))] [(.ref b74)])) (fun _ zq => XS.aload X74.here hx rfl (hb hby own_d_m7_17) rfl rfl zq) ?_
        refine own_st (T' := T74) (g' := (mkF m 21 #[.val (.ref ag), .val (.int r_), .val (.int (xf 0)), .val (.long (vf 0)), .second, .val (.int (xf 1)), .val (.long (vf 1)), .second, .val (.int (xf 2)), .val (.long (vf 2)), .second, .val (.ref b74), .val (.int (0 : Int32))] [(.int (0 : Int32)), (.ref b74)])) (fun _ zq => XS.iload X74.here hx rfl (hb hby own_d_m7_19) rfl zq) ?_
        refine own_st (T' := T74) (g' := (mkF m 22 #[.val (.ref ag), .val (.int r_), .val (.int (xf 0)), .val (.long (vf 0)), .second, .val (.int (xf 1)), .val (.long (vf 1)), .second, .val (.int (xf 2)), .val (.long (vf 2)), .second, .val (.ref b74), .val (.int (0 : Int32))] [(.long (0 : Int64)), (.int (0 : Int32)), (.ref b74)])) (fun _ zq => XS.lconst X74.here hx rfl (hb hby own_d_m7_21) zq) ?_
        obtain ⟨T76, h76, X76, e76, W76, V76, st76⟩ := own_stJ X74 hx hZ e74 V_b74 (j := (0 : Int32)) (([] : List Int64).length) (rfl : ((0 : Int32)).toInt = ((([] : List Int64).length : Nat) : Int)) (by omega) (g := (mkF m 22 #[.val (.ref ag), .val (.int r_), .val (.int (xf 0)), .val (.long (vf 0)), .second, .val (.int (xf 1)), .val (.long (vf 1)), .second, .val (.int (xf 2)), .val (.long (vf 2)), .second, .val (.ref b74), .val (.int (0 : Int32))] [(.long (0 : Int64)), (.int (0 : Int32)), (.ref b74)])) rfl rfl (hb hby own_d_m7_22)
        replace V_g := V_g.other W76 ne_ag_b74
        replace Zs := Nat.le_trans Zs (Keep.of_wr W76).1
        replace K0 := K0.wr W76 (Or.inr sz_b74)
        replace V_b74 := V76
        replace N := Fr.snoc X76 N g_b74
        refine own_st (g' := (mkF m 23 #[.val (.ref ag), .val (.int r_), .val (.int (xf 0)), .val (.long (vf 0)), .second, .val (.int (xf 1)), .val (.long (vf 1)), .second, .val (.int (xf 2)), .val (.long (vf 2)), .second, .val (.ref b74), .val (.int (0 : Int32))] [])) st76 ?_
        refine own_st (T' := T76) (g' := (mkF m 25 #[.val (.ref ag), .val (.int r_), .val (.int (xf 0)), .val (.long (vf 0)), .second, .val (.int (xf 1)), .val (.long (vf 1)), .second, .val (.int (xf 2)), .val (.long (vf 2)), .second, .val (.ref b74), .val (.int (0 : Int32))] [(.ref b74)])) (fun _ zq => XS.aload X76.here hx rfl (hb hby own_d_m7_23) rfl rfl zq) ?_
        refine own_st (T' := T76) (g' := (mkF m 27 #[.val (.ref ag), .val (.int r_), .val (.int (xf 0)), .val (.long (vf 0)), .second, .val (.int (xf 1)), .val (.long (vf 1)), .second, .val (.int (xf 2)), .val (.long (vf 2)), .second, .val (.ref b74), .val (.int (0 : Int32))] [(.int (0 : Int32)), (.ref b74)])) (fun _ zq => XS.iload X76.here hx rfl (hb hby own_d_m7_25) rfl zq) ?_
        refine own_st (T' := T76) (g' := (mkF m 28 #[.val (.ref ag), .val (.int r_), .val (.int (xf 0)), .val (.long (vf 0)), .second, .val (.int (xf 1)), .val (.long (vf 1)), .second, .val (.int (xf 2)), .val (.long (vf 2)), .second, .val (.ref b74), .val (.int (0 : Int32))] [(.int (1 : Int32)), (.int (0 : Int32)), (.ref b74)])) (fun _ zq => XS.iconst X76.here hx rfl (hb hby own_d_m7_27) zq) ?_
        refine own_st (T' := T76) (g' := (mkF m 29 #[.val (.ref ag), .val (.int r_), .val (.int (xf 0)), .val (.long (vf 0)), .second, .val (.int (xf 1)), .val (.long (vf 1)), .second, .val (.int (xf 2)), .val (.long (vf 2)), .second, .val (.ref b74), .val (.int (0 : Int32))] [(.int ((0 : Int32) + (1 : Int32))), (.ref b74)])) (fun _ zq => XS.iadd X76.here hx rfl (hb hby own_d_m7_28) rfl zq) ?_
        refine own_st (T' := T76) (g' := (mkF m 30 #[.val (.ref ag), .val (.int r_), .val (.int (xf 0)), .val (.long (vf 0)), .second, .val (.int (xf 1)), .val (.long (vf 1)), .second, .val (.int (xf 2)), .val (.long (vf 2)), .second, .val (.ref b74), .val (.int (0 : Int32))] [(.long (vf 0)), (.int ((0 : Int32) + (1 : Int32))), (.ref b74)])) (fun _ zq => XS.lloadN X76.here hx rfl (hb hby own_d_m7_29) rfl zq) ?_
        obtain ⟨T77, h77, X77, e77, W77, V77, st77⟩ := own_stJ X76 hx hZ e76 V_b74 (j := ((0 : Int32) + (1 : Int32))) (([] : List Int64).length + 1) (own_p1 (rfl : ((0 : Int32)).toInt = ((([] : List Int64).length : Nat) : Int)) hle6 hll) (by omega) (g := (mkF m 30 #[.val (.ref ag), .val (.int r_), .val (.int (xf 0)), .val (.long (vf 0)), .second, .val (.int (xf 1)), .val (.long (vf 1)), .second, .val (.int (xf 2)), .val (.long (vf 2)), .second, .val (.ref b74), .val (.int (0 : Int32))] [(.long (vf 0)), (.int ((0 : Int32) + (1 : Int32))), (.ref b74)])) rfl rfl (hb hby own_d_m7_30)
        replace V_g := V_g.other W77 ne_ag_b74
        replace Zs := Nat.le_trans Zs (Keep.of_wr W77).1
        replace K0 := K0.wr W77 (Or.inr sz_b74)
        replace V_b74 := V77
        replace N := Fr.snoc X77 N g_b74
        refine own_st (g' := (mkF m 31 #[.val (.ref ag), .val (.int r_), .val (.int (xf 0)), .val (.long (vf 0)), .second, .val (.int (xf 1)), .val (.long (vf 1)), .second, .val (.int (xf 2)), .val (.long (vf 2)), .second, .val (.ref b74), .val (.int (0 : Int32))] [])) st77 ?_
        refine own_st (T' := T77) (g' := (mkF m 34 #[.val (.ref ag), .val (.int r_), .val (.int (xf 0)), .val (.long (vf 0)), .second, .val (.int (xf 1)), .val (.long (vf 1)), .second, .val (.int (xf 2)), .val (.long (vf 2)), .second, .val (.ref b74), .val (.int ((0 : Int32) + (2 : Int32)))] [])) (fun _ zq => XS.iinc X77.here hx rfl (hb hby own_d_m7_31) rfl (l' := #[.val (.ref ag), .val (.int r_), .val (.int (xf 0)), .val (.long (vf 0)), .second, .val (.int (xf 1)), .val (.long (vf 1)), .second, .val (.int (xf 2)), .val (.long (vf 2)), .second, .val (.ref b74), .val (.int ((0 : Int32) + (2 : Int32)))]) rfl zq) ?_
        exact J34 T77 _ h77 (X77.more (Nat.le_of_ble_eq_true rfl) (Nat.le_of_ble_eq_true rfl)) e77 N Zs K0 _ _ V_g V_b74 (by rw [hwl]; exact own_p2' (rfl : ((0 : Int32)).toInt = ((([] : List Int64).length : Nat) : Int)) (by omega)) (by rw [hwl]; exact own_ext2 rfl hf0)
  intro T75 lo75 h75 X75 e75 N75 Z75 K75 t1 f1 V_g V_b74 hp1 hf1
  refine own_st (T' := T75) (g' := (mkF m 36 #[.val (.ref ag), .val (.int r_), .val (.int (xf 0)), .val (.long (vf 0)), .second, .val (.int (xf 1)), .val (.long (vf 1)), .second, .val (.int (xf 2)), .val (.long (vf 2)), .second, .val (.ref b74), .val (.int t1)] [(.int (xf 1))])) (fun _ zq => XS.iload X75.here hx rfl (hb hby own_d_m7_34) rfl zq) ?_
  suffices J62 : ∀ (T78 : State) (lo78 : List Loc) (h78 : Heap) (X78 : Stand p l e ({ frames := 0, cells := 1, slots := 6, locals := 0 } : Room) s m #[(.ref ag), (.int r_), (.int (xf 0)), (.long (vf 0)), (.int (xf 1)), (.long (vf 1)), (.int (xf 2)), (.long (vf 2))] below meth c T78 lo78 1 6) (e78 : T78.heap = h78) (N78 : Fr n0 lo78) (Z78 : n0 ≤ h78.size) (K78 : Keep h0 h78 []) (t2 : Int32) (f2 : Nat → Value) (V_g : own_AV Z h78 ag .long (own_L3 (own_g xf rn) vf).length (fun i => .long ((own_L3 (own_g xf rn) vf).getD i 0))) (V_b74 : own_AV Z h78 b74 .long 6 f2) (hp2 : t2.toInt = (((own_L2 (own_g xf rn) vf).length : Nat) : Int)) (hf2 : ∀ j, j < (own_L2 (own_g xf rn) vf).length → f2 j = .long ((own_L2 (own_g xf rn) vf).getD j 0)), own_Go p e below s (Q_check Z ag r_ rn xf vf h0 n0) ({ frames := 0, cells := 1, slots := 6, locals := 0 } : Room).cells ({ frames := 0, cells := 1, slots := 6, locals := 0 } : Room).slots T78 (mkF m 62 #[.val (.ref ag), .val (.int r_), .val (.int (xf 0)), .val (.long (vf 0)), .second, .val (.int (xf 1)), .val (.long (vf 1)), .second, .val (.int (xf 2)), .val (.long (vf 2)), .second, .val (.ref b74), .val (.int t2)] []) by
    by_cases hc : (xf 1) = (0 : Int32)
    · skip
      refine own_st (T' := T75) (g' := (mkF m 62 #[.val (.ref ag), .val (.int r_), .val (.int (xf 0)), .val (.long (vf 0)), .second, .val (.int (xf 1)), .val (.long (vf 1)), .second, .val (.int (xf 2)), .val (.long (vf 2)), .second, .val (.ref b74), .val (.int t1)] [])) (fun _ zq => XS.ifYes X75.here hx rfl (pc0 := 36) (pc' := 62) rfl (hb hby own_d_m7_36) rfl ((if0 _ _).trans (teq hc).1) (by decide) (by decide) zq) ?_
      have hwl : (own_L2 (own_g xf rn) vf) = (own_L1 (own_g xf rn) vf) := own_v1 (p := own_g xf rn) (fun q => (of_decide_eq_true q).1 hc)
      exact J62 T75 _ h75 (X75.more (Nat.le_of_ble_eq_true rfl) (Nat.le_of_ble_eq_true rfl)) e75 N75 Z75 K75 _ _ V_g V_b74 (by rw [hwl]; exact hp1) (by rw [hwl]; exact hf1)
    · skip
      refine own_st (T' := T75) (g' := (mkF m 39 #[.val (.ref ag), .val (.int r_), .val (.int (xf 0)), .val (.long (vf 0)), .second, .val (.int (xf 1)), .val (.long (vf 1)), .second, .val (.int (xf 2)), .val (.long (vf 2)), .second, .val (.ref b74), .val (.int t1)] [])) (fun _ zq => XS.ifNo X75.here hx rfl (hb hby own_d_m7_36) rfl ((if0 _ _).trans (feq hc).1) zq) ?_
      refine own_st (T' := T75) (g' := (mkF m 40 #[.val (.ref ag), .val (.int r_), .val (.int (xf 0)), .val (.long (vf 0)), .second, .val (.int (xf 1)), .val (.long (vf 1)), .second, .val (.int (xf 2)), .val (.long (vf 2)), .second, .val (.ref b74), .val (.int t1)] [(.int r_)])) (fun _ zq => XS.iloadN X75.here hx rfl (hb hby own_d_m7_39) rfl zq) ?_
      refine own_st (T' := T75) (g' := (mkF m 41 #[.val (.ref ag), .val (.int r_), .val (.int (xf 0)), .val (.long (vf 0)), .second, .val (.int (xf 1)), .val (.long (vf 1)), .second, .val (.int (xf 2)), .val (.long (vf 2)), .second, .val (.ref b74), .val (.int t1)] [(.int (1 : Int32)), (.int r_)])) (fun _ zq => XS.iconst X75.here hx rfl (hb hby own_d_m7_40) zq) ?_
      by_cases hd : r_ = (1 : Int32)
      · skip
        refine own_st (T' := T75) (g' := (mkF m 62 #[.val (.ref ag), .val (.int r_), .val (.int (xf 0)), .val (.long (vf 0)), .second, .val (.int (xf 1)), .val (.long (vf 1)), .second, .val (.int (xf 2)), .val (.long (vf 2)), .second, .val (.ref b74), .val (.int t1)] [])) (fun _ zq => XS.icmpYes X75.here hx rfl (pc0 := 41) (pc' := 62) rfl (hb hby own_d_m7_41) rfl (teq hd).1 (by decide) (by decide) zq) ?_
        have hwl : (own_L2 (own_g xf rn) vf) = (own_L1 (own_g xf rn) vf) := own_v1 (p := own_g xf rn) (fun q => (of_decide_eq_true q).2 (own_eqN (jn := 1) rfl hr hd.symm))
        exact J62 T75 _ h75 (X75.more (Nat.le_of_ble_eq_true rfl) (Nat.le_of_ble_eq_true rfl)) e75 N75 Z75 K75 _ _ V_g V_b74 (by rw [hwl]; exact hp1) (by rw [hwl]; exact hf1)
      · skip
        refine own_st (T' := T75) (g' := (mkF m 44 #[.val (.ref ag), .val (.int r_), .val (.int (xf 0)), .val (.long (vf 0)), .second, .val (.int (xf 1)), .val (.long (vf 1)), .second, .val (.int (xf 2)), .val (.long (vf 2)), .second, .val (.ref b74), .val (.int t1)] [])) (fun _ zq => XS.icmpNo X75.here hx rfl (hb hby own_d_m7_41) rfl (feq hd).1 zq) ?_
        have hu : own_g xf rn 1 = true := decide_eq_true ⟨hc, fun q => hd (own_eqI (jn := 1) rfl hr q).symm⟩
        have hwl : (own_L2 (own_g xf rn) vf) = (own_L1 (own_g xf rn) vf) ++ [1, vf 1] := own_w1 (p := own_g xf rn) hu
        have hll : (own_L1 (own_g xf rn) vf).length + 2 ≤ (own_L3 (own_g xf rn) vf).length := own_b1 (p := own_g xf rn) hu
        refine own_st (T' := T75) (g' := (mkF m 46 #[.val (.ref ag), .val (.int r_), .val (.int (xf 0)), .val (.long (vf 0)), .second, .val (.int (xf 1)), .val (.long (vf 1)), .second, .val (.int (xf 2)), .val (.long (vf 2)), .second, .val (.ref b74), .val (.int t1)] [(.ref b74)])) (fun _ zq => XS.aload X75.here hx rfl (hb hby own_d_m7_44) rfl rfl zq) ?_
        refine own_st (T' := T75) (g' := (mkF m 48 #[.val (.ref ag), .val (.int r_), .val (.int (xf 0)), .val (.long (vf 0)), .second, .val (.int (xf 1)), .val (.long (vf 1)), .second, .val (.int (xf 2)), .val (.long (vf 2)), .second, .val (.ref b74), .val (.int t1)] [(.int t1), (.ref b74)])) (fun _ zq => XS.iload X75.here hx rfl (hb hby own_d_m7_46) rfl zq) ?_
        refine own_st (T' := T75) (g' := (mkF m 49 #[.val (.ref ag), .val (.int r_), .val (.int (xf 0)), .val (.long (vf 0)), .second, .val (.int (xf 1)), .val (.long (vf 1)), .second, .val (.int (xf 2)), .val (.long (vf 2)), .second, .val (.ref b74), .val (.int t1)] [(.long (1 : Int64)), (.int t1), (.ref b74)])) (fun _ zq => XS.lconst X75.here hx rfl (hb hby own_d_m7_48) zq) ?_
        obtain ⟨T79, h79, X79, e79, W79, V79, st79⟩ := own_stJ X75 hx hZ e75 V_b74 (j := t1) ((own_L1 (own_g xf rn) vf).length) hp1 (by omega) (g := (mkF m 49 #[.val (.ref ag), .val (.int r_), .val (.int (xf 0)), .val (.long (vf 0)), .second, .val (.int (xf 1)), .val (.long (vf 1)), .second, .val (.int (xf 2)), .val (.long (vf 2)), .second, .val (.ref b74), .val (.int t1)] [(.long (1 : Int64)), (.int t1), (.ref b74)])) rfl rfl (hb hby own_d_m7_49)
        replace V_g := V_g.other W79 ne_ag_b74
        replace Z75 := Nat.le_trans Z75 (Keep.of_wr W79).1
        replace K75 := K75.wr W79 (Or.inr sz_b74)
        replace V_b74 := V79
        replace N75 := Fr.snoc X79 N75 g_b74
        refine own_st (g' := (mkF m 50 #[.val (.ref ag), .val (.int r_), .val (.int (xf 0)), .val (.long (vf 0)), .second, .val (.int (xf 1)), .val (.long (vf 1)), .second, .val (.int (xf 2)), .val (.long (vf 2)), .second, .val (.ref b74), .val (.int t1)] [])) st79 ?_
        refine own_st (T' := T79) (g' := (mkF m 52 #[.val (.ref ag), .val (.int r_), .val (.int (xf 0)), .val (.long (vf 0)), .second, .val (.int (xf 1)), .val (.long (vf 1)), .second, .val (.int (xf 2)), .val (.long (vf 2)), .second, .val (.ref b74), .val (.int t1)] [(.ref b74)])) (fun _ zq => XS.aload X79.here hx rfl (hb hby own_d_m7_50) rfl rfl zq) ?_
        refine own_st (T' := T79) (g' := (mkF m 54 #[.val (.ref ag), .val (.int r_), .val (.int (xf 0)), .val (.long (vf 0)), .second, .val (.int (xf 1)), .val (.long (vf 1)), .second, .val (.int (xf 2)), .val (.long (vf 2)), .second, .val (.ref b74), .val (.int t1)] [(.int t1), (.ref b74)])) (fun _ zq => XS.iload X79.here hx rfl (hb hby own_d_m7_52) rfl zq) ?_
        refine own_st (T' := T79) (g' := (mkF m 55 #[.val (.ref ag), .val (.int r_), .val (.int (xf 0)), .val (.long (vf 0)), .second, .val (.int (xf 1)), .val (.long (vf 1)), .second, .val (.int (xf 2)), .val (.long (vf 2)), .second, .val (.ref b74), .val (.int t1)] [(.int (1 : Int32)), (.int t1), (.ref b74)])) (fun _ zq => XS.iconst X79.here hx rfl (hb hby own_d_m7_54) zq) ?_
        refine own_st (T' := T79) (g' := (mkF m 56 #[.val (.ref ag), .val (.int r_), .val (.int (xf 0)), .val (.long (vf 0)), .second, .val (.int (xf 1)), .val (.long (vf 1)), .second, .val (.int (xf 2)), .val (.long (vf 2)), .second, .val (.ref b74), .val (.int t1)] [(.int (t1 + (1 : Int32))), (.ref b74)])) (fun _ zq => XS.iadd X79.here hx rfl (hb hby own_d_m7_55) rfl zq) ?_
        refine own_st (T' := T79) (g' := (mkF m 58 #[.val (.ref ag), .val (.int r_), .val (.int (xf 0)), .val (.long (vf 0)), .second, .val (.int (xf 1)), .val (.long (vf 1)), .second, .val (.int (xf 2)), .val (.long (vf 2)), .second, .val (.ref b74), .val (.int t1)] [(.long (vf 1)), (.int (t1 + (1 : Int32))), (.ref b74)])) (fun _ zq => XS.lload X79.here hx rfl (hb hby own_d_m7_56) rfl zq) ?_
        obtain ⟨T80, h80, X80, e80, W80, V80, st80⟩ := own_stJ X79 hx hZ e79 V_b74 (j := (t1 + (1 : Int32))) ((own_L1 (own_g xf rn) vf).length + 1) (own_p1 hp1 hle6 hll) (by omega) (g := (mkF m 58 #[.val (.ref ag), .val (.int r_), .val (.int (xf 0)), .val (.long (vf 0)), .second, .val (.int (xf 1)), .val (.long (vf 1)), .second, .val (.int (xf 2)), .val (.long (vf 2)), .second, .val (.ref b74), .val (.int t1)] [(.long (vf 1)), (.int (t1 + (1 : Int32))), (.ref b74)])) rfl rfl (hb hby own_d_m7_58)
        replace V_g := V_g.other W80 ne_ag_b74
        replace Z75 := Nat.le_trans Z75 (Keep.of_wr W80).1
        replace K75 := K75.wr W80 (Or.inr sz_b74)
        replace V_b74 := V80
        replace N75 := Fr.snoc X80 N75 g_b74
        refine own_st (g' := (mkF m 59 #[.val (.ref ag), .val (.int r_), .val (.int (xf 0)), .val (.long (vf 0)), .second, .val (.int (xf 1)), .val (.long (vf 1)), .second, .val (.int (xf 2)), .val (.long (vf 2)), .second, .val (.ref b74), .val (.int t1)] [])) st80 ?_
        refine own_st (T' := T80) (g' := (mkF m 62 #[.val (.ref ag), .val (.int r_), .val (.int (xf 0)), .val (.long (vf 0)), .second, .val (.int (xf 1)), .val (.long (vf 1)), .second, .val (.int (xf 2)), .val (.long (vf 2)), .second, .val (.ref b74), .val (.int (t1 + (2 : Int32)))] [])) (fun _ zq => XS.iinc X80.here hx rfl (hb hby own_d_m7_59) rfl (l' := #[.val (.ref ag), .val (.int r_), .val (.int (xf 0)), .val (.long (vf 0)), .second, .val (.int (xf 1)), .val (.long (vf 1)), .second, .val (.int (xf 2)), .val (.long (vf 2)), .second, .val (.ref b74), .val (.int (t1 + (2 : Int32)))]) rfl zq) ?_
        exact J62 T80 _ h80 (X80.more (Nat.le_of_ble_eq_true rfl) (Nat.le_of_ble_eq_true rfl)) e80 N75 Z75 K75 _ _ V_g V_b74 (by rw [hwl]; exact own_p2' hp1 (by omega)) (by rw [hwl]; exact own_ext2 rfl hf1)
  intro T78 lo78 h78 X78 e78 N78 Z78 K78 t2 f2 V_g V_b74 hp2 hf2
  refine own_st (T' := T78) (g' := (mkF m 64 #[.val (.ref ag), .val (.int r_), .val (.int (xf 0)), .val (.long (vf 0)), .second, .val (.int (xf 1)), .val (.long (vf 1)), .second, .val (.int (xf 2)), .val (.long (vf 2)), .second, .val (.ref b74), .val (.int t2)] [(.int (xf 2))])) (fun _ zq => XS.iload X78.here hx rfl (hb hby own_d_m7_62) rfl zq) ?_
  suffices J92 : ∀ (T81 : State) (lo81 : List Loc) (h81 : Heap) (X81 : Stand p l e ({ frames := 0, cells := 1, slots := 6, locals := 0 } : Room) s m #[(.ref ag), (.int r_), (.int (xf 0)), (.long (vf 0)), (.int (xf 1)), (.long (vf 1)), (.int (xf 2)), (.long (vf 2))] below meth c T81 lo81 1 6) (e81 : T81.heap = h81) (N81 : Fr n0 lo81) (Z81 : n0 ≤ h81.size) (K81 : Keep h0 h81 []) (t3 : Int32) (f3 : Nat → Value) (V_g : own_AV Z h81 ag .long (own_L3 (own_g xf rn) vf).length (fun i => .long ((own_L3 (own_g xf rn) vf).getD i 0))) (V_b74 : own_AV Z h81 b74 .long 6 f3) (hp3 : t3.toInt = (((own_L3 (own_g xf rn) vf).length : Nat) : Int)) (hf3 : ∀ j, j < (own_L3 (own_g xf rn) vf).length → f3 j = .long ((own_L3 (own_g xf rn) vf).getD j 0)), own_Go p e below s (Q_check Z ag r_ rn xf vf h0 n0) ({ frames := 0, cells := 1, slots := 6, locals := 0 } : Room).cells ({ frames := 0, cells := 1, slots := 6, locals := 0 } : Room).slots T81 (mkF m 92 #[.val (.ref ag), .val (.int r_), .val (.int (xf 0)), .val (.long (vf 0)), .second, .val (.int (xf 1)), .val (.long (vf 1)), .second, .val (.int (xf 2)), .val (.long (vf 2)), .second, .val (.ref b74), .val (.int t3)] []) by
    by_cases hc : (xf 2) = (0 : Int32)
    · skip
      refine own_st (T' := T78) (g' := (mkF m 92 #[.val (.ref ag), .val (.int r_), .val (.int (xf 0)), .val (.long (vf 0)), .second, .val (.int (xf 1)), .val (.long (vf 1)), .second, .val (.int (xf 2)), .val (.long (vf 2)), .second, .val (.ref b74), .val (.int t2)] [])) (fun _ zq => XS.ifYes X78.here hx rfl (pc0 := 64) (pc' := 92) rfl (hb hby own_d_m7_64) rfl ((if0 _ _).trans (teq hc).1) (by decide) (by decide) zq) ?_
      have hwl : (own_L3 (own_g xf rn) vf) = (own_L2 (own_g xf rn) vf) := own_v2 (p := own_g xf rn) (fun q => (of_decide_eq_true q).1 hc)
      exact J92 T78 _ h78 (X78.more (Nat.le_of_ble_eq_true rfl) (Nat.le_of_ble_eq_true rfl)) e78 N78 Z78 K78 _ _ V_g V_b74 (by rw [hwl]; exact hp2) (by rw [hwl]; exact hf2)
    · skip
      refine own_st (T' := T78) (g' := (mkF m 67 #[.val (.ref ag), .val (.int r_), .val (.int (xf 0)), .val (.long (vf 0)), .second, .val (.int (xf 1)), .val (.long (vf 1)), .second, .val (.int (xf 2)), .val (.long (vf 2)), .second, .val (.ref b74), .val (.int t2)] [])) (fun _ zq => XS.ifNo X78.here hx rfl (hb hby own_d_m7_64) rfl ((if0 _ _).trans (feq hc).1) zq) ?_
      refine own_st (T' := T78) (g' := (mkF m 68 #[.val (.ref ag), .val (.int r_), .val (.int (xf 0)), .val (.long (vf 0)), .second, .val (.int (xf 1)), .val (.long (vf 1)), .second, .val (.int (xf 2)), .val (.long (vf 2)), .second, .val (.ref b74), .val (.int t2)] [(.int r_)])) (fun _ zq => XS.iloadN X78.here hx rfl (hb hby own_d_m7_67) rfl zq) ?_
      refine own_st (T' := T78) (g' := (mkF m 69 #[.val (.ref ag), .val (.int r_), .val (.int (xf 0)), .val (.long (vf 0)), .second, .val (.int (xf 1)), .val (.long (vf 1)), .second, .val (.int (xf 2)), .val (.long (vf 2)), .second, .val (.ref b74), .val (.int t2)] [(.int (2 : Int32)), (.int r_)])) (fun _ zq => XS.iconst X78.here hx rfl (hb hby own_d_m7_68) zq) ?_
      by_cases hd : r_ = (2 : Int32)
      · skip
        refine own_st (T' := T78) (g' := (mkF m 92 #[.val (.ref ag), .val (.int r_), .val (.int (xf 0)), .val (.long (vf 0)), .second, .val (.int (xf 1)), .val (.long (vf 1)), .second, .val (.int (xf 2)), .val (.long (vf 2)), .second, .val (.ref b74), .val (.int t2)] [])) (fun _ zq => XS.icmpYes X78.here hx rfl (pc0 := 69) (pc' := 92) rfl (hb hby own_d_m7_69) rfl (teq hd).1 (by decide) (by decide) zq) ?_
        have hwl : (own_L3 (own_g xf rn) vf) = (own_L2 (own_g xf rn) vf) := own_v2 (p := own_g xf rn) (fun q => (of_decide_eq_true q).2 (own_eqN (jn := 2) rfl hr hd.symm))
        exact J92 T78 _ h78 (X78.more (Nat.le_of_ble_eq_true rfl) (Nat.le_of_ble_eq_true rfl)) e78 N78 Z78 K78 _ _ V_g V_b74 (by rw [hwl]; exact hp2) (by rw [hwl]; exact hf2)
      · skip
        refine own_st (T' := T78) (g' := (mkF m 72 #[.val (.ref ag), .val (.int r_), .val (.int (xf 0)), .val (.long (vf 0)), .second, .val (.int (xf 1)), .val (.long (vf 1)), .second, .val (.int (xf 2)), .val (.long (vf 2)), .second, .val (.ref b74), .val (.int t2)] [])) (fun _ zq => XS.icmpNo X78.here hx rfl (hb hby own_d_m7_69) rfl (feq hd).1 zq) ?_
        have hu : own_g xf rn 2 = true := decide_eq_true ⟨hc, fun q => hd (own_eqI (jn := 2) rfl hr q).symm⟩
        have hwl : (own_L3 (own_g xf rn) vf) = (own_L2 (own_g xf rn) vf) ++ [2, vf 2] := own_w2 (p := own_g xf rn) hu
        have hll : (own_L2 (own_g xf rn) vf).length + 2 ≤ (own_L3 (own_g xf rn) vf).length := own_b2 (p := own_g xf rn) hu
        refine own_st (T' := T78) (g' := (mkF m 74 #[.val (.ref ag), .val (.int r_), .val (.int (xf 0)), .val (.long (vf 0)), .second, .val (.int (xf 1)), .val (.long (vf 1)), .second, .val (.int (xf 2)), .val (.long (vf 2)), .second, .val (.ref b74), .val (.int t2)] [(.ref b74)])) (fun _ zq => XS.aload X78.here hx rfl (hb hby own_d_m7_72) rfl rfl zq) ?_
        refine own_st (T' := T78) (g' := (mkF m 76 #[.val (.ref ag), .val (.int r_), .val (.int (xf 0)), .val (.long (vf 0)), .second, .val (.int (xf 1)), .val (.long (vf 1)), .second, .val (.int (xf 2)), .val (.long (vf 2)), .second, .val (.ref b74), .val (.int t2)] [(.int t2), (.ref b74)])) (fun _ zq => XS.iload X78.here hx rfl (hb hby own_d_m7_74) rfl zq) ?_
        refine own_st (T' := T78) (g' := (mkF m 79 #[.val (.ref ag), .val (.int r_), .val (.int (xf 0)), .val (.long (vf 0)), .second, .val (.int (xf 1)), .val (.long (vf 1)), .second, .val (.int (xf 2)), .val (.long (vf 2)), .second, .val (.ref b74), .val (.int t2)] [(.long (2 : Int64)), (.int t2), (.ref b74)])) (fun _ zq => X78.ldc2Long hx hown (mvT hZ (hw _ (List.mem_of_getElem? (i := 85) rfl))) (g := (mkF m 76 #[.val (.ref ag), .val (.int r_), .val (.int (xf 0)), .val (.long (vf 0)), .second, .val (.int (xf 1)), .val (.long (vf 1)), .second, .val (.int (xf 2)), .val (.long (vf 2)), .second, .val (.ref b74), .val (.int t2)] [(.int t2), (.ref b74)])) rfl (hb hby own_d_m7_76) _ zq) ?_
        obtain ⟨T82, h82, X82, e82, W82, V82, st82⟩ := own_stJ X78 hx hZ e78 V_b74 (j := t2) ((own_L2 (own_g xf rn) vf).length) hp2 (by omega) (g := (mkF m 79 #[.val (.ref ag), .val (.int r_), .val (.int (xf 0)), .val (.long (vf 0)), .second, .val (.int (xf 1)), .val (.long (vf 1)), .second, .val (.int (xf 2)), .val (.long (vf 2)), .second, .val (.ref b74), .val (.int t2)] [(.long (2 : Int64)), (.int t2), (.ref b74)])) rfl rfl (hb hby own_d_m7_79)
        replace V_g := V_g.other W82 ne_ag_b74
        replace Z78 := Nat.le_trans Z78 (Keep.of_wr W82).1
        replace K78 := K78.wr W82 (Or.inr sz_b74)
        replace V_b74 := V82
        replace N78 := Fr.snoc X82 N78 g_b74
        refine own_st (g' := (mkF m 80 #[.val (.ref ag), .val (.int r_), .val (.int (xf 0)), .val (.long (vf 0)), .second, .val (.int (xf 1)), .val (.long (vf 1)), .second, .val (.int (xf 2)), .val (.long (vf 2)), .second, .val (.ref b74), .val (.int t2)] [])) st82 ?_
        refine own_st (T' := T82) (g' := (mkF m 82 #[.val (.ref ag), .val (.int r_), .val (.int (xf 0)), .val (.long (vf 0)), .second, .val (.int (xf 1)), .val (.long (vf 1)), .second, .val (.int (xf 2)), .val (.long (vf 2)), .second, .val (.ref b74), .val (.int t2)] [(.ref b74)])) (fun _ zq => XS.aload X82.here hx rfl (hb hby own_d_m7_80) rfl rfl zq) ?_
        refine own_st (T' := T82) (g' := (mkF m 84 #[.val (.ref ag), .val (.int r_), .val (.int (xf 0)), .val (.long (vf 0)), .second, .val (.int (xf 1)), .val (.long (vf 1)), .second, .val (.int (xf 2)), .val (.long (vf 2)), .second, .val (.ref b74), .val (.int t2)] [(.int t2), (.ref b74)])) (fun _ zq => XS.iload X82.here hx rfl (hb hby own_d_m7_82) rfl zq) ?_
        refine own_st (T' := T82) (g' := (mkF m 85 #[.val (.ref ag), .val (.int r_), .val (.int (xf 0)), .val (.long (vf 0)), .second, .val (.int (xf 1)), .val (.long (vf 1)), .second, .val (.int (xf 2)), .val (.long (vf 2)), .second, .val (.ref b74), .val (.int t2)] [(.int (1 : Int32)), (.int t2), (.ref b74)])) (fun _ zq => XS.iconst X82.here hx rfl (hb hby own_d_m7_84) zq) ?_
        refine own_st (T' := T82) (g' := (mkF m 86 #[.val (.ref ag), .val (.int r_), .val (.int (xf 0)), .val (.long (vf 0)), .second, .val (.int (xf 1)), .val (.long (vf 1)), .second, .val (.int (xf 2)), .val (.long (vf 2)), .second, .val (.ref b74), .val (.int t2)] [(.int (t2 + (1 : Int32))), (.ref b74)])) (fun _ zq => XS.iadd X82.here hx rfl (hb hby own_d_m7_85) rfl zq) ?_
        refine own_st (T' := T82) (g' := (mkF m 88 #[.val (.ref ag), .val (.int r_), .val (.int (xf 0)), .val (.long (vf 0)), .second, .val (.int (xf 1)), .val (.long (vf 1)), .second, .val (.int (xf 2)), .val (.long (vf 2)), .second, .val (.ref b74), .val (.int t2)] [(.long (vf 2)), (.int (t2 + (1 : Int32))), (.ref b74)])) (fun _ zq => XS.lload X82.here hx rfl (hb hby own_d_m7_86) rfl zq) ?_
        obtain ⟨T83, h83, X83, e83, W83, V83, st83⟩ := own_stJ X82 hx hZ e82 V_b74 (j := (t2 + (1 : Int32))) ((own_L2 (own_g xf rn) vf).length + 1) (own_p1 hp2 hle6 hll) (by omega) (g := (mkF m 88 #[.val (.ref ag), .val (.int r_), .val (.int (xf 0)), .val (.long (vf 0)), .second, .val (.int (xf 1)), .val (.long (vf 1)), .second, .val (.int (xf 2)), .val (.long (vf 2)), .second, .val (.ref b74), .val (.int t2)] [(.long (vf 2)), (.int (t2 + (1 : Int32))), (.ref b74)])) rfl rfl (hb hby own_d_m7_88)
        replace V_g := V_g.other W83 ne_ag_b74
        replace Z78 := Nat.le_trans Z78 (Keep.of_wr W83).1
        replace K78 := K78.wr W83 (Or.inr sz_b74)
        replace V_b74 := V83
        replace N78 := Fr.snoc X83 N78 g_b74
        refine own_st (g' := (mkF m 89 #[.val (.ref ag), .val (.int r_), .val (.int (xf 0)), .val (.long (vf 0)), .second, .val (.int (xf 1)), .val (.long (vf 1)), .second, .val (.int (xf 2)), .val (.long (vf 2)), .second, .val (.ref b74), .val (.int t2)] [])) st83 ?_
        refine own_st (T' := T83) (g' := (mkF m 92 #[.val (.ref ag), .val (.int r_), .val (.int (xf 0)), .val (.long (vf 0)), .second, .val (.int (xf 1)), .val (.long (vf 1)), .second, .val (.int (xf 2)), .val (.long (vf 2)), .second, .val (.ref b74), .val (.int (t2 + (2 : Int32)))] [])) (fun _ zq => XS.iinc X83.here hx rfl (hb hby own_d_m7_89) rfl (l' := #[.val (.ref ag), .val (.int r_), .val (.int (xf 0)), .val (.long (vf 0)), .second, .val (.int (xf 1)), .val (.long (vf 1)), .second, .val (.int (xf 2)), .val (.long (vf 2)), .second, .val (.ref b74), .val (.int (t2 + (2 : Int32)))]) rfl zq) ?_
        exact J92 T83 _ h83 (X83.more (Nat.le_of_ble_eq_true rfl) (Nat.le_of_ble_eq_true rfl)) e83 N78 Z78 K78 _ _ V_g V_b74 (by rw [hwl]; exact own_p2' hp2 (by omega)) (by rw [hwl]; exact own_ext2 rfl hf2)
  intro T81 lo81 h81 X81 e81 N81 Z81 K81 t3 f3 V_g V_b74 hp3 hf3
  refine own_st (T' := T81) (g' := (mkF m 93 #[.val (.ref ag), .val (.int r_), .val (.int (xf 0)), .val (.long (vf 0)), .second, .val (.int (xf 1)), .val (.long (vf 1)), .second, .val (.int (xf 2)), .val (.long (vf 2)), .second, .val (.ref b74), .val (.int t3)] [(.ref ag)])) (fun _ zq => XS.aloadN X81.here hx rfl (hb hby own_d_m7_92) rfl rfl zq) ?_
  refine own_st (T' := T81) (g' := (mkF m 94 #[.val (.ref ag), .val (.int r_), .val (.int (xf 0)), .val (.long (vf 0)), .second, .val (.int (xf 1)), .val (.long (vf 1)), .second, .val (.int (xf 2)), .val (.long (vf 2)), .second, .val (.ref b74), .val (.int t3)] [(.int t3)])) (own_len (z := t3) X81 hx hZ e81 V_g hp3 (g := (mkF m 93 #[.val (.ref ag), .val (.int r_), .val (.int (xf 0)), .val (.long (vf 0)), .second, .val (.int (xf 1)), .val (.long (vf 1)), .second, .val (.int (xf 2)), .val (.long (vf 2)), .second, .val (.ref b74), .val (.int t3)] [(.ref ag)])) rfl rfl (hb hby own_d_m7_93)) ?_
  refine own_st (T' := T81) (g' := (mkF m 96 #[.val (.ref ag), .val (.int r_), .val (.int (xf 0)), .val (.long (vf 0)), .second, .val (.int (xf 1)), .val (.long (vf 1)), .second, .val (.int (xf 2)), .val (.long (vf 2)), .second, .val (.ref b74), .val (.int t3)] [(.int t3), (.int t3)])) (fun _ zq => XS.iload X81.here hx rfl (hb hby own_d_m7_94) rfl zq) ?_
  refine own_st (T' := T81) (g' := (mkF m 101 #[.val (.ref ag), .val (.int r_), .val (.int (xf 0)), .val (.long (vf 0)), .second, .val (.int (xf 1)), .val (.long (vf 1)), .second, .val (.int (xf 2)), .val (.long (vf 2)), .second, .val (.ref b74), .val (.int t3)] [])) (fun _ zq => XS.icmpYes X81.here hx rfl (pc0 := 96) (pc' := 101) rfl (hb hby own_d_m7_96) rfl (teq rfl).1 (by decide) (by decide) zq) ?_
  refine own_st (T' := T81) (g' := (mkF m 103 #[.val (.ref ag), .val (.int r_), .val (.int (xf 0)), .val (.long (vf 0)), .second, .val (.int (xf 1)), .val (.long (vf 1)), .second, .val (.int (xf 2)), .val (.long (vf 2)), .second, .val (.ref b74), .val (.int t3)] [(.int t3)])) (fun _ zq => XS.iload X81.here hx rfl (hb hby own_d_m7_101) rfl zq) ?_
  refine own_st (T' := T81) (g' := (mkF m 104 #[.val (.ref ag), .val (.int r_), .val (.int (xf 0)), .val (.long (vf 0)), .second, .val (.int (xf 1)), .val (.long (vf 1)), .second, .val (.int (xf 2)), .val (.long (vf 2)), .second, .val (.ref b74), .val (.int t3)] [(.int (2 : Int32)), (.int t3)])) (fun _ zq => XS.iconst X81.here hx rfl (hb hby own_d_m7_103) zq) ?_
  suffices J129 : own_Go p e below s (Q_check Z ag r_ rn xf vf h0 n0) ({ frames := 0, cells := 1, slots := 6, locals := 0 } : Room).cells ({ frames := 0, cells := 1, slots := 6, locals := 0 } : Room).slots T81 (mkF m 129 #[.val (.ref ag), .val (.int r_), .val (.int (xf 0)), .val (.long (vf 0)), .second, .val (.int (xf 1)), .val (.long (vf 1)), .second, .val (.int (xf 2)), .val (.long (vf 2)), .second, .val (.ref b74), .val (.int t3)] []) by
    by_cases hn : t3 < (2 : Int32)
    · skip
      refine own_st (T' := T81) (g' := (mkF m 129 #[.val (.ref ag), .val (.int r_), .val (.int (xf 0)), .val (.long (vf 0)), .second, .val (.int (xf 1)), .val (.long (vf 1)), .second, .val (.int (xf 2)), .val (.long (vf 2)), .second, .val (.ref b74), .val (.int t3)] [])) (fun _ zq => XS.icmpYes X81.here hx rfl (pc0 := 104) (pc' := 129) rfl (hb hby own_d_m7_104) rfl (tlt hn).1 (by decide) (by decide) zq) ?_
      exact J129
    · skip
      refine own_st (T' := T81) (g' := (mkF m 107 #[.val (.ref ag), .val (.int r_), .val (.int (xf 0)), .val (.long (vf 0)), .second, .val (.int (xf 1)), .val (.long (vf 1)), .second, .val (.int (xf 2)), .val (.long (vf 2)), .second, .val (.ref b74), .val (.int t3)] [])) (fun _ zq => XS.icmpNo X81.here hx rfl (hb hby own_d_m7_104) rfl (flt hn).1 zq) ?_
      refine own_st (T' := T81) (g' := (mkF m 108 #[.val (.ref ag), .val (.int r_), .val (.int (xf 0)), .val (.long (vf 0)), .second, .val (.int (xf 1)), .val (.long (vf 1)), .second, .val (.int (xf 2)), .val (.long (vf 2)), .second, .val (.ref b74), .val (.int t3)] [(.ref ag)])) (fun _ zq => XS.aloadN X81.here hx rfl (hb hby own_d_m7_107) rfl rfl zq) ?_
      refine own_st (T' := T81) (g' := (mkF m 109 #[.val (.ref ag), .val (.int r_), .val (.int (xf 0)), .val (.long (vf 0)), .second, .val (.int (xf 1)), .val (.long (vf 1)), .second, .val (.int (xf 2)), .val (.long (vf 2)), .second, .val (.ref b74), .val (.int t3)] [(.int (0 : Int32)), (.ref ag)])) (fun _ zq => XS.iconst X81.here hx rfl (hb hby own_d_m7_108) zq) ?_
      have hbn : 2 ≤ (own_L3 (own_g xf rn) vf).length := own_ge (a := 2) rfl hp3 hn
      refine own_st (T' := T81) (g' := (mkF m 110 #[.val (.ref ag), .val (.int r_), .val (.int (xf 0)), .val (.long (vf 0)), .second, .val (.int (xf 1)), .val (.long (vf 1)), .second, .val (.int (xf 2)), .val (.long (vf 2)), .second, .val (.ref b74), .val (.int t3)] [(.long ((own_L3 (own_g xf rn) vf).getD 0 0))])) (own_ldJ X81 hx hZ e81 V_g (j := (0 : Int32)) (0) rfl (by omega) (w := (.long ((own_L3 (own_g xf rn) vf).getD 0 0))) rfl (g := (mkF m 109 #[.val (.ref ag), .val (.int r_), .val (.int (xf 0)), .val (.long (vf 0)), .second, .val (.int (xf 1)), .val (.long (vf 1)), .second, .val (.int (xf 2)), .val (.long (vf 2)), .second, .val (.ref b74), .val (.int t3)] [(.int (0 : Int32)), (.ref ag)])) rfl rfl (hb hby own_d_m7_109)) ?_
      refine own_st (T' := T81) (g' := (mkF m 112 #[.val (.ref ag), .val (.int r_), .val (.int (xf 0)), .val (.long (vf 0)), .second, .val (.int (xf 1)), .val (.long (vf 1)), .second, .val (.int (xf 2)), .val (.long (vf 2)), .second, .val (.ref b74), .val (.int t3)] [(.ref b74), (.long ((own_L3 (own_g xf rn) vf).getD 0 0))])) (fun _ zq => XS.aload X81.here hx rfl (hb hby own_d_m7_110) rfl rfl zq) ?_
      refine own_st (T' := T81) (g' := (mkF m 113 #[.val (.ref ag), .val (.int r_), .val (.int (xf 0)), .val (.long (vf 0)), .second, .val (.int (xf 1)), .val (.long (vf 1)), .second, .val (.int (xf 2)), .val (.long (vf 2)), .second, .val (.ref b74), .val (.int t3)] [(.int (0 : Int32)), (.ref b74), (.long ((own_L3 (own_g xf rn) vf).getD 0 0))])) (fun _ zq => XS.iconst X81.here hx rfl (hb hby own_d_m7_112) zq) ?_
      refine own_st (T' := T81) (g' := (mkF m 114 #[.val (.ref ag), .val (.int r_), .val (.int (xf 0)), .val (.long (vf 0)), .second, .val (.int (xf 1)), .val (.long (vf 1)), .second, .val (.int (xf 2)), .val (.long (vf 2)), .second, .val (.ref b74), .val (.int t3)] [(.long ((own_L3 (own_g xf rn) vf).getD 0 0)), (.long ((own_L3 (own_g xf rn) vf).getD 0 0))])) (own_ldJ X81 hx hZ e81 V_b74 (j := (0 : Int32)) (0) rfl (by omega) (w := (.long ((own_L3 (own_g xf rn) vf).getD 0 0))) (hf3 0 (by omega)) (g := (mkF m 113 #[.val (.ref ag), .val (.int r_), .val (.int (xf 0)), .val (.long (vf 0)), .second, .val (.int (xf 1)), .val (.long (vf 1)), .second, .val (.int (xf 2)), .val (.long (vf 2)), .second, .val (.ref b74), .val (.int t3)] [(.int (0 : Int32)), (.ref b74), (.long ((own_L3 (own_g xf rn) vf).getD 0 0))])) rfl rfl (hb hby own_d_m7_113)) ?_
      refine own_st (T' := T81) (g' := (mkF m 115 #[.val (.ref ag), .val (.int r_), .val (.int (xf 0)), .val (.long (vf 0)), .second, .val (.int (xf 1)), .val (.long (vf 1)), .second, .val (.int (xf 2)), .val (.long (vf 2)), .second, .val (.ref b74), .val (.int t3)] [(.int (lcmpW ((own_L3 (own_g xf rn) vf).getD 0 0) ((own_L3 (own_g xf rn) vf).getD 0 0)))])) (fun _ zq => XS.lcmp X81.here hx rfl (hb hby own_d_m7_114) rfl zq) ?_
      refine own_st (T' := T81) (g' := (mkF m 118 #[.val (.ref ag), .val (.int r_), .val (.int (xf 0)), .val (.long (vf 0)), .second, .val (.int (xf 1)), .val (.long (vf 1)), .second, .val (.int (xf 2)), .val (.long (vf 2)), .second, .val (.ref b74), .val (.int t3)] [])) (fun _ zq => XS.ifNo X81.here hx rfl (hb hby own_d_m7_115) rfl (own_lteq rfl).2 zq) ?_
      refine own_st (T' := T81) (g' := (mkF m 119 #[.val (.ref ag), .val (.int r_), .val (.int (xf 0)), .val (.long (vf 0)), .second, .val (.int (xf 1)), .val (.long (vf 1)), .second, .val (.int (xf 2)), .val (.long (vf 2)), .second, .val (.ref b74), .val (.int t3)] [(.ref ag)])) (fun _ zq => XS.aloadN X81.here hx rfl (hb hby own_d_m7_118) rfl rfl zq) ?_
      refine own_st (T' := T81) (g' := (mkF m 120 #[.val (.ref ag), .val (.int r_), .val (.int (xf 0)), .val (.long (vf 0)), .second, .val (.int (xf 1)), .val (.long (vf 1)), .second, .val (.int (xf 2)), .val (.long (vf 2)), .second, .val (.ref b74), .val (.int t3)] [(.int (1 : Int32)), (.ref ag)])) (fun _ zq => XS.iconst X81.here hx rfl (hb hby own_d_m7_119) zq) ?_
      refine own_st (T' := T81) (g' := (mkF m 121 #[.val (.ref ag), .val (.int r_), .val (.int (xf 0)), .val (.long (vf 0)), .second, .val (.int (xf 1)), .val (.long (vf 1)), .second, .val (.int (xf 2)), .val (.long (vf 2)), .second, .val (.ref b74), .val (.int t3)] [(.long ((own_L3 (own_g xf rn) vf).getD 1 0))])) (own_ldJ X81 hx hZ e81 V_g (j := (1 : Int32)) (1) rfl (by omega) (w := (.long ((own_L3 (own_g xf rn) vf).getD 1 0))) rfl (g := (mkF m 120 #[.val (.ref ag), .val (.int r_), .val (.int (xf 0)), .val (.long (vf 0)), .second, .val (.int (xf 1)), .val (.long (vf 1)), .second, .val (.int (xf 2)), .val (.long (vf 2)), .second, .val (.ref b74), .val (.int t3)] [(.int (1 : Int32)), (.ref ag)])) rfl rfl (hb hby own_d_m7_120)) ?_
      refine own_st (T' := T81) (g' := (mkF m 123 #[.val (.ref ag), .val (.int r_), .val (.int (xf 0)), .val (.long (vf 0)), .second, .val (.int (xf 1)), .val (.long (vf 1)), .second, .val (.int (xf 2)), .val (.long (vf 2)), .second, .val (.ref b74), .val (.int t3)] [(.ref b74), (.long ((own_L3 (own_g xf rn) vf).getD 1 0))])) (fun _ zq => XS.aload X81.here hx rfl (hb hby own_d_m7_121) rfl rfl zq) ?_
      refine own_st (T' := T81) (g' := (mkF m 124 #[.val (.ref ag), .val (.int r_), .val (.int (xf 0)), .val (.long (vf 0)), .second, .val (.int (xf 1)), .val (.long (vf 1)), .second, .val (.int (xf 2)), .val (.long (vf 2)), .second, .val (.ref b74), .val (.int t3)] [(.int (1 : Int32)), (.ref b74), (.long ((own_L3 (own_g xf rn) vf).getD 1 0))])) (fun _ zq => XS.iconst X81.here hx rfl (hb hby own_d_m7_123) zq) ?_
      refine own_st (T' := T81) (g' := (mkF m 125 #[.val (.ref ag), .val (.int r_), .val (.int (xf 0)), .val (.long (vf 0)), .second, .val (.int (xf 1)), .val (.long (vf 1)), .second, .val (.int (xf 2)), .val (.long (vf 2)), .second, .val (.ref b74), .val (.int t3)] [(.long ((own_L3 (own_g xf rn) vf).getD 1 0)), (.long ((own_L3 (own_g xf rn) vf).getD 1 0))])) (own_ldJ X81 hx hZ e81 V_b74 (j := (1 : Int32)) (1) rfl (by omega) (w := (.long ((own_L3 (own_g xf rn) vf).getD 1 0))) (hf3 1 (by omega)) (g := (mkF m 124 #[.val (.ref ag), .val (.int r_), .val (.int (xf 0)), .val (.long (vf 0)), .second, .val (.int (xf 1)), .val (.long (vf 1)), .second, .val (.int (xf 2)), .val (.long (vf 2)), .second, .val (.ref b74), .val (.int t3)] [(.int (1 : Int32)), (.ref b74), (.long ((own_L3 (own_g xf rn) vf).getD 1 0))])) rfl rfl (hb hby own_d_m7_124)) ?_
      refine own_st (T' := T81) (g' := (mkF m 126 #[.val (.ref ag), .val (.int r_), .val (.int (xf 0)), .val (.long (vf 0)), .second, .val (.int (xf 1)), .val (.long (vf 1)), .second, .val (.int (xf 2)), .val (.long (vf 2)), .second, .val (.ref b74), .val (.int t3)] [(.int (lcmpW ((own_L3 (own_g xf rn) vf).getD 1 0) ((own_L3 (own_g xf rn) vf).getD 1 0)))])) (fun _ zq => XS.lcmp X81.here hx rfl (hb hby own_d_m7_125) rfl zq) ?_
      refine own_st (T' := T81) (g' := (mkF m 129 #[.val (.ref ag), .val (.int r_), .val (.int (xf 0)), .val (.long (vf 0)), .second, .val (.int (xf 1)), .val (.long (vf 1)), .second, .val (.int (xf 2)), .val (.long (vf 2)), .second, .val (.ref b74), .val (.int t3)] [])) (fun _ zq => XS.ifNo X81.here hx rfl (hb hby own_d_m7_126) rfl (own_lteq rfl).2 zq) ?_
      exact J129
  refine own_st (T' := T81) (g' := (mkF m 131 #[.val (.ref ag), .val (.int r_), .val (.int (xf 0)), .val (.long (vf 0)), .second, .val (.int (xf 1)), .val (.long (vf 1)), .second, .val (.int (xf 2)), .val (.long (vf 2)), .second, .val (.ref b74), .val (.int t3)] [(.int t3)])) (fun _ zq => XS.iload X81.here hx rfl (hb hby own_d_m7_129) rfl zq) ?_
  refine own_st (T' := T81) (g' := (mkF m 132 #[.val (.ref ag), .val (.int r_), .val (.int (xf 0)), .val (.long (vf 0)), .second, .val (.int (xf 1)), .val (.long (vf 1)), .second, .val (.int (xf 2)), .val (.long (vf 2)), .second, .val (.ref b74), .val (.int t3)] [(.int (4 : Int32)), (.int t3)])) (fun _ zq => XS.iconst X81.here hx rfl (hb hby own_d_m7_131) zq) ?_
  suffices J157 : own_Go p e below s (Q_check Z ag r_ rn xf vf h0 n0) ({ frames := 0, cells := 1, slots := 6, locals := 0 } : Room).cells ({ frames := 0, cells := 1, slots := 6, locals := 0 } : Room).slots T81 (mkF m 157 #[.val (.ref ag), .val (.int r_), .val (.int (xf 0)), .val (.long (vf 0)), .second, .val (.int (xf 1)), .val (.long (vf 1)), .second, .val (.int (xf 2)), .val (.long (vf 2)), .second, .val (.ref b74), .val (.int t3)] []) by
    by_cases hn : t3 < (4 : Int32)
    · skip
      refine own_st (T' := T81) (g' := (mkF m 157 #[.val (.ref ag), .val (.int r_), .val (.int (xf 0)), .val (.long (vf 0)), .second, .val (.int (xf 1)), .val (.long (vf 1)), .second, .val (.int (xf 2)), .val (.long (vf 2)), .second, .val (.ref b74), .val (.int t3)] [])) (fun _ zq => XS.icmpYes X81.here hx rfl (pc0 := 132) (pc' := 157) rfl (hb hby own_d_m7_132) rfl (tlt hn).1 (by decide) (by decide) zq) ?_
      exact J157
    · skip
      refine own_st (T' := T81) (g' := (mkF m 135 #[.val (.ref ag), .val (.int r_), .val (.int (xf 0)), .val (.long (vf 0)), .second, .val (.int (xf 1)), .val (.long (vf 1)), .second, .val (.int (xf 2)), .val (.long (vf 2)), .second, .val (.ref b74), .val (.int t3)] [])) (fun _ zq => XS.icmpNo X81.here hx rfl (hb hby own_d_m7_132) rfl (flt hn).1 zq) ?_
      refine own_st (T' := T81) (g' := (mkF m 136 #[.val (.ref ag), .val (.int r_), .val (.int (xf 0)), .val (.long (vf 0)), .second, .val (.int (xf 1)), .val (.long (vf 1)), .second, .val (.int (xf 2)), .val (.long (vf 2)), .second, .val (.ref b74), .val (.int t3)] [(.ref ag)])) (fun _ zq => XS.aloadN X81.here hx rfl (hb hby own_d_m7_135) rfl rfl zq) ?_
      refine own_st (T' := T81) (g' := (mkF m 137 #[.val (.ref ag), .val (.int r_), .val (.int (xf 0)), .val (.long (vf 0)), .second, .val (.int (xf 1)), .val (.long (vf 1)), .second, .val (.int (xf 2)), .val (.long (vf 2)), .second, .val (.ref b74), .val (.int t3)] [(.int (2 : Int32)), (.ref ag)])) (fun _ zq => XS.iconst X81.here hx rfl (hb hby own_d_m7_136) zq) ?_
      have hbn : 4 ≤ (own_L3 (own_g xf rn) vf).length := own_ge (a := 4) rfl hp3 hn
      refine own_st (T' := T81) (g' := (mkF m 138 #[.val (.ref ag), .val (.int r_), .val (.int (xf 0)), .val (.long (vf 0)), .second, .val (.int (xf 1)), .val (.long (vf 1)), .second, .val (.int (xf 2)), .val (.long (vf 2)), .second, .val (.ref b74), .val (.int t3)] [(.long ((own_L3 (own_g xf rn) vf).getD 2 0))])) (own_ldJ X81 hx hZ e81 V_g (j := (2 : Int32)) (2) rfl (by omega) (w := (.long ((own_L3 (own_g xf rn) vf).getD 2 0))) rfl (g := (mkF m 137 #[.val (.ref ag), .val (.int r_), .val (.int (xf 0)), .val (.long (vf 0)), .second, .val (.int (xf 1)), .val (.long (vf 1)), .second, .val (.int (xf 2)), .val (.long (vf 2)), .second, .val (.ref b74), .val (.int t3)] [(.int (2 : Int32)), (.ref ag)])) rfl rfl (hb hby own_d_m7_137)) ?_
      refine own_st (T' := T81) (g' := (mkF m 140 #[.val (.ref ag), .val (.int r_), .val (.int (xf 0)), .val (.long (vf 0)), .second, .val (.int (xf 1)), .val (.long (vf 1)), .second, .val (.int (xf 2)), .val (.long (vf 2)), .second, .val (.ref b74), .val (.int t3)] [(.ref b74), (.long ((own_L3 (own_g xf rn) vf).getD 2 0))])) (fun _ zq => XS.aload X81.here hx rfl (hb hby own_d_m7_138) rfl rfl zq) ?_
      refine own_st (T' := T81) (g' := (mkF m 141 #[.val (.ref ag), .val (.int r_), .val (.int (xf 0)), .val (.long (vf 0)), .second, .val (.int (xf 1)), .val (.long (vf 1)), .second, .val (.int (xf 2)), .val (.long (vf 2)), .second, .val (.ref b74), .val (.int t3)] [(.int (2 : Int32)), (.ref b74), (.long ((own_L3 (own_g xf rn) vf).getD 2 0))])) (fun _ zq => XS.iconst X81.here hx rfl (hb hby own_d_m7_140) zq) ?_
      refine own_st (T' := T81) (g' := (mkF m 142 #[.val (.ref ag), .val (.int r_), .val (.int (xf 0)), .val (.long (vf 0)), .second, .val (.int (xf 1)), .val (.long (vf 1)), .second, .val (.int (xf 2)), .val (.long (vf 2)), .second, .val (.ref b74), .val (.int t3)] [(.long ((own_L3 (own_g xf rn) vf).getD 2 0)), (.long ((own_L3 (own_g xf rn) vf).getD 2 0))])) (own_ldJ X81 hx hZ e81 V_b74 (j := (2 : Int32)) (2) rfl (by omega) (w := (.long ((own_L3 (own_g xf rn) vf).getD 2 0))) (hf3 2 (by omega)) (g := (mkF m 141 #[.val (.ref ag), .val (.int r_), .val (.int (xf 0)), .val (.long (vf 0)), .second, .val (.int (xf 1)), .val (.long (vf 1)), .second, .val (.int (xf 2)), .val (.long (vf 2)), .second, .val (.ref b74), .val (.int t3)] [(.int (2 : Int32)), (.ref b74), (.long ((own_L3 (own_g xf rn) vf).getD 2 0))])) rfl rfl (hb hby own_d_m7_141)) ?_
      refine own_st (T' := T81) (g' := (mkF m 143 #[.val (.ref ag), .val (.int r_), .val (.int (xf 0)), .val (.long (vf 0)), .second, .val (.int (xf 1)), .val (.long (vf 1)), .second, .val (.int (xf 2)), .val (.long (vf 2)), .second, .val (.ref b74), .val (.int t3)] [(.int (lcmpW ((own_L3 (own_g xf rn) vf).getD 2 0) ((own_L3 (own_g xf rn) vf).getD 2 0)))])) (fun _ zq => XS.lcmp X81.here hx rfl (hb hby own_d_m7_142) rfl zq) ?_
      refine own_st (T' := T81) (g' := (mkF m 146 #[.val (.ref ag), .val (.int r_), .val (.int (xf 0)), .val (.long (vf 0)), .second, .val (.int (xf 1)), .val (.long (vf 1)), .second, .val (.int (xf 2)), .val (.long (vf 2)), .second, .val (.ref b74), .val (.int t3)] [])) (fun _ zq => XS.ifNo X81.here hx rfl (hb hby own_d_m7_143) rfl (own_lteq rfl).2 zq) ?_
      refine own_st (T' := T81) (g' := (mkF m 147 #[.val (.ref ag), .val (.int r_), .val (.int (xf 0)), .val (.long (vf 0)), .second, .val (.int (xf 1)), .val (.long (vf 1)), .second, .val (.int (xf 2)), .val (.long (vf 2)), .second, .val (.ref b74), .val (.int t3)] [(.ref ag)])) (fun _ zq => XS.aloadN X81.here hx rfl (hb hby own_d_m7_146) rfl rfl zq) ?_
      refine own_st (T' := T81) (g' := (mkF m 148 #[.val (.ref ag), .val (.int r_), .val (.int (xf 0)), .val (.long (vf 0)), .second, .val (.int (xf 1)), .val (.long (vf 1)), .second, .val (.int (xf 2)), .val (.long (vf 2)), .second, .val (.ref b74), .val (.int t3)] [(.int (3 : Int32)), (.ref ag)])) (fun _ zq => XS.iconst X81.here hx rfl (hb hby own_d_m7_147) zq) ?_
      refine own_st (T' := T81) (g' := (mkF m 149 #[.val (.ref ag), .val (.int r_), .val (.int (xf 0)), .val (.long (vf 0)), .second, .val (.int (xf 1)), .val (.long (vf 1)), .second, .val (.int (xf 2)), .val (.long (vf 2)), .second, .val (.ref b74), .val (.int t3)] [(.long ((own_L3 (own_g xf rn) vf).getD 3 0))])) (own_ldJ X81 hx hZ e81 V_g (j := (3 : Int32)) (3) rfl (by omega) (w := (.long ((own_L3 (own_g xf rn) vf).getD 3 0))) rfl (g := (mkF m 148 #[.val (.ref ag), .val (.int r_), .val (.int (xf 0)), .val (.long (vf 0)), .second, .val (.int (xf 1)), .val (.long (vf 1)), .second, .val (.int (xf 2)), .val (.long (vf 2)), .second, .val (.ref b74), .val (.int t3)] [(.int (3 : Int32)), (.ref ag)])) rfl rfl (hb hby own_d_m7_148)) ?_
      refine own_st (T' := T81) (g' := (mkF m 151 #[.val (.ref ag), .val (.int r_), .val (.int (xf 0)), .val (.long (vf 0)), .second, .val (.int (xf 1)), .val (.long (vf 1)), .second, .val (.int (xf 2)), .val (.long (vf 2)), .second, .val (.ref b74), .val (.int t3)] [(.ref b74), (.long ((own_L3 (own_g xf rn) vf).getD 3 0))])) (fun _ zq => XS.aload X81.here hx rfl (hb hby own_d_m7_149) rfl rfl zq) ?_
      refine own_st (T' := T81) (g' := (mkF m 152 #[.val (.ref ag), .val (.int r_), .val (.int (xf 0)), .val (.long (vf 0)), .second, .val (.int (xf 1)), .val (.long (vf 1)), .second, .val (.int (xf 2)), .val (.long (vf 2)), .second, .val (.ref b74), .val (.int t3)] [(.int (3 : Int32)), (.ref b74), (.long ((own_L3 (own_g xf rn) vf).getD 3 0))])) (fun _ zq => XS.iconst X81.here hx rfl (hb hby own_d_m7_151) zq) ?_
      refine own_st (T' := T81) (g' := (mkF m 153 #[.val (.ref ag), .val (.int r_), .val (.int (xf 0)), .val (.long (vf 0)), .second, .val (.int (xf 1)), .val (.long (vf 1)), .second, .val (.int (xf 2)), .val (.long (vf 2)), .second, .val (.ref b74), .val (.int t3)] [(.long ((own_L3 (own_g xf rn) vf).getD 3 0)), (.long ((own_L3 (own_g xf rn) vf).getD 3 0))])) (own_ldJ X81 hx hZ e81 V_b74 (j := (3 : Int32)) (3) rfl (by omega) (w := (.long ((own_L3 (own_g xf rn) vf).getD 3 0))) (hf3 3 (by omega)) (g := (mkF m 152 #[.val (.ref ag), .val (.int r_), .val (.int (xf 0)), .val (.long (vf 0)), .second, .val (.int (xf 1)), .val (.long (vf 1)), .second, .val (.int (xf 2)), .val (.long (vf 2)), .second, .val (.ref b74), .val (.int t3)] [(.int (3 : Int32)), (.ref b74), (.long ((own_L3 (own_g xf rn) vf).getD 3 0))])) rfl rfl (hb hby own_d_m7_152)) ?_
      refine own_st (T' := T81) (g' := (mkF m 154 #[.val (.ref ag), .val (.int r_), .val (.int (xf 0)), .val (.long (vf 0)), .second, .val (.int (xf 1)), .val (.long (vf 1)), .second, .val (.int (xf 2)), .val (.long (vf 2)), .second, .val (.ref b74), .val (.int t3)] [(.int (lcmpW ((own_L3 (own_g xf rn) vf).getD 3 0) ((own_L3 (own_g xf rn) vf).getD 3 0)))])) (fun _ zq => XS.lcmp X81.here hx rfl (hb hby own_d_m7_153) rfl zq) ?_
      refine own_st (T' := T81) (g' := (mkF m 157 #[.val (.ref ag), .val (.int r_), .val (.int (xf 0)), .val (.long (vf 0)), .second, .val (.int (xf 1)), .val (.long (vf 1)), .second, .val (.int (xf 2)), .val (.long (vf 2)), .second, .val (.ref b74), .val (.int t3)] [])) (fun _ zq => XS.ifNo X81.here hx rfl (hb hby own_d_m7_154) rfl (own_lteq rfl).2 zq) ?_
      exact J157
  refine own_st (T' := T81) (g' := (mkF m 159 #[.val (.ref ag), .val (.int r_), .val (.int (xf 0)), .val (.long (vf 0)), .second, .val (.int (xf 1)), .val (.long (vf 1)), .second, .val (.int (xf 2)), .val (.long (vf 2)), .second, .val (.ref b74), .val (.int t3)] [(.int t3)])) (fun _ zq => XS.iload X81.here hx rfl (hb hby own_d_m7_157) rfl zq) ?_
  refine own_st (T' := T81) (g' := (mkF m 161 #[.val (.ref ag), .val (.int r_), .val (.int (xf 0)), .val (.long (vf 0)), .second, .val (.int (xf 1)), .val (.long (vf 1)), .second, .val (.int (xf 2)), .val (.long (vf 2)), .second, .val (.ref b74), .val (.int t3)] [(.int (6 : Int32)), (.int t3)])) (fun _ zq => XS.bipush X81.here hx rfl (hb hby own_d_m7_159) zq) ?_
  suffices J186 : own_Go p e below s (Q_check Z ag r_ rn xf vf h0 n0) ({ frames := 0, cells := 1, slots := 6, locals := 0 } : Room).cells ({ frames := 0, cells := 1, slots := 6, locals := 0 } : Room).slots T81 (mkF m 186 #[.val (.ref ag), .val (.int r_), .val (.int (xf 0)), .val (.long (vf 0)), .second, .val (.int (xf 1)), .val (.long (vf 1)), .second, .val (.int (xf 2)), .val (.long (vf 2)), .second, .val (.ref b74), .val (.int t3)] []) by
    by_cases hn : t3 < (6 : Int32)
    · skip
      refine own_st (T' := T81) (g' := (mkF m 186 #[.val (.ref ag), .val (.int r_), .val (.int (xf 0)), .val (.long (vf 0)), .second, .val (.int (xf 1)), .val (.long (vf 1)), .second, .val (.int (xf 2)), .val (.long (vf 2)), .second, .val (.ref b74), .val (.int t3)] [])) (fun _ zq => XS.icmpYes X81.here hx rfl (pc0 := 161) (pc' := 186) rfl (hb hby own_d_m7_161) rfl (tlt hn).1 (by decide) (by decide) zq) ?_
      exact J186
    · skip
      refine own_st (T' := T81) (g' := (mkF m 164 #[.val (.ref ag), .val (.int r_), .val (.int (xf 0)), .val (.long (vf 0)), .second, .val (.int (xf 1)), .val (.long (vf 1)), .second, .val (.int (xf 2)), .val (.long (vf 2)), .second, .val (.ref b74), .val (.int t3)] [])) (fun _ zq => XS.icmpNo X81.here hx rfl (hb hby own_d_m7_161) rfl (flt hn).1 zq) ?_
      refine own_st (T' := T81) (g' := (mkF m 165 #[.val (.ref ag), .val (.int r_), .val (.int (xf 0)), .val (.long (vf 0)), .second, .val (.int (xf 1)), .val (.long (vf 1)), .second, .val (.int (xf 2)), .val (.long (vf 2)), .second, .val (.ref b74), .val (.int t3)] [(.ref ag)])) (fun _ zq => XS.aloadN X81.here hx rfl (hb hby own_d_m7_164) rfl rfl zq) ?_
      refine own_st (T' := T81) (g' := (mkF m 166 #[.val (.ref ag), .val (.int r_), .val (.int (xf 0)), .val (.long (vf 0)), .second, .val (.int (xf 1)), .val (.long (vf 1)), .second, .val (.int (xf 2)), .val (.long (vf 2)), .second, .val (.ref b74), .val (.int t3)] [(.int (4 : Int32)), (.ref ag)])) (fun _ zq => XS.iconst X81.here hx rfl (hb hby own_d_m7_165) zq) ?_
      have hbn : 6 ≤ (own_L3 (own_g xf rn) vf).length := own_ge (a := 6) rfl hp3 hn
      refine own_st (T' := T81) (g' := (mkF m 167 #[.val (.ref ag), .val (.int r_), .val (.int (xf 0)), .val (.long (vf 0)), .second, .val (.int (xf 1)), .val (.long (vf 1)), .second, .val (.int (xf 2)), .val (.long (vf 2)), .second, .val (.ref b74), .val (.int t3)] [(.long ((own_L3 (own_g xf rn) vf).getD 4 0))])) (own_ldJ X81 hx hZ e81 V_g (j := (4 : Int32)) (4) rfl (by omega) (w := (.long ((own_L3 (own_g xf rn) vf).getD 4 0))) rfl (g := (mkF m 166 #[.val (.ref ag), .val (.int r_), .val (.int (xf 0)), .val (.long (vf 0)), .second, .val (.int (xf 1)), .val (.long (vf 1)), .second, .val (.int (xf 2)), .val (.long (vf 2)), .second, .val (.ref b74), .val (.int t3)] [(.int (4 : Int32)), (.ref ag)])) rfl rfl (hb hby own_d_m7_166)) ?_
      refine own_st (T' := T81) (g' := (mkF m 169 #[.val (.ref ag), .val (.int r_), .val (.int (xf 0)), .val (.long (vf 0)), .second, .val (.int (xf 1)), .val (.long (vf 1)), .second, .val (.int (xf 2)), .val (.long (vf 2)), .second, .val (.ref b74), .val (.int t3)] [(.ref b74), (.long ((own_L3 (own_g xf rn) vf).getD 4 0))])) (fun _ zq => XS.aload X81.here hx rfl (hb hby own_d_m7_167) rfl rfl zq) ?_
      refine own_st (T' := T81) (g' := (mkF m 170 #[.val (.ref ag), .val (.int r_), .val (.int (xf 0)), .val (.long (vf 0)), .second, .val (.int (xf 1)), .val (.long (vf 1)), .second, .val (.int (xf 2)), .val (.long (vf 2)), .second, .val (.ref b74), .val (.int t3)] [(.int (4 : Int32)), (.ref b74), (.long ((own_L3 (own_g xf rn) vf).getD 4 0))])) (fun _ zq => XS.iconst X81.here hx rfl (hb hby own_d_m7_169) zq) ?_
      refine own_st (T' := T81) (g' := (mkF m 171 #[.val (.ref ag), .val (.int r_), .val (.int (xf 0)), .val (.long (vf 0)), .second, .val (.int (xf 1)), .val (.long (vf 1)), .second, .val (.int (xf 2)), .val (.long (vf 2)), .second, .val (.ref b74), .val (.int t3)] [(.long ((own_L3 (own_g xf rn) vf).getD 4 0)), (.long ((own_L3 (own_g xf rn) vf).getD 4 0))])) (own_ldJ X81 hx hZ e81 V_b74 (j := (4 : Int32)) (4) rfl (by omega) (w := (.long ((own_L3 (own_g xf rn) vf).getD 4 0))) (hf3 4 (by omega)) (g := (mkF m 170 #[.val (.ref ag), .val (.int r_), .val (.int (xf 0)), .val (.long (vf 0)), .second, .val (.int (xf 1)), .val (.long (vf 1)), .second, .val (.int (xf 2)), .val (.long (vf 2)), .second, .val (.ref b74), .val (.int t3)] [(.int (4 : Int32)), (.ref b74), (.long ((own_L3 (own_g xf rn) vf).getD 4 0))])) rfl rfl (hb hby own_d_m7_170)) ?_
      refine own_st (T' := T81) (g' := (mkF m 172 #[.val (.ref ag), .val (.int r_), .val (.int (xf 0)), .val (.long (vf 0)), .second, .val (.int (xf 1)), .val (.long (vf 1)), .second, .val (.int (xf 2)), .val (.long (vf 2)), .second, .val (.ref b74), .val (.int t3)] [(.int (lcmpW ((own_L3 (own_g xf rn) vf).getD 4 0) ((own_L3 (own_g xf rn) vf).getD 4 0)))])) (fun _ zq => XS.lcmp X81.here hx rfl (hb hby own_d_m7_171) rfl zq) ?_
      refine own_st (T' := T81) (g' := (mkF m 175 #[.val (.ref ag), .val (.int r_), .val (.int (xf 0)), .val (.long (vf 0)), .second, .val (.int (xf 1)), .val (.long (vf 1)), .second, .val (.int (xf 2)), .val (.long (vf 2)), .second, .val (.ref b74), .val (.int t3)] [])) (fun _ zq => XS.ifNo X81.here hx rfl (hb hby own_d_m7_172) rfl (own_lteq rfl).2 zq) ?_
      refine own_st (T' := T81) (g' := (mkF m 176 #[.val (.ref ag), .val (.int r_), .val (.int (xf 0)), .val (.long (vf 0)), .second, .val (.int (xf 1)), .val (.long (vf 1)), .second, .val (.int (xf 2)), .val (.long (vf 2)), .second, .val (.ref b74), .val (.int t3)] [(.ref ag)])) (fun _ zq => XS.aloadN X81.here hx rfl (hb hby own_d_m7_175) rfl rfl zq) ?_
      refine own_st (T' := T81) (g' := (mkF m 177 #[.val (.ref ag), .val (.int r_), .val (.int (xf 0)), .val (.long (vf 0)), .second, .val (.int (xf 1)), .val (.long (vf 1)), .second, .val (.int (xf 2)), .val (.long (vf 2)), .second, .val (.ref b74), .val (.int t3)] [(.int (5 : Int32)), (.ref ag)])) (fun _ zq => XS.iconst X81.here hx rfl (hb hby own_d_m7_176) zq) ?_
      refine own_st (T' := T81) (g' := (mkF m 178 #[.val (.ref ag), .val (.int r_), .val (.int (xf 0)), .val (.long (vf 0)), .second, .val (.int (xf 1)), .val (.long (vf 1)), .second, .val (.int (xf 2)), .val (.long (vf 2)), .second, .val (.ref b74), .val (.int t3)] [(.long ((own_L3 (own_g xf rn) vf).getD 5 0))])) (own_ldJ X81 hx hZ e81 V_g (j := (5 : Int32)) (5) rfl (by omega) (w := (.long ((own_L3 (own_g xf rn) vf).getD 5 0))) rfl (g := (mkF m 177 #[.val (.ref ag), .val (.int r_), .val (.int (xf 0)), .val (.long (vf 0)), .second, .val (.int (xf 1)), .val (.long (vf 1)), .second, .val (.int (xf 2)), .val (.long (vf 2)), .second, .val (.ref b74), .val (.int t3)] [(.int (5 : Int32)), (.ref ag)])) rfl rfl (hb hby own_d_m7_177)) ?_
      refine own_st (T' := T81) (g' := (mkF m 180 #[.val (.ref ag), .val (.int r_), .val (.int (xf 0)), .val (.long (vf 0)), .second, .val (.int (xf 1)), .val (.long (vf 1)), .second, .val (.int (xf 2)), .val (.long (vf 2)), .second, .val (.ref b74), .val (.int t3)] [(.ref b74), (.long ((own_L3 (own_g xf rn) vf).getD 5 0))])) (fun _ zq => XS.aload X81.here hx rfl (hb hby own_d_m7_178) rfl rfl zq) ?_
      refine own_st (T' := T81) (g' := (mkF m 181 #[.val (.ref ag), .val (.int r_), .val (.int (xf 0)), .val (.long (vf 0)), .second, .val (.int (xf 1)), .val (.long (vf 1)), .second, .val (.int (xf 2)), .val (.long (vf 2)), .second, .val (.ref b74), .val (.int t3)] [(.int (5 : Int32)), (.ref b74), (.long ((own_L3 (own_g xf rn) vf).getD 5 0))])) (fun _ zq => XS.iconst X81.here hx rfl (hb hby own_d_m7_180) zq) ?_
      refine own_st (T' := T81) (g' := (mkF m 182 #[.val (.ref ag), .val (.int r_), .val (.int (xf 0)), .val (.long (vf 0)), .second, .val (.int (xf 1)), .val (.long (vf 1)), .second, .val (.int (xf 2)), .val (.long (vf 2)), .second, .val (.ref b74), .val (.int t3)] [(.long ((own_L3 (own_g xf rn) vf).getD 5 0)), (.long ((own_L3 (own_g xf rn) vf).getD 5 0))])) (own_ldJ X81 hx hZ e81 V_b74 (j := (5 : Int32)) (5) rfl (by omega) (w := (.long ((own_L3 (own_g xf rn) vf).getD 5 0))) (hf3 5 (by omega)) (g := (mkF m 181 #[.val (.ref ag), .val (.int r_), .val (.int (xf 0)), .val (.long (vf 0)), .second, .val (.int (xf 1)), .val (.long (vf 1)), .second, .val (.int (xf 2)), .val (.long (vf 2)), .second, .val (.ref b74), .val (.int t3)] [(.int (5 : Int32)), (.ref b74), (.long ((own_L3 (own_g xf rn) vf).getD 5 0))])) rfl rfl (hb hby own_d_m7_181)) ?_
      refine own_st (T' := T81) (g' := (mkF m 183 #[.val (.ref ag), .val (.int r_), .val (.int (xf 0)), .val (.long (vf 0)), .second, .val (.int (xf 1)), .val (.long (vf 1)), .second, .val (.int (xf 2)), .val (.long (vf 2)), .second, .val (.ref b74), .val (.int t3)] [(.int (lcmpW ((own_L3 (own_g xf rn) vf).getD 5 0) ((own_L3 (own_g xf rn) vf).getD 5 0)))])) (fun _ zq => XS.lcmp X81.here hx rfl (hb hby own_d_m7_182) rfl zq) ?_
      refine own_st (T' := T81) (g' := (mkF m 186 #[.val (.ref ag), .val (.int r_), .val (.int (xf 0)), .val (.long (vf 0)), .second, .val (.int (xf 1)), .val (.long (vf 1)), .second, .val (.int (xf 2)), .val (.long (vf 2)), .second, .val (.ref b74), .val (.int t3)] [])) (fun _ zq => XS.ifNo X81.here hx rfl (hb hby own_d_m7_183) rfl (own_lteq rfl).2 zq) ?_
      exact J186
  refine own_st (T' := T81) (g' := (mkF m 187 #[.val (.ref ag), .val (.int r_), .val (.int (xf 0)), .val (.long (vf 0)), .second, .val (.int (xf 1)), .val (.long (vf 1)), .second, .val (.int (xf 2)), .val (.long (vf 2)), .second, .val (.ref b74), .val (.int t3)] [(.int (1 : Int32))])) (fun _ zq => XS.iconst X81.here hx rfl (hb hby own_d_m7_186) zq) ?_
  refine own_st (T' := T81) (g' := (mkF m 191 #[.val (.ref ag), .val (.int r_), .val (.int (xf 0)), .val (.long (vf 0)), .second, .val (.int (xf 1)), .val (.long (vf 1)), .second, .val (.int (xf 2)), .val (.long (vf 2)), .second, .val (.ref b74), .val (.int t3)] [(.int (1 : Int32))])) (fun _ zq => XS.goto X81.here hx rfl (pc0 := 187) (pc' := 191) rfl (hb hby own_d_m7_187) (by decide) (by decide) zq) ?_
  exact own_ret X81 hx hret hlk (i := .ireturn) rfl (Or.inl ⟨rfl, by decide, _, rfl⟩) (hb hby own_d_m7_191) e81 (Nat.le_of_ble_eq_true rfl) (Nat.le_of_ble_eq_true rfl) ⟨rfl, N81, K81⟩
def Q_law (Z : State) (se : Int32) (va : Int64) (vb : Int64) (vc : Int64) (aN : Addr) (fN : Nat → Value) (h0 : Heap) (n0 : Nat) (v : Option Value) (h : Heap) (L : List Loc) : Prop := v = some (.int 1) ∧ Fr n0 L
theorem ef_law (m : MethodId) (x0 : Int32) (x1 : Int64) (x2 : Int64) (x3 : Int64)  : entryFrame m #[(.int x0), (.long x1), (.long x2), (.long x3)] maxLocals = mkF m 0 #[.val (.int x0), .val (.long x1), .second, .val (.long x2), .second, .val (.long x3), .second, .unset, .unset, .unset, .unset, .unset, .unset, .unset, .unset, .unset, .unset, .unset, .unset, .unset, .unset, .unset, .unset, .unset, .unset, .unset, .unset, .unset, .unset, .unset, .unset, .unset] [] := by first | (simp [entryFrame, mkF, argsToLocals, Value.category, maxLocals]; done) | rfl
set_option maxRecDepth 65536 in
set_option maxHeartbeats 40000000 in
theorem rm_law (l : Launch) (Z : State) (a0 : Array Value) (hw : ∀ d ∈ tables_1, d.before a0 Z = true) (ws : List Jvm.Cond) (se : Int32) (va : Int64) (vb : Int64) (vc : Int64) (aN : Addr) (fN : Nat → Value) (h0 : Heap) (n0 : Nat) (Zs : n0 ≤ h0.size) (O : Old Z n0 h0) (S0 : Sta Z Z.heap "com/example/coterie/coterie/runtime/KnownRequests" "NOTHING_NEW" "[J" (.ref aN)) (VN : own_AV Z Z.heap aN .long 0 fN) :
    MetFree l x (head1 (Jvm.Cond.code x code maxLocals ret :: ws) room_1) (fun a U => a = #[(.int se), (.long va), (.long vb), (.long vc)] ∧ Z.Warmed39 U.vm ∧ U.heap = h0) (fun _ _ _ _ _ => True) (fun _ U o U' => ∃ v L, o = .returned v ∧ (Q_law Z se va vb vc aN fN h0 n0) v U'.heap L ∧ FrameEnd U o U' L 32 192) := by
  refine MetFree.of_bodySF (plainFor_of_name own_pn2) hisR ?_
  intro p e s m args below meth c s₁ Bd hml0 hP hK
  obtain ⟨rfl, hZ, hh⟩ := hP
  have hx := Bd.exec
  have hby := Bd.bytes
  have hlk := BodyLoose.notSynchronized Bd
  have hret := Bd.returns
  have hml : c.maxLocals = 32 := hml0
  have hown : s.vm.findClass "com/example/coterie/coterie/runtime/KnownRequestsLearnPinLaw" = some m.cls := findClass_of_methodNamed Bd.named
  have hnm := (name_of_methodNamed Bd.named Bd.method).1
  have X : Stand p l e room_1 s m #[(.int se), (.long va), (.long vb), (.long vc)] below meth c s₁ [] 0 0 := Stand.of_body Bd
  have eT : s₁.heap = h0 := by rw [← hh, Bd.state]; rfl
  have N := Fr.nil n0
  have K0 : Keep h0 h0 [] := Keep.refl _ _
  show own_Go p e below s (Q_law Z se va vb vc aN fN h0 n0) 32 192 s₁ (entryFrame m #[(.int se), (.long va), (.long vb), (.long vc)] maxLocals)
  rw [ef_law m se va vb vc]
  refine own_st (T' := s₁) (g' := (mkF m 1 #[.val (.int se), .val (.long va), .second, .val (.long vb), .second, .val (.long vc), .second, .unset, .unset, .unset, .unset, .unset, .unset, .unset, .unset, .unset, .unset, .unset, .unset, .unset, .unset, .unset, .unset, .unset, .unset, .unset, .unset, .unset, .unset, .unset, .unset, .unset] [(.int se)])) (fun _ zq => XS.iloadN X.here hx rfl (hb hby at_0) rfl zq) ?_
  refine own_st (T' := s₁) (g' := (mkF m 3 #[.val (.int se), .val (.long va), .second, .val (.long vb), .second, .val (.long vc), .second, .unset, .unset, .unset, .unset, .unset, .unset, .unset, .unset, .unset, .unset, .unset, .unset, .unset, .unset, .unset, .unset, .unset, .unset, .unset, .unset, .unset, .unset, .unset, .unset, .unset] [(.int (8 : Int32)), (.int se)])) (fun _ zq => XS.bipush X.here hx rfl (hb hby at_1) zq) ?_
  refine own_st (T' := s₁) (g' := (mkF m 4 #[.val (.int se), .val (.long va), .second, .val (.long vb), .second, .val (.long vc), .second, .unset, .unset, .unset, .unset, .unset, .unset, .unset, .unset, .unset, .unset, .unset, .unset, .unset, .unset, .unset, .unset, .unset, .unset, .unset, .unset, .unset, .unset, .unset, .unset, .unset] [(.int ((se.toUInt32 >>> ((8 : Int32) &&& 31).toUInt32).toInt32))])) (fun _ zq => XS.iushr X.here hx rfl (hb hby at_3) rfl zq) ?_
  refine own_st (T' := s₁) (g' := (mkF m 7 #[.val (.int se), .val (.long va), .second, .val (.long vb), .second, .val (.long vc), .second, .unset, .unset, .unset, .unset, .unset, .unset, .unset, .unset, .unset, .unset, .unset, .unset, .unset, .unset, .unset, .unset, .unset, .unset, .unset, .unset, .unset, .unset, .unset, .unset, .unset] [(.int (255 : Int32)), (.int ((se.toUInt32 >>> ((8 : Int32) &&& 31).toUInt32).toInt32))])) (fun _ zq => XS.sipush X.here hx rfl (hb hby at_4) zq) ?_
  refine own_st (T' := s₁) (g' := (mkF m 8 #[.val (.int se), .val (.long va), .second, .val (.long vb), .second, .val (.long vc), .second, .unset, .unset, .unset, .unset, .unset, .unset, .unset, .unset, .unset, .unset, .unset, .unset, .unset, .unset, .unset, .unset, .unset, .unset, .unset, .unset, .unset, .unset, .unset, .unset, .unset] [(.int (((se.toUInt32 >>> ((8 : Int32) &&& 31).toUInt32).toInt32) &&& (255 : Int32)))])) (fun _ zq => XS.iand X.here hx rfl (hb hby at_7) rfl zq) ?_
  refine own_st (T' := s₁) (g' := (mkF m 9 #[.val (.int se), .val (.long va), .second, .val (.long vb), .second, .val (.long vc), .second, .unset, .unset, .unset, .unset, .unset, .unset, .unset, .unset, .unset, .unset, .unset, .unset, .unset, .unset, .unset, .unset, .unset, .unset, .unset, .unset, .unset, .unset, .unset, .unset, .unset] [(.int (3 : Int32)), (.int (((se.toUInt32 >>> ((8 : Int32) &&& 31).toUInt32).toInt32) &&& (255 : Int32)))])) (fun _ zq => XS.iconst X.here hx rfl (hb hby at_8) zq) ?_
  refine own_st (T' := s₁) (g' := (mkF m 10 #[.val (.int se), .val (.long va), .second, .val (.long vb), .second, .val (.long vc), .second, .unset, .unset, .unset, .unset, .unset, .unset, .unset, .unset, .unset, .unset, .unset, .unset, .unset, .unset, .unset, .unset, .unset, .unset, .unset, .unset, .unset, .unset, .unset, .unset, .unset] [(.int ((((se.toUInt32 >>> ((8 : Int32) &&& 31).toUInt32).toInt32) &&& (255 : Int32)) % (3 : Int32)))])) (fun _ zq => iremM (g := (mkF m 9 #[.val (.int se), .val (.long va), .second, .val (.long vb), .second, .val (.long vc), .second, .unset, .unset, .unset, .unset, .unset, .unset, .unset, .unset, .unset, .unset, .unset, .unset, .unset, .unset, .unset, .unset, .unset, .unset, .unset, .unset, .unset, .unset, .unset, .unset, .unset] [(.int (3 : Int32)), (.int (((se.toUInt32 >>> ((8 : Int32) &&& 31).toUInt32).toInt32) &&& (255 : Int32)))])) X hx rfl (hb hby at_9) rfl (by decide) zq) ?_
  refine own_nm (f := fun z_ => (mkF m 10 #[.val (.int se), .val (.long va), .second, .val (.long vb), .second, .val (.long vc), .second, .unset, .unset, .unset, .unset, .unset, .unset, .unset, .unset, .unset, .unset, .unset, .unset, .unset, .unset, .unset, .unset, .unset, .unset, .unset, .unset, .unset, .unset, .unset, .unset, .unset] [(.int z_)])) ((((se.toUInt32 >>> ((8 : Int32) &&& 31).toUInt32).toInt32) &&& (255 : Int32)) % (3 : Int32)) (fun sf hsf0 => ?_)
  show own_Go p e below s (Q_law Z se va vb vc aN fN h0 n0) 32 192 s₁ (mkF m 10 #[.val (.int se), .val (.long va), .second, .val (.long vb), .second, .val (.long vc), .second, .unset, .unset, .unset, .unset, .unset, .unset, .unset, .unset, .unset, .unset, .unset, .unset, .unset, .unset, .unset, .unset, .unset, .unset, .unset, .unset, .unset, .unset, .unset, .unset, .unset] [(.int sf)])
  obtain ⟨sn, hs, hls⟩ := own_rem3 _ sf hsf0
  refine own_st (T' := s₁) (g' := (mkF m 12 #[.val (.int se), .val (.long va), .second, .val (.long vb), .second, .val (.long vc), .second, .val (.int sf), .unset, .unset, .unset, .unset, .unset, .unset, .unset, .unset, .unset, .unset, .unset, .unset, .unset, .unset, .unset, .unset, .unset, .unset, .unset, .unset, .unset, .unset, .unset, .unset] [])) (fun _ zq => XS.istore X.here hx rfl (hb hby at_10) rfl (l' := #[.val (.int se), .val (.long va), .second, .val (.long vb), .second, .val (.long vc), .second, .val (.int sf), .unset, .unset, .unset, .unset, .unset, .unset, .unset, .unset, .unset, .unset, .unset, .unset, .unset, .unset, .unset, .unset, .unset, .unset, .unset, .unset, .unset, .unset, .unset, .unset]) rfl zq) ?_
  refine own_st (T' := s₁) (g' := (mkF m 13 #[.val (.int se), .val (.long va), .second, .val (.long vb), .second, .val (.long vc), .second, .val (.int sf), .unset, .unset, .unset, .unset, .unset, .unset, .unset, .unset, .unset, .unset, .unset, .unset, .unset, .unset, .unset, .unset, .unset, .unset, .unset, .unset, .unset, .unset, .unset, .unset] [(.int se)])) (fun _ zq => XS.iloadN X.here hx rfl (hb hby at_12) rfl zq) ?_
  refine own_st (T' := s₁) (g' := (mkF m 14 #[.val (.int se), .val (.long va), .second, .val (.long vb), .second, .val (.long vc), .second, .val (.int sf), .unset, .unset, .unset, .unset, .unset, .unset, .unset, .unset, .unset, .unset, .unset, .unset, .unset, .unset, .unset, .unset, .unset, .unset, .unset, .unset, .unset, .unset, .unset, .unset] [(.int (1 : Int32)), (.int se)])) (fun _ zq => XS.iconst X.here hx rfl (hb hby at_13) zq) ?_
  refine own_st (T' := s₁) (g' := (mkF m 15 #[.val (.int se), .val (.long va), .second, .val (.long vb), .second, .val (.long vc), .second, .val (.int sf), .unset, .unset, .unset, .unset, .unset, .unset, .unset, .unset, .unset, .unset, .unset, .unset, .unset, .unset, .unset, .unset, .unset, .unset, .unset, .unset, .unset, .unset, .unset, .unset] [(.int (se &&& (1 : Int32)))])) (fun _ zq => XS.iand X.here hx rfl (hb hby at_14) rfl zq) ?_
  suffices J23 : ∀ (rq : Int32) (hrq : rq = 0 ∨ rq = 1), own_Go p e below s (Q_law Z se va vb vc aN fN h0 n0) 32 192 s₁ (mkF m 23 #[.val (.int se), .val (.long va), .second, .val (.long vb), .second, .val (.long vc), .second, .val (.int sf), .unset, .unset, .unset, .unset, .unset, .unset, .unset, .unset, .unset, .unset, .unset, .unset, .unset, .unset, .unset, .unset, .unset, .unset, .unset, .unset, .unset, .unset, .unset, .unset] [(.int rq)]) by
    by_cases hc : (se &&& (1 : Int32)) = (0 : Int32)
    · skip
      refine own_st (T' := s₁) (g' := (mkF m 22 #[.val (.int se), .val (.long va), .second, .val (.long vb), .second, .val (.long vc), .second, .val (.int sf), .unset, .unset, .unset, .unset, .unset, .unset, .unset, .unset, .unset, .unset, .unset, .unset, .unset, .unset, .unset, .unset, .unset, .unset, .unset, .unset, .unset, .unset, .unset, .unset] [])) (fun _ zq => XS.ifYes X.here hx rfl (pc0 := 15) (pc' := 22) rfl (hb hby at_15) rfl ((if0 _ _).trans (teq hc).1) (by decide) (by decide) zq) ?_
      refine own_st (T' := s₁) (g' := (mkF m 23 #[.val (.int se), .val (.long va), .second, .val (.long vb), .second, .val (.long vc), .second, .val (.int sf), .unset, .unset, .unset, .unset, .unset, .unset, .unset, .unset, .unset, .unset, .unset, .unset, .unset, .unset, .unset, .unset, .unset, .unset, .unset, .unset, .unset, .unset, .unset, .unset] [(.int (0 : Int32))])) (fun _ zq => XS.iconst X.here hx rfl (hb hby at_22) zq) ?_
      exact J23 _ (Or.inl rfl)
    · skip
      refine own_st (T' := s₁) (g' := (mkF m 18 #[.val (.int se), .val (.long va), .second, .val (.long vb), .second, .val (.long vc), .second, .val (.int sf), .unset, .unset, .unset, .unset, .unset, .unset, .unset, .unset, .unset, .unset, .unset, .unset, .unset, .unset, .unset, .unset, .unset, .unset, .unset, .unset, .unset, .unset, .unset, .unset] [])) (fun _ zq => XS.ifNo X.here hx rfl (hb hby at_15) rfl ((if0 _ _).trans (feq hc).1) zq) ?_
      refine own_st (T' := s₁) (g' := (mkF m 19 #[.val (.int se), .val (.long va), .second, .val (.long vb), .second, .val (.long vc), .second, .val (.int sf), .unset, .unset, .unset, .unset, .unset, .unset, .unset, .unset, .unset, .unset, .unset, .unset, .unset, .unset, .unset, .unset, .unset, .unset, .unset, .unset, .unset, .unset, .unset, .unset] [(.int (1 : Int32))])) (fun _ zq => XS.iconst X.here hx rfl (hb hby at_18) zq) ?_
      refine own_st (T' := s₁) (g' := (mkF m 23 #[.val (.int se), .val (.long va), .second, .val (.long vb), .second, .val (.long vc), .second, .val (.int sf), .unset, .unset, .unset, .unset, .unset, .unset, .unset, .unset, .unset, .unset, .unset, .unset, .unset, .unset, .unset, .unset, .unset, .unset, .unset, .unset, .unset, .unset, .unset, .unset] [(.int (1 : Int32))])) (fun _ zq => XS.goto X.here hx rfl (pc0 := 19) (pc' := 23) rfl (hb hby at_19) (by decide) (by decide) zq) ?_
      exact J23 _ (Or.inr rfl)
  intro rq hrq
  refine own_st (T' := s₁) (g' := (mkF m 25 #[.val (.int se), .val (.long va), .second, .val (.long vb), .second, .val (.long vc), .second, .val (.int sf), .val (.int rq), .unset, .unset, .unset, .unset, .unset, .unset, .unset, .unset, .unset, .unset, .unset, .unset, .unset, .unset, .unset, .unset, .unset, .unset, .unset, .unset, .unset, .unset, .unset] [])) (fun _ zq => XS.istore X.here hx rfl (hb hby at_23) rfl (l' := #[.val (.int se), .val (.long va), .second, .val (.long vb), .second, .val (.long vc), .second, .val (.int sf), .val (.int rq), .unset, .unset, .unset, .unset, .unset, .unset, .unset, .unset, .unset, .unset, .unset, .unset, .unset, .unset, .unset, .unset, .unset, .unset, .unset, .unset, .unset, .unset, .unset]) rfl zq) ?_
  refine own_st (T' := s₁) (g' := (mkF m 27 #[.val (.int se), .val (.long va), .second, .val (.long vb), .second, .val (.long vc), .second, .val (.int sf), .val (.int rq), .unset, .unset, .unset, .unset, .unset, .unset, .unset, .unset, .unset, .unset, .unset, .unset, .unset, .unset, .unset, .unset, .unset, .unset, .unset, .unset, .unset, .unset, .unset] [(.int sf)])) (fun _ zq => XS.iload X.here hx rfl (hb hby at_25) rfl zq) ?_
  refine own_st (T' := s₁) (g' := (mkF m 28 #[.val (.int se), .val (.long va), .second, .val (.long vb), .second, .val (.long vc), .second, .val (.int sf), .val (.int rq), .unset, .unset, .unset, .unset, .unset, .unset, .unset, .unset, .unset, .unset, .unset, .unset, .unset, .unset, .unset, .unset, .unset, .unset, .unset, .unset, .unset, .unset, .unset] [(.int (1 : Int32)), (.int sf)])) (fun _ zq => XS.iconst X.here hx rfl (hb hby at_27) zq) ?_
  refine own_st (T' := s₁) (g' := (mkF m 29 #[.val (.int se), .val (.long va), .second, .val (.long vb), .second, .val (.long vc), .second, .val (.int sf), .val (.int rq), .unset, .unset, .unset, .unset, .unset, .unset, .unset, .unset, .unset, .unset, .unset, .unset, .unset, .unset, .unset, .unset, .unset, .unset, .unset, .unset, .unset, .unset, .unset] [(.int (sf + (1 : Int32)))])) (fun _ zq => XS.iadd X.here hx rfl (hb hby at_28) rfl zq) ?_
  refine own_st (T' := s₁) (g' := (mkF m 30 #[.val (.int se), .val (.long va), .second, .val (.long vb), .second, .val (.long vc), .second, .val (.int sf), .val (.int rq), .unset, .unset, .unset, .unset, .unset, .unset, .unset, .unset, .unset, .unset, .unset, .unset, .unset, .unset, .unset, .unset, .unset, .unset, .unset, .unset, .unset, .unset, .unset] [(.int (3 : Int32)), (.int (sf + (1 : Int32)))])) (fun _ zq => XS.iconst X.here hx rfl (hb hby at_29) zq) ?_
  refine own_st (T' := s₁) (g' := (mkF m 31 #[.val (.int se), .val (.long va), .second, .val (.long vb), .second, .val (.long vc), .second, .val (.int sf), .val (.int rq), .unset, .unset, .unset, .unset, .unset, .unset, .unset, .unset, .unset, .unset, .unset, .unset, .unset, .unset, .unset, .unset, .unset, .unset, .unset, .unset, .unset, .unset, .unset] [(.int ((sf + (1 : Int32)) % (3 : Int32)))])) (fun _ zq => iremM (g := (mkF m 30 #[.val (.int se), .val (.long va), .second, .val (.long vb), .second, .val (.long vc), .second, .val (.int sf), .val (.int rq), .unset, .unset, .unset, .unset, .unset, .unset, .unset, .unset, .unset, .unset, .unset, .unset, .unset, .unset, .unset, .unset, .unset, .unset, .unset, .unset, .unset, .unset, .unset] [(.int (3 : Int32)), (.int (sf + (1 : Int32)))])) X hx rfl (hb hby at_30) rfl (by decide) zq) ?_
  refine own_nm (f := fun z_ => (mkF m 31 #[.val (.int se), .val (.long va), .second, .val (.long vb), .second, .val (.long vc), .second, .val (.int sf), .val (.int rq), .unset, .unset, .unset, .unset, .unset, .unset, .unset, .unset, .unset, .unset, .unset, .unset, .unset, .unset, .unset, .unset, .unset, .unset, .unset, .unset, .unset, .unset, .unset] [(.int z_)])) ((sf + (1 : Int32)) % (3 : Int32)) (fun o1 ho10 => ?_)
  show own_Go p e below s (Q_law Z se va vb vc aN fN h0 n0) 32 192 s₁ (mkF m 31 #[.val (.int se), .val (.long va), .second, .val (.long vb), .second, .val (.long vc), .second, .val (.int sf), .val (.int rq), .unset, .unset, .unset, .unset, .unset, .unset, .unset, .unset, .unset, .unset, .unset, .unset, .unset, .unset, .unset, .unset, .unset, .unset, .unset, .unset, .unset, .unset, .unset] [(.int o1)])
  refine own_st (T' := s₁) (g' := (mkF m 33 #[.val (.int se), .val (.long va), .second, .val (.long vb), .second, .val (.long vc), .second, .val (.int sf), .val (.int rq), .val (.int o1), .unset, .unset, .unset, .unset, .unset, .unset, .unset, .unset, .unset, .unset, .unset, .unset, .unset, .unset, .unset, .unset, .unset, .unset, .unset, .unset, .unset, .unset] [])) (fun _ zq => XS.istore X.here hx rfl (hb hby at_31) rfl (l' := #[.val (.int se), .val (.long va), .second, .val (.long vb), .second, .val (.long vc), .second, .val (.int sf), .val (.int rq), .val (.int o1), .unset, .unset, .unset, .unset, .unset, .unset, .unset, .unset, .unset, .unset, .unset, .unset, .unset, .unset, .unset, .unset, .unset, .unset, .unset, .unset, .unset, .unset]) rfl zq) ?_
  refine own_st (T' := s₁) (g' := (mkF m 35 #[.val (.int se), .val (.long va), .second, .val (.long vb), .second, .val (.long vc), .second, .val (.int sf), .val (.int rq), .val (.int o1), .unset, .unset, .unset, .unset, .unset, .unset, .unset, .unset, .unset, .unset, .unset, .unset, .unset, .unset, .unset, .unset, .unset, .unset, .unset, .unset, .unset, .unset] [(.int sf)])) (fun _ zq => XS.iload X.here hx rfl (hb hby at_33) rfl zq) ?_
  refine own_st (T' := s₁) (g' := (mkF m 36 #[.val (.int se), .val (.long va), .second, .val (.long vb), .second, .val (.long vc), .second, .val (.int sf), .val (.int rq), .val (.int o1), .unset, .unset, .unset, .unset, .unset, .unset, .unset, .unset, .unset, .unset, .unset, .unset, .unset, .unset, .unset, .unset, .unset, .unset, .unset, .unset, .unset, .unset] [(.int (2 : Int32)), (.int sf)])) (fun _ zq => XS.iconst X.here hx rfl (hb hby at_35) zq) ?_
  refine own_st (T' := s₁) (g' := (mkF m 37 #[.val (.int se), .val (.long va), .second, .val (.long vb), .second, .val (.long vc), .second, .val (.int sf), .val (.int rq), .val (.int o1), .unset, .unset, .unset, .unset, .unset, .unset, .unset, .unset, .unset, .unset, .unset, .unset, .unset, .unset, .unset, .unset, .unset, .unset, .unset, .unset, .unset, .unset] [(.int (sf + (2 : Int32)))])) (fun _ zq => XS.iadd X.here hx rfl (hb hby at_36) rfl zq) ?_
  refine own_st (T' := s₁) (g' := (mkF m 38 #[.val (.int se), .val (.long va), .second, .val (.long vb), .second, .val (.long vc), .second, .val (.int sf), .val (.int rq), .val (.int o1), .unset, .unset, .unset, .unset, .unset, .unset, .unset, .unset, .unset, .unset, .unset, .unset, .unset, .unset, .unset, .unset, .unset, .unset, .unset, .unset, .unset, .unset] [(.int (3 : Int32)), (.int (sf + (2 : Int32)))])) (fun _ zq => XS.iconst X.here hx rfl (hb hby at_37) zq) ?_
  refine own_st (T' := s₁) (g' := (mkF m 39 #[.val (.int se), .val (.long va), .second, .val (.long vb), .second, .val (.long vc), .second, .val (.int sf), .val (.int rq), .val (.int o1), .unset, .unset, .unset, .unset, .unset, .unset, .unset, .unset, .unset, .unset, .unset, .unset, .unset, .unset, .unset, .unset, .unset, .unset, .unset, .unset, .unset, .unset] [(.int ((sf + (2 : Int32)) % (3 : Int32)))])) (fun _ zq => iremM (g := (mkF m 38 #[.val (.int se), .val (.long va), .second, .val (.long vb), .second, .val (.long vc), .second, .val (.int sf), .val (.int rq), .val (.int o1), .unset, .unset, .unset, .unset, .unset, .unset, .unset, .unset, .unset, .unset, .unset, .unset, .unset, .unset, .unset, .unset, .unset, .unset, .unset, .unset, .unset, .unset] [(.int (3 : Int32)), (.int (sf + (2 : Int32)))])) X hx rfl (hb hby at_38) rfl (by decide) zq) ?_
  refine own_nm (f := fun z_ => (mkF m 39 #[.val (.int se), .val (.long va), .second, .val (.long vb), .second, .val (.long vc), .second, .val (.int sf), .val (.int rq), .val (.int o1), .unset, .unset, .unset, .unset, .unset, .unset, .unset, .unset, .unset, .unset, .unset, .unset, .unset, .unset, .unset, .unset, .unset, .unset, .unset, .unset, .unset, .unset] [(.int z_)])) ((sf + (2 : Int32)) % (3 : Int32)) (fun o2 ho20 => ?_)
  show own_Go p e below s (Q_law Z se va vb vc aN fN h0 n0) 32 192 s₁ (mkF m 39 #[.val (.int se), .val (.long va), .second, .val (.long vb), .second, .val (.long vc), .second, .val (.int sf), .val (.int rq), .val (.int o1), .unset, .unset, .unset, .unset, .unset, .unset, .unset, .unset, .unset, .unset, .unset, .unset, .unset, .unset, .unset, .unset, .unset, .unset, .unset, .unset, .unset, .unset] [(.int o2)])
  obtain ⟨o1n, ho1, hl1, o2n, ho2, hl2⟩ := own_oo hs hls ho10 ho20
  have hoo : o1n ≠ o2n := own_od hs hls ho10 ho20 ho1 ho2
  refine own_st (T' := s₁) (g' := (mkF m 41 #[.val (.int se), .val (.long va), .second, .val (.long vb), .second, .val (.long vc), .second, .val (.int sf), .val (.int rq), .val (.int o1), .val (.int o2), .unset, .unset, .unset, .unset, .unset, .unset, .unset, .unset, .unset, .unset, .unset, .unset, .unset, .unset, .unset, .unset, .unset, .unset, .unset, .unset, .unset] [])) (fun _ zq => XS.istore X.here hx rfl (hb hby at_39) rfl (l' := #[.val (.int se), .val (.long va), .second, .val (.long vb), .second, .val (.long vc), .second, .val (.int sf), .val (.int rq), .val (.int o1), .val (.int o2), .unset, .unset, .unset, .unset, .unset, .unset, .unset, .unset, .unset, .unset, .unset, .unset, .unset, .unset, .unset, .unset, .unset, .unset, .unset, .unset, .unset]) rfl zq) ?_
  refine own_st (T' := s₁) (g' := (mkF m 42 #[.val (.int se), .val (.long va), .second, .val (.long vb), .second, .val (.long vc), .second, .val (.int sf), .val (.int rq), .val (.int o1), .val (.int o2), .unset, .unset, .unset, .unset, .unset, .unset, .unset, .unset, .unset, .unset, .unset, .unset, .unset, .unset, .unset, .unset, .unset, .unset, .unset, .unset, .unset] [(.int se)])) (fun _ zq => XS.iloadN X.here hx rfl (hb hby at_41) rfl zq) ?_
  refine own_st (T' := s₁) (g' := (mkF m 43 #[.val (.int se), .val (.long va), .second, .val (.long vb), .second, .val (.long vc), .second, .val (.int sf), .val (.int rq), .val (.int o1), .val (.int o2), .unset, .unset, .unset, .unset, .unset, .unset, .unset, .unset, .unset, .unset, .unset, .unset, .unset, .unset, .unset, .unset, .unset, .unset, .unset, .unset, .unset] [(.int (2 : Int32)), (.int se)])) (fun _ zq => XS.iconst X.here hx rfl (hb hby at_42) zq) ?_
  refine own_st (T' := s₁) (g' := (mkF m 44 #[.val (.int se), .val (.long va), .second, .val (.long vb), .second, .val (.long vc), .second, .val (.int sf), .val (.int rq), .val (.int o1), .val (.int o2), .unset, .unset, .unset, .unset, .unset, .unset, .unset, .unset, .unset, .unset, .unset, .unset, .unset, .unset, .unset, .unset, .unset, .unset, .unset, .unset, .unset] [(.int (se &&& (2 : Int32)))])) (fun _ zq => XS.iand X.here hx rfl (hb hby at_43) rfl zq) ?_
  suffices J54 : ∀ (m1 : Int32) (m1n : Nat) (hm1 : m1.toInt = (m1n : Int)) (hlm1 : m1n < 3 ∧ m1n ≠ sn), own_Go p e below s (Q_law Z se va vb vc aN fN h0 n0) 32 192 s₁ (mkF m 54 #[.val (.int se), .val (.long va), .second, .val (.long vb), .second, .val (.long vc), .second, .val (.int sf), .val (.int rq), .val (.int o1), .val (.int o2), .unset, .unset, .unset, .unset, .unset, .unset, .unset, .unset, .unset, .unset, .unset, .unset, .unset, .unset, .unset, .unset, .unset, .unset, .unset, .unset, .unset] [(.int m1)]) by
    by_cases hc : (se &&& (2 : Int32)) = (0 : Int32)
    · skip
      refine own_st (T' := s₁) (g' := (mkF m 52 #[.val (.int se), .val (.long va), .second, .val (.long vb), .second, .val (.long vc), .second, .val (.int sf), .val (.int rq), .val (.int o1), .val (.int o2), .unset, .unset, .unset, .unset, .unset, .unset, .unset, .unset, .unset, .unset, .unset, .unset, .unset, .unset, .unset, .unset, .unset, .unset, .unset, .unset, .unset] [])) (fun _ zq => XS.ifYes X.here hx rfl (pc0 := 44) (pc' := 52) rfl (hb hby at_44) rfl ((if0 _ _).trans (teq hc).1) (by decide) (by decide) zq) ?_
      refine own_st (T' := s₁) (g' := (mkF m 54 #[.val (.int se), .val (.long va), .second, .val (.long vb), .second, .val (.long vc), .second, .val (.int sf), .val (.int rq), .val (.int o1), .val (.int o2), .unset, .unset, .unset, .unset, .unset, .unset, .unset, .unset, .unset, .unset, .unset, .unset, .unset, .unset, .unset, .unset, .unset, .unset, .unset, .unset, .unset] [(.int o1)])) (fun _ zq => XS.iload X.here hx rfl (hb hby at_52) rfl zq) ?_
      exact J54 _ _ ho1 hl1
    · skip
      refine own_st (T' := s₁) (g' := (mkF m 47 #[.val (.int se), .val (.long va), .second, .val (.long vb), .second, .val (.long vc), .second, .val (.int sf), .val (.int rq), .val (.int o1), .val (.int o2), .unset, .unset, .unset, .unset, .unset, .unset, .unset, .unset, .unset, .unset, .unset, .unset, .unset, .unset, .unset, .unset, .unset, .unset, .unset, .unset, .unset] [])) (fun _ zq => XS.ifNo X.here hx rfl (hb hby at_44) rfl ((if0 _ _).trans (feq hc).1) zq) ?_
      refine own_st (T' := s₁) (g' := (mkF m 49 #[.val (.int se), .val (.long va), .second, .val (.long vb), .second, .val (.long vc), .second, .val (.int sf), .val (.int rq), .val (.int o1), .val (.int o2), .unset, .unset, .unset, .unset, .unset, .unset, .unset, .unset, .unset, .unset, .unset, .unset, .unset, .unset, .unset, .unset, .unset, .unset, .unset, .unset, .unset] [(.int o2)])) (fun _ zq => XS.iload X.here hx rfl (hb hby at_47) rfl zq) ?_
      refine own_st (T' := s₁) (g' := (mkF m 54 #[.val (.int se), .val (.long va), .second, .val (.long vb), .second, .val (.long vc), .second, .val (.int sf), .val (.int rq), .val (.int o1), .val (.int o2), .unset, .unset, .unset, .unset, .unset, .unset, .unset, .unset, .unset, .unset, .unset, .unset, .unset, .unset, .unset, .unset, .unset, .unset, .unset, .unset, .unset] [(.int o2)])) (fun _ zq => XS.goto X.here hx rfl (pc0 := 49) (pc' := 54) rfl (hb hby at_49) (by decide) (by decide) zq) ?_
      exact J54 _ _ ho2 hl2
  intro m1 m1n hm1 hlm1
  refine own_st (T' := s₁) (g' := (mkF m 56 #[.val (.int se), .val (.long va), .second, .val (.long vb), .second, .val (.long vc), .second, .val (.int sf), .val (.int rq), .val (.int o1), .val (.int o2), .val (.int m1), .unset, .unset, .unset, .unset, .unset, .unset, .unset, .unset, .unset, .unset, .unset, .unset, .unset, .unset, .unset, .unset, .unset, .unset, .unset, .unset] [])) (fun _ zq => XS.istore X.here hx rfl (hb hby at_54) rfl (l' := #[.val (.int se), .val (.long va), .second, .val (.long vb), .second, .val (.long vc), .second, .val (.int sf), .val (.int rq), .val (.int o1), .val (.int o2), .val (.int m1), .unset, .unset, .unset, .unset, .unset, .unset, .unset, .unset, .unset, .unset, .unset, .unset, .unset, .unset, .unset, .unset, .unset, .unset, .unset, .unset]) rfl zq) ?_
  refine own_st (T' := s₁) (g' := (mkF m 57 #[.val (.int se), .val (.long va), .second, .val (.long vb), .second, .val (.long vc), .second, .val (.int sf), .val (.int rq), .val (.int o1), .val (.int o2), .val (.int m1), .unset, .unset, .unset, .unset, .unset, .unset, .unset, .unset, .unset, .unset, .unset, .unset, .unset, .unset, .unset, .unset, .unset, .unset, .unset, .unset] [(.int se)])) (fun _ zq => XS.iloadN X.here hx rfl (hb hby at_56) rfl zq) ?_
  refine own_st (T' := s₁) (g' := (mkF m 58 #[.val (.int se), .val (.long va), .second, .val (.long vb), .second, .val (.long vc), .second, .val (.int sf), .val (.int rq), .val (.int o1), .val (.int o2), .val (.int m1), .unset, .unset, .unset, .unset, .unset, .unset, .unset, .unset, .unset, .unset, .unset, .unset, .unset, .unset, .unset, .unset, .unset, .unset, .unset, .unset] [(.int (4 : Int32)), (.int se)])) (fun _ zq => XS.iconst X.here hx rfl (hb hby at_57) zq) ?_
  refine own_st (T' := s₁) (g' := (mkF m 59 #[.val (.int se), .val (.long va), .second, .val (.long vb), .second, .val (.long vc), .second, .val (.int sf), .val (.int rq), .val (.int o1), .val (.int o2), .val (.int m1), .unset, .unset, .unset, .unset, .unset, .unset, .unset, .unset, .unset, .unset, .unset, .unset, .unset, .unset, .unset, .unset, .unset, .unset, .unset, .unset] [(.int (se &&& (4 : Int32)))])) (fun _ zq => XS.iand X.here hx rfl (hb hby at_58) rfl zq) ?_
  suffices J69 : ∀ (rr : Int32) (rrn : Nat) (hrr : rr.toInt = (rrn : Int)) (hlrr : rrn < 3 ∧ rrn ≠ sn), own_Go p e below s (Q_law Z se va vb vc aN fN h0 n0) 32 192 s₁ (mkF m 69 #[.val (.int se), .val (.long va), .second, .val (.long vb), .second, .val (.long vc), .second, .val (.int sf), .val (.int rq), .val (.int o1), .val (.int o2), .val (.int m1), .unset, .unset, .unset, .unset, .unset, .unset, .unset, .unset, .unset, .unset, .unset, .unset, .unset, .unset, .unset, .unset, .unset, .unset, .unset, .unset] [(.int rr)]) by
    by_cases hc : (se &&& (4 : Int32)) = (0 : Int32)
    · skip
      refine own_st (T' := s₁) (g' := (mkF m 67 #[.val (.int se), .val (.long va), .second, .val (.long vb), .second, .val (.long vc), .second, .val (.int sf), .val (.int rq), .val (.int o1), .val (.int o2), .val (.int m1), .unset, .unset, .unset, .unset, .unset, .unset, .unset, .unset, .unset, .unset, .unset, .unset, .unset, .unset, .unset, .unset, .unset, .unset, .unset, .unset] [])) (fun _ zq => XS.ifYes X.here hx rfl (pc0 := 59) (pc' := 67) rfl (hb hby at_59) rfl ((if0 _ _).trans (teq hc).1) (by decide) (by decide) zq) ?_
      refine own_st (T' := s₁) (g' := (mkF m 69 #[.val (.int se), .val (.long va), .second, .val (.long vb), .second, .val (.long vc), .second, .val (.int sf), .val (.int rq), .val (.int o1), .val (.int o2), .val (.int m1), .unset, .unset, .unset, .unset, .unset, .unset, .unset, .unset, .unset, .unset, .unset, .unset, .unset, .unset, .unset, .unset, .unset, .unset, .unset, .unset] [(.int o1)])) (fun _ zq => XS.iload X.here hx rfl (hb hby at_67) rfl zq) ?_
      exact J69 _ _ ho1 hl1
    · skip
      refine own_st (T' := s₁) (g' := (mkF m 62 #[.val (.int se), .val (.long va), .second, .val (.long vb), .second, .val (.long vc), .second, .val (.int sf), .val (.int rq), .val (.int o1), .val (.int o2), .val (.int m1), .unset, .unset, .unset, .unset, .unset, .unset, .unset, .unset, .unset, .unset, .unset, .unset, .unset, .unset, .unset, .unset, .unset, .unset, .unset, .unset] [])) (fun _ zq => XS.ifNo X.here hx rfl (hb hby at_59) rfl ((if0 _ _).trans (feq hc).1) zq) ?_
      refine own_st (T' := s₁) (g' := (mkF m 64 #[.val (.int se), .val (.long va), .second, .val (.long vb), .second, .val (.long vc), .second, .val (.int sf), .val (.int rq), .val (.int o1), .val (.int o2), .val (.int m1), .unset, .unset, .unset, .unset, .unset, .unset, .unset, .unset, .unset, .unset, .unset, .unset, .unset, .unset, .unset, .unset, .unset, .unset, .unset, .unset] [(.int o2)])) (fun _ zq => XS.iload X.here hx rfl (hb hby at_62) rfl zq) ?_
      refine own_st (T' := s₁) (g' := (mkF m 69 #[.val (.int se), .val (.long va), .second, .val (.long vb), .second, .val (.long vc), .second, .val (.int sf), .val (.int rq), .val (.int o1), .val (.int o2), .val (.int m1), .unset, .unset, .unset, .unset, .unset, .unset, .unset, .unset, .unset, .unset, .unset, .unset, .unset, .unset, .unset, .unset, .unset, .unset, .unset, .unset] [(.int o2)])) (fun _ zq => XS.goto X.here hx rfl (pc0 := 64) (pc' := 69) rfl (hb hby at_64) (by decide) (by decide) zq) ?_
      exact J69 _ _ ho2 hl2
  intro rr rrn hrr hlrr
  refine own_st (T' := s₁) (g' := (mkF m 71 #[.val (.int se), .val (.long va), .second, .val (.long vb), .second, .val (.long vc), .second, .val (.int sf), .val (.int rq), .val (.int o1), .val (.int o2), .val (.int m1), .val (.int rr), .unset, .unset, .unset, .unset, .unset, .unset, .unset, .unset, .unset, .unset, .unset, .unset, .unset, .unset, .unset, .unset, .unset, .unset, .unset] [])) (fun _ zq => XS.istore X.here hx rfl (hb hby at_69) rfl (l' := #[.val (.int se), .val (.long va), .second, .val (.long vb), .second, .val (.long vc), .second, .val (.int sf), .val (.int rq), .val (.int o1), .val (.int o2), .val (.int m1), .val (.int rr), .unset, .unset, .unset, .unset, .unset, .unset, .unset, .unset, .unset, .unset, .unset, .unset, .unset, .unset, .unset, .unset, .unset, .unset, .unset]) rfl zq) ?_
  refine own_st (T' := s₁) (g' := (mkF m 72 #[.val (.int se), .val (.long va), .second, .val (.long vb), .second, .val (.long vc), .second, .val (.int sf), .val (.int rq), .val (.int o1), .val (.int o2), .val (.int m1), .val (.int rr), .unset, .unset, .unset, .unset, .unset, .unset, .unset, .unset, .unset, .unset, .unset, .unset, .unset, .unset, .unset, .unset, .unset, .unset, .unset] [(.int se)])) (fun _ zq => XS.iloadN X.here hx rfl (hb hby at_71) rfl zq) ?_
  refine own_st (T' := s₁) (g' := (mkF m 74 #[.val (.int se), .val (.long va), .second, .val (.long vb), .second, .val (.long vc), .second, .val (.int sf), .val (.int rq), .val (.int o1), .val (.int o2), .val (.int m1), .val (.int rr), .unset, .unset, .unset, .unset, .unset, .unset, .unset, .unset, .unset, .unset, .unset, .unset, .unset, .unset, .unset, .unset, .unset, .unset, .unset] [(.int (8 : Int32)), (.int se)])) (fun _ zq => XS.bipush X.here hx rfl (hb hby at_72) zq) ?_
  refine own_st (T' := s₁) (g' := (mkF m 75 #[.val (.int se), .val (.long va), .second, .val (.long vb), .second, .val (.long vc), .second, .val (.int sf), .val (.int rq), .val (.int o1), .val (.int o2), .val (.int m1), .val (.int rr), .unset, .unset, .unset, .unset, .unset, .unset, .unset, .unset, .unset, .unset, .unset, .unset, .unset, .unset, .unset, .unset, .unset, .unset, .unset] [(.int (se &&& (8 : Int32)))])) (fun _ zq => XS.iand X.here hx rfl (hb hby at_74) rfl zq) ?_
  suffices J83 : ∀ (i1 : Int32) (hi1 : i1 = 0 ∨ i1 = 1), own_Go p e below s (Q_law Z se va vb vc aN fN h0 n0) 32 192 s₁ (mkF m 83 #[.val (.int se), .val (.long va), .second, .val (.long vb), .second, .val (.long vc), .second, .val (.int sf), .val (.int rq), .val (.int o1), .val (.int o2), .val (.int m1), .val (.int rr), .unset, .unset, .unset, .unset, .unset, .unset, .unset, .unset, .unset, .unset, .unset, .unset, .unset, .unset, .unset, .unset, .unset, .unset, .unset] [(.int i1)]) by
    by_cases hc : (se &&& (8 : Int32)) = (0 : Int32)
    · skip
      refine own_st (T' := s₁) (g' := (mkF m 82 #[.val (.int se), .val (.long va), .second, .val (.long vb), .second, .val (.long vc), .second, .val (.int sf), .val (.int rq), .val (.int o1), .val (.int o2), .val (.int m1), .val (.int rr), .unset, .unset, .unset, .unset, .unset, .unset, .unset, .unset, .unset, .unset, .unset, .unset, .unset, .unset, .unset, .unset, .unset, .unset, .unset] [])) (fun _ zq => XS.ifYes X.here hx rfl (pc0 := 75) (pc' := 82) rfl (hb hby at_75) rfl ((if0 _ _).trans (teq hc).1) (by decide) (by decide) zq) ?_
      refine own_st (T' := s₁) (g' := (mkF m 83 #[.val (.int se), .val (.long va), .second, .val (.long vb), .second, .val (.long vc), .second, .val (.int sf), .val (.int rq), .val (.int o1), .val (.int o2), .val (.int m1), .val (.int rr), .unset, .unset, .unset, .unset, .unset, .unset, .unset, .unset, .unset, .unset, .unset, .unset, .unset, .unset, .unset, .unset, .unset, .unset, .unset] [(.int (0 : Int32))])) (fun _ zq => XS.iconst X.here hx rfl (hb hby at_82) zq) ?_
      exact J83 _ (Or.inl rfl)
    · skip
      refine own_st (T' := s₁) (g' := (mkF m 78 #[.val (.int se), .val (.long va), .second, .val (.long vb), .second, .val (.long vc), .second, .val (.int sf), .val (.int rq), .val (.int o1), .val (.int o2), .val (.int m1), .val (.int rr), .unset, .unset, .unset, .unset, .unset, .unset, .unset, .unset, .unset, .unset, .unset, .unset, .unset, .unset, .unset, .unset, .unset, .unset, .unset] [])) (fun _ zq => XS.ifNo X.here hx rfl (hb hby at_75) rfl ((if0 _ _).trans (feq hc).1) zq) ?_
      refine own_st (T' := s₁) (g' := (mkF m 79 #[.val (.int se), .val (.long va), .second, .val (.long vb), .second, .val (.long vc), .second, .val (.int sf), .val (.int rq), .val (.int o1), .val (.int o2), .val (.int m1), .val (.int rr), .unset, .unset, .unset, .unset, .unset, .unset, .unset, .unset, .unset, .unset, .unset, .unset, .unset, .unset, .unset, .unset, .unset, .unset, .unset] [(.int (1 : Int32))])) (fun _ zq => XS.iconst X.here hx rfl (hb hby at_78) zq) ?_
      refine own_st (T' := s₁) (g' := (mkF m 83 #[.val (.int se), .val (.long va), .second, .val (.long vb), .second, .val (.long vc), .second, .val (.int sf), .val (.int rq), .val (.int o1), .val (.int o2), .val (.int m1), .val (.int rr), .unset, .unset, .unset, .unset, .unset, .unset, .unset, .unset, .unset, .unset, .unset, .unset, .unset, .unset, .unset, .unset, .unset, .unset, .unset] [(.int (1 : Int32))])) (fun _ zq => XS.goto X.here hx rfl (pc0 := 79) (pc' := 83) rfl (hb hby at_79) (by decide) (by decide) zq) ?_
      exact J83 _ (Or.inr rfl)
  intro i1 hi1
  refine own_st (T' := s₁) (g' := (mkF m 85 #[.val (.int se), .val (.long va), .second, .val (.long vb), .second, .val (.long vc), .second, .val (.int sf), .val (.int rq), .val (.int o1), .val (.int o2), .val (.int m1), .val (.int rr), .val (.int i1), .unset, .unset, .unset, .unset, .unset, .unset, .unset, .unset, .unset, .unset, .unset, .unset, .unset, .unset, .unset, .unset, .unset, .unset] [])) (fun _ zq => XS.istore X.here hx rfl (hb hby at_83) rfl (l' := #[.val (.int se), .val (.long va), .second, .val (.long vb), .second, .val (.long vc), .second, .val (.int sf), .val (.int rq), .val (.int o1), .val (.int o2), .val (.int m1), .val (.int rr), .val (.int i1), .unset, .unset, .unset, .unset, .unset, .unset, .unset, .unset, .unset, .unset, .unset, .unset, .unset, .unset, .unset, .unset, .unset, .unset]) rfl zq) ?_
  refine own_st (T' := s₁) (g' := (mkF m 86 #[.val (.int se), .val (.long va), .second, .val (.long vb), .second, .val (.long vc), .second, .val (.int sf), .val (.int rq), .val (.int o1), .val (.int o2), .val (.int m1), .val (.int rr), .val (.int i1), .unset, .unset, .unset, .unset, .unset, .unset, .unset, .unset, .unset, .unset, .unset, .unset, .unset, .unset, .unset, .unset, .unset, .unset] [(.int se)])) (fun _ zq => XS.iloadN X.here hx rfl (hb hby at_85) rfl zq) ?_
  refine own_st (T' := s₁) (g' := (mkF m 88 #[.val (.int se), .val (.long va), .second, .val (.long vb), .second, .val (.long vc), .second, .val (.int sf), .val (.int rq), .val (.int o1), .val (.int o2), .val (.int m1), .val (.int rr), .val (.int i1), .unset, .unset, .unset, .unset, .unset, .unset, .unset, .unset, .unset, .unset, .unset, .unset, .unset, .unset, .unset, .unset, .unset, .unset] [(.int (16 : Int32)), (.int se)])) (fun _ zq => XS.bipush X.here hx rfl (hb hby at_86) zq) ?_
  refine own_st (T' := s₁) (g' := (mkF m 89 #[.val (.int se), .val (.long va), .second, .val (.long vb), .second, .val (.long vc), .second, .val (.int sf), .val (.int rq), .val (.int o1), .val (.int o2), .val (.int m1), .val (.int rr), .val (.int i1), .unset, .unset, .unset, .unset, .unset, .unset, .unset, .unset, .unset, .unset, .unset, .unset, .unset, .unset, .unset, .unset, .unset, .unset] [(.int (se &&& (16 : Int32)))])) (fun _ zq => XS.iand X.here hx rfl (hb hby at_88) rfl zq) ?_
  suffices J97 : ∀ (i2 : Int32) (hi2 : i2 = 0 ∨ i2 = 1), own_Go p e below s (Q_law Z se va vb vc aN fN h0 n0) 32 192 s₁ (mkF m 97 #[.val (.int se), .val (.long va), .second, .val (.long vb), .second, .val (.long vc), .second, .val (.int sf), .val (.int rq), .val (.int o1), .val (.int o2), .val (.int m1), .val (.int rr), .val (.int i1), .unset, .unset, .unset, .unset, .unset, .unset, .unset, .unset, .unset, .unset, .unset, .unset, .unset, .unset, .unset, .unset, .unset, .unset] [(.int i2)]) by
    by_cases hc : (se &&& (16 : Int32)) = (0 : Int32)
    · skip
      refine own_st (T' := s₁) (g' := (mkF m 96 #[.val (.int se), .val (.long va), .second, .val (.long vb), .second, .val (.long vc), .second, .val (.int sf), .val (.int rq), .val (.int o1), .val (.int o2), .val (.int m1), .val (.int rr), .val (.int i1), .unset, .unset, .unset, .unset, .unset, .unset, .unset, .unset, .unset, .unset, .unset, .unset, .unset, .unset, .unset, .unset, .unset, .unset] [])) (fun _ zq => XS.ifYes X.here hx rfl (pc0 := 89) (pc' := 96) rfl (hb hby at_89) rfl ((if0 _ _).trans (teq hc).1) (by decide) (by decide) zq) ?_
      refine own_st (T' := s₁) (g' := (mkF m 97 #[.val (.int se), .val (.long va), .second, .val (.long vb), .second, .val (.long vc), .second, .val (.int sf), .val (.int rq), .val (.int o1), .val (.int o2), .val (.int m1), .val (.int rr), .val (.int i1), .unset, .unset, .unset, .unset, .unset, .unset, .unset, .unset, .unset, .unset, .unset, .unset, .unset, .unset, .unset, .unset, .unset, .unset] [(.int (0 : Int32))])) (fun _ zq => XS.iconst X.here hx rfl (hb hby at_96) zq) ?_
      exact J97 _ (Or.inl rfl)
    · skip
      refine own_st (T' := s₁) (g' := (mkF m 92 #[.val (.int se), .val (.long va), .second, .val (.long vb), .second, .val (.long vc), .second, .val (.int sf), .val (.int rq), .val (.int o1), .val (.int o2), .val (.int m1), .val (.int rr), .val (.int i1), .unset, .unset, .unset, .unset, .unset, .unset, .unset, .unset, .unset, .unset, .unset, .unset, .unset, .unset, .unset, .unset, .unset, .unset] [])) (fun _ zq => XS.ifNo X.here hx rfl (hb hby at_89) rfl ((if0 _ _).trans (feq hc).1) zq) ?_
      refine own_st (T' := s₁) (g' := (mkF m 93 #[.val (.int se), .val (.long va), .second, .val (.long vb), .second, .val (.long vc), .second, .val (.int sf), .val (.int rq), .val (.int o1), .val (.int o2), .val (.int m1), .val (.int rr), .val (.int i1), .unset, .unset, .unset, .unset, .unset, .unset, .unset, .unset, .unset, .unset, .unset, .unset, .unset, .unset, .unset, .unset, .unset, .unset] [(.int (1 : Int32))])) (fun _ zq => XS.iconst X.here hx rfl (hb hby at_92) zq) ?_
      refine own_st (T' := s₁) (g' := (mkF m 97 #[.val (.int se), .val (.long va), .second, .val (.long vb), .second, .val (.long vc), .second, .val (.int sf), .val (.int rq), .val (.int o1), .val (.int o2), .val (.int m1), .val (.int rr), .val (.int i1), .unset, .unset, .unset, .unset, .unset, .unset, .unset, .unset, .unset, .unset, .unset, .unset, .unset, .unset, .unset, .unset, .unset, .unset] [(.int (1 : Int32))])) (fun _ zq => XS.goto X.here hx rfl (pc0 := 93) (pc' := 97) rfl (hb hby at_93) (by decide) (by decide) zq) ?_
      exact J97 _ (Or.inr rfl)
  intro i2 hi2
  refine own_st (T' := s₁) (g' := (mkF m 99 #[.val (.int se), .val (.long va), .second, .val (.long vb), .second, .val (.long vc), .second, .val (.int sf), .val (.int rq), .val (.int o1), .val (.int o2), .val (.int m1), .val (.int rr), .val (.int i1), .val (.int i2), .unset, .unset, .unset, .unset, .unset, .unset, .unset, .unset, .unset, .unset, .unset, .unset, .unset, .unset, .unset, .unset, .unset] [])) (fun _ zq => XS.istore X.here hx rfl (hb hby at_97) rfl (l' := #[.val (.int se), .val (.long va), .second, .val (.long vb), .second, .val (.long vc), .second, .val (.int sf), .val (.int rq), .val (.int o1), .val (.int o2), .val (.int m1), .val (.int rr), .val (.int i1), .val (.int i2), .unset, .unset, .unset, .unset, .unset, .unset, .unset, .unset, .unset, .unset, .unset, .unset, .unset, .unset, .unset, .unset, .unset]) rfl zq) ?_
  refine own_st (T' := s₁) (g' := (mkF m 100 #[.val (.int se), .val (.long va), .second, .val (.long vb), .second, .val (.long vc), .second, .val (.int sf), .val (.int rq), .val (.int o1), .val (.int o2), .val (.int m1), .val (.int rr), .val (.int i1), .val (.int i2), .unset, .unset, .unset, .unset, .unset, .unset, .unset, .unset, .unset, .unset, .unset, .unset, .unset, .unset, .unset, .unset, .unset] [(.int se)])) (fun _ zq => XS.iloadN X.here hx rfl (hb hby at_99) rfl zq) ?_
  refine own_st (T' := s₁) (g' := (mkF m 102 #[.val (.int se), .val (.long va), .second, .val (.long vb), .second, .val (.long vc), .second, .val (.int sf), .val (.int rq), .val (.int o1), .val (.int o2), .val (.int m1), .val (.int rr), .val (.int i1), .val (.int i2), .unset, .unset, .unset, .unset, .unset, .unset, .unset, .unset, .unset, .unset, .unset, .unset, .unset, .unset, .unset, .unset, .unset] [(.int (32 : Int32)), (.int se)])) (fun _ zq => XS.bipush X.here hx rfl (hb hby at_100) zq) ?_
  refine own_st (T' := s₁) (g' := (mkF m 103 #[.val (.int se), .val (.long va), .second, .val (.long vb), .second, .val (.long vc), .second, .val (.int sf), .val (.int rq), .val (.int o1), .val (.int o2), .val (.int m1), .val (.int rr), .val (.int i1), .val (.int i2), .unset, .unset, .unset, .unset, .unset, .unset, .unset, .unset, .unset, .unset, .unset, .unset, .unset, .unset, .unset, .unset, .unset] [(.int (se &&& (32 : Int32)))])) (fun _ zq => XS.iand X.here hx rfl (hb hby at_102) rfl zq) ?_
  suffices J111 : ∀ (of : Int32) (hof : of = 0 ∨ of = 1), own_Go p e below s (Q_law Z se va vb vc aN fN h0 n0) 32 192 s₁ (mkF m 111 #[.val (.int se), .val (.long va), .second, .val (.long vb), .second, .val (.long vc), .second, .val (.int sf), .val (.int rq), .val (.int o1), .val (.int o2), .val (.int m1), .val (.int rr), .val (.int i1), .val (.int i2), .unset, .unset, .unset, .unset, .unset, .unset, .unset, .unset, .unset, .unset, .unset, .unset, .unset, .unset, .unset, .unset, .unset] [(.int of)]) by
    by_cases hc : (se &&& (32 : Int32)) = (0 : Int32)
    · skip
      refine own_st (T' := s₁) (g' := (mkF m 110 #[.val (.int se), .val (.long va), .second, .val (.long vb), .second, .val (.long vc), .second, .val (.int sf), .val (.int rq), .val (.int o1), .val (.int o2), .val (.int m1), .val (.int rr), .val (.int i1), .val (.int i2), .unset, .unset, .unset, .unset, .unset, .unset, .unset, .unset, .unset, .unset, .unset, .unset, .unset, .unset, .unset, .unset, .unset] [])) (fun _ zq => XS.ifYes X.here hx rfl (pc0 := 103) (pc' := 110) rfl (hb hby at_103) rfl ((if0 _ _).trans (teq hc).1) (by decide) (by decide) zq) ?_
      refine own_st (T' := s₁) (g' := (mkF m 111 #[.val (.int se), .val (.long va), .second, .val (.long vb), .second, .val (.long vc), .second, .val (.int sf), .val (.int rq), .val (.int o1), .val (.int o2), .val (.int m1), .val (.int rr), .val (.int i1), .val (.int i2), .unset, .unset, .unset, .unset, .unset, .unset, .unset, .unset, .unset, .unset, .unset, .unset, .unset, .unset, .unset, .unset, .unset] [(.int (0 : Int32))])) (fun _ zq => XS.iconst X.here hx rfl (hb hby at_110) zq) ?_
      exact J111 _ (Or.inl rfl)
    · skip
      refine own_st (T' := s₁) (g' := (mkF m 106 #[.val (.int se), .val (.long va), .second, .val (.long vb), .second, .val (.long vc), .second, .val (.int sf), .val (.int rq), .val (.int o1), .val (.int o2), .val (.int m1), .val (.int rr), .val (.int i1), .val (.int i2), .unset, .unset, .unset, .unset, .unset, .unset, .unset, .unset, .unset, .unset, .unset, .unset, .unset, .unset, .unset, .unset, .unset] [])) (fun _ zq => XS.ifNo X.here hx rfl (hb hby at_103) rfl ((if0 _ _).trans (feq hc).1) zq) ?_
      refine own_st (T' := s₁) (g' := (mkF m 107 #[.val (.int se), .val (.long va), .second, .val (.long vb), .second, .val (.long vc), .second, .val (.int sf), .val (.int rq), .val (.int o1), .val (.int o2), .val (.int m1), .val (.int rr), .val (.int i1), .val (.int i2), .unset, .unset, .unset, .unset, .unset, .unset, .unset, .unset, .unset, .unset, .unset, .unset, .unset, .unset, .unset, .unset, .unset] [(.int (1 : Int32))])) (fun _ zq => XS.iconst X.here hx rfl (hb hby at_106) zq) ?_
      refine own_st (T' := s₁) (g' := (mkF m 111 #[.val (.int se), .val (.long va), .second, .val (.long vb), .second, .val (.long vc), .second, .val (.int sf), .val (.int rq), .val (.int o1), .val (.int o2), .val (.int m1), .val (.int rr), .val (.int i1), .val (.int i2), .unset, .unset, .unset, .unset, .unset, .unset, .unset, .unset, .unset, .unset, .unset, .unset, .unset, .unset, .unset, .unset, .unset] [(.int (1 : Int32))])) (fun _ zq => XS.goto X.here hx rfl (pc0 := 107) (pc' := 111) rfl (hb hby at_107) (by decide) (by decide) zq) ?_
      exact J111 _ (Or.inr rfl)
  intro of hof
  refine own_st (T' := s₁) (g' := (mkF m 113 #[.val (.int se), .val (.long va), .second, .val (.long vb), .second, .val (.long vc), .second, .val (.int sf), .val (.int rq), .val (.int o1), .val (.int o2), .val (.int m1), .val (.int rr), .val (.int i1), .val (.int i2), .val (.int of), .unset, .unset, .unset, .unset, .unset, .unset, .unset, .unset, .unset, .unset, .unset, .unset, .unset, .unset, .unset, .unset] [])) (fun _ zq => XS.istore X.here hx rfl (hb hby at_111) rfl (l' := #[.val (.int se), .val (.long va), .second, .val (.long vb), .second, .val (.long vc), .second, .val (.int sf), .val (.int rq), .val (.int o1), .val (.int o2), .val (.int m1), .val (.int rr), .val (.int i1), .val (.int i2), .val (.int of), .unset, .unset, .unset, .unset, .unset, .unset, .unset, .unset, .unset, .unset, .unset, .unset, .unset, .unset, .unset, .unset]) rfl zq) ?_
  refine own_st (T' := s₁) (g' := (mkF m 114 #[.val (.int se), .val (.long va), .second, .val (.long vb), .second, .val (.long vc), .second, .val (.int sf), .val (.int rq), .val (.int o1), .val (.int o2), .val (.int m1), .val (.int rr), .val (.int i1), .val (.int i2), .val (.int of), .unset, .unset, .unset, .unset, .unset, .unset, .unset, .unset, .unset, .unset, .unset, .unset, .unset, .unset, .unset, .unset] [(.int (2 : Int32))])) (fun _ zq => XS.iconst X.here hx rfl (hb hby at_113) zq) ?_
  obtain ⟨T84, h84, k84, X84, e84, E84, A84, st84⟩ := newP X hx hZ (hw _ (List.mem_of_getElem? (i := 0) rfl)) eT (g := (mkF m 114 #[.val (.int se), .val (.long va), .second, .val (.long vb), .second, .val (.long vc), .second, .val (.int sf), .val (.int rq), .val (.int o1), .val (.int o2), .val (.int m1), .val (.int rr), .val (.int i1), .val (.int i2), .val (.int of), .unset, .unset, .unset, .unset, .unset, .unset, .unset, .unset, .unset, .unset, .unset, .unset, .unset, .unset, .unset, .unset] [(.int (2 : Int32))])) rfl (hb hby at_114) rfl (by decide) (cap := 2) (by decide) (by decide) (by decide) (by decide)
  obtain ⟨b84, ga84⟩ : ∃ z, z = h0.size := ⟨_, rfl⟩
  rw [← ga84] at A84 st84
  have g_b84 : n0 ≤ b84 := Nat.le_trans Zs (Nat.le_of_eq ga84.symm)
  replace O := O.ext E84
  replace Zs := Nat.le_trans Zs E84.1
  have V_b84 : own_AV Z h84 b84 .long 2 (fun _ => .long (0 : Int64)) := own_AV.new A84 rfl
  refine own_st (g' := (mkF m 116 #[.val (.int se), .val (.long va), .second, .val (.long vb), .second, .val (.long vc), .second, .val (.int sf), .val (.int rq), .val (.int o1), .val (.int o2), .val (.int m1), .val (.int rr), .val (.int i1), .val (.int i2), .val (.int of), .unset, .unset, .unset, .unset, .unset, .unset, .unset, .unset, .unset, .unset, .unset, .unset, .unset, .unset, .unset, .unset] [(.ref b84)])) st84 ?_
  refine own_st (T' := T84) (g' := (mkF m 117 #[.val (.int se), .val (.long va), .second, .val (.long vb), .second, .val (.long vc), .second, .val (.int sf), .val (.int rq), .val (.int o1), .val (.int o2), .val (.int m1), .val (.int rr), .val (.int i1), .val (.int i2), .val (.int of), .unset, .unset, .unset, .unset, .unset, .unset, .unset, .unset, .unset, .unset, .unset, .unset, .unset, .unset, .unset, .unset] [(.ref b84), (.ref b84)])) (fun _ zq => XS.dup X84.here hx rfl (hb hby at_116) rfl rfl zq) ?_
  refine own_st (T' := T84) (g' := (mkF m 118 #[.val (.int se), .val (.long va), .second, .val (.long vb), .second, .val (.long vc), .second, .val (.int sf), .val (.int rq), .val (.int o1), .val (.int o2), .val (.int m1), .val (.int rr), .val (.int i1), .val (.int i2), .val (.int of), .unset, .unset, .unset, .unset, .unset, .unset, .unset, .unset, .unset, .unset, .unset, .unset, .unset, .unset, .unset, .unset] [(.int (0 : Int32)), (.ref b84), (.ref b84)])) (fun _ zq => XS.iconst X84.here hx rfl (hb hby at_117) zq) ?_
  refine own_st (T' := T84) (g' := (mkF m 120 #[.val (.int se), .val (.long va), .second, .val (.long vb), .second, .val (.long vc), .second, .val (.int sf), .val (.int rq), .val (.int o1), .val (.int o2), .val (.int m1), .val (.int rr), .val (.int i1), .val (.int i2), .val (.int of), .unset, .unset, .unset, .unset, .unset, .unset, .unset, .unset, .unset, .unset, .unset, .unset, .unset, .unset, .unset, .unset] [(.int m1), (.int (0 : Int32)), (.ref b84), (.ref b84)])) (fun _ zq => XS.iload X84.here hx rfl (hb hby at_118) rfl zq) ?_
  refine own_st (T' := T84) (g' := (mkF m 121 #[.val (.int se), .val (.long va), .second, .val (.long vb), .second, .val (.long vc), .second, .val (.int sf), .val (.int rq), .val (.int o1), .val (.int o2), .val (.int m1), .val (.int rr), .val (.int i1), .val (.int i2), .val (.int of), .unset, .unset, .unset, .unset, .unset, .unset, .unset, .unset, .unset, .unset, .unset, .unset, .unset, .unset, .unset, .unset] [(.long (m1.toInt64)), (.int (0 : Int32)), (.ref b84), (.ref b84)])) (fun _ zq => XS.i2l X84.here hx rfl (hb hby at_120) rfl zq) ?_
  obtain ⟨T85, h85, X85, e85, W85, V85, st85⟩ := own_stJ X84 hx hZ e84 V_b84 (j := (0 : Int32)) (0) rfl (by decide) (g := (mkF m 121 #[.val (.int se), .val (.long va), .second, .val (.long vb), .second, .val (.long vc), .second, .val (.int sf), .val (.int rq), .val (.int o1), .val (.int o2), .val (.int m1), .val (.int rr), .val (.int i1), .val (.int i2), .val (.int of), .unset, .unset, .unset, .unset, .unset, .unset, .unset, .unset, .unset, .unset, .unset, .unset, .unset, .unset, .unset, .unset] [(.long (m1.toInt64)), (.int (0 : Int32)), (.ref b84), (.ref b84)])) rfl rfl (hb hby at_121)
  replace O := O.wr W85 g_b84
  replace Zs := Nat.le_trans Zs (Keep.of_wr W85).1
  replace V_b84 := V85
  replace N := Fr.snoc X85 N g_b84
  refine own_st (g' := (mkF m 122 #[.val (.int se), .val (.long va), .second, .val (.long vb), .second, .val (.long vc), .second, .val (.int sf), .val (.int rq), .val (.int o1), .val (.int o2), .val (.int m1), .val (.int rr), .val (.int i1), .val (.int i2), .val (.int of), .unset, .unset, .unset, .unset, .unset, .unset, .unset, .unset, .unset, .unset, .unset, .unset, .unset, .unset, .unset, .unset] [(.ref b84)])) st85 ?_
  refine own_st (T' := T85) (g' := (mkF m 123 #[.val (.int se), .val (.long va), .second, .val (.long vb), .second, .val (.long vc), .second, .val (.int sf), .val (.int rq), .val (.int o1), .val (.int o2), .val (.int m1), .val (.int rr), .val (.int i1), .val (.int i2), .val (.int of), .unset, .unset, .unset, .unset, .unset, .unset, .unset, .unset, .unset, .unset, .unset, .unset, .unset, .unset, .unset, .unset] [(.ref b84), (.ref b84)])) (fun _ zq => XS.dup X85.here hx rfl (hb hby at_122) rfl rfl zq) ?_
  refine own_st (T' := T85) (g' := (mkF m 124 #[.val (.int se), .val (.long va), .second, .val (.long vb), .second, .val (.long vc), .second, .val (.int sf), .val (.int rq), .val (.int o1), .val (.int o2), .val (.int m1), .val (.int rr), .val (.int i1), .val (.int i2), .val (.int of), .unset, .unset, .unset, .unset, .unset, .unset, .unset, .unset, .unset, .unset, .unset, .unset, .unset, .unset, .unset, .unset] [(.int (1 : Int32)), (.ref b84), (.ref b84)])) (fun _ zq => XS.iconst X85.here hx rfl (hb hby at_123) zq) ?_
  refine own_st (T' := T85) (g' := (mkF m 125 #[.val (.int se), .val (.long va), .second, .val (.long vb), .second, .val (.long vc), .second, .val (.int sf), .val (.int rq), .val (.int o1), .val (.int o2), .val (.int m1), .val (.int rr), .val (.int i1), .val (.int i2), .val (.int of), .unset, .unset, .unset, .unset, .unset, .unset, .unset, .unset, .unset, .unset, .unset, .unset, .unset, .unset, .unset, .unset] [(.long va), (.int (1 : Int32)), (.ref b84), (.ref b84)])) (fun _ zq => XS.lloadN X85.here hx rfl (hb hby at_124) rfl zq) ?_
  obtain ⟨T86, h86, X86, e86, W86, V86, st86⟩ := own_stJ X85 hx hZ e85 V_b84 (j := (1 : Int32)) (1) rfl (by decide) (g := (mkF m 125 #[.val (.int se), .val (.long va), .second, .val (.long vb), .second, .val (.long vc), .second, .val (.int sf), .val (.int rq), .val (.int o1), .val (.int o2), .val (.int m1), .val (.int rr), .val (.int i1), .val (.int i2), .val (.int of), .unset, .unset, .unset, .unset, .unset, .unset, .unset, .unset, .unset, .unset, .unset, .unset, .unset, .unset, .unset, .unset] [(.long va), (.int (1 : Int32)), (.ref b84), (.ref b84)])) rfl rfl (hb hby at_125)
  replace O := O.wr W86 g_b84
  replace Zs := Nat.le_trans Zs (Keep.of_wr W86).1
  replace V_b84 := V86
  replace N := Fr.snoc X86 N g_b84
  refine own_st (g' := (mkF m 126 #[.val (.int se), .val (.long va), .second, .val (.long vb), .second, .val (.long vc), .second, .val (.int sf), .val (.int rq), .val (.int o1), .val (.int o2), .val (.int m1), .val (.int rr), .val (.int i1), .val (.int i2), .val (.int of), .unset, .unset, .unset, .unset, .unset, .unset, .unset, .unset, .unset, .unset, .unset, .unset, .unset, .unset, .unset, .unset] [(.ref b84)])) st86 ?_
  refine own_st (T' := T86) (g' := (mkF m 128 #[.val (.int se), .val (.long va), .second, .val (.long vb), .second, .val (.long vc), .second, .val (.int sf), .val (.int rq), .val (.int o1), .val (.int o2), .val (.int m1), .val (.int rr), .val (.int i1), .val (.int i2), .val (.int of), .val (.ref b84), .unset, .unset, .unset, .unset, .unset, .unset, .unset, .unset, .unset, .unset, .unset, .unset, .unset, .unset, .unset] [])) (fun _ zq => XS.astore X86.here hx rfl (hb hby at_126) rfl rfl (l' := #[.val (.int se), .val (.long va), .second, .val (.long vb), .second, .val (.long vc), .second, .val (.int sf), .val (.int rq), .val (.int o1), .val (.int o2), .val (.int m1), .val (.int rr), .val (.int i1), .val (.int i2), .val (.int of), .val (.ref b84), .unset, .unset, .unset, .unset, .unset, .unset, .unset, .unset, .unset, .unset, .unset, .unset, .unset, .unset, .unset]) rfl zq) ?_
  refine own_st (T' := T86) (g' := (mkF m 130 #[.val (.int se), .val (.long va), .second, .val (.long vb), .second, .val (.long vc), .second, .val (.int sf), .val (.int rq), .val (.int o1), .val (.int o2), .val (.int m1), .val (.int rr), .val (.int i1), .val (.int i2), .val (.int of), .val (.ref b84), .unset, .unset, .unset, .unset, .unset, .unset, .unset, .unset, .unset, .unset, .unset, .unset, .unset, .unset, .unset] [(.int i1)])) (fun _ zq => XS.iload X86.here hx rfl (hb hby at_128) rfl zq) ?_
  suffices J251 : ∀ (T87 : State) (lo87 : List Loc) (h87 : Heap) (X87 : Stand p l e room_1 s m #[(.int se), (.long va), (.long vb), (.long vc)] below meth c T87 lo87 2 6) (e87 : T87.heap = h87) (N87 : Fr n0 lo87) (Z87 : n0 ≤ h87.size) (a2 : Addr) (f2 : Nat → Value) (es : List (Nat × Int64)) (O : Old Z n0 h87) (V_b84 : own_AV Z h87 b84 .long 2 (fun i => if i = 1 then (.long va) else (fun i => if i = 0 then (.long (m1.toInt64)) else (fun _ => .long (0 : Int64)) i) i)) (V_2 : own_AV Z h87 a2 .long (2 * es.length) f2) (hes : own_es i1 i2 o1n o2n vb vc es) (hms : own_ms f2 0 es) (hle : es.length ≤ 2) (ne12 : b84 ≠ a2), own_Go p e below s (Q_law Z se va vb vc aN fN h0 n0) 32 192 T87 (mkF m 251 #[.val (.int se), .val (.long va), .second, .val (.long vb), .second, .val (.long vc), .second, .val (.int sf), .val (.int rq), .val (.int o1), .val (.int o2), .val (.int m1), .val (.int rr), .val (.int i1), .val (.int i2), .val (.int of), .val (.ref b84), .val (.ref a2), .unset, .unset, .unset, .unset, .unset, .unset, .unset, .unset, .unset, .unset, .unset, .unset, .unset, .unset] []) by
    by_cases hi1 : i1 = (0 : Int32)
    · skip
      refine own_st (T' := T86) (g' := (mkF m 199 #[.val (.int se), .val (.long va), .second, .val (.long vb), .second, .val (.long vc), .second, .val (.int sf), .val (.int rq), .val (.int o1), .val (.int o2), .val (.int m1), .val (.int rr), .val (.int i1), .val (.int i2), .val (.int of), .val (.ref b84), .unset, .unset, .unset, .unset, .unset, .unset, .unset, .unset, .unset, .unset, .unset, .unset, .unset, .unset, .unset] [])) (fun _ zq => XS.ifYes X86.here hx rfl (pc0 := 130) (pc' := 199) rfl (hb hby at_130) rfl ((if0 _ _).trans (teq hi1).1) (by decide) (by decide) zq) ?_
      refine own_st (T' := T86) (g' := (mkF m 201 #[.val (.int se), .val (.long va), .second, .val (.long vb), .second, .val (.long vc), .second, .val (.int sf), .val (.int rq), .val (.int o1), .val (.int o2), .val (.int m1), .val (.int rr), .val (.int i1), .val (.int i2), .val (.int of), .val (.ref b84), .unset, .unset, .unset, .unset, .unset, .unset, .unset, .unset, .unset, .unset, .unset, .unset, .unset, .unset, .unset] [(.int i1)])) (fun _ zq => XS.iload X86.here hx rfl (hb hby at_199) rfl zq) ?_
      refine own_st (T' := T86) (g' := (mkF m 222 #[.val (.int se), .val (.long va), .second, .val (.long vb), .second, .val (.long vc), .second, .val (.int sf), .val (.int rq), .val (.int o1), .val (.int o2), .val (.int m1), .val (.int rr), .val (.int i1), .val (.int i2), .val (.int of), .val (.ref b84), .unset, .unset, .unset, .unset, .unset, .unset, .unset, .unset, .unset, .unset, .unset, .unset, .unset, .unset, .unset] [])) (fun _ zq => XS.ifYes X86.here hx rfl (pc0 := 201) (pc' := 222) rfl (hb hby at_201) rfl ((if0 _ _).trans (teq hi1).1) (by decide) (by decide) zq) ?_
      refine own_st (T' := T86) (g' := (mkF m 224 #[.val (.int se), .val (.long va), .second, .val (.long vb), .second, .val (.long vc), .second, .val (.int sf), .val (.int rq), .val (.int o1), .val (.int o2), .val (.int m1), .val (.int rr), .val (.int i1), .val (.int i2), .val (.int of), .val (.ref b84), .unset, .unset, .unset, .unset, .unset, .unset, .unset, .unset, .unset, .unset, .unset, .unset, .unset, .unset, .unset] [(.int i2)])) (fun _ zq => XS.iload X86.here hx rfl (hb hby at_222) rfl zq) ?_
      by_cases hi2 : i2 = (0 : Int32)
      · skip
        refine own_st (T' := T86) (g' := (mkF m 246 #[.val (.int se), .val (.long va), .second, .val (.long vb), .second, .val (.long vc), .second, .val (.int sf), .val (.int rq), .val (.int o1), .val (.int o2), .val (.int m1), .val (.int rr), .val (.int i1), .val (.int i2), .val (.int of), .val (.ref b84), .unset, .unset, .unset, .unset, .unset, .unset, .unset, .unset, .unset, .unset, .unset, .unset, .unset, .unset, .unset] [])) (fun _ zq => XS.ifYes X86.here hx rfl (pc0 := 224) (pc' := 246) rfl (hb hby at_224) rfl ((if0 _ _).trans (teq hi2).1) (by decide) (by decide) zq) ?_
        refine own_st (T' := T86) (g' := (mkF m 247 #[.val (.int se), .val (.long va), .second, .val (.long vb), .second, .val (.long vc), .second, .val (.int sf), .val (.int rq), .val (.int o1), .val (.int o2), .val (.int m1), .val (.int rr), .val (.int i1), .val (.int i2), .val (.int of), .val (.ref b84), .unset, .unset, .unset, .unset, .unset, .unset, .unset, .unset, .unset, .unset, .unset, .unset, .unset, .unset, .unset] [(.int (0 : Int32))])) (fun _ zq => XS.iconst X86.here hx rfl (hb hby at_246) zq) ?_
        obtain ⟨T88, h88, k88, X88, e88, E88, A88, st88⟩ := newP X86 hx hZ (hw _ (List.mem_of_getElem? (i := 0) rfl)) e86 (g := (mkF m 247 #[.val (.int se), .val (.long va), .second, .val (.long vb), .second, .val (.long vc), .second, .val (.int sf), .val (.int rq), .val (.int o1), .val (.int o2), .val (.int m1), .val (.int rr), .val (.int i1), .val (.int i2), .val (.int of), .val (.ref b84), .unset, .unset, .unset, .unset, .unset, .unset, .unset, .unset, .unset, .unset, .unset, .unset, .unset, .unset, .unset] [(.int (0 : Int32))])) rfl (hb hby at_247) rfl (by decide) (cap := 0) (by decide) (by decide) (by decide) (by decide)
        obtain ⟨b88, ga88⟩ : ∃ z, z = h86.size := ⟨_, rfl⟩
        rw [← ga88] at A88 st88
        have g_b88 : n0 ≤ b88 := Nat.le_trans Zs (Nat.le_of_eq ga88.symm)
        have ne_b84_b88 : b84 ≠ b88 := fun q => Nat.lt_irrefl _ (Nat.lt_of_lt_of_eq V_b84.lt (ga88.symm.trans q.symm))
        replace O := O.ext E88
        replace V_b84 := V_b84.ext E88
        replace Zs := Nat.le_trans Zs E88.1
        have V_b88 : own_AV Z h88 b88 .long 0 (fun _ => .long (0 : Int64)) := own_AV.new A88 rfl
        refine own_st (g' := (mkF m 249 #[.val (.int se), .val (.long va), .second, .val (.long vb), .second, .val (.long vc), .second, .val (.int sf), .val (.int rq), .val (.int o1), .val (.int o2), .val (.int m1), .val (.int rr), .val (.int i1), .val (.int i2), .val (.int of), .val (.ref b84), .unset, .unset, .unset, .unset, .unset, .unset, .unset, .unset, .unset, .unset, .unset, .unset, .unset, .unset, .unset] [(.ref b88)])) st88 ?_
        refine own_st (T' := T88) (g' := (mkF m 251 #[.val (.int se), .val (.long va), .second, .val (.long vb), .second, .val (.long vc), .second, .val (.int sf), .val (.int rq), .val (.int o1), .val (.int o2), .val (.int m1), .val (.int rr), .val (.int i1), .val (.int i2), .val (.int of), .val (.ref b84), .val (.ref b88), .unset, .unset, .unset, .unset, .unset, .unset, .unset, .unset, .unset, .unset, .unset, .unset, .unset, .unset] [])) (fun _ zq => XS.astore X88.here hx rfl (hb hby at_249) rfl rfl (l' := #[.val (.int se), .val (.long va), .second, .val (.long vb), .second, .val (.long vc), .second, .val (.int sf), .val (.int rq), .val (.int o1), .val (.int o2), .val (.int m1), .val (.int rr), .val (.int i1), .val (.int i2), .val (.int of), .val (.ref b84), .val (.ref b88), .unset, .unset, .unset, .unset, .unset, .unset, .unset, .unset, .unset, .unset, .unset, .unset, .unset, .unset]) rfl zq) ?_
        exact J251 T88 _ h88 (X88.more (Nat.le_of_ble_eq_true rfl) (Nat.le_of_ble_eq_true rfl)) e88 N Zs b88 _ ([] : List (Nat × Int64)) O V_b84 V_b88 (Or.inr (Or.inr (Or.inr ⟨hi1, hi2, rfl⟩))) trivial (Nat.le_of_ble_eq_true rfl) ne_b84_b88
      · skip
        refine own_st (T' := T86) (g' := (mkF m 227 #[.val (.int se), .val (.long va), .second, .val (.long vb), .second, .val (.long vc), .second, .val (.int sf), .val (.int rq), .val (.int o1), .val (.int o2), .val (.int m1), .val (.int rr), .val (.int i1), .val (.int i2), .val (.int of), .val (.ref b84), .unset, .unset, .unset, .unset, .unset, .unset, .unset, .unset, .unset, .unset, .unset, .unset, .unset, .unset, .unset] [])) (fun _ zq => XS.ifNo X86.here hx rfl (hb hby at_224) rfl ((if0 _ _).trans (feq hi2).1) zq) ?_
        refine own_st (T' := T86) (g' := (mkF m 228 #[.val (.int se), .val (.long va), .second, .val (.long vb), .second, .val (.long vc), .second, .val (.int sf), .val (.int rq), .val (.int o1), .val (.int o2), .val (.int m1), .val (.int rr), .val (.int i1), .val (.int i2), .val (.int of), .val (.ref b84), .unset, .unset, .unset, .unset, .unset, .unset, .unset, .unset, .unset, .unset, .unset, .unset, .unset, .unset, .unset] [(.int (2 : Int32))])) (fun _ zq => XS.iconst X86.here hx rfl (hb hby at_227) zq) ?_
        obtain ⟨T89, h89, k89, X89, e89, E89, A89, st89⟩ := newP X86 hx hZ (hw _ (List.mem_of_getElem? (i := 0) rfl)) e86 (g := (mkF m 228 #[.val (.int se), .val (.long va), .second, .val (.long vb), .second, .val (.long vc), .second, .val (.int sf), .val (.int rq), .val (.int o1), .val (.int o2), .val (.int m1), .val (.int rr), .val (.int i1), .val (.int i2), .val (.int of), .val (.ref b84), .unset, .unset, .unset, .unset, .unset, .unset, .unset, .unset, .unset, .unset, .unset, .unset, .unset, .unset, .unset] [(.int (2 : Int32))])) rfl (hb hby at_228) rfl (by decide) (cap := 2) (by decide) (by decide) (by decide) (by decide)
        obtain ⟨b89, ga89⟩ : ∃ z, z = h86.size := ⟨_, rfl⟩
        rw [← ga89] at A89 st89
        have g_b89 : n0 ≤ b89 := Nat.le_trans Zs (Nat.le_of_eq ga89.symm)
        have ne_b84_b89 : b84 ≠ b89 := fun q => Nat.lt_irrefl _ (Nat.lt_of_lt_of_eq V_b84.lt (ga89.symm.trans q.symm))
        replace O := O.ext E89
        replace V_b84 := V_b84.ext E89
        replace Zs := Nat.le_trans Zs E89.1
        have V_b89 : own_AV Z h89 b89 .long 2 (fun _ => .long (0 : Int64)) := own_AV.new A89 rfl
        refine own_st (g' := (mkF m 230 #[.val (.int se), .val (.long va), .second, .val (.long vb), .second, .val (.long vc), .second, .val (.int sf), .val (.int rq), .val (.int o1), .val (.int o2), .val (.int m1), .val (.int rr), .val (.int i1), .val (.int i2), .val (.int of), .val (.ref b84), .unset, .unset, .unset, .unset, .unset, .unset, .unset, .unset, .unset, .unset, .unset, .unset, .unset, .unset, .unset] [(.ref b89)])) st89 ?_
        refine own_st (T' := T89) (g' := (mkF m 231 #[.val (.int se), .val (.long va), .second, .val (.long vb), .second, .val (.long vc), .second, .val (.int sf), .val (.int rq), .val (.int o1), .val (.int o2), .val (.int m1), .val (.int rr), .val (.int i1), .val (.int i2), .val (.int of), .val (.ref b84), .unset, .unset, .unset, .unset, .unset, .unset, .unset, .unset, .unset, .unset, .unset, .unset, .unset, .unset, .unset] [(.ref b89), (.ref b89)])) (fun _ zq => XS.dup X89.here hx rfl (hb hby at_230) rfl rfl zq) ?_
        refine own_st (T' := T89) (g' := (mkF m 232 #[.val (.int se), .val (.long va), .second, .val (.long vb), .second, .val (.long vc), .second, .val (.int sf), .val (.int rq), .val (.int o1), .val (.int o2), .val (.int m1), .val (.int rr), .val (.int i1), .val (.int i2), .val (.int of), .val (.ref b84), .unset, .unset, .unset, .unset, .unset, .unset, .unset, .unset, .unset, .unset, .unset, .unset, .unset, .unset, .unset] [(.int (0 : Int32)), (.ref b89), (.ref b89)])) (fun _ zq => XS.iconst X89.here hx rfl (hb hby at_231) zq) ?_
        refine own_st (T' := T89) (g' := (mkF m 234 #[.val (.int se), .val (.long va), .second, .val (.long vb), .second, .val (.long vc), .second, .val (.int sf), .val (.int rq), .val (.int o1), .val (.int o2), .val (.int m1), .val (.int rr), .val (.int i1), .val (.int i2), .val (.int of), .val (.ref b84), .unset, .unset, .unset, .unset, .unset, .unset, .unset, .unset, .unset, .unset, .unset, .unset, .unset, .unset, .unset] [(.int o2), (.int (0 : Int32)), (.ref b89), (.ref b89)])) (fun _ zq => XS.iload X89.here hx rfl (hb hby at_232) rfl zq) ?_
        refine own_st (T' := T89) (g' := (mkF m 235 #[.val (.int se), .val (.long va), .second, .val (.long vb), .second, .val (.long vc), .second, .val (.int sf), .val (.int rq), .val (.int o1), .val (.int o2), .val (.int m1), .val (.int rr), .val (.int i1), .val (.int i2), .val (.int of), .val (.ref b84), .unset, .unset, .unset, .unset, .unset, .unset, .unset, .unset, .unset, .unset, .unset, .unset, .unset, .unset, .unset] [(.long (o2.toInt64)), (.int (0 : Int32)), (.ref b89), (.ref b89)])) (fun _ zq => XS.i2l X89.here hx rfl (hb hby at_234) rfl zq) ?_
        obtain ⟨T90, h90, X90, e90, W90, V90, st90⟩ := own_stJ X89 hx hZ e89 V_b89 (j := (0 : Int32)) (0) rfl (by decide) (g := (mkF m 235 #[.val (.int se), .val (.long va), .second, .val (.long vb), .second, .val (.long vc), .second, .val (.int sf), .val (.int rq), .val (.int o1), .val (.int o2), .val (.int m1), .val (.int rr), .val (.int i1), .val (.int i2), .val (.int of), .val (.ref b84), .unset, .unset, .unset, .unset, .unset, .unset, .unset, .unset, .unset, .unset, .unset, .unset, .unset, .unset, .unset] [(.long (o2.toInt64)), (.int (0 : Int32)), (.ref b89), (.ref b89)])) rfl rfl (hb hby at_235)
        replace O := O.wr W90 g_b89
        replace V_b84 := V_b84.other W90 ne_b84_b89
        replace Zs := Nat.le_trans Zs (Keep.of_wr W90).1
        replace V_b89 := V90
        replace N := Fr.snoc X90 N g_b89
        refine own_st (g' := (mkF m 236 #[.val (.int se), .val (.long va), .second, .val (.long vb), .second, .val (.long vc), .second, .val (.int sf), .val (.int rq), .val (.int o1), .val (.int o2), .val (.int m1), .val (.int rr), .val (.int i1), .val (.int i2), .val (.int of), .val (.ref b84), .unset, .unset, .unset, .unset, .unset, .unset, .unset, .unset, .unset, .unset, .unset, .unset, .unset, .unset, .unset] [(.ref b89)])) st90 ?_
        refine own_st (T' := T90) (g' := (mkF m 237 #[.val (.int se), .val (.long va), .second, .val (.long vb), .second, .val (.long vc), .second, .val (.int sf), .val (.int rq), .val (.int o1), .val (.int o2), .val (.int m1), .val (.int rr), .val (.int i1), .val (.int i2), .val (.int of), .val (.ref b84), .unset, .unset, .unset, .unset, .unset, .unset, .unset, .unset, .unset, .unset, .unset, .unset, .unset, .unset, .unset] [(.ref b89), (.ref b89)])) (fun _ zq => XS.dup X90.here hx rfl (hb hby at_236) rfl rfl zq) ?_
        refine own_st (T' := T90) (g' := (mkF m 238 #[.val (.int se), .val (.long va), .second, .val (.long vb), .second, .val (.long vc), .second, .val (.int sf), .val (.int rq), .val (.int o1), .val (.int o2), .val (.int m1), .val (.int rr), .val (.int i1), .val (.int i2), .val (.int of), .val (.ref b84), .unset, .unset, .unset, .unset, .unset, .unset, .unset, .unset, .unset, .unset, .unset, .unset, .unset, .unset, .unset] [(.int (1 : Int32)), (.ref b89), (.ref b89)])) (fun _ zq => XS.iconst X90.here hx rfl (hb hby at_237) zq) ?_
        refine own_st (T' := T90) (g' := (mkF m 240 #[.val (.int se), .val (.long va), .second, .val (.long vb), .second, .val (.long vc), .second, .val (.int sf), .val (.int rq), .val (.int o1), .val (.int o2), .val (.int m1), .val (.int rr), .val (.int i1), .val (.int i2), .val (.int of), .val (.ref b84), .unset, .unset, .unset, .unset, .unset, .unset, .unset, .unset, .unset, .unset, .unset, .unset, .unset, .unset, .unset] [(.long vc), (.int (1 : Int32)), (.ref b89), (.ref b89)])) (fun _ zq => XS.lload X90.here hx rfl (hb hby at_238) rfl zq) ?_
        obtain ⟨T91, h91, X91, e91, W91, V91, st91⟩ := own_stJ X90 hx hZ e90 V_b89 (j := (1 : Int32)) (1) rfl (by decide) (g := (mkF m 240 #[.val (.int se), .val (.long va), .second, .val (.long vb), .second, .val (.long vc), .second, .val (.int sf), .val (.int rq), .val (.int o1), .val (.int o2), .val (.int m1), .val (.int rr), .val (.int i1), .val (.int i2), .val (.int of), .val (.ref b84), .unset, .unset, .unset, .unset, .unset, .unset, .unset, .unset, .unset, .unset, .unset, .unset, .unset, .unset, .unset] [(.long vc), (.int (1 : Int32)), (.ref b89), (.ref b89)])) rfl rfl (hb hby at_240)
        replace O := O.wr W91 g_b89
        replace V_b84 := V_b84.other W91 ne_b84_b89
        replace Zs := Nat.le_trans Zs (Keep.of_wr W91).1
        replace V_b89 := V91
        replace N := Fr.snoc X91 N g_b89
        refine own_st (g' := (mkF m 241 #[.val (.int se), .val (.long va), .second, .val (.long vb), .second, .val (.long vc), .second, .val (.int sf), .val (.int rq), .val (.int o1), .val (.int o2), .val (.int m1), .val (.int rr), .val (.int i1), .val (.int i2), .val (.int of), .val (.ref b84), .unset, .unset, .unset, .unset, .unset, .unset, .unset, .unset, .unset, .unset, .unset, .unset, .unset, .unset, .unset] [(.ref b89)])) st91 ?_
        refine own_st (T' := T91) (g' := (mkF m 243 #[.val (.int se), .val (.long va), .second, .val (.long vb), .second, .val (.long vc), .second, .val (.int sf), .val (.int rq), .val (.int o1), .val (.int o2), .val (.int m1), .val (.int rr), .val (.int i1), .val (.int i2), .val (.int of), .val (.ref b84), .val (.ref b89), .unset, .unset, .unset, .unset, .unset, .unset, .unset, .unset, .unset, .unset, .unset, .unset, .unset, .unset] [])) (fun _ zq => XS.astore X91.here hx rfl (hb hby at_241) rfl rfl (l' := #[.val (.int se), .val (.long va), .second, .val (.long vb), .second, .val (.long vc), .second, .val (.int sf), .val (.int rq), .val (.int o1), .val (.int o2), .val (.int m1), .val (.int rr), .val (.int i1), .val (.int i2), .val (.int of), .val (.ref b84), .val (.ref b89), .unset, .unset, .unset, .unset, .unset, .unset, .unset, .unset, .unset, .unset, .unset, .unset, .unset, .unset]) rfl zq) ?_
        refine own_st (T' := T91) (g' := (mkF m 251 #[.val (.int se), .val (.long va), .second, .val (.long vb), .second, .val (.long vc), .second, .val (.int sf), .val (.int rq), .val (.int o1), .val (.int o2), .val (.int m1), .val (.int rr), .val (.int i1), .val (.int i2), .val (.int of), .val (.ref b84), .val (.ref b89), .unset, .unset, .unset, .unset, .unset, .unset, .unset, .unset, .unset, .unset, .unset, .unset, .unset, .unset] [])) (fun _ zq => XS.goto X91.here hx rfl (pc0 := 243) (pc' := 251) rfl (hb hby at_243) (by decide) (by decide) zq) ?_
        exact J251 T91 _ h91 (X91.more (Nat.le_of_ble_eq_true rfl) (Nat.le_of_ble_eq_true rfl)) e91 N Zs b89 _ [(o2n, vc)] O V_b84 V_b89 (Or.inr (Or.inr (Or.inl ⟨hi1, hi2, rfl⟩))) ⟨⟨o2, ho2, hl2.1, rfl, rfl⟩, trivial⟩ (Nat.le_of_ble_eq_true rfl) ne_b84_b89
    · skip
      refine own_st (T' := T86) (g' := (mkF m 133 #[.val (.int se), .val (.long va), .second, .val (.long vb), .second, .val (.long vc), .second, .val (.int sf), .val (.int rq), .val (.int o1), .val (.int o2), .val (.int m1), .val (.int rr), .val (.int i1), .val (.int i2), .val (.int of), .val (.ref b84), .unset, .unset, .unset, .unset, .unset, .unset, .unset, .unset, .unset, .unset, .unset, .unset, .unset, .unset, .unset] [])) (fun _ zq => XS.ifNo X86.here hx rfl (hb hby at_130) rfl ((if0 _ _).trans (feq hi1).1) zq) ?_
      refine own_st (T' := T86) (g' := (mkF m 135 #[.val (.int se), .val (.long va), .second, .val (.long vb), .second, .val (.long vc), .second, .val (.int sf), .val (.int rq), .val (.int o1), .val (.int o2), .val (.int m1), .val (.int rr), .val (.int i1), .val (.int i2), .val (.int of), .val (.ref b84), .unset, .unset, .unset, .unset, .unset, .unset, .unset, .unset, .unset, .unset, .unset, .unset, .unset, .unset, .unset] [(.int i2)])) (fun _ zq => XS.iload X86.here hx rfl (hb hby at_133) rfl zq) ?_
      by_cases hi2 : i2 = (0 : Int32)
      · skip
        refine own_st (T' := T86) (g' := (mkF m 199 #[.val (.int se), .val (.long va), .second, .val (.long vb), .second, .val (.long vc), .second, .val (.int sf), .val (.int rq), .val (.int o1), .val (.int o2), .val (.int m1), .val (.int rr), .val (.int i1), .val (.int i2), .val (.int of), .val (.ref b84), .unset, .unset, .unset, .unset, .unset, .unset, .unset, .unset, .unset, .unset, .unset, .unset, .unset, .unset, .unset] [])) (fun _ zq => XS.ifYes X86.here hx rfl (pc0 := 135) (pc' := 199) rfl (hb hby at_135) rfl ((if0 _ _).trans (teq hi2).1) (by decide) (by decide) zq) ?_
        refine own_st (T' := T86) (g' := (mkF m 201 #[.val (.int se), .val (.long va), .second, .val (.long vb), .second, .val (.long vc), .second, .val (.int sf), .val (.int rq), .val (.int o1), .val (.int o2), .val (.int m1), .val (.int rr), .val (.int i1), .val (.int i2), .val (.int of), .val (.ref b84), .unset, .unset, .unset, .unset, .unset, .unset, .unset, .unset, .unset, .unset, .unset, .unset, .unset, .unset, .unset] [(.int i1)])) (fun _ zq => XS.iload X86.here hx rfl (hb hby at_199) rfl zq) ?_
        refine own_st (T' := T86) (g' := (mkF m 204 #[.val (.int se), .val (.long va), .second, .val (.long vb), .second, .val (.long vc), .second, .val (.int sf), .val (.int rq), .val (.int o1), .val (.int o2), .val (.int m1), .val (.int rr), .val (.int i1), .val (.int i2), .val (.int of), .val (.ref b84), .unset, .unset, .unset, .unset, .unset, .unset, .unset, .unset, .unset, .unset, .unset, .unset, .unset, .unset, .unset] [])) (fun _ zq => XS.ifNo X86.here hx rfl (hb hby at_201) rfl ((if0 _ _).trans (feq hi1).1) zq) ?_
        refine own_st (T' := T86) (g' := (mkF m 205 #[.val (.int se), .val (.long va), .second, .val (.long vb), .second, .val (.long vc), .second, .val (.int sf), .val (.int rq), .val (.int o1), .val (.int o2), .val (.int m1), .val (.int rr), .val (.int i1), .val (.int i2), .val (.int of), .val (.ref b84), .unset, .unset, .unset, .unset, .unset, .unset, .unset, .unset, .unset, .unset, .unset, .unset, .unset, .unset, .unset] [(.int (2 : Int32))])) (fun _ zq => XS.iconst X86.here hx rfl (hb hby at_204) zq) ?_
        obtain ⟨T92, h92, k92, X92, e92, E92, A92, st92⟩ := newP X86 hx hZ (hw _ (List.mem_of_getElem? (i := 0) rfl)) e86 (g := (mkF m 205 #[.val (.int se), .val (.long va), .second, .val (.long vb), .second, .val (.long vc), .second, .val (.int sf), .val (.int rq), .val (.int o1), .val (.int o2), .val (.int m1), .val (.int rr), .val (.int i1), .val (.int i2), .val (.int of), .val (.ref b84), .unset, .unset, .unset, .unset, .unset, .unset, .unset, .unset, .unset, .unset, .unset, .unset, .unset, .unset, .unset] [(.int (2 : Int32))])) rfl (hb hby at_205) rfl (by decide) (cap := 2) (by decide) (by decide) (by decide) (by decide)
        obtain ⟨b92, ga92⟩ : ∃ z, z = h86.size := ⟨_, rfl⟩
        rw [← ga92] at A92 st92
        have g_b92 : n0 ≤ b92 := Nat.le_trans Zs (Nat.le_of_eq ga92.symm)
        have ne_b84_b92 : b84 ≠ b92 := fun q => Nat.lt_irrefl _ (Nat.lt_of_lt_of_eq V_b84.lt (ga92.symm.trans q.symm))
        replace O := O.ext E92
        replace V_b84 := V_b84.ext E92
        replace Zs := Nat.le_trans Zs E92.1
        have V_b92 : own_AV Z h92 b92 .long 2 (fun _ => .long (0 : Int64)) := own_AV.new A92 rfl
        refine own_st (g' := (mkF m 207 #[.val (.int se), .val (.long va), .second, .val (.long vb), .second, .val (.long vc), .second, .val (.int sf), .val (.int rq), .val (.int o1), .val (.int o2), .val (.int m1), .val (.int rr), .val (.int i1), .val (.int i2), .val (.int of), .val (.ref b84), .unset, .unset, .unset, .unset, .unset, .unset, .unset, .unset, .unset, .unset, .unset, .unset, .unset, .unset, .unset] [(.ref b92)])) st92 ?_
        refine own_st (T' := T92) (g' := (mkF m 208 #[.val (.int se), .val (.long va), .second, .val (.long vb), .second, .val (.long vc), .second, .val (.int sf), .val (.int rq), .val (.int o1), .val (.int o2), .val (.int m1), .val (.int rr), .val (.int i1), .val (.int i2), .val (.int of), .val (.ref b84), .unset, .unset, .unset, .unset, .unset, .unset, .unset, .unset, .unset, .unset, .unset, .unset, .unset, .unset, .unset] [(.ref b92), (.ref b92)])) (fun _ zq => XS.dup X92.here hx rfl (hb hby at_207) rfl rfl zq) ?_
        refine own_st (T' := T92) (g' := (mkF m 209 #[.val (.int se), .val (.long va), .second, .val (.long vb), .second, .val (.long vc), .second, .val (.int sf), .val (.int rq), .val (.int o1), .val (.int o2), .val (.int m1), .val (.int rr), .val (.int i1), .val (.int i2), .val (.int of), .val (.ref b84), .unset, .unset, .unset, .unset, .unset, .unset, .unset, .unset, .unset, .unset, .unset, .unset, .unset, .unset, .unset] [(.int (0 : Int32)), (.ref b92), (.ref b92)])) (fun _ zq => XS.iconst X92.here hx rfl (hb hby at_208) zq) ?_
        refine own_st (T' := T92) (g' := (mkF m 211 #[.val (.int se), .val (.long va), .second, .val (.long vb), .second, .val (.long vc), .second, .val (.int sf), .val (.int rq), .val (.int o1), .val (.int o2), .val (.int m1), .val (.int rr), .val (.int i1), .val (.int i2), .val (.int of), .val (.ref b84), .unset, .unset, .unset, .unset, .unset, .unset, .unset, .unset, .unset, .unset, .unset, .unset, .unset, .unset, .unset] [(.int o1), (.int (0 : Int32)), (.ref b92), (.ref b92)])) (fun _ zq => XS.iload X92.here hx rfl (hb hby at_209) rfl zq) ?_
        refine own_st (T' := T92) (g' := (mkF m 212 #[.val (.int se), .val (.long va), .second, .val (.long vb), .second, .val (.long vc), .second, .val (.int sf), .val (.int rq), .val (.int o1), .val (.int o2), .val (.int m1), .val (.int rr), .val (.int i1), .val (.int i2), .val (.int of), .val (.ref b84), .unset, .unset, .unset, .unset, .unset, .unset, .unset, .unset, .unset, .unset, .unset, .unset, .unset, .unset, .unset] [(.long (o1.toInt64)), (.int (0 : Int32)), (.ref b92), (.ref b92)])) (fun _ zq => XS.i2l X92.here hx rfl (hb hby at_211) rfl zq) ?_
        obtain ⟨T93, h93, X93, e93, W93, V93, st93⟩ := own_stJ X92 hx hZ e92 V_b92 (j := (0 : Int32)) (0) rfl (by decide) (g := (mkF m 212 #[.val (.int se), .val (.long va), .second, .val (.long vb), .second, .val (.long vc), .second, .val (.int sf), .val (.int rq), .val (.int o1), .val (.int o2), .val (.int m1), .val (.int rr), .val (.int i1), .val (.int i2), .val (.int of), .val (.ref b84), .unset, .unset, .unset, .unset, .unset, .unset, .unset, .unset, .unset, .unset, .unset, .unset, .unset, .unset, .unset] [(.long (o1.toInt64)), (.int (0 : Int32)), (.ref b92), (.ref b92)])) rfl rfl (hb hby at_212)
        replace O := O.wr W93 g_b92
        replace V_b84 := V_b84.other W93 ne_b84_b92
        replace Zs := Nat.le_trans Zs (Keep.of_wr W93).1
        replace V_b92 := V93
        replace N := Fr.snoc X93 N g_b92
        refine own_st (g' := (mkF m 213 #[.val (.int se), .val (.long va), .second, .val (.long vb), .second, .val (.long vc), .second, .val (.int sf), .val (.int rq), .val (.int o1), .val (.int o2), .val (.int m1), .val (.int rr), .val (.int i1), .val (.int i2), .val (.int of), .val (.ref b84), .unset, .unset, .unset, .unset, .unset, .unset, .unset, .unset, .unset, .unset, .unset, .unset, .unset, .unset, .unset] [(.ref b92)])) st93 ?_
        refine own_st (T' := T93) (g' := (mkF m 214 #[.val (.int se), .val (.long va), .second, .val (.long vb), .second, .val (.long vc), .second, .val (.int sf), .val (.int rq), .val (.int o1), .val (.int o2), .val (.int m1), .val (.int rr), .val (.int i1), .val (.int i2), .val (.int of), .val (.ref b84), .unset, .unset, .unset, .unset, .unset, .unset, .unset, .unset, .unset, .unset, .unset, .unset, .unset, .unset, .unset] [(.ref b92), (.ref b92)])) (fun _ zq => XS.dup X93.here hx rfl (hb hby at_213) rfl rfl zq) ?_
        refine own_st (T' := T93) (g' := (mkF m 215 #[.val (.int se), .val (.long va), .second, .val (.long vb), .second, .val (.long vc), .second, .val (.int sf), .val (.int rq), .val (.int o1), .val (.int o2), .val (.int m1), .val (.int rr), .val (.int i1), .val (.int i2), .val (.int of), .val (.ref b84), .unset, .unset, .unset, .unset, .unset, .unset, .unset, .unset, .unset, .unset, .unset, .unset, .unset, .unset, .unset] [(.int (1 : Int32)), (.ref b92), (.ref b92)])) (fun _ zq => XS.iconst X93.here hx rfl (hb hby at_214) zq) ?_
        refine own_st (T' := T93) (g' := (mkF m 216 #[.val (.int se), .val (.long va), .second, .val (.long vb), .second, .val (.long vc), .second, .val (.int sf), .val (.int rq), .val (.int o1), .val (.int o2), .val (.int m1), .val (.int rr), .val (.int i1), .val (.int i2), .val (.int of), .val (.ref b84), .unset, .unset, .unset, .unset, .unset, .unset, .unset, .unset, .unset, .unset, .unset, .unset, .unset, .unset, .unset] [(.long vb), (.int (1 : Int32)), (.ref b92), (.ref b92)])) (fun _ zq => XS.lloadN X93.here hx rfl (hb hby at_215) rfl zq) ?_
        obtain ⟨T94, h94, X94, e94, W94, V94, st94⟩ := own_stJ X93 hx hZ e93 V_b92 (j := (1 : Int32)) (1) rfl (by decide) (g := (mkF m 216 #[.val (.int se), .val (.long va), .second, .val (.long vb), .second, .val (.long vc), .second, .val (.int sf), .val (.int rq), .val (.int o1), .val (.int o2), .val (.int m1), .val (.int rr), .val (.int i1), .val (.int i2), .val (.int of), .val (.ref b84), .unset, .unset, .unset, .unset, .unset, .unset, .unset, .unset, .unset, .unset, .unset, .unset, .unset, .unset, .unset] [(.long vb), (.int (1 : Int32)), (.ref b92), (.ref b92)])) rfl rfl (hb hby at_216)
        replace O := O.wr W94 g_b92
        replace V_b84 := V_b84.other W94 ne_b84_b92
        replace Zs := Nat.le_trans Zs (Keep.of_wr W94).1
        replace V_b92 := V94
        replace N := Fr.snoc X94 N g_b92
        refine own_st (g' := (mkF m 217 #[.val (.int se), .val (.long va), .second, .val (.long vb), .second, .val (.long vc), .second, .val (.int sf), .val (.int rq), .val (.int o1), .val (.int o2), .val (.int m1), .val (.int rr), .val (.int i1), .val (.int i2), .val (.int of), .val (.ref b84), .unset, .unset, .unset, .unset, .unset, .unset, .unset, .unset, .unset, .unset, .unset, .unset, .unset, .unset, .unset] [(.ref b92)])) st94 ?_
        refine own_st (T' := T94) (g' := (mkF m 219 #[.val (.int se), .val (.long va), .second, .val (.long vb), .second, .val (.long vc), .second, .val (.int sf), .val (.int rq), .val (.int o1), .val (.int o2), .val (.int m1), .val (.int rr), .val (.int i1), .val (.int i2), .val (.int of), .val (.ref b84), .val (.ref b92), .unset, .unset, .unset, .unset, .unset, .unset, .unset, .unset, .unset, .unset, .unset, .unset, .unset, .unset] [])) (fun _ zq => XS.astore X94.here hx rfl (hb hby at_217) rfl rfl (l' := #[.val (.int se), .val (.long va), .second, .val (.long vb), .second, .val (.long vc), .second, .val (.int sf), .val (.int rq), .val (.int o1), .val (.int o2), .val (.int m1), .val (.int rr), .val (.int i1), .val (.int i2), .val (.int of), .val (.ref b84), .val (.ref b92), .unset, .unset, .unset, .unset, .unset, .unset, .unset, .unset, .unset, .unset, .unset, .unset, .unset, .unset]) rfl zq) ?_
        refine own_st (T' := T94) (g' := (mkF m 251 #[.val (.int se), .val (.long va), .second, .val (.long vb), .second, .val (.long vc), .second, .val (.int sf), .val (.int rq), .val (.int o1), .val (.int o2), .val (.int m1), .val (.int rr), .val (.int i1), .val (.int i2), .val (.int of), .val (.ref b84), .val (.ref b92), .unset, .unset, .unset, .unset, .unset, .unset, .unset, .unset, .unset, .unset, .unset, .unset, .unset, .unset] [])) (fun _ zq => XS.goto X94.here hx rfl (pc0 := 219) (pc' := 251) rfl (hb hby at_219) (by decide) (by decide) zq) ?_
        exact J251 T94 _ h94 (X94.more (Nat.le_of_ble_eq_true rfl) (Nat.le_of_ble_eq_true rfl)) e94 N Zs b92 _ [(o1n, vb)] O V_b84 V_b92 (Or.inr (Or.inl ⟨hi1, hi2, rfl⟩)) ⟨⟨o1, ho1, hl1.1, rfl, rfl⟩, trivial⟩ (Nat.le_of_ble_eq_true rfl) ne_b84_b92
      · skip
        refine own_st (T' := T86) (g' := (mkF m 138 #[.val (.int se), .val (.long va), .second, .val (.long vb), .second, .val (.long vc), .second, .val (.int sf), .val (.int rq), .val (.int o1), .val (.int o2), .val (.int m1), .val (.int rr), .val (.int i1), .val (.int i2), .val (.int of), .val (.ref b84), .unset, .unset, .unset, .unset, .unset, .unset, .unset, .unset, .unset, .unset, .unset, .unset, .unset, .unset, .unset] [])) (fun _ zq => XS.ifNo X86.here hx rfl (hb hby at_135) rfl ((if0 _ _).trans (feq hi2).1) zq) ?_
        refine own_st (T' := T86) (g' := (mkF m 140 #[.val (.int se), .val (.long va), .second, .val (.long vb), .second, .val (.long vc), .second, .val (.int sf), .val (.int rq), .val (.int o1), .val (.int o2), .val (.int m1), .val (.int rr), .val (.int i1), .val (.int i2), .val (.int of), .val (.ref b84), .unset, .unset, .unset, .unset, .unset, .unset, .unset, .unset, .unset, .unset, .unset, .unset, .unset, .unset, .unset] [(.int of)])) (fun _ zq => XS.iload X86.here hx rfl (hb hby at_138) rfl zq) ?_
        by_cases hof : of = (0 : Int32)
        · skip
          refine own_st (T' := T86) (g' := (mkF m 170 #[.val (.int se), .val (.long va), .second, .val (.long vb), .second, .val (.long vc), .second, .val (.int sf), .val (.int rq), .val (.int o1), .val (.int o2), .val (.int m1), .val (.int rr), .val (.int i1), .val (.int i2), .val (.int of), .val (.ref b84), .unset, .unset, .unset, .unset, .unset, .unset, .unset, .unset, .unset, .unset, .unset, .unset, .unset, .unset, .unset] [])) (fun _ zq => XS.ifYes X86.here hx rfl (pc0 := 140) (pc' := 170) rfl (hb hby at_140) rfl ((if0 _ _).trans (teq hof).1) (by decide) (by decide) zq) ?_
          refine own_st (T' := T86) (g' := (mkF m 171 #[.val (.int se), .val (.long va), .second, .val (.long vb), .second, .val (.long vc), .second, .val (.int sf), .val (.int rq), .val (.int o1), .val (.int o2), .val (.int m1), .val (.int rr), .val (.int i1), .val (.int i2), .val (.int of), .val (.ref b84), .unset, .unset, .unset, .unset, .unset, .unset, .unset, .unset, .unset, .unset, .unset, .unset, .unset, .unset, .unset] [(.int (4 : Int32))])) (fun _ zq => XS.iconst X86.here hx rfl (hb hby at_170) zq) ?_
          obtain ⟨T95, h95, k95, X95, e95, E95, A95, st95⟩ := newP X86 hx hZ (hw _ (List.mem_of_getElem? (i := 0) rfl)) e86 (g := (mkF m 171 #[.val (.int se), .val (.long va), .second, .val (.long vb), .second, .val (.long vc), .second, .val (.int sf), .val (.int rq), .val (.int o1), .val (.int o2), .val (.int m1), .val (.int rr), .val (.int i1), .val (.int i2), .val (.int of), .val (.ref b84), .unset, .unset, .unset, .unset, .unset, .unset, .unset, .unset, .unset, .unset, .unset, .unset, .unset, .unset, .unset] [(.int (4 : Int32))])) rfl (hb hby at_171) rfl (by decide) (cap := 4) (by decide) (by decide) (by decide) (by decide)
          obtain ⟨b95, ga95⟩ : ∃ z, z = h86.size := ⟨_, rfl⟩
          rw [← ga95] at A95 st95
          have g_b95 : n0 ≤ b95 := Nat.le_trans Zs (Nat.le_of_eq ga95.symm)
          have ne_b84_b95 : b84 ≠ b95 := fun q => Nat.lt_irrefl _ (Nat.lt_of_lt_of_eq V_b84.lt (ga95.symm.trans q.symm))
          replace O := O.ext E95
          replace V_b84 := V_b84.ext E95
          replace Zs := Nat.le_trans Zs E95.1
          have V_b95 : own_AV Z h95 b95 .long 4 (fun _ => .long (0 : Int64)) := own_AV.new A95 rfl
          refine own_st (g' := (mkF m 173 #[.val (.int se), .val (.long va), .second, .val (.long vb), .second, .val (.long vc), .second, .val (.int sf), .val (.int rq), .val (.int o1), .val (.int o2), .val (.int m1), .val (.int rr), .val (.int i1), .val (.int i2), .val (.int of), .val (.ref b84), .unset, .unset, .unset, .unset, .unset, .unset, .unset, .unset, .unset, .unset, .unset, .unset, .unset, .unset, .unset] [(.ref b95)])) st95 ?_
          refine own_st (T' := T95) (g' := (mkF m 174 #[.val (.int se), .val (.long va), .second, .val (.long vb), .second, .val (.long vc), .second, .val (.int sf), .val (.int rq), .val (.int o1), .val (.int o2), .val (.int m1), .val (.int rr), .val (.int i1), .val (.int i2), .val (.int of), .val (.ref b84), .unset, .unset, .unset, .unset, .unset, .unset, .unset, .unset, .unset, .unset, .unset, .unset, .unset, .unset, .unset] [(.ref b95), (.ref b95)])) (fun _ zq => XS.dup X95.here hx rfl (hb hby at_173) rfl rfl zq) ?_
          refine own_st (T' := T95) (g' := (mkF m 175 #[.val (.int se), .val (.long va), .second, .val (.long vb), .second, .val (.long vc), .second, .val (.int sf), .val (.int rq), .val (.int o1), .val (.int o2), .val (.int m1), .val (.int rr), .val (.int i1), .val (.int i2), .val (.int of), .val (.ref b84), .unset, .unset, .unset, .unset, .unset, .unset, .unset, .unset, .unset, .unset, .unset, .unset, .unset, .unset, .unset] [(.int (0 : Int32)), (.ref b95), (.ref b95)])) (fun _ zq => XS.iconst X95.here hx rfl (hb hby at_174) zq) ?_
          refine own_st (T' := T95) (g' := (mkF m 177 #[.val (.int se), .val (.long va), .second, .val (.long vb), .second, .val (.long vc), .second, .val (.int sf), .val (.int rq), .val (.int o1), .val (.int o2), .val (.int m1), .val (.int rr), .val (.int i1), .val (.int i2), .val (.int of), .val (.ref b84), .unset, .unset, .unset, .unset, .unset, .unset, .unset, .unset, .unset, .unset, .unset, .unset, .unset, .unset, .unset] [(.int o1), (.int (0 : Int32)), (.ref b95), (.ref b95)])) (fun _ zq => XS.iload X95.here hx rfl (hb hby at_175) rfl zq) ?_
          refine own_st (T' := T95) (g' := (mkF m 178 #[.val (.int se), .val (.long va), .second, .val (.long vb), .second, .val (.long vc), .second, .val (.int sf), .val (.int rq), .val (.int o1), .val (.int o2), .val (.int m1), .val (.int rr), .val (.int i1), .val (.int i2), .val (.int of), .val (.ref b84), .unset, .unset, .unset, .unset, .unset, .unset, .unset, .unset, .unset, .unset, .unset, .unset, .unset, .unset, .unset] [(.long (o1.toInt64)), (.int (0 : Int32)), (.ref b95), (.ref b95)])) (fun _ zq => XS.i2l X95.here hx rfl (hb hby at_177) rfl zq) ?_
          obtain ⟨T96, h96, X96, e96, W96, V96, st96⟩ := own_stJ X95 hx hZ e95 V_b95 (j := (0 : Int32)) (0) rfl (by decide) (g := (mkF m 178 #[.val (.int se), .val (.long va), .second, .val (.long vb), .second, .val (.long vc), .second, .val (.int sf), .val (.int rq), .val (.int o1), .val (.int o2), .val (.int m1), .val (.int rr), .val (.int i1), .val (.int i2), .val (.int of), .val (.ref b84), .unset, .unset, .unset, .unset, .unset, .unset, .unset, .unset, .unset, .unset, .unset, .unset, .unset, .unset, .unset] [(.long (o1.toInt64)), (.int (0 : Int32)), (.ref b95), (.ref b95)])) rfl rfl (hb hby at_178)
          replace O := O.wr W96 g_b95
          replace V_b84 := V_b84.other W96 ne_b84_b95
          replace Zs := Nat.le_trans Zs (Keep.of_wr W96).1
          replace V_b95 := V96
          replace N := Fr.snoc X96 N g_b95
          refine own_st (g' := (mkF m 179 #[.val (.int se), .val (.long va), .second, .val (.long vb), .second, .val (.long vc), .second, .val (.int sf), .val (.int rq), .val (.int o1), .val (.int o2), .val (.int m1), .val (.int rr), .val (.int i1), .val (.int i2), .val (.int of), .val (.ref b84), .unset, .unset, .unset, .unset, .unset, .unset, .unset, .unset, .unset, .unset, .unset, .unset, .unset, .unset, .unset] [(.ref b95)])) st96 ?_
          refine own_st (T' := T96) (g' := (mkF m 180 #[.val (.int se), .val (.long va), .second, .val (.long vb), .second, .val (.long vc), .second, .val (.int sf), .val (.int rq), .val (.int o1), .val (.int o2), .val (.int m1), .val (.int rr), .val (.int i1), .val (.int i2), .val (.int of), .val (.ref b84), .unset, .unset, .unset, .unset, .unset, .unset, .unset, .unset, .unset, .unset, .unset, .unset, .unset, .unset, .unset] [(.ref b95), (.ref b95)])) (fun _ zq => XS.dup X96.here hx rfl (hb hby at_179) rfl rfl zq) ?_
          refine own_st (T' := T96) (g' := (mkF m 181 #[.val (.int se), .val (.long va), .second, .val (.long vb), .second, .val (.long vc), .second, .val (.int sf), .val (.int rq), .val (.int o1), .val (.int o2), .val (.int m1), .val (.int rr), .val (.int i1), .val (.int i2), .val (.int of), .val (.ref b84), .unset, .unset, .unset, .unset, .unset, .unset, .unset, .unset, .unset, .unset, .unset, .unset, .unset, .unset, .unset] [(.int (1 : Int32)), (.ref b95), (.ref b95)])) (fun _ zq => XS.iconst X96.here hx rfl (hb hby at_180) zq) ?_
          refine own_st (T' := T96) (g' := (mkF m 182 #[.val (.int se), .val (.long va), .second, .val (.long vb), .second, .val (.long vc), .second, .val (.int sf), .val (.int rq), .val (.int o1), .val (.int o2), .val (.int m1), .val (.int rr), .val (.int i1), .val (.int i2), .val (.int of), .val (.ref b84), .unset, .unset, .unset, .unset, .unset, .unset, .unset, .unset, .unset, .unset, .unset, .unset, .unset, .unset, .unset] [(.long vb), (.int (1 : Int32)), (.ref b95), (.ref b95)])) (fun _ zq => XS.lloadN X96.here hx rfl (hb hby at_181) rfl zq) ?_
          obtain ⟨T97, h97, X97, e97, W97, V97, st97⟩ := own_stJ X96 hx hZ e96 V_b95 (j := (1 : Int32)) (1) rfl (by decide) (g := (mkF m 182 #[.val (.int se), .val (.long va), .second, .val (.long vb), .second, .val (.long vc), .second, .val (.int sf), .val (.int rq), .val (.int o1), .val (.int o2), .val (.int m1), .val (.int rr), .val (.int i1), .val (.int i2), .val (.int of), .val (.ref b84), .unset, .unset, .unset, .unset, .unset, .unset, .unset, .unset, .unset, .unset, .unset, .unset, .unset, .unset, .unset] [(.long vb), (.int (1 : Int32)), (.ref b95), (.ref b95)])) rfl rfl (hb hby at_182)
          replace O := O.wr W97 g_b95
          replace V_b84 := V_b84.other W97 ne_b84_b95
          replace Zs := Nat.le_trans Zs (Keep.of_wr W97).1
          replace V_b95 := V97
          replace N := Fr.snoc X97 N g_b95
          refine own_st (g' := (mkF m 183 #[.val (.int se), .val (.long va), .second, .val (.long vb), .second, .val (.long vc), .second, .val (.int sf), .val (.int rq), .val (.int o1), .val (.int o2), .val (.int m1), .val (.int rr), .val (.int i1), .val (.int i2), .val (.int of), .val (.ref b84), .unset, .unset, .unset, .unset, .unset, .unset, .unset, .unset, .unset, .unset, .unset, .unset, .unset, .unset, .unset] [(.ref b95)])) st97 ?_
          refine own_st (T' := T97) (g' := (mkF m 184 #[.val (.int se), .val (.long va), .second, .val (.long vb), .second, .val (.long vc), .second, .val (.int sf), .val (.int rq), .val (.int o1), .val (.int o2), .val (.int m1), .val (.int rr), .val (.int i1), .val (.int i2), .val (.int of), .val (.ref b84), .unset, .unset, .unset, .unset, .unset, .unset, .unset, .unset, .unset, .unset, .unset, .unset, .unset, .unset, .unset] [(.ref b95), (.ref b95)])) (fun _ zq => XS.dup X97.here hx rfl (hb hby at_183) rfl rfl zq) ?_
          refine own_st (T' := T97) (g' := (mkF m 185 #[.val (.int se), .val (.long va), .second, .val (.long vb), .second, .val (.long vc), .second, .val (.int sf), .val (.int rq), .val (.int o1), .val (.int o2), .val (.int m1), .val (.int rr), .val (.int i1), .val (.int i2), .val (.int of), .val (.ref b84), .unset, .unset, .unset, .unset, .unset, .unset, .unset, .unset, .unset, .unset, .unset, .unset, .unset, .unset, .unset] [(.int (2 : Int32)), (.ref b95), (.ref b95)])) (fun _ zq => XS.iconst X97.here hx rfl (hb hby at_184) zq) ?_
          refine own_st (T' := T97) (g' := (mkF m 187 #[.val (.int se), .val (.long va), .second, .val (.long vb), .second, .val (.long vc), .second, .val (.int sf), .val (.int rq), .val (.int o1), .val (.int o2), .val (.int m1), .val (.int rr), .val (.int i1), .val (.int i2), .val (.int of), .val (.ref b84), .unset, .unset, .unset, .unset, .unset, .unset, .unset, .unset, .unset, .unset, .unset, .unset, .unset, .unset, .unset] [(.int o2), (.int (2 : Int32)), (.ref b95), (.ref b95)])) (fun _ zq => XS.iload X97.here hx rfl (hb hby at_185) rfl zq) ?_
          refine own_st (T' := T97) (g' := (mkF m 188 #[.val (.int se), .val (.long va), .second, .val (.long vb), .second, .val (.long vc), .second, .val (.int sf), .val (.int rq), .val (.int o1), .val (.int o2), .val (.int m1), .val (.int rr), .val (.int i1), .val (.int i2), .val (.int of), .val (.ref b84), .unset, .unset, .unset, .unset, .unset, .unset, .unset, .unset, .unset, .unset, .unset, .unset, .unset, .unset, .unset] [(.long (o2.toInt64)), (.int (2 : Int32)), (.ref b95), (.ref b95)])) (fun _ zq => XS.i2l X97.here hx rfl (hb hby at_187) rfl zq) ?_
          obtain ⟨T98, h98, X98, e98, W98, V98, st98⟩ := own_stJ X97 hx hZ e97 V_b95 (j := (2 : Int32)) (2) rfl (by decide) (g := (mkF m 188 #[.val (.int se), .val (.long va), .second, .val (.long vb), .second, .val (.long vc), .second, .val (.int sf), .val (.int rq), .val (.int o1), .val (.int o2), .val (.int m1), .val (.int rr), .val (.int i1), .val (.int i2), .val (.int of), .val (.ref b84), .unset, .unset, .unset, .unset, .unset, .unset, .unset, .unset, .unset, .unset, .unset, .unset, .unset, .unset, .unset] [(.long (o2.toInt64)), (.int (2 : Int32)), (.ref b95), (.ref b95)])) rfl rfl (hb hby at_188)
          replace O := O.wr W98 g_b95
          replace V_b84 := V_b84.other W98 ne_b84_b95
          replace Zs := Nat.le_trans Zs (Keep.of_wr W98).1
          replace V_b95 := V98
          replace N := Fr.snoc X98 N g_b95
          refine own_st (g' := (mkF m 189 #[.val (.int se), .val (.long va), .second, .val (.long vb), .second, .val (.long vc), .second, .val (.int sf), .val (.int rq), .val (.int o1), .val (.int o2), .val (.int m1), .val (.int rr), .val (.int i1), .val (.int i2), .val (.int of), .val (.ref b84), .unset, .unset, .unset, .unset, .unset, .unset, .unset, .unset, .unset, .unset, .unset, .unset, .unset, .unset, .unset] [(.ref b95)])) st98 ?_
          refine own_st (T' := T98) (g' := (mkF m 190 #[.val (.int se), .val (.long va), .second, .val (.long vb), .second, .val (.long vc), .second, .val (.int sf), .val (.int rq), .val (.int o1), .val (.int o2), .val (.int m1), .val (.int rr), .val (.int i1), .val (.int i2), .val (.int of), .val (.ref b84), .unset, .unset, .unset, .unset, .unset, .unset, .unset, .unset, .unset, .unset, .unset, .unset, .unset, .unset, .unset] [(.ref b95), (.ref b95)])) (fun _ zq => XS.dup X98.here hx rfl (hb hby at_189) rfl rfl zq) ?_
          refine own_st (T' := T98) (g' := (mkF m 191 #[.val (.int se), .val (.long va), .second, .val (.long vb), .second, .val (.long vc), .second, .val (.int sf), .val (.int rq), .val (.int o1), .val (.int o2), .val (.int m1), .val (.int rr), .val (.int i1), .val (.int i2), .val (.int of), .val (.ref b84), .unset, .unset, .unset, .unset, .unset, .unset, .unset, .unset, .unset, .unset, .unset, .unset, .unset, .unset, .unset] [(.int (3 : Int32)), (.ref b95), (.ref b95)])) (fun _ zq => XS.iconst X98.here hx rfl (hb hby at_190) zq) ?_
          refine own_st (T' := T98) (g' := (mkF m 193 #[.val (.int se), .val (.long va), .second, .val (.long vb), .second, .val (.long vc), .second, .val (.int sf), .val (.int rq), .val (.int o1), .val (.int o2), .val (.int m1), .val (.int rr), .val (.int i1), .val (.int i2), .val (.int of), .val (.ref b84), .unset, .unset, .unset, .unset, .unset, .unset, .unset, .unset, .unset, .unset, .unset, .unset, .unset, .unset, .unset] [(.long vc), (.int (3 : Int32)), (.ref b95), (.ref b95)])) (fun _ zq => XS.lload X98.here hx rfl (hb hby at_191) rfl zq) ?_
          obtain ⟨T99, h99, X99, e99, W99, V99, st99⟩ := own_stJ X98 hx hZ e98 V_b95 (j := (3 : Int32)) (3) rfl (by decide) (g := (mkF m 193 #[.val (.int se), .val (.long va), .second, .val (.long vb), .second, .val (.long vc), .second, .val (.int sf), .val (.int rq), .val (.int o1), .val (.int o2), .val (.int m1), .val (.int rr), .val (.int i1), .val (.int i2), .val (.int of), .val (.ref b84), .unset, .unset, .unset, .unset, .unset, .unset, .unset, .unset, .unset, .unset, .unset, .unset, .unset, .unset, .unset] [(.long vc), (.int (3 : Int32)), (.ref b95), (.ref b95)])) rfl rfl (hb hby at_193)
          replace O := O.wr W99 g_b95
          replace V_b84 := V_b84.other W99 ne_b84_b95
          replace Zs := Nat.le_trans Zs (Keep.of_wr W99).1
          replace V_b95 := V99
          replace N := Fr.snoc X99 N g_b95
          refine own_st (g' := (mkF m 194 #[.val (.int se), .val (.long va), .second, .val (.long vb), .second, .val (.long vc), .second, .val (.int sf), .val (.int rq), .val (.int o1), .val (.int o2), .val (.int m1), .val (.int rr), .val (.int i1), .val (.int i2), .val (.int of), .val (.ref b84), .unset, .unset, .unset, .unset, .unset, .unset, .unset, .unset, .unset, .unset, .unset, .unset, .unset, .unset, .unset] [(.ref b95)])) st99 ?_
          refine own_st (T' := T99) (g' := (mkF m 196 #[.val (.int se), .val (.long va), .second, .val (.long vb), .second, .val (.long vc), .second, .val (.int sf), .val (.int rq), .val (.int o1), .val (.int o2), .val (.int m1), .val (.int rr), .val (.int i1), .val (.int i2), .val (.int of), .val (.ref b84), .val (.ref b95), .unset, .unset, .unset, .unset, .unset, .unset, .unset, .unset, .unset, .unset, .unset, .unset, .unset, .unset] [])) (fun _ zq => XS.astore X99.here hx rfl (hb hby at_194) rfl rfl (l' := #[.val (.int se), .val (.long va), .second, .val (.long vb), .second, .val (.long vc), .second, .val (.int sf), .val (.int rq), .val (.int o1), .val (.int o2), .val (.int m1), .val (.int rr), .val (.int i1), .val (.int i2), .val (.int of), .val (.ref b84), .val (.ref b95), .unset, .unset, .unset, .unset, .unset, .unset, .unset, .unset, .unset, .unset, .unset, .unset, .unset, .unset]) rfl zq) ?_
          refine own_st (T' := T99) (g' := (mkF m 251 #[.val (.int se), .val (.long va), .second, .val (.long vb), .second, .val (.long vc), .second, .val (.int sf), .val (.int rq), .val (.int o1), .val (.int o2), .val (.int m1), .val (.int rr), .val (.int i1), .val (.int i2), .val (.int of), .val (.ref b84), .val (.ref b95), .unset, .unset, .unset, .unset, .unset, .unset, .unset, .unset, .unset, .unset, .unset, .unset, .unset, .unset] [])) (fun _ zq => XS.goto X99.here hx rfl (pc0 := 196) (pc' := 251) rfl (hb hby at_196) (by decide) (by decide) zq) ?_
          exact J251 T99 _ h99 (X99.more (Nat.le_of_ble_eq_true rfl) (Nat.le_of_ble_eq_true rfl)) e99 N Zs b95 _ [(o1n, vb), (o2n, vc)] O V_b84 V_b95 (Or.inl ⟨hi1, hi2, Or.inr rfl⟩) ⟨⟨o1, ho1, hl1.1, rfl, rfl⟩, ⟨⟨o2, ho2, hl2.1, rfl, rfl⟩, trivial⟩⟩ (Nat.le_of_ble_eq_true rfl) ne_b84_b95
        · skip
          refine own_st (T' := T86) (g' := (mkF m 143 #[.val (.int se), .val (.long va), .second, .val (.long vb), .second, .val (.long vc), .second, .val (.int sf), .val (.int rq), .val (.int o1), .val (.int o2), .val (.int m1), .val (.int rr), .val (.int i1), .val (.int i2), .val (.int of), .val (.ref b84), .unset, .unset, .unset, .unset, .unset, .unset, .unset, .unset, .unset, .unset, .unset, .unset, .unset, .unset, .unset] [])) (fun _ zq => XS.ifNo X86.here hx rfl (hb hby at_140) rfl ((if0 _ _).trans (feq hof).1) zq) ?_
          refine own_st (T' := T86) (g' := (mkF m 144 #[.val (.int se), .val (.long va), .second, .val (.long vb), .second, .val (.long vc), .second, .val (.int sf), .val (.int rq), .val (.int o1), .val (.int o2), .val (.int m1), .val (.int rr), .val (.int i1), .val (.int i2), .val (.int of), .val (.ref b84), .unset, .unset, .unset, .unset, .unset, .unset, .unset, .unset, .unset, .unset, .unset, .unset, .unset, .unset, .unset] [(.int (4 : Int32))])) (fun _ zq => XS.iconst X86.here hx rfl (hb hby at_143) zq) ?_
          obtain ⟨T100, h100, k100, X100, e100, E100, A100, st100⟩ := newP X86 hx hZ (hw _ (List.mem_of_getElem? (i := 0) rfl)) e86 (g := (mkF m 144 #[.val (.int se), .val (.long va), .second, .val (.long vb), .second, .val (.long vc), .second, .val (.int sf), .val (.int rq), .val (.int o1), .val (.int o2), .val (.int m1), .val (.int rr), .val (.int i1), .val (.int i2), .val (.int of), .val (.ref b84), .unset, .unset, .unset, .unset, .unset, .unset, .unset, .unset, .unset, .unset, .unset, .unset, .unset, .unset, .unset] [(.int (4 : Int32))])) rfl (hb hby at_144) rfl (by decide) (cap := 4) (by decide) (by decide) (by decide) (by decide)
          obtain ⟨b100, ga100⟩ : ∃ z, z = h86.size := ⟨_, rfl⟩
          rw [← ga100] at A100 st100
          have g_b100 : n0 ≤ b100 := Nat.le_trans Zs (Nat.le_of_eq ga100.symm)
          have ne_b84_b100 : b84 ≠ b100 := fun q => Nat.lt_irrefl _ (Nat.lt_of_lt_of_eq V_b84.lt (ga100.symm.trans q.symm))
          replace O := O.ext E100
          replace V_b84 := V_b84.ext E100
          replace Zs := Nat.le_trans Zs E100.1
          have V_b100 : own_AV Z h100 b100 .long 4 (fun _ => .long (0 : Int64)) := own_AV.new A100 rfl
          refine own_st (g' := (mkF m 146 #[.val (.int se), .val (.long va), .second, .val (.long vb), .second, .val (.long vc), .second, .val (.int sf), .val (.int rq), .val (.int o1), .val (.int o2), .val (.int m1), .val (.int rr), .val (.int i1), .val (.int i2), .val (.int of), .val (.ref b84), .unset, .unset, .unset, .unset, .unset, .unset, .unset, .unset, .unset, .unset, .unset, .unset, .unset, .unset, .unset] [(.ref b100)])) st100 ?_
          refine own_st (T' := T100) (g' := (mkF m 147 #[.val (.int se), .val (.long va), .second, .val (.long vb), .second, .val (.long vc), .second, .val (.int sf), .val (.int rq), .val (.int o1), .val (.int o2), .val (.int m1), .val (.int rr), .val (.int i1), .val (.int i2), .val (.int of), .val (.ref b84), .unset, .unset, .unset, .unset, .unset, .unset, .unset, .unset, .unset, .unset, .unset, .unset, .unset, .unset, .unset] [(.ref b100), (.ref b100)])) (fun _ zq => XS.dup X100.here hx rfl (hb hby at_146) rfl rfl zq) ?_
          refine own_st (T' := T100) (g' := (mkF m 148 #[.val (.int se), .val (.long va), .second, .val (.long vb), .second, .val (.long vc), .second, .val (.int sf), .val (.int rq), .val (.int o1), .val (.int o2), .val (.int m1), .val (.int rr), .val (.int i1), .val (.int i2), .val (.int of), .val (.ref b84), .unset, .unset, .unset, .unset, .unset, .unset, .unset, .unset, .unset, .unset, .unset, .unset, .unset, .unset, .unset] [(.int (0 : Int32)), (.ref b100), (.ref b100)])) (fun _ zq => XS.iconst X100.here hx rfl (hb hby at_147) zq) ?_
          refine own_st (T' := T100) (g' := (mkF m 150 #[.val (.int se), .val (.long va), .second, .val (.long vb), .second, .val (.long vc), .second, .val (.int sf), .val (.int rq), .val (.int o1), .val (.int o2), .val (.int m1), .val (.int rr), .val (.int i1), .val (.int i2), .val (.int of), .val (.ref b84), .unset, .unset, .unset, .unset, .unset, .unset, .unset, .unset, .unset, .unset, .unset, .unset, .unset, .unset, .unset] [(.int o2), (.int (0 : Int32)), (.ref b100), (.ref b100)])) (fun _ zq => XS.iload X100.here hx rfl (hb hby at_148) rfl zq) ?_
          refine own_st (T' := T100) (g' := (mkF m 151 #[.val (.int se), .val (.long va), .second, .val (.long vb), .second, .val (.long vc), .second, .val (.int sf), .val (.int rq), .val (.int o1), .val (.int o2), .val (.int m1), .val (.int rr), .val (.int i1), .val (.int i2), .val (.int of), .val (.ref b84), .unset, .unset, .unset, .unset, .unset, .unset, .unset, .unset, .unset, .unset, .unset, .unset, .unset, .unset, .unset] [(.long (o2.toInt64)), (.int (0 : Int32)), (.ref b100), (.ref b100)])) (fun _ zq => XS.i2l X100.here hx rfl (hb hby at_150) rfl zq) ?_
          obtain ⟨T101, h101, X101, e101, W101, V101, st101⟩ := own_stJ X100 hx hZ e100 V_b100 (j := (0 : Int32)) (0) rfl (by decide) (g := (mkF m 151 #[.val (.int se), .val (.long va), .second, .val (.long vb), .second, .val (.long vc), .second, .val (.int sf), .val (.int rq), .val (.int o1), .val (.int o2), .val (.int m1), .val (.int rr), .val (.int i1), .val (.int i2), .val (.int of), .val (.ref b84), .unset, .unset, .unset, .unset, .unset, .unset, .unset, .unset, .unset, .unset, .unset, .unset, .unset, .unset, .unset] [(.long (o2.toInt64)), (.int (0 : Int32)), (.ref b100), (.ref b100)])) rfl rfl (hb hby at_151)
          replace O := O.wr W101 g_b100
          replace V_b84 := V_b84.other W101 ne_b84_b100
          replace Zs := Nat.le_trans Zs (Keep.of_wr W101).1
          replace V_b100 := V101
          replace N := Fr.snoc X101 N g_b100
          refine own_st (g' := (mkF m 152 #[.val (.int se), .val (.long va), .second, .val (.long vb), .second, .val (.long vc), .second, .val (.int sf), .val (.int rq), .val (.int o1), .val (.int o2), .val (.int m1), .val (.int rr), .val (.int i1), .val (.int i2), .val (.int of), .val (.ref b84), .unset, .unset, .unset, .unset, .unset, .unset, .unset, .unset, .unset, .unset, .unset, .unset, .unset, .unset, .unset] [(.ref b100)])) st101 ?_
          refine own_st (T' := T101) (g' := (mkF m 153 #[.val (.int se), .val (.long va), .second, .val (.long vb), .second, .val (.long vc), .second, .val (.int sf), .val (.int rq), .val (.int o1), .val (.int o2), .val (.int m1), .val (.int rr), .val (.int i1), .val (.int i2), .val (.int of), .val (.ref b84), .unset, .unset, .unset, .unset, .unset, .unset, .unset, .unset, .unset, .unset, .unset, .unset, .unset, .unset, .unset] [(.ref b100), (.ref b100)])) (fun _ zq => XS.dup X101.here hx rfl (hb hby at_152) rfl rfl zq) ?_
          refine own_st (T' := T101) (g' := (mkF m 154 #[.val (.int se), .val (.long va), .second, .val (.long vb), .second, .val (.long vc), .second, .val (.int sf), .val (.int rq), .val (.int o1), .val (.int o2), .val (.int m1), .val (.int rr), .val (.int i1), .val (.int i2), .val (.int of), .val (.ref b84), .unset, .unset, .unset, .unset, .unset, .unset, .unset, .unset, .unset, .unset, .unset, .unset, .unset, .unset, .unset] [(.int (1 : Int32)), (.ref b100), (.ref b100)])) (fun _ zq => XS.iconst X101.here hx rfl (hb hby at_153) zq) ?_
          refine own_st (T' := T101) (g' := (mkF m 156 #[.val (.int se), .val (.long va), .second, .val (.long vb), .second, .val (.long vc), .second, .val (.int sf), .val (.int rq), .val (.int o1), .val (.int o2), .val (.int m1), .val (.int rr), .val (.int i1), .val (.int i2), .val (.int of), .val (.ref b84), .unset, .unset, .unset, .unset, .unset, .unset, .unset, .unset, .unset, .unset, .unset, .unset, .unset, .unset, .unset] [(.long vc), (.int (1 : Int32)), (.ref b100), (.ref b100)])) (fun _ zq => XS.lload X101.here hx rfl (hb hby at_154) rfl zq) ?_
          obtain ⟨T102, h102, X102, e102, W102, V102, st102⟩ := own_stJ X101 hx hZ e101 V_b100 (j := (1 : Int32)) (1) rfl (by decide) (g := (mkF m 156 #[.val (.int se), .val (.long va), .second, .val (.long vb), .second, .val (.long vc), .second, .val (.int sf), .val (.int rq), .val (.int o1), .val (.int o2), .val (.int m1), .val (.int rr), .val (.int i1), .val (.int i2), .val (.int of), .val (.ref b84), .unset, .unset, .unset, .unset, .unset, .unset, .unset, .unset, .unset, .unset, .unset, .unset, .unset, .unset, .unset] [(.long vc), (.int (1 : Int32)), (.ref b100), (.ref b100)])) rfl rfl (hb hby at_156)
          replace O := O.wr W102 g_b100
          replace V_b84 := V_b84.other W102 ne_b84_b100
          replace Zs := Nat.le_trans Zs (Keep.of_wr W102).1
          replace V_b100 := V102
          replace N := Fr.snoc X102 N g_b100
          refine own_st (g' := (mkF m 157 #[.val (.int se), .val (.long va), .second, .val (.long vb), .second, .val (.long vc), .second, .val (.int sf), .val (.int rq), .val (.int o1), .val (.int o2), .val (.int m1), .val (.int rr), .val (.int i1), .val (.int i2), .val (.int of), .val (.ref b84), .unset, .unset, .unset, .unset, .unset, .unset, .unset, .unset, .unset, .unset, .unset, .unset, .unset, .unset, .unset] [(.ref b100)])) st102 ?_
          refine own_st (T' := T102) (g' := (mkF m 158 #[.val (.int se), .val (.long va), .second, .val (.long vb), .second, .val (.long vc), .second, .val (.int sf), .val (.int rq), .val (.int o1), .val (.int o2), .val (.int m1), .val (.int rr), .val (.int i1), .val (.int i2), .val (.int of), .val (.ref b84), .unset, .unset, .unset, .unset, .unset, .unset, .unset, .unset, .unset, .unset, .unset, .unset, .unset, .unset, .unset] [(.ref b100), (.ref b100)])) (fun _ zq => XS.dup X102.here hx rfl (hb hby at_157) rfl rfl zq) ?_
          refine own_st (T' := T102) (g' := (mkF m 159 #[.val (.int se), .val (.long va), .second, .val (.long vb), .second, .val (.long vc), .second, .val (.int sf), .val (.int rq), .val (.int o1), .val (.int o2), .val (.int m1), .val (.int rr), .val (.int i1), .val (.int i2), .val (.int of), .val (.ref b84), .unset, .unset, .unset, .unset, .unset, .unset, .unset, .unset, .unset, .unset, .unset, .unset, .unset, .unset, .unset] [(.int (2 : Int32)), (.ref b100), (.ref b100)])) (fun _ zq => XS.iconst X102.here hx rfl (hb hby at_158) zq) ?_
          refine own_st (T' := T102) (g' := (mkF m 161 #[.val (.int se), .val (.long va), .second, .val (.long vb), .second, .val (.long vc), .second, .val (.int sf), .val (.int rq), .val (.int o1), .val (.int o2), .val (.int m1), .val (.int rr), .val (.int i1), .val (.int i2), .val (.int of), .val (.ref b84), .unset, .unset, .unset, .unset, .unset, .unset, .unset, .unset, .unset, .unset, .unset, .unset, .unset, .unset, .unset] [(.int o1), (.int (2 : Int32)), (.ref b100), (.ref b100)])) (fun _ zq => XS.iload X102.here hx rfl (hb hby at_159) rfl zq) ?_
          refine own_st (T' := T102) (g' := (mkF m 162 #[.val (.int se), .val (.long va), .second, .val (.long vb), .second, .val (.long vc), .second, .val (.int sf), .val (.int rq), .val (.int o1), .val (.int o2), .val (.int m1), .val (.int rr), .val (.int i1), .val (.int i2), .val (.int of), .val (.ref b84), .unset, .unset, .unset, .unset, .unset, .unset, .unset, .unset, .unset, .unset, .unset, .unset, .unset, .unset, .unset] [(.long (o1.toInt64)), (.int (2 : Int32)), (.ref b100), (.ref b100)])) (fun _ zq => XS.i2l X102.here hx rfl (hb hby at_161) rfl zq) ?_
          obtain ⟨T103, h103, X103, e103, W103, V103, st103⟩ := own_stJ X102 hx hZ e102 V_b100 (j := (2 : Int32)) (2) rfl (by decide) (g := (mkF m 162 #[.val (.int se), .val (.long va), .second, .val (.long vb), .second, .val (.long vc), .second, .val (.int sf), .val (.int rq), .val (.int o1), .val (.int o2), .val (.int m1), .val (.int rr), .val (.int i1), .val (.int i2), .val (.int of), .val (.ref b84), .unset, .unset, .unset, .unset, .unset, .unset, .unset, .unset, .unset, .unset, .unset, .unset, .unset, .unset, .unset] [(.long (o1.toInt64)), (.int (2 : Int32)), (.ref b100), (.ref b100)])) rfl rfl (hb hby at_162)
          replace O := O.wr W103 g_b100
          replace V_b84 := V_b84.other W103 ne_b84_b100
          replace Zs := Nat.le_trans Zs (Keep.of_wr W103).1
          replace V_b100 := V103
          replace N := Fr.snoc X103 N g_b100
          refine own_st (g' := (mkF m 163 #[.val (.int se), .val (.long va), .second, .val (.long vb), .second, .val (.long vc), .second, .val (.int sf), .val (.int rq), .val (.int o1), .val (.int o2), .val (.int m1), .val (.int rr), .val (.int i1), .val (.int i2), .val (.int of), .val (.ref b84), .unset, .unset, .unset, .unset, .unset, .unset, .unset, .unset, .unset, .unset, .unset, .unset, .unset, .unset, .unset] [(.ref b100)])) st103 ?_
          refine own_st (T' := T103) (g' := (mkF m 164 #[.val (.int se), .val (.long va), .second, .val (.long vb), .second, .val (.long vc), .second, .val (.int sf), .val (.int rq), .val (.int o1), .val (.int o2), .val (.int m1), .val (.int rr), .val (.int i1), .val (.int i2), .val (.int of), .val (.ref b84), .unset, .unset, .unset, .unset, .unset, .unset, .unset, .unset, .unset, .unset, .unset, .unset, .unset, .unset, .unset] [(.ref b100), (.ref b100)])) (fun _ zq => XS.dup X103.here hx rfl (hb hby at_163) rfl rfl zq) ?_
          refine own_st (T' := T103) (g' := (mkF m 165 #[.val (.int se), .val (.long va), .second, .val (.long vb), .second, .val (.long vc), .second, .val (.int sf), .val (.int rq), .val (.int o1), .val (.int o2), .val (.int m1), .val (.int rr), .val (.int i1), .val (.int i2), .val (.int of), .val (.ref b84), .unset, .unset, .unset, .unset, .unset, .unset, .unset, .unset, .unset, .unset, .unset, .unset, .unset, .unset, .unset] [(.int (3 : Int32)), (.ref b100), (.ref b100)])) (fun _ zq => XS.iconst X103.here hx rfl (hb hby at_164) zq) ?_
          refine own_st (T' := T103) (g' := (mkF m 166 #[.val (.int se), .val (.long va), .second, .val (.long vb), .second, .val (.long vc), .second, .val (.int sf), .val (.int rq), .val (.int o1), .val (.int o2), .val (.int m1), .val (.int rr), .val (.int i1), .val (.int i2), .val (.int of), .val (.ref b84), .unset, .unset, .unset, .unset, .unset, .unset, .unset, .unset, .unset, .unset, .unset, .unset, .unset, .unset, .unset] [(.long vb), (.int (3 : Int32)), (.ref b100), (.ref b100)])) (fun _ zq => XS.lloadN X103.here hx rfl (hb hby at_165) rfl zq) ?_
          obtain ⟨T104, h104, X104, e104, W104, V104, st104⟩ := own_stJ X103 hx hZ e103 V_b100 (j := (3 : Int32)) (3) rfl (by decide) (g := (mkF m 166 #[.val (.int se), .val (.long va), .second, .val (.long vb), .second, .val (.long vc), .second, .val (.int sf), .val (.int rq), .val (.int o1), .val (.int o2), .val (.int m1), .val (.int rr), .val (.int i1), .val (.int i2), .val (.int of), .val (.ref b84), .unset, .unset, .unset, .unset, .unset, .unset, .unset, .unset, .unset, .unset, .unset, .unset, .unset, .unset, .unset] [(.long vb), (.int (3 : Int32)), (.ref b100), (.ref b100)])) rfl rfl (hb hby at_166)
          replace O := O.wr W104 g_b100
          replace V_b84 := V_b84.other W104 ne_b84_b100
          replace Zs := Nat.le_trans Zs (Keep.of_wr W104).1
          replace V_b100 := V104
          replace N := Fr.snoc X104 N g_b100
          refine own_st (g' := (mkF m 167 #[.val (.int se), .val (.long va), .second, .val (.long vb), .second, .val (.long vc), .second, .val (.int sf), .val (.int rq), .val (.int o1), .val (.int o2), .val (.int m1), .val (.int rr), .val (.int i1), .val (.int i2), .val (.int of), .val (.ref b84), .unset, .unset, .unset, .unset, .unset, .unset, .unset, .unset, .unset, .unset, .unset, .unset, .unset, .unset, .unset] [(.ref b100)])) st104 ?_
          refine own_st (T' := T104) (g' := (mkF m 194 #[.val (.int se), .val (.long va), .second, .val (.long vb), .second, .val (.long vc), .second, .val (.int sf), .val (.int rq), .val (.int o1), .val (.int o2), .val (.int m1), .val (.int rr), .val (.int i1), .val (.int i2), .val (.int of), .val (.ref b84), .unset, .unset, .unset, .unset, .unset, .unset, .unset, .unset, .unset, .unset, .unset, .unset, .unset, .unset, .unset] [(.ref b100)])) (fun _ zq => XS.goto X104.here hx rfl (pc0 := 167) (pc' := 194) rfl (hb hby at_167) (by decide) (by decide) zq) ?_
          refine own_st (T' := T104) (g' := (mkF m 196 #[.val (.int se), .val (.long va), .second, .val (.long vb), .second, .val (.long vc), .second, .val (.int sf), .val (.int rq), .val (.int o1), .val (.int o2), .val (.int m1), .val (.int rr), .val (.int i1), .val (.int i2), .val (.int of), .val (.ref b84), .val (.ref b100), .unset, .unset, .unset, .unset, .unset, .unset, .unset, .unset, .unset, .unset, .unset, .unset, .unset, .unset] [])) (fun _ zq => XS.astore X104.here hx rfl (hb hby at_194) rfl rfl (l' := #[.val (.int se), .val (.long va), .second, .val (.long vb), .second, .val (.long vc), .second, .val (.int sf), .val (.int rq), .val (.int o1), .val (.int o2), .val (.int m1), .val (.int rr), .val (.int i1), .val (.int i2), .val (.int of), .val (.ref b84), .val (.ref b100), .unset, .unset, .unset, .unset, .unset, .unset, .unset, .unset, .unset, .unset, .unset, .unset, .unset, .unset]) rfl zq) ?_
          refine own_st (T' := T104) (g' := (mkF m 251 #[.val (.int se), .val (.long va), .second, .val (.long vb), .second, .val (.long vc), .second, .val (.int sf), .val (.int rq), .val (.int o1), .val (.int o2), .val (.int m1), .val (.int rr), .val (.int i1), .val (.int i2), .val (.int of), .val (.ref b84), .val (.ref b100), .unset, .unset, .unset, .unset, .unset, .unset, .unset, .unset, .unset, .unset, .unset, .unset, .unset, .unset] [])) (fun _ zq => XS.goto X104.here hx rfl (pc0 := 196) (pc' := 251) rfl (hb hby at_196) (by decide) (by decide) zq) ?_
          exact J251 T104 _ h104 (X104.more (Nat.le_of_ble_eq_true rfl) (Nat.le_of_ble_eq_true rfl)) e104 N Zs b100 _ [(o2n, vc), (o1n, vb)] O V_b84 V_b100 (Or.inl ⟨hi1, hi2, Or.inl rfl⟩) ⟨⟨o2, ho2, hl2.1, rfl, rfl⟩, ⟨⟨o1, ho1, hl1.1, rfl, rfl⟩, trivial⟩⟩ (Nat.le_of_ble_eq_true rfl) ne_b84_b100
  intro T87 lo87 h87 X87 e87 N87 Z87 a2 f2 es O V_b84 V_2 hes hms hle ne12
  obtain ⟨T105, h105, X105, e105, E105, A105, D105, -, st105⟩ := newO X87 hx hZ hown (hw _ (List.mem_of_getElem? (i := 1) rfl)) (hw _ (List.mem_of_getElem? (i := 2) rfl)) (hw _ (List.mem_of_getElem? (i := 3) rfl)) e87 (g := (mkF m 251 #[.val (.int se), .val (.long va), .second, .val (.long vb), .second, .val (.long vc), .second, .val (.int sf), .val (.int rq), .val (.int o1), .val (.int o2), .val (.int m1), .val (.int rr), .val (.int i1), .val (.int i2), .val (.int of), .val (.ref b84), .val (.ref a2), .unset, .unset, .unset, .unset, .unset, .unset, .unset, .unset, .unset, .unset, .unset, .unset, .unset, .unset] [])) rfl (hb hby at_251) (by decide) (by decide)
  obtain ⟨b105, ga105⟩ : ∃ z, z = h87.size := ⟨_, rfl⟩
  rw [← ga105] at A105 D105 st105
  have g_b105 : n0 ≤ b105 := Nat.le_trans Z87 (Nat.le_of_eq ga105.symm)
  have ne_b84_b105 : b84 ≠ b105 := fun q => Nat.lt_irrefl _ (Nat.lt_of_lt_of_eq V_b84.lt (ga105.symm.trans q.symm))
  have ne_a2_b105 : a2 ≠ b105 := fun q => Nat.lt_irrefl _ (Nat.lt_of_lt_of_eq V_2.lt (ga105.symm.trans q.symm))
  have E_b105 := A105
  replace O := O.ext E105
  replace V_b84 := V_b84.ext E105
  replace V_2 := V_2.ext E105
  replace Z87 := Nat.le_trans Z87 E105.1
  have F_b105_self : Fld Z h105 b105 "com/example/coterie/coterie/runtime/KnownRequests" "self" "I" (.int (0 : Int32)) := D105 (Or.inr (hw _ (List.mem_of_getElem? (i := 11) rfl))) (ty := .int) (by decide)
  have F_b105_known : Fld Z h105 b105 "com/example/coterie/coterie/runtime/KnownRequests" "known" "[J" .null := D105 (Or.inr (hw _ (List.mem_of_getElem? (i := 13) rfl))) (ty := (.array .long)) (by decide)
  have F_b105_roseAt : Fld Z h105 b105 "com/example/coterie/coterie/runtime/KnownRequests" "roseAt" "[J" .null := D105 (Or.inr (hw _ (List.mem_of_getElem? (i := 15) rfl))) (ty := (.array .long)) (by decide)
  have F_b105_told : Fld Z h105 b105 "com/example/coterie/coterie/runtime/KnownRequests" "told" "[J" .null := D105 (Or.inr (hw _ (List.mem_of_getElem? (i := 17) rfl))) (ty := (.array .long)) (by decide)
  have F_b105_rises : Fld Z h105 b105 "com/example/coterie/coterie/runtime/KnownRequests" "rises" "J" (.long (0 : Int64)) := D105 (Or.inl (hw _ (List.mem_of_getElem? (i := 28) rfl))) (ty := .long) (by decide)
  refine own_st (g' := (mkF m 254 #[.val (.int se), .val (.long va), .second, .val (.long vb), .second, .val (.long vc), .second, .val (.int sf), .val (.int rq), .val (.int o1), .val (.int o2), .val (.int m1), .val (.int rr), .val (.int i1), .val (.int i2), .val (.int of), .val (.ref b84), .val (.ref a2), .unset, .unset, .unset, .unset, .unset, .unset, .unset, .unset, .unset, .unset, .unset, .unset, .unset, .unset] [(.ref b105)])) st105 ?_
  refine own_st (T' := T105) (g' := (mkF m 255 #[.val (.int se), .val (.long va), .second, .val (.long vb), .second, .val (.long vc), .second, .val (.int sf), .val (.int rq), .val (.int o1), .val (.int o2), .val (.int m1), .val (.int rr), .val (.int i1), .val (.int i2), .val (.int of), .val (.ref b84), .val (.ref a2), .unset, .unset, .unset, .unset, .unset, .unset, .unset, .unset, .unset, .unset, .unset, .unset, .unset, .unset] [(.ref b105), (.ref b105)])) (fun _ zq => XS.dup X105.here hx rfl (hb hby at_254) rfl rfl zq) ?_
  refine own_st (T' := T105) (g' := (mkF m 257 #[.val (.int se), .val (.long va), .second, .val (.long vb), .second, .val (.long vc), .second, .val (.int sf), .val (.int rq), .val (.int o1), .val (.int o2), .val (.int m1), .val (.int rr), .val (.int i1), .val (.int i2), .val (.int of), .val (.ref b84), .val (.ref a2), .unset, .unset, .unset, .unset, .unset, .unset, .unset, .unset, .unset, .unset, .unset, .unset, .unset, .unset] [(.int sf), (.ref b105), (.ref b105)])) (fun _ zq => XS.iload X105.here hx rfl (hb hby at_255) rfl zq) ?_
  refine own_st (T' := T105) (g' := (mkF m 258 #[.val (.int se), .val (.long va), .second, .val (.long vb), .second, .val (.long vc), .second, .val (.int sf), .val (.int rq), .val (.int o1), .val (.int o2), .val (.int m1), .val (.int rr), .val (.int i1), .val (.int i2), .val (.int of), .val (.ref b84), .val (.ref a2), .unset, .unset, .unset, .unset, .unset, .unset, .unset, .unset, .unset, .unset, .unset, .unset, .unset, .unset] [(.int (3 : Int32)), (.int sf), (.ref b105), (.ref b105)])) (fun _ zq => XS.iconst X105.here hx rfl (hb hby at_257) zq) ?_
  have lt1 := V_b84.lt
  have lt2 := V_2.lt
  obtain ⟨_, _, ⟨T106, L106, k106, n106⟩, -, X106, ⟨Lc106, hQ106, l106, y106, z106⟩, st106⟩ := X105.specialBack hx (y := (⟨"com/example/coterie/coterie/runtime/KnownRequests", "<init>", "(II)V"⟩ : MethodName)) rfl hown (mvT hZ (hw _ (List.mem_of_getElem? (i := 4) rfl))) (mvT hZ (hw _ (List.mem_of_getElem? (i := 5) rfl))) (mvT hZ (hw _ (List.mem_of_getElem? (i := 6) rfl))) (by decide) (backOf (W := 1) (rm_kinit l Z a0 hw [] b105 sf h105 n0 Z87 E_b105 F_b105_self F_b105_known F_b105_roseAt F_b105_told F_b105_rises g_b105) hZ (hw _ (List.mem_of_getElem? (i := 6) rfl)) (hw _ (List.mem_of_getElem? (i := 3) rfl)) (by decide) (by decide)) (g := (mkF m 258 #[.val (.int se), .val (.long va), .second, .val (.long vb), .second, .val (.long vc), .second, .val (.int sf), .val (.int rq), .val (.int o1), .val (.int o2), .val (.int m1), .val (.int rr), .val (.int i1), .val (.int i2), .val (.int of), .val (.ref b84), .val (.ref a2), .unset, .unset, .unset, .unset, .unset, .unset, .unset, .unset, .unset, .unset, .unset, .unset, .unset, .unset] [(.int (3 : Int32)), (.int sf), (.ref b105), (.ref b105)])) rfl (by rw [hml]; rfl) (Steps.refl _) (a := b105) (argsL := [(.int sf), (.int (3 : Int32))]) (rest := [(.ref b105)]) (lenOf own_pd4 rfl) rfl (by show 2 * 0 + _ ≤ _; exact Nat.le_of_eq rfl) (hb hby at_258) (fun _ _ => ⟨rfl, e105, (by decide : 3 + 3 ≤ _), (by decide : 11 + 9 ≤ _)⟩)
  dsimp only [Pt.U, Pt.locs, Pt.cells, Pt.slots] at X106 l106 y106 z106 st106 hQ106
  subst l106 y106 z106
  obtain ⟨aK, aR, aT, rfl, Nq106, Kq106, BB, n1, n2, n3, n4, n5, n6, g_aK, g_aR, g_aT, zK, zR, zT⟩ := hQ106
  replace N87 := Fr.app N87 Nq106
  replace O := O.keep Kq106 (allS g_b105 all0)
  replace V_b84 := V_b84.keep Kq106 (ninS ne_b84_b105 nin0)
  replace V_2 := V_2.keep Kq106 (ninS ne_a2_b105 nin0)
  replace Z87 := Nat.le_trans Z87 Kq106.1
  refine own_tr (g' := (mkF m 261 #[.val (.int se), .val (.long va), .second, .val (.long vb), .second, .val (.long vc), .second, .val (.int sf), .val (.int rq), .val (.int o1), .val (.int o2), .val (.int m1), .val (.int rr), .val (.int i1), .val (.int i2), .val (.int of), .val (.ref b84), .val (.ref a2), .unset, .unset, .unset, .unset, .unset, .unset, .unset, .unset, .unset, .unset, .unset, .unset, .unset, .unset] [(.ref b105)])) st106 ?_
  replace BB : own_KR Z T106.heap b105 aK aR aT sf own_z own_z own_z (0 : Int64) := BB
  have ne_b84_aK : b84 ≠ aK := fun q => Nat.lt_irrefl _ (Nat.lt_of_lt_of_le lt1 (q ▸ zK))
  have ne_b84_aR : b84 ≠ aR := fun q => Nat.lt_irrefl _ (Nat.lt_of_lt_of_le lt1 (q ▸ zR))
  have ne_b84_aT : b84 ≠ aT := fun q => Nat.lt_irrefl _ (Nat.lt_of_lt_of_le lt1 (q ▸ zT))
  have ne_a2_aK : a2 ≠ aK := fun q => Nat.lt_irrefl _ (Nat.lt_of_lt_of_le lt2 (q ▸ zK))
  have ne_a2_aR : a2 ≠ aR := fun q => Nat.lt_irrefl _ (Nat.lt_of_lt_of_le lt2 (q ▸ zR))
  have ne_a2_aT : a2 ≠ aT := fun q => Nat.lt_irrefl _ (Nat.lt_of_lt_of_le lt2 (q ▸ zT))
  refine own_st (T' := T106) (g' := (mkF m 263 #[.val (.int se), .val (.long va), .second, .val (.long vb), .second, .val (.long vc), .second, .val (.int sf), .val (.int rq), .val (.int o1), .val (.int o2), .val (.int m1), .val (.int rr), .val (.int i1), .val (.int i2), .val (.int of), .val (.ref b84), .val (.ref a2), .val (.ref b105), .unset, .unset, .unset, .unset, .unset, .unset, .unset, .unset, .unset, .unset, .unset, .unset, .unset] [])) (fun _ zq => XS.astore X106.here hx rfl (hb hby at_261) rfl rfl (l' := #[.val (.int se), .val (.long va), .second, .val (.long vb), .second, .val (.long vc), .second, .val (.int sf), .val (.int rq), .val (.int o1), .val (.int o2), .val (.int m1), .val (.int rr), .val (.int i1), .val (.int i2), .val (.int of), .val (.ref b84), .val (.ref a2), .val (.ref b105), .unset, .unset, .unset, .unset, .unset, .unset, .unset, .unset, .unset, .unset, .unset, .unset, .unset]) rfl zq) ?_
  refine own_st (T' := T106) (g' := (mkF m 265 #[.val (.int se), .val (.long va), .second, .val (.long vb), .second, .val (.long vc), .second, .val (.int sf), .val (.int rq), .val (.int o1), .val (.int o2), .val (.int m1), .val (.int rr), .val (.int i1), .val (.int i2), .val (.int of), .val (.ref b84), .val (.ref a2), .val (.ref b105), .unset, .unset, .unset, .unset, .unset, .unset, .unset, .unset, .unset, .unset, .unset, .unset, .unset] [(.int rq)])) (fun _ zq => XS.iload X106.here hx rfl (hb hby at_263) rfl zq) ?_
  suffices J274 : ∀ (T107 : State) (lo107 : List Loc) (h107 : Heap) (X107 : Stand p l e room_1 s m #[(.int se), (.long va), (.long vb), (.long vc)] below meth c T107 lo107 8 25) (e107 : T107.heap = h107) (N107 : Fr n0 lo107) (Z107 : n0 ≤ h107.size) (K1 : Nat → Int64) (R1 : Nat → Int64) (rs1 : Int64) (O : Old Z n0 h107) (V_b84 : own_AV Z h107 b84 .long 2 (fun i => if i = 1 then (.long va) else (fun i => if i = 0 then (.long (m1.toInt64)) else (fun _ => .long (0 : Int64)) i) i)) (V_2 : own_AV Z h107 a2 .long (2 * es.length) f2) (BB : own_KR Z h107 b105 aK aR aT sf K1 R1 own_z rs1) (hK1 : K1 = if rq = 0 then own_z else own_upd own_z sn (own_z sn + 1)) (hR1 : R1 = if rq = 0 then own_z else own_upd own_z sn ((0 : Int64) + 1)) (hs1 : rs1 = if rq = 0 then (0 : Int64) else (0 : Int64) + 1), own_Go p e below s (Q_law Z se va vb vc aN fN h0 n0) 32 192 T107 (mkF m 274 #[.val (.int se), .val (.long va), .second, .val (.long vb), .second, .val (.long vc), .second, .val (.int sf), .val (.int rq), .val (.int o1), .val (.int o2), .val (.int m1), .val (.int rr), .val (.int i1), .val (.int i2), .val (.int of), .val (.ref b84), .val (.ref a2), .val (.ref b105), .unset, .unset, .unset, .unset, .unset, .unset, .unset, .unset, .unset, .unset, .unset, .unset, .unset] []) by
    by_cases hc : rq = (0 : Int32)
    · skip
      refine own_st (T' := T106) (g' := (mkF m 274 #[.val (.int se), .val (.long va), .second, .val (.long vb), .second, .val (.long vc), .second, .val (.int sf), .val (.int rq), .val (.int o1), .val (.int o2), .val (.int m1), .val (.int rr), .val (.int i1), .val (.int i2), .val (.int of), .val (.ref b84), .val (.ref a2), .val (.ref b105), .unset, .unset, .unset, .unset, .unset, .unset, .unset, .unset, .unset, .unset, .unset, .unset, .unset] [])) (fun _ zq => XS.ifYes X106.here hx rfl (pc0 := 265) (pc' := 274) rfl (hb hby at_265) rfl ((if0 _ _).trans (teq hc).1) (by decide) (by decide) zq) ?_
      exact J274 T106 _ T106.heap (X106.more (Nat.le_of_ble_eq_true rfl) (Nat.le_of_ble_eq_true rfl)) rfl N87 Z87 _ _ _ O V_b84 V_2 BB (if_pos hc).symm (if_pos hc).symm (if_pos hc).symm
    · skip
      refine own_st (T' := T106) (g' := (mkF m 268 #[.val (.int se), .val (.long va), .second, .val (.long vb), .second, .val (.long vc), .second, .val (.int sf), .val (.int rq), .val (.int o1), .val (.int o2), .val (.int m1), .val (.int rr), .val (.int i1), .val (.int i2), .val (.int of), .val (.ref b84), .val (.ref a2), .val (.ref b105), .unset, .unset, .unset, .unset, .unset, .unset, .unset, .unset, .unset, .unset, .unset, .unset, .unset] [])) (fun _ zq => XS.ifNo X106.here hx rfl (hb hby at_265) rfl ((if0 _ _).trans (feq hc).1) zq) ?_
      refine own_st (T' := T106) (g' := (mkF m 270 #[.val (.int se), .val (.long va), .second, .val (.long vb), .second, .val (.long vc), .second, .val (.int sf), .val (.int rq), .val (.int o1), .val (.int o2), .val (.int m1), .val (.int rr), .val (.int i1), .val (.int i2), .val (.int of), .val (.ref b84), .val (.ref a2), .val (.ref b105), .unset, .unset, .unset, .unset, .unset, .unset, .unset, .unset, .unset, .unset, .unset, .unset, .unset] [(.ref b105)])) (fun _ zq => XS.aload X106.here hx rfl (hb hby at_268) rfl rfl zq) ?_
      obtain ⟨cq108, kq108, q108a, q108b, q108c⟩ := isOf hZ rfl BB.1
      obtain ⟨_, _, ⟨T108, L108, k108, n108⟩, -, X108, ⟨Lc108, hQ108, l108, y108, z108⟩, st108⟩ := X106.virtualBack hx (y := (⟨"com/example/coterie/coterie/runtime/KnownRequests", "request", "()Lcom/example/coterie/coterie/message/VectorStamp;"⟩ : MethodName)) (z := (⟨"com/example/coterie/coterie/runtime/KnownRequests", "request", "()Lcom/example/coterie/coterie/message/VectorStamp;"⟩ : MethodName)) hown (mvT hZ (hw _ (List.mem_of_getElem? (i := 60) rfl))) (mvT hZ (hw _ (List.mem_of_getElem? (i := 61) rfl))) (notFace_of_selects (args := #[]) (mvT hZ (hw _ (List.mem_of_getElem? (i := 63) rfl)))) (mvT hZ (hw _ (List.mem_of_getElem? (i := 63) rfl))) (mvT hZ (hw _ (List.mem_of_getElem? (i := 62) rfl))) (by decide) (backOf (W := 0) (rm_request l Z a0 hw [] b105 aK aR aT sf own_z own_z own_z (0 : Int64) sn T106.heap n0 Z87 BB hs hls (show ¬ ((0 : Int64) + 1 < 1) by decide) n1 n2 n3 n4 n5 n6 g_b105 g_aK g_aR g_aT) hZ (hw _ (List.mem_of_getElem? (i := 64) rfl)) (hw _ (List.mem_of_getElem? (i := 3) rfl)) (by decide) (by decide)) q108a q108c (g := (mkF m 270 #[.val (.int se), .val (.long va), .second, .val (.long vb), .second, .val (.long vc), .second, .val (.int sf), .val (.int rq), .val (.int o1), .val (.int o2), .val (.int m1), .val (.int rr), .val (.int i1), .val (.int i2), .val (.int of), .val (.ref b84), .val (.ref a2), .val (.ref b105), .unset, .unset, .unset, .unset, .unset, .unset, .unset, .unset, .unset, .unset, .unset, .unset, .unset] [(.ref b105)])) rfl (by rw [hml]; rfl) (Steps.refl _) (argsL := []) (rest := []) (lenOf own_pd5 rfl) rfl (by show 2 * 0 + _ ≤ _; exact Nat.le_of_eq rfl) (hb hby at_270) (fun _ _ => ⟨rfl, rfl, (by decide : 6 + 2 ≤ _), (by decide : 20 + 5 ≤ _)⟩)
      dsimp only [Pt.U, Pt.locs, Pt.cells, Pt.slots] at X108 l108 y108 z108 st108 hQ108
      subst l108 y108 z108
      obtain ⟨vs, rfl, Nq108, Kq108, BB⟩ := hQ108
      replace N87 := Fr.app N87 Nq108
      replace O := O.keep Kq108 (allS g_b105 (allS g_aK (allS g_aR (allS g_aT all0))))
      replace V_b84 := V_b84.keep Kq108 (ninS ne_b84_b105 (ninS ne_b84_aK (ninS ne_b84_aR (ninS ne_b84_aT nin0))))
      replace V_2 := V_2.keep Kq108 (ninS ne_a2_b105 (ninS ne_a2_aK (ninS ne_a2_aR (ninS ne_a2_aT nin0))))
      replace Z87 := Nat.le_trans Z87 Kq108.1
      refine own_tr (g' := (mkF m 273 #[.val (.int se), .val (.long va), .second, .val (.long vb), .second, .val (.long vc), .second, .val (.int sf), .val (.int rq), .val (.int o1), .val (.int o2), .val (.int m1), .val (.int rr), .val (.int i1), .val (.int i2), .val (.int of), .val (.ref b84), .val (.ref a2), .val (.ref b105), .unset, .unset, .unset, .unset, .unset, .unset, .unset, .unset, .unset, .unset, .unset, .unset, .unset] [(.ref vs)])) st108 ?_
      refine own_st (T' := T108) (g' := (mkF m 274 #[.val (.int se), .val (.long va), .second, .val (.long vb), .second, .val (.long vc), .second, .val (.int sf), .val (.int rq), .val (.int o1), .val (.int o2), .val (.int m1), .val (.int rr), .val (.int i1), .val (.int i2), .val (.int of), .val (.ref b84), .val (.ref a2), .val (.ref b105), .unset, .unset, .unset, .unset, .unset, .unset, .unset, .unset, .unset, .unset, .unset, .unset, .unset] [])) (fun _ zq => XS.pop X108.here hx rfl (hb hby at_273) rfl rfl zq) ?_
      exact J274 T108 _ T108.heap (X108.more (Nat.le_of_ble_eq_true rfl) (Nat.le_of_ble_eq_true rfl)) rfl N87 Z87 _ _ _ O V_b84 V_2 BB (if_neg hc).symm (if_neg hc).symm (if_neg hc).symm
  intro T107 lo107 h107 X107 e107 N107 Z107 K1 R1 rs1 O V_b84 V_2 BB hK1 hR1 hs1
  refine own_st (T' := T107) (g' := (mkF m 276 #[.val (.int se), .val (.long va), .second, .val (.long vb), .second, .val (.long vc), .second, .val (.int sf), .val (.int rq), .val (.int o1), .val (.int o2), .val (.int m1), .val (.int rr), .val (.int i1), .val (.int i2), .val (.int of), .val (.ref b84), .val (.ref a2), .val (.ref b105), .unset, .unset, .unset, .unset, .unset, .unset, .unset, .unset, .unset, .unset, .unset, .unset, .unset] [(.ref b105)])) (fun _ zq => XS.aload X107.here hx rfl (hb hby at_274) rfl rfl zq) ?_
  refine own_st (T' := T107) (g' := (mkF m 278 #[.val (.int se), .val (.long va), .second, .val (.long vb), .second, .val (.long vc), .second, .val (.int sf), .val (.int rq), .val (.int o1), .val (.int o2), .val (.int m1), .val (.int rr), .val (.int i1), .val (.int i2), .val (.int of), .val (.ref b84), .val (.ref a2), .val (.ref b105), .unset, .unset, .unset, .unset, .unset, .unset, .unset, .unset, .unset, .unset, .unset, .unset, .unset] [(.ref b84), (.ref b105)])) (fun _ zq => XS.aload X107.here hx rfl (hb hby at_276) rfl rfl zq) ?_
  obtain ⟨cq109, kq109, q109a, q109b, q109c⟩ := isOf hZ e107 BB.1
  obtain ⟨_, _, ⟨T109, L109, k109, n109⟩, -, X109, ⟨Lc109, hQ109, l109, y109, z109⟩, st109⟩ := X107.virtualBack hx (y := (⟨"com/example/coterie/coterie/runtime/KnownRequests", "learn", "([J)V"⟩ : MethodName)) (z := (⟨"com/example/coterie/coterie/runtime/KnownRequests", "learn", "([J)V"⟩ : MethodName)) hown (mvT hZ (hw _ (List.mem_of_getElem? (i := 18) rfl))) (mvT hZ (hw _ (List.mem_of_getElem? (i := 19) rfl))) (notFace_of_selects (args := #[]) (mvT hZ (hw _ (List.mem_of_getElem? (i := 21) rfl)))) (mvT hZ (hw _ (List.mem_of_getElem? (i := 21) rfl))) (mvT hZ (hw _ (List.mem_of_getElem? (i := 20) rfl))) (by decide) (backOf (W := 0) (rm_learn2 l Z a0 hw [] b105 aK aR aT sf K1 R1 own_z rs1 b84 (fun i => if i = 1 then (.long va) else (fun i => if i = 0 then (.long (m1.toInt64)) else (fun _ => .long (0 : Int64)) i) i) m1 m1n va h107 n0 Z107 BB V_b84 hm1 hlm1.1 rfl rfl n1 n2 n3 n4 n5 n6 g_b105 g_aK g_aR g_aT ne_b84_b105 ne_b84_aK ne_b84_aR ne_b84_aT) hZ (hw _ (List.mem_of_getElem? (i := 22) rfl)) (hw _ (List.mem_of_getElem? (i := 3) rfl)) (by decide) (by decide)) q109a q109c (g := (mkF m 278 #[.val (.int se), .val (.long va), .second, .val (.long vb), .second, .val (.long vc), .second, .val (.int sf), .val (.int rq), .val (.int o1), .val (.int o2), .val (.int m1), .val (.int rr), .val (.int i1), .val (.int i2), .val (.int of), .val (.ref b84), .val (.ref a2), .val (.ref b105), .unset, .unset, .unset, .unset, .unset, .unset, .unset, .unset, .unset, .unset, .unset, .unset, .unset] [(.ref b84), (.ref b105)])) rfl (by rw [hml]; rfl) (Steps.refl _) (argsL := [(.ref b84)]) (rest := []) (lenOf own_pd6 rfl) rfl (by show 2 * 0 + _ ≤ _; exact Nat.le_of_eq rfl) (hb hby at_278) (fun _ _ => ⟨rfl, e107, (by decide : 8 + 0 ≤ _), (by decide : 25 + 0 ≤ _)⟩)
  dsimp only [Pt.U, Pt.locs, Pt.cells, Pt.slots] at X109 l109 y109 z109 st109 hQ109
  subst l109 y109 z109
  obtain ⟨rfl, Nq109, Kq109, BB⟩ := hQ109
  replace N107 := Fr.app N107 Nq109
  replace O := O.keep Kq109 (allS g_b105 (allS g_aK (allS g_aR (allS g_aT all0))))
  replace V_2 := V_2.keep Kq109 (ninS ne_a2_b105 (ninS ne_a2_aK (ninS ne_a2_aR (ninS ne_a2_aT nin0))))
  replace Z107 := Nat.le_trans Z107 Kq109.1
  refine own_tr (g' := (mkF m 281 #[.val (.int se), .val (.long va), .second, .val (.long vb), .second, .val (.long vc), .second, .val (.int sf), .val (.int rq), .val (.int o1), .val (.int o2), .val (.int m1), .val (.int rr), .val (.int i1), .val (.int i2), .val (.int of), .val (.ref b84), .val (.ref a2), .val (.ref b105), .unset, .unset, .unset, .unset, .unset, .unset, .unset, .unset, .unset, .unset, .unset, .unset, .unset] [])) st109 ?_
  obtain ⟨K2, hK2⟩ : ∃ z, z = (if K1 m1n < va then (own_upd K1 m1n va) else K1) := ⟨_, rfl⟩
  obtain ⟨R2, hR2⟩ : ∃ z, z = (if K1 m1n < va then (own_upd R1 m1n (rs1 + 1)) else R1) := ⟨_, rfl⟩
  obtain ⟨rs2, hrs2⟩ : ∃ z, z = (if K1 m1n < va then rs1 + 1 else rs1) := ⟨_, rfl⟩
  rw [← hK2, ← hR2, ← hrs2] at BB
  have sm1 : own_sm R1 rs1 1 := own_smq hrq hR1 hs1
  have sm2 : own_sm R2 rs2 2 := by rw [hR2, hrs2]; exact own_smU sm1 (by decide) _ _
  have hl1' : own_L3 (own_u R2 own_z rrn) K2 = own_L3 (own_g (own_ro sn m1n rq va) rrn) (own_ph sn m1n rq va) := by rw [hR2, hK2]; exact own_list1 hlm1.2 hrq hK1 hR1 hs1 own_z rfl
  have hka : ∀ j, K2 j = own_ph sn m1n rq va j := by rw [hK2]; exact own_ka hlm1.2 hrq hK1
  refine own_st (T' := T109) (g' := (mkF m 283 #[.val (.int se), .val (.long va), .second, .val (.long vb), .second, .val (.long vc), .second, .val (.int sf), .val (.int rq), .val (.int o1), .val (.int o2), .val (.int m1), .val (.int rr), .val (.int i1), .val (.int i2), .val (.int of), .val (.ref b84), .val (.ref a2), .val (.ref b105), .unset, .unset, .unset, .unset, .unset, .unset, .unset, .unset, .unset, .unset, .unset, .unset, .unset] [(.ref b105)])) (fun _ zq => XS.aload X109.here hx rfl (hb hby at_281) rfl rfl zq) ?_
  refine own_st (T' := T109) (g' := (mkF m 285 #[.val (.int se), .val (.long va), .second, .val (.long vb), .second, .val (.long vc), .second, .val (.int sf), .val (.int rq), .val (.int o1), .val (.int o2), .val (.int m1), .val (.int rr), .val (.int i1), .val (.int i2), .val (.int of), .val (.ref b84), .val (.ref a2), .val (.ref b105), .unset, .unset, .unset, .unset, .unset, .unset, .unset, .unset, .unset, .unset, .unset, .unset, .unset] [(.int rr), (.ref b105)])) (fun _ zq => XS.iload X109.here hx rfl (hb hby at_283) rfl zq) ?_
  have bb1 := BB
  obtain ⟨E_k, F_self, F_known, F_rose, F_told, F_rises, V_K, V_R, V_T, E_aK⟩ := BB
  have l1_b105 := E_k.lt
  have l1_aK := V_K.lt
  have l1_aR := V_R.lt
  have l1_aT := V_T.lt
  have BB : own_KR Z T109.heap b105 aK aR aT sf K2 R2 own_z rs2 := ⟨E_k, F_self, F_known, F_rose, F_told, F_rises, V_K, V_R, V_T, E_aK⟩
  obtain ⟨cq110, kq110, q110a, q110b, q110c⟩ := isOf hZ rfl BB.1
  obtain ⟨_, _, ⟨T110, L110, k110, n110⟩, -, X110, ⟨Lc110, hQ110, l110, y110, z110⟩, st110⟩ := X109.virtualBack hx (y := (⟨"com/example/coterie/coterie/runtime/KnownRequests", "news", "(I)[J"⟩ : MethodName)) (z := (⟨"com/example/coterie/coterie/runtime/KnownRequests", "news", "(I)[J"⟩ : MethodName)) hown (mvT hZ (hw _ (List.mem_of_getElem? (i := 29) rfl))) (mvT hZ (hw _ (List.mem_of_getElem? (i := 30) rfl))) (notFace_of_selects (args := #[]) (mvT hZ (hw _ (List.mem_of_getElem? (i := 32) rfl)))) (mvT hZ (hw _ (List.mem_of_getElem? (i := 32) rfl))) (mvT hZ (hw _ (List.mem_of_getElem? (i := 31) rfl))) (by decide) (backOf (W := 0) (rm_news l Z a0 hw [] b105 aK aR aT sf K2 R2 own_z rs2 rr rrn aN fN T109.heap n0 Z107 BB hrr hlrr.1 (own_smR sm2) O S0 VN n1 n2 n3 n4 n5 n6 g_b105 g_aK g_aR g_aT) hZ (hw _ (List.mem_of_getElem? (i := 33) rfl)) (hw _ (List.mem_of_getElem? (i := 3) rfl)) (by decide) (by decide)) q110a q110c (g := (mkF m 285 #[.val (.int se), .val (.long va), .second, .val (.long vb), .second, .val (.long vc), .second, .val (.int sf), .val (.int rq), .val (.int o1), .val (.int o2), .val (.int m1), .val (.int rr), .val (.int i1), .val (.int i2), .val (.int of), .val (.ref b84), .val (.ref a2), .val (.ref b105), .unset, .unset, .unset, .unset, .unset, .unset, .unset, .unset, .unset, .unset, .unset, .unset, .unset] [(.int rr), (.ref b105)])) rfl (by rw [hml]; rfl) (Steps.refl _) (argsL := [(.int rr)]) (rest := []) (lenOf own_pd7 rfl) rfl (by show 2 * 0 + _ ≤ _; exact Nat.le_of_eq rfl) (hb hby at_285) (fun _ _ => ⟨rfl, rfl, (by decide : 8 + 1 ≤ _), (by decide : 25 + 6 ≤ _)⟩)
  dsimp only [Pt.U, Pt.locs, Pt.cells, Pt.slots] at X110 l110 y110 z110 st110 hQ110
  subst l110 y110 z110
  obtain ⟨g1, rfl, Nq110, Kq110, BB, V_g1, hne1⟩ := hQ110
  replace N107 := Fr.app N107 Nq110
  replace O := O.keep Kq110 (allS g_b105 (allS g_aK (allS g_aR (allS g_aT all0))))
  replace V_2 := V_2.keep Kq110 (ninS ne_a2_b105 (ninS ne_a2_aK (ninS ne_a2_aR (ninS ne_a2_aT nin0))))
  replace Z107 := Nat.le_trans Z107 Kq110.1
  refine own_tr (g' := (mkF m 288 #[.val (.int se), .val (.long va), .second, .val (.long vb), .second, .val (.long vc), .second, .val (.int sf), .val (.int rq), .val (.int o1), .val (.int o2), .val (.int m1), .val (.int rr), .val (.int i1), .val (.int i2), .val (.int of), .val (.ref b84), .val (.ref a2), .val (.ref b105), .unset, .unset, .unset, .unset, .unset, .unset, .unset, .unset, .unset, .unset, .unset, .unset, .unset] [(.ref g1)])) st110 ?_
  have ng1_b105 : g1 ≠ b105 := hne1 _ g_b105 l1_b105
  have ng1_aK : g1 ≠ aK := hne1 _ g_aK l1_aK
  have ng1_aR : g1 ≠ aR := hne1 _ g_aR l1_aR
  have ng1_aT : g1 ≠ aT := hne1 _ g_aT l1_aT
  rw [hl1'] at V_g1
  refine own_st (T' := T110) (g' := (mkF m 290 #[.val (.int se), .val (.long va), .second, .val (.long vb), .second, .val (.long vc), .second, .val (.int sf), .val (.int rq), .val (.int o1), .val (.int o2), .val (.int m1), .val (.int rr), .val (.int i1), .val (.int i2), .val (.int of), .val (.ref b84), .val (.ref a2), .val (.ref b105), .val (.ref g1), .unset, .unset, .unset, .unset, .unset, .unset, .unset, .unset, .unset, .unset, .unset, .unset] [])) (fun _ zq => XS.astore X110.here hx rfl (hb hby at_288) rfl rfl (l' := #[.val (.int se), .val (.long va), .second, .val (.long vb), .second, .val (.long vc), .second, .val (.int sf), .val (.int rq), .val (.int o1), .val (.int o2), .val (.int m1), .val (.int rr), .val (.int i1), .val (.int i2), .val (.int of), .val (.ref b84), .val (.ref a2), .val (.ref b105), .val (.ref g1), .unset, .unset, .unset, .unset, .unset, .unset, .unset, .unset, .unset, .unset, .unset, .unset]) rfl zq) ?_
  refine own_st (T' := T110) (g' := (mkF m 292 #[.val (.int se), .val (.long va), .second, .val (.long vb), .second, .val (.long vc), .second, .val (.int sf), .val (.int rq), .val (.int o1), .val (.int o2), .val (.int m1), .val (.int rr), .val (.int i1), .val (.int i2), .val (.int of), .val (.ref b84), .val (.ref a2), .val (.ref b105), .val (.ref g1), .unset, .unset, .unset, .unset, .unset, .unset, .unset, .unset, .unset, .unset, .unset, .unset] [(.ref b105)])) (fun _ zq => XS.aload X110.here hx rfl (hb hby at_290) rfl rfl zq) ?_
  refine own_st (T' := T110) (g' := (mkF m 294 #[.val (.int se), .val (.long va), .second, .val (.long vb), .second, .val (.long vc), .second, .val (.int sf), .val (.int rq), .val (.int o1), .val (.int o2), .val (.int m1), .val (.int rr), .val (.int i1), .val (.int i2), .val (.int of), .val (.ref b84), .val (.ref a2), .val (.ref b105), .val (.ref g1), .unset, .unset, .unset, .unset, .unset, .unset, .unset, .unset, .unset, .unset, .unset, .unset] [(.ref a2), (.ref b105)])) (fun _ zq => XS.aload X110.here hx rfl (hb hby at_292) rfl rfl zq) ?_
  obtain ⟨cq111, kq111, q111a, q111b, q111c⟩ := isOf hZ rfl BB.1
  obtain ⟨_, _, ⟨T111, L111, k111, n111⟩, -, X111, ⟨Lc111, hQ111, l111, y111, z111⟩, st111⟩ := X110.virtualBack hx (y := (⟨"com/example/coterie/coterie/runtime/KnownRequests", "learn", "([J)V"⟩ : MethodName)) (z := (⟨"com/example/coterie/coterie/runtime/KnownRequests", "learn", "([J)V"⟩ : MethodName)) hown (mvT hZ (hw _ (List.mem_of_getElem? (i := 18) rfl))) (mvT hZ (hw _ (List.mem_of_getElem? (i := 19) rfl))) (notFace_of_selects (args := #[]) (mvT hZ (hw _ (List.mem_of_getElem? (i := 21) rfl)))) (mvT hZ (hw _ (List.mem_of_getElem? (i := 21) rfl))) (mvT hZ (hw _ (List.mem_of_getElem? (i := 20) rfl))) (by decide) (backOf (W := 0) (rm_learnG l Z a0 hw [] b105 aK aR aT sf K2 R2 (own_upd own_z rrn rs2) rs2 a2 f2 es T110.heap n0 Z107 BB V_2 hms hle n1 n2 n3 n4 n5 n6 g_b105 g_aK g_aR g_aT ne_a2_b105 ne_a2_aK ne_a2_aR ne_a2_aT) hZ (hw _ (List.mem_of_getElem? (i := 22) rfl)) (hw _ (List.mem_of_getElem? (i := 3) rfl)) (by decide) (by decide)) q111a q111c (g := (mkF m 294 #[.val (.int se), .val (.long va), .second, .val (.long vb), .second, .val (.long vc), .second, .val (.int sf), .val (.int rq), .val (.int o1), .val (.int o2), .val (.int m1), .val (.int rr), .val (.int i1), .val (.int i2), .val (.int of), .val (.ref b84), .val (.ref a2), .val (.ref b105), .val (.ref g1), .unset, .unset, .unset, .unset, .unset, .unset, .unset, .unset, .unset, .unset, .unset, .unset] [(.ref a2), (.ref b105)])) rfl (by rw [hml]; rfl) (Steps.refl _) (argsL := [(.ref a2)]) (rest := []) (lenOf own_pd6 rfl) rfl (by show 2 * 0 + _ ≤ _; exact Nat.le_of_eq rfl) (hb hby at_294) (fun _ _ => ⟨rfl, rfl, (by decide : 9 + 0 ≤ _), (by decide : 31 + 0 ≤ _)⟩)
  dsimp only [Pt.U, Pt.locs, Pt.cells, Pt.slots] at X111 l111 y111 z111 st111 hQ111
  subst l111 y111 z111
  obtain ⟨rfl, Nq111, Kq111, BB⟩ := hQ111
  replace N107 := Fr.app N107 Nq111
  replace O := O.keep Kq111 (allS g_b105 (allS g_aK (allS g_aR (allS g_aT all0))))
  replace V_g1 := V_g1.keep Kq111 (ninS ng1_b105 (ninS ng1_aK (ninS ng1_aR (ninS ng1_aT nin0))))
  replace Z107 := Nat.le_trans Z107 Kq111.1
  refine own_tr (g' := (mkF m 297 #[.val (.int se), .val (.long va), .second, .val (.long vb), .second, .val (.long vc), .second, .val (.int sf), .val (.int rq), .val (.int o1), .val (.int o2), .val (.int m1), .val (.int rr), .val (.int i1), .val (.int i2), .val (.int of), .val (.ref b84), .val (.ref a2), .val (.ref b105), .val (.ref g1), .unset, .unset, .unset, .unset, .unset, .unset, .unset, .unset, .unset, .unset, .unset, .unset] [])) st111 ?_
  have sm3 := own_smF es (K := K2) sm2 (by omega)
  have hl2' := own_list2 (rn := rrn) (T1 := own_upd own_z rrn rs2) hoo hes hka sm2 (by decide) (by unfold own_upd; rw [if_pos rfl])
  refine own_st (T' := T111) (g' := (mkF m 299 #[.val (.int se), .val (.long va), .second, .val (.long vb), .second, .val (.long vc), .second, .val (.int sf), .val (.int rq), .val (.int o1), .val (.int o2), .val (.int m1), .val (.int rr), .val (.int i1), .val (.int i2), .val (.int of), .val (.ref b84), .val (.ref a2), .val (.ref b105), .val (.ref g1), .unset, .unset, .unset, .unset, .unset, .unset, .unset, .unset, .unset, .unset, .unset, .unset] [(.ref b105)])) (fun _ zq => XS.aload X111.here hx rfl (hb hby at_297) rfl rfl zq) ?_
  refine own_st (T' := T111) (g' := (mkF m 301 #[.val (.int se), .val (.long va), .second, .val (.long vb), .second, .val (.long vc), .second, .val (.int sf), .val (.int rq), .val (.int o1), .val (.int o2), .val (.int m1), .val (.int rr), .val (.int i1), .val (.int i2), .val (.int of), .val (.ref b84), .val (.ref a2), .val (.ref b105), .val (.ref g1), .unset, .unset, .unset, .unset, .unset, .unset, .unset, .unset, .unset, .unset, .unset, .unset] [(.int rr), (.ref b105)])) (fun _ zq => XS.iload X111.here hx rfl (hb hby at_299) rfl zq) ?_
  have bb2 := BB
  obtain ⟨E_k, F_self, F_known, F_rose, F_told, F_rises, V_K, V_R, V_T, E_aK⟩ := BB
  have l2_b105 := E_k.lt
  have l2_aK := V_K.lt
  have l2_aR := V_R.lt
  have l2_aT := V_T.lt
  have BB : own_KR Z T111.heap b105 aK aR aT sf (own_fK es K2) (own_fR es K2 R2 rs2) (own_upd own_z rrn rs2) (own_fs es K2 rs2) := ⟨E_k, F_self, F_known, F_rose, F_told, F_rises, V_K, V_R, V_T, E_aK⟩
  obtain ⟨cq112, kq112, q112a, q112b, q112c⟩ := isOf hZ rfl BB.1
  obtain ⟨_, _, ⟨T112, L112, k112, n112⟩, -, X112, ⟨Lc112, hQ112, l112, y112, z112⟩, st112⟩ := X111.virtualBack hx (y := (⟨"com/example/coterie/coterie/runtime/KnownRequests", "news", "(I)[J"⟩ : MethodName)) (z := (⟨"com/example/coterie/coterie/runtime/KnownRequests", "news", "(I)[J"⟩ : MethodName)) hown (mvT hZ (hw _ (List.mem_of_getElem? (i := 29) rfl))) (mvT hZ (hw _ (List.mem_of_getElem? (i := 30) rfl))) (notFace_of_selects (args := #[]) (mvT hZ (hw _ (List.mem_of_getElem? (i := 32) rfl)))) (mvT hZ (hw _ (List.mem_of_getElem? (i := 32) rfl))) (mvT hZ (hw _ (List.mem_of_getElem? (i := 31) rfl))) (by decide) (backOf (W := 0) (rm_news l Z a0 hw [] b105 aK aR aT sf (own_fK es K2) (own_fR es K2 R2 rs2) (own_upd own_z rrn rs2) (own_fs es K2 rs2) rr rrn aN fN T111.heap n0 Z107 BB hrr hlrr.1 (own_smR sm3) O S0 VN n1 n2 n3 n4 n5 n6 g_b105 g_aK g_aR g_aT) hZ (hw _ (List.mem_of_getElem? (i := 33) rfl)) (hw _ (List.mem_of_getElem? (i := 3) rfl)) (by decide) (by decide)) q112a q112c (g := (mkF m 301 #[.val (.int se), .val (.long va), .second, .val (.long vb), .second, .val (.long vc), .second, .val (.int sf), .val (.int rq), .val (.int o1), .val (.int o2), .val (.int m1), .val (.int rr), .val (.int i1), .val (.int i2), .val (.int of), .val (.ref b84), .val (.ref a2), .val (.ref b105), .val (.ref g1), .unset, .unset, .unset, .unset, .unset, .unset, .unset, .unset, .unset, .unset, .unset, .unset] [(.int rr), (.ref b105)])) rfl (by rw [hml]; rfl) (Steps.refl _) (argsL := [(.int rr)]) (rest := []) (lenOf own_pd7 rfl) rfl (by show 2 * 0 + _ ≤ _; exact Nat.le_of_eq rfl) (hb hby at_301) (fun _ _ => ⟨rfl, rfl, (by decide : 9 + 1 ≤ _), (by decide : 31 + 6 ≤ _)⟩)
  dsimp only [Pt.U, Pt.locs, Pt.cells, Pt.slots] at X112 l112 y112 z112 st112 hQ112
  subst l112 y112 z112
  obtain ⟨g2, rfl, Nq112, Kq112, BB, V_g2, hne2⟩ := hQ112
  replace N107 := Fr.app N107 Nq112
  replace O := O.keep Kq112 (allS g_b105 (allS g_aK (allS g_aR (allS g_aT all0))))
  replace V_g1 := V_g1.keep Kq112 (ninS ng1_b105 (ninS ng1_aK (ninS ng1_aR (ninS ng1_aT nin0))))
  replace Z107 := Nat.le_trans Z107 Kq112.1
  refine own_tr (g' := (mkF m 304 #[.val (.int se), .val (.long va), .second, .val (.long vb), .second, .val (.long vc), .second, .val (.int sf), .val (.int rq), .val (.int o1), .val (.int o2), .val (.int m1), .val (.int rr), .val (.int i1), .val (.int i2), .val (.int of), .val (.ref b84), .val (.ref a2), .val (.ref b105), .val (.ref g1), .unset, .unset, .unset, .unset, .unset, .unset, .unset, .unset, .unset, .unset, .unset, .unset] [(.ref g2)])) st112 ?_
  have ng2_b105 : g2 ≠ b105 := hne2 _ g_b105 l2_b105
  have ng2_aK : g2 ≠ aK := hne2 _ g_aK l2_aK
  have ng2_aR : g2 ≠ aR := hne2 _ g_aR l2_aR
  have ng2_aT : g2 ≠ aT := hne2 _ g_aT l2_aT
  rw [hl2'] at V_g2
  refine own_st (T' := T112) (g' := (mkF m 306 #[.val (.int se), .val (.long va), .second, .val (.long vb), .second, .val (.long vc), .second, .val (.int sf), .val (.int rq), .val (.int o1), .val (.int o2), .val (.int m1), .val (.int rr), .val (.int i1), .val (.int i2), .val (.int of), .val (.ref b84), .val (.ref a2), .val (.ref b105), .val (.ref g1), .val (.ref g2), .unset, .unset, .unset, .unset, .unset, .unset, .unset, .unset, .unset, .unset, .unset] [])) (fun _ zq => XS.astore X112.here hx rfl (hb hby at_304) rfl rfl (l' := #[.val (.int se), .val (.long va), .second, .val (.long vb), .second, .val (.long vc), .second, .val (.int sf), .val (.int rq), .val (.int o1), .val (.int o2), .val (.int m1), .val (.int rr), .val (.int i1), .val (.int i2), .val (.int of), .val (.ref b84), .val (.ref a2), .val (.ref b105), .val (.ref g1), .val (.ref g2), .unset, .unset, .unset, .unset, .unset, .unset, .unset, .unset, .unset, .unset, .unset]) rfl zq) ?_
  refine own_st (T' := T112) (g' := (mkF m 307 #[.val (.int se), .val (.long va), .second, .val (.long vb), .second, .val (.long vc), .second, .val (.int sf), .val (.int rq), .val (.int o1), .val (.int o2), .val (.int m1), .val (.int rr), .val (.int i1), .val (.int i2), .val (.int of), .val (.ref b84), .val (.ref a2), .val (.ref b105), .val (.ref g1), .val (.ref g2), .unset, .unset, .unset, .unset, .unset, .unset, .unset, .unset, .unset, .unset, .unset] [(.int (0 : Int32))])) (fun _ zq => XS.iconst X112.here hx rfl (hb hby at_306) zq) ?_
  refine own_st (T' := T112) (g' := (mkF m 309 #[.val (.int se), .val (.long va), .second, .val (.long vb), .second, .val (.long vc), .second, .val (.int sf), .val (.int rq), .val (.int o1), .val (.int o2), .val (.int m1), .val (.int rr), .val (.int i1), .val (.int i2), .val (.int of), .val (.ref b84), .val (.ref a2), .val (.ref b105), .val (.ref g1), .val (.ref g2), .unset, .unset, .unset, .unset, .unset, .unset, .unset, .unset, .unset, .unset, .unset] [(.int sf), (.int (0 : Int32))])) (fun _ zq => XS.iload X112.here hx rfl (hb hby at_307) rfl zq) ?_
  refine own_st (T' := T112) (g' := (mkF m 311 #[.val (.int se), .val (.long va), .second, .val (.long vb), .second, .val (.long vc), .second, .val (.int sf), .val (.int rq), .val (.int o1), .val (.int o2), .val (.int m1), .val (.int rr), .val (.int i1), .val (.int i2), .val (.int of), .val (.ref b84), .val (.ref a2), .val (.ref b105), .val (.ref g1), .val (.ref g2), .unset, .unset, .unset, .unset, .unset, .unset, .unset, .unset, .unset, .unset, .unset] [(.int rq), (.int sf), (.int (0 : Int32))])) (fun _ zq => XS.iload X112.here hx rfl (hb hby at_309) rfl zq) ?_
  refine own_st (T' := T112) (g' := (mkF m 313 #[.val (.int se), .val (.long va), .second, .val (.long vb), .second, .val (.long vc), .second, .val (.int sf), .val (.int rq), .val (.int o1), .val (.int o2), .val (.int m1), .val (.int rr), .val (.int i1), .val (.int i2), .val (.int of), .val (.ref b84), .val (.ref a2), .val (.ref b105), .val (.ref g1), .val (.ref g2), .unset, .unset, .unset, .unset, .unset, .unset, .unset, .unset, .unset, .unset, .unset] [(.int m1), (.int rq), (.int sf), (.int (0 : Int32))])) (fun _ zq => XS.iload X112.here hx rfl (hb hby at_311) rfl zq) ?_
  refine own_st (T' := T112) (g' := (mkF m 314 #[.val (.int se), .val (.long va), .second, .val (.long vb), .second, .val (.long vc), .second, .val (.int sf), .val (.int rq), .val (.int o1), .val (.int o2), .val (.int m1), .val (.int rr), .val (.int i1), .val (.int i2), .val (.int of), .val (.ref b84), .val (.ref a2), .val (.ref b105), .val (.ref g1), .val (.ref g2), .unset, .unset, .unset, .unset, .unset, .unset, .unset, .unset, .unset, .unset, .unset] [(.long va), (.int m1), (.int rq), (.int sf), (.int (0 : Int32))])) (fun _ zq => XS.lloadN X112.here hx rfl (hb hby at_313) rfl zq) ?_
  obtain ⟨_, _, ⟨T113, L113, k113, n113⟩, -, X113, ⟨Lc113, hQ113, l113, y113, z113⟩, st113⟩ := Jvm.LawKit.callS X112 hx (y := (⟨"com/example/coterie/coterie/runtime/KnownRequestsLearnPinLaw", "phase1", "(IIZIJ)J"⟩ : MethodName)) hown (mvT hZ (hw _ (List.mem_of_getElem? (i := 40) rfl))) (mvT hZ (hw _ (List.mem_of_getElem? (i := 41) rfl))) (mvT hZ (hw _ (List.mem_of_getElem? (i := 42) rfl))) (mvT hZ (hw _ (List.mem_of_getElem? (i := 43) rfl))) (by decide) (backOf (W := 0) (rm_phase1 l Z a0 hw [] (0 : Int32) 0 sf sn rq m1 m1n va T112.heap n0 Z107 rfl hs hm1) hZ (hw _ (List.mem_of_getElem? (i := 43) rfl)) (hw _ (List.mem_of_getElem? (i := 42) rfl)) (by decide) (by decide)) (g := (mkF m 314 #[.val (.int se), .val (.long va), .second, .val (.long vb), .second, .val (.long vc), .second, .val (.int sf), .val (.int rq), .val (.int o1), .val (.int o2), .val (.int m1), .val (.int rr), .val (.int i1), .val (.int i2), .val (.int of), .val (.ref b84), .val (.ref a2), .val (.ref b105), .val (.ref g1), .val (.ref g2), .unset, .unset, .unset, .unset, .unset, .unset, .unset, .unset, .unset, .unset, .unset] [(.long va), (.int m1), (.int rq), (.int sf), (.int (0 : Int32))])) rfl (by rw [hml]; rfl) (argsL := [(.int (0 : Int32)), (.int sf), (.int rq), (.int m1), (.long va)]) (rest := []) (lenOf own_pd8 rfl) rfl (by show 2 * 0 + _ ≤ _; exact Nat.le_of_eq rfl) (hb hby at_314) (fun _ _ => ⟨rfl, rfl, (by decide : 10 + 0 ≤ _), (by decide : 37 + 0 ≤ _)⟩)
  dsimp only [Pt.U, Pt.locs, Pt.cells, Pt.slots] at X113 l113 y113 z113 st113 hQ113
  subst l113 y113 z113
  obtain ⟨rfl, Nq113, eq113⟩ := hQ113
  replace N107 := Fr.app N107 Nq113
  refine own_st (g' := (mkF m 317 #[.val (.int se), .val (.long va), .second, .val (.long vb), .second, .val (.long vc), .second, .val (.int sf), .val (.int rq), .val (.int o1), .val (.int o2), .val (.int m1), .val (.int rr), .val (.int i1), .val (.int i2), .val (.int of), .val (.ref b84), .val (.ref a2), .val (.ref b105), .val (.ref g1), .val (.ref g2), .unset, .unset, .unset, .unset, .unset, .unset, .unset, .unset, .unset, .unset, .unset] [(.long (own_ph sn m1n rq va 0))])) st113 ?_
  refine own_st (T' := T113) (g' := (mkF m 319 #[.val (.int se), .val (.long va), .second, .val (.long vb), .second, .val (.long vc), .second, .val (.int sf), .val (.int rq), .val (.int o1), .val (.int o2), .val (.int m1), .val (.int rr), .val (.int i1), .val (.int i2), .val (.int of), .val (.ref b84), .val (.ref a2), .val (.ref b105), .val (.ref g1), .val (.ref g2), .val (.long (own_ph sn m1n rq va 0)), .second, .unset, .unset, .unset, .unset, .unset, .unset, .unset, .unset, .unset] [])) (fun _ zq => XS.lstore X113.here hx rfl (hb hby at_317) rfl (l' := #[.val (.int se), .val (.long va), .second, .val (.long vb), .second, .val (.long vc), .second, .val (.int sf), .val (.int rq), .val (.int o1), .val (.int o2), .val (.int m1), .val (.int rr), .val (.int i1), .val (.int i2), .val (.int of), .val (.ref b84), .val (.ref a2), .val (.ref b105), .val (.ref g1), .val (.ref g2), .val (.long (own_ph sn m1n rq va 0)), .second, .unset, .unset, .unset, .unset, .unset, .unset, .unset, .unset, .unset]) rfl zq) ?_
  refine own_st (T' := T113) (g' := (mkF m 320 #[.val (.int se), .val (.long va), .second, .val (.long vb), .second, .val (.long vc), .second, .val (.int sf), .val (.int rq), .val (.int o1), .val (.int o2), .val (.int m1), .val (.int rr), .val (.int i1), .val (.int i2), .val (.int of), .val (.ref b84), .val (.ref a2), .val (.ref b105), .val (.ref g1), .val (.ref g2), .val (.long (own_ph sn m1n rq va 0)), .second, .unset, .unset, .unset, .unset, .unset, .unset, .unset, .unset, .unset] [(.int (1 : Int32))])) (fun _ zq => XS.iconst X113.here hx rfl (hb hby at_319) zq) ?_
  refine own_st (T' := T113) (g' := (mkF m 322 #[.val (.int se), .val (.long va), .second, .val (.long vb), .second, .val (.long vc), .second, .val (.int sf), .val (.int rq), .val (.int o1), .val (.int o2), .val (.int m1), .val (.int rr), .val (.int i1), .val (.int i2), .val (.int of), .val (.ref b84), .val (.ref a2), .val (.ref b105), .val (.ref g1), .val (.ref g2), .val (.long (own_ph sn m1n rq va 0)), .second, .unset, .unset, .unset, .unset, .unset, .unset, .unset, .unset, .unset] [(.int sf), (.int (1 : Int32))])) (fun _ zq => XS.iload X113.here hx rfl (hb hby at_320) rfl zq) ?_
  refine own_st (T' := T113) (g' := (mkF m 324 #[.val (.int se), .val (.long va), .second, .val (.long vb), .second, .val (.long vc), .second, .val (.int sf), .val (.int rq), .val (.int o1), .val (.int o2), .val (.int m1), .val (.int rr), .val (.int i1), .val (.int i2), .val (.int of), .val (.ref b84), .val (.ref a2), .val (.ref b105), .val (.ref g1), .val (.ref g2), .val (.long (own_ph sn m1n rq va 0)), .second, .unset, .unset, .unset, .unset, .unset, .unset, .unset, .unset, .unset] [(.int rq), (.int sf), (.int (1 : Int32))])) (fun _ zq => XS.iload X113.here hx rfl (hb hby at_322) rfl zq) ?_
  refine own_st (T' := T113) (g' := (mkF m 326 #[.val (.int se), .val (.long va), .second, .val (.long vb), .second, .val (.long vc), .second, .val (.int sf), .val (.int rq), .val (.int o1), .val (.int o2), .val (.int m1), .val (.int rr), .val (.int i1), .val (.int i2), .val (.int of), .val (.ref b84), .val (.ref a2), .val (.ref b105), .val (.ref g1), .val (.ref g2), .val (.long (own_ph sn m1n rq va 0)), .second, .unset, .unset, .unset, .unset, .unset, .unset, .unset, .unset, .unset] [(.int m1), (.int rq), (.int sf), (.int (1 : Int32))])) (fun _ zq => XS.iload X113.here hx rfl (hb hby at_324) rfl zq) ?_
  refine own_st (T' := T113) (g' := (mkF m 327 #[.val (.int se), .val (.long va), .second, .val (.long vb), .second, .val (.long vc), .second, .val (.int sf), .val (.int rq), .val (.int o1), .val (.int o2), .val (.int m1), .val (.int rr), .val (.int i1), .val (.int i2), .val (.int of), .val (.ref b84), .val (.ref a2), .val (.ref b105), .val (.ref g1), .val (.ref g2), .val (.long (own_ph sn m1n rq va 0)), .second, .unset, .unset, .unset, .unset, .unset, .unset, .unset, .unset, .unset] [(.long va), (.int m1), (.int rq), (.int sf), (.int (1 : Int32))])) (fun _ zq => XS.lloadN X113.here hx rfl (hb hby at_326) rfl zq) ?_
  obtain ⟨_, _, ⟨T114, L114, k114, n114⟩, -, X114, ⟨Lc114, hQ114, l114, y114, z114⟩, st114⟩ := Jvm.LawKit.callS X113 hx (y := (⟨"com/example/coterie/coterie/runtime/KnownRequestsLearnPinLaw", "phase1", "(IIZIJ)J"⟩ : MethodName)) hown (mvT hZ (hw _ (List.mem_of_getElem? (i := 40) rfl))) (mvT hZ (hw _ (List.mem_of_getElem? (i := 41) rfl))) (mvT hZ (hw _ (List.mem_of_getElem? (i := 42) rfl))) (mvT hZ (hw _ (List.mem_of_getElem? (i := 43) rfl))) (by decide) (backOf (W := 0) (rm_phase1 l Z a0 hw [] (1 : Int32) 1 sf sn rq m1 m1n va T112.heap n0 Z107 rfl hs hm1) hZ (hw _ (List.mem_of_getElem? (i := 43) rfl)) (hw _ (List.mem_of_getElem? (i := 42) rfl)) (by decide) (by decide)) (g := (mkF m 327 #[.val (.int se), .val (.long va), .second, .val (.long vb), .second, .val (.long vc), .second, .val (.int sf), .val (.int rq), .val (.int o1), .val (.int o2), .val (.int m1), .val (.int rr), .val (.int i1), .val (.int i2), .val (.int of), .val (.ref b84), .val (.ref a2), .val (.ref b105), .val (.ref g1), .val (.ref g2), .val (.long (own_ph sn m1n rq va 0)), .second, .unset, .unset, .unset, .unset, .unset, .unset, .unset, .unset, .unset] [(.long va), (.int m1), (.int rq), (.int sf), (.int (1 : Int32))])) rfl (by rw [hml]; rfl) (argsL := [(.int (1 : Int32)), (.int sf), (.int rq), (.int m1), (.long va)]) (rest := []) (lenOf own_pd8 rfl) rfl (by show 2 * 0 + _ ≤ _; exact Nat.le_of_eq rfl) (hb hby at_327) (fun _ _ => ⟨rfl, (eq113), (by decide : 10 + 0 ≤ _), (by decide : 37 + 0 ≤ _)⟩)
  dsimp only [Pt.U, Pt.locs, Pt.cells, Pt.slots] at X114 l114 y114 z114 st114 hQ114
  subst l114 y114 z114
  obtain ⟨rfl, Nq114, eq114⟩ := hQ114
  replace N107 := Fr.app N107 Nq114
  refine own_st (g' := (mkF m 330 #[.val (.int se), .val (.long va), .second, .val (.long vb), .second, .val (.long vc), .second, .val (.int sf), .val (.int rq), .val (.int o1), .val (.int o2), .val (.int m1), .val (.int rr), .val (.int i1), .val (.int i2), .val (.int of), .val (.ref b84), .val (.ref a2), .val (.ref b105), .val (.ref g1), .val (.ref g2), .val (.long (own_ph sn m1n rq va 0)), .second, .unset, .unset, .unset, .unset, .unset, .unset, .unset, .unset, .unset] [(.long (own_ph sn m1n rq va 1))])) st114 ?_
  refine own_st (T' := T114) (g' := (mkF m 332 #[.val (.int se), .val (.long va), .second, .val (.long vb), .second, .val (.long vc), .second, .val (.int sf), .val (.int rq), .val (.int o1), .val (.int o2), .val (.int m1), .val (.int rr), .val (.int i1), .val (.int i2), .val (.int of), .val (.ref b84), .val (.ref a2), .val (.ref b105), .val (.ref g1), .val (.ref g2), .val (.long (own_ph sn m1n rq va 0)), .second, .val (.long (own_ph sn m1n rq va 1)), .second, .unset, .unset, .unset, .unset, .unset, .unset, .unset] [])) (fun _ zq => XS.lstore X114.here hx rfl (hb hby at_330) rfl (l' := #[.val (.int se), .val (.long va), .second, .val (.long vb), .second, .val (.long vc), .second, .val (.int sf), .val (.int rq), .val (.int o1), .val (.int o2), .val (.int m1), .val (.int rr), .val (.int i1), .val (.int i2), .val (.int of), .val (.ref b84), .val (.ref a2), .val (.ref b105), .val (.ref g1), .val (.ref g2), .val (.long (own_ph sn m1n rq va 0)), .second, .val (.long (own_ph sn m1n rq va 1)), .second, .unset, .unset, .unset, .unset, .unset, .unset, .unset]) rfl zq) ?_
  refine own_st (T' := T114) (g' := (mkF m 333 #[.val (.int se), .val (.long va), .second, .val (.long vb), .second, .val (.long vc), .second, .val (.int sf), .val (.int rq), .val (.int o1), .val (.int o2), .val (.int m1), .val (.int rr), .val (.int i1), .val (.int i2), .val (.int of), .val (.ref b84), .val (.ref a2), .val (.ref b105), .val (.ref g1), .val (.ref g2), .val (.long (own_ph sn m1n rq va 0)), .second, .val (.long (own_ph sn m1n rq va 1)), .second, .unset, .unset, .unset, .unset, .unset, .unset, .unset] [(.int (2 : Int32))])) (fun _ zq => XS.iconst X114.here hx rfl (hb hby at_332) zq) ?_
  refine own_st (T' := T114) (g' := (mkF m 335 #[.val (.int se), .val (.long va), .second, .val (.long vb), .second, .val (.long vc), .second, .val (.int sf), .val (.int rq), .val (.int o1), .val (.int o2), .val (.int m1), .val (.int rr), .val (.int i1), .val (.int i2), .val (.int of), .val (.ref b84), .val (.ref a2), .val (.ref b105), .val (.ref g1), .val (.ref g2), .val (.long (own_ph sn m1n rq va 0)), .second, .val (.long (own_ph sn m1n rq va 1)), .second, .unset, .unset, .unset, .unset, .unset, .unset, .unset] [(.int sf), (.int (2 : Int32))])) (fun _ zq => XS.iload X114.here hx rfl (hb hby at_333) rfl zq) ?_
  refine own_st (T' := T114) (g' := (mkF m 337 #[.val (.int se), .val (.long va), .second, .val (.long vb), .second, .val (.long vc), .second, .val (.int sf), .val (.int rq), .val (.int o1), .val (.int o2), .val (.int m1), .val (.int rr), .val (.int i1), .val (.int i2), .val (.int of), .val (.ref b84), .val (.ref a2), .val (.ref b105), .val (.ref g1), .val (.ref g2), .val (.long (own_ph sn m1n rq va 0)), .second, .val (.long (own_ph sn m1n rq va 1)), .second, .unset, .unset, .unset, .unset, .unset, .unset, .unset] [(.int rq), (.int sf), (.int (2 : Int32))])) (fun _ zq => XS.iload X114.here hx rfl (hb hby at_335) rfl zq) ?_
  refine own_st (T' := T114) (g' := (mkF m 339 #[.val (.int se), .val (.long va), .second, .val (.long vb), .second, .val (.long vc), .second, .val (.int sf), .val (.int rq), .val (.int o1), .val (.int o2), .val (.int m1), .val (.int rr), .val (.int i1), .val (.int i2), .val (.int of), .val (.ref b84), .val (.ref a2), .val (.ref b105), .val (.ref g1), .val (.ref g2), .val (.long (own_ph sn m1n rq va 0)), .second, .val (.long (own_ph sn m1n rq va 1)), .second, .unset, .unset, .unset, .unset, .unset, .unset, .unset] [(.int m1), (.int rq), (.int sf), (.int (2 : Int32))])) (fun _ zq => XS.iload X114.here hx rfl (hb hby at_337) rfl zq) ?_
  refine own_st (T' := T114) (g' := (mkF m 340 #[.val (.int se), .val (.long va), .second, .val (.long vb), .second, .val (.long vc), .second, .val (.int sf), .val (.int rq), .val (.int o1), .val (.int o2), .val (.int m1), .val (.int rr), .val (.int i1), .val (.int i2), .val (.int of), .val (.ref b84), .val (.ref a2), .val (.ref b105), .val (.ref g1), .val (.ref g2), .val (.long (own_ph sn m1n rq va 0)), .second, .val (.long (own_ph sn m1n rq va 1)), .second, .unset, .unset, .unset, .unset, .unset, .unset, .unset] [(.long va), (.int m1), (.int rq), (.int sf), (.int (2 : Int32))])) (fun _ zq => XS.lloadN X114.here hx rfl (hb hby at_339) rfl zq) ?_
  obtain ⟨_, _, ⟨T115, L115, k115, n115⟩, -, X115, ⟨Lc115, hQ115, l115, y115, z115⟩, st115⟩ := Jvm.LawKit.callS X114 hx (y := (⟨"com/example/coterie/coterie/runtime/KnownRequestsLearnPinLaw", "phase1", "(IIZIJ)J"⟩ : MethodName)) hown (mvT hZ (hw _ (List.mem_of_getElem? (i := 40) rfl))) (mvT hZ (hw _ (List.mem_of_getElem? (i := 41) rfl))) (mvT hZ (hw _ (List.mem_of_getElem? (i := 42) rfl))) (mvT hZ (hw _ (List.mem_of_getElem? (i := 43) rfl))) (by decide) (backOf (W := 0) (rm_phase1 l Z a0 hw [] (2 : Int32) 2 sf sn rq m1 m1n va T112.heap n0 Z107 rfl hs hm1) hZ (hw _ (List.mem_of_getElem? (i := 43) rfl)) (hw _ (List.mem_of_getElem? (i := 42) rfl)) (by decide) (by decide)) (g := (mkF m 340 #[.val (.int se), .val (.long va), .second, .val (.long vb), .second, .val (.long vc), .second, .val (.int sf), .val (.int rq), .val (.int o1), .val (.int o2), .val (.int m1), .val (.int rr), .val (.int i1), .val (.int i2), .val (.int of), .val (.ref b84), .val (.ref a2), .val (.ref b105), .val (.ref g1), .val (.ref g2), .val (.long (own_ph sn m1n rq va 0)), .second, .val (.long (own_ph sn m1n rq va 1)), .second, .unset, .unset, .unset, .unset, .unset, .unset, .unset] [(.long va), (.int m1), (.int rq), (.int sf), (.int (2 : Int32))])) rfl (by rw [hml]; rfl) (argsL := [(.int (2 : Int32)), (.int sf), (.int rq), (.int m1), (.long va)]) (rest := []) (lenOf own_pd8 rfl) rfl (by show 2 * 0 + _ ≤ _; exact Nat.le_of_eq rfl) (hb hby at_340) (fun _ _ => ⟨rfl, (eq114), (by decide : 10 + 0 ≤ _), (by decide : 37 + 0 ≤ _)⟩)
  dsimp only [Pt.U, Pt.locs, Pt.cells, Pt.slots] at X115 l115 y115 z115 st115 hQ115
  subst l115 y115 z115
  obtain ⟨rfl, Nq115, eq115⟩ := hQ115
  replace N107 := Fr.app N107 Nq115
  refine own_st (g' := (mkF m 343 #[.val (.int se), .val (.long va), .second, .val (.long vb), .second, .val (.long vc), .second, .val (.int sf), .val (.int rq), .val (.int o1), .val (.int o2), .val (.int m1), .val (.int rr), .val (.int i1), .val (.int i2), .val (.int of), .val (.ref b84), .val (.ref a2), .val (.ref b105), .val (.ref g1), .val (.ref g2), .val (.long (own_ph sn m1n rq va 0)), .second, .val (.long (own_ph sn m1n rq va 1)), .second, .unset, .unset, .unset, .unset, .unset, .unset, .unset] [(.long (own_ph sn m1n rq va 2))])) st115 ?_
  refine own_st (T' := T115) (g' := (mkF m 345 #[.val (.int se), .val (.long va), .second, .val (.long vb), .second, .val (.long vc), .second, .val (.int sf), .val (.int rq), .val (.int o1), .val (.int o2), .val (.int m1), .val (.int rr), .val (.int i1), .val (.int i2), .val (.int of), .val (.ref b84), .val (.ref a2), .val (.ref b105), .val (.ref g1), .val (.ref g2), .val (.long (own_ph sn m1n rq va 0)), .second, .val (.long (own_ph sn m1n rq va 1)), .second, .val (.long (own_ph sn m1n rq va 2)), .second, .unset, .unset, .unset, .unset, .unset] [])) (fun _ zq => XS.lstore X115.here hx rfl (hb hby at_343) rfl (l' := #[.val (.int se), .val (.long va), .second, .val (.long vb), .second, .val (.long vc), .second, .val (.int sf), .val (.int rq), .val (.int o1), .val (.int o2), .val (.int m1), .val (.int rr), .val (.int i1), .val (.int i2), .val (.int of), .val (.ref b84), .val (.ref a2), .val (.ref b105), .val (.ref g1), .val (.ref g2), .val (.long (own_ph sn m1n rq va 0)), .second, .val (.long (own_ph sn m1n rq va 1)), .second, .val (.long (own_ph sn m1n rq va 2)), .second, .unset, .unset, .unset, .unset, .unset]) rfl zq) ?_
  refine own_st (T' := T115) (g' := (mkF m 347 #[.val (.int se), .val (.long va), .second, .val (.long vb), .second, .val (.long vc), .second, .val (.int sf), .val (.int rq), .val (.int o1), .val (.int o2), .val (.int m1), .val (.int rr), .val (.int i1), .val (.int i2), .val (.int of), .val (.ref b84), .val (.ref a2), .val (.ref b105), .val (.ref g1), .val (.ref g2), .val (.long (own_ph sn m1n rq va 0)), .second, .val (.long (own_ph sn m1n rq va 1)), .second, .val (.long (own_ph sn m1n rq va 2)), .second, .unset, .unset, .unset, .unset, .unset] [(.ref g1)])) (fun _ zq => XS.aload X115.here hx rfl (hb hby at_345) rfl rfl zq) ?_
  refine own_st (T' := T115) (g' := (mkF m 349 #[.val (.int se), .val (.long va), .second, .val (.long vb), .second, .val (.long vc), .second, .val (.int sf), .val (.int rq), .val (.int o1), .val (.int o2), .val (.int m1), .val (.int rr), .val (.int i1), .val (.int i2), .val (.int of), .val (.ref b84), .val (.ref a2), .val (.ref b105), .val (.ref g1), .val (.ref g2), .val (.long (own_ph sn m1n rq va 0)), .second, .val (.long (own_ph sn m1n rq va 1)), .second, .val (.long (own_ph sn m1n rq va 2)), .second, .unset, .unset, .unset, .unset, .unset] [(.int rr), (.ref g1)])) (fun _ zq => XS.iload X115.here hx rfl (hb hby at_347) rfl zq) ?_
  refine own_st (T' := T115) (g' := (mkF m 350 #[.val (.int se), .val (.long va), .second, .val (.long vb), .second, .val (.long vc), .second, .val (.int sf), .val (.int rq), .val (.int o1), .val (.int o2), .val (.int m1), .val (.int rr), .val (.int i1), .val (.int i2), .val (.int of), .val (.ref b84), .val (.ref a2), .val (.ref b105), .val (.ref g1), .val (.ref g2), .val (.long (own_ph sn m1n rq va 0)), .second, .val (.long (own_ph sn m1n rq va 1)), .second, .val (.long (own_ph sn m1n rq va 2)), .second, .unset, .unset, .unset, .unset, .unset] [(.int (0 : Int32)), (.int rr), (.ref g1)])) (fun _ zq => XS.iconst X115.here hx rfl (hb hby at_349) zq) ?_
  refine own_st (T' := T115) (g' := (mkF m 352 #[.val (.int se), .val (.long va), .second, .val (.long vb), .second, .val (.long vc), .second, .val (.int sf), .val (.int rq), .val (.int o1), .val (.int o2), .val (.int m1), .val (.int rr), .val (.int i1), .val (.int i2), .val (.int of), .val (.ref b84), .val (.ref a2), .val (.ref b105), .val (.ref g1), .val (.ref g2), .val (.long (own_ph sn m1n rq va 0)), .second, .val (.long (own_ph sn m1n rq va 1)), .second, .val (.long (own_ph sn m1n rq va 2)), .second, .unset, .unset, .unset, .unset, .unset] [(.int sf), (.int (0 : Int32)), (.int rr), (.ref g1)])) (fun _ zq => XS.iload X115.here hx rfl (hb hby at_350) rfl zq) ?_
  refine own_st (T' := T115) (g' := (mkF m 354 #[.val (.int se), .val (.long va), .second, .val (.long vb), .second, .val (.long vc), .second, .val (.int sf), .val (.int rq), .val (.int o1), .val (.int o2), .val (.int m1), .val (.int rr), .val (.int i1), .val (.int i2), .val (.int of), .val (.ref b84), .val (.ref a2), .val (.ref b105), .val (.ref g1), .val (.ref g2), .val (.long (own_ph sn m1n rq va 0)), .second, .val (.long (own_ph sn m1n rq va 1)), .second, .val (.long (own_ph sn m1n rq va 2)), .second, .unset, .unset, .unset, .unset, .unset] [(.int rq), (.int sf), (.int (0 : Int32)), (.int rr), (.ref g1)])) (fun _ zq => XS.iload X115.here hx rfl (hb hby at_352) rfl zq) ?_
  refine own_st (T' := T115) (g' := (mkF m 356 #[.val (.int se), .val (.long va), .second, .val (.long vb), .second, .val (.long vc), .second, .val (.int sf), .val (.int rq), .val (.int o1), .val (.int o2), .val (.int m1), .val (.int rr), .val (.int i1), .val (.int i2), .val (.int of), .val (.ref b84), .val (.ref a2), .val (.ref b105), .val (.ref g1), .val (.ref g2), .val (.long (own_ph sn m1n rq va 0)), .second, .val (.long (own_ph sn m1n rq va 1)), .second, .val (.long (own_ph sn m1n rq va 2)), .second, .unset, .unset, .unset, .unset, .unset] [(.int m1), (.int rq), (.int sf), (.int (0 : Int32)), (.int rr), (.ref g1)])) (fun _ zq => XS.iload X115.here hx rfl (hb hby at_354) rfl zq) ?_
  refine own_st (T' := T115) (g' := (mkF m 357 #[.val (.int se), .val (.long va), .second, .val (.long vb), .second, .val (.long vc), .second, .val (.int sf), .val (.int rq), .val (.int o1), .val (.int o2), .val (.int m1), .val (.int rr), .val (.int i1), .val (.int i2), .val (.int of), .val (.ref b84), .val (.ref a2), .val (.ref b105), .val (.ref g1), .val (.ref g2), .val (.long (own_ph sn m1n rq va 0)), .second, .val (.long (own_ph sn m1n rq va 1)), .second, .val (.long (own_ph sn m1n rq va 2)), .second, .unset, .unset, .unset, .unset, .unset] [(.long va), (.int m1), (.int rq), (.int sf), (.int (0 : Int32)), (.int rr), (.ref g1)])) (fun _ zq => XS.lloadN X115.here hx rfl (hb hby at_356) rfl zq) ?_
  obtain ⟨_, _, ⟨T116, L116, k116, n116⟩, -, X116, ⟨Lc116, hQ116, l116, y116, z116⟩, st116⟩ := Jvm.LawKit.callS X115 hx (y := (⟨"com/example/coterie/coterie/runtime/KnownRequestsLearnPinLaw", "rose1", "(IIZIJ)Z"⟩ : MethodName)) hown (mvT hZ (hw _ (List.mem_of_getElem? (i := 48) rfl))) (mvT hZ (hw _ (List.mem_of_getElem? (i := 49) rfl))) (mvT hZ (hw _ (List.mem_of_getElem? (i := 42) rfl))) (mvT hZ (hw _ (List.mem_of_getElem? (i := 50) rfl))) (by decide) (backOf (W := 2) (rm_rose1 l Z a0 hw [] (0 : Int32) 0 sf sn rq m1 m1n va T112.heap n0 Z107 rfl hs hm1 hrq) hZ (hw _ (List.mem_of_getElem? (i := 50) rfl)) (hw _ (List.mem_of_getElem? (i := 42) rfl)) (by decide) (by decide)) (g := (mkF m 357 #[.val (.int se), .val (.long va), .second, .val (.long vb), .second, .val (.long vc), .second, .val (.int sf), .val (.int rq), .val (.int o1), .val (.int o2), .val (.int m1), .val (.int rr), .val (.int i1), .val (.int i2), .val (.int of), .val (.ref b84), .val (.ref a2), .val (.ref b105), .val (.ref g1), .val (.ref g2), .val (.long (own_ph sn m1n rq va 0)), .second, .val (.long (own_ph sn m1n rq va 1)), .second, .val (.long (own_ph sn m1n rq va 2)), .second, .unset, .unset, .unset, .unset, .unset] [(.long va), (.int m1), (.int rq), (.int sf), (.int (0 : Int32)), (.int rr), (.ref g1)])) rfl (by rw [hml]; rfl) (argsL := [(.int (0 : Int32)), (.int sf), (.int rq), (.int m1), (.long va)]) (rest := [(.int rr), (.ref g1)]) (lenOf own_pd9 rfl) rfl (by show 2 * 0 + _ ≤ _; exact Nat.le_of_eq rfl) (hb hby at_357) (fun _ _ => ⟨rfl, (eq115), (by decide : 10 + 0 ≤ _), (by decide : 37 + 0 ≤ _)⟩)
  dsimp only [Pt.U, Pt.locs, Pt.cells, Pt.slots] at X116 l116 y116 z116 st116 hQ116
  subst l116 y116 z116
  obtain ⟨rfl, Nq116, eq116⟩ := hQ116
  replace N107 := Fr.app N107 Nq116
  refine own_st (g' := (mkF m 360 #[.val (.int se), .val (.long va), .second, .val (.long vb), .second, .val (.long vc), .second, .val (.int sf), .val (.int rq), .val (.int o1), .val (.int o2), .val (.int m1), .val (.int rr), .val (.int i1), .val (.int i2), .val (.int of), .val (.ref b84), .val (.ref a2), .val (.ref b105), .val (.ref g1), .val (.ref g2), .val (.long (own_ph sn m1n rq va 0)), .second, .val (.long (own_ph sn m1n rq va 1)), .second, .val (.long (own_ph sn m1n rq va 2)), .second, .unset, .unset, .unset, .unset, .unset] [(.int (own_ro sn m1n rq va 0)), (.int rr), (.ref g1)])) st116 ?_
  refine own_st (T' := T116) (g' := (mkF m 362 #[.val (.int se), .val (.long va), .second, .val (.long vb), .second, .val (.long vc), .second, .val (.int sf), .val (.int rq), .val (.int o1), .val (.int o2), .val (.int m1), .val (.int rr), .val (.int i1), .val (.int i2), .val (.int of), .val (.ref b84), .val (.ref a2), .val (.ref b105), .val (.ref g1), .val (.ref g2), .val (.long (own_ph sn m1n rq va 0)), .second, .val (.long (own_ph sn m1n rq va 1)), .second, .val (.long (own_ph sn m1n rq va 2)), .second, .unset, .unset, .unset, .unset, .unset] [(.long (own_ph sn m1n rq va 0)), (.int (own_ro sn m1n rq va 0)), (.int rr), (.ref g1)])) (fun _ zq => XS.lload X116.here hx rfl (hb hby at_360) rfl zq) ?_
  refine own_st (T' := T116) (g' := (mkF m 363 #[.val (.int se), .val (.long va), .second, .val (.long vb), .second, .val (.long vc), .second, .val (.int sf), .val (.int rq), .val (.int o1), .val (.int o2), .val (.int m1), .val (.int rr), .val (.int i1), .val (.int i2), .val (.int of), .val (.ref b84), .val (.ref a2), .val (.ref b105), .val (.ref g1), .val (.ref g2), .val (.long (own_ph sn m1n rq va 0)), .second, .val (.long (own_ph sn m1n rq va 1)), .second, .val (.long (own_ph sn m1n rq va 2)), .second, .unset, .unset, .unset, .unset, .unset] [(.int (1 : Int32)), (.long (own_ph sn m1n rq va 0)), (.int (own_ro sn m1n rq va 0)), (.int rr), (.ref g1)])) (fun _ zq => XS.iconst X116.here hx rfl (hb hby at_362) zq) ?_
  refine own_st (T' := T116) (g' := (mkF m 365 #[.val (.int se), .val (.long va), .second, .val (.long vb), .second, .val (.long vc), .second, .val (.int sf), .val (.int rq), .val (.int o1), .val (.int o2), .val (.int m1), .val (.int rr), .val (.int i1), .val (.int i2), .val (.int of), .val (.ref b84), .val (.ref a2), .val (.ref b105), .val (.ref g1), .val (.ref g2), .val (.long (own_ph sn m1n rq va 0)), .second, .val (.long (own_ph sn m1n rq va 1)), .second, .val (.long (own_ph sn m1n rq va 2)), .second, .unset, .unset, .unset, .unset, .unset] [(.int sf), (.int (1 : Int32)), (.long (own_ph sn m1n rq va 0)), (.int (own_ro sn m1n rq va 0)), (.int rr), (.ref g1)])) (fun _ zq => XS.iload X116.here hx rfl (hb hby at_363) rfl zq) ?_
  refine own_st (T' := T116) (g' := (mkF m 367 #[.val (.int se), .val (.long va), .second, .val (.long vb), .second, .val (.long vc), .second, .val (.int sf), .val (.int rq), .val (.int o1), .val (.int o2), .val (.int m1), .val (.int rr), .val (.int i1), .val (.int i2), .val (.int of), .val (.ref b84), .val (.ref a2), .val (.ref b105), .val (.ref g1), .val (.ref g2), .val (.long (own_ph sn m1n rq va 0)), .second, .val (.long (own_ph sn m1n rq va 1)), .second, .val (.long (own_ph sn m1n rq va 2)), .second, .unset, .unset, .unset, .unset, .unset] [(.int rq), (.int sf), (.int (1 : Int32)), (.long (own_ph sn m1n rq va 0)), (.int (own_ro sn m1n rq va 0)), (.int rr), (.ref g1)])) (fun _ zq => XS.iload X116.here hx rfl (hb hby at_365) rfl zq) ?_
  refine own_st (T' := T116) (g' := (mkF m 369 #[.val (.int se), .val (.long va), .second, .val (.long vb), .second, .val (.long vc), .second, .val (.int sf), .val (.int rq), .val (.int o1), .val (.int o2), .val (.int m1), .val (.int rr), .val (.int i1), .val (.int i2), .val (.int of), .val (.ref b84), .val (.ref a2), .val (.ref b105), .val (.ref g1), .val (.ref g2), .val (.long (own_ph sn m1n rq va 0)), .second, .val (.long (own_ph sn m1n rq va 1)), .second, .val (.long (own_ph sn m1n rq va 2)), .second, .unset, .unset, .unset, .unset, .unset] [(.int m1), (.int rq), (.int sf), (.int (1 : Int32)), (.long (own_ph sn m1n rq va 0)), (.int (own_ro sn m1n rq va 0)), (.int rr), (.ref g1)])) (fun _ zq => XS.iload X116.here hx rfl (hb hby at_367) rfl zq) ?_
  refine own_st (T' := T116) (g' := (mkF m 370 #[.val (.int se), .val (.long va), .second, .val (.long vb), .second, .val (.long vc), .second, .val (.int sf), .val (.int rq), .val (.int o1), .val (.int o2), .val (.int m1), .val (.int rr), .val (.int i1), .val (.int i2), .val (.int of), .val (.ref b84), .val (.ref a2), .val (.ref b105), .val (.ref g1), .val (.ref g2), .val (.long (own_ph sn m1n rq va 0)), .second, .val (.long (own_ph sn m1n rq va 1)), .second, .val (.long (own_ph sn m1n rq va 2)), .second, .unset, .unset, .unset, .unset, .unset] [(.long va), (.int m1), (.int rq), (.int sf), (.int (1 : Int32)), (.long (own_ph sn m1n rq va 0)), (.int (own_ro sn m1n rq va 0)), (.int rr), (.ref g1)])) (fun _ zq => XS.lloadN X116.here hx rfl (hb hby at_369) rfl zq) ?_
  obtain ⟨_, _, ⟨T117, L117, k117, n117⟩, -, X117, ⟨Lc117, hQ117, l117, y117, z117⟩, st117⟩ := Jvm.LawKit.callS X116 hx (y := (⟨"com/example/coterie/coterie/runtime/KnownRequestsLearnPinLaw", "rose1", "(IIZIJ)Z"⟩ : MethodName)) hown (mvT hZ (hw _ (List.mem_of_getElem? (i := 48) rfl))) (mvT hZ (hw _ (List.mem_of_getElem? (i := 49) rfl))) (mvT hZ (hw _ (List.mem_of_getElem? (i := 42) rfl))) (mvT hZ (hw _ (List.mem_of_getElem? (i := 50) rfl))) (by decide) (backOf (W := 5) (rm_rose1 l Z a0 hw [] (1 : Int32) 1 sf sn rq m1 m1n va T112.heap n0 Z107 rfl hs hm1 hrq) hZ (hw _ (List.mem_of_getElem? (i := 50) rfl)) (hw _ (List.mem_of_getElem? (i := 42) rfl)) (by decide) (by decide)) (g := (mkF m 370 #[.val (.int se), .val (.long va), .second, .val (.long vb), .second, .val (.long vc), .second, .val (.int sf), .val (.int rq), .val (.int o1), .val (.int o2), .val (.int m1), .val (.int rr), .val (.int i1), .val (.int i2), .val (.int of), .val (.ref b84), .val (.ref a2), .val (.ref b105), .val (.ref g1), .val (.ref g2), .val (.long (own_ph sn m1n rq va 0)), .second, .val (.long (own_ph sn m1n rq va 1)), .second, .val (.long (own_ph sn m1n rq va 2)), .second, .unset, .unset, .unset, .unset, .unset] [(.long va), (.int m1), (.int rq), (.int sf), (.int (1 : Int32)), (.long (own_ph sn m1n rq va 0)), (.int (own_ro sn m1n rq va 0)), (.int rr), (.ref g1)])) rfl (by rw [hml]; rfl) (argsL := [(.int (1 : Int32)), (.int sf), (.int rq), (.int m1), (.long va)]) (rest := [(.long (own_ph sn m1n rq va 0)), (.int (own_ro sn m1n rq va 0)), (.int rr), (.ref g1)]) (lenOf own_pd9 rfl) rfl (by show 2 * 0 + _ ≤ _; exact Nat.le_of_eq rfl) (hb hby at_370) (fun _ _ => ⟨rfl, (eq116), (by decide : 10 + 0 ≤ _), (by decide : 37 + 0 ≤ _)⟩)
  dsimp only [Pt.U, Pt.locs, Pt.cells, Pt.slots] at X117 l117 y117 z117 st117 hQ117
  subst l117 y117 z117
  obtain ⟨rfl, Nq117, eq117⟩ := hQ117
  replace N107 := Fr.app N107 Nq117
  refine own_st (g' := (mkF m 373 #[.val (.int se), .val (.long va), .second, .val (.long vb), .second, .val (.long vc), .second, .val (.int sf), .val (.int rq), .val (.int o1), .val (.int o2), .val (.int m1), .val (.int rr), .val (.int i1), .val (.int i2), .val (.int of), .val (.ref b84), .val (.ref a2), .val (.ref b105), .val (.ref g1), .val (.ref g2), .val (.long (own_ph sn m1n rq va 0)), .second, .val (.long (own_ph sn m1n rq va 1)), .second, .val (.long (own_ph sn m1n rq va 2)), .second, .unset, .unset, .unset, .unset, .unset] [(.int (own_ro sn m1n rq va 1)), (.long (own_ph sn m1n rq va 0)), (.int (own_ro sn m1n rq va 0)), (.int rr), (.ref g1)])) st117 ?_
  refine own_st (T' := T117) (g' := (mkF m 375 #[.val (.int se), .val (.long va), .second, .val (.long vb), .second, .val (.long vc), .second, .val (.int sf), .val (.int rq), .val (.int o1), .val (.int o2), .val (.int m1), .val (.int rr), .val (.int i1), .val (.int i2), .val (.int of), .val (.ref b84), .val (.ref a2), .val (.ref b105), .val (.ref g1), .val (.ref g2), .val (.long (own_ph sn m1n rq va 0)), .second, .val (.long (own_ph sn m1n rq va 1)), .second, .val (.long (own_ph sn m1n rq va 2)), .second, .unset, .unset, .unset, .unset, .unset] [(.long (own_ph sn m1n rq va 1)), (.int (own_ro sn m1n rq va 1)), (.long (own_ph sn m1n rq va 0)), (.int (own_ro sn m1n rq va 0)), (.int rr), (.ref g1)])) (fun _ zq => XS.lload X117.here hx rfl (hb hby at_373) rfl zq) ?_
  refine own_st (T' := T117) (g' := (mkF m 376 #[.val (.int se), .val (.long va), .second, .val (.long vb), .second, .val (.long vc), .second, .val (.int sf), .val (.int rq), .val (.int o1), .val (.int o2), .val (.int m1), .val (.int rr), .val (.int i1), .val (.int i2), .val (.int of), .val (.ref b84), .val (.ref a2), .val (.ref b105), .val (.ref g1), .val (.ref g2), .val (.long (own_ph sn m1n rq va 0)), .second, .val (.long (own_ph sn m1n rq va 1)), .second, .val (.long (own_ph sn m1n rq va 2)), .second, .unset, .unset, .unset, .unset, .unset] [(.int (2 : Int32)), (.long (own_ph sn m1n rq va 1)), (.int (own_ro sn m1n rq va 1)), (.long (own_ph sn m1n rq va 0)), (.int (own_ro sn m1n rq va 0)), (.int rr), (.ref g1)])) (fun _ zq => XS.iconst X117.here hx rfl (hb hby at_375) zq) ?_
  refine own_st (T' := T117) (g' := (mkF m 378 #[.val (.int se), .val (.long va), .second, .val (.long vb), .second, .val (.long vc), .second, .val (.int sf), .val (.int rq), .val (.int o1), .val (.int o2), .val (.int m1), .val (.int rr), .val (.int i1), .val (.int i2), .val (.int of), .val (.ref b84), .val (.ref a2), .val (.ref b105), .val (.ref g1), .val (.ref g2), .val (.long (own_ph sn m1n rq va 0)), .second, .val (.long (own_ph sn m1n rq va 1)), .second, .val (.long (own_ph sn m1n rq va 2)), .second, .unset, .unset, .unset, .unset, .unset] [(.int sf), (.int (2 : Int32)), (.long (own_ph sn m1n rq va 1)), (.int (own_ro sn m1n rq va 1)), (.long (own_ph sn m1n rq va 0)), (.int (own_ro sn m1n rq va 0)), (.int rr), (.ref g1)])) (fun _ zq => XS.iload X117.here hx rfl (hb hby at_376) rfl zq) ?_
  refine own_st (T' := T117) (g' := (mkF m 380 #[.val (.int se), .val (.long va), .second, .val (.long vb), .second, .val (.long vc), .second, .val (.int sf), .val (.int rq), .val (.int o1), .val (.int o2), .val (.int m1), .val (.int rr), .val (.int i1), .val (.int i2), .val (.int of), .val (.ref b84), .val (.ref a2), .val (.ref b105), .val (.ref g1), .val (.ref g2), .val (.long (own_ph sn m1n rq va 0)), .second, .val (.long (own_ph sn m1n rq va 1)), .second, .val (.long (own_ph sn m1n rq va 2)), .second, .unset, .unset, .unset, .unset, .unset] [(.int rq), (.int sf), (.int (2 : Int32)), (.long (own_ph sn m1n rq va 1)), (.int (own_ro sn m1n rq va 1)), (.long (own_ph sn m1n rq va 0)), (.int (own_ro sn m1n rq va 0)), (.int rr), (.ref g1)])) (fun _ zq => XS.iload X117.here hx rfl (hb hby at_378) rfl zq) ?_
  refine own_st (T' := T117) (g' := (mkF m 382 #[.val (.int se), .val (.long va), .second, .val (.long vb), .second, .val (.long vc), .second, .val (.int sf), .val (.int rq), .val (.int o1), .val (.int o2), .val (.int m1), .val (.int rr), .val (.int i1), .val (.int i2), .val (.int of), .val (.ref b84), .val (.ref a2), .val (.ref b105), .val (.ref g1), .val (.ref g2), .val (.long (own_ph sn m1n rq va 0)), .second, .val (.long (own_ph sn m1n rq va 1)), .second, .val (.long (own_ph sn m1n rq va 2)), .second, .unset, .unset, .unset, .unset, .unset] [(.int m1), (.int rq), (.int sf), (.int (2 : Int32)), (.long (own_ph sn m1n rq va 1)), (.int (own_ro sn m1n rq va 1)), (.long (own_ph sn m1n rq va 0)), (.int (own_ro sn m1n rq va 0)), (.int rr), (.ref g1)])) (fun _ zq => XS.iload X117.here hx rfl (hb hby at_380) rfl zq) ?_
  refine own_st (T' := T117) (g' := (mkF m 383 #[.val (.int se), .val (.long va), .second, .val (.long vb), .second, .val (.long vc), .second, .val (.int sf), .val (.int rq), .val (.int o1), .val (.int o2), .val (.int m1), .val (.int rr), .val (.int i1), .val (.int i2), .val (.int of), .val (.ref b84), .val (.ref a2), .val (.ref b105), .val (.ref g1), .val (.ref g2), .val (.long (own_ph sn m1n rq va 0)), .second, .val (.long (own_ph sn m1n rq va 1)), .second, .val (.long (own_ph sn m1n rq va 2)), .second, .unset, .unset, .unset, .unset, .unset] [(.long va), (.int m1), (.int rq), (.int sf), (.int (2 : Int32)), (.long (own_ph sn m1n rq va 1)), (.int (own_ro sn m1n rq va 1)), (.long (own_ph sn m1n rq va 0)), (.int (own_ro sn m1n rq va 0)), (.int rr), (.ref g1)])) (fun _ zq => XS.lloadN X117.here hx rfl (hb hby at_382) rfl zq) ?_
  obtain ⟨_, _, ⟨T118, L118, k118, n118⟩, -, X118, ⟨Lc118, hQ118, l118, y118, z118⟩, st118⟩ := Jvm.LawKit.callS X117 hx (y := (⟨"com/example/coterie/coterie/runtime/KnownRequestsLearnPinLaw", "rose1", "(IIZIJ)Z"⟩ : MethodName)) hown (mvT hZ (hw _ (List.mem_of_getElem? (i := 48) rfl))) (mvT hZ (hw _ (List.mem_of_getElem? (i := 49) rfl))) (mvT hZ (hw _ (List.mem_of_getElem? (i := 42) rfl))) (mvT hZ (hw _ (List.mem_of_getElem? (i := 50) rfl))) (by decide) (backOf (W := 8) (rm_rose1 l Z a0 hw [] (2 : Int32) 2 sf sn rq m1 m1n va T112.heap n0 Z107 rfl hs hm1 hrq) hZ (hw _ (List.mem_of_getElem? (i := 50) rfl)) (hw _ (List.mem_of_getElem? (i := 42) rfl)) (by decide) (by decide)) (g := (mkF m 383 #[.val (.int se), .val (.long va), .second, .val (.long vb), .second, .val (.long vc), .second, .val (.int sf), .val (.int rq), .val (.int o1), .val (.int o2), .val (.int m1), .val (.int rr), .val (.int i1), .val (.int i2), .val (.int of), .val (.ref b84), .val (.ref a2), .val (.ref b105), .val (.ref g1), .val (.ref g2), .val (.long (own_ph sn m1n rq va 0)), .second, .val (.long (own_ph sn m1n rq va 1)), .second, .val (.long (own_ph sn m1n rq va 2)), .second, .unset, .unset, .unset, .unset, .unset] [(.long va), (.int m1), (.int rq), (.int sf), (.int (2 : Int32)), (.long (own_ph sn m1n rq va 1)), (.int (own_ro sn m1n rq va 1)), (.long (own_ph sn m1n rq va 0)), (.int (own_ro sn m1n rq va 0)), (.int rr), (.ref g1)])) rfl (by rw [hml]; rfl) (argsL := [(.int (2 : Int32)), (.int sf), (.int rq), (.int m1), (.long va)]) (rest := [(.long (own_ph sn m1n rq va 1)), (.int (own_ro sn m1n rq va 1)), (.long (own_ph sn m1n rq va 0)), (.int (own_ro sn m1n rq va 0)), (.int rr), (.ref g1)]) (lenOf own_pd9 rfl) rfl (by show 2 * 0 + _ ≤ _; exact Nat.le_of_eq rfl) (hb hby at_383) (fun _ _ => ⟨rfl, (eq117), (by decide : 10 + 0 ≤ _), (by decide : 37 + 0 ≤ _)⟩)
  dsimp only [Pt.U, Pt.locs, Pt.cells, Pt.slots] at X118 l118 y118 z118 st118 hQ118
  subst l118 y118 z118
  obtain ⟨rfl, Nq118, eq118⟩ := hQ118
  replace N107 := Fr.app N107 Nq118
  refine own_st (g' := (mkF m 386 #[.val (.int se), .val (.long va), .second, .val (.long vb), .second, .val (.long vc), .second, .val (.int sf), .val (.int rq), .val (.int o1), .val (.int o2), .val (.int m1), .val (.int rr), .val (.int i1), .val (.int i2), .val (.int of), .val (.ref b84), .val (.ref a2), .val (.ref b105), .val (.ref g1), .val (.ref g2), .val (.long (own_ph sn m1n rq va 0)), .second, .val (.long (own_ph sn m1n rq va 1)), .second, .val (.long (own_ph sn m1n rq va 2)), .second, .unset, .unset, .unset, .unset, .unset] [(.int (own_ro sn m1n rq va 2)), (.long (own_ph sn m1n rq va 1)), (.int (own_ro sn m1n rq va 1)), (.long (own_ph sn m1n rq va 0)), (.int (own_ro sn m1n rq va 0)), (.int rr), (.ref g1)])) st118 ?_
  refine own_st (T' := T118) (g' := (mkF m 388 #[.val (.int se), .val (.long va), .second, .val (.long vb), .second, .val (.long vc), .second, .val (.int sf), .val (.int rq), .val (.int o1), .val (.int o2), .val (.int m1), .val (.int rr), .val (.int i1), .val (.int i2), .val (.int of), .val (.ref b84), .val (.ref a2), .val (.ref b105), .val (.ref g1), .val (.ref g2), .val (.long (own_ph sn m1n rq va 0)), .second, .val (.long (own_ph sn m1n rq va 1)), .second, .val (.long (own_ph sn m1n rq va 2)), .second, .unset, .unset, .unset, .unset, .unset] [(.long (own_ph sn m1n rq va 2)), (.int (own_ro sn m1n rq va 2)), (.long (own_ph sn m1n rq va 1)), (.int (own_ro sn m1n rq va 1)), (.long (own_ph sn m1n rq va 0)), (.int (own_ro sn m1n rq va 0)), (.int rr), (.ref g1)])) (fun _ zq => XS.lload X118.here hx rfl (hb hby at_386) rfl zq) ?_
  obtain ⟨_, _, ⟨T119, L119, k119, n119⟩, -, X119, ⟨Lc119, hQ119, l119, y119, z119⟩, st119⟩ := Jvm.LawKit.callS X118 hx (y := (⟨"com/example/coterie/coterie/runtime/KnownRequestsLearnPinLaw", "check", "([JIZJZJZJ)Z"⟩ : MethodName)) hown (mvT hZ (hw _ (List.mem_of_getElem? (i := 51) rfl))) (mvT hZ (hw _ (List.mem_of_getElem? (i := 52) rfl))) (mvT hZ (hw _ (List.mem_of_getElem? (i := 42) rfl))) (mvT hZ (hw _ (List.mem_of_getElem? (i := 53) rfl))) (by decide) (backOf (W := 0) (rm_check l Z a0 hw [] g1 rr rrn (own_ro sn m1n rq va) (own_ph sn m1n rq va) T112.heap n0 Z107 V_g1 hrr) hZ (hw _ (List.mem_of_getElem? (i := 53) rfl)) (hw _ (List.mem_of_getElem? (i := 42) rfl)) (by decide) (by decide)) (g := (mkF m 388 #[.val (.int se), .val (.long va), .second, .val (.long vb), .second, .val (.long vc), .second, .val (.int sf), .val (.int rq), .val (.int o1), .val (.int o2), .val (.int m1), .val (.int rr), .val (.int i1), .val (.int i2), .val (.int of), .val (.ref b84), .val (.ref a2), .val (.ref b105), .val (.ref g1), .val (.ref g2), .val (.long (own_ph sn m1n rq va 0)), .second, .val (.long (own_ph sn m1n rq va 1)), .second, .val (.long (own_ph sn m1n rq va 2)), .second, .unset, .unset, .unset, .unset, .unset] [(.long (own_ph sn m1n rq va 2)), (.int (own_ro sn m1n rq va 2)), (.long (own_ph sn m1n rq va 1)), (.int (own_ro sn m1n rq va 1)), (.long (own_ph sn m1n rq va 0)), (.int (own_ro sn m1n rq va 0)), (.int rr), (.ref g1)])) rfl (by rw [hml]; rfl) (argsL := [(.ref g1), (.int rr), (.int (own_ro sn m1n rq va 0)), (.long (own_ph sn m1n rq va 0)), (.int (own_ro sn m1n rq va 1)), (.long (own_ph sn m1n rq va 1)), (.int (own_ro sn m1n rq va 2)), (.long (own_ph sn m1n rq va 2))]) (rest := []) (lenOf own_pd10 rfl) rfl (by show 2 * 0 + _ ≤ _; exact Nat.le_of_eq rfl) (hb hby at_388) (fun _ _ => ⟨rfl, (eq118), (by decide : 10 + 1 ≤ _), (by decide : 37 + 6 ≤ _)⟩)
  dsimp only [Pt.U, Pt.locs, Pt.cells, Pt.slots] at X119 l119 y119 z119 st119 hQ119
  subst l119 y119 z119
  obtain ⟨rfl, Nq119, Kq119⟩ := hQ119
  replace N107 := Fr.app N107 Nq119
  replace O := O.keep Kq119 all0
  replace V_g2 := V_g2.keep Kq119 nin0
  replace Z107 := Nat.le_trans Z107 Kq119.1
  refine own_st (g' := (mkF m 391 #[.val (.int se), .val (.long va), .second, .val (.long vb), .second, .val (.long vc), .second, .val (.int sf), .val (.int rq), .val (.int o1), .val (.int o2), .val (.int m1), .val (.int rr), .val (.int i1), .val (.int i2), .val (.int of), .val (.ref b84), .val (.ref a2), .val (.ref b105), .val (.ref g1), .val (.ref g2), .val (.long (own_ph sn m1n rq va 0)), .second, .val (.long (own_ph sn m1n rq va 1)), .second, .val (.long (own_ph sn m1n rq va 2)), .second, .unset, .unset, .unset, .unset, .unset] [(.int (1 : Int32))])) st119 ?_
  refine own_st (T' := T119) (g' := (mkF m 393 #[.val (.int se), .val (.long va), .second, .val (.long vb), .second, .val (.long vc), .second, .val (.int sf), .val (.int rq), .val (.int o1), .val (.int o2), .val (.int m1), .val (.int rr), .val (.int i1), .val (.int i2), .val (.int of), .val (.ref b84), .val (.ref a2), .val (.ref b105), .val (.ref g1), .val (.ref g2), .val (.long (own_ph sn m1n rq va 0)), .second, .val (.long (own_ph sn m1n rq va 1)), .second, .val (.long (own_ph sn m1n rq va 2)), .second, .val (.int (1 : Int32)), .unset, .unset, .unset, .unset] [])) (fun _ zq => XS.istore X119.here hx rfl (hb hby at_391) rfl (l' := #[.val (.int se), .val (.long va), .second, .val (.long vb), .second, .val (.long vc), .second, .val (.int sf), .val (.int rq), .val (.int o1), .val (.int o2), .val (.int m1), .val (.int rr), .val (.int i1), .val (.int i2), .val (.int of), .val (.ref b84), .val (.ref a2), .val (.ref b105), .val (.ref g1), .val (.ref g2), .val (.long (own_ph sn m1n rq va 0)), .second, .val (.long (own_ph sn m1n rq va 1)), .second, .val (.long (own_ph sn m1n rq va 2)), .second, .val (.int (1 : Int32)), .unset, .unset, .unset, .unset]) rfl zq) ?_
  refine own_st (T' := T119) (g' := (mkF m 394 #[.val (.int se), .val (.long va), .second, .val (.long vb), .second, .val (.long vc), .second, .val (.int sf), .val (.int rq), .val (.int o1), .val (.int o2), .val (.int m1), .val (.int rr), .val (.int i1), .val (.int i2), .val (.int of), .val (.ref b84), .val (.ref a2), .val (.ref b105), .val (.ref g1), .val (.ref g2), .val (.long (own_ph sn m1n rq va 0)), .second, .val (.long (own_ph sn m1n rq va 1)), .second, .val (.long (own_ph sn m1n rq va 2)), .second, .val (.int (1 : Int32)), .unset, .unset, .unset, .unset] [(.int (0 : Int32))])) (fun _ zq => XS.iconst X119.here hx rfl (hb hby at_393) zq) ?_
  refine own_st (T' := T119) (g' := (mkF m 396 #[.val (.int se), .val (.long va), .second, .val (.long vb), .second, .val (.long vc), .second, .val (.int sf), .val (.int rq), .val (.int o1), .val (.int o2), .val (.int m1), .val (.int rr), .val (.int i1), .val (.int i2), .val (.int of), .val (.ref b84), .val (.ref a2), .val (.ref b105), .val (.ref g1), .val (.ref g2), .val (.long (own_ph sn m1n rq va 0)), .second, .val (.long (own_ph sn m1n rq va 1)), .second, .val (.long (own_ph sn m1n rq va 2)), .second, .val (.int (1 : Int32)), .unset, .unset, .unset, .unset] [(.int o1), (.int (0 : Int32))])) (fun _ zq => XS.iload X119.here hx rfl (hb hby at_394) rfl zq) ?_
  refine own_st (T' := T119) (g' := (mkF m 398 #[.val (.int se), .val (.long va), .second, .val (.long vb), .second, .val (.long vc), .second, .val (.int sf), .val (.int rq), .val (.int o1), .val (.int o2), .val (.int m1), .val (.int rr), .val (.int i1), .val (.int i2), .val (.int of), .val (.ref b84), .val (.ref a2), .val (.ref b105), .val (.ref g1), .val (.ref g2), .val (.long (own_ph sn m1n rq va 0)), .second, .val (.long (own_ph sn m1n rq va 1)), .second, .val (.long (own_ph sn m1n rq va 2)), .second, .val (.int (1 : Int32)), .unset, .unset, .unset, .unset] [(.int o2), (.int o1), (.int (0 : Int32))])) (fun _ zq => XS.iload X119.here hx rfl (hb hby at_396) rfl zq) ?_
  refine own_st (T' := T119) (g' := (mkF m 400 #[.val (.int se), .val (.long va), .second, .val (.long vb), .second, .val (.long vc), .second, .val (.int sf), .val (.int rq), .val (.int o1), .val (.int o2), .val (.int m1), .val (.int rr), .val (.int i1), .val (.int i2), .val (.int of), .val (.ref b84), .val (.ref a2), .val (.ref b105), .val (.ref g1), .val (.ref g2), .val (.long (own_ph sn m1n rq va 0)), .second, .val (.long (own_ph sn m1n rq va 1)), .second, .val (.long (own_ph sn m1n rq va 2)), .second, .val (.int (1 : Int32)), .unset, .unset, .unset, .unset] [(.int i1), (.int o2), (.int o1), (.int (0 : Int32))])) (fun _ zq => XS.iload X119.here hx rfl (hb hby at_398) rfl zq) ?_
  refine own_st (T' := T119) (g' := (mkF m 402 #[.val (.int se), .val (.long va), .second, .val (.long vb), .second, .val (.long vc), .second, .val (.int sf), .val (.int rq), .val (.int o1), .val (.int o2), .val (.int m1), .val (.int rr), .val (.int i1), .val (.int i2), .val (.int of), .val (.ref b84), .val (.ref a2), .val (.ref b105), .val (.ref g1), .val (.ref g2), .val (.long (own_ph sn m1n rq va 0)), .second, .val (.long (own_ph sn m1n rq va 1)), .second, .val (.long (own_ph sn m1n rq va 2)), .second, .val (.int (1 : Int32)), .unset, .unset, .unset, .unset] [(.int i2), (.int i1), (.int o2), (.int o1), (.int (0 : Int32))])) (fun _ zq => XS.iload X119.here hx rfl (hb hby at_400) rfl zq) ?_
  obtain ⟨_, _, ⟨T120, L120, k120, n120⟩, -, X120, ⟨Lc120, hQ120, l120, y120, z120⟩, st120⟩ := Jvm.LawKit.callS X119 hx (y := (⟨"com/example/coterie/coterie/runtime/KnownRequestsLearnPinLaw", "has2", "(IIIZZ)Z"⟩ : MethodName)) hown (mvT hZ (hw _ (List.mem_of_getElem? (i := 54) rfl))) (mvT hZ (hw _ (List.mem_of_getElem? (i := 55) rfl))) (mvT hZ (hw _ (List.mem_of_getElem? (i := 42) rfl))) (mvT hZ (hw _ (List.mem_of_getElem? (i := 56) rfl))) (by decide) (backOf (W := 0) (rm_has2 l Z a0 hw [] (0 : Int32) 0 o1 o1n o2 o2n i1 i2 T119.heap n0 Z107 rfl ho1 ho2) hZ (hw _ (List.mem_of_getElem? (i := 56) rfl)) (hw _ (List.mem_of_getElem? (i := 42) rfl)) (by decide) (by decide)) (g := (mkF m 402 #[.val (.int se), .val (.long va), .second, .val (.long vb), .second, .val (.long vc), .second, .val (.int sf), .val (.int rq), .val (.int o1), .val (.int o2), .val (.int m1), .val (.int rr), .val (.int i1), .val (.int i2), .val (.int of), .val (.ref b84), .val (.ref a2), .val (.ref b105), .val (.ref g1), .val (.ref g2), .val (.long (own_ph sn m1n rq va 0)), .second, .val (.long (own_ph sn m1n rq va 1)), .second, .val (.long (own_ph sn m1n rq va 2)), .second, .val (.int (1 : Int32)), .unset, .unset, .unset, .unset] [(.int i2), (.int i1), (.int o2), (.int o1), (.int (0 : Int32))])) rfl (by rw [hml]; rfl) (argsL := [(.int (0 : Int32)), (.int o1), (.int o2), (.int i1), (.int i2)]) (rest := []) (lenOf own_pd11 rfl) rfl (by show 2 * 0 + _ ≤ _; exact Nat.le_of_eq rfl) (hb hby at_402) (fun _ _ => ⟨rfl, rfl, (by decide : 11 + 0 ≤ _), (by decide : 43 + 0 ≤ _)⟩)
  dsimp only [Pt.U, Pt.locs, Pt.cells, Pt.slots] at X120 l120 y120 z120 st120 hQ120
  subst l120 y120 z120
  obtain ⟨rfl, Nq120, eq120⟩ := hQ120
  replace N107 := Fr.app N107 Nq120
  refine own_st (g' := (mkF m 405 #[.val (.int se), .val (.long va), .second, .val (.long vb), .second, .val (.long vc), .second, .val (.int sf), .val (.int rq), .val (.int o1), .val (.int o2), .val (.int m1), .val (.int rr), .val (.int i1), .val (.int i2), .val (.int of), .val (.ref b84), .val (.ref a2), .val (.ref b105), .val (.ref g1), .val (.ref g2), .val (.long (own_ph sn m1n rq va 0)), .second, .val (.long (own_ph sn m1n rq va 1)), .second, .val (.long (own_ph sn m1n rq va 2)), .second, .val (.int (1 : Int32)), .unset, .unset, .unset, .unset] [(.int (own_h2 o1n o2n i1 i2 0))])) st120 ?_
  suffices J428 : ∀ (T121 : State) (lo121 : List Loc) (h121 : Heap) (X121 : Stand p l e room_1 s m #[(.int se), (.long va), (.long vb), (.long vc)] below meth c T121 lo121 11 43) (e121 : T121.heap = h121) (N121 : Fr n0 lo121) (Z121 : n0 ≤ h121.size) (q0 : Int32) (O : Old Z n0 h121) (V_g2 : own_AV Z h121 g2 .long (own_L3 (own_g (fun j => own_x2 (own_h2 o1n o2n i1 i2 j) (own_ph sn m1n rq va j) (own_t2 o1n vb vc j)) rrn) (own_t2 o1n vb vc)).length (fun i => .long ((own_L3 (own_g (fun j => own_x2 (own_h2 o1n o2n i1 i2 j) (own_ph sn m1n rq va j) (own_t2 o1n vb vc j)) rrn) (own_t2 o1n vb vc)).getD i 0))) (hq0 : q0 = own_x2 (own_h2 o1n o2n i1 i2 0) (own_ph sn m1n rq va 0) (own_t2 o1n vb vc 0)), own_Go p e below s (Q_law Z se va vb vc aN fN h0 n0) 32 192 T121 (mkF m 428 #[.val (.int se), .val (.long va), .second, .val (.long vb), .second, .val (.long vc), .second, .val (.int sf), .val (.int rq), .val (.int o1), .val (.int o2), .val (.int m1), .val (.int rr), .val (.int i1), .val (.int i2), .val (.int of), .val (.ref b84), .val (.ref a2), .val (.ref b105), .val (.ref g1), .val (.ref g2), .val (.long (own_ph sn m1n rq va 0)), .second, .val (.long (own_ph sn m1n rq va 1)), .second, .val (.long (own_ph sn m1n rq va 2)), .second, .val (.int (1 : Int32)), .unset, .unset, .unset, .unset] [(.int q0)]) by
    by_cases hc : (own_h2 o1n o2n i1 i2 0) = (0 : Int32)
    · skip
      refine own_st (T' := T120) (g' := (mkF m 427 #[.val (.int se), .val (.long va), .second, .val (.long vb), .second, .val (.long vc), .second, .val (.int sf), .val (.int rq), .val (.int o1), .val (.int o2), .val (.int m1), .val (.int rr), .val (.int i1), .val (.int i2), .val (.int of), .val (.ref b84), .val (.ref a2), .val (.ref b105), .val (.ref g1), .val (.ref g2), .val (.long (own_ph sn m1n rq va 0)), .second, .val (.long (own_ph sn m1n rq va 1)), .second, .val (.long (own_ph sn m1n rq va 2)), .second, .val (.int (1 : Int32)), .unset, .unset, .unset, .unset] [])) (fun _ zq => XS.ifYes X120.here hx rfl (pc0 := 405) (pc' := 427) rfl (hb hby at_405) rfl ((if0 _ _).trans (teq hc).1) (by decide) (by decide) zq) ?_
      refine own_st (T' := T120) (g' := (mkF m 428 #[.val (.int se), .val (.long va), .second, .val (.long vb), .second, .val (.long vc), .second, .val (.int sf), .val (.int rq), .val (.int o1), .val (.int o2), .val (.int m1), .val (.int rr), .val (.int i1), .val (.int i2), .val (.int of), .val (.ref b84), .val (.ref a2), .val (.ref b105), .val (.ref g1), .val (.ref g2), .val (.long (own_ph sn m1n rq va 0)), .second, .val (.long (own_ph sn m1n rq va 1)), .second, .val (.long (own_ph sn m1n rq va 2)), .second, .val (.int (1 : Int32)), .unset, .unset, .unset, .unset] [(.int (0 : Int32))])) (fun _ zq => XS.iconst X120.here hx rfl (hb hby at_427) zq) ?_
      exact J428 T120 _ T119.heap (X120.more (Nat.le_of_ble_eq_true rfl) (Nat.le_of_ble_eq_true rfl)) (eq120) N107 Z107 _ O V_g2 (by rw [own_x2, if_pos hc])
    · skip
      refine own_st (T' := T120) (g' := (mkF m 408 #[.val (.int se), .val (.long va), .second, .val (.long vb), .second, .val (.long vc), .second, .val (.int sf), .val (.int rq), .val (.int o1), .val (.int o2), .val (.int m1), .val (.int rr), .val (.int i1), .val (.int i2), .val (.int of), .val (.ref b84), .val (.ref a2), .val (.ref b105), .val (.ref g1), .val (.ref g2), .val (.long (own_ph sn m1n rq va 0)), .second, .val (.long (own_ph sn m1n rq va 1)), .second, .val (.long (own_ph sn m1n rq va 2)), .second, .val (.int (1 : Int32)), .unset, .unset, .unset, .unset] [])) (fun _ zq => XS.ifNo X120.here hx rfl (hb hby at_405) rfl ((if0 _ _).trans (feq hc).1) zq) ?_
      refine own_st (T' := T120) (g' := (mkF m 409 #[.val (.int se), .val (.long va), .second, .val (.long vb), .second, .val (.long vc), .second, .val (.int sf), .val (.int rq), .val (.int o1), .val (.int o2), .val (.int m1), .val (.int rr), .val (.int i1), .val (.int i2), .val (.int of), .val (.ref b84), .val (.ref a2), .val (.ref b105), .val (.ref g1), .val (.ref g2), .val (.long (own_ph sn m1n rq va 0)), .second, .val (.long (own_ph sn m1n rq va 1)), .second, .val (.long (own_ph sn m1n rq va 2)), .second, .val (.int (1 : Int32)), .unset, .unset, .unset, .unset] [(.int (0 : Int32))])) (fun _ zq => XS.iconst X120.here hx rfl (hb hby at_408) zq) ?_
      refine own_st (T' := T120) (g' := (mkF m 411 #[.val (.int se), .val (.long va), .second, .val (.long vb), .second, .val (.long vc), .second, .val (.int sf), .val (.int rq), .val (.int o1), .val (.int o2), .val (.int m1), .val (.int rr), .val (.int i1), .val (.int i2), .val (.int of), .val (.ref b84), .val (.ref a2), .val (.ref b105), .val (.ref g1), .val (.ref g2), .val (.long (own_ph sn m1n rq va 0)), .second, .val (.long (own_ph sn m1n rq va 1)), .second, .val (.long (own_ph sn m1n rq va 2)), .second, .val (.int (1 : Int32)), .unset, .unset, .unset, .unset] [(.int o1), (.int (0 : Int32))])) (fun _ zq => XS.iload X120.here hx rfl (hb hby at_409) rfl zq) ?_
      refine own_st (T' := T120) (g' := (mkF m 412 #[.val (.int se), .val (.long va), .second, .val (.long vb), .second, .val (.long vc), .second, .val (.int sf), .val (.int rq), .val (.int o1), .val (.int o2), .val (.int m1), .val (.int rr), .val (.int i1), .val (.int i2), .val (.int of), .val (.ref b84), .val (.ref a2), .val (.ref b105), .val (.ref g1), .val (.ref g2), .val (.long (own_ph sn m1n rq va 0)), .second, .val (.long (own_ph sn m1n rq va 1)), .second, .val (.long (own_ph sn m1n rq va 2)), .second, .val (.int (1 : Int32)), .unset, .unset, .unset, .unset] [(.long vb), (.int o1), (.int (0 : Int32))])) (fun _ zq => XS.lloadN X120.here hx rfl (hb hby at_411) rfl zq) ?_
      refine own_st (T' := T120) (g' := (mkF m 414 #[.val (.int se), .val (.long va), .second, .val (.long vb), .second, .val (.long vc), .second, .val (.int sf), .val (.int rq), .val (.int o1), .val (.int o2), .val (.int m1), .val (.int rr), .val (.int i1), .val (.int i2), .val (.int of), .val (.ref b84), .val (.ref a2), .val (.ref b105), .val (.ref g1), .val (.ref g2), .val (.long (own_ph sn m1n rq va 0)), .second, .val (.long (own_ph sn m1n rq va 1)), .second, .val (.long (own_ph sn m1n rq va 2)), .second, .val (.int (1 : Int32)), .unset, .unset, .unset, .unset] [(.long vc), (.long vb), (.int o1), (.int (0 : Int32))])) (fun _ zq => XS.lload X120.here hx rfl (hb hby at_412) rfl zq) ?_
      obtain ⟨_, _, ⟨T122, L122, k122, n122⟩, -, X122, ⟨Lc122, hQ122, l122, y122, z122⟩, st122⟩ := Jvm.LawKit.callS X120 hx (y := (⟨"com/example/coterie/coterie/runtime/KnownRequestsLearnPinLaw", "told2", "(IIJJ)J"⟩ : MethodName)) hown (mvT hZ (hw _ (List.mem_of_getElem? (i := 57) rfl))) (mvT hZ (hw _ (List.mem_of_getElem? (i := 58) rfl))) (mvT hZ (hw _ (List.mem_of_getElem? (i := 42) rfl))) (mvT hZ (hw _ (List.mem_of_getElem? (i := 59) rfl))) (by decide) (backOf (W := 0) (rm_told2 l Z a0 hw [] (0 : Int32) 0 o1 o1n vb vc T119.heap n0 Z107 rfl ho1) hZ (hw _ (List.mem_of_getElem? (i := 59) rfl)) (hw _ (List.mem_of_getElem? (i := 42) rfl)) (by decide) (by decide)) (g := (mkF m 414 #[.val (.int se), .val (.long va), .second, .val (.long vb), .second, .val (.long vc), .second, .val (.int sf), .val (.int rq), .val (.int o1), .val (.int o2), .val (.int m1), .val (.int rr), .val (.int i1), .val (.int i2), .val (.int of), .val (.ref b84), .val (.ref a2), .val (.ref b105), .val (.ref g1), .val (.ref g2), .val (.long (own_ph sn m1n rq va 0)), .second, .val (.long (own_ph sn m1n rq va 1)), .second, .val (.long (own_ph sn m1n rq va 2)), .second, .val (.int (1 : Int32)), .unset, .unset, .unset, .unset] [(.long vc), (.long vb), (.int o1), (.int (0 : Int32))])) rfl (by rw [hml]; rfl) (argsL := [(.int (0 : Int32)), (.int o1), (.long vb), (.long vc)]) (rest := []) (lenOf own_pd12 rfl) rfl (by show 2 * 0 + _ ≤ _; exact Nat.le_of_eq rfl) (hb hby at_414) (fun _ _ => ⟨rfl, (eq120), (by decide : 11 + 0 ≤ _), (by decide : 43 + 0 ≤ _)⟩)
      dsimp only [Pt.U, Pt.locs, Pt.cells, Pt.slots] at X122 l122 y122 z122 st122 hQ122
      subst l122 y122 z122
      obtain ⟨rfl, Nq122, eq122⟩ := hQ122
      replace N107 := Fr.app N107 Nq122
      refine own_st (g' := (mkF m 417 #[.val (.int se), .val (.long va), .second, .val (.long vb), .second, .val (.long vc), .second, .val (.int sf), .val (.int rq), .val (.int o1), .val (.int o2), .val (.int m1), .val (.int rr), .val (.int i1), .val (.int i2), .val (.int of), .val (.ref b84), .val (.ref a2), .val (.ref b105), .val (.ref g1), .val (.ref g2), .val (.long (own_ph sn m1n rq va 0)), .second, .val (.long (own_ph sn m1n rq va 1)), .second, .val (.long (own_ph sn m1n rq va 2)), .second, .val (.int (1 : Int32)), .unset, .unset, .unset, .unset] [(.long (own_t2 o1n vb vc 0))])) st122 ?_
      refine own_st (T' := T122) (g' := (mkF m 419 #[.val (.int se), .val (.long va), .second, .val (.long vb), .second, .val (.long vc), .second, .val (.int sf), .val (.int rq), .val (.int o1), .val (.int o2), .val (.int m1), .val (.int rr), .val (.int i1), .val (.int i2), .val (.int of), .val (.ref b84), .val (.ref a2), .val (.ref b105), .val (.ref g1), .val (.ref g2), .val (.long (own_ph sn m1n rq va 0)), .second, .val (.long (own_ph sn m1n rq va 1)), .second, .val (.long (own_ph sn m1n rq va 2)), .second, .val (.int (1 : Int32)), .unset, .unset, .unset, .unset] [(.long (own_ph sn m1n rq va 0)), (.long (own_t2 o1n vb vc 0))])) (fun _ zq => XS.lload X122.here hx rfl (hb hby at_417) rfl zq) ?_
      refine own_st (T' := T122) (g' := (mkF m 420 #[.val (.int se), .val (.long va), .second, .val (.long vb), .second, .val (.long vc), .second, .val (.int sf), .val (.int rq), .val (.int o1), .val (.int o2), .val (.int m1), .val (.int rr), .val (.int i1), .val (.int i2), .val (.int of), .val (.ref b84), .val (.ref a2), .val (.ref b105), .val (.ref g1), .val (.ref g2), .val (.long (own_ph sn m1n rq va 0)), .second, .val (.long (own_ph sn m1n rq va 1)), .second, .val (.long (own_ph sn m1n rq va 2)), .second, .val (.int (1 : Int32)), .unset, .unset, .unset, .unset] [(.int (lcmpW (own_t2 o1n vb vc 0) (own_ph sn m1n rq va 0)))])) (fun _ zq => XS.lcmp X122.here hx rfl (hb hby at_419) rfl zq) ?_
      by_cases hd : (own_ph sn m1n rq va 0) < (own_t2 o1n vb vc 0)
      · skip
        refine own_st (T' := T122) (g' := (mkF m 423 #[.val (.int se), .val (.long va), .second, .val (.long vb), .second, .val (.long vc), .second, .val (.int sf), .val (.int rq), .val (.int o1), .val (.int o2), .val (.int m1), .val (.int rr), .val (.int i1), .val (.int i2), .val (.int of), .val (.ref b84), .val (.ref a2), .val (.ref b105), .val (.ref g1), .val (.ref g2), .val (.long (own_ph sn m1n rq va 0)), .second, .val (.long (own_ph sn m1n rq va 1)), .second, .val (.long (own_ph sn m1n rq va 2)), .second, .val (.int (1 : Int32)), .unset, .unset, .unset, .unset] [])) (fun _ zq => XS.ifNo X122.here hx rfl (hb hby at_420) rfl (own_ltlt hd).2.2.2 zq) ?_
        refine own_st (T' := T122) (g' := (mkF m 424 #[.val (.int se), .val (.long va), .second, .val (.long vb), .second, .val (.long vc), .second, .val (.int sf), .val (.int rq), .val (.int o1), .val (.int o2), .val (.int m1), .val (.int rr), .val (.int i1), .val (.int i2), .val (.int of), .val (.ref b84), .val (.ref a2), .val (.ref b105), .val (.ref g1), .val (.ref g2), .val (.long (own_ph sn m1n rq va 0)), .second, .val (.long (own_ph sn m1n rq va 1)), .second, .val (.long (own_ph sn m1n rq va 2)), .second, .val (.int (1 : Int32)), .unset, .unset, .unset, .unset] [(.int (1 : Int32))])) (fun _ zq => XS.iconst X122.here hx rfl (hb hby at_423) zq) ?_
        refine own_st (T' := T122) (g' := (mkF m 428 #[.val (.int se), .val (.long va), .second, .val (.long vb), .second, .val (.long vc), .second, .val (.int sf), .val (.int rq), .val (.int o1), .val (.int o2), .val (.int m1), .val (.int rr), .val (.int i1), .val (.int i2), .val (.int of), .val (.ref b84), .val (.ref a2), .val (.ref b105), .val (.ref g1), .val (.ref g2), .val (.long (own_ph sn m1n rq va 0)), .second, .val (.long (own_ph sn m1n rq va 1)), .second, .val (.long (own_ph sn m1n rq va 2)), .second, .val (.int (1 : Int32)), .unset, .unset, .unset, .unset] [(.int (1 : Int32))])) (fun _ zq => XS.goto X122.here hx rfl (pc0 := 424) (pc' := 428) rfl (hb hby at_424) (by decide) (by decide) zq) ?_
        exact J428 T122 _ T119.heap (X122.more (Nat.le_of_ble_eq_true rfl) (Nat.le_of_ble_eq_true rfl)) (eq122) N107 Z107 _ O V_g2 (by rw [own_x2, if_neg hc, if_pos hd])
      · skip
        refine own_st (T' := T122) (g' := (mkF m 427 #[.val (.int se), .val (.long va), .second, .val (.long vb), .second, .val (.long vc), .second, .val (.int sf), .val (.int rq), .val (.int o1), .val (.int o2), .val (.int m1), .val (.int rr), .val (.int i1), .val (.int i2), .val (.int of), .val (.ref b84), .val (.ref a2), .val (.ref b105), .val (.ref g1), .val (.ref g2), .val (.long (own_ph sn m1n rq va 0)), .second, .val (.long (own_ph sn m1n rq va 1)), .second, .val (.long (own_ph sn m1n rq va 2)), .second, .val (.int (1 : Int32)), .unset, .unset, .unset, .unset] [])) (fun _ zq => XS.ifYes X122.here hx rfl (pc0 := 420) (pc' := 427) rfl (hb hby at_420) rfl (own_lflt hd).2.2.2 (by decide) (by decide) zq) ?_
        refine own_st (T' := T122) (g' := (mkF m 428 #[.val (.int se), .val (.long va), .second, .val (.long vb), .second, .val (.long vc), .second, .val (.int sf), .val (.int rq), .val (.int o1), .val (.int o2), .val (.int m1), .val (.int rr), .val (.int i1), .val (.int i2), .val (.int of), .val (.ref b84), .val (.ref a2), .val (.ref b105), .val (.ref g1), .val (.ref g2), .val (.long (own_ph sn m1n rq va 0)), .second, .val (.long (own_ph sn m1n rq va 1)), .second, .val (.long (own_ph sn m1n rq va 2)), .second, .val (.int (1 : Int32)), .unset, .unset, .unset, .unset] [(.int (0 : Int32))])) (fun _ zq => XS.iconst X122.here hx rfl (hb hby at_427) zq) ?_
        exact J428 T122 _ T119.heap (X122.more (Nat.le_of_ble_eq_true rfl) (Nat.le_of_ble_eq_true rfl)) (eq122) N107 Z107 _ O V_g2 (by rw [own_x2, if_neg hc, if_neg hd])
  intro T121 lo121 h121 X121 e121 N121 Z121 q0 O V_g2 hq0
  refine own_st (T' := T121) (g' := (mkF m 430 #[.val (.int se), .val (.long va), .second, .val (.long vb), .second, .val (.long vc), .second, .val (.int sf), .val (.int rq), .val (.int o1), .val (.int o2), .val (.int m1), .val (.int rr), .val (.int i1), .val (.int i2), .val (.int of), .val (.ref b84), .val (.ref a2), .val (.ref b105), .val (.ref g1), .val (.ref g2), .val (.long (own_ph sn m1n rq va 0)), .second, .val (.long (own_ph sn m1n rq va 1)), .second, .val (.long (own_ph sn m1n rq va 2)), .second, .val (.int (1 : Int32)), .val (.int q0), .unset, .unset, .unset] [])) (fun _ zq => XS.istore X121.here hx rfl (hb hby at_428) rfl (l' := #[.val (.int se), .val (.long va), .second, .val (.long vb), .second, .val (.long vc), .second, .val (.int sf), .val (.int rq), .val (.int o1), .val (.int o2), .val (.int m1), .val (.int rr), .val (.int i1), .val (.int i2), .val (.int of), .val (.ref b84), .val (.ref a2), .val (.ref b105), .val (.ref g1), .val (.ref g2), .val (.long (own_ph sn m1n rq va 0)), .second, .val (.long (own_ph sn m1n rq va 1)), .second, .val (.long (own_ph sn m1n rq va 2)), .second, .val (.int (1 : Int32)), .val (.int q0), .unset, .unset, .unset]) rfl zq) ?_
  refine own_st (T' := T121) (g' := (mkF m 431 #[.val (.int se), .val (.long va), .second, .val (.long vb), .second, .val (.long vc), .second, .val (.int sf), .val (.int rq), .val (.int o1), .val (.int o2), .val (.int m1), .val (.int rr), .val (.int i1), .val (.int i2), .val (.int of), .val (.ref b84), .val (.ref a2), .val (.ref b105), .val (.ref g1), .val (.ref g2), .val (.long (own_ph sn m1n rq va 0)), .second, .val (.long (own_ph sn m1n rq va 1)), .second, .val (.long (own_ph sn m1n rq va 2)), .second, .val (.int (1 : Int32)), .val (.int q0), .unset, .unset, .unset] [(.int (1 : Int32))])) (fun _ zq => XS.iconst X121.here hx rfl (hb hby at_430) zq) ?_
  refine own_st (T' := T121) (g' := (mkF m 433 #[.val (.int se), .val (.long va), .second, .val (.long vb), .second, .val (.long vc), .second, .val (.int sf), .val (.int rq), .val (.int o1), .val (.int o2), .val (.int m1), .val (.int rr), .val (.int i1), .val (.int i2), .val (.int of), .val (.ref b84), .val (.ref a2), .val (.ref b105), .val (.ref g1), .val (.ref g2), .val (.long (own_ph sn m1n rq va 0)), .second, .val (.long (own_ph sn m1n rq va 1)), .second, .val (.long (own_ph sn m1n rq va 2)), .second, .val (.int (1 : Int32)), .val (.int q0), .unset, .unset, .unset] [(.int o1), (.int (1 : Int32))])) (fun _ zq => XS.iload X121.here hx rfl (hb hby at_431) rfl zq) ?_
  refine own_st (T' := T121) (g' := (mkF m 435 #[.val (.int se), .val (.long va), .second, .val (.long vb), .second, .val (.long vc), .second, .val (.int sf), .val (.int rq), .val (.int o1), .val (.int o2), .val (.int m1), .val (.int rr), .val (.int i1), .val (.int i2), .val (.int of), .val (.ref b84), .val (.ref a2), .val (.ref b105), .val (.ref g1), .val (.ref g2), .val (.long (own_ph sn m1n rq va 0)), .second, .val (.long (own_ph sn m1n rq va 1)), .second, .val (.long (own_ph sn m1n rq va 2)), .second, .val (.int (1 : Int32)), .val (.int q0), .unset, .unset, .unset] [(.int o2), (.int o1), (.int (1 : Int32))])) (fun _ zq => XS.iload X121.here hx rfl (hb hby at_433) rfl zq) ?_
  refine own_st (T' := T121) (g' := (mkF m 437 #[.val (.int se), .val (.long va), .second, .val (.long vb), .second, .val (.long vc), .second, .val (.int sf), .val (.int rq), .val (.int o1), .val (.int o2), .val (.int m1), .val (.int rr), .val (.int i1), .val (.int i2), .val (.int of), .val (.ref b84), .val (.ref a2), .val (.ref b105), .val (.ref g1), .val (.ref g2), .val (.long (own_ph sn m1n rq va 0)), .second, .val (.long (own_ph sn m1n rq va 1)), .second, .val (.long (own_ph sn m1n rq va 2)), .second, .val (.int (1 : Int32)), .val (.int q0), .unset, .unset, .unset] [(.int i1), (.int o2), (.int o1), (.int (1 : Int32))])) (fun _ zq => XS.iload X121.here hx rfl (hb hby at_435) rfl zq) ?_
  refine own_st (T' := T121) (g' := (mkF m 439 #[.val (.int se), .val (.long va), .second, .val (.long vb), .second, .val (.long vc), .second, .val (.int sf), .val (.int rq), .val (.int o1), .val (.int o2), .val (.int m1), .val (.int rr), .val (.int i1), .val (.int i2), .val (.int of), .val (.ref b84), .val (.ref a2), .val (.ref b105), .val (.ref g1), .val (.ref g2), .val (.long (own_ph sn m1n rq va 0)), .second, .val (.long (own_ph sn m1n rq va 1)), .second, .val (.long (own_ph sn m1n rq va 2)), .second, .val (.int (1 : Int32)), .val (.int q0), .unset, .unset, .unset] [(.int i2), (.int i1), (.int o2), (.int o1), (.int (1 : Int32))])) (fun _ zq => XS.iload X121.here hx rfl (hb hby at_437) rfl zq) ?_
  obtain ⟨_, _, ⟨T123, L123, k123, n123⟩, -, X123, ⟨Lc123, hQ123, l123, y123, z123⟩, st123⟩ := Jvm.LawKit.callS X121 hx (y := (⟨"com/example/coterie/coterie/runtime/KnownRequestsLearnPinLaw", "has2", "(IIIZZ)Z"⟩ : MethodName)) hown (mvT hZ (hw _ (List.mem_of_getElem? (i := 54) rfl))) (mvT hZ (hw _ (List.mem_of_getElem? (i := 55) rfl))) (mvT hZ (hw _ (List.mem_of_getElem? (i := 42) rfl))) (mvT hZ (hw _ (List.mem_of_getElem? (i := 56) rfl))) (by decide) (backOf (W := 0) (rm_has2 l Z a0 hw [] (1 : Int32) 1 o1 o1n o2 o2n i1 i2 h121 n0 Z121 rfl ho1 ho2) hZ (hw _ (List.mem_of_getElem? (i := 56) rfl)) (hw _ (List.mem_of_getElem? (i := 42) rfl)) (by decide) (by decide)) (g := (mkF m 439 #[.val (.int se), .val (.long va), .second, .val (.long vb), .second, .val (.long vc), .second, .val (.int sf), .val (.int rq), .val (.int o1), .val (.int o2), .val (.int m1), .val (.int rr), .val (.int i1), .val (.int i2), .val (.int of), .val (.ref b84), .val (.ref a2), .val (.ref b105), .val (.ref g1), .val (.ref g2), .val (.long (own_ph sn m1n rq va 0)), .second, .val (.long (own_ph sn m1n rq va 1)), .second, .val (.long (own_ph sn m1n rq va 2)), .second, .val (.int (1 : Int32)), .val (.int q0), .unset, .unset, .unset] [(.int i2), (.int i1), (.int o2), (.int o1), (.int (1 : Int32))])) rfl (by rw [hml]; rfl) (argsL := [(.int (1 : Int32)), (.int o1), (.int o2), (.int i1), (.int i2)]) (rest := []) (lenOf own_pd11 rfl) rfl (by show 2 * 0 + _ ≤ _; exact Nat.le_of_eq rfl) (hb hby at_439) (fun _ _ => ⟨rfl, e121, (by decide : 11 + 0 ≤ _), (by decide : 43 + 0 ≤ _)⟩)
  dsimp only [Pt.U, Pt.locs, Pt.cells, Pt.slots] at X123 l123 y123 z123 st123 hQ123
  subst l123 y123 z123
  obtain ⟨rfl, Nq123, eq123⟩ := hQ123
  replace N121 := Fr.app N121 Nq123
  refine own_st (g' := (mkF m 442 #[.val (.int se), .val (.long va), .second, .val (.long vb), .second, .val (.long vc), .second, .val (.int sf), .val (.int rq), .val (.int o1), .val (.int o2), .val (.int m1), .val (.int rr), .val (.int i1), .val (.int i2), .val (.int of), .val (.ref b84), .val (.ref a2), .val (.ref b105), .val (.ref g1), .val (.ref g2), .val (.long (own_ph sn m1n rq va 0)), .second, .val (.long (own_ph sn m1n rq va 1)), .second, .val (.long (own_ph sn m1n rq va 2)), .second, .val (.int (1 : Int32)), .val (.int q0), .unset, .unset, .unset] [(.int (own_h2 o1n o2n i1 i2 1))])) st123 ?_
  suffices J465 : ∀ (T124 : State) (lo124 : List Loc) (h124 : Heap) (X124 : Stand p l e room_1 s m #[(.int se), (.long va), (.long vb), (.long vc)] below meth c T124 lo124 11 43) (e124 : T124.heap = h124) (N124 : Fr n0 lo124) (Z124 : n0 ≤ h124.size) (q1 : Int32) (O : Old Z n0 h124) (V_g2 : own_AV Z h124 g2 .long (own_L3 (own_g (fun j => own_x2 (own_h2 o1n o2n i1 i2 j) (own_ph sn m1n rq va j) (own_t2 o1n vb vc j)) rrn) (own_t2 o1n vb vc)).length (fun i => .long ((own_L3 (own_g (fun j => own_x2 (own_h2 o1n o2n i1 i2 j) (own_ph sn m1n rq va j) (own_t2 o1n vb vc j)) rrn) (own_t2 o1n vb vc)).getD i 0))) (hq1 : q1 = own_x2 (own_h2 o1n o2n i1 i2 1) (own_ph sn m1n rq va 1) (own_t2 o1n vb vc 1)), own_Go p e below s (Q_law Z se va vb vc aN fN h0 n0) 32 192 T124 (mkF m 465 #[.val (.int se), .val (.long va), .second, .val (.long vb), .second, .val (.long vc), .second, .val (.int sf), .val (.int rq), .val (.int o1), .val (.int o2), .val (.int m1), .val (.int rr), .val (.int i1), .val (.int i2), .val (.int of), .val (.ref b84), .val (.ref a2), .val (.ref b105), .val (.ref g1), .val (.ref g2), .val (.long (own_ph sn m1n rq va 0)), .second, .val (.long (own_ph sn m1n rq va 1)), .second, .val (.long (own_ph sn m1n rq va 2)), .second, .val (.int (1 : Int32)), .val (.int q0), .unset, .unset, .unset] [(.int q1)]) by
    by_cases hc : (own_h2 o1n o2n i1 i2 1) = (0 : Int32)
    · skip
      refine own_st (T' := T123) (g' := (mkF m 464 #[.val (.int se), .val (.long va), .second, .val (.long vb), .second, .val (.long vc), .second, .val (.int sf), .val (.int rq), .val (.int o1), .val (.int o2), .val (.int m1), .val (.int rr), .val (.int i1), .val (.int i2), .val (.int of), .val (.ref b84), .val (.ref a2), .val (.ref b105), .val (.ref g1), .val (.ref g2), .val (.long (own_ph sn m1n rq va 0)), .second, .val (.long (own_ph sn m1n rq va 1)), .second, .val (.long (own_ph sn m1n rq va 2)), .second, .val (.int (1 : Int32)), .val (.int q0), .unset, .unset, .unset] [])) (fun _ zq => XS.ifYes X123.here hx rfl (pc0 := 442) (pc' := 464) rfl (hb hby at_442) rfl ((if0 _ _).trans (teq hc).1) (by decide) (by decide) zq) ?_
      refine own_st (T' := T123) (g' := (mkF m 465 #[.val (.int se), .val (.long va), .second, .val (.long vb), .second, .val (.long vc), .second, .val (.int sf), .val (.int rq), .val (.int o1), .val (.int o2), .val (.int m1), .val (.int rr), .val (.int i1), .val (.int i2), .val (.int of), .val (.ref b84), .val (.ref a2), .val (.ref b105), .val (.ref g1), .val (.ref g2), .val (.long (own_ph sn m1n rq va 0)), .second, .val (.long (own_ph sn m1n rq va 1)), .second, .val (.long (own_ph sn m1n rq va 2)), .second, .val (.int (1 : Int32)), .val (.int q0), .unset, .unset, .unset] [(.int (0 : Int32))])) (fun _ zq => XS.iconst X123.here hx rfl (hb hby at_464) zq) ?_
      exact J465 T123 _ h121 (X123.more (Nat.le_of_ble_eq_true rfl) (Nat.le_of_ble_eq_true rfl)) (eq123) N121 Z121 _ O V_g2 (by rw [own_x2, if_pos hc])
    · skip
      refine own_st (T' := T123) (g' := (mkF m 445 #[.val (.int se), .val (.long va), .second, .val (.long vb), .second, .val (.long vc), .second, .val (.int sf), .val (.int rq), .val (.int o1), .val (.int o2), .val (.int m1), .val (.int rr), .val (.int i1), .val (.int i2), .val (.int of), .val (.ref b84), .val (.ref a2), .val (.ref b105), .val (.ref g1), .val (.ref g2), .val (.long (own_ph sn m1n rq va 0)), .second, .val (.long (own_ph sn m1n rq va 1)), .second, .val (.long (own_ph sn m1n rq va 2)), .second, .val (.int (1 : Int32)), .val (.int q0), .unset, .unset, .unset] [])) (fun _ zq => XS.ifNo X123.here hx rfl (hb hby at_442) rfl ((if0 _ _).trans (feq hc).1) zq) ?_
      refine own_st (T' := T123) (g' := (mkF m 446 #[.val (.int se), .val (.long va), .second, .val (.long vb), .second, .val (.long vc), .second, .val (.int sf), .val (.int rq), .val (.int o1), .val (.int o2), .val (.int m1), .val (.int rr), .val (.int i1), .val (.int i2), .val (.int of), .val (.ref b84), .val (.ref a2), .val (.ref b105), .val (.ref g1), .val (.ref g2), .val (.long (own_ph sn m1n rq va 0)), .second, .val (.long (own_ph sn m1n rq va 1)), .second, .val (.long (own_ph sn m1n rq va 2)), .second, .val (.int (1 : Int32)), .val (.int q0), .unset, .unset, .unset] [(.int (1 : Int32))])) (fun _ zq => XS.iconst X123.here hx rfl (hb hby at_445) zq) ?_
      refine own_st (T' := T123) (g' := (mkF m 448 #[.val (.int se), .val (.long va), .second, .val (.long vb), .second, .val (.long vc), .second, .val (.int sf), .val (.int rq), .val (.int o1), .val (.int o2), .val (.int m1), .val (.int rr), .val (.int i1), .val (.int i2), .val (.int of), .val (.ref b84), .val (.ref a2), .val (.ref b105), .val (.ref g1), .val (.ref g2), .val (.long (own_ph sn m1n rq va 0)), .second, .val (.long (own_ph sn m1n rq va 1)), .second, .val (.long (own_ph sn m1n rq va 2)), .second, .val (.int (1 : Int32)), .val (.int q0), .unset, .unset, .unset] [(.int o1), (.int (1 : Int32))])) (fun _ zq => XS.iload X123.here hx rfl (hb hby at_446) rfl zq) ?_
      refine own_st (T' := T123) (g' := (mkF m 449 #[.val (.int se), .val (.long va), .second, .val (.long vb), .second, .val (.long vc), .second, .val (.int sf), .val (.int rq), .val (.int o1), .val (.int o2), .val (.int m1), .val (.int rr), .val (.int i1), .val (.int i2), .val (.int of), .val (.ref b84), .val (.ref a2), .val (.ref b105), .val (.ref g1), .val (.ref g2), .val (.long (own_ph sn m1n rq va 0)), .second, .val (.long (own_ph sn m1n rq va 1)), .second, .val (.long (own_ph sn m1n rq va 2)), .second, .val (.int (1 : Int32)), .val (.int q0), .unset, .unset, .unset] [(.long vb), (.int o1), (.int (1 : Int32))])) (fun _ zq => XS.lloadN X123.here hx rfl (hb hby at_448) rfl zq) ?_
      refine own_st (T' := T123) (g' := (mkF m 451 #[.val (.int se), .val (.long va), .second, .val (.long vb), .second, .val (.long vc), .second, .val (.int sf), .val (.int rq), .val (.int o1), .val (.int o2), .val (.int m1), .val (.int rr), .val (.int i1), .val (.int i2), .val (.int of), .val (.ref b84), .val (.ref a2), .val (.ref b105), .val (.ref g1), .val (.ref g2), .val (.long (own_ph sn m1n rq va 0)), .second, .val (.long (own_ph sn m1n rq va 1)), .second, .val (.long (own_ph sn m1n rq va 2)), .second, .val (.int (1 : Int32)), .val (.int q0), .unset, .unset, .unset] [(.long vc), (.long vb), (.int o1), (.int (1 : Int32))])) (fun _ zq => XS.lload X123.here hx rfl (hb hby at_449) rfl zq) ?_
      obtain ⟨_, _, ⟨T125, L125, k125, n125⟩, -, X125, ⟨Lc125, hQ125, l125, y125, z125⟩, st125⟩ := Jvm.LawKit.callS X123 hx (y := (⟨"com/example/coterie/coterie/runtime/KnownRequestsLearnPinLaw", "told2", "(IIJJ)J"⟩ : MethodName)) hown (mvT hZ (hw _ (List.mem_of_getElem? (i := 57) rfl))) (mvT hZ (hw _ (List.mem_of_getElem? (i := 58) rfl))) (mvT hZ (hw _ (List.mem_of_getElem? (i := 42) rfl))) (mvT hZ (hw _ (List.mem_of_getElem? (i := 59) rfl))) (by decide) (backOf (W := 0) (rm_told2 l Z a0 hw [] (1 : Int32) 1 o1 o1n vb vc h121 n0 Z121 rfl ho1) hZ (hw _ (List.mem_of_getElem? (i := 59) rfl)) (hw _ (List.mem_of_getElem? (i := 42) rfl)) (by decide) (by decide)) (g := (mkF m 451 #[.val (.int se), .val (.long va), .second, .val (.long vb), .second, .val (.long vc), .second, .val (.int sf), .val (.int rq), .val (.int o1), .val (.int o2), .val (.int m1), .val (.int rr), .val (.int i1), .val (.int i2), .val (.int of), .val (.ref b84), .val (.ref a2), .val (.ref b105), .val (.ref g1), .val (.ref g2), .val (.long (own_ph sn m1n rq va 0)), .second, .val (.long (own_ph sn m1n rq va 1)), .second, .val (.long (own_ph sn m1n rq va 2)), .second, .val (.int (1 : Int32)), .val (.int q0), .unset, .unset, .unset] [(.long vc), (.long vb), (.int o1), (.int (1 : Int32))])) rfl (by rw [hml]; rfl) (argsL := [(.int (1 : Int32)), (.int o1), (.long vb), (.long vc)]) (rest := []) (lenOf own_pd12 rfl) rfl (by show 2 * 0 + _ ≤ _; exact Nat.le_of_eq rfl) (hb hby at_451) (fun _ _ => ⟨rfl, (eq123), (by decide : 11 + 0 ≤ _), (by decide : 43 + 0 ≤ _)⟩)
      dsimp only [Pt.U, Pt.locs, Pt.cells, Pt.slots] at X125 l125 y125 z125 st125 hQ125
      subst l125 y125 z125
      obtain ⟨rfl, Nq125, eq125⟩ := hQ125
      replace N121 := Fr.app N121 Nq125
      refine own_st (g' := (mkF m 454 #[.val (.int se), .val (.long va), .second, .val (.long vb), .second, .val (.long vc), .second, .val (.int sf), .val (.int rq), .val (.int o1), .val (.int o2), .val (.int m1), .val (.int rr), .val (.int i1), .val (.int i2), .val (.int of), .val (.ref b84), .val (.ref a2), .val (.ref b105), .val (.ref g1), .val (.ref g2), .val (.long (own_ph sn m1n rq va 0)), .second, .val (.long (own_ph sn m1n rq va 1)), .second, .val (.long (own_ph sn m1n rq va 2)), .second, .val (.int (1 : Int32)), .val (.int q0), .unset, .unset, .unset] [(.long (own_t2 o1n vb vc 1))])) st125 ?_
      refine own_st (T' := T125) (g' := (mkF m 456 #[.val (.int se), .val (.long va), .second, .val (.long vb), .second, .val (.long vc), .second, .val (.int sf), .val (.int rq), .val (.int o1), .val (.int o2), .val (.int m1), .val (.int rr), .val (.int i1), .val (.int i2), .val (.int of), .val (.ref b84), .val (.ref a2), .val (.ref b105), .val (.ref g1), .val (.ref g2), .val (.long (own_ph sn m1n rq va 0)), .second, .val (.long (own_ph sn m1n rq va 1)), .second, .val (.long (own_ph sn m1n rq va 2)), .second, .val (.int (1 : Int32)), .val (.int q0), .unset, .unset, .unset] [(.long (own_ph sn m1n rq va 1)), (.long (own_t2 o1n vb vc 1))])) (fun _ zq => XS.lload X125.here hx rfl (hb hby at_454) rfl zq) ?_
      refine own_st (T' := T125) (g' := (mkF m 457 #[.val (.int se), .val (.long va), .second, .val (.long vb), .second, .val (.long vc), .second, .val (.int sf), .val (.int rq), .val (.int o1), .val (.int o2), .val (.int m1), .val (.int rr), .val (.int i1), .val (.int i2), .val (.int of), .val (.ref b84), .val (.ref a2), .val (.ref b105), .val (.ref g1), .val (.ref g2), .val (.long (own_ph sn m1n rq va 0)), .second, .val (.long (own_ph sn m1n rq va 1)), .second, .val (.long (own_ph sn m1n rq va 2)), .second, .val (.int (1 : Int32)), .val (.int q0), .unset, .unset, .unset] [(.int (lcmpW (own_t2 o1n vb vc 1) (own_ph sn m1n rq va 1)))])) (fun _ zq => XS.lcmp X125.here hx rfl (hb hby at_456) rfl zq) ?_
      by_cases hd : (own_ph sn m1n rq va 1) < (own_t2 o1n vb vc 1)
      · skip
        refine own_st (T' := T125) (g' := (mkF m 460 #[.val (.int se), .val (.long va), .second, .val (.long vb), .second, .val (.long vc), .second, .val (.int sf), .val (.int rq), .val (.int o1), .val (.int o2), .val (.int m1), .val (.int rr), .val (.int i1), .val (.int i2), .val (.int of), .val (.ref b84), .val (.ref a2), .val (.ref b105), .val (.ref g1), .val (.ref g2), .val (.long (own_ph sn m1n rq va 0)), .second, .val (.long (own_ph sn m1n rq va 1)), .second, .val (.long (own_ph sn m1n rq va 2)), .second, .val (.int (1 : Int32)), .val (.int q0), .unset, .unset, .unset] [])) (fun _ zq => XS.ifNo X125.here hx rfl (hb hby at_457) rfl (own_ltlt hd).2.2.2 zq) ?_
        refine own_st (T' := T125) (g' := (mkF m 461 #[.val (.int se), .val (.long va), .second, .val (.long vb), .second, .val (.long vc), .second, .val (.int sf), .val (.int rq), .val (.int o1), .val (.int o2), .val (.int m1), .val (.int rr), .val (.int i1), .val (.int i2), .val (.int of), .val (.ref b84), .val (.ref a2), .val (.ref b105), .val (.ref g1), .val (.ref g2), .val (.long (own_ph sn m1n rq va 0)), .second, .val (.long (own_ph sn m1n rq va 1)), .second, .val (.long (own_ph sn m1n rq va 2)), .second, .val (.int (1 : Int32)), .val (.int q0), .unset, .unset, .unset] [(.int (1 : Int32))])) (fun _ zq => XS.iconst X125.here hx rfl (hb hby at_460) zq) ?_
        refine own_st (T' := T125) (g' := (mkF m 465 #[.val (.int se), .val (.long va), .second, .val (.long vb), .second, .val (.long vc), .second, .val (.int sf), .val (.int rq), .val (.int o1), .val (.int o2), .val (.int m1), .val (.int rr), .val (.int i1), .val (.int i2), .val (.int of), .val (.ref b84), .val (.ref a2), .val (.ref b105), .val (.ref g1), .val (.ref g2), .val (.long (own_ph sn m1n rq va 0)), .second, .val (.long (own_ph sn m1n rq va 1)), .second, .val (.long (own_ph sn m1n rq va 2)), .second, .val (.int (1 : Int32)), .val (.int q0), .unset, .unset, .unset] [(.int (1 : Int32))])) (fun _ zq => XS.goto X125.here hx rfl (pc0 := 461) (pc' := 465) rfl (hb hby at_461) (by decide) (by decide) zq) ?_
        exact J465 T125 _ h121 (X125.more (Nat.le_of_ble_eq_true rfl) (Nat.le_of_ble_eq_true rfl)) (eq125) N121 Z121 _ O V_g2 (by rw [own_x2, if_neg hc, if_pos hd])
      · skip
        refine own_st (T' := T125) (g' := (mkF m 464 #[.val (.int se), .val (.long va), .second, .val (.long vb), .second, .val (.long vc), .second, .val (.int sf), .val (.int rq), .val (.int o1), .val (.int o2), .val (.int m1), .val (.int rr), .val (.int i1), .val (.int i2), .val (.int of), .val (.ref b84), .val (.ref a2), .val (.ref b105), .val (.ref g1), .val (.ref g2), .val (.long (own_ph sn m1n rq va 0)), .second, .val (.long (own_ph sn m1n rq va 1)), .second, .val (.long (own_ph sn m1n rq va 2)), .second, .val (.int (1 : Int32)), .val (.int q0), .unset, .unset, .unset] [])) (fun _ zq => XS.ifYes X125.here hx rfl (pc0 := 457) (pc' := 464) rfl (hb hby at_457) rfl (own_lflt hd).2.2.2 (by decide) (by decide) zq) ?_
        refine own_st (T' := T125) (g' := (mkF m 465 #[.val (.int se), .val (.long va), .second, .val (.long vb), .second, .val (.long vc), .second, .val (.int sf), .val (.int rq), .val (.int o1), .val (.int o2), .val (.int m1), .val (.int rr), .val (.int i1), .val (.int i2), .val (.int of), .val (.ref b84), .val (.ref a2), .val (.ref b105), .val (.ref g1), .val (.ref g2), .val (.long (own_ph sn m1n rq va 0)), .second, .val (.long (own_ph sn m1n rq va 1)), .second, .val (.long (own_ph sn m1n rq va 2)), .second, .val (.int (1 : Int32)), .val (.int q0), .unset, .unset, .unset] [(.int (0 : Int32))])) (fun _ zq => XS.iconst X125.here hx rfl (hb hby at_464) zq) ?_
        exact J465 T125 _ h121 (X125.more (Nat.le_of_ble_eq_true rfl) (Nat.le_of_ble_eq_true rfl)) (eq125) N121 Z121 _ O V_g2 (by rw [own_x2, if_neg hc, if_neg hd])
  intro T124 lo124 h124 X124 e124 N124 Z124 q1 O V_g2 hq1
  refine own_st (T' := T124) (g' := (mkF m 467 #[.val (.int se), .val (.long va), .second, .val (.long vb), .second, .val (.long vc), .second, .val (.int sf), .val (.int rq), .val (.int o1), .val (.int o2), .val (.int m1), .val (.int rr), .val (.int i1), .val (.int i2), .val (.int of), .val (.ref b84), .val (.ref a2), .val (.ref b105), .val (.ref g1), .val (.ref g2), .val (.long (own_ph sn m1n rq va 0)), .second, .val (.long (own_ph sn m1n rq va 1)), .second, .val (.long (own_ph sn m1n rq va 2)), .second, .val (.int (1 : Int32)), .val (.int q0), .val (.int q1), .unset, .unset] [])) (fun _ zq => XS.istore X124.here hx rfl (hb hby at_465) rfl (l' := #[.val (.int se), .val (.long va), .second, .val (.long vb), .second, .val (.long vc), .second, .val (.int sf), .val (.int rq), .val (.int o1), .val (.int o2), .val (.int m1), .val (.int rr), .val (.int i1), .val (.int i2), .val (.int of), .val (.ref b84), .val (.ref a2), .val (.ref b105), .val (.ref g1), .val (.ref g2), .val (.long (own_ph sn m1n rq va 0)), .second, .val (.long (own_ph sn m1n rq va 1)), .second, .val (.long (own_ph sn m1n rq va 2)), .second, .val (.int (1 : Int32)), .val (.int q0), .val (.int q1), .unset, .unset]) rfl zq) ?_
  refine own_st (T' := T124) (g' := (mkF m 468 #[.val (.int se), .val (.long va), .second, .val (.long vb), .second, .val (.long vc), .second, .val (.int sf), .val (.int rq), .val (.int o1), .val (.int o2), .val (.int m1), .val (.int rr), .val (.int i1), .val (.int i2), .val (.int of), .val (.ref b84), .val (.ref a2), .val (.ref b105), .val (.ref g1), .val (.ref g2), .val (.long (own_ph sn m1n rq va 0)), .second, .val (.long (own_ph sn m1n rq va 1)), .second, .val (.long (own_ph sn m1n rq va 2)), .second, .val (.int (1 : Int32)), .val (.int q0), .val (.int q1), .unset, .unset] [(.int (2 : Int32))])) (fun _ zq => XS.iconst X124.here hx rfl (hb hby at_467) zq) ?_
  refine own_st (T' := T124) (g' := (mkF m 470 #[.val (.int se), .val (.long va), .second, .val (.long vb), .second, .val (.long vc), .second, .val (.int sf), .val (.int rq), .val (.int o1), .val (.int o2), .val (.int m1), .val (.int rr), .val (.int i1), .val (.int i2), .val (.int of), .val (.ref b84), .val (.ref a2), .val (.ref b105), .val (.ref g1), .val (.ref g2), .val (.long (own_ph sn m1n rq va 0)), .second, .val (.long (own_ph sn m1n rq va 1)), .second, .val (.long (own_ph sn m1n rq va 2)), .second, .val (.int (1 : Int32)), .val (.int q0), .val (.int q1), .unset, .unset] [(.int o1), (.int (2 : Int32))])) (fun _ zq => XS.iload X124.here hx rfl (hb hby at_468) rfl zq) ?_
  refine own_st (T' := T124) (g' := (mkF m 472 #[.val (.int se), .val (.long va), .second, .val (.long vb), .second, .val (.long vc), .second, .val (.int sf), .val (.int rq), .val (.int o1), .val (.int o2), .val (.int m1), .val (.int rr), .val (.int i1), .val (.int i2), .val (.int of), .val (.ref b84), .val (.ref a2), .val (.ref b105), .val (.ref g1), .val (.ref g2), .val (.long (own_ph sn m1n rq va 0)), .second, .val (.long (own_ph sn m1n rq va 1)), .second, .val (.long (own_ph sn m1n rq va 2)), .second, .val (.int (1 : Int32)), .val (.int q0), .val (.int q1), .unset, .unset] [(.int o2), (.int o1), (.int (2 : Int32))])) (fun _ zq => XS.iload X124.here hx rfl (hb hby at_470) rfl zq) ?_
  refine own_st (T' := T124) (g' := (mkF m 474 #[.val (.int se), .val (.long va), .second, .val (.long vb), .second, .val (.long vc), .second, .val (.int sf), .val (.int rq), .val (.int o1), .val (.int o2), .val (.int m1), .val (.int rr), .val (.int i1), .val (.int i2), .val (.int of), .val (.ref b84), .val (.ref a2), .val (.ref b105), .val (.ref g1), .val (.ref g2), .val (.long (own_ph sn m1n rq va 0)), .second, .val (.long (own_ph sn m1n rq va 1)), .second, .val (.long (own_ph sn m1n rq va 2)), .second, .val (.int (1 : Int32)), .val (.int q0), .val (.int q1), .unset, .unset] [(.int i1), (.int o2), (.int o1), (.int (2 : Int32))])) (fun _ zq => XS.iload X124.here hx rfl (hb hby at_472) rfl zq) ?_
  refine own_st (T' := T124) (g' := (mkF m 476 #[.val (.int se), .val (.long va), .second, .val (.long vb), .second, .val (.long vc), .second, .val (.int sf), .val (.int rq), .val (.int o1), .val (.int o2), .val (.int m1), .val (.int rr), .val (.int i1), .val (.int i2), .val (.int of), .val (.ref b84), .val (.ref a2), .val (.ref b105), .val (.ref g1), .val (.ref g2), .val (.long (own_ph sn m1n rq va 0)), .second, .val (.long (own_ph sn m1n rq va 1)), .second, .val (.long (own_ph sn m1n rq va 2)), .second, .val (.int (1 : Int32)), .val (.int q0), .val (.int q1), .unset, .unset] [(.int i2), (.int i1), (.int o2), (.int o1), (.int (2 : Int32))])) (fun _ zq => XS.iload X124.here hx rfl (hb hby at_474) rfl zq) ?_
  obtain ⟨_, _, ⟨T126, L126, k126, n126⟩, -, X126, ⟨Lc126, hQ126, l126, y126, z126⟩, st126⟩ := Jvm.LawKit.callS X124 hx (y := (⟨"com/example/coterie/coterie/runtime/KnownRequestsLearnPinLaw", "has2", "(IIIZZ)Z"⟩ : MethodName)) hown (mvT hZ (hw _ (List.mem_of_getElem? (i := 54) rfl))) (mvT hZ (hw _ (List.mem_of_getElem? (i := 55) rfl))) (mvT hZ (hw _ (List.mem_of_getElem? (i := 42) rfl))) (mvT hZ (hw _ (List.mem_of_getElem? (i := 56) rfl))) (by decide) (backOf (W := 0) (rm_has2 l Z a0 hw [] (2 : Int32) 2 o1 o1n o2 o2n i1 i2 h124 n0 Z124 rfl ho1 ho2) hZ (hw _ (List.mem_of_getElem? (i := 56) rfl)) (hw _ (List.mem_of_getElem? (i := 42) rfl)) (by decide) (by decide)) (g := (mkF m 476 #[.val (.int se), .val (.long va), .second, .val (.long vb), .second, .val (.long vc), .second, .val (.int sf), .val (.int rq), .val (.int o1), .val (.int o2), .val (.int m1), .val (.int rr), .val (.int i1), .val (.int i2), .val (.int of), .val (.ref b84), .val (.ref a2), .val (.ref b105), .val (.ref g1), .val (.ref g2), .val (.long (own_ph sn m1n rq va 0)), .second, .val (.long (own_ph sn m1n rq va 1)), .second, .val (.long (own_ph sn m1n rq va 2)), .second, .val (.int (1 : Int32)), .val (.int q0), .val (.int q1), .unset, .unset] [(.int i2), (.int i1), (.int o2), (.int o1), (.int (2 : Int32))])) rfl (by rw [hml]; rfl) (argsL := [(.int (2 : Int32)), (.int o1), (.int o2), (.int i1), (.int i2)]) (rest := []) (lenOf own_pd11 rfl) rfl (by show 2 * 0 + _ ≤ _; exact Nat.le_of_eq rfl) (hb hby at_476) (fun _ _ => ⟨rfl, e124, (by decide : 11 + 0 ≤ _), (by decide : 43 + 0 ≤ _)⟩)
  dsimp only [Pt.U, Pt.locs, Pt.cells, Pt.slots] at X126 l126 y126 z126 st126 hQ126
  subst l126 y126 z126
  obtain ⟨rfl, Nq126, eq126⟩ := hQ126
  replace N124 := Fr.app N124 Nq126
  refine own_st (g' := (mkF m 479 #[.val (.int se), .val (.long va), .second, .val (.long vb), .second, .val (.long vc), .second, .val (.int sf), .val (.int rq), .val (.int o1), .val (.int o2), .val (.int m1), .val (.int rr), .val (.int i1), .val (.int i2), .val (.int of), .val (.ref b84), .val (.ref a2), .val (.ref b105), .val (.ref g1), .val (.ref g2), .val (.long (own_ph sn m1n rq va 0)), .second, .val (.long (own_ph sn m1n rq va 1)), .second, .val (.long (own_ph sn m1n rq va 2)), .second, .val (.int (1 : Int32)), .val (.int q0), .val (.int q1), .unset, .unset] [(.int (own_h2 o1n o2n i1 i2 2))])) st126 ?_
  suffices J502 : ∀ (T127 : State) (lo127 : List Loc) (h127 : Heap) (X127 : Stand p l e room_1 s m #[(.int se), (.long va), (.long vb), (.long vc)] below meth c T127 lo127 11 43) (e127 : T127.heap = h127) (N127 : Fr n0 lo127) (Z127 : n0 ≤ h127.size) (q2 : Int32) (O : Old Z n0 h127) (V_g2 : own_AV Z h127 g2 .long (own_L3 (own_g (fun j => own_x2 (own_h2 o1n o2n i1 i2 j) (own_ph sn m1n rq va j) (own_t2 o1n vb vc j)) rrn) (own_t2 o1n vb vc)).length (fun i => .long ((own_L3 (own_g (fun j => own_x2 (own_h2 o1n o2n i1 i2 j) (own_ph sn m1n rq va j) (own_t2 o1n vb vc j)) rrn) (own_t2 o1n vb vc)).getD i 0))) (hq2 : q2 = own_x2 (own_h2 o1n o2n i1 i2 2) (own_ph sn m1n rq va 2) (own_t2 o1n vb vc 2)), own_Go p e below s (Q_law Z se va vb vc aN fN h0 n0) 32 192 T127 (mkF m 502 #[.val (.int se), .val (.long va), .second, .val (.long vb), .second, .val (.long vc), .second, .val (.int sf), .val (.int rq), .val (.int o1), .val (.int o2), .val (.int m1), .val (.int rr), .val (.int i1), .val (.int i2), .val (.int of), .val (.ref b84), .val (.ref a2), .val (.ref b105), .val (.ref g1), .val (.ref g2), .val (.long (own_ph sn m1n rq va 0)), .second, .val (.long (own_ph sn m1n rq va 1)), .second, .val (.long (own_ph sn m1n rq va 2)), .second, .val (.int (1 : Int32)), .val (.int q0), .val (.int q1), .unset, .unset] [(.int q2)]) by
    by_cases hc : (own_h2 o1n o2n i1 i2 2) = (0 : Int32)
    · skip
      refine own_st (T' := T126) (g' := (mkF m 501 #[.val (.int se), .val (.long va), .second, .val (.long vb), .second, .val (.long vc), .second, .val (.int sf), .val (.int rq), .val (.int o1), .val (.int o2), .val (.int m1), .val (.int rr), .val (.int i1), .val (.int i2), .val (.int of), .val (.ref b84), .val (.ref a2), .val (.ref b105), .val (.ref g1), .val (.ref g2), .val (.long (own_ph sn m1n rq va 0)), .second, .val (.long (own_ph sn m1n rq va 1)), .second, .val (.long (own_ph sn m1n rq va 2)), .second, .val (.int (1 : Int32)), .val (.int q0), .val (.int q1), .unset, .unset] [])) (fun _ zq => XS.ifYes X126.here hx rfl (pc0 := 479) (pc' := 501) rfl (hb hby at_479) rfl ((if0 _ _).trans (teq hc).1) (by decide) (by decide) zq) ?_
      refine own_st (T' := T126) (g' := (mkF m 502 #[.val (.int se), .val (.long va), .second, .val (.long vb), .second, .val (.long vc), .second, .val (.int sf), .val (.int rq), .val (.int o1), .val (.int o2), .val (.int m1), .val (.int rr), .val (.int i1), .val (.int i2), .val (.int of), .val (.ref b84), .val (.ref a2), .val (.ref b105), .val (.ref g1), .val (.ref g2), .val (.long (own_ph sn m1n rq va 0)), .second, .val (.long (own_ph sn m1n rq va 1)), .second, .val (.long (own_ph sn m1n rq va 2)), .second, .val (.int (1 : Int32)), .val (.int q0), .val (.int q1), .unset, .unset] [(.int (0 : Int32))])) (fun _ zq => XS.iconst X126.here hx rfl (hb hby at_501) zq) ?_
      exact J502 T126 _ h124 (X126.more (Nat.le_of_ble_eq_true rfl) (Nat.le_of_ble_eq_true rfl)) (eq126) N124 Z124 _ O V_g2 (by rw [own_x2, if_pos hc])
    · skip
      refine own_st (T' := T126) (g' := (mkF m 482 #[.val (.int se), .val (.long va), .second, .val (.long vb), .second, .val (.long vc), .second, .val (.int sf), .val (.int rq), .val (.int o1), .val (.int o2), .val (.int m1), .val (.int rr), .val (.int i1), .val (.int i2), .val (.int of), .val (.ref b84), .val (.ref a2), .val (.ref b105), .val (.ref g1), .val (.ref g2), .val (.long (own_ph sn m1n rq va 0)), .second, .val (.long (own_ph sn m1n rq va 1)), .second, .val (.long (own_ph sn m1n rq va 2)), .second, .val (.int (1 : Int32)), .val (.int q0), .val (.int q1), .unset, .unset] [])) (fun _ zq => XS.ifNo X126.here hx rfl (hb hby at_479) rfl ((if0 _ _).trans (feq hc).1) zq) ?_
      refine own_st (T' := T126) (g' := (mkF m 483 #[.val (.int se), .val (.long va), .second, .val (.long vb), .second, .val (.long vc), .second, .val (.int sf), .val (.int rq), .val (.int o1), .val (.int o2), .val (.int m1), .val (.int rr), .val (.int i1), .val (.int i2), .val (.int of), .val (.ref b84), .val (.ref a2), .val (.ref b105), .val (.ref g1), .val (.ref g2), .val (.long (own_ph sn m1n rq va 0)), .second, .val (.long (own_ph sn m1n rq va 1)), .second, .val (.long (own_ph sn m1n rq va 2)), .second, .val (.int (1 : Int32)), .val (.int q0), .val (.int q1), .unset, .unset] [(.int (2 : Int32))])) (fun _ zq => XS.iconst X126.here hx rfl (hb hby at_482) zq) ?_
      refine own_st (T' := T126) (g' := (mkF m 485 #[.val (.int se), .val (.long va), .second, .val (.long vb), .second, .val (.long vc), .second, .val (.int sf), .val (.int rq), .val (.int o1), .val (.int o2), .val (.int m1), .val (.int rr), .val (.int i1), .val (.int i2), .val (.int of), .val (.ref b84), .val (.ref a2), .val (.ref b105), .val (.ref g1), .val (.ref g2), .val (.long (own_ph sn m1n rq va 0)), .second, .val (.long (own_ph sn m1n rq va 1)), .second, .val (.long (own_ph sn m1n rq va 2)), .second, .val (.int (1 : Int32)), .val (.int q0), .val (.int q1), .unset, .unset] [(.int o1), (.int (2 : Int32))])) (fun _ zq => XS.iload X126.here hx rfl (hb hby at_483) rfl zq) ?_
      refine own_st (T' := T126) (g' := (mkF m 486 #[.val (.int se), .val (.long va), .second, .val (.long vb), .second, .val (.long vc), .second, .val (.int sf), .val (.int rq), .val (.int o1), .val (.int o2), .val (.int m1), .val (.int rr), .val (.int i1), .val (.int i2), .val (.int of), .val (.ref b84), .val (.ref a2), .val (.ref b105), .val (.ref g1), .val (.ref g2), .val (.long (own_ph sn m1n rq va 0)), .second, .val (.long (own_ph sn m1n rq va 1)), .second, .val (.long (own_ph sn m1n rq va 2)), .second, .val (.int (1 : Int32)), .val (.int q0), .val (.int q1), .unset, .unset] [(.long vb), (.int o1), (.int (2 : Int32))])) (fun _ zq => XS.lloadN X126.here hx rfl (hb hby at_485) rfl zq) ?_
      refine own_st (T' := T126) (g' := (mkF m 488 #[.val (.int se), .val (.long va), .second, .val (.long vb), .second, .val (.long vc), .second, .val (.int sf), .val (.int rq), .val (.int o1), .val (.int o2), .val (.int m1), .val (.int rr), .val (.int i1), .val (.int i2), .val (.int of), .val (.ref b84), .val (.ref a2), .val (.ref b105), .val (.ref g1), .val (.ref g2), .val (.long (own_ph sn m1n rq va 0)), .second, .val (.long (own_ph sn m1n rq va 1)), .second, .val (.long (own_ph sn m1n rq va 2)), .second, .val (.int (1 : Int32)), .val (.int q0), .val (.int q1), .unset, .unset] [(.long vc), (.long vb), (.int o1), (.int (2 : Int32))])) (fun _ zq => XS.lload X126.here hx rfl (hb hby at_486) rfl zq) ?_
      obtain ⟨_, _, ⟨T128, L128, k128, n128⟩, -, X128, ⟨Lc128, hQ128, l128, y128, z128⟩, st128⟩ := Jvm.LawKit.callS X126 hx (y := (⟨"com/example/coterie/coterie/runtime/KnownRequestsLearnPinLaw", "told2", "(IIJJ)J"⟩ : MethodName)) hown (mvT hZ (hw _ (List.mem_of_getElem? (i := 57) rfl))) (mvT hZ (hw _ (List.mem_of_getElem? (i := 58) rfl))) (mvT hZ (hw _ (List.mem_of_getElem? (i := 42) rfl))) (mvT hZ (hw _ (List.mem_of_getElem? (i := 59) rfl))) (by decide) (backOf (W := 0) (rm_told2 l Z a0 hw [] (2 : Int32) 2 o1 o1n vb vc h124 n0 Z124 rfl ho1) hZ (hw _ (List.mem_of_getElem? (i := 59) rfl)) (hw _ (List.mem_of_getElem? (i := 42) rfl)) (by decide) (by decide)) (g := (mkF m 488 #[.val (.int se), .val (.long va), .second, .val (.long vb), .second, .val (.long vc), .second, .val (.int sf), .val (.int rq), .val (.int o1), .val (.int o2), .val (.int m1), .val (.int rr), .val (.int i1), .val (.int i2), .val (.int of), .val (.ref b84), .val (.ref a2), .val (.ref b105), .val (.ref g1), .val (.ref g2), .val (.long (own_ph sn m1n rq va 0)), .second, .val (.long (own_ph sn m1n rq va 1)), .second, .val (.long (own_ph sn m1n rq va 2)), .second, .val (.int (1 : Int32)), .val (.int q0), .val (.int q1), .unset, .unset] [(.long vc), (.long vb), (.int o1), (.int (2 : Int32))])) rfl (by rw [hml]; rfl) (argsL := [(.int (2 : Int32)), (.int o1), (.long vb), (.long vc)]) (rest := []) (lenOf own_pd12 rfl) rfl (by show 2 * 0 + _ ≤ _; exact Nat.le_of_eq rfl) (hb hby at_488) (fun _ _ => ⟨rfl, (eq126), (by decide : 11 + 0 ≤ _), (by decide : 43 + 0 ≤ _)⟩)
      dsimp only [Pt.U, Pt.locs, Pt.cells, Pt.slots] at X128 l128 y128 z128 st128 hQ128
      subst l128 y128 z128
      obtain ⟨rfl, Nq128, eq128⟩ := hQ128
      replace N124 := Fr.app N124 Nq128
      refine own_st (g' := (mkF m 491 #[.val (.int se), .val (.long va), .second, .val (.long vb), .second, .val (.long vc), .second, .val (.int sf), .val (.int rq), .val (.int o1), .val (.int o2), .val (.int m1), .val (.int rr), .val (.int i1), .val (.int i2), .val (.int of), .val (.ref b84), .val (.ref a2), .val (.ref b105), .val (.ref g1), .val (.ref g2), .val (.long (own_ph sn m1n rq va 0)), .second, .val (.long (own_ph sn m1n rq va 1)), .second, .val (.long (own_ph sn m1n rq va 2)), .second, .val (.int (1 : Int32)), .val (.int q0), .val (.int q1), .unset, .unset] [(.long (own_t2 o1n vb vc 2))])) st128 ?_
      refine own_st (T' := T128) (g' := (mkF m 493 #[.val (.int se), .val (.long va), .second, .val (.long vb), .second, .val (.long vc), .second, .val (.int sf), .val (.int rq), .val (.int o1), .val (.int o2), .val (.int m1), .val (.int rr), .val (.int i1), .val (.int i2), .val (.int of), .val (.ref b84), .val (.ref a2), .val (.ref b105), .val (.ref g1), .val (.ref g2), .val (.long (own_ph sn m1n rq va 0)), .second, .val (.long (own_ph sn m1n rq va 1)), .second, .val (.long (own_ph sn m1n rq va 2)), .second, .val (.int (1 : Int32)), .val (.int q0), .val (.int q1), .unset, .unset] [(.long (own_ph sn m1n rq va 2)), (.long (own_t2 o1n vb vc 2))])) (fun _ zq => XS.lload X128.here hx rfl (hb hby at_491) rfl zq) ?_
      refine own_st (T' := T128) (g' := (mkF m 494 #[.val (.int se), .val (.long va), .second, .val (.long vb), .second, .val (.long vc), .second, .val (.int sf), .val (.int rq), .val (.int o1), .val (.int o2), .val (.int m1), .val (.int rr), .val (.int i1), .val (.int i2), .val (.int of), .val (.ref b84), .val (.ref a2), .val (.ref b105), .val (.ref g1), .val (.ref g2), .val (.long (own_ph sn m1n rq va 0)), .second, .val (.long (own_ph sn m1n rq va 1)), .second, .val (.long (own_ph sn m1n rq va 2)), .second, .val (.int (1 : Int32)), .val (.int q0), .val (.int q1), .unset, .unset] [(.int (lcmpW (own_t2 o1n vb vc 2) (own_ph sn m1n rq va 2)))])) (fun _ zq => XS.lcmp X128.here hx rfl (hb hby at_493) rfl zq) ?_
      by_cases hd : (own_ph sn m1n rq va 2) < (own_t2 o1n vb vc 2)
      · skip
        refine own_st (T' := T128) (g' := (mkF m 497 #[.val (.int se), .val (.long va), .second, .val (.long vb), .second, .val (.long vc), .second, .val (.int sf), .val (.int rq), .val (.int o1), .val (.int o2), .val (.int m1), .val (.int rr), .val (.int i1), .val (.int i2), .val (.int of), .val (.ref b84), .val (.ref a2), .val (.ref b105), .val (.ref g1), .val (.ref g2), .val (.long (own_ph sn m1n rq va 0)), .second, .val (.long (own_ph sn m1n rq va 1)), .second, .val (.long (own_ph sn m1n rq va 2)), .second, .val (.int (1 : Int32)), .val (.int q0), .val (.int q1), .unset, .unset] [])) (fun _ zq => XS.ifNo X128.here hx rfl (hb hby at_494) rfl (own_ltlt hd).2.2.2 zq) ?_
        refine own_st (T' := T128) (g' := (mkF m 498 #[.val (.int se), .val (.long va), .second, .val (.long vb), .second, .val (.long vc), .second, .val (.int sf), .val (.int rq), .val (.int o1), .val (.int o2), .val (.int m1), .val (.int rr), .val (.int i1), .val (.int i2), .val (.int of), .val (.ref b84), .val (.ref a2), .val (.ref b105), .val (.ref g1), .val (.ref g2), .val (.long (own_ph sn m1n rq va 0)), .second, .val (.long (own_ph sn m1n rq va 1)), .second, .val (.long (own_ph sn m1n rq va 2)), .second, .val (.int (1 : Int32)), .val (.int q0), .val (.int q1), .unset, .unset] [(.int (1 : Int32))])) (fun _ zq => XS.iconst X128.here hx rfl (hb hby at_497) zq) ?_
        refine own_st (T' := T128) (g' := (mkF m 502 #[.val (.int se), .val (.long va), .second, .val (.long vb), .second, .val (.long vc), .second, .val (.int sf), .val (.int rq), .val (.int o1), .val (.int o2), .val (.int m1), .val (.int rr), .val (.int i1), .val (.int i2), .val (.int of), .val (.ref b84), .val (.ref a2), .val (.ref b105), .val (.ref g1), .val (.ref g2), .val (.long (own_ph sn m1n rq va 0)), .second, .val (.long (own_ph sn m1n rq va 1)), .second, .val (.long (own_ph sn m1n rq va 2)), .second, .val (.int (1 : Int32)), .val (.int q0), .val (.int q1), .unset, .unset] [(.int (1 : Int32))])) (fun _ zq => XS.goto X128.here hx rfl (pc0 := 498) (pc' := 502) rfl (hb hby at_498) (by decide) (by decide) zq) ?_
        exact J502 T128 _ h124 (X128.more (Nat.le_of_ble_eq_true rfl) (Nat.le_of_ble_eq_true rfl)) (eq128) N124 Z124 _ O V_g2 (by rw [own_x2, if_neg hc, if_pos hd])
      · skip
        refine own_st (T' := T128) (g' := (mkF m 501 #[.val (.int se), .val (.long va), .second, .val (.long vb), .second, .val (.long vc), .second, .val (.int sf), .val (.int rq), .val (.int o1), .val (.int o2), .val (.int m1), .val (.int rr), .val (.int i1), .val (.int i2), .val (.int of), .val (.ref b84), .val (.ref a2), .val (.ref b105), .val (.ref g1), .val (.ref g2), .val (.long (own_ph sn m1n rq va 0)), .second, .val (.long (own_ph sn m1n rq va 1)), .second, .val (.long (own_ph sn m1n rq va 2)), .second, .val (.int (1 : Int32)), .val (.int q0), .val (.int q1), .unset, .unset] [])) (fun _ zq => XS.ifYes X128.here hx rfl (pc0 := 494) (pc' := 501) rfl (hb hby at_494) rfl (own_lflt hd).2.2.2 (by decide) (by decide) zq) ?_
        refine own_st (T' := T128) (g' := (mkF m 502 #[.val (.int se), .val (.long va), .second, .val (.long vb), .second, .val (.long vc), .second, .val (.int sf), .val (.int rq), .val (.int o1), .val (.int o2), .val (.int m1), .val (.int rr), .val (.int i1), .val (.int i2), .val (.int of), .val (.ref b84), .val (.ref a2), .val (.ref b105), .val (.ref g1), .val (.ref g2), .val (.long (own_ph sn m1n rq va 0)), .second, .val (.long (own_ph sn m1n rq va 1)), .second, .val (.long (own_ph sn m1n rq va 2)), .second, .val (.int (1 : Int32)), .val (.int q0), .val (.int q1), .unset, .unset] [(.int (0 : Int32))])) (fun _ zq => XS.iconst X128.here hx rfl (hb hby at_501) zq) ?_
        exact J502 T128 _ h124 (X128.more (Nat.le_of_ble_eq_true rfl) (Nat.le_of_ble_eq_true rfl)) (eq128) N124 Z124 _ O V_g2 (by rw [own_x2, if_neg hc, if_neg hd])
  intro T127 lo127 h127 X127 e127 N127 Z127 q2 O V_g2 hq2
  refine own_st (T' := T127) (g' := (mkF m 504 #[.val (.int se), .val (.long va), .second, .val (.long vb), .second, .val (.long vc), .second, .val (.int sf), .val (.int rq), .val (.int o1), .val (.int o2), .val (.int m1), .val (.int rr), .val (.int i1), .val (.int i2), .val (.int of), .val (.ref b84), .val (.ref a2), .val (.ref b105), .val (.ref g1), .val (.ref g2), .val (.long (own_ph sn m1n rq va 0)), .second, .val (.long (own_ph sn m1n rq va 1)), .second, .val (.long (own_ph sn m1n rq va 2)), .second, .val (.int (1 : Int32)), .val (.int q0), .val (.int q1), .val (.int q2), .unset] [])) (fun _ zq => XS.istore X127.here hx rfl (hb hby at_502) rfl (l' := #[.val (.int se), .val (.long va), .second, .val (.long vb), .second, .val (.long vc), .second, .val (.int sf), .val (.int rq), .val (.int o1), .val (.int o2), .val (.int m1), .val (.int rr), .val (.int i1), .val (.int i2), .val (.int of), .val (.ref b84), .val (.ref a2), .val (.ref b105), .val (.ref g1), .val (.ref g2), .val (.long (own_ph sn m1n rq va 0)), .second, .val (.long (own_ph sn m1n rq va 1)), .second, .val (.long (own_ph sn m1n rq va 2)), .second, .val (.int (1 : Int32)), .val (.int q0), .val (.int q1), .val (.int q2), .unset]) rfl zq) ?_
  refine own_st (T' := T127) (g' := (mkF m 506 #[.val (.int se), .val (.long va), .second, .val (.long vb), .second, .val (.long vc), .second, .val (.int sf), .val (.int rq), .val (.int o1), .val (.int o2), .val (.int m1), .val (.int rr), .val (.int i1), .val (.int i2), .val (.int of), .val (.ref b84), .val (.ref a2), .val (.ref b105), .val (.ref g1), .val (.ref g2), .val (.long (own_ph sn m1n rq va 0)), .second, .val (.long (own_ph sn m1n rq va 1)), .second, .val (.long (own_ph sn m1n rq va 2)), .second, .val (.int (1 : Int32)), .val (.int q0), .val (.int q1), .val (.int q2), .unset] [(.ref g2)])) (fun _ zq => XS.aload X127.here hx rfl (hb hby at_504) rfl rfl zq) ?_
  refine own_st (T' := T127) (g' := (mkF m 508 #[.val (.int se), .val (.long va), .second, .val (.long vb), .second, .val (.long vc), .second, .val (.int sf), .val (.int rq), .val (.int o1), .val (.int o2), .val (.int m1), .val (.int rr), .val (.int i1), .val (.int i2), .val (.int of), .val (.ref b84), .val (.ref a2), .val (.ref b105), .val (.ref g1), .val (.ref g2), .val (.long (own_ph sn m1n rq va 0)), .second, .val (.long (own_ph sn m1n rq va 1)), .second, .val (.long (own_ph sn m1n rq va 2)), .second, .val (.int (1 : Int32)), .val (.int q0), .val (.int q1), .val (.int q2), .unset] [(.int rr), (.ref g2)])) (fun _ zq => XS.iload X127.here hx rfl (hb hby at_506) rfl zq) ?_
  refine own_st (T' := T127) (g' := (mkF m 510 #[.val (.int se), .val (.long va), .second, .val (.long vb), .second, .val (.long vc), .second, .val (.int sf), .val (.int rq), .val (.int o1), .val (.int o2), .val (.int m1), .val (.int rr), .val (.int i1), .val (.int i2), .val (.int of), .val (.ref b84), .val (.ref a2), .val (.ref b105), .val (.ref g1), .val (.ref g2), .val (.long (own_ph sn m1n rq va 0)), .second, .val (.long (own_ph sn m1n rq va 1)), .second, .val (.long (own_ph sn m1n rq va 2)), .second, .val (.int (1 : Int32)), .val (.int q0), .val (.int q1), .val (.int q2), .unset] [(.int q0), (.int rr), (.ref g2)])) (fun _ zq => XS.iload X127.here hx rfl (hb hby at_508) rfl zq) ?_
  refine own_st (T' := T127) (g' := (mkF m 511 #[.val (.int se), .val (.long va), .second, .val (.long vb), .second, .val (.long vc), .second, .val (.int sf), .val (.int rq), .val (.int o1), .val (.int o2), .val (.int m1), .val (.int rr), .val (.int i1), .val (.int i2), .val (.int of), .val (.ref b84), .val (.ref a2), .val (.ref b105), .val (.ref g1), .val (.ref g2), .val (.long (own_ph sn m1n rq va 0)), .second, .val (.long (own_ph sn m1n rq va 1)), .second, .val (.long (own_ph sn m1n rq va 2)), .second, .val (.int (1 : Int32)), .val (.int q0), .val (.int q1), .val (.int q2), .unset] [(.int (0 : Int32)), (.int q0), (.int rr), (.ref g2)])) (fun _ zq => XS.iconst X127.here hx rfl (hb hby at_510) zq) ?_
  refine own_st (T' := T127) (g' := (mkF m 513 #[.val (.int se), .val (.long va), .second, .val (.long vb), .second, .val (.long vc), .second, .val (.int sf), .val (.int rq), .val (.int o1), .val (.int o2), .val (.int m1), .val (.int rr), .val (.int i1), .val (.int i2), .val (.int of), .val (.ref b84), .val (.ref a2), .val (.ref b105), .val (.ref g1), .val (.ref g2), .val (.long (own_ph sn m1n rq va 0)), .second, .val (.long (own_ph sn m1n rq va 1)), .second, .val (.long (own_ph sn m1n rq va 2)), .second, .val (.int (1 : Int32)), .val (.int q0), .val (.int q1), .val (.int q2), .unset] [(.int o1), (.int (0 : Int32)), (.int q0), (.int rr), (.ref g2)])) (fun _ zq => XS.iload X127.here hx rfl (hb hby at_511) rfl zq) ?_
  refine own_st (T' := T127) (g' := (mkF m 514 #[.val (.int se), .val (.long va), .second, .val (.long vb), .second, .val (.long vc), .second, .val (.int sf), .val (.int rq), .val (.int o1), .val (.int o2), .val (.int m1), .val (.int rr), .val (.int i1), .val (.int i2), .val (.int of), .val (.ref b84), .val (.ref a2), .val (.ref b105), .val (.ref g1), .val (.ref g2), .val (.long (own_ph sn m1n rq va 0)), .second, .val (.long (own_ph sn m1n rq va 1)), .second, .val (.long (own_ph sn m1n rq va 2)), .second, .val (.int (1 : Int32)), .val (.int q0), .val (.int q1), .val (.int q2), .unset] [(.long vb), (.int o1), (.int (0 : Int32)), (.int q0), (.int rr), (.ref g2)])) (fun _ zq => XS.lloadN X127.here hx rfl (hb hby at_513) rfl zq) ?_
  refine own_st (T' := T127) (g' := (mkF m 516 #[.val (.int se), .val (.long va), .second, .val (.long vb), .second, .val (.long vc), .second, .val (.int sf), .val (.int rq), .val (.int o1), .val (.int o2), .val (.int m1), .val (.int rr), .val (.int i1), .val (.int i2), .val (.int of), .val (.ref b84), .val (.ref a2), .val (.ref b105), .val (.ref g1), .val (.ref g2), .val (.long (own_ph sn m1n rq va 0)), .second, .val (.long (own_ph sn m1n rq va 1)), .second, .val (.long (own_ph sn m1n rq va 2)), .second, .val (.int (1 : Int32)), .val (.int q0), .val (.int q1), .val (.int q2), .unset] [(.long vc), (.long vb), (.int o1), (.int (0 : Int32)), (.int q0), (.int rr), (.ref g2)])) (fun _ zq => XS.lload X127.here hx rfl (hb hby at_514) rfl zq) ?_
  obtain ⟨_, _, ⟨T129, L129, k129, n129⟩, -, X129, ⟨Lc129, hQ129, l129, y129, z129⟩, st129⟩ := Jvm.LawKit.callS X127 hx (y := (⟨"com/example/coterie/coterie/runtime/KnownRequestsLearnPinLaw", "told2", "(IIJJ)J"⟩ : MethodName)) hown (mvT hZ (hw _ (List.mem_of_getElem? (i := 57) rfl))) (mvT hZ (hw _ (List.mem_of_getElem? (i := 58) rfl))) (mvT hZ (hw _ (List.mem_of_getElem? (i := 42) rfl))) (mvT hZ (hw _ (List.mem_of_getElem? (i := 59) rfl))) (by decide) (backOf (W := 3) (rm_told2 l Z a0 hw [] (0 : Int32) 0 o1 o1n vb vc h127 n0 Z127 rfl ho1) hZ (hw _ (List.mem_of_getElem? (i := 59) rfl)) (hw _ (List.mem_of_getElem? (i := 42) rfl)) (by decide) (by decide)) (g := (mkF m 516 #[.val (.int se), .val (.long va), .second, .val (.long vb), .second, .val (.long vc), .second, .val (.int sf), .val (.int rq), .val (.int o1), .val (.int o2), .val (.int m1), .val (.int rr), .val (.int i1), .val (.int i2), .val (.int of), .val (.ref b84), .val (.ref a2), .val (.ref b105), .val (.ref g1), .val (.ref g2), .val (.long (own_ph sn m1n rq va 0)), .second, .val (.long (own_ph sn m1n rq va 1)), .second, .val (.long (own_ph sn m1n rq va 2)), .second, .val (.int (1 : Int32)), .val (.int q0), .val (.int q1), .val (.int q2), .unset] [(.long vc), (.long vb), (.int o1), (.int (0 : Int32)), (.int q0), (.int rr), (.ref g2)])) rfl (by rw [hml]; rfl) (argsL := [(.int (0 : Int32)), (.int o1), (.long vb), (.long vc)]) (rest := [(.int q0), (.int rr), (.ref g2)]) (lenOf own_pd12 rfl) rfl (by show 2 * 0 + _ ≤ _; exact Nat.le_of_eq rfl) (hb hby at_516) (fun _ _ => ⟨rfl, e127, (by decide : 11 + 0 ≤ _), (by decide : 43 + 0 ≤ _)⟩)
  dsimp only [Pt.U, Pt.locs, Pt.cells, Pt.slots] at X129 l129 y129 z129 st129 hQ129
  subst l129 y129 z129
  obtain ⟨rfl, Nq129, eq129⟩ := hQ129
  replace N127 := Fr.app N127 Nq129
  refine own_st (g' := (mkF m 519 #[.val (.int se), .val (.long va), .second, .val (.long vb), .second, .val (.long vc), .second, .val (.int sf), .val (.int rq), .val (.int o1), .val (.int o2), .val (.int m1), .val (.int rr), .val (.int i1), .val (.int i2), .val (.int of), .val (.ref b84), .val (.ref a2), .val (.ref b105), .val (.ref g1), .val (.ref g2), .val (.long (own_ph sn m1n rq va 0)), .second, .val (.long (own_ph sn m1n rq va 1)), .second, .val (.long (own_ph sn m1n rq va 2)), .second, .val (.int (1 : Int32)), .val (.int q0), .val (.int q1), .val (.int q2), .unset] [(.long (own_t2 o1n vb vc 0)), (.int q0), (.int rr), (.ref g2)])) st129 ?_
  refine own_st (T' := T129) (g' := (mkF m 521 #[.val (.int se), .val (.long va), .second, .val (.long vb), .second, .val (.long vc), .second, .val (.int sf), .val (.int rq), .val (.int o1), .val (.int o2), .val (.int m1), .val (.int rr), .val (.int i1), .val (.int i2), .val (.int of), .val (.ref b84), .val (.ref a2), .val (.ref b105), .val (.ref g1), .val (.ref g2), .val (.long (own_ph sn m1n rq va 0)), .second, .val (.long (own_ph sn m1n rq va 1)), .second, .val (.long (own_ph sn m1n rq va 2)), .second, .val (.int (1 : Int32)), .val (.int q0), .val (.int q1), .val (.int q2), .unset] [(.int q1), (.long (own_t2 o1n vb vc 0)), (.int q0), (.int rr), (.ref g2)])) (fun _ zq => XS.iload X129.here hx rfl (hb hby at_519) rfl zq) ?_
  refine own_st (T' := T129) (g' := (mkF m 522 #[.val (.int se), .val (.long va), .second, .val (.long vb), .second, .val (.long vc), .second, .val (.int sf), .val (.int rq), .val (.int o1), .val (.int o2), .val (.int m1), .val (.int rr), .val (.int i1), .val (.int i2), .val (.int of), .val (.ref b84), .val (.ref a2), .val (.ref b105), .val (.ref g1), .val (.ref g2), .val (.long (own_ph sn m1n rq va 0)), .second, .val (.long (own_ph sn m1n rq va 1)), .second, .val (.long (own_ph sn m1n rq va 2)), .second, .val (.int (1 : Int32)), .val (.int q0), .val (.int q1), .val (.int q2), .unset] [(.int (1 : Int32)), (.int q1), (.long (own_t2 o1n vb vc 0)), (.int q0), (.int rr), (.ref g2)])) (fun _ zq => XS.iconst X129.here hx rfl (hb hby at_521) zq) ?_
  refine own_st (T' := T129) (g' := (mkF m 524 #[.val (.int se), .val (.long va), .second, .val (.long vb), .second, .val (.long vc), .second, .val (.int sf), .val (.int rq), .val (.int o1), .val (.int o2), .val (.int m1), .val (.int rr), .val (.int i1), .val (.int i2), .val (.int of), .val (.ref b84), .val (.ref a2), .val (.ref b105), .val (.ref g1), .val (.ref g2), .val (.long (own_ph sn m1n rq va 0)), .second, .val (.long (own_ph sn m1n rq va 1)), .second, .val (.long (own_ph sn m1n rq va 2)), .second, .val (.int (1 : Int32)), .val (.int q0), .val (.int q1), .val (.int q2), .unset] [(.int o1), (.int (1 : Int32)), (.int q1), (.long (own_t2 o1n vb vc 0)), (.int q0), (.int rr), (.ref g2)])) (fun _ zq => XS.iload X129.here hx rfl (hb hby at_522) rfl zq) ?_
  refine own_st (T' := T129) (g' := (mkF m 525 #[.val (.int se), .val (.long va), .second, .val (.long vb), .second, .val (.long vc), .second, .val (.int sf), .val (.int rq), .val (.int o1), .val (.int o2), .val (.int m1), .val (.int rr), .val (.int i1), .val (.int i2), .val (.int of), .val (.ref b84), .val (.ref a2), .val (.ref b105), .val (.ref g1), .val (.ref g2), .val (.long (own_ph sn m1n rq va 0)), .second, .val (.long (own_ph sn m1n rq va 1)), .second, .val (.long (own_ph sn m1n rq va 2)), .second, .val (.int (1 : Int32)), .val (.int q0), .val (.int q1), .val (.int q2), .unset] [(.long vb), (.int o1), (.int (1 : Int32)), (.int q1), (.long (own_t2 o1n vb vc 0)), (.int q0), (.int rr), (.ref g2)])) (fun _ zq => XS.lloadN X129.here hx rfl (hb hby at_524) rfl zq) ?_
  refine own_st (T' := T129) (g' := (mkF m 527 #[.val (.int se), .val (.long va), .second, .val (.long vb), .second, .val (.long vc), .second, .val (.int sf), .val (.int rq), .val (.int o1), .val (.int o2), .val (.int m1), .val (.int rr), .val (.int i1), .val (.int i2), .val (.int of), .val (.ref b84), .val (.ref a2), .val (.ref b105), .val (.ref g1), .val (.ref g2), .val (.long (own_ph sn m1n rq va 0)), .second, .val (.long (own_ph sn m1n rq va 1)), .second, .val (.long (own_ph sn m1n rq va 2)), .second, .val (.int (1 : Int32)), .val (.int q0), .val (.int q1), .val (.int q2), .unset] [(.long vc), (.long vb), (.int o1), (.int (1 : Int32)), (.int q1), (.long (own_t2 o1n vb vc 0)), (.int q0), (.int rr), (.ref g2)])) (fun _ zq => XS.lload X129.here hx rfl (hb hby at_525) rfl zq) ?_
  obtain ⟨_, _, ⟨T130, L130, k130, n130⟩, -, X130, ⟨Lc130, hQ130, l130, y130, z130⟩, st130⟩ := Jvm.LawKit.callS X129 hx (y := (⟨"com/example/coterie/coterie/runtime/KnownRequestsLearnPinLaw", "told2", "(IIJJ)J"⟩ : MethodName)) hown (mvT hZ (hw _ (List.mem_of_getElem? (i := 57) rfl))) (mvT hZ (hw _ (List.mem_of_getElem? (i := 58) rfl))) (mvT hZ (hw _ (List.mem_of_getElem? (i := 42) rfl))) (mvT hZ (hw _ (List.mem_of_getElem? (i := 59) rfl))) (by decide) (backOf (W := 6) (rm_told2 l Z a0 hw [] (1 : Int32) 1 o1 o1n vb vc h127 n0 Z127 rfl ho1) hZ (hw _ (List.mem_of_getElem? (i := 59) rfl)) (hw _ (List.mem_of_getElem? (i := 42) rfl)) (by decide) (by decide)) (g := (mkF m 527 #[.val (.int se), .val (.long va), .second, .val (.long vb), .second, .val (.long vc), .second, .val (.int sf), .val (.int rq), .val (.int o1), .val (.int o2), .val (.int m1), .val (.int rr), .val (.int i1), .val (.int i2), .val (.int of), .val (.ref b84), .val (.ref a2), .val (.ref b105), .val (.ref g1), .val (.ref g2), .val (.long (own_ph sn m1n rq va 0)), .second, .val (.long (own_ph sn m1n rq va 1)), .second, .val (.long (own_ph sn m1n rq va 2)), .second, .val (.int (1 : Int32)), .val (.int q0), .val (.int q1), .val (.int q2), .unset] [(.long vc), (.long vb), (.int o1), (.int (1 : Int32)), (.int q1), (.long (own_t2 o1n vb vc 0)), (.int q0), (.int rr), (.ref g2)])) rfl (by rw [hml]; rfl) (argsL := [(.int (1 : Int32)), (.int o1), (.long vb), (.long vc)]) (rest := [(.int q1), (.long (own_t2 o1n vb vc 0)), (.int q0), (.int rr), (.ref g2)]) (lenOf own_pd12 rfl) rfl (by show 2 * 0 + _ ≤ _; exact Nat.le_of_eq rfl) (hb hby at_527) (fun _ _ => ⟨rfl, (eq129), (by decide : 11 + 0 ≤ _), (by decide : 43 + 0 ≤ _)⟩)
  dsimp only [Pt.U, Pt.locs, Pt.cells, Pt.slots] at X130 l130 y130 z130 st130 hQ130
  subst l130 y130 z130
  obtain ⟨rfl, Nq130, eq130⟩ := hQ130
  replace N127 := Fr.app N127 Nq130
  refine own_st (g' := (mkF m 530 #[.val (.int se), .val (.long va), .second, .val (.long vb), .second, .val (.long vc), .second, .val (.int sf), .val (.int rq), .val (.int o1), .val (.int o2), .val (.int m1), .val (.int rr), .val (.int i1), .val (.int i2), .val (.int of), .val (.ref b84), .val (.ref a2), .val (.ref b105), .val (.ref g1), .val (.ref g2), .val (.long (own_ph sn m1n rq va 0)), .second, .val (.long (own_ph sn m1n rq va 1)), .second, .val (.long (own_ph sn m1n rq va 2)), .second, .val (.int (1 : Int32)), .val (.int q0), .val (.int q1), .val (.int q2), .unset] [(.long (own_t2 o1n vb vc 1)), (.int q1), (.long (own_t2 o1n vb vc 0)), (.int q0), (.int rr), (.ref g2)])) st130 ?_
  refine own_st (T' := T130) (g' := (mkF m 532 #[.val (.int se), .val (.long va), .second, .val (.long vb), .second, .val (.long vc), .second, .val (.int sf), .val (.int rq), .val (.int o1), .val (.int o2), .val (.int m1), .val (.int rr), .val (.int i1), .val (.int i2), .val (.int of), .val (.ref b84), .val (.ref a2), .val (.ref b105), .val (.ref g1), .val (.ref g2), .val (.long (own_ph sn m1n rq va 0)), .second, .val (.long (own_ph sn m1n rq va 1)), .second, .val (.long (own_ph sn m1n rq va 2)), .second, .val (.int (1 : Int32)), .val (.int q0), .val (.int q1), .val (.int q2), .unset] [(.int q2), (.long (own_t2 o1n vb vc 1)), (.int q1), (.long (own_t2 o1n vb vc 0)), (.int q0), (.int rr), (.ref g2)])) (fun _ zq => XS.iload X130.here hx rfl (hb hby at_530) rfl zq) ?_
  refine own_st (T' := T130) (g' := (mkF m 533 #[.val (.int se), .val (.long va), .second, .val (.long vb), .second, .val (.long vc), .second, .val (.int sf), .val (.int rq), .val (.int o1), .val (.int o2), .val (.int m1), .val (.int rr), .val (.int i1), .val (.int i2), .val (.int of), .val (.ref b84), .val (.ref a2), .val (.ref b105), .val (.ref g1), .val (.ref g2), .val (.long (own_ph sn m1n rq va 0)), .second, .val (.long (own_ph sn m1n rq va 1)), .second, .val (.long (own_ph sn m1n rq va 2)), .second, .val (.int (1 : Int32)), .val (.int q0), .val (.int q1), .val (.int q2), .unset] [(.int (2 : Int32)), (.int q2), (.long (own_t2 o1n vb vc 1)), (.int q1), (.long (own_t2 o1n vb vc 0)), (.int q0), (.int rr), (.ref g2)])) (fun _ zq => XS.iconst X130.here hx rfl (hb hby at_532) zq) ?_
  refine own_st (T' := T130) (g' := (mkF m 535 #[.val (.int se), .val (.long va), .second, .val (.long vb), .second, .val (.long vc), .second, .val (.int sf), .val (.int rq), .val (.int o1), .val (.int o2), .val (.int m1), .val (.int rr), .val (.int i1), .val (.int i2), .val (.int of), .val (.ref b84), .val (.ref a2), .val (.ref b105), .val (.ref g1), .val (.ref g2), .val (.long (own_ph sn m1n rq va 0)), .second, .val (.long (own_ph sn m1n rq va 1)), .second, .val (.long (own_ph sn m1n rq va 2)), .second, .val (.int (1 : Int32)), .val (.int q0), .val (.int q1), .val (.int q2), .unset] [(.int o1), (.int (2 : Int32)), (.int q2), (.long (own_t2 o1n vb vc 1)), (.int q1), (.long (own_t2 o1n vb vc 0)), (.int q0), (.int rr), (.ref g2)])) (fun _ zq => XS.iload X130.here hx rfl (hb hby at_533) rfl zq) ?_
  refine own_st (T' := T130) (g' := (mkF m 536 #[.val (.int se), .val (.long va), .second, .val (.long vb), .second, .val (.long vc), .second, .val (.int sf), .val (.int rq), .val (.int o1), .val (.int o2), .val (.int m1), .val (.int rr), .val (.int i1), .val (.int i2), .val (.int of), .val (.ref b84), .val (.ref a2), .val (.ref b105), .val (.ref g1), .val (.ref g2), .val (.long (own_ph sn m1n rq va 0)), .second, .val (.long (own_ph sn m1n rq va 1)), .second, .val (.long (own_ph sn m1n rq va 2)), .second, .val (.int (1 : Int32)), .val (.int q0), .val (.int q1), .val (.int q2), .unset] [(.long vb), (.int o1), (.int (2 : Int32)), (.int q2), (.long (own_t2 o1n vb vc 1)), (.int q1), (.long (own_t2 o1n vb vc 0)), (.int q0), (.int rr), (.ref g2)])) (fun _ zq => XS.lloadN X130.here hx rfl (hb hby at_535) rfl zq) ?_
  refine own_st (T' := T130) (g' := (mkF m 538 #[.val (.int se), .val (.long va), .second, .val (.long vb), .second, .val (.long vc), .second, .val (.int sf), .val (.int rq), .val (.int o1), .val (.int o2), .val (.int m1), .val (.int rr), .val (.int i1), .val (.int i2), .val (.int of), .val (.ref b84), .val (.ref a2), .val (.ref b105), .val (.ref g1), .val (.ref g2), .val (.long (own_ph sn m1n rq va 0)), .second, .val (.long (own_ph sn m1n rq va 1)), .second, .val (.long (own_ph sn m1n rq va 2)), .second, .val (.int (1 : Int32)), .val (.int q0), .val (.int q1), .val (.int q2), .unset] [(.long vc), (.long vb), (.int o1), (.int (2 : Int32)), (.int q2), (.long (own_t2 o1n vb vc 1)), (.int q1), (.long (own_t2 o1n vb vc 0)), (.int q0), (.int rr), (.ref g2)])) (fun _ zq => XS.lload X130.here hx rfl (hb hby at_536) rfl zq) ?_
  obtain ⟨_, _, ⟨T131, L131, k131, n131⟩, -, X131, ⟨Lc131, hQ131, l131, y131, z131⟩, st131⟩ := Jvm.LawKit.callS X130 hx (y := (⟨"com/example/coterie/coterie/runtime/KnownRequestsLearnPinLaw", "told2", "(IIJJ)J"⟩ : MethodName)) hown (mvT hZ (hw _ (List.mem_of_getElem? (i := 57) rfl))) (mvT hZ (hw _ (List.mem_of_getElem? (i := 58) rfl))) (mvT hZ (hw _ (List.mem_of_getElem? (i := 42) rfl))) (mvT hZ (hw _ (List.mem_of_getElem? (i := 59) rfl))) (by decide) (backOf (W := 9) (rm_told2 l Z a0 hw [] (2 : Int32) 2 o1 o1n vb vc h127 n0 Z127 rfl ho1) hZ (hw _ (List.mem_of_getElem? (i := 59) rfl)) (hw _ (List.mem_of_getElem? (i := 42) rfl)) (by decide) (by decide)) (g := (mkF m 538 #[.val (.int se), .val (.long va), .second, .val (.long vb), .second, .val (.long vc), .second, .val (.int sf), .val (.int rq), .val (.int o1), .val (.int o2), .val (.int m1), .val (.int rr), .val (.int i1), .val (.int i2), .val (.int of), .val (.ref b84), .val (.ref a2), .val (.ref b105), .val (.ref g1), .val (.ref g2), .val (.long (own_ph sn m1n rq va 0)), .second, .val (.long (own_ph sn m1n rq va 1)), .second, .val (.long (own_ph sn m1n rq va 2)), .second, .val (.int (1 : Int32)), .val (.int q0), .val (.int q1), .val (.int q2), .unset] [(.long vc), (.long vb), (.int o1), (.int (2 : Int32)), (.int q2), (.long (own_t2 o1n vb vc 1)), (.int q1), (.long (own_t2 o1n vb vc 0)), (.int q0), (.int rr), (.ref g2)])) rfl (by rw [hml]; rfl) (argsL := [(.int (2 : Int32)), (.int o1), (.long vb), (.long vc)]) (rest := [(.int q2), (.long (own_t2 o1n vb vc 1)), (.int q1), (.long (own_t2 o1n vb vc 0)), (.int q0), (.int rr), (.ref g2)]) (lenOf own_pd12 rfl) rfl (by show 2 * 0 + _ ≤ _; exact Nat.le_of_eq rfl) (hb hby at_538) (fun _ _ => ⟨rfl, (eq130), (by decide : 11 + 0 ≤ _), (by decide : 43 + 0 ≤ _)⟩)
  dsimp only [Pt.U, Pt.locs, Pt.cells, Pt.slots] at X131 l131 y131 z131 st131 hQ131
  subst l131 y131 z131
  obtain ⟨rfl, Nq131, eq131⟩ := hQ131
  replace N127 := Fr.app N127 Nq131
  refine own_st (g' := (mkF m 541 #[.val (.int se), .val (.long va), .second, .val (.long vb), .second, .val (.long vc), .second, .val (.int sf), .val (.int rq), .val (.int o1), .val (.int o2), .val (.int m1), .val (.int rr), .val (.int i1), .val (.int i2), .val (.int of), .val (.ref b84), .val (.ref a2), .val (.ref b105), .val (.ref g1), .val (.ref g2), .val (.long (own_ph sn m1n rq va 0)), .second, .val (.long (own_ph sn m1n rq va 1)), .second, .val (.long (own_ph sn m1n rq va 2)), .second, .val (.int (1 : Int32)), .val (.int q0), .val (.int q1), .val (.int q2), .unset] [(.long (own_t2 o1n vb vc 2)), (.int q2), (.long (own_t2 o1n vb vc 1)), (.int q1), (.long (own_t2 o1n vb vc 0)), (.int q0), (.int rr), (.ref g2)])) st131 ?_
  subst hq0 hq1 hq2
  show own_Go p e below s (Q_law Z se va vb vc aN fN h0 n0) 32 192 T131 (mkF m 541 #[.val (.int se), .val (.long va), .second, .val (.long vb), .second, .val (.long vc), .second, .val (.int sf), .val (.int rq), .val (.int o1), .val (.int o2), .val (.int m1), .val (.int rr), .val (.int i1), .val (.int i2), .val (.int of), .val (.ref b84), .val (.ref a2), .val (.ref b105), .val (.ref g1), .val (.ref g2), .val (.long (own_ph sn m1n rq va 0)), .second, .val (.long (own_ph sn m1n rq va 1)), .second, .val (.long (own_ph sn m1n rq va 2)), .second, .val (.int (1 : Int32)), .val (.int ((fun j => own_x2 (own_h2 o1n o2n i1 i2 j) (own_ph sn m1n rq va j) (own_t2 o1n vb vc j)) 0)), .val (.int ((fun j => own_x2 (own_h2 o1n o2n i1 i2 j) (own_ph sn m1n rq va j) (own_t2 o1n vb vc j)) 1)), .val (.int ((fun j => own_x2 (own_h2 o1n o2n i1 i2 j) (own_ph sn m1n rq va j) (own_t2 o1n vb vc j)) 2)), .unset] [(.long (own_t2 o1n vb vc 2)), (.int ((fun j => own_x2 (own_h2 o1n o2n i1 i2 j) (own_ph sn m1n rq va j) (own_t2 o1n vb vc j)) 2)), (.long (own_t2 o1n vb vc 1)), (.int ((fun j => own_x2 (own_h2 o1n o2n i1 i2 j) (own_ph sn m1n rq va j) (own_t2 o1n vb vc j)) 1)), (.long (own_t2 o1n vb vc 0)), (.int ((fun j => own_x2 (own_h2 o1n o2n i1 i2 j) (own_ph sn m1n rq va j) (own_t2 o1n vb vc j)) 0)), (.int rr), (.ref g2)])
  obtain ⟨_, _, ⟨T132, L132, k132, n132⟩, -, X132, ⟨Lc132, hQ132, l132, y132, z132⟩, st132⟩ := Jvm.LawKit.callS X131 hx (y := (⟨"com/example/coterie/coterie/runtime/KnownRequestsLearnPinLaw", "check", "([JIZJZJZJ)Z"⟩ : MethodName)) hown (mvT hZ (hw _ (List.mem_of_getElem? (i := 51) rfl))) (mvT hZ (hw _ (List.mem_of_getElem? (i := 52) rfl))) (mvT hZ (hw _ (List.mem_of_getElem? (i := 42) rfl))) (mvT hZ (hw _ (List.mem_of_getElem? (i := 53) rfl))) (by decide) (backOf (W := 0) (rm_check l Z a0 hw [] g2 rr rrn (fun j => own_x2 (own_h2 o1n o2n i1 i2 j) (own_ph sn m1n rq va j) (own_t2 o1n vb vc j)) (own_t2 o1n vb vc) h127 n0 Z127 V_g2 hrr) hZ (hw _ (List.mem_of_getElem? (i := 53) rfl)) (hw _ (List.mem_of_getElem? (i := 42) rfl)) (by decide) (by decide)) (g := (mkF m 541 #[.val (.int se), .val (.long va), .second, .val (.long vb), .second, .val (.long vc), .second, .val (.int sf), .val (.int rq), .val (.int o1), .val (.int o2), .val (.int m1), .val (.int rr), .val (.int i1), .val (.int i2), .val (.int of), .val (.ref b84), .val (.ref a2), .val (.ref b105), .val (.ref g1), .val (.ref g2), .val (.long (own_ph sn m1n rq va 0)), .second, .val (.long (own_ph sn m1n rq va 1)), .second, .val (.long (own_ph sn m1n rq va 2)), .second, .val (.int (1 : Int32)), .val (.int ((fun j => own_x2 (own_h2 o1n o2n i1 i2 j) (own_ph sn m1n rq va j) (own_t2 o1n vb vc j)) 0)), .val (.int ((fun j => own_x2 (own_h2 o1n o2n i1 i2 j) (own_ph sn m1n rq va j) (own_t2 o1n vb vc j)) 1)), .val (.int ((fun j => own_x2 (own_h2 o1n o2n i1 i2 j) (own_ph sn m1n rq va j) (own_t2 o1n vb vc j)) 2)), .unset] [(.long (own_t2 o1n vb vc 2)), (.int ((fun j => own_x2 (own_h2 o1n o2n i1 i2 j) (own_ph sn m1n rq va j) (own_t2 o1n vb vc j)) 2)), (.long (own_t2 o1n vb vc 1)), (.int ((fun j => own_x2 (own_h2 o1n o2n i1 i2 j) (own_ph sn m1n rq va j) (own_t2 o1n vb vc j)) 1)), (.long (own_t2 o1n vb vc 0)), (.int ((fun j => own_x2 (own_h2 o1n o2n i1 i2 j) (own_ph sn m1n rq va j) (own_t2 o1n vb vc j)) 0)), (.int rr), (.ref g2)])) rfl (by rw [hml]; rfl) (argsL := [(.ref g2), (.int rr), (.int ((fun j => own_x2 (own_h2 o1n o2n i1 i2 j) (own_ph sn m1n rq va j) (own_t2 o1n vb vc j)) 0)), (.long (own_t2 o1n vb vc 0)), (.int ((fun j => own_x2 (own_h2 o1n o2n i1 i2 j) (own_ph sn m1n rq va j) (own_t2 o1n vb vc j)) 1)), (.long (own_t2 o1n vb vc 1)), (.int ((fun j => own_x2 (own_h2 o1n o2n i1 i2 j) (own_ph sn m1n rq va j) (own_t2 o1n vb vc j)) 2)), (.long (own_t2 o1n vb vc 2))]) (rest := []) (lenOf own_pd10 rfl) rfl (by show 2 * 0 + _ ≤ _; exact Nat.le_of_eq rfl) (hb hby at_541) (fun _ _ => ⟨rfl, (eq131), (by decide : 11 + 1 ≤ _), (by decide : 43 + 6 ≤ _)⟩)
  dsimp only [Pt.U, Pt.locs, Pt.cells, Pt.slots] at X132 l132 y132 z132 st132 hQ132
  subst l132 y132 z132
  obtain ⟨rfl, Nq132, Kq132⟩ := hQ132
  replace N127 := Fr.app N127 Nq132
  replace O := O.keep Kq132 all0
  replace Z127 := Nat.le_trans Z127 Kq132.1
  refine own_st (g' := (mkF m 544 #[.val (.int se), .val (.long va), .second, .val (.long vb), .second, .val (.long vc), .second, .val (.int sf), .val (.int rq), .val (.int o1), .val (.int o2), .val (.int m1), .val (.int rr), .val (.int i1), .val (.int i2), .val (.int of), .val (.ref b84), .val (.ref a2), .val (.ref b105), .val (.ref g1), .val (.ref g2), .val (.long (own_ph sn m1n rq va 0)), .second, .val (.long (own_ph sn m1n rq va 1)), .second, .val (.long (own_ph sn m1n rq va 2)), .second, .val (.int (1 : Int32)), .val (.int ((fun j => own_x2 (own_h2 o1n o2n i1 i2 j) (own_ph sn m1n rq va j) (own_t2 o1n vb vc j)) 0)), .val (.int ((fun j => own_x2 (own_h2 o1n o2n i1 i2 j) (own_ph sn m1n rq va j) (own_t2 o1n vb vc j)) 1)), .val (.int ((fun j => own_x2 (own_h2 o1n o2n i1 i2 j) (own_ph sn m1n rq va j) (own_t2 o1n vb vc j)) 2)), .unset] [(.int (1 : Int32))])) st132 ?_
  refine own_st (T' := T132) (g' := (mkF m 546 #[.val (.int se), .val (.long va), .second, .val (.long vb), .second, .val (.long vc), .second, .val (.int sf), .val (.int rq), .val (.int o1), .val (.int o2), .val (.int m1), .val (.int rr), .val (.int i1), .val (.int i2), .val (.int of), .val (.ref b84), .val (.ref a2), .val (.ref b105), .val (.ref g1), .val (.ref g2), .val (.long (own_ph sn m1n rq va 0)), .second, .val (.long (own_ph sn m1n rq va 1)), .second, .val (.long (own_ph sn m1n rq va 2)), .second, .val (.int (1 : Int32)), .val (.int ((fun j => own_x2 (own_h2 o1n o2n i1 i2 j) (own_ph sn m1n rq va j) (own_t2 o1n vb vc j)) 0)), .val (.int ((fun j => own_x2 (own_h2 o1n o2n i1 i2 j) (own_ph sn m1n rq va j) (own_t2 o1n vb vc j)) 1)), .val (.int ((fun j => own_x2 (own_h2 o1n o2n i1 i2 j) (own_ph sn m1n rq va j) (own_t2 o1n vb vc j)) 2)), .val (.int (1 : Int32))] [])) (fun _ zq => XS.istore X132.here hx rfl (hb hby at_544) rfl (l' := #[.val (.int se), .val (.long va), .second, .val (.long vb), .second, .val (.long vc), .second, .val (.int sf), .val (.int rq), .val (.int o1), .val (.int o2), .val (.int m1), .val (.int rr), .val (.int i1), .val (.int i2), .val (.int of), .val (.ref b84), .val (.ref a2), .val (.ref b105), .val (.ref g1), .val (.ref g2), .val (.long (own_ph sn m1n rq va 0)), .second, .val (.long (own_ph sn m1n rq va 1)), .second, .val (.long (own_ph sn m1n rq va 2)), .second, .val (.int (1 : Int32)), .val (.int ((fun j => own_x2 (own_h2 o1n o2n i1 i2 j) (own_ph sn m1n rq va j) (own_t2 o1n vb vc j)) 0)), .val (.int ((fun j => own_x2 (own_h2 o1n o2n i1 i2 j) (own_ph sn m1n rq va j) (own_t2 o1n vb vc j)) 1)), .val (.int ((fun j => own_x2 (own_h2 o1n o2n i1 i2 j) (own_ph sn m1n rq va j) (own_t2 o1n vb vc j)) 2)), .val (.int (1 : Int32))]) rfl zq) ?_
  refine own_st (T' := T132) (g' := (mkF m 548 #[.val (.int se), .val (.long va), .second, .val (.long vb), .second, .val (.long vc), .second, .val (.int sf), .val (.int rq), .val (.int o1), .val (.int o2), .val (.int m1), .val (.int rr), .val (.int i1), .val (.int i2), .val (.int of), .val (.ref b84), .val (.ref a2), .val (.ref b105), .val (.ref g1), .val (.ref g2), .val (.long (own_ph sn m1n rq va 0)), .second, .val (.long (own_ph sn m1n rq va 1)), .second, .val (.long (own_ph sn m1n rq va 2)), .second, .val (.int (1 : Int32)), .val (.int ((fun j => own_x2 (own_h2 o1n o2n i1 i2 j) (own_ph sn m1n rq va j) (own_t2 o1n vb vc j)) 0)), .val (.int ((fun j => own_x2 (own_h2 o1n o2n i1 i2 j) (own_ph sn m1n rq va j) (own_t2 o1n vb vc j)) 1)), .val (.int ((fun j => own_x2 (own_h2 o1n o2n i1 i2 j) (own_ph sn m1n rq va j) (own_t2 o1n vb vc j)) 2)), .val (.int (1 : Int32))] [(.int (1 : Int32))])) (fun _ zq => XS.iload X132.here hx rfl (hb hby at_546) rfl zq) ?_
  refine own_st (T' := T132) (g' := (mkF m 551 #[.val (.int se), .val (.long va), .second, .val (.long vb), .second, .val (.long vc), .second, .val (.int sf), .val (.int rq), .val (.int o1), .val (.int o2), .val (.int m1), .val (.int rr), .val (.int i1), .val (.int i2), .val (.int of), .val (.ref b84), .val (.ref a2), .val (.ref b105), .val (.ref g1), .val (.ref g2), .val (.long (own_ph sn m1n rq va 0)), .second, .val (.long (own_ph sn m1n rq va 1)), .second, .val (.long (own_ph sn m1n rq va 2)), .second, .val (.int (1 : Int32)), .val (.int ((fun j => own_x2 (own_h2 o1n o2n i1 i2 j) (own_ph sn m1n rq va j) (own_t2 o1n vb vc j)) 0)), .val (.int ((fun j => own_x2 (own_h2 o1n o2n i1 i2 j) (own_ph sn m1n rq va j) (own_t2 o1n vb vc j)) 1)), .val (.int ((fun j => own_x2 (own_h2 o1n o2n i1 i2 j) (own_ph sn m1n rq va j) (own_t2 o1n vb vc j)) 2)), .val (.int (1 : Int32))] [])) (fun _ zq => XS.ifNo X132.here hx rfl (hb hby at_548) rfl ((if0 _ _).trans (feq (by decide)).1) zq) ?_
  refine own_st (T' := T132) (g' := (mkF m 553 #[.val (.int se), .val (.long va), .second, .val (.long vb), .second, .val (.long vc), .second, .val (.int sf), .val (.int rq), .val (.int o1), .val (.int o2), .val (.int m1), .val (.int rr), .val (.int i1), .val (.int i2), .val (.int of), .val (.ref b84), .val (.ref a2), .val (.ref b105), .val (.ref g1), .val (.ref g2), .val (.long (own_ph sn m1n rq va 0)), .second, .val (.long (own_ph sn m1n rq va 1)), .second, .val (.long (own_ph sn m1n rq va 2)), .second, .val (.int (1 : Int32)), .val (.int ((fun j => own_x2 (own_h2 o1n o2n i1 i2 j) (own_ph sn m1n rq va j) (own_t2 o1n vb vc j)) 0)), .val (.int ((fun j => own_x2 (own_h2 o1n o2n i1 i2 j) (own_ph sn m1n rq va j) (own_t2 o1n vb vc j)) 1)), .val (.int ((fun j => own_x2 (own_h2 o1n o2n i1 i2 j) (own_ph sn m1n rq va j) (own_t2 o1n vb vc j)) 2)), .val (.int (1 : Int32))] [(.int (1 : Int32))])) (fun _ zq => XS.iload X132.here hx rfl (hb hby at_551) rfl zq) ?_
  refine own_st (T' := T132) (g' := (mkF m 556 #[.val (.int se), .val (.long va), .second, .val (.long vb), .second, .val (.long vc), .second, .val (.int sf), .val (.int rq), .val (.int o1), .val (.int o2), .val (.int m1), .val (.int rr), .val (.int i1), .val (.int i2), .val (.int of), .val (.ref b84), .val (.ref a2), .val (.ref b105), .val (.ref g1), .val (.ref g2), .val (.long (own_ph sn m1n rq va 0)), .second, .val (.long (own_ph sn m1n rq va 1)), .second, .val (.long (own_ph sn m1n rq va 2)), .second, .val (.int (1 : Int32)), .val (.int ((fun j => own_x2 (own_h2 o1n o2n i1 i2 j) (own_ph sn m1n rq va j) (own_t2 o1n vb vc j)) 0)), .val (.int ((fun j => own_x2 (own_h2 o1n o2n i1 i2 j) (own_ph sn m1n rq va j) (own_t2 o1n vb vc j)) 1)), .val (.int ((fun j => own_x2 (own_h2 o1n o2n i1 i2 j) (own_ph sn m1n rq va j) (own_t2 o1n vb vc j)) 2)), .val (.int (1 : Int32))] [])) (fun _ zq => XS.ifNo X132.here hx rfl (hb hby at_553) rfl ((if0 _ _).trans (feq (by decide)).1) zq) ?_
  refine own_st (T' := T132) (g' := (mkF m 557 #[.val (.int se), .val (.long va), .second, .val (.long vb), .second, .val (.long vc), .second, .val (.int sf), .val (.int rq), .val (.int o1), .val (.int o2), .val (.int m1), .val (.int rr), .val (.int i1), .val (.int i2), .val (.int of), .val (.ref b84), .val (.ref a2), .val (.ref b105), .val (.ref g1), .val (.ref g2), .val (.long (own_ph sn m1n rq va 0)), .second, .val (.long (own_ph sn m1n rq va 1)), .second, .val (.long (own_ph sn m1n rq va 2)), .second, .val (.int (1 : Int32)), .val (.int ((fun j => own_x2 (own_h2 o1n o2n i1 i2 j) (own_ph sn m1n rq va j) (own_t2 o1n vb vc j)) 0)), .val (.int ((fun j => own_x2 (own_h2 o1n o2n i1 i2 j) (own_ph sn m1n rq va j) (own_t2 o1n vb vc j)) 1)), .val (.int ((fun j => own_x2 (own_h2 o1n o2n i1 i2 j) (own_ph sn m1n rq va j) (own_t2 o1n vb vc j)) 2)), .val (.int (1 : Int32))] [(.int (1 : Int32))])) (fun _ zq => XS.iconst X132.here hx rfl (hb hby at_556) zq) ?_
  refine own_st (T' := T132) (g' := (mkF m 561 #[.val (.int se), .val (.long va), .second, .val (.long vb), .second, .val (.long vc), .second, .val (.int sf), .val (.int rq), .val (.int o1), .val (.int o2), .val (.int m1), .val (.int rr), .val (.int i1), .val (.int i2), .val (.int of), .val (.ref b84), .val (.ref a2), .val (.ref b105), .val (.ref g1), .val (.ref g2), .val (.long (own_ph sn m1n rq va 0)), .second, .val (.long (own_ph sn m1n rq va 1)), .second, .val (.long (own_ph sn m1n rq va 2)), .second, .val (.int (1 : Int32)), .val (.int ((fun j => own_x2 (own_h2 o1n o2n i1 i2 j) (own_ph sn m1n rq va j) (own_t2 o1n vb vc j)) 0)), .val (.int ((fun j => own_x2 (own_h2 o1n o2n i1 i2 j) (own_ph sn m1n rq va j) (own_t2 o1n vb vc j)) 1)), .val (.int ((fun j => own_x2 (own_h2 o1n o2n i1 i2 j) (own_ph sn m1n rq va j) (own_t2 o1n vb vc j)) 2)), .val (.int (1 : Int32))] [(.int (1 : Int32))])) (fun _ zq => XS.goto X132.here hx rfl (pc0 := 557) (pc' := 561) rfl (hb hby at_557) (by decide) (by decide) zq) ?_
  exact own_ret X132 hx hret hlk (i := .ireturn) rfl (Or.inl ⟨rfl, by decide, _, rfl⟩) (hb hby at_561) rfl (Nat.le_of_ble_eq_true rfl) (Nat.le_of_ble_eq_true rfl) ⟨rfl, N127⟩
set_option maxRecDepth 65536 in
set_option maxHeartbeats 40000000 in
theorem comes_1 {Post : Tables → Env → Array Value → State → Outcome → State → Prop} (hpost : ∀ tb e args s v u, (limb_1_1.after args s (.returned v) u = true ∧ limb_1_2.after args s (.returned v) u = true ∧ True) → FrameEnd s (.returned v) u (Jvm.fieldLocs frame_1_writes args s ++ Jvm.arrayLocs frame_1_arrays args s ++ Jvm.staticLocs frame_1_statics s) 32 192 → Post tb e args s (.returned v) u) :
    ArmFor flags0 classFile x code maxLocals ret World_1 tables_1 room_1 Calls_1 rest_1 Pre_1 Post := by
  intro l hfl _ _ p e ha hc hk s m args below hf hA hF happ hP
  obtain ⟨hcalls, hrest, hpre⟩ := hP
  obtain ⟨-, -, -, hnamed, -, -, -, hat⟩ := (Spec.applies_iff hf).mp happ
  obtain ⟨hg, hn⟩ := and_e (Cond.before_iff.mp (show (Jvm.Cond.and given_1 narrow_1).before args s = true from hpre))
  obtain ⟨hcnt, hgs⟩ := and_e hg
  obtain ⟨w0, w1, w2, w3, rfl⟩ : ∃ w0 w1 w2 w3 : Value, args = #[w0, w1, w2, w3] := by
    have hs : args.size = 4 := by simpa [Cond.value, given_1] using hcnt
    obtain ⟨L⟩ := args
    match L, hs with
    | [w0, w1, w2, w3], _ => exact ⟨w0, w1, w2, w3, rfl⟩
  have hw := fun d (hd : d ∈ tables_1) => atoms_spec (ws := Jvm.Cond.code x code maxLocals ret :: tables_1) hat d (List.mem_cons_of_mem _ hd)
  have hfit : Fit s := fun {y c} hc i hi => by
    obtain ⟨ha, rfl⟩ := Array.getElem?_eq_some_iff.mp hc
    have q := List.all_eq_true.mp ((Array.all_eq_true_iff_forall_mem.mp hF) _ (Array.getElem_mem ha)) i (List.mem_range.mpr hi)
    simpa [Array.getElem?_eq_getElem hi] using q
  obtain ⟨k0, hgs⟩ := and_e hgs
  obtain ⟨i0, q0⟩ := is_v k0
  obtain rfl : w0 = (.int i0) := Option.some.inj q0
  obtain ⟨k1, hgs⟩ := and_e hgs
  obtain ⟨i1, q1⟩ := isL_v k1
  obtain rfl : w1 = (.long i1) := Option.some.inj q1
  obtain ⟨k2, hgs⟩ := and_e hgs
  obtain ⟨i2, q2⟩ := isL_v k2
  obtain rfl : w2 = (.long i2) := Option.some.inj q2
  obtain ⟨i3, q3⟩ := isL_v hgs
  obtain rfl : w3 = (.long i3) := Option.some.inj q3
  obtain ⟨n1, n2⟩ := and_e hn
  obtain ⟨aN, evN⟩ := arr_v n1
  have SN := Sta.start evN (Or.inr ⟨(hw _ (List.mem_of_getElem? (i := 3) rfl)), (hw _ (List.mem_of_getElem? (i := 39) rfl))⟩)
  obtain ⟨fN, VN⟩ := own_empty evN (Cond.before_iff.mpr n1) (Cond.before_iff.mpr n2)
  obtain ⟨n, o, h1, h2, h3, _, L, rfl, ⟨rfl, N⟩, hq⟩ := rm_law l s _ hw tables_1 i0 i1 i2 i3 aN fN s.heap s.heap.size (Nat.le_refl _) (Old.start s) SN VN p e ha hc hk s m _ below hf ((Spec.applies_iff_loose hf).mp happ).1 ⟨rfl, State.Warmed39.refl s, rfl⟩ trivial
  refine ⟨n, _, h1, h2, h3, hpost _ _ _ _ _ _ ⟨Cond.after_iff.mpr rfl, Cond.after_iff.mpr (eq_i res_at (Term.int_eval (1)) rfl), trivial⟩ ⟨hq.1, hq.2.1, (hq.2.2.sift fun y hy => Or.inr (N y hy)).mono (by decide) (by decide)⟩⟩
theorem main_1_1 : Claimed_1_1 := comes_1 fun _ _ _ _ _ _ h hF => ⟨h.1, hF⟩
theorem main_1_2 : Claimed_1_2 := comes_1 fun _ _ _ _ _ _ h hF => ⟨h.2.1, hF⟩
end Jvm.Pilot.@@N@@
namespace Jvm.Pilot.@@N@@
open Jvm Jvm.ClassFile Sem Op Lib Jvm.Free Jvm.Stand Jvm.Pilot.@@N@@.Jvm.D
/-! MADE BY PROGRAM (witnessworld.py) out of the Statement's table words and the real class files: 13 classes; the members and pool entries that the words name. The judged class is class 1, her method 1. -/
namespace start1
open Jvm.ClassFile
def u (s : String) : CpInfo := .utf8 (stringToUtf16 s)
/-- a pool by its gaps: so many unusable entries, then the entry; so many at the end -/
def gap : Nat → List CpInfo → List CpInfo
  | 0, r => r
  | n + 1, r => .unusable :: gap n r
def poolList (es : List (Nat × CpInfo)) (last : Nat) : List CpInfo := es.foldr (fun e r => gap e.1 (e.2 :: r)) (gap last [])
def pool (es : List (Nat × CpInfo)) (last : Nat) : Array CpInfo := ⟨poolList es last⟩
def fileOf (pool : Array CpInfo) (this : Nat) (attrs : Array Attribute := #[]) (ms : Array MethodInfo := #[]) (fl : Nat := 33) (sup : Nat := 0) (ifs : Array Nat := #[]) (fds : Array FieldInfo := #[]) : ClassFile where
  minorVersion := 0
  majorVersion := 65
  constantPool := pool
  accessFlags := fl
  thisClass := this
  superClass := sup
  interfaces := ifs
  fields := fds
  methods := ms
  attributes := attrs
def plain (name : String) (sup : Option ClassId) : Class where
  name := name
  kind := .ordinary
  loader := none
  accessFlags := 33
  super := sup
  interfaces := #[]
  cf := none
  fields := #[]
  methods := #[]
  instanceTypes := #[]
  staticTypes := #[]
  resolved := #[]
  callSites := []
  init := .initialized
  statics := none
  mirror := none

def pool0 : Array CpInfo := pool [(5, u "<init>"), (0, u "()V"), (1, .class_ 10), (1, u "java/lang/Object"), (85, u "clone"), (0, u "()Ljava/lang/Object;")] 26

def k0c0 : Code := { maxStack := 0, maxLocals := 1, code := object_method_1_code, exceptionTable := #[], attributes := #[] }
def k0m0 : Method := { name := "<init>", desc := "()V", sig := { parameters := [], returnType := none }, accessFlags := 1, code := some k0c0 }
def k0m1 : Method := { name := "clone", desc := "()Ljava/lang/Object;", sig := { parameters := [], returnType := some (.object "java/lang/Object") }, accessFlags := 260, code := none }
/-- java/lang/Object -/
def k0 : Class := { plain "java/lang/Object" none with
  accessFlags := 33
  interfaces := #[]
  cf := some (fileOf pool0 8 #[] #[{ accessFlags := 1, nameIndex := 5, descriptorIndex := 6, attributes := #[] }, { accessFlags := 260, nameIndex := 96, descriptorIndex := 97, attributes := #[] }] 33 0 #[] #[])
  fields := #[]
  methods := #[k0m0, k0m1]
  instanceTypes := #[]
  staticTypes := #[]
  resolved := Array.replicate 124 none
  statics := none }

def pool1 : Array CpInfo := pool [(2, .class_ 4), (1, u "java/lang/Object"), (0, u "<init>"), (0, u "()V"), (0, .class_ 8), (0, u "com/example/coterie/coterie/runtime/KnownRequests"), (0, .methodref 7 10), (0, .nameAndType 5 11), (0, u "(II)V"), (0, .methodref 7 13), (0, .nameAndType 14 15), (0, u "request"), (0, u "()Lcom/example/coterie/coterie/message/VectorStamp;"), (0, .methodref 7 17), (0, .nameAndType 18 19), (0, u "learn"), (0, u "([J)V"), (0, .methodref 7 21), (0, .nameAndType 22 23), (0, u "news"), (0, u "(I)[J"), (0, .methodref 25 26), (0, .class_ 27), (0, .nameAndType 28 29), (0, u "com/example/coterie/coterie/runtime/KnownRequestsLearnPinLaw"), (0, u "phase1"), (0, u "(IIZIJ)J"), (0, .methodref 25 31), (0, .nameAndType 32 33), (0, u "rose1"), (0, u "(IIZIJ)Z"), (0, .methodref 25 35), (0, .nameAndType 36 37), (0, u "check"), (0, u "([JIZJZJZJ)Z"), (0, .methodref 25 39), (0, .nameAndType 40 41), (0, u "has2"), (0, u "(IIIZZ)Z"), (0, .methodref 25 43), (0, .nameAndType 44 45), (0, u "told2"), (0, u "(IIJJ)J"), (0, .methodref 47 48), (0, .class_ 49), (0, .nameAndType 50 51), (0, u "java/lang/Math"), (0, u "max"), (0, u "(JJ)J"), (0, .long 2), (3, u "law"), (0, u "(IJJJ)Z")] 5

def k1m0 : Method := { name := "<init>", desc := "()V", sig := { parameters := [], returnType := none }, accessFlags := 1, code := none }
def k1c1 : Code := { maxStack := 15, maxLocals := 32, code := code, exceptionTable := #[], attributes := #[] }
def k1m1 : Method := { name := "law", desc := "(IJJJ)Z", sig := { parameters := [.int, .long, .long, .long], returnType := some .boolean }, accessFlags := 9, code := some k1c1 }
def k1c2 : Code := { maxStack := 4, maxLocals := 6, code := method_3_code, exceptionTable := #[], attributes := #[] }
def k1m2 : Method := { name := "phase1", desc := "(IIZIJ)J", sig := { parameters := [.int, .int, .boolean, .int, .long], returnType := some .long }, accessFlags := 10, code := some k1c2 }
def k1c3 : Code := { maxStack := 4, maxLocals := 6, code := method_4_code, exceptionTable := #[], attributes := #[] }
def k1m3 : Method := { name := "rose1", desc := "(IIZIJ)Z", sig := { parameters := [.int, .int, .boolean, .int, .long], returnType := some .boolean }, accessFlags := 10, code := some k1c3 }
def k1c4 : Code := { maxStack := 2, maxLocals := 5, code := method_5_code, exceptionTable := #[], attributes := #[] }
def k1m4 : Method := { name := "has2", desc := "(IIIZZ)Z", sig := { parameters := [.int, .int, .int, .boolean, .boolean], returnType := some .boolean }, accessFlags := 10, code := some k1c4 }
def k1c5 : Code := { maxStack := 2, maxLocals := 6, code := method_6_code, exceptionTable := #[], attributes := #[] }
def k1m5 : Method := { name := "told2", desc := "(IIJJ)J", sig := { parameters := [.int, .int, .long, .long], returnType := some .long }, accessFlags := 10, code := some k1c5 }
def k1c6 : Code := { maxStack := 4, maxLocals := 13, code := method_7_code, exceptionTable := #[], attributes := #[] }
def k1m6 : Method := { name := "check", desc := "([JIZJZJZJ)Z", sig := { parameters := [(.array .long), .int, .boolean, .long, .boolean, .long, .boolean, .long], returnType := some .boolean }, accessFlags := 10, code := some k1c6 }
/-- com/example/coterie/coterie/runtime/KnownRequestsLearnPinLaw -/
def k1 : Class := { plain "com/example/coterie/coterie/runtime/KnownRequestsLearnPinLaw" (some 0) with
  accessFlags := 49
  interfaces := #[]
  cf := some (fileOf pool1 25 #[] #[{ accessFlags := 1, nameIndex := 5, descriptorIndex := 6, attributes := #[] }, { accessFlags := 9, nameIndex := 56, descriptorIndex := 57, attributes := #[] }, { accessFlags := 10, nameIndex := 28, descriptorIndex := 29, attributes := #[] }, { accessFlags := 10, nameIndex := 32, descriptorIndex := 33, attributes := #[] }, { accessFlags := 10, nameIndex := 40, descriptorIndex := 41, attributes := #[] }, { accessFlags := 10, nameIndex := 44, descriptorIndex := 45, attributes := #[] }, { accessFlags := 10, nameIndex := 36, descriptorIndex := 37, attributes := #[] }] 49 2 #[] #[])
  fields := #[]
  methods := #[k1m0, k1m1, k1m2, k1m3, k1m4, k1m5, k1m6]
  instanceTypes := #[]
  staticTypes := #[]
  resolved := Array.replicate 63 none
  statics := none }

def pool2 : Array CpInfo := pool [(1, .methodref 2 3), (0, .class_ 4), (0, .nameAndType 5 6), (0, u "java/lang/Object"), (0, u "<init>"), (0, u "()V"), (0, .fieldref 8 9), (0, .class_ 10), (0, .nameAndType 11 12), (0, u "com/example/coterie/coterie/runtime/KnownRequests"), (0, u "self"), (0, u "I"), (0, .fieldref 8 14), (0, .nameAndType 15 16), (0, u "known"), (0, u "[J"), (0, .fieldref 8 18), (0, .nameAndType 19 16), (0, u "roseAt"), (0, .fieldref 8 21), (0, .nameAndType 22 16), (0, u "told"), (0, .methodref 8 24), (0, .nameAndType 25 26), (0, u "rise"), (0, u "(IJ)V"), (0, .class_ 28), (0, u "com/example/coterie/coterie/message/VectorStamp"), (0, .methodref 27 30), (0, .nameAndType 5 31), (0, u "(I[J)V"), (0, .fieldref 8 33), (0, .nameAndType 34 35), (0, u "rises"), (0, u "J"), (0, .fieldref 8 37), (0, .nameAndType 38 16), (0, u "NOTHING_NEW"), (0, .methodref 8 40), (0, .nameAndType 41 42), (0, u "untold"), (0, u "(II)Z"), (0, u "(II)V"), (2, u "request"), (0, u "()Lcom/example/coterie/coterie/message/VectorStamp;"), (0, u "news"), (0, u "(I)[J"), (2, u "learn"), (0, u "([J)V")] 3

def k2c0 : Code := { maxStack := 2, maxLocals := 3, code := prog_86_method_1_code, exceptionTable := #[], attributes := #[] }
def k2m0 : Method := { name := "<init>", desc := "(II)V", sig := { parameters := [.int, .int], returnType := none }, accessFlags := 0, code := some k2c0 }
def k2c1 : Code := { maxStack := 6, maxLocals := 1, code := prog_86_method_2_code, exceptionTable := #[], attributes := #[] }
def k2m1 : Method := { name := "request", desc := "()Lcom/example/coterie/coterie/message/VectorStamp;", sig := { parameters := [], returnType := some (.object "com/example/coterie/coterie/message/VectorStamp") }, accessFlags := 0, code := some k2c1 }
def k2c2 : Code := { maxStack := 4, maxLocals := 6, code := prog_86_method_3_code, exceptionTable := #[], attributes := #[] }
def k2m2 : Method := { name := "news", desc := "(I)[J", sig := { parameters := [.int], returnType := some (.array .long) }, accessFlags := 0, code := some k2c2 }
def k2c3 : Code := { maxStack := 5, maxLocals := 4, code := prog_86_method_4_code, exceptionTable := #[], attributes := #[] }
def k2m3 : Method := { name := "learn", desc := "([J)V", sig := { parameters := [(.array .long)], returnType := none }, accessFlags := 0, code := some k2c3 }
def k2c4 : Code := { maxStack := 4, maxLocals := 3, code := prog_86_method_5_code, exceptionTable := #[], attributes := #[] }
def k2m4 : Method := { name := "untold", desc := "(II)Z", sig := { parameters := [.int, .int], returnType := some .boolean }, accessFlags := 2, code := some k2c4 }
def k2c5 : Code := { maxStack := 5, maxLocals := 4, code := prog_86_method_6_code, exceptionTable := #[], attributes := #[] }
def k2m5 : Method := { name := "rise", desc := "(IJ)V", sig := { parameters := [.int, .long], returnType := none }, accessFlags := 2, code := some k2c5 }
/-- com/example/coterie/coterie/runtime/KnownRequests -/
def k2 : Class := { plain "com/example/coterie/coterie/runtime/KnownRequests" (some 0) with
  accessFlags := 48
  interfaces := #[]
  cf := some (fileOf pool2 8 #[] #[{ accessFlags := 0, nameIndex := 5, descriptorIndex := 43, attributes := #[] }, { accessFlags := 0, nameIndex := 46, descriptorIndex := 47, attributes := #[] }, { accessFlags := 0, nameIndex := 48, descriptorIndex := 49, attributes := #[] }, { accessFlags := 0, nameIndex := 52, descriptorIndex := 53, attributes := #[] }, { accessFlags := 2, nameIndex := 41, descriptorIndex := 42, attributes := #[] }, { accessFlags := 2, nameIndex := 25, descriptorIndex := 26, attributes := #[] }] 48 2 #[] #[{ accessFlags := 26, nameIndex := 38, descriptorIndex := 16, attributes := #[] }, { accessFlags := 18, nameIndex := 11, descriptorIndex := 12, attributes := #[] }, { accessFlags := 18, nameIndex := 15, descriptorIndex := 16, attributes := #[] }, { accessFlags := 18, nameIndex := 19, descriptorIndex := 16, attributes := #[] }, { accessFlags := 18, nameIndex := 22, descriptorIndex := 16, attributes := #[] }, { accessFlags := 2, nameIndex := 34, descriptorIndex := 35, attributes := #[] }])
  fields := #[{ name := "NOTHING_NEW", type := (.array .long), accessFlags := 26, slot := 0, constantValue := 0 }, { name := "self", type := .int, accessFlags := 18, slot := 0, constantValue := 0 }, { name := "known", type := (.array .long), accessFlags := 18, slot := 1, constantValue := 0 }, { name := "roseAt", type := (.array .long), accessFlags := 18, slot := 2, constantValue := 0 }, { name := "told", type := (.array .long), accessFlags := 18, slot := 3, constantValue := 0 }, { name := "rises", type := .long, accessFlags := 2, slot := 4, constantValue := 0 }]
  methods := #[k2m0, k2m1, k2m2, k2m3, k2m4, k2m5]
  instanceTypes := #[.int, (.array .long), (.array .long), (.array .long), .long]
  staticTypes := #[(.array .long)]
  resolved := Array.replicate 57 none
  statics := some 0 }

def pool3 : Array CpInfo := pool [(1, .class_ 2), (0, u "java/lang/Math"), (1, .class_ 6), (1, u "java/lang/Object"), (0, u "<init>"), (0, u "()V"), (89, .class_ 100), (1, u "java/lang/Math$RandomNumberGeneratorHolder"), (20, u "(JJ)J"), (50, u "negativeZeroFloatBits"), (0, u "J"), (2, u "negativeZeroDoubleBits"), (21, u "max"), (46, u "$assertionsDisabled"), (0, u "Z"), (91, u "twoToTheDoubleScaleDown"), (0, u "D"), (4, u "twoToTheDoubleScaleUp"), (9, u "E"), (3, u "PI"), (2, u "TAU"), (2, u "DEGREES_TO_RADIANS"), (0, u "RADIANS_TO_DEGREES")] 94

def k3m0 : Method := { name := "<init>", desc := "()V", sig := { parameters := [], returnType := none }, accessFlags := 2, code := none }
def k3c1 : Code := { maxStack := 4, maxLocals := 4, code := jdk_29_method_66_code, exceptionTable := #[], attributes := #[] }
def k3m1 : Method := { name := "max", desc := "(JJ)J", sig := { parameters := [.long, .long], returnType := some .long }, accessFlags := 9, code := some k3c1 }
/-- java/lang/Math -/
def k3 : Class := { plain "java/lang/Math" (some 0) with
  accessFlags := 49
  interfaces := #[]
  cf := some (fileOf pool3 1 #[.nestMembers #[98]] #[{ accessFlags := 2, nameIndex := 7, descriptorIndex := 8, attributes := #[] }, { accessFlags := 9, nameIndex := 198, descriptorIndex := 121, attributes := #[] }] 49 4 #[] #[{ accessFlags := 25, nameIndex := 354, descriptorIndex := 339, attributes := #[] }, { accessFlags := 25, nameIndex := 358, descriptorIndex := 339, attributes := #[] }, { accessFlags := 25, nameIndex := 361, descriptorIndex := 339, attributes := #[] }, { accessFlags := 26, nameIndex := 364, descriptorIndex := 339, attributes := #[] }, { accessFlags := 26, nameIndex := 365, descriptorIndex := 339, attributes := #[] }, { accessFlags := 26, nameIndex := 172, descriptorIndex := 173, attributes := #[] }, { accessFlags := 26, nameIndex := 176, descriptorIndex := 173, attributes := #[] }, { accessFlags := 8, nameIndex := 344, descriptorIndex := 339, attributes := #[] }, { accessFlags := 8, nameIndex := 338, descriptorIndex := 339, attributes := #[] }, { accessFlags := 4120, nameIndex := 245, descriptorIndex := 246, attributes := #[] }])
  fields := #[{ name := "E", type := .double, accessFlags := 25, slot := 0, constantValue := 0 }, { name := "PI", type := .double, accessFlags := 25, slot := 1, constantValue := 0 }, { name := "TAU", type := .double, accessFlags := 25, slot := 2, constantValue := 0 }, { name := "DEGREES_TO_RADIANS", type := .double, accessFlags := 26, slot := 3, constantValue := 0 }, { name := "RADIANS_TO_DEGREES", type := .double, accessFlags := 26, slot := 4, constantValue := 0 }, { name := "negativeZeroFloatBits", type := .long, accessFlags := 26, slot := 5, constantValue := 0 }, { name := "negativeZeroDoubleBits", type := .long, accessFlags := 26, slot := 6, constantValue := 0 }, { name := "twoToTheDoubleScaleUp", type := .double, accessFlags := 8, slot := 7, constantValue := 0 }, { name := "twoToTheDoubleScaleDown", type := .double, accessFlags := 8, slot := 8, constantValue := 0 }, { name := "$assertionsDisabled", type := .boolean, accessFlags := 4120, slot := 9, constantValue := 0 }]
  methods := #[k3m0, k3m1]
  instanceTypes := #[]
  staticTypes := #[.double, .double, .double, .double, .double, .long, .long, .double, .double, .boolean]
  resolved := Array.replicate 460 none
  statics := none }

def pool4 : Array CpInfo := pool [(1, .methodref 2 3), (0, .class_ 4), (0, .nameAndType 5 6), (0, u "java/lang/Object"), (0, u "<init>"), (0, u "()V"), (12, .fieldref 20 21), (0, .class_ 22), (0, .nameAndType 23 24), (0, u "com/example/coterie/coterie/message/VectorStamp"), (0, u "node"), (0, u "I"), (0, .methodref 26 27), (0, .class_ 28), (0, .nameAndType 29 30), (0, u "[J"), (0, u "clone"), (0, u "()Ljava/lang/Object;"), (0, .fieldref 20 32), (0, .nameAndType 33 28), (0, u "counts"), (16, u "(I[J)V"), (27, u "SEPARATOR"), (0, u "Ljava/lang/String;")] 31

def k4c0 : Code := { maxStack := 5, maxLocals := 3, code := prog_65_method_1_code, exceptionTable := #[], attributes := #[] }
def k4m0 : Method := { name := "<init>", desc := "(I[J)V", sig := { parameters := [.int, (.array .long)], returnType := none }, accessFlags := 1, code := some k4c0 }
/-- com/example/coterie/coterie/message/VectorStamp -/
def k4 : Class := { plain "com/example/coterie/coterie/message/VectorStamp" (some 0) with
  accessFlags := 49
  interfaces := #[]
  cf := some (fileOf pool4 20 #[] #[{ accessFlags := 1, nameIndex := 5, descriptorIndex := 50, attributes := #[] }] 49 2 #[] #[{ accessFlags := 26, nameIndex := 78, descriptorIndex := 79, attributes := #[] }, { accessFlags := 18, nameIndex := 23, descriptorIndex := 24, attributes := #[] }, { accessFlags := 18, nameIndex := 33, descriptorIndex := 28, attributes := #[] }])
  fields := #[{ name := "SEPARATOR", type := (.object "java/lang/String"), accessFlags := 26, slot := 0, constantValue := 0 }, { name := "node", type := .int, accessFlags := 18, slot := 0, constantValue := 0 }, { name := "counts", type := (.array .long), accessFlags := 18, slot := 1, constantValue := 0 }]
  methods := #[k4m0]
  instanceTypes := #[.int, (.array .long)]
  staticTypes := #[(.object "java/lang/String")]
  resolved := Array.replicate 111 none
  statics := none }

def pool5 : Array CpInfo := pool [(1, .class_ 2), (0, u "java/lang/Cloneable"), (0, .class_ 4), (0, u "java/lang/Object")] 2

/-- java/lang/Cloneable -/
def k5 : Class := { plain "java/lang/Cloneable" (some 0) with
  accessFlags := 1537
  interfaces := #[]
  cf := some (fileOf pool5 1 #[] #[] 1537 3 #[] #[])
  fields := #[]
  methods := #[]
  instanceTypes := #[]
  staticTypes := #[]
  resolved := Array.replicate 7 none
  statics := none }

def pool6 : Array CpInfo := pool [(1, u "java/io/Serializable"), (0, .class_ 1), (0, u "java/lang/Object"), (0, .class_ 3)] 3

/-- java/io/Serializable -/
def k6 : Class := { plain "java/io/Serializable" (some 0) with
  accessFlags := 1537
  interfaces := #[]
  cf := some (fileOf pool6 2 #[] #[] 1537 4 #[] #[])
  fields := #[]
  methods := #[]
  instanceTypes := #[]
  staticTypes := #[]
  resolved := Array.replicate 8 none
  statics := none }

/-- the primitive byte -/
def k7 : Class := { plain "byte" none with kind := .primitive 'B', accessFlags := 0x411 }
/-- [B -/
def k8 : Class := { plain "[B" (some 0) with kind := .array 7 .byte, interfaces := #[5, 6], accessFlags := 1041 }

/-- the primitive int -/
def k9 : Class := { plain "int" none with kind := .primitive 'I', accessFlags := 0x411 }
/-- [I -/
def k10 : Class := { plain "[I" (some 0) with kind := .array 9 .int, interfaces := #[5, 6], accessFlags := 1041 }

/-- the primitive long -/
def k11 : Class := { plain "long" none with kind := .primitive 'J', accessFlags := 0x411 }
/-- [J -/
def k12 : Class := { plain "[J" (some 0) with kind := .array 11 .long, interfaces := #[5, 6], accessFlags := 1041 }

def heap : Heap := #[{ cls := 2, slots := #[.ref 1], vm := .statics 2 },
  { cls := 12, slots := #[], vm := .none }]
def classes : Array Class := #[k0, k1, k2, k3, k4, k5, k6, k7, k8, k9, k10, k11, k12]
def interned : List (Array UInt16 × Addr) := []
def slotsUsed : Nat := 1
def theMethod : MethodId := ⟨1, 1⟩
def args0 : Array Value := #[.int 1, .long 3, .long 4, .long 5]
def aboutOver (below : List Frame) : State where
  vm := { classes := classes, interned := interned.toArray }
  heap := heap
  slotsUsed := slotsUsed
  threads := #[{ frames := .invoking theMethod args0 :: below }]
def below0 : List Frame := [.native { method := ⟨0, 0⟩, args := #[] }]
def about1 : State := aboutOver below0
def p0 : Program := .bare "" "" ""
def e0 : Env := launch0.env 0 0 0
theorem w_frames : about1.frames = Frame.invoking theMethod args0 :: below0 := rfl
set_option maxRecDepth 65536 in
theorem w_args : argsFit about1.vm theMethod args0 = true := by decide +kernel
set_option maxRecDepth 65536 in
theorem w_heap : heapFits about1 = true := by decide +kernel
set_option maxRecDepth 65536 in
theorem w_runnable : about1.curStatus? = some .runnable := by decide +kernel
set_option maxRecDepth 65536 in
theorem w_alone : about1.alone = true := by decide +kernel
set_option maxRecDepth 65536 in
theorem w_named : about1.methodNamed? x = some theMethod := by decide +kernel
set_option maxRecDepth 65536 in
theorem w_hears : about1.hears theMethod below0 = true := by decide +kernel
set_option maxRecDepth 65536 in
theorem w_ripe : about1.ripe theMethod args0 below0 = true := by decide +kernel
theorem w_running : about1.status = .running := rfl
set_option maxRecDepth 65536 in
theorem w_room : about1.hasRoom e0.platform room_1 = true :=
  launch0.hasRoom_least _ room_1 (by decide +kernel) (by decide +kernel) (by decide +kernel) (by decide +kernel) (by decide +kernel) (by decide +kernel)
theorem allAtoms_all (ts : List Jvm.Cond) (a : Array Jvm.Value) (st : Jvm.State) : (allAtoms ts).before a st = ts.all (fun c => c.before a st) := by
  induction ts with
  | nil => rfl
  | cons c t ih =>
    show (Jvm.Cond.and c (allAtoms t)).before a st = _
    rw [Jvm.Cond.before_and, ih, List.all_cons]
def words1 : List Jvm.Cond := Jvm.Cond.code x code maxLocals ret :: tables_1
/-- a 'code' word, met by the world's own term for the bytes: nothing is compared byte by byte -/
theorem code_word {y : MethodName} {bytes : ByteArray} {mx : Nat} {rt : Option FieldType} {a : Array Value} {s : State} {m : MethodId} {meth : Method} {c : Code} (h1 : s.methodNamed? y = some m) (h2 : s.vm.method? m = some meth) (h3 : meth.code = some c) (h4 : c.code = bytes)
    (h5 : (c.maxLocals == mx && c.exceptionTable.isEmpty && decide (c.maxStack ≤ mostOperands) && decide (meth.sig.returnType = rt) && !meth.locks && decide (parseMethodDescriptor y.desc = some meth.sig)) = true) : (Jvm.Cond.code y bytes mx rt).before a s = true := by
  simp only [Bool.and_eq_true, beq_iff_eq, Bool.not_eq_true', decide_eq_true_eq] at h5
  obtain ⟨⟨⟨⟨⟨g1, g2⟩, g3⟩, g4⟩, g5⟩, g6⟩ := h5
  simp [Cond.before, Cond.holds, Cond.value, h1, h2, h3, h4, g1, g2, g3, g4, g5, g6]
def isCode : Jvm.Cond → Bool
  | .code _ _ _ _ => true
  | _ => false
theorem all_split {L : List Jvm.Cond} {P : Jvm.Cond → Bool} (h1 : L.all (fun c => isCode c || P c) = true) (h2 : ∀ c ∈ L.filter isCode, P c = true) : L.all P = true := by
  refine List.all_eq_true.mpr fun c hc => ?_
  have h := List.all_eq_true.mp h1 c hc
  rcases Bool.eq_false_or_eq_true (isCode c) with hi | hi
  · exact h2 c (List.mem_filter.mpr ⟨hc, hi⟩)
  · simpa [hi] using h
set_option maxRecDepth 65536 in
theorem w_c0 : (Jvm.Cond.code x code maxLocals ret).before args0 about1 = true := code_word (m := ⟨1, 1⟩) (meth := k1m1) (c := k1c1) (by decide +kernel) rfl rfl rfl (by decide +kernel)
set_option maxRecDepth 65536 in
theorem w_c1 : (Jvm.Cond.code ({ cls := "com/example/coterie/coterie/runtime/KnownRequests", name := "<init>", desc := "(II)V" } : Jvm.MethodName) prog_86_method_1_code (3 : Nat) (Option.none : Option Jvm.ClassFile.FieldType)).before args0 about1 = true := code_word (m := ⟨2, 0⟩) (meth := k2m0) (c := k2c0) (by decide +kernel) rfl rfl rfl (by decide +kernel)
set_option maxRecDepth 65536 in
theorem w_c2 : (Jvm.Cond.code ({ cls := "java/lang/Object", name := "<init>", desc := "()V" } : Jvm.MethodName) object_method_1_code (1 : Nat) (Option.none : Option Jvm.ClassFile.FieldType)).before args0 about1 = true := code_word (m := ⟨0, 0⟩) (meth := k0m0) (c := k0c0) (by decide +kernel) rfl rfl rfl (by decide +kernel)
set_option maxRecDepth 65536 in
theorem w_c3 : (Jvm.Cond.code ({ cls := "com/example/coterie/coterie/runtime/KnownRequests", name := "learn", desc := "([J)V" } : Jvm.MethodName) prog_86_method_4_code (4 : Nat) (Option.none : Option Jvm.ClassFile.FieldType)).before args0 about1 = true := code_word (m := ⟨2, 3⟩) (meth := k2m3) (c := k2c3) (by decide +kernel) rfl rfl rfl (by decide +kernel)
set_option maxRecDepth 65536 in
theorem w_c4 : (Jvm.Cond.code ({ cls := "com/example/coterie/coterie/runtime/KnownRequests", name := "rise", desc := "(IJ)V" } : Jvm.MethodName) prog_86_method_6_code (4 : Nat) (Option.none : Option Jvm.ClassFile.FieldType)).before args0 about1 = true := code_word (m := ⟨2, 5⟩) (meth := k2m5) (c := k2c5) (by decide +kernel) rfl rfl rfl (by decide +kernel)
set_option maxRecDepth 65536 in
theorem w_c5 : (Jvm.Cond.code ({ cls := "com/example/coterie/coterie/runtime/KnownRequests", name := "news", desc := "(I)[J" } : Jvm.MethodName) prog_86_method_3_code (6 : Nat) (Option.some (Jvm.ClassFile.FieldType.array Jvm.ClassFile.FieldType.long))).before args0 about1 = true := code_word (m := ⟨2, 2⟩) (meth := k2m2) (c := k2c2) (by decide +kernel) rfl rfl rfl (by decide +kernel)
set_option maxRecDepth 65536 in
theorem w_c6 : (Jvm.Cond.code ({ cls := "com/example/coterie/coterie/runtime/KnownRequests", name := "untold", desc := "(II)Z" } : Jvm.MethodName) prog_86_method_5_code (3 : Nat) (Option.some Jvm.ClassFile.FieldType.boolean)).before args0 about1 = true := code_word (m := ⟨2, 4⟩) (meth := k2m4) (c := k2c4) (by decide +kernel) rfl rfl rfl (by decide +kernel)
set_option maxRecDepth 65536 in
theorem w_c7 : (Jvm.Cond.code ({ cls := "com/example/coterie/coterie/runtime/KnownRequestsLearnPinLaw", name := "phase1", desc := "(IIZIJ)J" } : Jvm.MethodName) method_3_code (6 : Nat) (Option.some Jvm.ClassFile.FieldType.long)).before args0 about1 = true := code_word (m := ⟨1, 2⟩) (meth := k1m2) (c := k1c2) (by decide +kernel) rfl rfl rfl (by decide +kernel)
set_option maxRecDepth 65536 in
theorem w_c8 : (Jvm.Cond.code ({ cls := "java/lang/Math", name := "max", desc := "(JJ)J" } : Jvm.MethodName) jdk_29_method_66_code (4 : Nat) (Option.some Jvm.ClassFile.FieldType.long)).before args0 about1 = true := code_word (m := ⟨3, 1⟩) (meth := k3m1) (c := k3c1) (by decide +kernel) rfl rfl rfl (by decide +kernel)
set_option maxRecDepth 65536 in
theorem w_c9 : (Jvm.Cond.code ({ cls := "com/example/coterie/coterie/runtime/KnownRequestsLearnPinLaw", name := "rose1", desc := "(IIZIJ)Z" } : Jvm.MethodName) method_4_code (6 : Nat) (Option.some Jvm.ClassFile.FieldType.boolean)).before args0 about1 = true := code_word (m := ⟨1, 3⟩) (meth := k1m3) (c := k1c3) (by decide +kernel) rfl rfl rfl (by decide +kernel)
set_option maxRecDepth 65536 in
theorem w_c10 : (Jvm.Cond.code ({ cls := "com/example/coterie/coterie/runtime/KnownRequestsLearnPinLaw", name := "check", desc := "([JIZJZJZJ)Z" } : Jvm.MethodName) method_7_code (13 : Nat) (Option.some Jvm.ClassFile.FieldType.boolean)).before args0 about1 = true := code_word (m := ⟨1, 6⟩) (meth := k1m6) (c := k1c6) (by decide +kernel) rfl rfl rfl (by decide +kernel)
set_option maxRecDepth 65536 in
theorem w_c11 : (Jvm.Cond.code ({ cls := "com/example/coterie/coterie/runtime/KnownRequestsLearnPinLaw", name := "has2", desc := "(IIIZZ)Z" } : Jvm.MethodName) method_5_code (5 : Nat) (Option.some Jvm.ClassFile.FieldType.boolean)).before args0 about1 = true := code_word (m := ⟨1, 4⟩) (meth := k1m4) (c := k1c4) (by decide +kernel) rfl rfl rfl (by decide +kernel)
set_option maxRecDepth 65536 in
theorem w_c12 : (Jvm.Cond.code ({ cls := "com/example/coterie/coterie/runtime/KnownRequestsLearnPinLaw", name := "told2", desc := "(IIJJ)J" } : Jvm.MethodName) method_6_code (6 : Nat) (Option.some Jvm.ClassFile.FieldType.long)).before args0 about1 = true := code_word (m := ⟨1, 5⟩) (meth := k1m5) (c := k1c5) (by decide +kernel) rfl rfl rfl (by decide +kernel)
set_option maxRecDepth 65536 in
theorem w_c13 : (Jvm.Cond.code ({ cls := "com/example/coterie/coterie/runtime/KnownRequests", name := "request", desc := "()Lcom/example/coterie/coterie/message/VectorStamp;" } : Jvm.MethodName) prog_86_method_2_code (1 : Nat) (Option.some (Jvm.ClassFile.FieldType.object "com/example/coterie/coterie/message/VectorStamp"))).before args0 about1 = true := code_word (m := ⟨2, 1⟩) (meth := k2m1) (c := k2c1) (by decide +kernel) rfl rfl rfl (by decide +kernel)
set_option maxRecDepth 65536 in
theorem w_c14 : (Jvm.Cond.code ({ cls := "com/example/coterie/coterie/message/VectorStamp", name := "<init>", desc := "(I[J)V" } : Jvm.MethodName) prog_65_method_1_code (3 : Nat) (Option.none : Option Jvm.ClassFile.FieldType)).before args0 about1 = true := code_word (m := ⟨4, 0⟩) (meth := k4m0) (c := k4c0) (by decide +kernel) rfl rfl rfl (by decide +kernel)
def codes1 : List Jvm.Cond := [Jvm.Cond.code x code maxLocals ret, Jvm.Cond.code ({ cls := "com/example/coterie/coterie/runtime/KnownRequests", name := "<init>", desc := "(II)V" } : Jvm.MethodName) prog_86_method_1_code (3 : Nat) (Option.none : Option Jvm.ClassFile.FieldType), Jvm.Cond.code ({ cls := "java/lang/Object", name := "<init>", desc := "()V" } : Jvm.MethodName) object_method_1_code (1 : Nat) (Option.none : Option Jvm.ClassFile.FieldType), Jvm.Cond.code ({ cls := "com/example/coterie/coterie/runtime/KnownRequests", name := "learn", desc := "([J)V" } : Jvm.MethodName) prog_86_method_4_code (4 : Nat) (Option.none : Option Jvm.ClassFile.FieldType), Jvm.Cond.code ({ cls := "com/example/coterie/coterie/runtime/KnownRequests", name := "rise", desc := "(IJ)V" } : Jvm.MethodName) prog_86_method_6_code (4 : Nat) (Option.none : Option Jvm.ClassFile.FieldType), Jvm.Cond.code ({ cls := "com/example/coterie/coterie/runtime/KnownRequests", name := "news", desc := "(I)[J" } : Jvm.MethodName) prog_86_method_3_code (6 : Nat) (Option.some (Jvm.ClassFile.FieldType.array Jvm.ClassFile.FieldType.long)), Jvm.Cond.code ({ cls := "com/example/coterie/coterie/runtime/KnownRequests", name := "untold", desc := "(II)Z" } : Jvm.MethodName) prog_86_method_5_code (3 : Nat) (Option.some Jvm.ClassFile.FieldType.boolean), Jvm.Cond.code ({ cls := "com/example/coterie/coterie/runtime/KnownRequestsLearnPinLaw", name := "phase1", desc := "(IIZIJ)J" } : Jvm.MethodName) method_3_code (6 : Nat) (Option.some Jvm.ClassFile.FieldType.long), Jvm.Cond.code ({ cls := "java/lang/Math", name := "max", desc := "(JJ)J" } : Jvm.MethodName) jdk_29_method_66_code (4 : Nat) (Option.some Jvm.ClassFile.FieldType.long), Jvm.Cond.code ({ cls := "com/example/coterie/coterie/runtime/KnownRequestsLearnPinLaw", name := "rose1", desc := "(IIZIJ)Z" } : Jvm.MethodName) method_4_code (6 : Nat) (Option.some Jvm.ClassFile.FieldType.boolean), Jvm.Cond.code ({ cls := "com/example/coterie/coterie/runtime/KnownRequestsLearnPinLaw", name := "check", desc := "([JIZJZJZJ)Z" } : Jvm.MethodName) method_7_code (13 : Nat) (Option.some Jvm.ClassFile.FieldType.boolean), Jvm.Cond.code ({ cls := "com/example/coterie/coterie/runtime/KnownRequestsLearnPinLaw", name := "has2", desc := "(IIIZZ)Z" } : Jvm.MethodName) method_5_code (5 : Nat) (Option.some Jvm.ClassFile.FieldType.boolean), Jvm.Cond.code ({ cls := "com/example/coterie/coterie/runtime/KnownRequestsLearnPinLaw", name := "told2", desc := "(IIJJ)J" } : Jvm.MethodName) method_6_code (6 : Nat) (Option.some Jvm.ClassFile.FieldType.long), Jvm.Cond.code ({ cls := "com/example/coterie/coterie/runtime/KnownRequests", name := "request", desc := "()Lcom/example/coterie/coterie/message/VectorStamp;" } : Jvm.MethodName) prog_86_method_2_code (1 : Nat) (Option.some (Jvm.ClassFile.FieldType.object "com/example/coterie/coterie/message/VectorStamp")), Jvm.Cond.code ({ cls := "com/example/coterie/coterie/message/VectorStamp", name := "<init>", desc := "(I[J)V" } : Jvm.MethodName) prog_65_method_1_code (3 : Nat) (Option.none : Option Jvm.ClassFile.FieldType)]
set_option maxRecDepth 65536 in
theorem codes_eq : words1.filter isCode = codes1 := rfl
theorem w_codes : ∀ c ∈ words1.filter isCode, c.before args0 about1 = true := by
  rw [codes_eq]
  intro c hc
  simp only [codes1, List.mem_cons, List.not_mem_nil, or_false] at hc
  rcases hc with rfl | rfl | rfl | rfl | rfl | rfl | rfl | rfl | rfl | rfl | rfl | rfl | rfl | rfl | rfl
  · exact w_c0
  · exact w_c1
  · exact w_c2
  · exact w_c3
  · exact w_c4
  · exact w_c5
  · exact w_c6
  · exact w_c7
  · exact w_c8
  · exact w_c9
  · exact w_c10
  · exact w_c11
  · exact w_c12
  · exact w_c13
  · exact w_c14
set_option maxRecDepth 65536 in
theorem w_t1 : (words1.take 24).all (fun c => isCode c || c.before args0 about1) = true := by decide +kernel
set_option maxRecDepth 65536 in
theorem w_t2 : ((words1.drop 24).take 24).all (fun c => isCode c || c.before args0 about1) = true := by decide +kernel
set_option maxRecDepth 65536 in
theorem w_t3 : (((words1.drop 24).drop 24).take 24).all (fun c => isCode c || c.before args0 about1) = true := by decide +kernel
set_option maxRecDepth 65536 in
theorem w_t4 : (((words1.drop 24).drop 24).drop 24).all (fun c => isCode c || c.before args0 about1) = true := by decide +kernel
theorem w_tables : (allAtoms (Jvm.Cond.code x code maxLocals ret :: tables_1)).before args0 about1 = true := by
  rw [allAtoms_all]
  show words1.all (fun c => c.before args0 about1) = true
  refine all_split ?_ w_codes
  rw [← List.take_append_drop 24 words1, List.all_append, w_t1, ← List.take_append_drop 24 (words1.drop 24), List.all_append, w_t2, ← List.take_append_drop 24 ((words1.drop 24).drop 24), List.all_append, w_t3, w_t4]
  rfl
set_option maxRecDepth 65536 in
theorem w_case : (Jvm.Cond.and given_1 narrow_1).before args0 about1 = true := by decide +kernel
theorem w_applies : (headSpec (Jvm.Cond.code x code maxLocals ret :: tables_1) room_1).applies x e0.platform about1 = true :=
  (Spec.applies_iff w_frames).mpr ⟨w_running, w_runnable, w_alone, w_named, w_hears, w_ripe, w_room, w_tables⟩
theorem atStart : AtStart classFile x code maxLocals ret World_1 tables_1 room_1 Calls_1 rest_1 Pre_1 launch0 p0 e0 about1 theMethod args0 below0 :=
  ⟨lists_1, trivial, launch0.admits_env _ _ _, launch0.least_env, fairChoices_fair.cas, fairChoices_fair.clock, w_frames, w_args, w_heap, w_applies, trivial, trivial, w_case⟩
end start1
theorem witness_1 : WitnessClaimed_1 := ⟨start1.p0, start1.e0, start1.about1, start1.theMethod, start1.args0, start1.below0, start1.atStart⟩
end Jvm.Pilot.@@N@@
