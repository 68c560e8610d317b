import JvmDerived
import JvmDerived.Pilot.@@N@@Statement
import JvmDerived.Pilot.@@N@@Code
set_option linter.unusedVariables false
set_option linter.unusedSimpArgs false
namespace Jvm.Pilot.@@N@@
open Jvm Jvm.ClassFile Sem Op Lib Jvm.Free Jvm.Stand Jvm.LawKit Jvm.RoadKit Bundle Jvm.Pilot.@@N@@.Jvm.D
/-! ## own layer: walks in goal-directed form -/
section Layer
variable {p : Program} {l : Launch} {e : Env} {R : Room} {s : State} {m : MethodId} {args : Array Value} {below : List Frame} {meth : Method} {c : Code} {T : State} {locs : List Loc} {cells slots : Nat} {Z : State} {a0 : Array Value} {h h' : Heap} {a b : Addr} {ty : FieldType} {xs ys : List Int32} {ls : List Int64}
/-- from S the run comes to the invocation's end, with what Q says of the value, the heap and the written places -/
def Go (p : Program) (e : Env) (below : List Frame) (s : State) (rm : Room) (Q : Option Value → Heap → List Loc → Prop) (S : State) : Prop :=
  ∃ t o, Steps p.tables e below S t ∧ t.status = .running ∧ Ended t below o ∧ ∃ v L, o = .returned v ∧ Q v t.heap L ∧ FrameEnd s o t L rm.cells rm.slots
theorem Go.st {rm : Room} {Q : Option Value → Heap → List Loc → Prop} {S S' : State} (k : ∀ t, Steps p.tables e below S' t → Steps p.tables e below S t) (g : Go p e below s rm Q S') : Go p e below s rm Q S := by
  obtain ⟨t, o, h, r⟩ := g; exact ⟨t, o, k t h, r⟩
theorem Go.ret {rm : Room} {Q : Option Value → Heap → List Loc → Prop} {S : State} {v : Option Value} (X : Stand p l e rm s m args below meth c T locs cells slots) (hv : meth.sig.returnType = none → v = none) (hlk : meth.locks = false) (hc : cells ≤ rm.cells) (hs : slots ≤ rm.slots) (hQ : Q v T.heap locs)
    (st : ∀ fs, (∀ (f : JFrame) (acts : List Action), f.method = m → f.locked = none → f.entered = [] → (doReturn e (T.setTop f) acts v).1 = T.setFrames fs) → Steps p.tables e below S (T.setFrames fs)) : Go p e below s rm Q S := by
  obtain ⟨fs, hr, hrun, hended, hW, hsame⟩ := X.leave (v := v) hv hlk
  exact ⟨_, _, st fs hr, hrun, hended, v, locs, rfl, hQ, ⟨v, rfl⟩, hW, hsame.mono hc hs⟩
theorem Go.retI {rm : Room} {Q : Option Value → Heap → List Loc → Prop} (X : Stand p l e rm s m args below meth c T locs cells slots) (hx : p.tables.exec = Jvm.exec) (hret : meth.sig.returnType = some .int) (hlk : meth.locks = false) {pc : Nat} {Ls : Array Slot} {z : Int32} {rest : List Value} (hd : decode c.code pc = .ok (.ireturn, 1)) (hc : cells ≤ rm.cells) (hs : slots ≤ rm.slots)
    (hQ : Q (some (.int z)) T.heap locs) : Go p e below s rm Q (T.setTop (mkF m pc Ls (.int z :: rest))) := by
  refine Go.ret X (v := some (.int z)) (fun q => by rw [hret] at q; cases q) hlk hc hs hQ fun fs hr => ?_
  have hm' : T.vm.method? m = some meth := X.method'
  have hn : narrow .int (.int z) = .int z := rfl
  show Steps p.tables e below (T.setTop { method := m, pc := pc, locals := Ls, stack := _ :: rest, locked := none }) _
  jvm_step X.here [X.here.top, hx, hd, hm', hret, hn]
  first | (intro acts; rw [hr _ acts rfl rfl rfl]) | rw [hr _ _ rfl rfl rfl]
  exact Steps.refl _
theorem Go.retN {rm : Room} {Q : Option Value → Heap → List Loc → Prop} {t : FieldType} (X : Stand p l e rm s m args below meth c T locs cells slots) (hx : p.tables.exec = Jvm.exec) (hret : meth.sig.returnType = some t) (ht : t = .boolean ∨ t = .byte ∨ t = .char ∨ t = .short) (hlk : meth.locks = false) {pc : Nat} {Ls : Array Slot} {z : Int32} {rest : List Value} (hd : decode c.code pc = .ok (.ireturn, 1)) (hc : cells ≤ rm.cells) (hs : slots ≤ rm.slots)
    (hQ : Q (some (.int (nar t z))) T.heap locs) : Go p e below s rm Q (T.setTop (mkF m pc Ls (.int z :: rest))) :=
  Go.ret X (v := some (.int (nar t z))) (fun q => by rw [hret] at q; cases q) hlk hc hs hQ fun fs hr => Jvm.RoadKit.retN X hx hret ht hd hr
theorem Go.retV {rm : Room} {Q : Option Value → Heap → List Loc → Prop} (X : Stand p l e rm s m args below meth c T locs cells slots) (hx : p.tables.exec = Jvm.exec) (hret : meth.sig.returnType = none) (hlk : meth.locks = false) {pc : Nat} {Ls : Array Slot} (hd : decode c.code pc = .ok (.return_, 1)) (hc : cells ≤ rm.cells) (hs : slots ≤ rm.slots)
    (hQ : Q none T.heap locs) : Go p e below s rm Q (T.setTop (mkF m pc Ls [])) :=
  Go.ret X (v := none) (fun _ => rfl) hlk hc hs hQ fun fs hr => X.returnOut hx hret hd hr
theorem Go.retJ {rm : Room} {Q : Option Value → Heap → List Loc → Prop} (X : Stand p l e rm s m args below meth c T locs cells slots) (hx : p.tables.exec = Jvm.exec) (hret : meth.sig.returnType = some .long) (hlk : meth.locks = false) {pc : Nat} {Ls : Array Slot} {z : Int64} {rest : List Value} (hd : decode c.code pc = .ok (.lreturn, 1)) (hc : cells ≤ rm.cells) (hs : slots ≤ rm.slots)
    (hQ : Q (some (.long z)) T.heap locs) : Go p e below s rm Q (T.setTop (mkF m pc Ls (.long z :: rest))) := by
  refine Go.ret X (v := some (.long z)) (fun q => by rw [hret] at q; cases q) hlk hc hs hQ fun fs hr => ?_
  have hm' : T.vm.method? m = some meth := X.method'
  show Steps p.tables e below (T.setTop { method := m, pc := pc, locals := Ls, stack := _ :: rest, locked := none }) _
  jvm_step X.here [X.here.top, hx, hd, hm', hret, narrow]
  first | (intro acts; rw [hr _ acts rfl rfl rfl]) | rw [hr _ _ rfl rfl rfl]
  exact Steps.refl _
theorem Go.retR {rm : Room} {Q : Option Value → Heap → List Loc → Prop} {t : FieldType} (X : Stand p l e rm s m args below meth c T locs cells slots) (hx : p.tables.exec = Jvm.exec) (hret : meth.sig.returnType = some t) (ht : t.isReference = true) (hlk : meth.locks = false) {pc : Nat} {Ls : Array Slot} {z : Addr} (hd : decode c.code pc = .ok (.areturn, 1)) (hc : cells ≤ rm.cells) (hs : slots ≤ rm.slots)
    (hQ : Q (some (.ref z)) T.heap locs) : Go p e below s rm Q (T.setTop (mkF m pc Ls [.ref z])) := by
  refine Go.ret X (v := some (.ref z)) (fun q => by rw [hret] at q; cases q) hlk hc hs hQ fun fs hr => ?_
  exact X.areturnOut hx rfl hret ht hd hr
/-- the contract of a body: called with these arguments over the heap h0 it comes back, and Q -/
abbrev Con (l : Launch) (Z : State) (y : MethodName) (bytes : ByteArray) (maxL : Nat) (ret : Option FieldType) (ws : List Jvm.Cond) (rm : Room) (as : Array Value) (h0 : Heap) (Q : Option Value → Heap → List Loc → Prop) : Prop :=
  MetFree l y (head1 (Jvm.Cond.code y bytes maxL ret :: ws) rm) (fun a U => a = as ∧ Z.Warmed39 U.vm ∧ U.heap = h0) (fun _ _ _ _ _ => True) (fun _ U o U' => ∃ v L, o = .returned v ∧ Q v U'.heap L ∧ FrameEnd U o U' L rm.cells rm.slots)
theorem Con.mk {y : MethodName} {bytes : ByteArray} {maxL : Nat} {ret : Option FieldType} {ws : List Jvm.Cond} {rm : Room} {as : Array Value} {h0 : Heap} {Q : Option Value → Heap → List Loc → Prop} (hp : plainFor y = true)
    (body : ∀ (p : Program) (e : Env) (s : State) (m : MethodId) (below : List Frame) (meth : Method) (c : Code) (T : State), p.tables.exec = Jvm.exec → c.code = bytes → c.maxLocals = maxL → s.vm.findClass y.cls = some m.cls → meth.name = y.name → meth.sig.returnType = ret → meth.locks = false → Z.Warmed39 s.vm →
      Stand p l e rm s m as below meth c T [] 0 0 → T.heap = h0 → Go p e below s rm Q (T.setTop (entryFrame m as maxL))) : Con l Z y bytes maxL ret ws rm as h0 Q := by
  refine MetFree.of_bodySF hp hisR ?_
  intro p e s m args below meth c s₁ Bd hml0 hP hK
  obtain ⟨rfl, hZ, hh⟩ := hP
  exact body p e s m below meth c s₁ Bd.exec Bd.bytes hml0 (findClass_of_methodNamed Bd.named) (name_of_methodNamed Bd.named Bd.method).1 Bd.returns Bd.notSynchronized hZ (Stand.of_body Bd) (by rw [← hh, Bd.state]; rfl)
theorem Go.cast {rm : Room} {Q : Option Value → Heap → List Loc → Prop} {f f' : JFrame} (q : f = f') (g : Go p e below s rm Q (T.setTop f')) : Go p e below s rm Q (T.setTop f) := q ▸ g
/-! calls -/
theorem callSt (X : Stand p l e R s m args below meth c T locs cells slots) (hx : p.tables.exec = Jvm.exec) (hZ : Z.Warmed39 s.vm) {own : String} {index : Nat} {y : MethodName} {bytes : ByteArray} {maxL : Nat} {ret : Option FieldType} {rm : Room} {W : Nat} {Q : Option Value → Heap → List Loc → Prop} {argsL rest : List Value}
    (hown : s.vm.findClass own = some m.cls) (w1 : (Jvm.Cond.methodLink own index y).before a0 Z = true) (w2 : (Jvm.Cond.static y).before a0 Z = true) (w3 : (Jvm.Cond.initialized y.cls).before a0 Z = true) (w4 : (Jvm.Cond.code y bytes maxL ret).before a0 Z = true) (hy : y.cls ≠ "java/lang/invoke/MethodHandle" ∧ y.cls ≠ "java/lang/invoke/VarHandle")
    (eT : T.heap = h) (hM : Con l Z y bytes maxL ret [] rm argsL.toArray h Q) (hf : rm.frames + 1 ≤ R.frames) (hl : W + (maxL + 11) + rm.locals ≤ R.locals) {sig : MethodDescriptor} (hpd : parseMethodDescriptor y.desc = some sig) (hlen : argsL.length = sig.parameters.length)
    {g : JFrame} (hg : g.method = m) (hsize : g.locals.size = c.maxLocals) (hstack : g.stack = argsL.reverse ++ rest) (hW : 2 * g.monitorRoom + (rest.map fun v => v.category).sum ≤ W) (hdg : decode c.code g.pc = .ok (.invokestatic index, 3)) (hc : cells + rm.cells ≤ R.cells) (hs : slots + rm.slots ≤ R.slots) :
    ∃ (v : Option Value) (T' : State) (h' : Heap) (L : List Loc), Stand p l e R s m args below meth c T' (locs ++ L) (cells + rm.cells) (slots + rm.slots) ∧ T'.heap = h' ∧ Q v h' L ∧ ∀ t, Steps p.tables e below (T'.setTop { g with pc := g.pc + 3, stack := v.toList ++ rest }) t → Steps p.tables e below (T.setTop g) t := by
  obtain ⟨v, _, ⟨T1, L1, k1, n1⟩, -, X1, ⟨Lc, hQ, l1, y1, z1⟩, st⟩ := Jvm.LawKit.callS X hx (y := y) hown (mvT hZ w1) (mvT hZ w2) (mvT hZ w3) (mvT hZ w4) hy (backOf (W := W) (Z := Z) (a0 := a0) (h := h) hM hZ w4 w3 hf hl) (g := g) hg hsize (argsL := argsL) (rest := rest) (fun sg q => by rw [hpd] at q; cases q; exact hlen) hstack hW hdg (fun _ _ => ⟨rfl, eT, hc, hs⟩)
  dsimp only [Pt.U, Pt.locs, Pt.cells, Pt.slots] at X1 l1 y1 z1 st hQ
  subst l1 y1 z1
  exact ⟨v, T1, T1.heap, Lc, X1, rfl, hQ, st⟩
theorem callIn (X : Stand p l e R s m args below meth c T locs cells slots) (hx : p.tables.exec = Jvm.exec) (hZ : Z.Warmed39 s.vm) {own : String} {index : Nat} {y : MethodName} {bytes : ByteArray} {maxL : Nat} {rm : Room} {W : Nat} {Q : Option Value → Heap → List Loc → Prop} {argsL rest : List Value} (hi : y.name = "<init>")
    (hown : s.vm.findClass own = some m.cls) (w1 : (Jvm.Cond.methodLink own index y).before a0 Z = true) (w2 : (Jvm.Cond.instanceMethod y).before a0 Z = true) (w3 : (Jvm.Cond.initialized y.cls).before a0 Z = true) (w4 : (Jvm.Cond.code y bytes maxL none).before a0 Z = true) (hy : y.cls ≠ "java/lang/invoke/MethodHandle" ∧ y.cls ≠ "java/lang/invoke/VarHandle")
    (eT : T.heap = h) (hM : Con l Z y bytes maxL none [] rm (.ref a :: argsL).toArray h Q) (hf : rm.frames + 1 ≤ R.frames) (hl : W + (maxL + 11) + rm.locals ≤ R.locals) {sig : MethodDescriptor} (hpd : parseMethodDescriptor y.desc = some sig) (hlen : argsL.length = sig.parameters.length)
    {g : JFrame} (hg : g.method = m) (hsize : g.locals.size = c.maxLocals) (hstack : g.stack = argsL.reverse ++ .ref a :: rest) (hW : 2 * g.monitorRoom + (rest.map fun v => v.category).sum ≤ W) (hdg : decode c.code g.pc = .ok (.invokespecial index, 3)) (hc : cells + rm.cells ≤ R.cells) (hs : slots + rm.slots ≤ R.slots) :
    ∃ (v : Option Value) (T' : State) (h' : Heap) (L : List Loc), Stand p l e R s m args below meth c T' (locs ++ L) (cells + rm.cells) (slots + rm.slots) ∧ T'.heap = h' ∧ Q v h' L ∧ ∀ t, Steps p.tables e below (T'.setTop { g with pc := g.pc + 3, stack := v.toList ++ rest }) t → Steps p.tables e below (T.setTop g) t := by
  obtain ⟨v, _, ⟨T1, L1, k1, n1⟩, -, X1, ⟨Lc, hQ, l1, y1, z1⟩, st⟩ := X.specialBack hx (y := y) hi hown (mvT hZ w1) (mvT hZ w2) (mvT hZ w4) hy (backOf (W := W) (Z := Z) (a0 := a0) (h := h) hM hZ w4 w3 hf hl) (g := g) hg hsize (Steps.refl _) (a := a) (argsL := argsL) (rest := rest) (fun sg q => by rw [hpd] at q; cases q; exact hlen) hstack hW hdg (fun _ _ => ⟨rfl, eT, hc, hs⟩)
  dsimp only [Pt.U, Pt.locs, Pt.cells, Pt.slots] at X1 l1 y1 z1 st hQ
  subst l1 y1 z1
  exact ⟨v, T1, T1.heap, Lc, X1, rfl, hQ, fun t k => st.trans k⟩
theorem callVi (X : Stand p l e R s m args below meth c T locs cells slots) (hx : p.tables.exec = Jvm.exec) (hZ : Z.Warmed39 s.vm) {own C : String} {index : Nat} {y : MethodName} {bytes : ByteArray} {maxL : Nat} {ret : Option FieldType} {rm : Room} {W : Nat} {Q : Option Value → Heap → List Loc → Prop} {argsL rest : List Value}
    (hown : s.vm.findClass own = some m.cls) (w1 : (Jvm.Cond.methodLink own index y).before a0 Z = true) (wd : (Jvm.Cond.declares y).before a0 Z = true) (ws : (Jvm.Cond.selects C y y).before a0 Z = true) (w2 : (Jvm.Cond.instanceMethod y).before a0 Z = true) (w3 : (Jvm.Cond.initialized y.cls).before a0 Z = true) (w4 : (Jvm.Cond.code y bytes maxL ret).before a0 Z = true) (hy : y.cls ≠ "java/lang/invoke/MethodHandle" ∧ y.cls ≠ "java/lang/invoke/VarHandle")
    (eT : T.heap = h) (E : Exa Z h a C) (hM : Con l Z y bytes maxL ret [] rm (.ref a :: argsL).toArray h Q) (hf : rm.frames + 1 ≤ R.frames) (hl : W + (maxL + 11) + rm.locals ≤ R.locals) {sig : MethodDescriptor} (hpd : parseMethodDescriptor y.desc = some sig) (hlen : argsL.length = sig.parameters.length)
    {g : JFrame} (hg : g.method = m) (hsize : g.locals.size = c.maxLocals) (hstack : g.stack = argsL.reverse ++ .ref a :: rest) (hW : 2 * g.monitorRoom + (rest.map fun v => v.category).sum ≤ W) (hdg : decode c.code g.pc = .ok (.invokevirtual index, 3)) (hc : cells + rm.cells ≤ R.cells) (hs : slots + rm.slots ≤ R.slots) :
    ∃ (v : Option Value) (T' : State) (h' : Heap) (L : List Loc), Stand p l e R s m args below meth c T' (locs ++ L) (cells + rm.cells) (slots + rm.slots) ∧ T'.heap = h' ∧ Q v h' L ∧ ∀ t, Steps p.tables e below (T'.setTop { g with pc := g.pc + 3, stack := v.toList ++ rest }) t → Steps p.tables e below (T.setTop g) t := by
  obtain ⟨cB, kB, q1, q2, q3⟩ := isOf hZ eT E
  obtain ⟨v, _, ⟨T1, L1, k1, n1⟩, -, X1, ⟨Lc, hQ, l1, y1, z1⟩, st⟩ := X.virtualBack hx (y := y) (z := y) hown (mvT hZ w1) (mvT hZ wd) (notFace_of_selects (args := #[]) (mvT hZ ws)) (mvT hZ ws) (mvT hZ w2) hy (backOf (W := W) (Z := Z) (a0 := a0) (h := h) hM hZ w4 w3 hf hl) q1 q3 (g := g) hg hsize (Steps.refl _) (argsL := argsL) (rest := rest) (fun sg q => by rw [hpd] at q; cases q; exact hlen) hstack hW hdg (fun _ _ => ⟨rfl, eT, hc, hs⟩)
  dsimp only [Pt.U, Pt.locs, Pt.cells, Pt.slots] at X1 l1 y1 z1 st hQ
  subst l1 y1 z1
  exact ⟨v, T1, T1.heap, Lc, X1, rfl, hQ, fun t k => st.trans k⟩
theorem callPr (X : Stand p l e R s m args below meth c T locs cells slots) (hx : p.tables.exec = Jvm.exec) (hZ : Z.Warmed39 s.vm) {own : String} {index ni : Nat} {y : MethodName} {bytes : ByteArray} {maxL : Nat} {ret : Option FieldType} {rm : Room} {W : Nat} {Q : Option Value → Heap → List Loc → Prop} {argsL rest : List Value}
    (hown : s.vm.findClass own = some m.cls) (w1 : (Jvm.Cond.methodLink own index y).before a0 Z = true) (w2 : (Jvm.Cond.instanceMethod y).before a0 Z = true) (wi : (Jvm.Cond.instantiable y.cls ni).before a0 Z = true) (wp : (Jvm.Cond.privateMethod y).before a0 Z = true) (w3 : (Jvm.Cond.initialized y.cls).before a0 Z = true) (w4 : (Jvm.Cond.code y bytes maxL ret).before a0 Z = true) (hy : y.cls ≠ "java/lang/invoke/MethodHandle" ∧ y.cls ≠ "java/lang/invoke/VarHandle")
    (eT : T.heap = h) {C : String} (E : Exa Z h a C) (hM : Con l Z y bytes maxL ret [] rm (.ref a :: argsL).toArray h Q) (hf : rm.frames + 1 ≤ R.frames) (hl : W + (maxL + 11) + rm.locals ≤ R.locals) {sig : MethodDescriptor} (hpd : parseMethodDescriptor y.desc = some sig) (hlen : argsL.length = sig.parameters.length)
    {g : JFrame} (hg : g.method = m) (hsize : g.locals.size = c.maxLocals) (hstack : g.stack = argsL.reverse ++ .ref a :: rest) (hW : 2 * g.monitorRoom + (rest.map fun v => v.category).sum ≤ W) (hdg : decode c.code g.pc = .ok (.invokevirtual index, 3)) (hc : cells + rm.cells ≤ R.cells) (hs : slots + rm.slots ≤ R.slots) :
    ∃ (v : Option Value) (T' : State) (h' : Heap) (L : List Loc), Stand p l e R s m args below meth c T' (locs ++ L) (cells + rm.cells) (slots + rm.slots) ∧ T'.heap = h' ∧ Q v h' L ∧ ∀ t, Steps p.tables e below (T'.setTop { g with pc := g.pc + 3, stack := v.toList ++ rest }) t → Steps p.tables e below (T.setTop g) t := by
  obtain ⟨cell, q1, q2⟩ := E.cell
  have wi' : (Jvm.Cond.instantiable y.cls ni).before args s = true := mvT hZ wi
  obtain ⟨cI, kI, i1, i2, i3, i4, -⟩ := Cond.instantiable_spec wi'
  have i5 : kI.isInterface = false := by cases hq : kI.isInterface <;> simp [hq] at i4 ⊢
  have hpriv : s.PrivateAt y := Cond.privateMethod_at (mvP hZ wp (args := args))
  have hinst : (Jvm.Cond.instanceMethod y).before args s = true := mvT hZ w2
  obtain ⟨v, _, ⟨T1, L1, k1, n1⟩, -, X1, ⟨Lc, hQ, l1, y1, z1⟩, st⟩ := X.privateBack hx (y := y) hown (mvT hZ w1) hinst (selects_self_of_private i1 i2 i5 hpriv hinst hy) hpriv (mvT hZ w4) hy (backOf (W := W) (Z := Z) (a0 := a0) (h := h) hM hZ w4 w3 hf hl) (g := g) hg hsize (Steps.refl _) (a := a) (cell := cell) (by rw [eT]; exact q1) q2 (argsL := argsL) (rest := rest) (fun sg q => by rw [hpd] at q; cases q; exact hlen) hstack hW hdg (fun _ _ => ⟨rfl, eT, hc, hs⟩)
  dsimp only [Pt.U, Pt.locs, Pt.cells, Pt.slots] at X1 l1 y1 z1 st hQ
  subst l1 y1 z1
  exact ⟨v, T1, T1.heap, Lc, X1, rfl, hQ, fun t k => st.trans k⟩
/-! arrays of ints, bytes, .. by the list of what they hold -/
def Ai (Z : State) (h : Heap) (a : Addr) (ty : FieldType) (xs : List Int32) : Prop := ∃ (k : ClassId) (z : Int32), Arv Z h a k ty z (xs.map Value.int) (.int 0) ∧ z.toNatClampNeg = xs.length
theorem Ai.lt (A : Ai Z h a ty xs) : a < h.size := by obtain ⟨_, _, q, -⟩ := A; exact q.lt
theorem Ai.ext (A : Ai Z h a ty xs) (E : Ext h h') : Ai Z h' a ty xs := by obtain ⟨k, z, q, r⟩ := A; exact ⟨k, z, q.ext E, r⟩
theorem Ai.other {sl : Nat} {v : Value} (A : Ai Z h a ty xs) (W : Wr h h' b sl v) (ne : a ≠ b) : Ai Z h' a ty xs := by obtain ⟨k, z, q, r⟩ := A; exact ⟨k, z, q.other W ne, r⟩
theorem Ai.keep {ws : List Addr} (A : Ai Z h a ty xs) (K : Keep h h' ws) (nin : a ∉ ws) : Ai Z h' a ty xs := by obtain ⟨k, z, q, r⟩ := A; exact ⟨k, z, q.keep K nin, r⟩
theorem Ai.len (A : Ai Z h a ty xs) : xs.length < 2 ^ 31 := by
  obtain ⟨k, z, ⟨c, -, -, -, hz, -⟩, r⟩ := A
  rw [← r]; exact (back32 hz).2
theorem Ai.open (A : Ai Z h a ty xs) : ∃ c : Cell, Arr Z h a c ty ∧ c.slots.size = xs.length ∧ ∀ (i : Nat) (v : Int32), xs[i]? = some v → c.slots[i]? = some (.int v) := by
  obtain ⟨k, z, ⟨c, A, q1, S, q3, H, G⟩, r⟩ := A
  refine ⟨c, A, S.trans r, fun i v hv => ?_⟩
  have hi : i < xs.length := (List.getElem?_eq_some_iff.mp hv).1
  rw [H i (by rw [S, r]; exact hi)]
  simp [List.getD_eq_getElem?_getD, hv]
theorem Ai.fitsOf {i : Nat} {v : Int32} (A : Ai Z h a ty xs) (hv : xs[i]? = some v) : fits ty (.int v) = true := by
  obtain ⟨k, z, ⟨c, A, q1, S, q3, H, G⟩, r⟩ := A
  have hi : i < xs.length := (List.getElem?_eq_some_iff.mp hv).1
  have := G i (by rw [S, r]; exact hi)
  simpa [List.getD_eq_getElem?_getD, hv] using this
theorem own_in {n : Nat} {j : Int32} (hj : ¬ j < 0) (hi : j.toNatClampNeg < n) : ¬ (j < 0 ∨ n ≤ j.toNatClampNeg) := fun q => q.elim hj fun r => absurd hi (Nat.not_lt.mpr r)
theorem Ai.load (A : Ai Z h a .int xs) (X : Stand p l e R s m args below meth c T locs cells slots) (hx : p.tables.exec = Jvm.exec) (hZ : Z.Warmed39 s.vm) (eT : T.heap = h) {j v : Int32} (hj : ¬ j < 0) (hv : xs[j.toNatClampNeg]? = some v) {g : JFrame} (hg : g.method = m) {rest : List Value} (hs : g.stack = .int j :: .ref a :: rest) (hd : decode c.code g.pc = .ok (.iaload, 1)) :
    ∀ t, Steps p.tables e below (T.setTop { g with pc := g.pc + 1, stack := .int v :: rest }) t → Steps p.tables e below (T.setTop g) t := by
  obtain ⟨cl, Ar, S, H⟩ := A.open
  exact fun t k => X.iaload hx (j := j) (v := .int v) (by rw [eT]; exact Ar.1) (State.isArrayOf_alike hZ.alike Ar.2.1) Ar.2.2 (own_in hj (by rw [S]; exact (List.getElem?_eq_some_iff.mp hv).1)) (H _ _ hv) hg hs hd t k
theorem Ai.bload (A : Ai Z h a .byte xs) (X : Stand p l e R s m args below meth c T locs cells slots) (hx : p.tables.exec = Jvm.exec) (hZ : Z.Warmed39 s.vm) (eT : T.heap = h) {j v : Int32} (hj : ¬ j < 0) (hv : xs[j.toNatClampNeg]? = some v) {g : JFrame} (hg : g.method = m) {rest : List Value} (hs : g.stack = .int j :: .ref a :: rest) (hd : decode c.code g.pc = .ok (.baload, 1)) :
    ∀ t, Steps p.tables e below (T.setTop { g with pc := g.pc + 1, stack := .int v :: rest }) t → Steps p.tables e below (T.setTop g) t := by
  obtain ⟨cl, Ar, S, H⟩ := A.open
  exact fun t k => X.baloadBytes hx (j := j) (v := .int v) (by rw [eT]; exact Ar.1) (State.isArrayOf_alike hZ.alike Ar.2.1) Ar.2.2 (own_in hj (by rw [S]; exact (List.getElem?_eq_some_iff.mp hv).1)) (H _ _ hv) hg hs hd t k
theorem Ai.length (A : Ai Z h a ty xs) (X : Stand p l e R s m args below meth c T locs cells slots) (hx : p.tables.exec = Jvm.exec) (hZ : Z.Warmed39 s.vm) (eT : T.heap = h) {n : Int32} (hn : xs.length.toInt32 = n) {g : JFrame} (hg : g.method = m) {rest : List Value} (hs : g.stack = .ref a :: rest) (hd : decode c.code g.pc = .ok (.arraylength, 1)) :
    ∀ t, Steps p.tables e below (T.setTop { g with pc := g.pc + 1, stack := .int n :: rest }) t → Steps p.tables e below (T.setTop g) t := by
  obtain ⟨cl, Ar, S, H⟩ := A.open
  subst hn
  rw [← S]
  exact fun t k => X.arraylength hx (by rw [eT]; exact Ar.1) (State.isArrayOf_alike hZ.alike Ar.2.1) hg hs hd t k
theorem Ai.set {j v : Int32} (A : Ai Z h a ty xs) (hf : fits ty (.int v) = true) (W : Wr h h' a j.toNatClampNeg (.int v)) (hi : j.toNatClampNeg < xs.length) : Ai Z h' a ty (xs.set j.toNatClampNeg v) := by
  obtain ⟨k, z, ⟨c, A, q1, S, q3, H, G⟩, r⟩ := A
  refine ⟨k, z, ?_, by simpa using r⟩
  rw [List.map_set]
  exact Arv.set A q1 S q3 H G hf W j.toNatClampNeg rfl (by simpa using hi)
theorem Ai.store (A : Ai Z h a .int xs) (X : Stand p l e R s m args below meth c T locs cells slots) (hx : p.tables.exec = Jvm.exec) (hZ : Z.Warmed39 s.vm) (eT : T.heap = h) {j v : Int32} (hj : ¬ j < 0) (hi : j.toNatClampNeg < xs.length) {g : JFrame} (hg : g.method = m) {rest : List Value} (hs : g.stack = .int v :: .int j :: .ref a :: rest) (hd : decode c.code g.pc = .ok (.iastore, 1)) :
    ∃ T' h', Stand p l e R s m args below meth c T' (locs ++ [⟨a, j.toNatClampNeg⟩]) cells slots ∧ T'.heap = h' ∧ Wr h h' a j.toNatClampNeg (.int v) ∧ Ai Z h' a .int (xs.set j.toNatClampNeg v) ∧
      ∀ t, Steps p.tables e below (T'.setTop { g with pc := g.pc + 1, stack := rest }) t → Steps p.tables e below (T.setTop g) t := by
  obtain ⟨cl, Ar, S, H⟩ := A.open
  obtain ⟨T', h', X', e', W, st⟩ := stI X hx hZ eT Ar (j := j) (own_in hj (by rw [S]; exact hi)) hg hs hd
  exact ⟨T', h', X', e', W, A.set rfl W hi, st⟩
theorem Ai.bstore (A : Ai Z h a .byte xs) (X : Stand p l e R s m args below meth c T locs cells slots) (hx : p.tables.exec = Jvm.exec) (hZ : Z.Warmed39 s.vm) (eT : T.heap = h) {j v : Int32} (hj : ¬ j < 0) (hi : j.toNatClampNeg < xs.length) {g : JFrame} (hg : g.method = m) {rest : List Value} (hs : g.stack = .int v :: .int j :: .ref a :: rest) (hd : decode c.code g.pc = .ok (.bastore, 1)) :
    ∃ T' h', Stand p l e R s m args below meth c T' (locs ++ [⟨a, j.toNatClampNeg⟩]) cells slots ∧ T'.heap = h' ∧ Wr h h' a j.toNatClampNeg (.int v.toInt8.toInt32) ∧ Ai Z h' a .byte (xs.set j.toNatClampNeg v.toInt8.toInt32) ∧
      ∀ t, Steps p.tables e below (T'.setTop { g with pc := g.pc + 1, stack := rest }) t → Steps p.tables e below (T.setTop g) t := by
  obtain ⟨cl, Ar, S, H⟩ := A.open
  obtain ⟨T', h', X', e', W, st⟩ := stB X hx hZ eT Ar (j := j) (own_in hj (by rw [S]; exact hi)) hg hs hd
  exact ⟨T', h', X', e', W, A.set (fits_nar_byte v) W hi, st⟩
theorem Ai.new (X : Stand p l e R s m args below meth c T locs cells slots) (hx : p.tables.exec = Jvm.exec) (hZ : Z.Warmed39 s.vm) {aty : ArrayType} (w : (Jvm.Cond.arrayClass (newarray.typeOf aty)).before a0 Z = true) (hdef : defaultValue (newarray.typeOf aty) = .int 0) (eT : T.heap = h) {n : Int32} (hn : ¬ n < 0) (cap : Nat) (hcap : n.toNatClampNeg ≤ cap) (hb : cap * 8 ≤ 536870912) (hc : cells + 1 ≤ R.cells) (hl : slots + cap ≤ R.slots)
    {g : JFrame} (hg : g.method = m) {rest : List Value} (hs : g.stack = .int n :: rest) (hd : decode c.code g.pc = .ok (.newarray aty, 2)) :
    ∃ T' h' b, Stand p l e R s m args below meth c T' locs (cells + 1) (slots + cap) ∧ T'.heap = h' ∧ b = h.size ∧ Ext h h' ∧ Ai Z h' b (newarray.typeOf aty) (List.replicate n.toNatClampNeg 0) ∧
      ∀ t, Steps p.tables e below (T'.setTop { g with pc := g.pc + 2, stack := .ref b :: rest }) t → Steps p.tables e below (T.setTop g) t := by
  obtain ⟨T', h', k, X', e', E, A, st⟩ := newP X hx hZ w eT (g := g) hg hd hs hn hcap hb hc hl
  refine ⟨T', h', _, X', e', rfl, E, ⟨k, n, ?_, by simp⟩, st⟩
  have V := Arv.new A hn
  rw [hdef] at V
  rw [List.map_replicate]
  exact V.pad (pad_rep [] (.int 0) n.toNatClampNeg)
theorem Ai.newE (X : Stand p l e R s m args below meth c T locs cells slots) (hx : p.tables.exec = Jvm.exec) (hZ : Z.Warmed39 s.vm) {aty : ArrayType} (w : (Jvm.Cond.arrayClass (newarray.typeOf aty)).before a0 Z = true) (hdef : defaultValue (newarray.typeOf aty) = .int 0) (eT : T.heap = h) {n : Int32} (hn : ¬ n < 0) (cap : Nat) (hcap : n.toNatClampNeg ≤ cap) (hb : cap * 8 ≤ 536870912) (hc : cells + 1 ≤ R.cells) (hl : slots + cap ≤ R.slots) {ad : String} (had : "[" ++ (newarray.typeOf aty).toString = ad)
    {g : JFrame} (hg : g.method = m) {rest : List Value} (hs : g.stack = .int n :: rest) (hd : decode c.code g.pc = .ok (.newarray aty, 2)) :
    ∃ T' h' b, Stand p l e R s m args below meth c T' locs (cells + 1) (slots + cap) ∧ T'.heap = h' ∧ b = h.size ∧ Ext h h' ∧ Ai Z h' b (newarray.typeOf aty) (List.replicate n.toNatClampNeg 0) ∧ Exa Z h' b ad ∧
      ∀ t, Steps p.tables e below (T'.setTop { g with pc := g.pc + 2, stack := .ref b :: rest }) t → Steps p.tables e below (T.setTop g) t := by
  obtain ⟨T', h', k, X', e', E, A, Ex, st⟩ := newPE X hx hZ w eT (g := g) hg hd hs hn hcap hb hc hl had
  refine ⟨T', h', _, X', e', rfl, E, ⟨k, n, ?_, by simp⟩, Ex, st⟩
  have V := Arv.new A hn
  rw [hdef] at V
  rw [List.map_replicate]
  exact V.pad (pad_rep [] (.int 0) n.toNatClampNeg)
theorem Ai.copy (X : Stand p l e R s m args below meth c T locs cells slots) (hx : p.tables.exec = Jvm.exec) (hZ : Z.Warmed39 s.vm) {own : String} {index : Nat} (hown : s.vm.findClass own = some m.cls)
    (w1 : (Jvm.Cond.methodLink own index Jvm.Stand.acN).before a0 Z = true) (w2 : (Jvm.Cond.native Jvm.Stand.acN).before a0 Z = true) (w3 : (Jvm.Cond.static Jvm.Stand.acN).before a0 Z = true) (w4 : (Jvm.Cond.initialized "java/lang/System").before a0 Z = true) (eT : T.heap = h)
    {sp dp nn : Int32} (A : Ai Z h a ty xs) (B : Ai Z h b ty ys) (hty : refKind ty = false) (h1 : ¬ sp < 0) (h2 : ¬ dp < 0) (h3 : ¬ nn < 0) (h4 : sp.toNatClampNeg + nn.toNatClampNeg ≤ xs.length) (h5 : dp.toNatClampNeg + nn.toNatClampNeg ≤ ys.length) {n0 : Nat} (N : Fr n0 locs) (ge : n0 ≤ b)
    {g : JFrame} (hg : g.method = m) (hsize : g.locals.size = c.maxLocals) {rest : List Value} (hs : g.stack = .int nn :: .int dp :: .ref b :: .int sp :: .ref a :: rest) (hd : decode c.code g.pc = .ok (.invokestatic index, 3))
    (hf : 1 ≤ R.frames) {W : Nat} (hW : 2 * g.monitorRoom + (rest.map fun v => v.category).sum ≤ W) (hlo : W + (nativeFrameWords "java/lang/System" "arraycopy" 5 + 11) ≤ R.locals) :
    ∃ T' h' L, Stand p l e R s m args below meth c T' L cells slots ∧ T'.heap = h' ∧ Fr n0 L ∧ Keep h h' [b] ∧ Ai Z h' b ty (ys.take dp.toNatClampNeg ++ (xs.drop sp.toNatClampNeg).take nn.toNatClampNeg ++ ys.drop (dp.toNatClampNeg + nn.toNatClampNeg)) ∧
      ∀ t, Steps p.tables e below (T'.setTop { g with pc := g.pc + 3, stack := rest }) t → Steps p.tables e below (T.setTop g) t := by
  obtain ⟨k, z, A, r⟩ := A
  obtain ⟨k', z', B, r'⟩ := B
  obtain ⟨T', h', L, X', e', N', K, V, st⟩ := cpA X hx hZ hown w1 w2 w3 w4 eT A B (Or.inl ⟨rfl, hty⟩) h1 h2 h3 (by rw [r]; exact h4) (by rw [r']; exact h5) rfl (by simpa using h5) N ge hg hsize hs hd hf hW hlo
  refine ⟨T', h', L, X', e', N', K, ⟨k', z', ?_, ?_⟩, st⟩
  · have q : (List.range nn.toNatClampNeg).map (fun i => (xs.map Value.int).getD (sp.toNatClampNeg + i) (.int 0)) = ((xs.drop sp.toNatClampNeg).take nn.toNatClampNeg).map Value.int := by
      apply List.ext_getElem?
      intro i
      by_cases hi : i < nn.toNatClampNeg
      · have h6 : sp.toNatClampNeg + i < xs.length := by omega
        simp [List.getElem?_take, hi, h6, List.getD_eq_getElem?_getD]
      · simp [List.getElem?_take, hi]
    rw [q] at V
    simpa [List.map_append, List.map_take, List.map_drop] using V
  · rw [r']; simp; omega
/-! arrays of longs -/
def Al (Z : State) (h : Heap) (a : Addr) (ls : List Int64) : Prop := ∃ (k : ClassId) (z : Int32), Arv Z h a k .long z (ls.map Value.long) (.long 0) ∧ z.toNatClampNeg = ls.length
theorem Al.lt (A : Al Z h a ls) : a < h.size := by obtain ⟨_, _, q, -⟩ := A; exact q.lt
theorem Al.ext (A : Al Z h a ls) (E : Ext h h') : Al Z h' a ls := by obtain ⟨k, z, q, r⟩ := A; exact ⟨k, z, q.ext E, r⟩
theorem Al.other {sl : Nat} {v : Value} (A : Al Z h a ls) (W : Wr h h' b sl v) (ne : a ≠ b) : Al Z h' a ls := by obtain ⟨k, z, q, r⟩ := A; exact ⟨k, z, q.other W ne, r⟩
theorem Al.keep {ws : List Addr} (A : Al Z h a ls) (K : Keep h h' ws) (nin : a ∉ ws) : Al Z h' a ls := by obtain ⟨k, z, q, r⟩ := A; exact ⟨k, z, q.keep K nin, r⟩
theorem Al.len (A : Al Z h a ls) : ls.length < 2 ^ 31 := by
  obtain ⟨k, z, ⟨c, -, -, -, hz, -⟩, r⟩ := A
  rw [← r]; exact (back32 hz).2
theorem Al.open (A : Al Z h a ls) : ∃ c : Cell, Arr Z h a c .long ∧ c.slots.size = ls.length ∧ ∀ (i : Nat) (v : Int64), ls[i]? = some v → c.slots[i]? = some (.long v) := by
  obtain ⟨k, z, ⟨c, A, q1, S, q3, H, G⟩, r⟩ := A
  refine ⟨c, A, S.trans r, fun i v hv => ?_⟩
  have hi : i < ls.length := (List.getElem?_eq_some_iff.mp hv).1
  rw [H i (by rw [S, r]; exact hi)]
  simp [List.getD_eq_getElem?_getD, hv]
theorem Al.load (A : Al Z h a ls) (X : Stand p l e R s m args below meth c T locs cells slots) (hx : p.tables.exec = Jvm.exec) (hZ : Z.Warmed39 s.vm) (eT : T.heap = h) {j : Int32} {v : Int64} (hj : ¬ j < 0) (hv : ls[j.toNatClampNeg]? = some v) {g : JFrame} (hg : g.method = m) {rest : List Value} (hs : g.stack = .int j :: .ref a :: rest) (hd : decode c.code g.pc = .ok (.laload, 1)) :
    ∀ t, Steps p.tables e below (T.setTop { g with pc := g.pc + 1, stack := .long v :: rest }) t → Steps p.tables e below (T.setTop g) t := by
  obtain ⟨cl, Ar, S, H⟩ := A.open
  exact fun t k => X.laload hx (j := j) (v := .long v) (by rw [eT]; exact Ar.1) (State.isArrayOf_alike hZ.alike Ar.2.1) Ar.2.2 (own_in hj (by rw [S]; exact (List.getElem?_eq_some_iff.mp hv).1)) (H _ _ hv) hg hs hd t k
theorem Al.length (A : Al Z h a ls) (X : Stand p l e R s m args below meth c T locs cells slots) (hx : p.tables.exec = Jvm.exec) (hZ : Z.Warmed39 s.vm) (eT : T.heap = h) {n : Int32} (hn : ls.length.toInt32 = n) {g : JFrame} (hg : g.method = m) {rest : List Value} (hs : g.stack = .ref a :: rest) (hd : decode c.code g.pc = .ok (.arraylength, 1)) :
    ∀ t, Steps p.tables e below (T.setTop { g with pc := g.pc + 1, stack := .int n :: rest }) t → Steps p.tables e below (T.setTop g) t := by
  obtain ⟨cl, Ar, S, H⟩ := A.open
  subst hn
  rw [← S]
  exact fun t k => X.arraylength hx (by rw [eT]; exact Ar.1) (State.isArrayOf_alike hZ.alike Ar.2.1) hg hs hd t k
theorem Al.store (A : Al Z h a ls) (X : Stand p l e R s m args below meth c T locs cells slots) (hx : p.tables.exec = Jvm.exec) (hZ : Z.Warmed39 s.vm) (eT : T.heap = h) {j : Int32} {v : Int64} (hj : ¬ j < 0) (hi : j.toNatClampNeg < ls.length) {g : JFrame} (hg : g.method = m) {rest : List Value} (hs : g.stack = .long v :: .int j :: .ref a :: rest) (hd : decode c.code g.pc = .ok (.lastore, 1)) :
    ∃ T' h', Stand p l e R s m args below meth c T' (locs ++ [⟨a, j.toNatClampNeg⟩]) cells slots ∧ T'.heap = h' ∧ Wr h h' a j.toNatClampNeg (.long v) ∧ Al Z h' a (ls.set j.toNatClampNeg v) ∧
      ∀ t, Steps p.tables e below (T'.setTop { g with pc := g.pc + 1, stack := rest }) t → Steps p.tables e below (T.setTop g) t := by
  obtain ⟨cl, Ar, S, H⟩ := A.open
  obtain ⟨T', h', X', e', W, st⟩ := stJ X hx hZ eT Ar (j := j) (own_in hj (by rw [S]; exact hi)) hg hs hd
  refine ⟨T', h', X', e', W, ?_, st⟩
  obtain ⟨k, z, ⟨c, A, q1, S, q3, H, G⟩, r⟩ := A
  refine ⟨k, z, ?_, by simpa using r⟩
  rw [List.map_set]
  exact Arv.set A q1 S q3 H G rfl W j.toNatClampNeg rfl (by simpa using hi)
theorem Al.new (X : Stand p l e R s m args below meth c T locs cells slots) (hx : p.tables.exec = Jvm.exec) (hZ : Z.Warmed39 s.vm) {aty : ArrayType} (w : (Jvm.Cond.arrayClass (newarray.typeOf aty)).before a0 Z = true) (hdef : aty = .long) (eT : T.heap = h) {n : Int32} (hn : ¬ n < 0) (cap : Nat) (hcap : n.toNatClampNeg ≤ cap) (hb : cap * 8 ≤ 536870912) (hc : cells + 1 ≤ R.cells) (hl : slots + cap ≤ R.slots)
    {g : JFrame} (hg : g.method = m) {rest : List Value} (hs : g.stack = .int n :: rest) (hd : decode c.code g.pc = .ok (.newarray aty, 2)) :
    ∃ T' h' b, Stand p l e R s m args below meth c T' locs (cells + 1) (slots + cap) ∧ T'.heap = h' ∧ b = h.size ∧ Ext h h' ∧ Al Z h' b (List.replicate n.toNatClampNeg 0) ∧
      ∀ t, Steps p.tables e below (T'.setTop { g with pc := g.pc + 2, stack := .ref b :: rest }) t → Steps p.tables e below (T.setTop g) t := by
  obtain ⟨T', h', k, X', e', E, A, st⟩ := newP X hx hZ w eT (g := g) hg hd hs hn hcap hb hc hl
  subst hdef
  refine ⟨T', h', _, X', e', rfl, E, ⟨k, n, ?_, by simp⟩, st⟩
  have V := Arv.new A hn
  rw [List.map_replicate]
  exact V.pad (pad_rep [] (.long 0) n.toNatClampNeg)
theorem own_if1 {P : Prop} [Decidable P] (h : P) : ¬ ((if P then (1 : Int32) else (0 : Int32)) = 0) := by rw [if_pos h]; decide
theorem own_if0 {P : Prop} [Decidable P] (h : ¬ P) : (if P then (1 : Int32) else (0 : Int32)) = 0 := if_neg h
theorem own_ifc {P Q : Prop} [Decidable P] [Decidable Q] (h : P ↔ Q) : (if P then (1 : Int32) else (0 : Int32)) = (if Q then (1 : Int32) else (0 : Int32)) := by
  by_cases p : P
  · rw [if_pos p, if_pos (h.mp p)]
  · rw [if_neg p, if_neg (fun q => p (h.mpr q))]
theorem own_narI {P : Prop} [Decidable P] : nar .boolean (if P then (1 : Int32) else (0 : Int32)) = (if P then (1 : Int32) else (0 : Int32)) := by
  by_cases p : P
  · rw [if_pos p]; rfl
  · rw [if_neg p]; rfl
theorem own_bb (x : Int32) : x.toInt8.toInt32.toInt8.toInt32 = x.toInt8.toInt32 := by simp
end Layer
section Numbers
theorem own_mod (x k : Int32) (hk : 0 < k.toInt) : 0 ≤ ((x &&& (2147483647 : Int32)) % k).toInt ∧ ((x &&& (2147483647 : Int32)) % k).toInt < k.toInt := by
  have h1 := c_and x 2147483647 (by decide)
  have h2 := (c_iremV (x &&& 2147483647) k).1 h1.1 hk
  exact ⟨h2.1, h2.2.1⟩
theorem own_nn {j : Int32} (h : 0 ≤ j.toInt) : ¬ j < 0 := by
  rw [Int32.lt_iff_toInt_lt, show (0 : Int32).toInt = 0 from rfl]; omega
theorem own_nat {j : Int32} {k : Nat} (h : 0 ≤ j.toInt) (h2 : j.toInt < k) : j.toNatClampNeg < k := by
  simp only [Int32.toNatClampNeg]; omega
theorem own_at {xs : List Int32} {i : Nat} (h : i < xs.length) : ∃ v, xs[i]? = some v := ⟨xs[i], List.getElem?_eq_getElem h⟩
end Numbers
theorem w0 {Z : State} {a0 : Array Value} (hw : ∀ d ∈ tables_1, d.before a0 Z = true) : (Jvm.Cond.constant "com/example/quillon/quillon/model/XmlCharsIsNameStartCharPinLaw" (8 : Nat) (2097151 : Int32)).before a0 Z = true := hw _ (List.mem_of_getElem? (i := 0) rfl)
theorem w1 {Z : State} {a0 : Array Value} (hw : ∀ d ∈ tables_1, d.before a0 Z = true) : (Jvm.Cond.methodLink "com/example/quillon/quillon/model/XmlCharsIsNameStartCharPinLaw" (9 : Nat) ({ cls := "com/example/quillon/quillon/model/XmlChars", name := "isNameStartChar", desc := "(I)Z" } : Jvm.MethodName)).before a0 Z = true := hw _ (List.mem_of_getElem? (i := 1) rfl)
theorem w2 {Z : State} {a0 : Array Value} (hw : ∀ d ∈ tables_1, d.before a0 Z = true) : (Jvm.Cond.static ({ cls := "com/example/quillon/quillon/model/XmlChars", name := "isNameStartChar", desc := "(I)Z" } : Jvm.MethodName)).before a0 Z = true := hw _ (List.mem_of_getElem? (i := 2) rfl)
theorem w3 {Z : State} {a0 : Array Value} (hw : ∀ d ∈ tables_1, d.before a0 Z = true) : (Jvm.Cond.initialized "com/example/quillon/quillon/model/XmlChars").before a0 Z = true := hw _ (List.mem_of_getElem? (i := 3) rfl)
theorem w4 {Z : State} {a0 : Array Value} (hw : ∀ d ∈ tables_1, d.before a0 Z = true) : (Jvm.Cond.code ({ cls := "com/example/quillon/quillon/model/XmlChars", name := "isNameStartChar", desc := "(I)Z" } : Jvm.MethodName) prog_59_method_3_code (1 : Nat) (Option.some Jvm.ClassFile.FieldType.boolean)).before a0 Z = true := hw _ (List.mem_of_getElem? (i := 4) rfl)
theorem w5 {Z : State} {a0 : Array Value} (hw : ∀ d ∈ tables_1, d.before a0 Z = true) : (Jvm.Cond.constant "com/example/quillon/quillon/model/XmlChars" (12 : Nat) (63744 : Int32)).before a0 Z = true := hw _ (List.mem_of_getElem? (i := 5) rfl)
theorem w6 {Z : State} {a0 : Array Value} (hw : ∀ d ∈ tables_1, d.before a0 Z = true) : (Jvm.Cond.constant "com/example/quillon/quillon/model/XmlChars" (14 : Nat) (65008 : Int32)).before a0 Z = true := hw _ (List.mem_of_getElem? (i := 6) rfl)
theorem w7 {Z : State} {a0 : Array Value} (hw : ∀ d ∈ tables_1, d.before a0 Z = true) : (Jvm.Cond.constant "com/example/quillon/quillon/model/XmlChars" (10 : Nat) (65536 : Int32)).before a0 Z = true := hw _ (List.mem_of_getElem? (i := 7) rfl)
theorem w8 {Z : State} {a0 : Array Value} (hw : ∀ d ∈ tables_1, d.before a0 Z = true) : (Jvm.Cond.methodLink "com/example/quillon/quillon/model/XmlCharsIsNameStartCharPinLaw" (15 : Nat) ({ cls := "com/example/quillon/quillon/model/XmlCharsIsNameStartCharPinLaw", name := "expected", desc := "(I)Z" } : Jvm.MethodName)).before a0 Z = true := hw _ (List.mem_of_getElem? (i := 8) rfl)
theorem w9 {Z : State} {a0 : Array Value} (hw : ∀ d ∈ tables_1, d.before a0 Z = true) : (Jvm.Cond.static ({ cls := "com/example/quillon/quillon/model/XmlCharsIsNameStartCharPinLaw", name := "expected", desc := "(I)Z" } : Jvm.MethodName)).before a0 Z = true := hw _ (List.mem_of_getElem? (i := 9) rfl)
theorem w10 {Z : State} {a0 : Array Value} (hw : ∀ d ∈ tables_1, d.before a0 Z = true) : (Jvm.Cond.initialized "com/example/quillon/quillon/model/XmlCharsIsNameStartCharPinLaw").before a0 Z = true := hw _ (List.mem_of_getElem? (i := 10) rfl)
theorem w11 {Z : State} {a0 : Array Value} (hw : ∀ d ∈ tables_1, d.before a0 Z = true) : (Jvm.Cond.code ({ cls := "com/example/quillon/quillon/model/XmlCharsIsNameStartCharPinLaw", name := "expected", desc := "(I)Z" } : Jvm.MethodName) method_4_code (1 : Nat) (Option.some Jvm.ClassFile.FieldType.boolean)).before a0 Z = true := hw _ (List.mem_of_getElem? (i := 11) rfl)
theorem w12 {Z : State} {a0 : Array Value} (hw : ∀ d ∈ tables_1, d.before a0 Z = true) : (Jvm.Cond.constant "com/example/quillon/quillon/model/XmlCharsIsNameStartCharPinLaw" (20 : Nat) (983039 : Int32)).before a0 Z = true := hw _ (List.mem_of_getElem? (i := 12) rfl)
theorem w13 {Z : State} {a0 : Array Value} (hw : ∀ d ∈ tables_1, d.before a0 Z = true) : (Jvm.Cond.methodLink "com/example/quillon/quillon/model/XmlCharsIsNameStartCharPinLaw" (21 : Nat) ({ cls := "com/example/quillon/quillon/model/XmlCharsIsNameStartCharPinLaw", name := "in", desc := "(III)Z" } : Jvm.MethodName)).before a0 Z = true := hw _ (List.mem_of_getElem? (i := 13) rfl)
theorem w14 {Z : State} {a0 : Array Value} (hw : ∀ d ∈ tables_1, d.before a0 Z = true) : (Jvm.Cond.static ({ cls := "com/example/quillon/quillon/model/XmlCharsIsNameStartCharPinLaw", name := "in", desc := "(III)Z" } : Jvm.MethodName)).before a0 Z = true := hw _ (List.mem_of_getElem? (i := 14) rfl)
theorem w15 {Z : State} {a0 : Array Value} (hw : ∀ d ∈ tables_1, d.before a0 Z = true) : (Jvm.Cond.code ({ cls := "com/example/quillon/quillon/model/XmlCharsIsNameStartCharPinLaw", name := "in", desc := "(III)Z" } : Jvm.MethodName) method_3_code (3 : Nat) (Option.some Jvm.ClassFile.FieldType.boolean)).before a0 Z = true := hw _ (List.mem_of_getElem? (i := 15) rfl)
theorem w16 {Z : State} {a0 : Array Value} (hw : ∀ d ∈ tables_1, d.before a0 Z = true) : (Jvm.Cond.constant "com/example/quillon/quillon/model/XmlCharsIsNameStartCharPinLaw" (25 : Nat) (55296 : Int32)).before a0 Z = true := hw _ (List.mem_of_getElem? (i := 16) rfl)
theorem w17 {Z : State} {a0 : Array Value} (hw : ∀ d ∈ tables_1, d.before a0 Z = true) : (Jvm.Cond.constant "com/example/quillon/quillon/model/XmlCharsIsNameStartCharPinLaw" (26 : Nat) (63743 : Int32)).before a0 Z = true := hw _ (List.mem_of_getElem? (i := 17) rfl)
theorem w18 {Z : State} {a0 : Array Value} (hw : ∀ d ∈ tables_1, d.before a0 Z = true) : (Jvm.Cond.constant "com/example/quillon/quillon/model/XmlCharsIsNameStartCharPinLaw" (27 : Nat) (64976 : Int32)).before a0 Z = true := hw _ (List.mem_of_getElem? (i := 18) rfl)
theorem w19 {Z : State} {a0 : Array Value} (hw : ∀ d ∈ tables_1, d.before a0 Z = true) : (Jvm.Cond.constant "com/example/quillon/quillon/model/XmlCharsIsNameStartCharPinLaw" (28 : Nat) (65007 : Int32)).before a0 Z = true := hw _ (List.mem_of_getElem? (i := 19) rfl)
theorem w20 {Z : State} {a0 : Array Value} (hw : ∀ d ∈ tables_1, d.before a0 Z = true) : (Jvm.Cond.constant "com/example/quillon/quillon/model/XmlCharsIsNameStartCharPinLaw" (29 : Nat) (65534 : Int32)).before a0 Z = true := hw _ (List.mem_of_getElem? (i := 20) rfl)
theorem w21 {Z : State} {a0 : Array Value} (hw : ∀ d ∈ tables_1, d.before a0 Z = true) : (Jvm.Cond.constant "com/example/quillon/quillon/model/XmlCharsIsNameStartCharPinLaw" (7 : Nat) (65535 : Int32)).before a0 Z = true := hw _ (List.mem_of_getElem? (i := 21) rfl)
theorem w22 {Z : State} {a0 : Array Value} (hw : ∀ d ∈ tables_1, d.before a0 Z = true) : (Jvm.Cond.constant "com/example/quillon/quillon/model/XmlChars" (7 : Nat) (55295 : Int32)).before a0 Z = true := hw _ (List.mem_of_getElem? (i := 22) rfl)
theorem w23 {Z : State} {a0 : Array Value} (hw : ∀ d ∈ tables_1, d.before a0 Z = true) : (Jvm.Cond.constant "com/example/quillon/quillon/model/XmlChars" (13 : Nat) (64975 : Int32)).before a0 Z = true := hw _ (List.mem_of_getElem? (i := 23) rfl)
theorem w24 {Z : State} {a0 : Array Value} (hw : ∀ d ∈ tables_1, d.before a0 Z = true) : (Jvm.Cond.constant "com/example/quillon/quillon/model/XmlChars" (9 : Nat) (65533 : Int32)).before a0 Z = true := hw _ (List.mem_of_getElem? (i := 24) rfl)
theorem w25 {Z : State} {a0 : Array Value} (hw : ∀ d ∈ tables_1, d.before a0 Z = true) : (Jvm.Cond.constant "com/example/quillon/quillon/model/XmlChars" (15 : Nat) (983039 : Int32)).before a0 Z = true := hw _ (List.mem_of_getElem? (i := 25) rfl)
theorem pd0 : parseMethodDescriptor "(III)Z" = some ⟨[.int, .int, .int], some .boolean⟩ := by decide +kernel
theorem pd1 : parseMethodDescriptor "(I)Z" = some ⟨[.int], some .boolean⟩ := by decide +kernel
theorem pn0 : plainName "com/example/quillon/quillon/model/XmlChars" = true := by first | (simp [plainName, overriddenIn]; done) | decide +kernel
theorem pn1 : plainName "com/example/quillon/quillon/model/XmlCharsIsNameStartCharPinLaw" = true := by first | (simp [plainName, overriddenIn]; done) | decide +kernel
theorem d1_0 : decode prog_59_method_3_code 0 = .ok (.iload_n 0, 1) := by decide +kernel
theorem d1_1 : decode prog_59_method_3_code 1 = .ok (.bipush 97, 2) := by decide +kernel
theorem d1_3 : decode prog_59_method_3_code 3 = .ok (.if_icmp .lt 9, 3) := by decide +kernel
theorem d1_6 : decode prog_59_method_3_code 6 = .ok (.iload_n 0, 1) := by decide +kernel
theorem d1_7 : decode prog_59_method_3_code 7 = .ok (.bipush 122, 2) := by decide +kernel
theorem d1_9 : decode prog_59_method_3_code 9 = .ok (.if_icmp .le 182, 3) := by decide +kernel
theorem d1_12 : decode prog_59_method_3_code 12 = .ok (.iload_n 0, 1) := by decide +kernel
theorem d1_13 : decode prog_59_method_3_code 13 = .ok (.bipush 65, 2) := by decide +kernel
theorem d1_15 : decode prog_59_method_3_code 15 = .ok (.if_icmp .lt 9, 3) := by decide +kernel
theorem d1_18 : decode prog_59_method_3_code 18 = .ok (.iload_n 0, 1) := by decide +kernel
theorem d1_19 : decode prog_59_method_3_code 19 = .ok (.bipush 90, 2) := by decide +kernel
theorem d1_21 : decode prog_59_method_3_code 21 = .ok (.if_icmp .le 170, 3) := by decide +kernel
theorem d1_24 : decode prog_59_method_3_code 24 = .ok (.iload_n 0, 1) := by decide +kernel
theorem d1_25 : decode prog_59_method_3_code 25 = .ok (.bipush 95, 2) := by decide +kernel
theorem d1_27 : decode prog_59_method_3_code 27 = .ok (.if_icmp .eq 164, 3) := by decide +kernel
theorem d1_30 : decode prog_59_method_3_code 30 = .ok (.iload_n 0, 1) := by decide +kernel
theorem d1_31 : decode prog_59_method_3_code 31 = .ok (.sipush 192, 3) := by decide +kernel
theorem d1_34 : decode prog_59_method_3_code 34 = .ok (.if_icmp .lt 10, 3) := by decide +kernel
theorem d1_37 : decode prog_59_method_3_code 37 = .ok (.iload_n 0, 1) := by decide +kernel
theorem d1_38 : decode prog_59_method_3_code 38 = .ok (.sipush 214, 3) := by decide +kernel
theorem d1_41 : decode prog_59_method_3_code 41 = .ok (.if_icmp .le 150, 3) := by decide +kernel
theorem d1_44 : decode prog_59_method_3_code 44 = .ok (.iload_n 0, 1) := by decide +kernel
theorem d1_45 : decode prog_59_method_3_code 45 = .ok (.sipush 216, 3) := by decide +kernel
theorem d1_48 : decode prog_59_method_3_code 48 = .ok (.if_icmp .lt 10, 3) := by decide +kernel
theorem d1_51 : decode prog_59_method_3_code 51 = .ok (.iload_n 0, 1) := by decide +kernel
theorem d1_52 : decode prog_59_method_3_code 52 = .ok (.sipush 246, 3) := by decide +kernel
theorem d1_55 : decode prog_59_method_3_code 55 = .ok (.if_icmp .le 136, 3) := by decide +kernel
theorem d1_58 : decode prog_59_method_3_code 58 = .ok (.iload_n 0, 1) := by decide +kernel
theorem d1_59 : decode prog_59_method_3_code 59 = .ok (.sipush 248, 3) := by decide +kernel
theorem d1_62 : decode prog_59_method_3_code 62 = .ok (.if_icmp .lt 10, 3) := by decide +kernel
theorem d1_65 : decode prog_59_method_3_code 65 = .ok (.iload_n 0, 1) := by decide +kernel
theorem d1_66 : decode prog_59_method_3_code 66 = .ok (.sipush 767, 3) := by decide +kernel
theorem d1_69 : decode prog_59_method_3_code 69 = .ok (.if_icmp .le 122, 3) := by decide +kernel
theorem d1_72 : decode prog_59_method_3_code 72 = .ok (.iload_n 0, 1) := by decide +kernel
theorem d1_73 : decode prog_59_method_3_code 73 = .ok (.sipush 880, 3) := by decide +kernel
theorem d1_76 : decode prog_59_method_3_code 76 = .ok (.if_icmp .lt 10, 3) := by decide +kernel
theorem d1_79 : decode prog_59_method_3_code 79 = .ok (.iload_n 0, 1) := by decide +kernel
theorem d1_80 : decode prog_59_method_3_code 80 = .ok (.sipush 893, 3) := by decide +kernel
theorem d1_83 : decode prog_59_method_3_code 83 = .ok (.if_icmp .le 108, 3) := by decide +kernel
theorem d1_86 : decode prog_59_method_3_code 86 = .ok (.iload_n 0, 1) := by decide +kernel
theorem d1_87 : decode prog_59_method_3_code 87 = .ok (.sipush 895, 3) := by decide +kernel
theorem d1_90 : decode prog_59_method_3_code 90 = .ok (.if_icmp .lt 10, 3) := by decide +kernel
theorem d1_93 : decode prog_59_method_3_code 93 = .ok (.iload_n 0, 1) := by decide +kernel
theorem d1_94 : decode prog_59_method_3_code 94 = .ok (.sipush 8191, 3) := by decide +kernel
theorem d1_97 : decode prog_59_method_3_code 97 = .ok (.if_icmp .le 94, 3) := by decide +kernel
theorem d1_100 : decode prog_59_method_3_code 100 = .ok (.iload_n 0, 1) := by decide +kernel
theorem d1_101 : decode prog_59_method_3_code 101 = .ok (.sipush 8204, 3) := by decide +kernel
theorem d1_104 : decode prog_59_method_3_code 104 = .ok (.if_icmp .lt 10, 3) := by decide +kernel
theorem d1_107 : decode prog_59_method_3_code 107 = .ok (.iload_n 0, 1) := by decide +kernel
theorem d1_108 : decode prog_59_method_3_code 108 = .ok (.sipush 8205, 3) := by decide +kernel
theorem d1_111 : decode prog_59_method_3_code 111 = .ok (.if_icmp .le 80, 3) := by decide +kernel
theorem d1_114 : decode prog_59_method_3_code 114 = .ok (.iload_n 0, 1) := by decide +kernel
theorem d1_115 : decode prog_59_method_3_code 115 = .ok (.sipush 8304, 3) := by decide +kernel
theorem d1_118 : decode prog_59_method_3_code 118 = .ok (.if_icmp .lt 10, 3) := by decide +kernel
theorem d1_121 : decode prog_59_method_3_code 121 = .ok (.iload_n 0, 1) := by decide +kernel
theorem d1_122 : decode prog_59_method_3_code 122 = .ok (.sipush 8591, 3) := by decide +kernel
theorem d1_125 : decode prog_59_method_3_code 125 = .ok (.if_icmp .le 66, 3) := by decide +kernel
theorem d1_128 : decode prog_59_method_3_code 128 = .ok (.iload_n 0, 1) := by decide +kernel
theorem d1_129 : decode prog_59_method_3_code 129 = .ok (.sipush 11264, 3) := by decide +kernel
theorem d1_132 : decode prog_59_method_3_code 132 = .ok (.if_icmp .lt 10, 3) := by decide +kernel
theorem d1_135 : decode prog_59_method_3_code 135 = .ok (.iload_n 0, 1) := by decide +kernel
theorem d1_136 : decode prog_59_method_3_code 136 = .ok (.sipush 12271, 3) := by decide +kernel
theorem d1_139 : decode prog_59_method_3_code 139 = .ok (.if_icmp .le 52, 3) := by decide +kernel
theorem d1_142 : decode prog_59_method_3_code 142 = .ok (.iload_n 0, 1) := by decide +kernel
theorem d1_143 : decode prog_59_method_3_code 143 = .ok (.sipush 12289, 3) := by decide +kernel
theorem d1_146 : decode prog_59_method_3_code 146 = .ok (.if_icmp .lt 9, 3) := by decide +kernel
theorem d1_149 : decode prog_59_method_3_code 149 = .ok (.iload_n 0, 1) := by decide +kernel
theorem d1_150 : decode prog_59_method_3_code 150 = .ok (.ldc 7, 2) := by decide +kernel
theorem d1_152 : decode prog_59_method_3_code 152 = .ok (.if_icmp .le 39, 3) := by decide +kernel
theorem d1_155 : decode prog_59_method_3_code 155 = .ok (.iload_n 0, 1) := by decide +kernel
theorem d1_156 : decode prog_59_method_3_code 156 = .ok (.ldc 12, 2) := by decide +kernel
theorem d1_158 : decode prog_59_method_3_code 158 = .ok (.if_icmp .lt 9, 3) := by decide +kernel
theorem d1_161 : decode prog_59_method_3_code 161 = .ok (.iload_n 0, 1) := by decide +kernel
theorem d1_162 : decode prog_59_method_3_code 162 = .ok (.ldc 13, 2) := by decide +kernel
theorem d1_164 : decode prog_59_method_3_code 164 = .ok (.if_icmp .le 27, 3) := by decide +kernel
theorem d1_167 : decode prog_59_method_3_code 167 = .ok (.iload_n 0, 1) := by decide +kernel
theorem d1_168 : decode prog_59_method_3_code 168 = .ok (.ldc 14, 2) := by decide +kernel
theorem d1_170 : decode prog_59_method_3_code 170 = .ok (.if_icmp .lt 9, 3) := by decide +kernel
theorem d1_173 : decode prog_59_method_3_code 173 = .ok (.iload_n 0, 1) := by decide +kernel
theorem d1_174 : decode prog_59_method_3_code 174 = .ok (.ldc 9, 2) := by decide +kernel
theorem d1_176 : decode prog_59_method_3_code 176 = .ok (.if_icmp .le 15, 3) := by decide +kernel
theorem d1_179 : decode prog_59_method_3_code 179 = .ok (.iload_n 0, 1) := by decide +kernel
theorem d1_180 : decode prog_59_method_3_code 180 = .ok (.ldc 10, 2) := by decide +kernel
theorem d1_182 : decode prog_59_method_3_code 182 = .ok (.if_icmp .lt 13, 3) := by decide +kernel
theorem d1_185 : decode prog_59_method_3_code 185 = .ok (.iload_n 0, 1) := by decide +kernel
theorem d1_186 : decode prog_59_method_3_code 186 = .ok (.ldc 15, 2) := by decide +kernel
theorem d1_188 : decode prog_59_method_3_code 188 = .ok (.if_icmp .gt 7, 3) := by decide +kernel
theorem d1_191 : decode prog_59_method_3_code 191 = .ok (.iconst 1, 1) := by decide +kernel
theorem d1_192 : decode prog_59_method_3_code 192 = .ok (.goto 4, 3) := by decide +kernel
theorem d1_195 : decode prog_59_method_3_code 195 = .ok (.iconst 0, 1) := by decide +kernel
theorem d1_196 : decode prog_59_method_3_code 196 = .ok (.ireturn, 1) := by decide +kernel
theorem d2_0 : decode method_4_code 0 = .ok (.iload_n 0, 1) := by decide +kernel
theorem d2_1 : decode method_4_code 1 = .ok (.ifCond .lt 9, 3) := by decide +kernel
theorem d2_4 : decode method_4_code 4 = .ok (.iload_n 0, 1) := by decide +kernel
theorem d2_5 : decode method_4_code 5 = .ok (.ldc 20, 2) := by decide +kernel
theorem d2_7 : decode method_4_code 7 = .ok (.if_icmp .le 5, 3) := by decide +kernel
theorem d2_10 : decode method_4_code 10 = .ok (.iconst 0, 1) := by decide +kernel
theorem d2_11 : decode method_4_code 11 = .ok (.ireturn, 1) := by decide +kernel
theorem d2_12 : decode method_4_code 12 = .ok (.iload_n 0, 1) := by decide +kernel
theorem d2_13 : decode method_4_code 13 = .ok (.iconst 0, 1) := by decide +kernel
theorem d2_14 : decode method_4_code 14 = .ok (.bipush 64, 2) := by decide +kernel
theorem d2_16 : decode method_4_code 16 = .ok (.invokestatic 21, 3) := by decide +kernel
theorem d2_19 : decode method_4_code 19 = .ok (.ifCond .ne 32, 3) := by decide +kernel
theorem d2_22 : decode method_4_code 22 = .ok (.iload_n 0, 1) := by decide +kernel
theorem d2_23 : decode method_4_code 23 = .ok (.bipush 91, 2) := by decide +kernel
theorem d2_25 : decode method_4_code 25 = .ok (.bipush 94, 2) := by decide +kernel
theorem d2_27 : decode method_4_code 27 = .ok (.invokestatic 21, 3) := by decide +kernel
theorem d2_30 : decode method_4_code 30 = .ok (.ifCond .ne 21, 3) := by decide +kernel
theorem d2_33 : decode method_4_code 33 = .ok (.iload_n 0, 1) := by decide +kernel
theorem d2_34 : decode method_4_code 34 = .ok (.bipush 96, 2) := by decide +kernel
theorem d2_36 : decode method_4_code 36 = .ok (.if_icmp .eq 15, 3) := by decide +kernel
theorem d2_39 : decode method_4_code 39 = .ok (.iload_n 0, 1) := by decide +kernel
theorem d2_40 : decode method_4_code 40 = .ok (.bipush 123, 2) := by decide +kernel
theorem d2_42 : decode method_4_code 42 = .ok (.sipush 191, 3) := by decide +kernel
theorem d2_45 : decode method_4_code 45 = .ok (.invokestatic 21, 3) := by decide +kernel
theorem d2_48 : decode method_4_code 48 = .ok (.ifCond .eq 5, 3) := by decide +kernel
theorem d2_51 : decode method_4_code 51 = .ok (.iconst 0, 1) := by decide +kernel
theorem d2_52 : decode method_4_code 52 = .ok (.ireturn, 1) := by decide +kernel
theorem d2_53 : decode method_4_code 53 = .ok (.iload_n 0, 1) := by decide +kernel
theorem d2_54 : decode method_4_code 54 = .ok (.sipush 215, 3) := by decide +kernel
theorem d2_57 : decode method_4_code 57 = .ok (.if_icmp .eq 30, 3) := by decide +kernel
theorem d2_60 : decode method_4_code 60 = .ok (.iload_n 0, 1) := by decide +kernel
theorem d2_61 : decode method_4_code 61 = .ok (.sipush 247, 3) := by decide +kernel
theorem d2_64 : decode method_4_code 64 = .ok (.if_icmp .eq 23, 3) := by decide +kernel
theorem d2_67 : decode method_4_code 67 = .ok (.iload_n 0, 1) := by decide +kernel
theorem d2_68 : decode method_4_code 68 = .ok (.sipush 768, 3) := by decide +kernel
theorem d2_71 : decode method_4_code 71 = .ok (.sipush 879, 3) := by decide +kernel
theorem d2_74 : decode method_4_code 74 = .ok (.invokestatic 21, 3) := by decide +kernel
theorem d2_77 : decode method_4_code 77 = .ok (.ifCond .ne 10, 3) := by decide +kernel
theorem d2_80 : decode method_4_code 80 = .ok (.iload_n 0, 1) := by decide +kernel
theorem d2_81 : decode method_4_code 81 = .ok (.sipush 894, 3) := by decide +kernel
theorem d2_84 : decode method_4_code 84 = .ok (.if_icmp .ne 5, 3) := by decide +kernel
theorem d2_87 : decode method_4_code 87 = .ok (.iconst 0, 1) := by decide +kernel
theorem d2_88 : decode method_4_code 88 = .ok (.ireturn, 1) := by decide +kernel
theorem d2_89 : decode method_4_code 89 = .ok (.iload_n 0, 1) := by decide +kernel
theorem d2_90 : decode method_4_code 90 = .ok (.sipush 8192, 3) := by decide +kernel
theorem d2_93 : decode method_4_code 93 = .ok (.sipush 8203, 3) := by decide +kernel
theorem d2_96 : decode method_4_code 96 = .ok (.invokestatic 21, 3) := by decide +kernel
theorem d2_99 : decode method_4_code 99 = .ok (.ifCond .ne 42, 3) := by decide +kernel
theorem d2_102 : decode method_4_code 102 = .ok (.iload_n 0, 1) := by decide +kernel
theorem d2_103 : decode method_4_code 103 = .ok (.sipush 8206, 3) := by decide +kernel
theorem d2_106 : decode method_4_code 106 = .ok (.sipush 8303, 3) := by decide +kernel
theorem d2_109 : decode method_4_code 109 = .ok (.invokestatic 21, 3) := by decide +kernel
theorem d2_112 : decode method_4_code 112 = .ok (.ifCond .ne 29, 3) := by decide +kernel
theorem d2_115 : decode method_4_code 115 = .ok (.iload_n 0, 1) := by decide +kernel
theorem d2_116 : decode method_4_code 116 = .ok (.sipush 8592, 3) := by decide +kernel
theorem d2_119 : decode method_4_code 119 = .ok (.sipush 11263, 3) := by decide +kernel
theorem d2_122 : decode method_4_code 122 = .ok (.invokestatic 21, 3) := by decide +kernel
theorem d2_125 : decode method_4_code 125 = .ok (.ifCond .ne 16, 3) := by decide +kernel
theorem d2_128 : decode method_4_code 128 = .ok (.iload_n 0, 1) := by decide +kernel
theorem d2_129 : decode method_4_code 129 = .ok (.sipush 12272, 3) := by decide +kernel
theorem d2_132 : decode method_4_code 132 = .ok (.sipush 12288, 3) := by decide +kernel
theorem d2_135 : decode method_4_code 135 = .ok (.invokestatic 21, 3) := by decide +kernel
theorem d2_138 : decode method_4_code 138 = .ok (.ifCond .eq 5, 3) := by decide +kernel
theorem d2_141 : decode method_4_code 141 = .ok (.iconst 0, 1) := by decide +kernel
theorem d2_142 : decode method_4_code 142 = .ok (.ireturn, 1) := by decide +kernel
theorem d2_143 : decode method_4_code 143 = .ok (.iload_n 0, 1) := by decide +kernel
theorem d2_144 : decode method_4_code 144 = .ok (.ldc 25, 2) := by decide +kernel
theorem d2_146 : decode method_4_code 146 = .ok (.ldc 26, 2) := by decide +kernel
theorem d2_148 : decode method_4_code 148 = .ok (.invokestatic 21, 3) := by decide +kernel
theorem d2_151 : decode method_4_code 151 = .ok (.ifCond .ne 25, 3) := by decide +kernel
theorem d2_154 : decode method_4_code 154 = .ok (.iload_n 0, 1) := by decide +kernel
theorem d2_155 : decode method_4_code 155 = .ok (.ldc 27, 2) := by decide +kernel
theorem d2_157 : decode method_4_code 157 = .ok (.ldc 28, 2) := by decide +kernel
theorem d2_159 : decode method_4_code 159 = .ok (.invokestatic 21, 3) := by decide +kernel
theorem d2_162 : decode method_4_code 162 = .ok (.ifCond .ne 14, 3) := by decide +kernel
theorem d2_165 : decode method_4_code 165 = .ok (.iload_n 0, 1) := by decide +kernel
theorem d2_166 : decode method_4_code 166 = .ok (.ldc 29, 2) := by decide +kernel
theorem d2_168 : decode method_4_code 168 = .ok (.ldc 7, 2) := by decide +kernel
theorem d2_170 : decode method_4_code 170 = .ok (.invokestatic 21, 3) := by decide +kernel
theorem d2_173 : decode method_4_code 173 = .ok (.ifCond .eq 5, 3) := by decide +kernel
theorem d2_176 : decode method_4_code 176 = .ok (.iconst 0, 1) := by decide +kernel
theorem d2_177 : decode method_4_code 177 = .ok (.ireturn, 1) := by decide +kernel
theorem d2_178 : decode method_4_code 178 = .ok (.iconst 1, 1) := by decide +kernel
theorem d2_179 : decode method_4_code 179 = .ok (.ireturn, 1) := by decide +kernel
theorem d3_0 : decode method_3_code 0 = .ok (.iload_n 0, 1) := by decide +kernel
theorem d3_1 : decode method_3_code 1 = .ok (.iload_n 1, 1) := by decide +kernel
theorem d3_2 : decode method_3_code 2 = .ok (.if_icmp .lt 12, 3) := by decide +kernel
theorem d3_5 : decode method_3_code 5 = .ok (.iload_n 0, 1) := by decide +kernel
theorem d3_6 : decode method_3_code 6 = .ok (.iload_n 2, 1) := by decide +kernel
theorem d3_7 : decode method_3_code 7 = .ok (.if_icmp .gt 7, 3) := by decide +kernel
theorem d3_10 : decode method_3_code 10 = .ok (.iconst 1, 1) := by decide +kernel
theorem d3_11 : decode method_3_code 11 = .ok (.goto 4, 3) := by decide +kernel
theorem d3_14 : decode method_3_code 14 = .ok (.iconst 0, 1) := by decide +kernel
theorem d3_15 : decode method_3_code 15 = .ok (.ireturn, 1) := by decide +kernel
abbrev NS14 (c : Int32) : Prop := (¬ c < (65536 : Int32) ∧ ¬ (983039 : Int32) < c)
abbrev NS13 (c : Int32) : Prop := (¬ c < (65008 : Int32) ∧ ¬ (65533 : Int32) < c) ∨ NS14 c
abbrev NS12 (c : Int32) : Prop := (¬ c < (63744 : Int32) ∧ ¬ (64975 : Int32) < c) ∨ NS13 c
abbrev NS11 (c : Int32) : Prop := (¬ c < (12289 : Int32) ∧ ¬ (55295 : Int32) < c) ∨ NS12 c
abbrev NS10 (c : Int32) : Prop := (¬ c < (11264 : Int32) ∧ ¬ (12271 : Int32) < c) ∨ NS11 c
abbrev NS9 (c : Int32) : Prop := (¬ c < (8304 : Int32) ∧ ¬ (8591 : Int32) < c) ∨ NS10 c
abbrev NS8 (c : Int32) : Prop := (¬ c < (8204 : Int32) ∧ ¬ (8205 : Int32) < c) ∨ NS9 c
abbrev NS7 (c : Int32) : Prop := (¬ c < (895 : Int32) ∧ ¬ (8191 : Int32) < c) ∨ NS8 c
abbrev NS6 (c : Int32) : Prop := (¬ c < (880 : Int32) ∧ ¬ (893 : Int32) < c) ∨ NS7 c
abbrev NS5 (c : Int32) : Prop := (¬ c < (248 : Int32) ∧ ¬ (767 : Int32) < c) ∨ NS6 c
abbrev NS4 (c : Int32) : Prop := (¬ c < (216 : Int32) ∧ ¬ (246 : Int32) < c) ∨ NS5 c
abbrev NS3 (c : Int32) : Prop := (¬ c < (192 : Int32) ∧ ¬ (214 : Int32) < c) ∨ NS4 c
abbrev NS2 (c : Int32) : Prop := c = (95 : Int32) ∨ NS3 c
abbrev NS1 (c : Int32) : Prop := (¬ c < (65 : Int32) ∧ ¬ (90 : Int32) < c) ∨ NS2 c
abbrev NS0 (c : Int32) : Prop := (¬ c < (97 : Int32) ∧ ¬ (122 : Int32) < c) ∨ NS1 c
theorem ef_rm1 (m : MethodId) (x0 : Int32) : entryFrame m #[(.int x0)] 1 = mkF m 0 #[.val (.int x0)] [] := by first | (simp [entryFrame, mkF, argsToLocals, Value.category]; done) | rfl
set_option maxRecDepth 65536 in
set_option maxHeartbeats 40000000 in
theorem rm1 (l : Launch) (Z : State) (a0 : Array Value) (hw : ∀ d ∈ tables_1, d.before a0 Z = true) (p0 : Int32) (h0 : Heap) (n0 : Nat) (Z0 : n0 ≤ h0.size) :
    Con l Z (⟨"com/example/quillon/quillon/model/XmlChars", "isNameStartChar", "(I)Z"⟩ : MethodName) prog_59_method_3_code 1 (some .boolean) [] ({ frames := 0, cells := 0, slots := 0, locals := 0 } : Room) #[(.int p0)] h0 (fun v h L => v = some (.int (if NS0 p0 then (1 : Int32) else (0 : Int32))) ∧ Fr n0 L ∧ h = h0) := by
  refine Con.mk (plainFor_of_name pn0) ?_
  intro p e s m below meth c T0 hx hby hml hown hnm hret hlk hZ X0 e0
  have hown : s.vm.findClass "com/example/quillon/quillon/model/XmlChars" = some m.cls := hown
  have hnm : meth.name = "isNameStartChar" := hnm
  have N0 := Fr.nil n0
  have J14 : ∀ (hk : NS0 p0 ↔ NS14 p0), Go p e below s ({ frames := 0, cells := 0, slots := 0, locals := 0 } : Room) (fun v h L => v = some (.int (if NS0 p0 then (1 : Int32) else (0 : Int32))) ∧ Fr n0 L ∧ h = h0) (T0.setTop (mkF m 179 #[.val (.int p0)] [])) := by
    intro hk
    refine Go.st (S' := T0.setTop (mkF m 180 #[.val (.int p0)] [(.int p0)])) (fun _ k_ => XS.iloadN X0.here hx rfl (hb hby d1_179) rfl k_) ?_
    refine Go.st (S' := T0.setTop (mkF m 182 #[.val (.int p0)] [(.int (65536 : Int32)), (.int p0)])) (X0.ldcInt hx hown (mvT hZ (w7 hw)) (g := (mkF m 180 #[.val (.int p0)] [(.int p0)])) rfl (hb hby d1_180)) ?_
    by_cases hc182 : p0 < (65536 : Int32)
    · skip
      refine Go.st (S' := T0.setTop (mkF m 195 #[.val (.int p0)] [])) (fun _ k_ => XS.icmpYes X0.here hx rfl (pc0 := 182) (pc' := 195) rfl (hb hby d1_182) rfl (tlt hc182).1 (by decide) (by decide) k_) ?_
      refine Go.st (S' := T0.setTop (mkF m 196 #[.val (.int p0)] [(.int (0 : Int32))])) (fun _ k_ => XS.iconst X0.here hx rfl (hb hby d1_195) k_) ?_
      exact Go.retN X0 hx (t := .boolean) hret (by simp) hlk (hb hby d1_196) (by decide) (by decide) (by rw [e0]; exact ⟨by rw [if_neg (fun z => (fun q => q.1 hc182) (hk.mp z))]; rfl, N0, rfl⟩)
    · skip
      refine Go.st (S' := T0.setTop (mkF m 185 #[.val (.int p0)] [])) (fun _ k_ => XS.icmpNo X0.here hx rfl (hb hby d1_182) rfl (flt hc182).1 k_) ?_
      refine Go.st (S' := T0.setTop (mkF m 186 #[.val (.int p0)] [(.int p0)])) (fun _ k_ => XS.iloadN X0.here hx rfl (hb hby d1_185) rfl k_) ?_
      refine Go.st (S' := T0.setTop (mkF m 188 #[.val (.int p0)] [(.int (983039 : Int32)), (.int p0)])) (X0.ldcInt hx hown (mvT hZ (w25 hw)) (g := (mkF m 186 #[.val (.int p0)] [(.int p0)])) rfl (hb hby d1_186)) ?_
      by_cases hc188 : (983039 : Int32) < p0
      · skip
        refine Go.st (S' := T0.setTop (mkF m 195 #[.val (.int p0)] [])) (fun _ k_ => XS.icmpYes X0.here hx rfl (pc0 := 188) (pc' := 195) rfl (hb hby d1_188) rfl (tlt hc188).2.2.1 (by decide) (by decide) k_) ?_
        refine Go.st (S' := T0.setTop (mkF m 196 #[.val (.int p0)] [(.int (0 : Int32))])) (fun _ k_ => XS.iconst X0.here hx rfl (hb hby d1_195) k_) ?_
        exact Go.retN X0 hx (t := .boolean) hret (by simp) hlk (hb hby d1_196) (by decide) (by decide) (by rw [e0]; exact ⟨by rw [if_neg (fun z => (fun q => q.2 hc188) (hk.mp z))]; rfl, N0, rfl⟩)
      · skip
        refine Go.st (S' := T0.setTop (mkF m 191 #[.val (.int p0)] [])) (fun _ k_ => XS.icmpNo X0.here hx rfl (hb hby d1_188) rfl (flt hc188).2.2.1 k_) ?_
        refine Go.st (S' := T0.setTop (mkF m 192 #[.val (.int p0)] [(.int (1 : Int32))])) (fun _ k_ => XS.iconst X0.here hx rfl (hb hby d1_191) k_) ?_
        refine Go.st (S' := T0.setTop (mkF m 196 #[.val (.int p0)] [(.int (1 : Int32))])) (fun _ k_ => XS.goto X0.here hx rfl (pc0 := 192) (pc' := 196) rfl (hb hby d1_192) (by decide) (by decide) k_) ?_
        exact Go.retN X0 hx (t := .boolean) hret (by simp) hlk (hb hby d1_196) (by decide) (by decide) (by rw [e0]; exact ⟨by rw [if_pos (hk.mpr ⟨hc182, hc188⟩)]; rfl, N0, rfl⟩)
  have J13 : ∀ (hk : NS0 p0 ↔ NS13 p0), Go p e below s ({ frames := 0, cells := 0, slots := 0, locals := 0 } : Room) (fun v h L => v = some (.int (if NS0 p0 then (1 : Int32) else (0 : Int32))) ∧ Fr n0 L ∧ h = h0) (T0.setTop (mkF m 167 #[.val (.int p0)] [])) := by
    intro hk
    refine Go.st (S' := T0.setTop (mkF m 168 #[.val (.int p0)] [(.int p0)])) (fun _ k_ => XS.iloadN X0.here hx rfl (hb hby d1_167) rfl k_) ?_
    refine Go.st (S' := T0.setTop (mkF m 170 #[.val (.int p0)] [(.int (65008 : Int32)), (.int p0)])) (X0.ldcInt hx hown (mvT hZ (w6 hw)) (g := (mkF m 168 #[.val (.int p0)] [(.int p0)])) rfl (hb hby d1_168)) ?_
    by_cases hc170 : p0 < (65008 : Int32)
    · skip
      refine Go.st (S' := T0.setTop (mkF m 179 #[.val (.int p0)] [])) (fun _ k_ => XS.icmpYes X0.here hx rfl (pc0 := 170) (pc' := 179) rfl (hb hby d1_170) rfl (tlt hc170).1 (by decide) (by decide) k_) ?_
      exact J14 (hk.trans (or_iff_right (fun q => q.1 hc170)))
    · skip
      refine Go.st (S' := T0.setTop (mkF m 173 #[.val (.int p0)] [])) (fun _ k_ => XS.icmpNo X0.here hx rfl (hb hby d1_170) rfl (flt hc170).1 k_) ?_
      refine Go.st (S' := T0.setTop (mkF m 174 #[.val (.int p0)] [(.int p0)])) (fun _ k_ => XS.iloadN X0.here hx rfl (hb hby d1_173) rfl k_) ?_
      refine Go.st (S' := T0.setTop (mkF m 176 #[.val (.int p0)] [(.int (65533 : Int32)), (.int p0)])) (X0.ldcInt hx hown (mvT hZ (w24 hw)) (g := (mkF m 174 #[.val (.int p0)] [(.int p0)])) rfl (hb hby d1_174)) ?_
      by_cases hc176 : (65533 : Int32) < p0
      · skip
        refine Go.st (S' := T0.setTop (mkF m 179 #[.val (.int p0)] [])) (fun _ k_ => XS.icmpNo X0.here hx rfl (hb hby d1_176) rfl (tlt hc176).2.2.2 k_) ?_
        exact J14 (hk.trans (or_iff_right (fun q => q.2 hc176)))
      · skip
        refine Go.st (S' := T0.setTop (mkF m 191 #[.val (.int p0)] [])) (fun _ k_ => XS.icmpYes X0.here hx rfl (pc0 := 176) (pc' := 191) rfl (hb hby d1_176) rfl (flt hc176).2.2.2 (by decide) (by decide) k_) ?_
        refine Go.st (S' := T0.setTop (mkF m 192 #[.val (.int p0)] [(.int (1 : Int32))])) (fun _ k_ => XS.iconst X0.here hx rfl (hb hby d1_191) k_) ?_
        refine Go.st (S' := T0.setTop (mkF m 196 #[.val (.int p0)] [(.int (1 : Int32))])) (fun _ k_ => XS.goto X0.here hx rfl (pc0 := 192) (pc' := 196) rfl (hb hby d1_192) (by decide) (by decide) k_) ?_
        exact Go.retN X0 hx (t := .boolean) hret (by simp) hlk (hb hby d1_196) (by decide) (by decide) (by rw [e0]; exact ⟨by rw [if_pos (hk.mpr (Or.inl ⟨hc170, hc176⟩))]; rfl, N0, rfl⟩)
  have J12 : ∀ (hk : NS0 p0 ↔ NS12 p0), Go p e below s ({ frames := 0, cells := 0, slots := 0, locals := 0 } : Room) (fun v h L => v = some (.int (if NS0 p0 then (1 : Int32) else (0 : Int32))) ∧ Fr n0 L ∧ h = h0) (T0.setTop (mkF m 155 #[.val (.int p0)] [])) := by
    intro hk
    refine Go.st (S' := T0.setTop (mkF m 156 #[.val (.int p0)] [(.int p0)])) (fun _ k_ => XS.iloadN X0.here hx rfl (hb hby d1_155) rfl k_) ?_
    refine Go.st (S' := T0.setTop (mkF m 158 #[.val (.int p0)] [(.int (63744 : Int32)), (.int p0)])) (X0.ldcInt hx hown (mvT hZ (w5 hw)) (g := (mkF m 156 #[.val (.int p0)] [(.int p0)])) rfl (hb hby d1_156)) ?_
    by_cases hc158 : p0 < (63744 : Int32)
    · skip
      refine Go.st (S' := T0.setTop (mkF m 167 #[.val (.int p0)] [])) (fun _ k_ => XS.icmpYes X0.here hx rfl (pc0 := 158) (pc' := 167) rfl (hb hby d1_158) rfl (tlt hc158).1 (by decide) (by decide) k_) ?_
      exact J13 (hk.trans (or_iff_right (fun q => q.1 hc158)))
    · skip
      refine Go.st (S' := T0.setTop (mkF m 161 #[.val (.int p0)] [])) (fun _ k_ => XS.icmpNo X0.here hx rfl (hb hby d1_158) rfl (flt hc158).1 k_) ?_
      refine Go.st (S' := T0.setTop (mkF m 162 #[.val (.int p0)] [(.int p0)])) (fun _ k_ => XS.iloadN X0.here hx rfl (hb hby d1_161) rfl k_) ?_
      refine Go.st (S' := T0.setTop (mkF m 164 #[.val (.int p0)] [(.int (64975 : Int32)), (.int p0)])) (X0.ldcInt hx hown (mvT hZ (w23 hw)) (g := (mkF m 162 #[.val (.int p0)] [(.int p0)])) rfl (hb hby d1_162)) ?_
      by_cases hc164 : (64975 : Int32) < p0
      · skip
        refine Go.st (S' := T0.setTop (mkF m 167 #[.val (.int p0)] [])) (fun _ k_ => XS.icmpNo X0.here hx rfl (hb hby d1_164) rfl (tlt hc164).2.2.2 k_) ?_
        exact J13 (hk.trans (or_iff_right (fun q => q.2 hc164)))
      · skip
        refine Go.st (S' := T0.setTop (mkF m 191 #[.val (.int p0)] [])) (fun _ k_ => XS.icmpYes X0.here hx rfl (pc0 := 164) (pc' := 191) rfl (hb hby d1_164) rfl (flt hc164).2.2.2 (by decide) (by decide) k_) ?_
        refine Go.st (S' := T0.setTop (mkF m 192 #[.val (.int p0)] [(.int (1 : Int32))])) (fun _ k_ => XS.iconst X0.here hx rfl (hb hby d1_191) k_) ?_
        refine Go.st (S' := T0.setTop (mkF m 196 #[.val (.int p0)] [(.int (1 : Int32))])) (fun _ k_ => XS.goto X0.here hx rfl (pc0 := 192) (pc' := 196) rfl (hb hby d1_192) (by decide) (by decide) k_) ?_
        exact Go.retN X0 hx (t := .boolean) hret (by simp) hlk (hb hby d1_196) (by decide) (by decide) (by rw [e0]; exact ⟨by rw [if_pos (hk.mpr (Or.inl ⟨hc158, hc164⟩))]; rfl, N0, rfl⟩)
  have J11 : ∀ (hk : NS0 p0 ↔ NS11 p0), Go p e below s ({ frames := 0, cells := 0, slots := 0, locals := 0 } : Room) (fun v h L => v = some (.int (if NS0 p0 then (1 : Int32) else (0 : Int32))) ∧ Fr n0 L ∧ h = h0) (T0.setTop (mkF m 142 #[.val (.int p0)] [])) := by
    intro hk
    refine Go.st (S' := T0.setTop (mkF m 143 #[.val (.int p0)] [(.int p0)])) (fun _ k_ => XS.iloadN X0.here hx rfl (hb hby d1_142) rfl k_) ?_
    refine Go.st (S' := T0.setTop (mkF m 146 #[.val (.int p0)] [(.int (12289 : Int32)), (.int p0)])) (fun _ k_ => XS.sipush X0.here hx rfl (hb hby d1_143) k_) ?_
    by_cases hc146 : p0 < (12289 : Int32)
    · skip
      refine Go.st (S' := T0.setTop (mkF m 155 #[.val (.int p0)] [])) (fun _ k_ => XS.icmpYes X0.here hx rfl (pc0 := 146) (pc' := 155) rfl (hb hby d1_146) rfl (tlt hc146).1 (by decide) (by decide) k_) ?_
      exact J12 (hk.trans (or_iff_right (fun q => q.1 hc146)))
    · skip
      refine Go.st (S' := T0.setTop (mkF m 149 #[.val (.int p0)] [])) (fun _ k_ => XS.icmpNo X0.here hx rfl (hb hby d1_146) rfl (flt hc146).1 k_) ?_
      refine Go.st (S' := T0.setTop (mkF m 150 #[.val (.int p0)] [(.int p0)])) (fun _ k_ => XS.iloadN X0.here hx rfl (hb hby d1_149) rfl k_) ?_
      refine Go.st (S' := T0.setTop (mkF m 152 #[.val (.int p0)] [(.int (55295 : Int32)), (.int p0)])) (X0.ldcInt hx hown (mvT hZ (w22 hw)) (g := (mkF m 150 #[.val (.int p0)] [(.int p0)])) rfl (hb hby d1_150)) ?_
      by_cases hc152 : (55295 : Int32) < p0
      · skip
        refine Go.st (S' := T0.setTop (mkF m 155 #[.val (.int p0)] [])) (fun _ k_ => XS.icmpNo X0.here hx rfl (hb hby d1_152) rfl (tlt hc152).2.2.2 k_) ?_
        exact J12 (hk.trans (or_iff_right (fun q => q.2 hc152)))
      · skip
        refine Go.st (S' := T0.setTop (mkF m 191 #[.val (.int p0)] [])) (fun _ k_ => XS.icmpYes X0.here hx rfl (pc0 := 152) (pc' := 191) rfl (hb hby d1_152) rfl (flt hc152).2.2.2 (by decide) (by decide) k_) ?_
        refine Go.st (S' := T0.setTop (mkF m 192 #[.val (.int p0)] [(.int (1 : Int32))])) (fun _ k_ => XS.iconst X0.here hx rfl (hb hby d1_191) k_) ?_
        refine Go.st (S' := T0.setTop (mkF m 196 #[.val (.int p0)] [(.int (1 : Int32))])) (fun _ k_ => XS.goto X0.here hx rfl (pc0 := 192) (pc' := 196) rfl (hb hby d1_192) (by decide) (by decide) k_) ?_
        exact Go.retN X0 hx (t := .boolean) hret (by simp) hlk (hb hby d1_196) (by decide) (by decide) (by rw [e0]; exact ⟨by rw [if_pos (hk.mpr (Or.inl ⟨hc146, hc152⟩))]; rfl, N0, rfl⟩)
  have J10 : ∀ (hk : NS0 p0 ↔ NS10 p0), Go p e below s ({ frames := 0, cells := 0, slots := 0, locals := 0 } : Room) (fun v h L => v = some (.int (if NS0 p0 then (1 : Int32) else (0 : Int32))) ∧ Fr n0 L ∧ h = h0) (T0.setTop (mkF m 128 #[.val (.int p0)] [])) := by
    intro hk
    refine Go.st (S' := T0.setTop (mkF m 129 #[.val (.int p0)] [(.int p0)])) (fun _ k_ => XS.iloadN X0.here hx rfl (hb hby d1_128) rfl k_) ?_
    refine Go.st (S' := T0.setTop (mkF m 132 #[.val (.int p0)] [(.int (11264 : Int32)), (.int p0)])) (fun _ k_ => XS.sipush X0.here hx rfl (hb hby d1_129) k_) ?_
    by_cases hc132 : p0 < (11264 : Int32)
    · skip
      refine Go.st (S' := T0.setTop (mkF m 142 #[.val (.int p0)] [])) (fun _ k_ => XS.icmpYes X0.here hx rfl (pc0 := 132) (pc' := 142) rfl (hb hby d1_132) rfl (tlt hc132).1 (by decide) (by decide) k_) ?_
      exact J11 (hk.trans (or_iff_right (fun q => q.1 hc132)))
    · skip
      refine Go.st (S' := T0.setTop (mkF m 135 #[.val (.int p0)] [])) (fun _ k_ => XS.icmpNo X0.here hx rfl (hb hby d1_132) rfl (flt hc132).1 k_) ?_
      refine Go.st (S' := T0.setTop (mkF m 136 #[.val (.int p0)] [(.int p0)])) (fun _ k_ => XS.iloadN X0.here hx rfl (hb hby d1_135) rfl k_) ?_
      refine Go.st (S' := T0.setTop (mkF m 139 #[.val (.int p0)] [(.int (12271 : Int32)), (.int p0)])) (fun _ k_ => XS.sipush X0.here hx rfl (hb hby d1_136) k_) ?_
      by_cases hc139 : (12271 : Int32) < p0
      · skip
        refine Go.st (S' := T0.setTop (mkF m 142 #[.val (.int p0)] [])) (fun _ k_ => XS.icmpNo X0.here hx rfl (hb hby d1_139) rfl (tlt hc139).2.2.2 k_) ?_
        exact J11 (hk.trans (or_iff_right (fun q => q.2 hc139)))
      · skip
        refine Go.st (S' := T0.setTop (mkF m 191 #[.val (.int p0)] [])) (fun _ k_ => XS.icmpYes X0.here hx rfl (pc0 := 139) (pc' := 191) rfl (hb hby d1_139) rfl (flt hc139).2.2.2 (by decide) (by decide) k_) ?_
        refine Go.st (S' := T0.setTop (mkF m 192 #[.val (.int p0)] [(.int (1 : Int32))])) (fun _ k_ => XS.iconst X0.here hx rfl (hb hby d1_191) k_) ?_
        refine Go.st (S' := T0.setTop (mkF m 196 #[.val (.int p0)] [(.int (1 : Int32))])) (fun _ k_ => XS.goto X0.here hx rfl (pc0 := 192) (pc' := 196) rfl (hb hby d1_192) (by decide) (by decide) k_) ?_
        exact Go.retN X0 hx (t := .boolean) hret (by simp) hlk (hb hby d1_196) (by decide) (by decide) (by rw [e0]; exact ⟨by rw [if_pos (hk.mpr (Or.inl ⟨hc132, hc139⟩))]; rfl, N0, rfl⟩)
  have J9 : ∀ (hk : NS0 p0 ↔ NS9 p0), Go p e below s ({ frames := 0, cells := 0, slots := 0, locals := 0 } : Room) (fun v h L => v = some (.int (if NS0 p0 then (1 : Int32) else (0 : Int32))) ∧ Fr n0 L ∧ h = h0) (T0.setTop (mkF m 114 #[.val (.int p0)] [])) := by
    intro hk
    refine Go.st (S' := T0.setTop (mkF m 115 #[.val (.int p0)] [(.int p0)])) (fun _ k_ => XS.iloadN X0.here hx rfl (hb hby d1_114) rfl k_) ?_
    refine Go.st (S' := T0.setTop (mkF m 118 #[.val (.int p0)] [(.int (8304 : Int32)), (.int p0)])) (fun _ k_ => XS.sipush X0.here hx rfl (hb hby d1_115) k_) ?_
    by_cases hc118 : p0 < (8304 : Int32)
    · skip
      refine Go.st (S' := T0.setTop (mkF m 128 #[.val (.int p0)] [])) (fun _ k_ => XS.icmpYes X0.here hx rfl (pc0 := 118) (pc' := 128) rfl (hb hby d1_118) rfl (tlt hc118).1 (by decide) (by decide) k_) ?_
      exact J10 (hk.trans (or_iff_right (fun q => q.1 hc118)))
    · skip
      refine Go.st (S' := T0.setTop (mkF m 121 #[.val (.int p0)] [])) (fun _ k_ => XS.icmpNo X0.here hx rfl (hb hby d1_118) rfl (flt hc118).1 k_) ?_
      refine Go.st (S' := T0.setTop (mkF m 122 #[.val (.int p0)] [(.int p0)])) (fun _ k_ => XS.iloadN X0.here hx rfl (hb hby d1_121) rfl k_) ?_
      refine Go.st (S' := T0.setTop (mkF m 125 #[.val (.int p0)] [(.int (8591 : Int32)), (.int p0)])) (fun _ k_ => XS.sipush X0.here hx rfl (hb hby d1_122) k_) ?_
      by_cases hc125 : (8591 : Int32) < p0
      · skip
        refine Go.st (S' := T0.setTop (mkF m 128 #[.val (.int p0)] [])) (fun _ k_ => XS.icmpNo X0.here hx rfl (hb hby d1_125) rfl (tlt hc125).2.2.2 k_) ?_
        exact J10 (hk.trans (or_iff_right (fun q => q.2 hc125)))
      · skip
        refine Go.st (S' := T0.setTop (mkF m 191 #[.val (.int p0)] [])) (fun _ k_ => XS.icmpYes X0.here hx rfl (pc0 := 125) (pc' := 191) rfl (hb hby d1_125) rfl (flt hc125).2.2.2 (by decide) (by decide) k_) ?_
        refine Go.st (S' := T0.setTop (mkF m 192 #[.val (.int p0)] [(.int (1 : Int32))])) (fun _ k_ => XS.iconst X0.here hx rfl (hb hby d1_191) k_) ?_
        refine Go.st (S' := T0.setTop (mkF m 196 #[.val (.int p0)] [(.int (1 : Int32))])) (fun _ k_ => XS.goto X0.here hx rfl (pc0 := 192) (pc' := 196) rfl (hb hby d1_192) (by decide) (by decide) k_) ?_
        exact Go.retN X0 hx (t := .boolean) hret (by simp) hlk (hb hby d1_196) (by decide) (by decide) (by rw [e0]; exact ⟨by rw [if_pos (hk.mpr (Or.inl ⟨hc118, hc125⟩))]; rfl, N0, rfl⟩)
  have J8 : ∀ (hk : NS0 p0 ↔ NS8 p0), Go p e below s ({ frames := 0, cells := 0, slots := 0, locals := 0 } : Room) (fun v h L => v = some (.int (if NS0 p0 then (1 : Int32) else (0 : Int32))) ∧ Fr n0 L ∧ h = h0) (T0.setTop (mkF m 100 #[.val (.int p0)] [])) := by
    intro hk
    refine Go.st (S' := T0.setTop (mkF m 101 #[.val (.int p0)] [(.int p0)])) (fun _ k_ => XS.iloadN X0.here hx rfl (hb hby d1_100) rfl k_) ?_
    refine Go.st (S' := T0.setTop (mkF m 104 #[.val (.int p0)] [(.int (8204 : Int32)), (.int p0)])) (fun _ k_ => XS.sipush X0.here hx rfl (hb hby d1_101) k_) ?_
    by_cases hc104 : p0 < (8204 : Int32)
    · skip
      refine Go.st (S' := T0.setTop (mkF m 114 #[.val (.int p0)] [])) (fun _ k_ => XS.icmpYes X0.here hx rfl (pc0 := 104) (pc' := 114) rfl (hb hby d1_104) rfl (tlt hc104).1 (by decide) (by decide) k_) ?_
      exact J9 (hk.trans (or_iff_right (fun q => q.1 hc104)))
    · skip
      refine Go.st (S' := T0.setTop (mkF m 107 #[.val (.int p0)] [])) (fun _ k_ => XS.icmpNo X0.here hx rfl (hb hby d1_104) rfl (flt hc104).1 k_) ?_
      refine Go.st (S' := T0.setTop (mkF m 108 #[.val (.int p0)] [(.int p0)])) (fun _ k_ => XS.iloadN X0.here hx rfl (hb hby d1_107) rfl k_) ?_
      refine Go.st (S' := T0.setTop (mkF m 111 #[.val (.int p0)] [(.int (8205 : Int32)), (.int p0)])) (fun _ k_ => XS.sipush X0.here hx rfl (hb hby d1_108) k_) ?_
      by_cases hc111 : (8205 : Int32) < p0
      · skip
        refine Go.st (S' := T0.setTop (mkF m 114 #[.val (.int p0)] [])) (fun _ k_ => XS.icmpNo X0.here hx rfl (hb hby d1_111) rfl (tlt hc111).2.2.2 k_) ?_
        exact J9 (hk.trans (or_iff_right (fun q => q.2 hc111)))
      · skip
        refine Go.st (S' := T0.setTop (mkF m 191 #[.val (.int p0)] [])) (fun _ k_ => XS.icmpYes X0.here hx rfl (pc0 := 111) (pc' := 191) rfl (hb hby d1_111) rfl (flt hc111).2.2.2 (by decide) (by decide) k_) ?_
        refine Go.st (S' := T0.setTop (mkF m 192 #[.val (.int p0)] [(.int (1 : Int32))])) (fun _ k_ => XS.iconst X0.here hx rfl (hb hby d1_191) k_) ?_
        refine Go.st (S' := T0.setTop (mkF m 196 #[.val (.int p0)] [(.int (1 : Int32))])) (fun _ k_ => XS.goto X0.here hx rfl (pc0 := 192) (pc' := 196) rfl (hb hby d1_192) (by decide) (by decide) k_) ?_
        exact Go.retN X0 hx (t := .boolean) hret (by simp) hlk (hb hby d1_196) (by decide) (by decide) (by rw [e0]; exact ⟨by rw [if_pos (hk.mpr (Or.inl ⟨hc104, hc111⟩))]; rfl, N0, rfl⟩)
  have J7 : ∀ (hk : NS0 p0 ↔ NS7 p0), Go p e below s ({ frames := 0, cells := 0, slots := 0, locals := 0 } : Room) (fun v h L => v = some (.int (if NS0 p0 then (1 : Int32) else (0 : Int32))) ∧ Fr n0 L ∧ h = h0) (T0.setTop (mkF m 86 #[.val (.int p0)] [])) := by
    intro hk
    refine Go.st (S' := T0.setTop (mkF m 87 #[.val (.int p0)] [(.int p0)])) (fun _ k_ => XS.iloadN X0.here hx rfl (hb hby d1_86) rfl k_) ?_
    refine Go.st (S' := T0.setTop (mkF m 90 #[.val (.int p0)] [(.int (895 : Int32)), (.int p0)])) (fun _ k_ => XS.sipush X0.here hx rfl (hb hby d1_87) k_) ?_
    by_cases hc90 : p0 < (895 : Int32)
    · skip
      refine Go.st (S' := T0.setTop (mkF m 100 #[.val (.int p0)] [])) (fun _ k_ => XS.icmpYes X0.here hx rfl (pc0 := 90) (pc' := 100) rfl (hb hby d1_90) rfl (tlt hc90).1 (by decide) (by decide) k_) ?_
      exact J8 (hk.trans (or_iff_right (fun q => q.1 hc90)))
    · skip
      refine Go.st (S' := T0.setTop (mkF m 93 #[.val (.int p0)] [])) (fun _ k_ => XS.icmpNo X0.here hx rfl (hb hby d1_90) rfl (flt hc90).1 k_) ?_
      refine Go.st (S' := T0.setTop (mkF m 94 #[.val (.int p0)] [(.int p0)])) (fun _ k_ => XS.iloadN X0.here hx rfl (hb hby d1_93) rfl k_) ?_
      refine Go.st (S' := T0.setTop (mkF m 97 #[.val (.int p0)] [(.int (8191 : Int32)), (.int p0)])) (fun _ k_ => XS.sipush X0.here hx rfl (hb hby d1_94) k_) ?_
      by_cases hc97 : (8191 : Int32) < p0
      · skip
        refine Go.st (S' := T0.setTop (mkF m 100 #[.val (.int p0)] [])) (fun _ k_ => XS.icmpNo X0.here hx rfl (hb hby d1_97) rfl (tlt hc97).2.2.2 k_) ?_
        exact J8 (hk.trans (or_iff_right (fun q => q.2 hc97)))
      · skip
        refine Go.st (S' := T0.setTop (mkF m 191 #[.val (.int p0)] [])) (fun _ k_ => XS.icmpYes X0.here hx rfl (pc0 := 97) (pc' := 191) rfl (hb hby d1_97) rfl (flt hc97).2.2.2 (by decide) (by decide) k_) ?_
        refine Go.st (S' := T0.setTop (mkF m 192 #[.val (.int p0)] [(.int (1 : Int32))])) (fun _ k_ => XS.iconst X0.here hx rfl (hb hby d1_191) k_) ?_
        refine Go.st (S' := T0.setTop (mkF m 196 #[.val (.int p0)] [(.int (1 : Int32))])) (fun _ k_ => XS.goto X0.here hx rfl (pc0 := 192) (pc' := 196) rfl (hb hby d1_192) (by decide) (by decide) k_) ?_
        exact Go.retN X0 hx (t := .boolean) hret (by simp) hlk (hb hby d1_196) (by decide) (by decide) (by rw [e0]; exact ⟨by rw [if_pos (hk.mpr (Or.inl ⟨hc90, hc97⟩))]; rfl, N0, rfl⟩)
  have J6 : ∀ (hk : NS0 p0 ↔ NS6 p0), Go p e below s ({ frames := 0, cells := 0, slots := 0, locals := 0 } : Room) (fun v h L => v = some (.int (if NS0 p0 then (1 : Int32) else (0 : Int32))) ∧ Fr n0 L ∧ h = h0) (T0.setTop (mkF m 72 #[.val (.int p0)] [])) := by
    intro hk
    refine Go.st (S' := T0.setTop (mkF m 73 #[.val (.int p0)] [(.int p0)])) (fun _ k_ => XS.iloadN X0.here hx rfl (hb hby d1_72) rfl k_) ?_
    refine Go.st (S' := T0.setTop (mkF m 76 #[.val (.int p0)] [(.int (880 : Int32)), (.int p0)])) (fun _ k_ => XS.sipush X0.here hx rfl (hb hby d1_73) k_) ?_
    by_cases hc76 : p0 < (880 : Int32)
    · skip
      refine Go.st (S' := T0.setTop (mkF m 86 #[.val (.int p0)] [])) (fun _ k_ => XS.icmpYes X0.here hx rfl (pc0 := 76) (pc' := 86) rfl (hb hby d1_76) rfl (tlt hc76).1 (by decide) (by decide) k_) ?_
      exact J7 (hk.trans (or_iff_right (fun q => q.1 hc76)))
    · skip
      refine Go.st (S' := T0.setTop (mkF m 79 #[.val (.int p0)] [])) (fun _ k_ => XS.icmpNo X0.here hx rfl (hb hby d1_76) rfl (flt hc76).1 k_) ?_
      refine Go.st (S' := T0.setTop (mkF m 80 #[.val (.int p0)] [(.int p0)])) (fun _ k_ => XS.iloadN X0.here hx rfl (hb hby d1_79) rfl k_) ?_
      refine Go.st (S' := T0.setTop (mkF m 83 #[.val (.int p0)] [(.int (893 : Int32)), (.int p0)])) (fun _ k_ => XS.sipush X0.here hx rfl (hb hby d1_80) k_) ?_
      by_cases hc83 : (893 : Int32) < p0
      · skip
        refine Go.st (S' := T0.setTop (mkF m 86 #[.val (.int p0)] [])) (fun _ k_ => XS.icmpNo X0.here hx rfl (hb hby d1_83) rfl (tlt hc83).2.2.2 k_) ?_
        exact J7 (hk.trans (or_iff_right (fun q => q.2 hc83)))
      · skip
        refine Go.st (S' := T0.setTop (mkF m 191 #[.val (.int p0)] [])) (fun _ k_ => XS.icmpYes X0.here hx rfl (pc0 := 83) (pc' := 191) rfl (hb hby d1_83) rfl (flt hc83).2.2.2 (by decide) (by decide) k_) ?_
        refine Go.st (S' := T0.setTop (mkF m 192 #[.val (.int p0)] [(.int (1 : Int32))])) (fun _ k_ => XS.iconst X0.here hx rfl (hb hby d1_191) k_) ?_
        refine Go.st (S' := T0.setTop (mkF m 196 #[.val (.int p0)] [(.int (1 : Int32))])) (fun _ k_ => XS.goto X0.here hx rfl (pc0 := 192) (pc' := 196) rfl (hb hby d1_192) (by decide) (by decide) k_) ?_
        exact Go.retN X0 hx (t := .boolean) hret (by simp) hlk (hb hby d1_196) (by decide) (by decide) (by rw [e0]; exact ⟨by rw [if_pos (hk.mpr (Or.inl ⟨hc76, hc83⟩))]; rfl, N0, rfl⟩)
  have J5 : ∀ (hk : NS0 p0 ↔ NS5 p0), Go p e below s ({ frames := 0, cells := 0, slots := 0, locals := 0 } : Room) (fun v h L => v = some (.int (if NS0 p0 then (1 : Int32) else (0 : Int32))) ∧ Fr n0 L ∧ h = h0) (T0.setTop (mkF m 58 #[.val (.int p0)] [])) := by
    intro hk
    refine Go.st (S' := T0.setTop (mkF m 59 #[.val (.int p0)] [(.int p0)])) (fun _ k_ => XS.iloadN X0.here hx rfl (hb hby d1_58) rfl k_) ?_
    refine Go.st (S' := T0.setTop (mkF m 62 #[.val (.int p0)] [(.int (248 : Int32)), (.int p0)])) (fun _ k_ => XS.sipush X0.here hx rfl (hb hby d1_59) k_) ?_
    by_cases hc62 : p0 < (248 : Int32)
    · skip
      refine Go.st (S' := T0.setTop (mkF m 72 #[.val (.int p0)] [])) (fun _ k_ => XS.icmpYes X0.here hx rfl (pc0 := 62) (pc' := 72) rfl (hb hby d1_62) rfl (tlt hc62).1 (by decide) (by decide) k_) ?_
      exact J6 (hk.trans (or_iff_right (fun q => q.1 hc62)))
    · skip
      refine Go.st (S' := T0.setTop (mkF m 65 #[.val (.int p0)] [])) (fun _ k_ => XS.icmpNo X0.here hx rfl (hb hby d1_62) rfl (flt hc62).1 k_) ?_
      refine Go.st (S' := T0.setTop (mkF m 66 #[.val (.int p0)] [(.int p0)])) (fun _ k_ => XS.iloadN X0.here hx rfl (hb hby d1_65) rfl k_) ?_
      refine Go.st (S' := T0.setTop (mkF m 69 #[.val (.int p0)] [(.int (767 : Int32)), (.int p0)])) (fun _ k_ => XS.sipush X0.here hx rfl (hb hby d1_66) k_) ?_
      by_cases hc69 : (767 : Int32) < p0
      · skip
        refine Go.st (S' := T0.setTop (mkF m 72 #[.val (.int p0)] [])) (fun _ k_ => XS.icmpNo X0.here hx rfl (hb hby d1_69) rfl (tlt hc69).2.2.2 k_) ?_
        exact J6 (hk.trans (or_iff_right (fun q => q.2 hc69)))
      · skip
        refine Go.st (S' := T0.setTop (mkF m 191 #[.val (.int p0)] [])) (fun _ k_ => XS.icmpYes X0.here hx rfl (pc0 := 69) (pc' := 191) rfl (hb hby d1_69) rfl (flt hc69).2.2.2 (by decide) (by decide) k_) ?_
        refine Go.st (S' := T0.setTop (mkF m 192 #[.val (.int p0)] [(.int (1 : Int32))])) (fun _ k_ => XS.iconst X0.here hx rfl (hb hby d1_191) k_) ?_
        refine Go.st (S' := T0.setTop (mkF m 196 #[.val (.int p0)] [(.int (1 : Int32))])) (fun _ k_ => XS.goto X0.here hx rfl (pc0 := 192) (pc' := 196) rfl (hb hby d1_192) (by decide) (by decide) k_) ?_
        exact Go.retN X0 hx (t := .boolean) hret (by simp) hlk (hb hby d1_196) (by decide) (by decide) (by rw [e0]; exact ⟨by rw [if_pos (hk.mpr (Or.inl ⟨hc62, hc69⟩))]; rfl, N0, rfl⟩)
  have J4 : ∀ (hk : NS0 p0 ↔ NS4 p0), Go p e below s ({ frames := 0, cells := 0, slots := 0, locals := 0 } : Room) (fun v h L => v = some (.int (if NS0 p0 then (1 : Int32) else (0 : Int32))) ∧ Fr n0 L ∧ h = h0) (T0.setTop (mkF m 44 #[.val (.int p0)] [])) := by
    intro hk
    refine Go.st (S' := T0.setTop (mkF m 45 #[.val (.int p0)] [(.int p0)])) (fun _ k_ => XS.iloadN X0.here hx rfl (hb hby d1_44) rfl k_) ?_
    refine Go.st (S' := T0.setTop (mkF m 48 #[.val (.int p0)] [(.int (216 : Int32)), (.int p0)])) (fun _ k_ => XS.sipush X0.here hx rfl (hb hby d1_45) k_) ?_
    by_cases hc48 : p0 < (216 : Int32)
    · skip
      refine Go.st (S' := T0.setTop (mkF m 58 #[.val (.int p0)] [])) (fun _ k_ => XS.icmpYes X0.here hx rfl (pc0 := 48) (pc' := 58) rfl (hb hby d1_48) rfl (tlt hc48).1 (by decide) (by decide) k_) ?_
      exact J5 (hk.trans (or_iff_right (fun q => q.1 hc48)))
    · skip
      refine Go.st (S' := T0.setTop (mkF m 51 #[.val (.int p0)] [])) (fun _ k_ => XS.icmpNo X0.here hx rfl (hb hby d1_48) rfl (flt hc48).1 k_) ?_
      refine Go.st (S' := T0.setTop (mkF m 52 #[.val (.int p0)] [(.int p0)])) (fun _ k_ => XS.iloadN X0.here hx rfl (hb hby d1_51) rfl k_) ?_
      refine Go.st (S' := T0.setTop (mkF m 55 #[.val (.int p0)] [(.int (246 : Int32)), (.int p0)])) (fun _ k_ => XS.sipush X0.here hx rfl (hb hby d1_52) k_) ?_
      by_cases hc55 : (246 : Int32) < p0
      · skip
        refine Go.st (S' := T0.setTop (mkF m 58 #[.val (.int p0)] [])) (fun _ k_ => XS.icmpNo X0.here hx rfl (hb hby d1_55) rfl (tlt hc55).2.2.2 k_) ?_
        exact J5 (hk.trans (or_iff_right (fun q => q.2 hc55)))
      · skip
        refine Go.st (S' := T0.setTop (mkF m 191 #[.val (.int p0)] [])) (fun _ k_ => XS.icmpYes X0.here hx rfl (pc0 := 55) (pc' := 191) rfl (hb hby d1_55) rfl (flt hc55).2.2.2 (by decide) (by decide) k_) ?_
        refine Go.st (S' := T0.setTop (mkF m 192 #[.val (.int p0)] [(.int (1 : Int32))])) (fun _ k_ => XS.iconst X0.here hx rfl (hb hby d1_191) k_) ?_
        refine Go.st (S' := T0.setTop (mkF m 196 #[.val (.int p0)] [(.int (1 : Int32))])) (fun _ k_ => XS.goto X0.here hx rfl (pc0 := 192) (pc' := 196) rfl (hb hby d1_192) (by decide) (by decide) k_) ?_
        exact Go.retN X0 hx (t := .boolean) hret (by simp) hlk (hb hby d1_196) (by decide) (by decide) (by rw [e0]; exact ⟨by rw [if_pos (hk.mpr (Or.inl ⟨hc48, hc55⟩))]; rfl, N0, rfl⟩)
  have J3 : ∀ (hk : NS0 p0 ↔ NS3 p0), Go p e below s ({ frames := 0, cells := 0, slots := 0, locals := 0 } : Room) (fun v h L => v = some (.int (if NS0 p0 then (1 : Int32) else (0 : Int32))) ∧ Fr n0 L ∧ h = h0) (T0.setTop (mkF m 30 #[.val (.int p0)] [])) := by
    intro hk
    refine Go.st (S' := T0.setTop (mkF m 31 #[.val (.int p0)] [(.int p0)])) (fun _ k_ => XS.iloadN X0.here hx rfl (hb hby d1_30) rfl k_) ?_
    refine Go.st (S' := T0.setTop (mkF m 34 #[.val (.int p0)] [(.int (192 : Int32)), (.int p0)])) (fun _ k_ => XS.sipush X0.here hx rfl (hb hby d1_31) k_) ?_
    by_cases hc34 : p0 < (192 : Int32)
    · skip
      refine Go.st (S' := T0.setTop (mkF m 44 #[.val (.int p0)] [])) (fun _ k_ => XS.icmpYes X0.here hx rfl (pc0 := 34) (pc' := 44) rfl (hb hby d1_34) rfl (tlt hc34).1 (by decide) (by decide) k_) ?_
      exact J4 (hk.trans (or_iff_right (fun q => q.1 hc34)))
    · skip
      refine Go.st (S' := T0.setTop (mkF m 37 #[.val (.int p0)] [])) (fun _ k_ => XS.icmpNo X0.here hx rfl (hb hby d1_34) rfl (flt hc34).1 k_) ?_
      refine Go.st (S' := T0.setTop (mkF m 38 #[.val (.int p0)] [(.int p0)])) (fun _ k_ => XS.iloadN X0.here hx rfl (hb hby d1_37) rfl k_) ?_
      refine Go.st (S' := T0.setTop (mkF m 41 #[.val (.int p0)] [(.int (214 : Int32)), (.int p0)])) (fun _ k_ => XS.sipush X0.here hx rfl (hb hby d1_38) k_) ?_
      by_cases hc41 : (214 : Int32) < p0
      · skip
        refine Go.st (S' := T0.setTop (mkF m 44 #[.val (.int p0)] [])) (fun _ k_ => XS.icmpNo X0.here hx rfl (hb hby d1_41) rfl (tlt hc41).2.2.2 k_) ?_
        exact J4 (hk.trans (or_iff_right (fun q => q.2 hc41)))
      · skip
        refine Go.st (S' := T0.setTop (mkF m 191 #[.val (.int p0)] [])) (fun _ k_ => XS.icmpYes X0.here hx rfl (pc0 := 41) (pc' := 191) rfl (hb hby d1_41) rfl (flt hc41).2.2.2 (by decide) (by decide) k_) ?_
        refine Go.st (S' := T0.setTop (mkF m 192 #[.val (.int p0)] [(.int (1 : Int32))])) (fun _ k_ => XS.iconst X0.here hx rfl (hb hby d1_191) k_) ?_
        refine Go.st (S' := T0.setTop (mkF m 196 #[.val (.int p0)] [(.int (1 : Int32))])) (fun _ k_ => XS.goto X0.here hx rfl (pc0 := 192) (pc' := 196) rfl (hb hby d1_192) (by decide) (by decide) k_) ?_
        exact Go.retN X0 hx (t := .boolean) hret (by simp) hlk (hb hby d1_196) (by decide) (by decide) (by rw [e0]; exact ⟨by rw [if_pos (hk.mpr (Or.inl ⟨hc34, hc41⟩))]; rfl, N0, rfl⟩)
  have J2 : ∀ (hk : NS0 p0 ↔ NS2 p0), Go p e below s ({ frames := 0, cells := 0, slots := 0, locals := 0 } : Room) (fun v h L => v = some (.int (if NS0 p0 then (1 : Int32) else (0 : Int32))) ∧ Fr n0 L ∧ h = h0) (T0.setTop (mkF m 24 #[.val (.int p0)] [])) := by
    intro hk
    refine Go.st (S' := T0.setTop (mkF m 25 #[.val (.int p0)] [(.int p0)])) (fun _ k_ => XS.iloadN X0.here hx rfl (hb hby d1_24) rfl k_) ?_
    refine Go.st (S' := T0.setTop (mkF m 27 #[.val (.int p0)] [(.int (95 : Int32)), (.int p0)])) (fun _ k_ => XS.bipush X0.here hx rfl (hb hby d1_25) k_) ?_
    by_cases hc27 : p0 = (95 : Int32)
    · skip
      refine Go.st (S' := T0.setTop (mkF m 191 #[.val (.int p0)] [])) (fun _ k_ => XS.icmpYes X0.here hx rfl (pc0 := 27) (pc' := 191) rfl (hb hby d1_27) rfl (teq hc27).1 (by decide) (by decide) k_) ?_
      refine Go.st (S' := T0.setTop (mkF m 192 #[.val (.int p0)] [(.int (1 : Int32))])) (fun _ k_ => XS.iconst X0.here hx rfl (hb hby d1_191) k_) ?_
      refine Go.st (S' := T0.setTop (mkF m 196 #[.val (.int p0)] [(.int (1 : Int32))])) (fun _ k_ => XS.goto X0.here hx rfl (pc0 := 192) (pc' := 196) rfl (hb hby d1_192) (by decide) (by decide) k_) ?_
      exact Go.retN X0 hx (t := .boolean) hret (by simp) hlk (hb hby d1_196) (by decide) (by decide) (by rw [e0]; exact ⟨by rw [if_pos (hk.mpr (Or.inl hc27))]; rfl, N0, rfl⟩)
    · skip
      refine Go.st (S' := T0.setTop (mkF m 30 #[.val (.int p0)] [])) (fun _ k_ => XS.icmpNo X0.here hx rfl (hb hby d1_27) rfl (feq hc27).1 k_) ?_
      exact J3 (hk.trans (or_iff_right (fun q => hc27 q)))
  have J1 : ∀ (hk : NS0 p0 ↔ NS1 p0), Go p e below s ({ frames := 0, cells := 0, slots := 0, locals := 0 } : Room) (fun v h L => v = some (.int (if NS0 p0 then (1 : Int32) else (0 : Int32))) ∧ Fr n0 L ∧ h = h0) (T0.setTop (mkF m 12 #[.val (.int p0)] [])) := by
    intro hk
    refine Go.st (S' := T0.setTop (mkF m 13 #[.val (.int p0)] [(.int p0)])) (fun _ k_ => XS.iloadN X0.here hx rfl (hb hby d1_12) rfl k_) ?_
    refine Go.st (S' := T0.setTop (mkF m 15 #[.val (.int p0)] [(.int (65 : Int32)), (.int p0)])) (fun _ k_ => XS.bipush X0.here hx rfl (hb hby d1_13) k_) ?_
    by_cases hc15 : p0 < (65 : Int32)
    · skip
      refine Go.st (S' := T0.setTop (mkF m 24 #[.val (.int p0)] [])) (fun _ k_ => XS.icmpYes X0.here hx rfl (pc0 := 15) (pc' := 24) rfl (hb hby d1_15) rfl (tlt hc15).1 (by decide) (by decide) k_) ?_
      exact J2 (hk.trans (or_iff_right (fun q => q.1 hc15)))
    · skip
      refine Go.st (S' := T0.setTop (mkF m 18 #[.val (.int p0)] [])) (fun _ k_ => XS.icmpNo X0.here hx rfl (hb hby d1_15) rfl (flt hc15).1 k_) ?_
      refine Go.st (S' := T0.setTop (mkF m 19 #[.val (.int p0)] [(.int p0)])) (fun _ k_ => XS.iloadN X0.here hx rfl (hb hby d1_18) rfl k_) ?_
      refine Go.st (S' := T0.setTop (mkF m 21 #[.val (.int p0)] [(.int (90 : Int32)), (.int p0)])) (fun _ k_ => XS.bipush X0.here hx rfl (hb hby d1_19) k_) ?_
      by_cases hc21 : (90 : Int32) < p0
      · skip
        refine Go.st (S' := T0.setTop (mkF m 24 #[.val (.int p0)] [])) (fun _ k_ => XS.icmpNo X0.here hx rfl (hb hby d1_21) rfl (tlt hc21).2.2.2 k_) ?_
        exact J2 (hk.trans (or_iff_right (fun q => q.2 hc21)))
      · skip
        refine Go.st (S' := T0.setTop (mkF m 191 #[.val (.int p0)] [])) (fun _ k_ => XS.icmpYes X0.here hx rfl (pc0 := 21) (pc' := 191) rfl (hb hby d1_21) rfl (flt hc21).2.2.2 (by decide) (by decide) k_) ?_
        refine Go.st (S' := T0.setTop (mkF m 192 #[.val (.int p0)] [(.int (1 : Int32))])) (fun _ k_ => XS.iconst X0.here hx rfl (hb hby d1_191) k_) ?_
        refine Go.st (S' := T0.setTop (mkF m 196 #[.val (.int p0)] [(.int (1 : Int32))])) (fun _ k_ => XS.goto X0.here hx rfl (pc0 := 192) (pc' := 196) rfl (hb hby d1_192) (by decide) (by decide) k_) ?_
        exact Go.retN X0 hx (t := .boolean) hret (by simp) hlk (hb hby d1_196) (by decide) (by decide) (by rw [e0]; exact ⟨by rw [if_pos (hk.mpr (Or.inl ⟨hc15, hc21⟩))]; rfl, N0, rfl⟩)
  refine Go.cast (ef_rm1 m p0) ?_
  have hk : NS0 p0 ↔ NS0 p0 := Iff.rfl
  refine Go.st (S' := T0.setTop (mkF m 1 #[.val (.int p0)] [(.int p0)])) (fun _ k_ => XS.iloadN X0.here hx rfl (hb hby d1_0) rfl k_) ?_
  refine Go.st (S' := T0.setTop (mkF m 3 #[.val (.int p0)] [(.int (97 : Int32)), (.int p0)])) (fun _ k_ => XS.bipush X0.here hx rfl (hb hby d1_1) k_) ?_
  by_cases hc3 : p0 < (97 : Int32)
  · skip
    refine Go.st (S' := T0.setTop (mkF m 12 #[.val (.int p0)] [])) (fun _ k_ => XS.icmpYes X0.here hx rfl (pc0 := 3) (pc' := 12) rfl (hb hby d1_3) rfl (tlt hc3).1 (by decide) (by decide) k_) ?_
    exact J1 (hk.trans (or_iff_right (fun q => q.1 hc3)))
  · skip
    refine Go.st (S' := T0.setTop (mkF m 6 #[.val (.int p0)] [])) (fun _ k_ => XS.icmpNo X0.here hx rfl (hb hby d1_3) rfl (flt hc3).1 k_) ?_
    refine Go.st (S' := T0.setTop (mkF m 7 #[.val (.int p0)] [(.int p0)])) (fun _ k_ => XS.iloadN X0.here hx rfl (hb hby d1_6) rfl k_) ?_
    refine Go.st (S' := T0.setTop (mkF m 9 #[.val (.int p0)] [(.int (122 : Int32)), (.int p0)])) (fun _ k_ => XS.bipush X0.here hx rfl (hb hby d1_7) k_) ?_
    by_cases hc9 : (122 : Int32) < p0
    · skip
      refine Go.st (S' := T0.setTop (mkF m 12 #[.val (.int p0)] [])) (fun _ k_ => XS.icmpNo X0.here hx rfl (hb hby d1_9) rfl (tlt hc9).2.2.2 k_) ?_
      exact J1 (hk.trans (or_iff_right (fun q => q.2 hc9)))
    · skip
      refine Go.st (S' := T0.setTop (mkF m 191 #[.val (.int p0)] [])) (fun _ k_ => XS.icmpYes X0.here hx rfl (pc0 := 9) (pc' := 191) rfl (hb hby d1_9) rfl (flt hc9).2.2.2 (by decide) (by decide) k_) ?_
      refine Go.st (S' := T0.setTop (mkF m 192 #[.val (.int p0)] [(.int (1 : Int32))])) (fun _ k_ => XS.iconst X0.here hx rfl (hb hby d1_191) k_) ?_
      refine Go.st (S' := T0.setTop (mkF m 196 #[.val (.int p0)] [(.int (1 : Int32))])) (fun _ k_ => XS.goto X0.here hx rfl (pc0 := 192) (pc' := 196) rfl (hb hby d1_192) (by decide) (by decide) k_) ?_
      exact Go.retN X0 hx (t := .boolean) hret (by simp) hlk (hb hby d1_196) (by decide) (by decide) (by rw [e0]; exact ⟨by rw [if_pos (hk.mpr (Or.inl ⟨hc3, hc9⟩))]; rfl, N0, rfl⟩)
theorem ef_rm3 (m : MethodId) (x0 : Int32) (x1 : Int32) (x2 : Int32) : entryFrame m #[(.int x0), (.int x1), (.int x2)] 3 = mkF m 0 #[.val (.int x0), .val (.int x1), .val (.int x2)] [] := by first | (simp [entryFrame, mkF, argsToLocals, Value.category]; done) | rfl
set_option maxRecDepth 65536 in
set_option maxHeartbeats 40000000 in
theorem rm3 (l : Launch) (Z : State) (a0 : Array Value) (hw : ∀ d ∈ tables_1, d.before a0 Z = true) (p0 : Int32) (p1 : Int32) (p2 : Int32) (h0 : Heap) (n0 : Nat) (Z0 : n0 ≤ h0.size) :
    Con l Z (⟨"com/example/quillon/quillon/model/XmlCharsIsNameStartCharPinLaw", "in", "(III)Z"⟩ : MethodName) method_3_code 3 (some .boolean) [] ({ frames := 0, cells := 0, slots := 0, locals := 0 } : Room) #[(.int p0), (.int p1), (.int p2)] h0 (fun v h L => v = some (.int (if (¬ p0 < p1 ∧ ¬ p2 < p0) then (1 : Int32) else (0 : Int32))) ∧ Fr n0 L ∧ h = h0) := by
  refine Con.mk (plainFor_of_name pn1) ?_
  intro p e s m below meth c T0 hx hby hml hown hnm hret hlk hZ X0 e0
  have hown : s.vm.findClass "com/example/quillon/quillon/model/XmlCharsIsNameStartCharPinLaw" = some m.cls := hown
  have hnm : meth.name = "in" := hnm
  have N0 := Fr.nil n0
  refine Go.cast (ef_rm3 m p0 p1 p2) ?_
  refine Go.st (S' := T0.setTop (mkF m 1 #[.val (.int p0), .val (.int p1), .val (.int p2)] [(.int p0)])) (fun _ k_ => XS.iloadN X0.here hx rfl (hb hby d3_0) rfl k_) ?_
  refine Go.st (S' := T0.setTop (mkF m 2 #[.val (.int p0), .val (.int p1), .val (.int p2)] [(.int p1), (.int p0)])) (fun _ k_ => XS.iloadN X0.here hx rfl (hb hby d3_1) rfl k_) ?_
  by_cases hc2 : p0 < p1
  · skip
    refine Go.st (S' := T0.setTop (mkF m 14 #[.val (.int p0), .val (.int p1), .val (.int p2)] [])) (fun _ k_ => XS.icmpYes X0.here hx rfl (pc0 := 2) (pc' := 14) rfl (hb hby d3_2) rfl (tlt hc2).1 (by decide) (by decide) k_) ?_
    refine Go.st (S' := T0.setTop (mkF m 15 #[.val (.int p0), .val (.int p1), .val (.int p2)] [(.int (0 : Int32))])) (fun _ k_ => XS.iconst X0.here hx rfl (hb hby d3_14) k_) ?_
    exact Go.retN X0 hx (t := .boolean) hret (by simp) hlk (hb hby d3_15) (by decide) (by decide) (by rw [e0]; exact ⟨by simp_all [nar], N0, rfl⟩)
  · skip
    refine Go.st (S' := T0.setTop (mkF m 5 #[.val (.int p0), .val (.int p1), .val (.int p2)] [])) (fun _ k_ => XS.icmpNo X0.here hx rfl (hb hby d3_2) rfl (flt hc2).1 k_) ?_
    refine Go.st (S' := T0.setTop (mkF m 6 #[.val (.int p0), .val (.int p1), .val (.int p2)] [(.int p0)])) (fun _ k_ => XS.iloadN X0.here hx rfl (hb hby d3_5) rfl k_) ?_
    refine Go.st (S' := T0.setTop (mkF m 7 #[.val (.int p0), .val (.int p1), .val (.int p2)] [(.int p2), (.int p0)])) (fun _ k_ => XS.iloadN X0.here hx rfl (hb hby d3_6) rfl k_) ?_
    by_cases hc7 : p2 < p0
    · skip
      refine Go.st (S' := T0.setTop (mkF m 14 #[.val (.int p0), .val (.int p1), .val (.int p2)] [])) (fun _ k_ => XS.icmpYes X0.here hx rfl (pc0 := 7) (pc' := 14) rfl (hb hby d3_7) rfl (tlt hc7).2.2.1 (by decide) (by decide) k_) ?_
      refine Go.st (S' := T0.setTop (mkF m 15 #[.val (.int p0), .val (.int p1), .val (.int p2)] [(.int (0 : Int32))])) (fun _ k_ => XS.iconst X0.here hx rfl (hb hby d3_14) k_) ?_
      exact Go.retN X0 hx (t := .boolean) hret (by simp) hlk (hb hby d3_15) (by decide) (by decide) (by rw [e0]; exact ⟨by simp_all [nar], N0, rfl⟩)
    · skip
      refine Go.st (S' := T0.setTop (mkF m 10 #[.val (.int p0), .val (.int p1), .val (.int p2)] [])) (fun _ k_ => XS.icmpNo X0.here hx rfl (hb hby d3_7) rfl (flt hc7).2.2.1 k_) ?_
      refine Go.st (S' := T0.setTop (mkF m 11 #[.val (.int p0), .val (.int p1), .val (.int p2)] [(.int (1 : Int32))])) (fun _ k_ => XS.iconst X0.here hx rfl (hb hby d3_10) k_) ?_
      refine Go.st (S' := T0.setTop (mkF m 15 #[.val (.int p0), .val (.int p1), .val (.int p2)] [(.int (1 : Int32))])) (fun _ k_ => XS.goto X0.here hx rfl (pc0 := 11) (pc' := 15) rfl (hb hby d3_11) (by decide) (by decide) k_) ?_
      exact Go.retN X0 hx (t := .boolean) hret (by simp) hlk (hb hby d3_15) (by decide) (by decide) (by rw [e0]; exact ⟨by simp_all [nar], N0, rfl⟩)
abbrev EX (c : Int32) : Prop := ¬ (c < (0 : Int32) ∨ (983039 : Int32) < c ∨ (¬ c < (0 : Int32) ∧ ¬ (64 : Int32) < c) ∨ (¬ c < (91 : Int32) ∧ ¬ (94 : Int32) < c) ∨ c = (96 : Int32) ∨ (¬ c < (123 : Int32) ∧ ¬ (191 : Int32) < c) ∨ c = (215 : Int32) ∨ c = (247 : Int32) ∨ (¬ c < (768 : Int32) ∧ ¬ (879 : Int32) < c) ∨ c = (894 : Int32) ∨ (¬ c < (8192 : Int32) ∧ ¬ (8203 : Int32) < c) ∨ (¬ c < (8206 : Int32) ∧ ¬ (8303 : Int32) < c) ∨ (¬ c < (8592 : Int32) ∧ ¬ (11263 : Int32) < c) ∨ (¬ c < (12272 : Int32) ∧ ¬ (12288 : Int32) < c) ∨ (¬ c < (55296 : Int32) ∧ ¬ (63743 : Int32) < c) ∨ (¬ c < (64976 : Int32) ∧ ¬ (65007 : Int32) < c) ∨ (¬ c < (65534 : Int32) ∧ ¬ (65535 : Int32) < c))
theorem ef_rm2 (m : MethodId) (x0 : Int32) : entryFrame m #[(.int x0)] 1 = mkF m 0 #[.val (.int x0)] [] := by first | (simp [entryFrame, mkF, argsToLocals, Value.category]; done) | rfl
set_option maxRecDepth 65536 in
set_option maxHeartbeats 40000000 in
theorem rm2 (l : Launch) (Z : State) (a0 : Array Value) (hw : ∀ d ∈ tables_1, d.before a0 Z = true) (p0 : Int32) (h0 : Heap) (n0 : Nat) (Z0 : n0 ≤ h0.size) :
    Con l Z (⟨"com/example/quillon/quillon/model/XmlCharsIsNameStartCharPinLaw", "expected", "(I)Z"⟩ : MethodName) method_4_code 1 (some .boolean) [] ({ frames := 1, cells := 0, slots := 0, locals := 40 } : Room) #[(.int p0)] h0 (fun v h L => v = some (.int (if EX p0 then (1 : Int32) else (0 : Int32))) ∧ Fr n0 L ∧ h = h0) := by
  refine Con.mk (plainFor_of_name pn1) ?_
  intro p e s m below meth c T0 hx hby hml hown hnm hret hlk hZ X0 e0
  have hown : s.vm.findClass "com/example/quillon/quillon/model/XmlCharsIsNameStartCharPinLaw" = some m.cls := hown
  have hnm : meth.name = "expected" := hnm
  have N0 := Fr.nil n0
  refine Go.cast (ef_rm2 m p0) ?_
  refine Go.st (S' := T0.setTop (mkF m 1 #[.val (.int p0)] [(.int p0)])) (fun _ k_ => XS.iloadN X0.here hx rfl (hb hby d2_0) rfl k_) ?_
  by_cases hc1 : p0 < (0 : Int32)
  · skip
    refine Go.st (S' := T0.setTop (mkF m 10 #[.val (.int p0)] [])) (fun _ k_ => XS.ifYes X0.here hx rfl (pc0 := 1) (pc' := 10) rfl (hb hby d2_1) rfl ((if0 _ _).trans (tlt hc1).1) (by decide) (by decide) k_) ?_
    refine Go.st (S' := T0.setTop (mkF m 11 #[.val (.int p0)] [(.int (0 : Int32))])) (fun _ k_ => XS.iconst X0.here hx rfl (hb hby d2_10) k_) ?_
    exact Go.retN X0 hx (t := .boolean) hret (by simp) hlk (hb hby d2_11) (by decide) (by decide) (by rw [e0]; exact ⟨by rw [if_neg (fun z => z (Or.inl hc1))]; rfl, N0, rfl⟩)
  · skip
    refine Go.st (S' := T0.setTop (mkF m 4 #[.val (.int p0)] [])) (fun _ k_ => XS.ifNo X0.here hx rfl (hb hby d2_1) rfl ((if0 _ _).trans (flt hc1).1) k_) ?_
    refine Go.st (S' := T0.setTop (mkF m 5 #[.val (.int p0)] [(.int p0)])) (fun _ k_ => XS.iloadN X0.here hx rfl (hb hby d2_4) rfl k_) ?_
    refine Go.st (S' := T0.setTop (mkF m 7 #[.val (.int p0)] [(.int (983039 : Int32)), (.int p0)])) (X0.ldcInt hx hown (mvT hZ (w12 hw)) (g := (mkF m 5 #[.val (.int p0)] [(.int p0)])) rfl (hb hby d2_5)) ?_
    by_cases hc7 : (983039 : Int32) < p0
    · skip
      refine Go.st (S' := T0.setTop (mkF m 10 #[.val (.int p0)] [])) (fun _ k_ => XS.icmpNo X0.here hx rfl (hb hby d2_7) rfl (tlt hc7).2.2.2 k_) ?_
      refine Go.st (S' := T0.setTop (mkF m 11 #[.val (.int p0)] [(.int (0 : Int32))])) (fun _ k_ => XS.iconst X0.here hx rfl (hb hby d2_10) k_) ?_
      exact Go.retN X0 hx (t := .boolean) hret (by simp) hlk (hb hby d2_11) (by decide) (by decide) (by rw [e0]; exact ⟨by rw [if_neg (fun z => z (Or.inr (Or.inl hc7)))]; rfl, N0, rfl⟩)
    · skip
      refine Go.st (S' := T0.setTop (mkF m 12 #[.val (.int p0)] [])) (fun _ k_ => XS.icmpYes X0.here hx rfl (pc0 := 7) (pc' := 12) rfl (hb hby d2_7) rfl (flt hc7).2.2.2 (by decide) (by decide) k_) ?_
      refine Go.st (S' := T0.setTop (mkF m 13 #[.val (.int p0)] [(.int p0)])) (fun _ k_ => XS.iloadN X0.here hx rfl (hb hby d2_12) rfl k_) ?_
      refine Go.st (S' := T0.setTop (mkF m 14 #[.val (.int p0)] [(.int (0 : Int32)), (.int p0)])) (fun _ k_ => XS.iconst X0.here hx rfl (hb hby d2_13) k_) ?_
      refine Go.st (S' := T0.setTop (mkF m 16 #[.val (.int p0)] [(.int (64 : Int32)), (.int (0 : Int32)), (.int p0)])) (fun _ k_ => XS.bipush X0.here hx rfl (hb hby d2_14) k_) ?_
      obtain ⟨v11, T11, h11, L11, X11, e11, hQ11, st11⟩ := callSt X0 hx hZ hown (w13 hw) (w14 hw) (w10 hw) (w15 hw) (by decide) (W := 0) (argsL := [(.int p0), (.int (0 : Int32)), (.int (64 : Int32))]) (rest := []) e0 (rm3 l Z a0 hw p0 (0 : Int32) (64 : Int32) h0 n0 Z0) (by decide) (by decide) pd0 rfl (g := (mkF m 16 #[.val (.int p0)] [(.int (64 : Int32)), (.int (0 : Int32)), (.int p0)])) rfl (by rw [hml]; rfl) rfl (by show 2 * 0 + _ ≤ _; exact Nat.le_of_eq rfl) (hb hby d2_16) (by decide) (by decide)
      obtain ⟨rfl, Nq11, hh11⟩ := hQ11
      rw [hh11] at e11
      have N11 := Fr.app N0 Nq11
      refine Go.st (S' := T11.setTop (mkF m 19 #[.val (.int p0)] [(.int (if (¬ p0 < (0 : Int32) ∧ ¬ (64 : Int32) < p0) then (1 : Int32) else (0 : Int32)))])) (st11) ?_
      by_cases hc19 : (¬ p0 < (0 : Int32) ∧ ¬ (64 : Int32) < p0)
      · skip
        refine Go.st (S' := T11.setTop (mkF m 51 #[.val (.int p0)] [])) (fun _ k_ => XS.ifYes X11.here hx rfl (pc0 := 19) (pc' := 51) rfl (hb hby d2_19) rfl ((if0 _ _).trans (feq (own_if1 hc19)).2) (by decide) (by decide) k_) ?_
        refine Go.st (S' := T11.setTop (mkF m 52 #[.val (.int p0)] [(.int (0 : Int32))])) (fun _ k_ => XS.iconst X11.here hx rfl (hb hby d2_51) k_) ?_
        exact Go.retN X11 hx (t := .boolean) hret (by simp) hlk (hb hby d2_52) (by decide) (by decide) (by rw [e11]; exact ⟨by rw [if_neg (fun z => z (Or.inr (Or.inr (Or.inl hc19))))]; rfl, N11, rfl⟩)
      · skip
        refine Go.st (S' := T11.setTop (mkF m 22 #[.val (.int p0)] [])) (fun _ k_ => XS.ifNo X11.here hx rfl (hb hby d2_19) rfl ((if0 _ _).trans (teq (own_if0 hc19)).2) k_) ?_
        refine Go.st (S' := T11.setTop (mkF m 23 #[.val (.int p0)] [(.int p0)])) (fun _ k_ => XS.iloadN X11.here hx rfl (hb hby d2_22) rfl k_) ?_
        refine Go.st (S' := T11.setTop (mkF m 25 #[.val (.int p0)] [(.int (91 : Int32)), (.int p0)])) (fun _ k_ => XS.bipush X11.here hx rfl (hb hby d2_23) k_) ?_
        refine Go.st (S' := T11.setTop (mkF m 27 #[.val (.int p0)] [(.int (94 : Int32)), (.int (91 : Int32)), (.int p0)])) (fun _ k_ => XS.bipush X11.here hx rfl (hb hby d2_25) k_) ?_
        obtain ⟨v12, T12, h12, L12, X12, e12, hQ12, st12⟩ := callSt X11 hx hZ hown (w13 hw) (w14 hw) (w10 hw) (w15 hw) (by decide) (W := 0) (argsL := [(.int p0), (.int (91 : Int32)), (.int (94 : Int32))]) (rest := []) e11 (rm3 l Z a0 hw p0 (91 : Int32) (94 : Int32) h0 n0 Z0) (by decide) (by decide) pd0 rfl (g := (mkF m 27 #[.val (.int p0)] [(.int (94 : Int32)), (.int (91 : Int32)), (.int p0)])) rfl (by rw [hml]; rfl) rfl (by show 2 * 0 + _ ≤ _; exact Nat.le_of_eq rfl) (hb hby d2_27) (by decide) (by decide)
        obtain ⟨rfl, Nq12, hh12⟩ := hQ12
        rw [hh12] at e12
        have N12 := Fr.app N11 Nq12
        refine Go.st (S' := T12.setTop (mkF m 30 #[.val (.int p0)] [(.int (if (¬ p0 < (91 : Int32) ∧ ¬ (94 : Int32) < p0) then (1 : Int32) else (0 : Int32)))])) (st12) ?_
        by_cases hc30 : (¬ p0 < (91 : Int32) ∧ ¬ (94 : Int32) < p0)
        · skip
          refine Go.st (S' := T12.setTop (mkF m 51 #[.val (.int p0)] [])) (fun _ k_ => XS.ifYes X12.here hx rfl (pc0 := 30) (pc' := 51) rfl (hb hby d2_30) rfl ((if0 _ _).trans (feq (own_if1 hc30)).2) (by decide) (by decide) k_) ?_
          refine Go.st (S' := T12.setTop (mkF m 52 #[.val (.int p0)] [(.int (0 : Int32))])) (fun _ k_ => XS.iconst X12.here hx rfl (hb hby d2_51) k_) ?_
          exact Go.retN X12 hx (t := .boolean) hret (by simp) hlk (hb hby d2_52) (by decide) (by decide) (by rw [e12]; exact ⟨by rw [if_neg (fun z => z (Or.inr (Or.inr (Or.inr (Or.inl hc30)))))]; rfl, N12, rfl⟩)
        · skip
          refine Go.st (S' := T12.setTop (mkF m 33 #[.val (.int p0)] [])) (fun _ k_ => XS.ifNo X12.here hx rfl (hb hby d2_30) rfl ((if0 _ _).trans (teq (own_if0 hc30)).2) k_) ?_
          refine Go.st (S' := T12.setTop (mkF m 34 #[.val (.int p0)] [(.int p0)])) (fun _ k_ => XS.iloadN X12.here hx rfl (hb hby d2_33) rfl k_) ?_
          refine Go.st (S' := T12.setTop (mkF m 36 #[.val (.int p0)] [(.int (96 : Int32)), (.int p0)])) (fun _ k_ => XS.bipush X12.here hx rfl (hb hby d2_34) k_) ?_
          by_cases hc36 : p0 = (96 : Int32)
          · skip
            refine Go.st (S' := T12.setTop (mkF m 51 #[.val (.int p0)] [])) (fun _ k_ => XS.icmpYes X12.here hx rfl (pc0 := 36) (pc' := 51) rfl (hb hby d2_36) rfl (teq hc36).1 (by decide) (by decide) k_) ?_
            refine Go.st (S' := T12.setTop (mkF m 52 #[.val (.int p0)] [(.int (0 : Int32))])) (fun _ k_ => XS.iconst X12.here hx rfl (hb hby d2_51) k_) ?_
            exact Go.retN X12 hx (t := .boolean) hret (by simp) hlk (hb hby d2_52) (by decide) (by decide) (by rw [e12]; exact ⟨by rw [if_neg (fun z => z (Or.inr (Or.inr (Or.inr (Or.inr (Or.inl hc36))))))]; rfl, N12, rfl⟩)
          · skip
            refine Go.st (S' := T12.setTop (mkF m 39 #[.val (.int p0)] [])) (fun _ k_ => XS.icmpNo X12.here hx rfl (hb hby d2_36) rfl (feq hc36).1 k_) ?_
            refine Go.st (S' := T12.setTop (mkF m 40 #[.val (.int p0)] [(.int p0)])) (fun _ k_ => XS.iloadN X12.here hx rfl (hb hby d2_39) rfl k_) ?_
            refine Go.st (S' := T12.setTop (mkF m 42 #[.val (.int p0)] [(.int (123 : Int32)), (.int p0)])) (fun _ k_ => XS.bipush X12.here hx rfl (hb hby d2_40) k_) ?_
            refine Go.st (S' := T12.setTop (mkF m 45 #[.val (.int p0)] [(.int (191 : Int32)), (.int (123 : Int32)), (.int p0)])) (fun _ k_ => XS.sipush X12.here hx rfl (hb hby d2_42) k_) ?_
            obtain ⟨v13, T13, h13, L13, X13, e13, hQ13, st13⟩ := callSt X12 hx hZ hown (w13 hw) (w14 hw) (w10 hw) (w15 hw) (by decide) (W := 0) (argsL := [(.int p0), (.int (123 : Int32)), (.int (191 : Int32))]) (rest := []) e12 (rm3 l Z a0 hw p0 (123 : Int32) (191 : Int32) h0 n0 Z0) (by decide) (by decide) pd0 rfl (g := (mkF m 45 #[.val (.int p0)] [(.int (191 : Int32)), (.int (123 : Int32)), (.int p0)])) rfl (by rw [hml]; rfl) rfl (by show 2 * 0 + _ ≤ _; exact Nat.le_of_eq rfl) (hb hby d2_45) (by decide) (by decide)
            obtain ⟨rfl, Nq13, hh13⟩ := hQ13
            rw [hh13] at e13
            have N13 := Fr.app N12 Nq13
            refine Go.st (S' := T13.setTop (mkF m 48 #[.val (.int p0)] [(.int (if (¬ p0 < (123 : Int32) ∧ ¬ (191 : Int32) < p0) then (1 : Int32) else (0 : Int32)))])) (st13) ?_
            by_cases hc48 : (¬ p0 < (123 : Int32) ∧ ¬ (191 : Int32) < p0)
            · skip
              refine Go.st (S' := T13.setTop (mkF m 51 #[.val (.int p0)] [])) (fun _ k_ => XS.ifNo X13.here hx rfl (hb hby d2_48) rfl ((if0 _ _).trans (feq (own_if1 hc48)).1) k_) ?_
              refine Go.st (S' := T13.setTop (mkF m 52 #[.val (.int p0)] [(.int (0 : Int32))])) (fun _ k_ => XS.iconst X13.here hx rfl (hb hby d2_51) k_) ?_
              exact Go.retN X13 hx (t := .boolean) hret (by simp) hlk (hb hby d2_52) (by decide) (by decide) (by rw [e13]; exact ⟨by rw [if_neg (fun z => z (Or.inr (Or.inr (Or.inr (Or.inr (Or.inr (Or.inl hc48)))))))]; rfl, N13, rfl⟩)
            · skip
              refine Go.st (S' := T13.setTop (mkF m 53 #[.val (.int p0)] [])) (fun _ k_ => XS.ifYes X13.here hx rfl (pc0 := 48) (pc' := 53) rfl (hb hby d2_48) rfl ((if0 _ _).trans (teq (own_if0 hc48)).1) (by decide) (by decide) k_) ?_
              refine Go.st (S' := T13.setTop (mkF m 54 #[.val (.int p0)] [(.int p0)])) (fun _ k_ => XS.iloadN X13.here hx rfl (hb hby d2_53) rfl k_) ?_
              refine Go.st (S' := T13.setTop (mkF m 57 #[.val (.int p0)] [(.int (215 : Int32)), (.int p0)])) (fun _ k_ => XS.sipush X13.here hx rfl (hb hby d2_54) k_) ?_
              by_cases hc57 : p0 = (215 : Int32)
              · skip
                refine Go.st (S' := T13.setTop (mkF m 87 #[.val (.int p0)] [])) (fun _ k_ => XS.icmpYes X13.here hx rfl (pc0 := 57) (pc' := 87) rfl (hb hby d2_57) rfl (teq hc57).1 (by decide) (by decide) k_) ?_
                refine Go.st (S' := T13.setTop (mkF m 88 #[.val (.int p0)] [(.int (0 : Int32))])) (fun _ k_ => XS.iconst X13.here hx rfl (hb hby d2_87) k_) ?_
                exact Go.retN X13 hx (t := .boolean) hret (by simp) hlk (hb hby d2_88) (by decide) (by decide) (by rw [e13]; exact ⟨by rw [if_neg (fun z => z (Or.inr (Or.inr (Or.inr (Or.inr (Or.inr (Or.inr (Or.inl hc57))))))))]; rfl, N13, rfl⟩)
              · skip
                refine Go.st (S' := T13.setTop (mkF m 60 #[.val (.int p0)] [])) (fun _ k_ => XS.icmpNo X13.here hx rfl (hb hby d2_57) rfl (feq hc57).1 k_) ?_
                refine Go.st (S' := T13.setTop (mkF m 61 #[.val (.int p0)] [(.int p0)])) (fun _ k_ => XS.iloadN X13.here hx rfl (hb hby d2_60) rfl k_) ?_
                refine Go.st (S' := T13.setTop (mkF m 64 #[.val (.int p0)] [(.int (247 : Int32)), (.int p0)])) (fun _ k_ => XS.sipush X13.here hx rfl (hb hby d2_61) k_) ?_
                by_cases hc64 : p0 = (247 : Int32)
                · skip
                  refine Go.st (S' := T13.setTop (mkF m 87 #[.val (.int p0)] [])) (fun _ k_ => XS.icmpYes X13.here hx rfl (pc0 := 64) (pc' := 87) rfl (hb hby d2_64) rfl (teq hc64).1 (by decide) (by decide) k_) ?_
                  refine Go.st (S' := T13.setTop (mkF m 88 #[.val (.int p0)] [(.int (0 : Int32))])) (fun _ k_ => XS.iconst X13.here hx rfl (hb hby d2_87) k_) ?_
                  exact Go.retN X13 hx (t := .boolean) hret (by simp) hlk (hb hby d2_88) (by decide) (by decide) (by rw [e13]; exact ⟨by rw [if_neg (fun z => z (Or.inr (Or.inr (Or.inr (Or.inr (Or.inr (Or.inr (Or.inr (Or.inl hc64)))))))))]; rfl, N13, rfl⟩)
                · skip
                  refine Go.st (S' := T13.setTop (mkF m 67 #[.val (.int p0)] [])) (fun _ k_ => XS.icmpNo X13.here hx rfl (hb hby d2_64) rfl (feq hc64).1 k_) ?_
                  refine Go.st (S' := T13.setTop (mkF m 68 #[.val (.int p0)] [(.int p0)])) (fun _ k_ => XS.iloadN X13.here hx rfl (hb hby d2_67) rfl k_) ?_
                  refine Go.st (S' := T13.setTop (mkF m 71 #[.val (.int p0)] [(.int (768 : Int32)), (.int p0)])) (fun _ k_ => XS.sipush X13.here hx rfl (hb hby d2_68) k_) ?_
                  refine Go.st (S' := T13.setTop (mkF m 74 #[.val (.int p0)] [(.int (879 : Int32)), (.int (768 : Int32)), (.int p0)])) (fun _ k_ => XS.sipush X13.here hx rfl (hb hby d2_71) k_) ?_
                  obtain ⟨v14, T14, h14, L14, X14, e14, hQ14, st14⟩ := callSt X13 hx hZ hown (w13 hw) (w14 hw) (w10 hw) (w15 hw) (by decide) (W := 0) (argsL := [(.int p0), (.int (768 : Int32)), (.int (879 : Int32))]) (rest := []) e13 (rm3 l Z a0 hw p0 (768 : Int32) (879 : Int32) h0 n0 Z0) (by decide) (by decide) pd0 rfl (g := (mkF m 74 #[.val (.int p0)] [(.int (879 : Int32)), (.int (768 : Int32)), (.int p0)])) rfl (by rw [hml]; rfl) rfl (by show 2 * 0 + _ ≤ _; exact Nat.le_of_eq rfl) (hb hby d2_74) (by decide) (by decide)
                  obtain ⟨rfl, Nq14, hh14⟩ := hQ14
                  rw [hh14] at e14
                  have N14 := Fr.app N13 Nq14
                  refine Go.st (S' := T14.setTop (mkF m 77 #[.val (.int p0)] [(.int (if (¬ p0 < (768 : Int32) ∧ ¬ (879 : Int32) < p0) then (1 : Int32) else (0 : Int32)))])) (st14) ?_
                  by_cases hc77 : (¬ p0 < (768 : Int32) ∧ ¬ (879 : Int32) < p0)
                  · skip
                    refine Go.st (S' := T14.setTop (mkF m 87 #[.val (.int p0)] [])) (fun _ k_ => XS.ifYes X14.here hx rfl (pc0 := 77) (pc' := 87) rfl (hb hby d2_77) rfl ((if0 _ _).trans (feq (own_if1 hc77)).2) (by decide) (by decide) k_) ?_
                    refine Go.st (S' := T14.setTop (mkF m 88 #[.val (.int p0)] [(.int (0 : Int32))])) (fun _ k_ => XS.iconst X14.here hx rfl (hb hby d2_87) k_) ?_
                    exact Go.retN X14 hx (t := .boolean) hret (by simp) hlk (hb hby d2_88) (by decide) (by decide) (by rw [e14]; exact ⟨by rw [if_neg (fun z => z (Or.inr (Or.inr (Or.inr (Or.inr (Or.inr (Or.inr (Or.inr (Or.inr (Or.inl hc77))))))))))]; rfl, N14, rfl⟩)
                  · skip
                    refine Go.st (S' := T14.setTop (mkF m 80 #[.val (.int p0)] [])) (fun _ k_ => XS.ifNo X14.here hx rfl (hb hby d2_77) rfl ((if0 _ _).trans (teq (own_if0 hc77)).2) k_) ?_
                    refine Go.st (S' := T14.setTop (mkF m 81 #[.val (.int p0)] [(.int p0)])) (fun _ k_ => XS.iloadN X14.here hx rfl (hb hby d2_80) rfl k_) ?_
                    refine Go.st (S' := T14.setTop (mkF m 84 #[.val (.int p0)] [(.int (894 : Int32)), (.int p0)])) (fun _ k_ => XS.sipush X14.here hx rfl (hb hby d2_81) k_) ?_
                    by_cases hc84 : p0 = (894 : Int32)
                    · skip
                      refine Go.st (S' := T14.setTop (mkF m 87 #[.val (.int p0)] [])) (fun _ k_ => XS.icmpNo X14.here hx rfl (hb hby d2_84) rfl (teq hc84).2 k_) ?_
                      refine Go.st (S' := T14.setTop (mkF m 88 #[.val (.int p0)] [(.int (0 : Int32))])) (fun _ k_ => XS.iconst X14.here hx rfl (hb hby d2_87) k_) ?_
                      exact Go.retN X14 hx (t := .boolean) hret (by simp) hlk (hb hby d2_88) (by decide) (by decide) (by rw [e14]; exact ⟨by rw [if_neg (fun z => z (Or.inr (Or.inr (Or.inr (Or.inr (Or.inr (Or.inr (Or.inr (Or.inr (Or.inr (Or.inl hc84)))))))))))]; rfl, N14, rfl⟩)
                    · skip
                      refine Go.st (S' := T14.setTop (mkF m 89 #[.val (.int p0)] [])) (fun _ k_ => XS.icmpYes X14.here hx rfl (pc0 := 84) (pc' := 89) rfl (hb hby d2_84) rfl (feq hc84).2 (by decide) (by decide) k_) ?_
                      refine Go.st (S' := T14.setTop (mkF m 90 #[.val (.int p0)] [(.int p0)])) (fun _ k_ => XS.iloadN X14.here hx rfl (hb hby d2_89) rfl k_) ?_
                      refine Go.st (S' := T14.setTop (mkF m 93 #[.val (.int p0)] [(.int (8192 : Int32)), (.int p0)])) (fun _ k_ => XS.sipush X14.here hx rfl (hb hby d2_90) k_) ?_
                      refine Go.st (S' := T14.setTop (mkF m 96 #[.val (.int p0)] [(.int (8203 : Int32)), (.int (8192 : Int32)), (.int p0)])) (fun _ k_ => XS.sipush X14.here hx rfl (hb hby d2_93) k_) ?_
                      obtain ⟨v15, T15, h15, L15, X15, e15, hQ15, st15⟩ := callSt X14 hx hZ hown (w13 hw) (w14 hw) (w10 hw) (w15 hw) (by decide) (W := 0) (argsL := [(.int p0), (.int (8192 : Int32)), (.int (8203 : Int32))]) (rest := []) e14 (rm3 l Z a0 hw p0 (8192 : Int32) (8203 : Int32) h0 n0 Z0) (by decide) (by decide) pd0 rfl (g := (mkF m 96 #[.val (.int p0)] [(.int (8203 : Int32)), (.int (8192 : Int32)), (.int p0)])) rfl (by rw [hml]; rfl) rfl (by show 2 * 0 + _ ≤ _; exact Nat.le_of_eq rfl) (hb hby d2_96) (by decide) (by decide)
                      obtain ⟨rfl, Nq15, hh15⟩ := hQ15
                      rw [hh15] at e15
                      have N15 := Fr.app N14 Nq15
                      refine Go.st (S' := T15.setTop (mkF m 99 #[.val (.int p0)] [(.int (if (¬ p0 < (8192 : Int32) ∧ ¬ (8203 : Int32) < p0) then (1 : Int32) else (0 : Int32)))])) (st15) ?_
                      by_cases hc99 : (¬ p0 < (8192 : Int32) ∧ ¬ (8203 : Int32) < p0)
                      · skip
                        refine Go.st (S' := T15.setTop (mkF m 141 #[.val (.int p0)] [])) (fun _ k_ => XS.ifYes X15.here hx rfl (pc0 := 99) (pc' := 141) rfl (hb hby d2_99) rfl ((if0 _ _).trans (feq (own_if1 hc99)).2) (by decide) (by decide) k_) ?_
                        refine Go.st (S' := T15.setTop (mkF m 142 #[.val (.int p0)] [(.int (0 : Int32))])) (fun _ k_ => XS.iconst X15.here hx rfl (hb hby d2_141) k_) ?_
                        exact Go.retN X15 hx (t := .boolean) hret (by simp) hlk (hb hby d2_142) (by decide) (by decide) (by rw [e15]; exact ⟨by rw [if_neg (fun z => z (Or.inr (Or.inr (Or.inr (Or.inr (Or.inr (Or.inr (Or.inr (Or.inr (Or.inr (Or.inr (Or.inl hc99))))))))))))]; rfl, N15, rfl⟩)
                      · skip
                        refine Go.st (S' := T15.setTop (mkF m 102 #[.val (.int p0)] [])) (fun _ k_ => XS.ifNo X15.here hx rfl (hb hby d2_99) rfl ((if0 _ _).trans (teq (own_if0 hc99)).2) k_) ?_
                        refine Go.st (S' := T15.setTop (mkF m 103 #[.val (.int p0)] [(.int p0)])) (fun _ k_ => XS.iloadN X15.here hx rfl (hb hby d2_102) rfl k_) ?_
                        refine Go.st (S' := T15.setTop (mkF m 106 #[.val (.int p0)] [(.int (8206 : Int32)), (.int p0)])) (fun _ k_ => XS.sipush X15.here hx rfl (hb hby d2_103) k_) ?_
                        refine Go.st (S' := T15.setTop (mkF m 109 #[.val (.int p0)] [(.int (8303 : Int32)), (.int (8206 : Int32)), (.int p0)])) (fun _ k_ => XS.sipush X15.here hx rfl (hb hby d2_106) k_) ?_
                        obtain ⟨v16, T16, h16, L16, X16, e16, hQ16, st16⟩ := callSt X15 hx hZ hown (w13 hw) (w14 hw) (w10 hw) (w15 hw) (by decide) (W := 0) (argsL := [(.int p0), (.int (8206 : Int32)), (.int (8303 : Int32))]) (rest := []) e15 (rm3 l Z a0 hw p0 (8206 : Int32) (8303 : Int32) h0 n0 Z0) (by decide) (by decide) pd0 rfl (g := (mkF m 109 #[.val (.int p0)] [(.int (8303 : Int32)), (.int (8206 : Int32)), (.int p0)])) rfl (by rw [hml]; rfl) rfl (by show 2 * 0 + _ ≤ _; exact Nat.le_of_eq rfl) (hb hby d2_109) (by decide) (by decide)
                        obtain ⟨rfl, Nq16, hh16⟩ := hQ16
                        rw [hh16] at e16
                        have N16 := Fr.app N15 Nq16
                        refine Go.st (S' := T16.setTop (mkF m 112 #[.val (.int p0)] [(.int (if (¬ p0 < (8206 : Int32) ∧ ¬ (8303 : Int32) < p0) then (1 : Int32) else (0 : Int32)))])) (st16) ?_
                        by_cases hc112 : (¬ p0 < (8206 : Int32) ∧ ¬ (8303 : Int32) < p0)
                        · skip
                          refine Go.st (S' := T16.setTop (mkF m 141 #[.val (.int p0)] [])) (fun _ k_ => XS.ifYes X16.here hx rfl (pc0 := 112) (pc' := 141) rfl (hb hby d2_112) rfl ((if0 _ _).trans (feq (own_if1 hc112)).2) (by decide) (by decide) k_) ?_
                          refine Go.st (S' := T16.setTop (mkF m 142 #[.val (.int p0)] [(.int (0 : Int32))])) (fun _ k_ => XS.iconst X16.here hx rfl (hb hby d2_141) k_) ?_
                          exact Go.retN X16 hx (t := .boolean) hret (by simp) hlk (hb hby d2_142) (by decide) (by decide) (by rw [e16]; exact ⟨by rw [if_neg (fun z => z (Or.inr (Or.inr (Or.inr (Or.inr (Or.inr (Or.inr (Or.inr (Or.inr (Or.inr (Or.inr (Or.inr (Or.inl hc112)))))))))))))]; rfl, N16, rfl⟩)
                        · skip
                          refine Go.st (S' := T16.setTop (mkF m 115 #[.val (.int p0)] [])) (fun _ k_ => XS.ifNo X16.here hx rfl (hb hby d2_112) rfl ((if0 _ _).trans (teq (own_if0 hc112)).2) k_) ?_
                          refine Go.st (S' := T16.setTop (mkF m 116 #[.val (.int p0)] [(.int p0)])) (fun _ k_ => XS.iloadN X16.here hx rfl (hb hby d2_115) rfl k_) ?_
                          refine Go.st (S' := T16.setTop (mkF m 119 #[.val (.int p0)] [(.int (8592 : Int32)), (.int p0)])) (fun _ k_ => XS.sipush X16.here hx rfl (hb hby d2_116) k_) ?_
                          refine Go.st (S' := T16.setTop (mkF m 122 #[.val (.int p0)] [(.int (11263 : Int32)), (.int (8592 : Int32)), (.int p0)])) (fun _ k_ => XS.sipush X16.here hx rfl (hb hby d2_119) k_) ?_
                          obtain ⟨v17, T17, h17, L17, X17, e17, hQ17, st17⟩ := callSt X16 hx hZ hown (w13 hw) (w14 hw) (w10 hw) (w15 hw) (by decide) (W := 0) (argsL := [(.int p0), (.int (8592 : Int32)), (.int (11263 : Int32))]) (rest := []) e16 (rm3 l Z a0 hw p0 (8592 : Int32) (11263 : Int32) h0 n0 Z0) (by decide) (by decide) pd0 rfl (g := (mkF m 122 #[.val (.int p0)] [(.int (11263 : Int32)), (.int (8592 : Int32)), (.int p0)])) rfl (by rw [hml]; rfl) rfl (by show 2 * 0 + _ ≤ _; exact Nat.le_of_eq rfl) (hb hby d2_122) (by decide) (by decide)
                          obtain ⟨rfl, Nq17, hh17⟩ := hQ17
                          rw [hh17] at e17
                          have N17 := Fr.app N16 Nq17
                          refine Go.st (S' := T17.setTop (mkF m 125 #[.val (.int p0)] [(.int (if (¬ p0 < (8592 : Int32) ∧ ¬ (11263 : Int32) < p0) then (1 : Int32) else (0 : Int32)))])) (st17) ?_
                          by_cases hc125 : (¬ p0 < (8592 : Int32) ∧ ¬ (11263 : Int32) < p0)
                          · skip
                            refine Go.st (S' := T17.setTop (mkF m 141 #[.val (.int p0)] [])) (fun _ k_ => XS.ifYes X17.here hx rfl (pc0 := 125) (pc' := 141) rfl (hb hby d2_125) rfl ((if0 _ _).trans (feq (own_if1 hc125)).2) (by decide) (by decide) k_) ?_
                            refine Go.st (S' := T17.setTop (mkF m 142 #[.val (.int p0)] [(.int (0 : Int32))])) (fun _ k_ => XS.iconst X17.here hx rfl (hb hby d2_141) k_) ?_
                            exact Go.retN X17 hx (t := .boolean) hret (by simp) hlk (hb hby d2_142) (by decide) (by decide) (by rw [e17]; exact ⟨by rw [if_neg (fun z => z (Or.inr (Or.inr (Or.inr (Or.inr (Or.inr (Or.inr (Or.inr (Or.inr (Or.inr (Or.inr (Or.inr (Or.inr (Or.inl hc125))))))))))))))]; rfl, N17, rfl⟩)
                          · skip
                            refine Go.st (S' := T17.setTop (mkF m 128 #[.val (.int p0)] [])) (fun _ k_ => XS.ifNo X17.here hx rfl (hb hby d2_125) rfl ((if0 _ _).trans (teq (own_if0 hc125)).2) k_) ?_
                            refine Go.st (S' := T17.setTop (mkF m 129 #[.val (.int p0)] [(.int p0)])) (fun _ k_ => XS.iloadN X17.here hx rfl (hb hby d2_128) rfl k_) ?_
                            refine Go.st (S' := T17.setTop (mkF m 132 #[.val (.int p0)] [(.int (12272 : Int32)), (.int p0)])) (fun _ k_ => XS.sipush X17.here hx rfl (hb hby d2_129) k_) ?_
                            refine Go.st (S' := T17.setTop (mkF m 135 #[.val (.int p0)] [(.int (12288 : Int32)), (.int (12272 : Int32)), (.int p0)])) (fun _ k_ => XS.sipush X17.here hx rfl (hb hby d2_132) k_) ?_
                            obtain ⟨v18, T18, h18, L18, X18, e18, hQ18, st18⟩ := callSt X17 hx hZ hown (w13 hw) (w14 hw) (w10 hw) (w15 hw) (by decide) (W := 0) (argsL := [(.int p0), (.int (12272 : Int32)), (.int (12288 : Int32))]) (rest := []) e17 (rm3 l Z a0 hw p0 (12272 : Int32) (12288 : Int32) h0 n0 Z0) (by decide) (by decide) pd0 rfl (g := (mkF m 135 #[.val (.int p0)] [(.int (12288 : Int32)), (.int (12272 : Int32)), (.int p0)])) rfl (by rw [hml]; rfl) rfl (by show 2 * 0 + _ ≤ _; exact Nat.le_of_eq rfl) (hb hby d2_135) (by decide) (by decide)
                            obtain ⟨rfl, Nq18, hh18⟩ := hQ18
                            rw [hh18] at e18
                            have N18 := Fr.app N17 Nq18
                            refine Go.st (S' := T18.setTop (mkF m 138 #[.val (.int p0)] [(.int (if (¬ p0 < (12272 : Int32) ∧ ¬ (12288 : Int32) < p0) then (1 : Int32) else (0 : Int32)))])) (st18) ?_
                            by_cases hc138 : (¬ p0 < (12272 : Int32) ∧ ¬ (12288 : Int32) < p0)
                            · skip
                              refine Go.st (S' := T18.setTop (mkF m 141 #[.val (.int p0)] [])) (fun _ k_ => XS.ifNo X18.here hx rfl (hb hby d2_138) rfl ((if0 _ _).trans (feq (own_if1 hc138)).1) k_) ?_
                              refine Go.st (S' := T18.setTop (mkF m 142 #[.val (.int p0)] [(.int (0 : Int32))])) (fun _ k_ => XS.iconst X18.here hx rfl (hb hby d2_141) k_) ?_
                              exact Go.retN X18 hx (t := .boolean) hret (by simp) hlk (hb hby d2_142) (by decide) (by decide) (by rw [e18]; exact ⟨by rw [if_neg (fun z => z (Or.inr (Or.inr (Or.inr (Or.inr (Or.inr (Or.inr (Or.inr (Or.inr (Or.inr (Or.inr (Or.inr (Or.inr (Or.inr (Or.inl hc138)))))))))))))))]; rfl, N18, rfl⟩)
                            · skip
                              refine Go.st (S' := T18.setTop (mkF m 143 #[.val (.int p0)] [])) (fun _ k_ => XS.ifYes X18.here hx rfl (pc0 := 138) (pc' := 143) rfl (hb hby d2_138) rfl ((if0 _ _).trans (teq (own_if0 hc138)).1) (by decide) (by decide) k_) ?_
                              refine Go.st (S' := T18.setTop (mkF m 144 #[.val (.int p0)] [(.int p0)])) (fun _ k_ => XS.iloadN X18.here hx rfl (hb hby d2_143) rfl k_) ?_
                              refine Go.st (S' := T18.setTop (mkF m 146 #[.val (.int p0)] [(.int (55296 : Int32)), (.int p0)])) (X18.ldcInt hx hown (mvT hZ (w16 hw)) (g := (mkF m 144 #[.val (.int p0)] [(.int p0)])) rfl (hb hby d2_144)) ?_
                              refine Go.st (S' := T18.setTop (mkF m 148 #[.val (.int p0)] [(.int (63743 : Int32)), (.int (55296 : Int32)), (.int p0)])) (X18.ldcInt hx hown (mvT hZ (w17 hw)) (g := (mkF m 146 #[.val (.int p0)] [(.int (55296 : Int32)), (.int p0)])) rfl (hb hby d2_146)) ?_
                              obtain ⟨v19, T19, h19, L19, X19, e19, hQ19, st19⟩ := callSt X18 hx hZ hown (w13 hw) (w14 hw) (w10 hw) (w15 hw) (by decide) (W := 0) (argsL := [(.int p0), (.int (55296 : Int32)), (.int (63743 : Int32))]) (rest := []) e18 (rm3 l Z a0 hw p0 (55296 : Int32) (63743 : Int32) h0 n0 Z0) (by decide) (by decide) pd0 rfl (g := (mkF m 148 #[.val (.int p0)] [(.int (63743 : Int32)), (.int (55296 : Int32)), (.int p0)])) rfl (by rw [hml]; rfl) rfl (by show 2 * 0 + _ ≤ _; exact Nat.le_of_eq rfl) (hb hby d2_148) (by decide) (by decide)
                              obtain ⟨rfl, Nq19, hh19⟩ := hQ19
                              rw [hh19] at e19
                              have N19 := Fr.app N18 Nq19
                              refine Go.st (S' := T19.setTop (mkF m 151 #[.val (.int p0)] [(.int (if (¬ p0 < (55296 : Int32) ∧ ¬ (63743 : Int32) < p0) then (1 : Int32) else (0 : Int32)))])) (st19) ?_
                              by_cases hc151 : (¬ p0 < (55296 : Int32) ∧ ¬ (63743 : Int32) < p0)
                              · skip
                                refine Go.st (S' := T19.setTop (mkF m 176 #[.val (.int p0)] [])) (fun _ k_ => XS.ifYes X19.here hx rfl (pc0 := 151) (pc' := 176) rfl (hb hby d2_151) rfl ((if0 _ _).trans (feq (own_if1 hc151)).2) (by decide) (by decide) k_) ?_
                                refine Go.st (S' := T19.setTop (mkF m 177 #[.val (.int p0)] [(.int (0 : Int32))])) (fun _ k_ => XS.iconst X19.here hx rfl (hb hby d2_176) k_) ?_
                                exact Go.retN X19 hx (t := .boolean) hret (by simp) hlk (hb hby d2_177) (by decide) (by decide) (by rw [e19]; exact ⟨by rw [if_neg (fun z => z (Or.inr (Or.inr (Or.inr (Or.inr (Or.inr (Or.inr (Or.inr (Or.inr (Or.inr (Or.inr (Or.inr (Or.inr (Or.inr (Or.inr (Or.inl hc151))))))))))))))))]; rfl, N19, rfl⟩)
                              · skip
                                refine Go.st (S' := T19.setTop (mkF m 154 #[.val (.int p0)] [])) (fun _ k_ => XS.ifNo X19.here hx rfl (hb hby d2_151) rfl ((if0 _ _).trans (teq (own_if0 hc151)).2) k_) ?_
                                refine Go.st (S' := T19.setTop (mkF m 155 #[.val (.int p0)] [(.int p0)])) (fun _ k_ => XS.iloadN X19.here hx rfl (hb hby d2_154) rfl k_) ?_
                                refine Go.st (S' := T19.setTop (mkF m 157 #[.val (.int p0)] [(.int (64976 : Int32)), (.int p0)])) (X19.ldcInt hx hown (mvT hZ (w18 hw)) (g := (mkF m 155 #[.val (.int p0)] [(.int p0)])) rfl (hb hby d2_155)) ?_
                                refine Go.st (S' := T19.setTop (mkF m 159 #[.val (.int p0)] [(.int (65007 : Int32)), (.int (64976 : Int32)), (.int p0)])) (X19.ldcInt hx hown (mvT hZ (w19 hw)) (g := (mkF m 157 #[.val (.int p0)] [(.int (64976 : Int32)), (.int p0)])) rfl (hb hby d2_157)) ?_
                                obtain ⟨v20, T20, h20, L20, X20, e20, hQ20, st20⟩ := callSt X19 hx hZ hown (w13 hw) (w14 hw) (w10 hw) (w15 hw) (by decide) (W := 0) (argsL := [(.int p0), (.int (64976 : Int32)), (.int (65007 : Int32))]) (rest := []) e19 (rm3 l Z a0 hw p0 (64976 : Int32) (65007 : Int32) h0 n0 Z0) (by decide) (by decide) pd0 rfl (g := (mkF m 159 #[.val (.int p0)] [(.int (65007 : Int32)), (.int (64976 : Int32)), (.int p0)])) rfl (by rw [hml]; rfl) rfl (by show 2 * 0 + _ ≤ _; exact Nat.le_of_eq rfl) (hb hby d2_159) (by decide) (by decide)
                                obtain ⟨rfl, Nq20, hh20⟩ := hQ20
                                rw [hh20] at e20
                                have N20 := Fr.app N19 Nq20
                                refine Go.st (S' := T20.setTop (mkF m 162 #[.val (.int p0)] [(.int (if (¬ p0 < (64976 : Int32) ∧ ¬ (65007 : Int32) < p0) then (1 : Int32) else (0 : Int32)))])) (st20) ?_
                                by_cases hc162 : (¬ p0 < (64976 : Int32) ∧ ¬ (65007 : Int32) < p0)
                                · skip
                                  refine Go.st (S' := T20.setTop (mkF m 176 #[.val (.int p0)] [])) (fun _ k_ => XS.ifYes X20.here hx rfl (pc0 := 162) (pc' := 176) rfl (hb hby d2_162) rfl ((if0 _ _).trans (feq (own_if1 hc162)).2) (by decide) (by decide) k_) ?_
                                  refine Go.st (S' := T20.setTop (mkF m 177 #[.val (.int p0)] [(.int (0 : Int32))])) (fun _ k_ => XS.iconst X20.here hx rfl (hb hby d2_176) k_) ?_
                                  exact Go.retN X20 hx (t := .boolean) hret (by simp) hlk (hb hby d2_177) (by decide) (by decide) (by rw [e20]; exact ⟨by rw [if_neg (fun z => z (Or.inr (Or.inr (Or.inr (Or.inr (Or.inr (Or.inr (Or.inr (Or.inr (Or.inr (Or.inr (Or.inr (Or.inr (Or.inr (Or.inr (Or.inr (Or.inl hc162)))))))))))))))))]; rfl, N20, rfl⟩)
                                · skip
                                  refine Go.st (S' := T20.setTop (mkF m 165 #[.val (.int p0)] [])) (fun _ k_ => XS.ifNo X20.here hx rfl (hb hby d2_162) rfl ((if0 _ _).trans (teq (own_if0 hc162)).2) k_) ?_
                                  refine Go.st (S' := T20.setTop (mkF m 166 #[.val (.int p0)] [(.int p0)])) (fun _ k_ => XS.iloadN X20.here hx rfl (hb hby d2_165) rfl k_) ?_
                                  refine Go.st (S' := T20.setTop (mkF m 168 #[.val (.int p0)] [(.int (65534 : Int32)), (.int p0)])) (X20.ldcInt hx hown (mvT hZ (w20 hw)) (g := (mkF m 166 #[.val (.int p0)] [(.int p0)])) rfl (hb hby d2_166)) ?_
                                  refine Go.st (S' := T20.setTop (mkF m 170 #[.val (.int p0)] [(.int (65535 : Int32)), (.int (65534 : Int32)), (.int p0)])) (X20.ldcInt hx hown (mvT hZ (w21 hw)) (g := (mkF m 168 #[.val (.int p0)] [(.int (65534 : Int32)), (.int p0)])) rfl (hb hby d2_168)) ?_
                                  obtain ⟨v21, T21, h21, L21, X21, e21, hQ21, st21⟩ := callSt X20 hx hZ hown (w13 hw) (w14 hw) (w10 hw) (w15 hw) (by decide) (W := 0) (argsL := [(.int p0), (.int (65534 : Int32)), (.int (65535 : Int32))]) (rest := []) e20 (rm3 l Z a0 hw p0 (65534 : Int32) (65535 : Int32) h0 n0 Z0) (by decide) (by decide) pd0 rfl (g := (mkF m 170 #[.val (.int p0)] [(.int (65535 : Int32)), (.int (65534 : Int32)), (.int p0)])) rfl (by rw [hml]; rfl) rfl (by show 2 * 0 + _ ≤ _; exact Nat.le_of_eq rfl) (hb hby d2_170) (by decide) (by decide)
                                  obtain ⟨rfl, Nq21, hh21⟩ := hQ21
                                  rw [hh21] at e21
                                  have N21 := Fr.app N20 Nq21
                                  refine Go.st (S' := T21.setTop (mkF m 173 #[.val (.int p0)] [(.int (if (¬ p0 < (65534 : Int32) ∧ ¬ (65535 : Int32) < p0) then (1 : Int32) else (0 : Int32)))])) (st21) ?_
                                  by_cases hc173 : (¬ p0 < (65534 : Int32) ∧ ¬ (65535 : Int32) < p0)
                                  · skip
                                    refine Go.st (S' := T21.setTop (mkF m 176 #[.val (.int p0)] [])) (fun _ k_ => XS.ifNo X21.here hx rfl (hb hby d2_173) rfl ((if0 _ _).trans (feq (own_if1 hc173)).1) k_) ?_
                                    refine Go.st (S' := T21.setTop (mkF m 177 #[.val (.int p0)] [(.int (0 : Int32))])) (fun _ k_ => XS.iconst X21.here hx rfl (hb hby d2_176) k_) ?_
                                    exact Go.retN X21 hx (t := .boolean) hret (by simp) hlk (hb hby d2_177) (by decide) (by decide) (by rw [e21]; exact ⟨by rw [if_neg (fun z => z (Or.inr (Or.inr (Or.inr (Or.inr (Or.inr (Or.inr (Or.inr (Or.inr (Or.inr (Or.inr (Or.inr (Or.inr (Or.inr (Or.inr (Or.inr (Or.inr hc173)))))))))))))))))]; rfl, N21, rfl⟩)
                                  · skip
                                    refine Go.st (S' := T21.setTop (mkF m 178 #[.val (.int p0)] [])) (fun _ k_ => XS.ifYes X21.here hx rfl (pc0 := 173) (pc' := 178) rfl (hb hby d2_173) rfl ((if0 _ _).trans (teq (own_if0 hc173)).1) (by decide) (by decide) k_) ?_
                                    refine Go.st (S' := T21.setTop (mkF m 179 #[.val (.int p0)] [(.int (1 : Int32))])) (fun _ k_ => XS.iconst X21.here hx rfl (hb hby d2_178) k_) ?_
                                    exact Go.retN X21 hx (t := .boolean) hret (by simp) hlk (hb hby d2_179) (by decide) (by decide) (by rw [e21]; exact ⟨by rw [if_pos (fun z => by rcases z with z | z | z | z | z | z | z | z | z | z | z | z | z | z | z | z | z <;> first | exact absurd z hc1 | exact absurd z hc7 | exact absurd z hc19 | exact absurd z hc30 | exact absurd z hc36 | exact absurd z hc48 | exact absurd z hc57 | exact absurd z hc64 | exact absurd z hc77 | exact absurd z hc84 | exact absurd z hc99 | exact absurd z hc112 | exact absurd z hc125 | exact absurd z hc138 | exact absurd z hc151 | exact absurd z hc162 | exact absurd z hc173)]; rfl, N21, rfl⟩)
theorem own_same (c : Int32) : NS0 c ↔ EX c := by
  by_cases k15 : c < (895 : Int32)
  · skip
    by_cases k7 : c < (192 : Int32)
    · skip
      by_cases k3 : c < (95 : Int32)
      · skip
        by_cases k1 : c < (65 : Int32)
        · skip
          by_cases k0 : c < (0 : Int32)
          · skip
            exact iff_of_false (by rintro (⟨q, q'⟩ | ⟨q, q'⟩ | q | ⟨q, q'⟩ | ⟨q, q'⟩ | ⟨q, q'⟩ | ⟨q, q'⟩ | ⟨q, q'⟩ | ⟨q, q'⟩ | ⟨q, q'⟩ | ⟨q, q'⟩ | ⟨q, q'⟩ | ⟨q, q'⟩ | ⟨q, q'⟩ | ⟨q, q'⟩) <;> (simp only [Int32.lt_iff_toInt_lt, ← Int32.toInt_inj, Int32.reduceToInt] at *; omega)) (fun z => z (Or.inl (by simp only [Int32.lt_iff_toInt_lt, ← Int32.toInt_inj, Int32.reduceToInt] at *; omega)))
          · skip
            exact iff_of_false (by rintro (⟨q, q'⟩ | ⟨q, q'⟩ | q | ⟨q, q'⟩ | ⟨q, q'⟩ | ⟨q, q'⟩ | ⟨q, q'⟩ | ⟨q, q'⟩ | ⟨q, q'⟩ | ⟨q, q'⟩ | ⟨q, q'⟩ | ⟨q, q'⟩ | ⟨q, q'⟩ | ⟨q, q'⟩ | ⟨q, q'⟩) <;> (simp only [Int32.lt_iff_toInt_lt, ← Int32.toInt_inj, Int32.reduceToInt] at *; omega)) (fun z => z (Or.inr (Or.inr (Or.inl ⟨by simp only [Int32.lt_iff_toInt_lt, ← Int32.toInt_inj, Int32.reduceToInt] at *; omega, by simp only [Int32.lt_iff_toInt_lt, ← Int32.toInt_inj, Int32.reduceToInt] at *; omega⟩))))
        · skip
          by_cases k2 : c < (91 : Int32)
          · skip
            exact iff_of_true (Or.inr (Or.inl ⟨by simp only [Int32.lt_iff_toInt_lt, ← Int32.toInt_inj, Int32.reduceToInt] at *; omega, by simp only [Int32.lt_iff_toInt_lt, ← Int32.toInt_inj, Int32.reduceToInt] at *; omega⟩)) (by rintro (q | q | ⟨q, q'⟩ | ⟨q, q'⟩ | q | ⟨q, q'⟩ | q | q | ⟨q, q'⟩ | q | ⟨q, q'⟩ | ⟨q, q'⟩ | ⟨q, q'⟩ | ⟨q, q'⟩ | ⟨q, q'⟩ | ⟨q, q'⟩ | ⟨q, q'⟩) <;> (simp only [Int32.lt_iff_toInt_lt, ← Int32.toInt_inj, Int32.reduceToInt] at *; omega))
          · skip
            exact iff_of_false (by rintro (⟨q, q'⟩ | ⟨q, q'⟩ | q | ⟨q, q'⟩ | ⟨q, q'⟩ | ⟨q, q'⟩ | ⟨q, q'⟩ | ⟨q, q'⟩ | ⟨q, q'⟩ | ⟨q, q'⟩ | ⟨q, q'⟩ | ⟨q, q'⟩ | ⟨q, q'⟩ | ⟨q, q'⟩ | ⟨q, q'⟩) <;> (simp only [Int32.lt_iff_toInt_lt, ← Int32.toInt_inj, Int32.reduceToInt] at *; omega)) (fun z => z (Or.inr (Or.inr (Or.inr (Or.inl ⟨by simp only [Int32.lt_iff_toInt_lt, ← Int32.toInt_inj, Int32.reduceToInt] at *; omega, by simp only [Int32.lt_iff_toInt_lt, ← Int32.toInt_inj, Int32.reduceToInt] at *; omega⟩)))))
      · skip
        by_cases k5 : c < (97 : Int32)
        · skip
          by_cases k4 : c < (96 : Int32)
          · skip
            exact iff_of_true (Or.inr (Or.inr (Or.inl (by simp only [Int32.lt_iff_toInt_lt, ← Int32.toInt_inj, Int32.reduceToInt] at *; omega)))) (by rintro (q | q | ⟨q, q'⟩ | ⟨q, q'⟩ | q | ⟨q, q'⟩ | q | q | ⟨q, q'⟩ | q | ⟨q, q'⟩ | ⟨q, q'⟩ | ⟨q, q'⟩ | ⟨q, q'⟩ | ⟨q, q'⟩ | ⟨q, q'⟩ | ⟨q, q'⟩) <;> (simp only [Int32.lt_iff_toInt_lt, ← Int32.toInt_inj, Int32.reduceToInt] at *; omega))
          · skip
            exact iff_of_false (by rintro (⟨q, q'⟩ | ⟨q, q'⟩ | q | ⟨q, q'⟩ | ⟨q, q'⟩ | ⟨q, q'⟩ | ⟨q, q'⟩ | ⟨q, q'⟩ | ⟨q, q'⟩ | ⟨q, q'⟩ | ⟨q, q'⟩ | ⟨q, q'⟩ | ⟨q, q'⟩ | ⟨q, q'⟩ | ⟨q, q'⟩) <;> (simp only [Int32.lt_iff_toInt_lt, ← Int32.toInt_inj, Int32.reduceToInt] at *; omega)) (fun z => z (Or.inr (Or.inr (Or.inr (Or.inr (Or.inl (by simp only [Int32.lt_iff_toInt_lt, ← Int32.toInt_inj, Int32.reduceToInt] at *; omega)))))))
        · skip
          by_cases k6 : c < (123 : Int32)
          · skip
            exact iff_of_true (Or.inl ⟨by simp only [Int32.lt_iff_toInt_lt, ← Int32.toInt_inj, Int32.reduceToInt] at *; omega, by simp only [Int32.lt_iff_toInt_lt, ← Int32.toInt_inj, Int32.reduceToInt] at *; omega⟩) (by rintro (q | q | ⟨q, q'⟩ | ⟨q, q'⟩ | q | ⟨q, q'⟩ | q | q | ⟨q, q'⟩ | q | ⟨q, q'⟩ | ⟨q, q'⟩ | ⟨q, q'⟩ | ⟨q, q'⟩ | ⟨q, q'⟩ | ⟨q, q'⟩ | ⟨q, q'⟩) <;> (simp only [Int32.lt_iff_toInt_lt, ← Int32.toInt_inj, Int32.reduceToInt] at *; omega))
          · skip
            exact iff_of_false (by rintro (⟨q, q'⟩ | ⟨q, q'⟩ | q | ⟨q, q'⟩ | ⟨q, q'⟩ | ⟨q, q'⟩ | ⟨q, q'⟩ | ⟨q, q'⟩ | ⟨q, q'⟩ | ⟨q, q'⟩ | ⟨q, q'⟩ | ⟨q, q'⟩ | ⟨q, q'⟩ | ⟨q, q'⟩ | ⟨q, q'⟩) <;> (simp only [Int32.lt_iff_toInt_lt, ← Int32.toInt_inj, Int32.reduceToInt] at *; omega)) (fun z => z (Or.inr (Or.inr (Or.inr (Or.inr (Or.inr (Or.inl ⟨by simp only [Int32.lt_iff_toInt_lt, ← Int32.toInt_inj, Int32.reduceToInt] at *; omega, by simp only [Int32.lt_iff_toInt_lt, ← Int32.toInt_inj, Int32.reduceToInt] at *; omega⟩)))))))
    · skip
      by_cases k11 : c < (248 : Int32)
      · skip
        by_cases k9 : c < (216 : Int32)
        · skip
          by_cases k8 : c < (215 : Int32)
          · skip
            exact iff_of_true (Or.inr (Or.inr (Or.inr (Or.inl ⟨by simp only [Int32.lt_iff_toInt_lt, ← Int32.toInt_inj, Int32.reduceToInt] at *; omega, by simp only [Int32.lt_iff_toInt_lt, ← Int32.toInt_inj, Int32.reduceToInt] at *; omega⟩)))) (by rintro (q | q | ⟨q, q'⟩ | ⟨q, q'⟩ | q | ⟨q, q'⟩ | q | q | ⟨q, q'⟩ | q | ⟨q, q'⟩ | ⟨q, q'⟩ | ⟨q, q'⟩ | ⟨q, q'⟩ | ⟨q, q'⟩ | ⟨q, q'⟩ | ⟨q, q'⟩) <;> (simp only [Int32.lt_iff_toInt_lt, ← Int32.toInt_inj, Int32.reduceToInt] at *; omega))
          · skip
            exact iff_of_false (by rintro (⟨q, q'⟩ | ⟨q, q'⟩ | q | ⟨q, q'⟩ | ⟨q, q'⟩ | ⟨q, q'⟩ | ⟨q, q'⟩ | ⟨q, q'⟩ | ⟨q, q'⟩ | ⟨q, q'⟩ | ⟨q, q'⟩ | ⟨q, q'⟩ | ⟨q, q'⟩ | ⟨q, q'⟩ | ⟨q, q'⟩) <;> (simp only [Int32.lt_iff_toInt_lt, ← Int32.toInt_inj, Int32.reduceToInt] at *; omega)) (fun z => z (Or.inr (Or.inr (Or.inr (Or.inr (Or.inr (Or.inr (Or.inl (by simp only [Int32.lt_iff_toInt_lt, ← Int32.toInt_inj, Int32.reduceToInt] at *; omega)))))))))
        · skip
          by_cases k10 : c < (247 : Int32)
          · skip
            exact iff_of_true (Or.inr (Or.inr (Or.inr (Or.inr (Or.inl ⟨by simp only [Int32.lt_iff_toInt_lt, ← Int32.toInt_inj, Int32.reduceToInt] at *; omega, by simp only [Int32.lt_iff_toInt_lt, ← Int32.toInt_inj, Int32.reduceToInt] at *; omega⟩))))) (by rintro (q | q | ⟨q, q'⟩ | ⟨q, q'⟩ | q | ⟨q, q'⟩ | q | q | ⟨q, q'⟩ | q | ⟨q, q'⟩ | ⟨q, q'⟩ | ⟨q, q'⟩ | ⟨q, q'⟩ | ⟨q, q'⟩ | ⟨q, q'⟩ | ⟨q, q'⟩) <;> (simp only [Int32.lt_iff_toInt_lt, ← Int32.toInt_inj, Int32.reduceToInt] at *; omega))
          · skip
            exact iff_of_false (by rintro (⟨q, q'⟩ | ⟨q, q'⟩ | q | ⟨q, q'⟩ | ⟨q, q'⟩ | ⟨q, q'⟩ | ⟨q, q'⟩ | ⟨q, q'⟩ | ⟨q, q'⟩ | ⟨q, q'⟩ | ⟨q, q'⟩ | ⟨q, q'⟩ | ⟨q, q'⟩ | ⟨q, q'⟩ | ⟨q, q'⟩) <;> (simp only [Int32.lt_iff_toInt_lt, ← Int32.toInt_inj, Int32.reduceToInt] at *; omega)) (fun z => z (Or.inr (Or.inr (Or.inr (Or.inr (Or.inr (Or.inr (Or.inr (Or.inl (by simp only [Int32.lt_iff_toInt_lt, ← Int32.toInt_inj, Int32.reduceToInt] at *; omega))))))))))
      · skip
        by_cases k13 : c < (880 : Int32)
        · skip
          by_cases k12 : c < (768 : Int32)
          · skip
            exact iff_of_true (Or.inr (Or.inr (Or.inr (Or.inr (Or.inr (Or.inl ⟨by simp only [Int32.lt_iff_toInt_lt, ← Int32.toInt_inj, Int32.reduceToInt] at *; omega, by simp only [Int32.lt_iff_toInt_lt, ← Int32.toInt_inj, Int32.reduceToInt] at *; omega⟩)))))) (by rintro (q | q | ⟨q, q'⟩ | ⟨q, q'⟩ | q | ⟨q, q'⟩ | q | q | ⟨q, q'⟩ | q | ⟨q, q'⟩ | ⟨q, q'⟩ | ⟨q, q'⟩ | ⟨q, q'⟩ | ⟨q, q'⟩ | ⟨q, q'⟩ | ⟨q, q'⟩) <;> (simp only [Int32.lt_iff_toInt_lt, ← Int32.toInt_inj, Int32.reduceToInt] at *; omega))
          · skip
            exact iff_of_false (by rintro (⟨q, q'⟩ | ⟨q, q'⟩ | q | ⟨q, q'⟩ | ⟨q, q'⟩ | ⟨q, q'⟩ | ⟨q, q'⟩ | ⟨q, q'⟩ | ⟨q, q'⟩ | ⟨q, q'⟩ | ⟨q, q'⟩ | ⟨q, q'⟩ | ⟨q, q'⟩ | ⟨q, q'⟩ | ⟨q, q'⟩) <;> (simp only [Int32.lt_iff_toInt_lt, ← Int32.toInt_inj, Int32.reduceToInt] at *; omega)) (fun z => z (Or.inr (Or.inr (Or.inr (Or.inr (Or.inr (Or.inr (Or.inr (Or.inr (Or.inl ⟨by simp only [Int32.lt_iff_toInt_lt, ← Int32.toInt_inj, Int32.reduceToInt] at *; omega, by simp only [Int32.lt_iff_toInt_lt, ← Int32.toInt_inj, Int32.reduceToInt] at *; omega⟩))))))))))
        · skip
          by_cases k14 : c < (894 : Int32)
          · skip
            exact iff_of_true (Or.inr (Or.inr (Or.inr (Or.inr (Or.inr (Or.inr (Or.inl ⟨by simp only [Int32.lt_iff_toInt_lt, ← Int32.toInt_inj, Int32.reduceToInt] at *; omega, by simp only [Int32.lt_iff_toInt_lt, ← Int32.toInt_inj, Int32.reduceToInt] at *; omega⟩))))))) (by rintro (q | q | ⟨q, q'⟩ | ⟨q, q'⟩ | q | ⟨q, q'⟩ | q | q | ⟨q, q'⟩ | q | ⟨q, q'⟩ | ⟨q, q'⟩ | ⟨q, q'⟩ | ⟨q, q'⟩ | ⟨q, q'⟩ | ⟨q, q'⟩ | ⟨q, q'⟩) <;> (simp only [Int32.lt_iff_toInt_lt, ← Int32.toInt_inj, Int32.reduceToInt] at *; omega))
          · skip
            exact iff_of_false (by rintro (⟨q, q'⟩ | ⟨q, q'⟩ | q | ⟨q, q'⟩ | ⟨q, q'⟩ | ⟨q, q'⟩ | ⟨q, q'⟩ | ⟨q, q'⟩ | ⟨q, q'⟩ | ⟨q, q'⟩ | ⟨q, q'⟩ | ⟨q, q'⟩ | ⟨q, q'⟩ | ⟨q, q'⟩ | ⟨q, q'⟩) <;> (simp only [Int32.lt_iff_toInt_lt, ← Int32.toInt_inj, Int32.reduceToInt] at *; omega)) (fun z => z (Or.inr (Or.inr (Or.inr (Or.inr (Or.inr (Or.inr (Or.inr (Or.inr (Or.inr (Or.inl (by simp only [Int32.lt_iff_toInt_lt, ← Int32.toInt_inj, Int32.reduceToInt] at *; omega))))))))))))
  · skip
    by_cases k23 : c < (12289 : Int32)
    · skip
      by_cases k19 : c < (8304 : Int32)
      · skip
        by_cases k17 : c < (8204 : Int32)
        · skip
          by_cases k16 : c < (8192 : Int32)
          · skip
            exact iff_of_true (Or.inr (Or.inr (Or.inr (Or.inr (Or.inr (Or.inr (Or.inr (Or.inl ⟨by simp only [Int32.lt_iff_toInt_lt, ← Int32.toInt_inj, Int32.reduceToInt] at *; omega, by simp only [Int32.lt_iff_toInt_lt, ← Int32.toInt_inj, Int32.reduceToInt] at *; omega⟩)))))))) (by rintro (q | q | ⟨q, q'⟩ | ⟨q, q'⟩ | q | ⟨q, q'⟩ | q | q | ⟨q, q'⟩ | q | ⟨q, q'⟩ | ⟨q, q'⟩ | ⟨q, q'⟩ | ⟨q, q'⟩ | ⟨q, q'⟩ | ⟨q, q'⟩ | ⟨q, q'⟩) <;> (simp only [Int32.lt_iff_toInt_lt, ← Int32.toInt_inj, Int32.reduceToInt] at *; omega))
          · skip
            exact iff_of_false (by rintro (⟨q, q'⟩ | ⟨q, q'⟩ | q | ⟨q, q'⟩ | ⟨q, q'⟩ | ⟨q, q'⟩ | ⟨q, q'⟩ | ⟨q, q'⟩ | ⟨q, q'⟩ | ⟨q, q'⟩ | ⟨q, q'⟩ | ⟨q, q'⟩ | ⟨q, q'⟩ | ⟨q, q'⟩ | ⟨q, q'⟩) <;> (simp only [Int32.lt_iff_toInt_lt, ← Int32.toInt_inj, Int32.reduceToInt] at *; omega)) (fun z => z (Or.inr (Or.inr (Or.inr (Or.inr (Or.inr (Or.inr (Or.inr (Or.inr (Or.inr (Or.inr (Or.inl ⟨by simp only [Int32.lt_iff_toInt_lt, ← Int32.toInt_inj, Int32.reduceToInt] at *; omega, by simp only [Int32.lt_iff_toInt_lt, ← Int32.toInt_inj, Int32.reduceToInt] at *; omega⟩))))))))))))
        · skip
          by_cases k18 : c < (8206 : Int32)
          · skip
            exact iff_of_true (Or.inr (Or.inr (Or.inr (Or.inr (Or.inr (Or.inr (Or.inr (Or.inr (Or.inl ⟨by simp only [Int32.lt_iff_toInt_lt, ← Int32.toInt_inj, Int32.reduceToInt] at *; omega, by simp only [Int32.lt_iff_toInt_lt, ← Int32.toInt_inj, Int32.reduceToInt] at *; omega⟩))))))))) (by rintro (q | q | ⟨q, q'⟩ | ⟨q, q'⟩ | q | ⟨q, q'⟩ | q | q | ⟨q, q'⟩ | q | ⟨q, q'⟩ | ⟨q, q'⟩ | ⟨q, q'⟩ | ⟨q, q'⟩ | ⟨q, q'⟩ | ⟨q, q'⟩ | ⟨q, q'⟩) <;> (simp only [Int32.lt_iff_toInt_lt, ← Int32.toInt_inj, Int32.reduceToInt] at *; omega))
          · skip
            exact iff_of_false (by rintro (⟨q, q'⟩ | ⟨q, q'⟩ | q | ⟨q, q'⟩ | ⟨q, q'⟩ | ⟨q, q'⟩ | ⟨q, q'⟩ | ⟨q, q'⟩ | ⟨q, q'⟩ | ⟨q, q'⟩ | ⟨q, q'⟩ | ⟨q, q'⟩ | ⟨q, q'⟩ | ⟨q, q'⟩ | ⟨q, q'⟩) <;> (simp only [Int32.lt_iff_toInt_lt, ← Int32.toInt_inj, Int32.reduceToInt] at *; omega)) (fun z => z (Or.inr (Or.inr (Or.inr (Or.inr (Or.inr (Or.inr (Or.inr (Or.inr (Or.inr (Or.inr (Or.inr (Or.inl ⟨by simp only [Int32.lt_iff_toInt_lt, ← Int32.toInt_inj, Int32.reduceToInt] at *; omega, by simp only [Int32.lt_iff_toInt_lt, ← Int32.toInt_inj, Int32.reduceToInt] at *; omega⟩)))))))))))))
      · skip
        by_cases k21 : c < (11264 : Int32)
        · skip
          by_cases k20 : c < (8592 : Int32)
          · skip
            exact iff_of_true (Or.inr (Or.inr (Or.inr (Or.inr (Or.inr (Or.inr (Or.inr (Or.inr (Or.inr (Or.inl ⟨by simp only [Int32.lt_iff_toInt_lt, ← Int32.toInt_inj, Int32.reduceToInt] at *; omega, by simp only [Int32.lt_iff_toInt_lt, ← Int32.toInt_inj, Int32.reduceToInt] at *; omega⟩)))))))))) (by rintro (q | q | ⟨q, q'⟩ | ⟨q, q'⟩ | q | ⟨q, q'⟩ | q | q | ⟨q, q'⟩ | q | ⟨q, q'⟩ | ⟨q, q'⟩ | ⟨q, q'⟩ | ⟨q, q'⟩ | ⟨q, q'⟩ | ⟨q, q'⟩ | ⟨q, q'⟩) <;> (simp only [Int32.lt_iff_toInt_lt, ← Int32.toInt_inj, Int32.reduceToInt] at *; omega))
          · skip
            exact iff_of_false (by rintro (⟨q, q'⟩ | ⟨q, q'⟩ | q | ⟨q, q'⟩ | ⟨q, q'⟩ | ⟨q, q'⟩ | ⟨q, q'⟩ | ⟨q, q'⟩ | ⟨q, q'⟩ | ⟨q, q'⟩ | ⟨q, q'⟩ | ⟨q, q'⟩ | ⟨q, q'⟩ | ⟨q, q'⟩ | ⟨q, q'⟩) <;> (simp only [Int32.lt_iff_toInt_lt, ← Int32.toInt_inj, Int32.reduceToInt] at *; omega)) (fun z => z (Or.inr (Or.inr (Or.inr (Or.inr (Or.inr (Or.inr (Or.inr (Or.inr (Or.inr (Or.inr (Or.inr (Or.inr (Or.inl ⟨by simp only [Int32.lt_iff_toInt_lt, ← Int32.toInt_inj, Int32.reduceToInt] at *; omega, by simp only [Int32.lt_iff_toInt_lt, ← Int32.toInt_inj, Int32.reduceToInt] at *; omega⟩))))))))))))))
        · skip
          by_cases k22 : c < (12272 : Int32)
          · skip
            exact iff_of_true (Or.inr (Or.inr (Or.inr (Or.inr (Or.inr (Or.inr (Or.inr (Or.inr (Or.inr (Or.inr (Or.inl ⟨by simp only [Int32.lt_iff_toInt_lt, ← Int32.toInt_inj, Int32.reduceToInt] at *; omega, by simp only [Int32.lt_iff_toInt_lt, ← Int32.toInt_inj, Int32.reduceToInt] at *; omega⟩))))))))))) (by rintro (q | q | ⟨q, q'⟩ | ⟨q, q'⟩ | q | ⟨q, q'⟩ | q | q | ⟨q, q'⟩ | q | ⟨q, q'⟩ | ⟨q, q'⟩ | ⟨q, q'⟩ | ⟨q, q'⟩ | ⟨q, q'⟩ | ⟨q, q'⟩ | ⟨q, q'⟩) <;> (simp only [Int32.lt_iff_toInt_lt, ← Int32.toInt_inj, Int32.reduceToInt] at *; omega))
          · skip
            exact iff_of_false (by rintro (⟨q, q'⟩ | ⟨q, q'⟩ | q | ⟨q, q'⟩ | ⟨q, q'⟩ | ⟨q, q'⟩ | ⟨q, q'⟩ | ⟨q, q'⟩ | ⟨q, q'⟩ | ⟨q, q'⟩ | ⟨q, q'⟩ | ⟨q, q'⟩ | ⟨q, q'⟩ | ⟨q, q'⟩ | ⟨q, q'⟩) <;> (simp only [Int32.lt_iff_toInt_lt, ← Int32.toInt_inj, Int32.reduceToInt] at *; omega)) (fun z => z (Or.inr (Or.inr (Or.inr (Or.inr (Or.inr (Or.inr (Or.inr (Or.inr (Or.inr (Or.inr (Or.inr (Or.inr (Or.inr (Or.inl ⟨by simp only [Int32.lt_iff_toInt_lt, ← Int32.toInt_inj, Int32.reduceToInt] at *; omega, by simp only [Int32.lt_iff_toInt_lt, ← Int32.toInt_inj, Int32.reduceToInt] at *; omega⟩)))))))))))))))
    · skip
      by_cases k27 : c < (65008 : Int32)
      · skip
        by_cases k25 : c < (63744 : Int32)
        · skip
          by_cases k24 : c < (55296 : Int32)
          · skip
            exact iff_of_true (Or.inr (Or.inr (Or.inr (Or.inr (Or.inr (Or.inr (Or.inr (Or.inr (Or.inr (Or.inr (Or.inr (Or.inl ⟨by simp only [Int32.lt_iff_toInt_lt, ← Int32.toInt_inj, Int32.reduceToInt] at *; omega, by simp only [Int32.lt_iff_toInt_lt, ← Int32.toInt_inj, Int32.reduceToInt] at *; omega⟩)))))))))))) (by rintro (q | q | ⟨q, q'⟩ | ⟨q, q'⟩ | q | ⟨q, q'⟩ | q | q | ⟨q, q'⟩ | q | ⟨q, q'⟩ | ⟨q, q'⟩ | ⟨q, q'⟩ | ⟨q, q'⟩ | ⟨q, q'⟩ | ⟨q, q'⟩ | ⟨q, q'⟩) <;> (simp only [Int32.lt_iff_toInt_lt, ← Int32.toInt_inj, Int32.reduceToInt] at *; omega))
          · skip
            exact iff_of_false (by rintro (⟨q, q'⟩ | ⟨q, q'⟩ | q | ⟨q, q'⟩ | ⟨q, q'⟩ | ⟨q, q'⟩ | ⟨q, q'⟩ | ⟨q, q'⟩ | ⟨q, q'⟩ | ⟨q, q'⟩ | ⟨q, q'⟩ | ⟨q, q'⟩ | ⟨q, q'⟩ | ⟨q, q'⟩ | ⟨q, q'⟩) <;> (simp only [Int32.lt_iff_toInt_lt, ← Int32.toInt_inj, Int32.reduceToInt] at *; omega)) (fun z => z (Or.inr (Or.inr (Or.inr (Or.inr (Or.inr (Or.inr (Or.inr (Or.inr (Or.inr (Or.inr (Or.inr (Or.inr (Or.inr (Or.inr (Or.inl ⟨by simp only [Int32.lt_iff_toInt_lt, ← Int32.toInt_inj, Int32.reduceToInt] at *; omega, by simp only [Int32.lt_iff_toInt_lt, ← Int32.toInt_inj, Int32.reduceToInt] at *; omega⟩))))))))))))))))
        · skip
          by_cases k26 : c < (64976 : Int32)
          · skip
            exact iff_of_true (Or.inr (Or.inr (Or.inr (Or.inr (Or.inr (Or.inr (Or.inr (Or.inr (Or.inr (Or.inr (Or.inr (Or.inr (Or.inl ⟨by simp only [Int32.lt_iff_toInt_lt, ← Int32.toInt_inj, Int32.reduceToInt] at *; omega, by simp only [Int32.lt_iff_toInt_lt, ← Int32.toInt_inj, Int32.reduceToInt] at *; omega⟩))))))))))))) (by rintro (q | q | ⟨q, q'⟩ | ⟨q, q'⟩ | q | ⟨q, q'⟩ | q | q | ⟨q, q'⟩ | q | ⟨q, q'⟩ | ⟨q, q'⟩ | ⟨q, q'⟩ | ⟨q, q'⟩ | ⟨q, q'⟩ | ⟨q, q'⟩ | ⟨q, q'⟩) <;> (simp only [Int32.lt_iff_toInt_lt, ← Int32.toInt_inj, Int32.reduceToInt] at *; omega))
          · skip
            exact iff_of_false (by rintro (⟨q, q'⟩ | ⟨q, q'⟩ | q | ⟨q, q'⟩ | ⟨q, q'⟩ | ⟨q, q'⟩ | ⟨q, q'⟩ | ⟨q, q'⟩ | ⟨q, q'⟩ | ⟨q, q'⟩ | ⟨q, q'⟩ | ⟨q, q'⟩ | ⟨q, q'⟩ | ⟨q, q'⟩ | ⟨q, q'⟩) <;> (simp only [Int32.lt_iff_toInt_lt, ← Int32.toInt_inj, Int32.reduceToInt] at *; omega)) (fun z => z (Or.inr (Or.inr (Or.inr (Or.inr (Or.inr (Or.inr (Or.inr (Or.inr (Or.inr (Or.inr (Or.inr (Or.inr (Or.inr (Or.inr (Or.inr (Or.inl ⟨by simp only [Int32.lt_iff_toInt_lt, ← Int32.toInt_inj, Int32.reduceToInt] at *; omega, by simp only [Int32.lt_iff_toInt_lt, ← Int32.toInt_inj, Int32.reduceToInt] at *; omega⟩)))))))))))))))))
      · skip
        by_cases k29 : c < (65536 : Int32)
        · skip
          by_cases k28 : c < (65534 : Int32)
          · skip
            exact iff_of_true (Or.inr (Or.inr (Or.inr (Or.inr (Or.inr (Or.inr (Or.inr (Or.inr (Or.inr (Or.inr (Or.inr (Or.inr (Or.inr (Or.inl ⟨by simp only [Int32.lt_iff_toInt_lt, ← Int32.toInt_inj, Int32.reduceToInt] at *; omega, by simp only [Int32.lt_iff_toInt_lt, ← Int32.toInt_inj, Int32.reduceToInt] at *; omega⟩)))))))))))))) (by rintro (q | q | ⟨q, q'⟩ | ⟨q, q'⟩ | q | ⟨q, q'⟩ | q | q | ⟨q, q'⟩ | q | ⟨q, q'⟩ | ⟨q, q'⟩ | ⟨q, q'⟩ | ⟨q, q'⟩ | ⟨q, q'⟩ | ⟨q, q'⟩ | ⟨q, q'⟩) <;> (simp only [Int32.lt_iff_toInt_lt, ← Int32.toInt_inj, Int32.reduceToInt] at *; omega))
          · skip
            exact iff_of_false (by rintro (⟨q, q'⟩ | ⟨q, q'⟩ | q | ⟨q, q'⟩ | ⟨q, q'⟩ | ⟨q, q'⟩ | ⟨q, q'⟩ | ⟨q, q'⟩ | ⟨q, q'⟩ | ⟨q, q'⟩ | ⟨q, q'⟩ | ⟨q, q'⟩ | ⟨q, q'⟩ | ⟨q, q'⟩ | ⟨q, q'⟩) <;> (simp only [Int32.lt_iff_toInt_lt, ← Int32.toInt_inj, Int32.reduceToInt] at *; omega)) (fun z => z (Or.inr (Or.inr (Or.inr (Or.inr (Or.inr (Or.inr (Or.inr (Or.inr (Or.inr (Or.inr (Or.inr (Or.inr (Or.inr (Or.inr (Or.inr (Or.inr ⟨by simp only [Int32.lt_iff_toInt_lt, ← Int32.toInt_inj, Int32.reduceToInt] at *; omega, by simp only [Int32.lt_iff_toInt_lt, ← Int32.toInt_inj, Int32.reduceToInt] at *; omega⟩)))))))))))))))))
        · skip
          by_cases k30 : c < (983040 : Int32)
          · skip
            exact iff_of_true (Or.inr (Or.inr (Or.inr (Or.inr (Or.inr (Or.inr (Or.inr (Or.inr (Or.inr (Or.inr (Or.inr (Or.inr (Or.inr (Or.inr ⟨by simp only [Int32.lt_iff_toInt_lt, ← Int32.toInt_inj, Int32.reduceToInt] at *; omega, by simp only [Int32.lt_iff_toInt_lt, ← Int32.toInt_inj, Int32.reduceToInt] at *; omega⟩)))))))))))))) (by rintro (q | q | ⟨q, q'⟩ | ⟨q, q'⟩ | q | ⟨q, q'⟩ | q | q | ⟨q, q'⟩ | q | ⟨q, q'⟩ | ⟨q, q'⟩ | ⟨q, q'⟩ | ⟨q, q'⟩ | ⟨q, q'⟩ | ⟨q, q'⟩ | ⟨q, q'⟩) <;> (simp only [Int32.lt_iff_toInt_lt, ← Int32.toInt_inj, Int32.reduceToInt] at *; omega))
          · skip
            exact iff_of_false (by rintro (⟨q, q'⟩ | ⟨q, q'⟩ | q | ⟨q, q'⟩ | ⟨q, q'⟩ | ⟨q, q'⟩ | ⟨q, q'⟩ | ⟨q, q'⟩ | ⟨q, q'⟩ | ⟨q, q'⟩ | ⟨q, q'⟩ | ⟨q, q'⟩ | ⟨q, q'⟩ | ⟨q, q'⟩ | ⟨q, q'⟩) <;> (simp only [Int32.lt_iff_toInt_lt, ← Int32.toInt_inj, Int32.reduceToInt] at *; omega)) (fun z => z (Or.inr (Or.inl (by simp only [Int32.lt_iff_toInt_lt, ← Int32.toInt_inj, Int32.reduceToInt] at *; omega))))
theorem ef_rm0 (m : MethodId) (x0 : Int32) (x1 : Int32) : entryFrame m #[(.int x0), (.int x1)] maxLocals = mkF m 0 #[.val (.int x0), .val (.int x1), .unset, .unset, .unset] [] := by first | (simp [entryFrame, mkF, argsToLocals, Value.category, maxLocals]; done) | rfl
set_option maxRecDepth 65536 in
set_option maxHeartbeats 40000000 in
theorem rm0 (l : Launch) (Z : State) (a0 : Array Value) (hw : ∀ d ∈ tables_1, d.before a0 Z = true) (ws : List Jvm.Cond) (p0 : Int32) (p1 : Int32) (h0 : Heap) (n0 : Nat) (Z0 : n0 ≤ h0.size) :
    Con l Z x code maxLocals ret ws room_1 #[(.int p0), (.int p1)] h0 (fun v h L => v = some (.int 1) ∧ Fr n0 L) := by
  refine Con.mk (plainFor_of_name pn1) ?_
  intro p e s m below meth c T0 hx hby hml hown hnm hret hlk hZ X0 e0
  have hret : meth.sig.returnType = some .boolean := hret
  have hml : c.maxLocals = 5 := hml
  have hown : s.vm.findClass "com/example/quillon/quillon/model/XmlCharsIsNameStartCharPinLaw" = some m.cls := hown
  have hby : c.code = code := hby
  have N0 := Fr.nil n0
  have J45 : ∀ (z : Int32), Go p e below s room_1 (fun v h L => v = some (.int 1) ∧ Fr n0 L) (T0.setTop (mkF m 45 #[.val (.int p0), .val (.int p1), .val (.int z), .val (.int (p1 &&& (3 : Int32))), .unset] [])) := by
    intro z
    refine Go.st (S' := T0.setTop (mkF m 46 #[.val (.int p0), .val (.int p1), .val (.int z), .val (.int (p1 &&& (3 : Int32))), .unset] [(.int z)])) (fun _ k_ => XS.iloadN X0.here hx rfl (hb hby at_45) rfl k_) ?_
    obtain ⟨v11, T11, h11, L11, X11, e11, hQ11, st11⟩ := callSt X0 hx hZ hown (w1 hw) (w2 hw) (w3 hw) (w4 hw) (by decide) (W := 0) (argsL := [(.int z)]) (rest := []) e0 (rm1 l Z a0 hw z h0 n0 Z0) (by decide) (by decide) pd1 rfl (g := (mkF m 46 #[.val (.int p0), .val (.int p1), .val (.int z), .val (.int (p1 &&& (3 : Int32))), .unset] [(.int z)])) rfl (by rw [hml]; rfl) rfl (by show 2 * 0 + _ ≤ _; exact Nat.le_of_eq rfl) (hb hby at_46) (by decide) (by decide)
    obtain ⟨rfl, Nq11, hh11⟩ := hQ11
    rw [hh11] at e11
    have N11 := Fr.app N0 Nq11
    refine Go.st (S' := T11.setTop (mkF m 49 #[.val (.int p0), .val (.int p1), .val (.int z), .val (.int (p1 &&& (3 : Int32))), .unset] [(.int (if NS0 z then (1 : Int32) else (0 : Int32)))])) (st11) ?_
    refine Go.st (S' := T11.setTop (mkF m 51 #[.val (.int p0), .val (.int p1), .val (.int z), .val (.int (p1 &&& (3 : Int32))), .val (.int (if NS0 z then (1 : Int32) else (0 : Int32)))] [])) (fun _ k_ => XS.istore X11.here hx rfl (hb hby at_49) rfl (l' := #[.val (.int p0), .val (.int p1), .val (.int z), .val (.int (p1 &&& (3 : Int32))), .val (.int (if NS0 z then (1 : Int32) else (0 : Int32)))]) rfl k_) ?_
    refine Go.st (S' := T11.setTop (mkF m 53 #[.val (.int p0), .val (.int p1), .val (.int z), .val (.int (p1 &&& (3 : Int32))), .val (.int (if NS0 z then (1 : Int32) else (0 : Int32)))] [(.int (if NS0 z then (1 : Int32) else (0 : Int32)))])) (fun _ k_ => XS.iload X11.here hx rfl (hb hby at_51) rfl k_) ?_
    refine Go.st (S' := T11.setTop (mkF m 54 #[.val (.int p0), .val (.int p1), .val (.int z), .val (.int (p1 &&& (3 : Int32))), .val (.int (if NS0 z then (1 : Int32) else (0 : Int32)))] [(.int z), (.int (if NS0 z then (1 : Int32) else (0 : Int32)))])) (fun _ k_ => XS.iloadN X11.here hx rfl (hb hby at_53) rfl k_) ?_
    obtain ⟨v12, T12, h12, L12, X12, e12, hQ12, st12⟩ := callSt X11 hx hZ hown (w8 hw) (w9 hw) (w10 hw) (w11 hw) (by decide) (W := 1) (argsL := [(.int z)]) (rest := [(.int (if NS0 z then (1 : Int32) else (0 : Int32)))]) e11 (rm2 l Z a0 hw z h0 n0 Z0) (by decide) (by decide) pd1 rfl (g := (mkF m 54 #[.val (.int p0), .val (.int p1), .val (.int z), .val (.int (p1 &&& (3 : Int32))), .val (.int (if NS0 z then (1 : Int32) else (0 : Int32)))] [(.int z), (.int (if NS0 z then (1 : Int32) else (0 : Int32)))])) rfl (by rw [hml]; rfl) rfl (by show 2 * 0 + _ ≤ _; exact Nat.le_of_eq rfl) (hb hby at_54) (by decide) (by decide)
    obtain ⟨rfl, Nq12, hh12⟩ := hQ12
    rw [hh12] at e12
    have N12 := Fr.app N11 Nq12
    refine Go.st (S' := T12.setTop (mkF m 57 #[.val (.int p0), .val (.int p1), .val (.int z), .val (.int (p1 &&& (3 : Int32))), .val (.int (if NS0 z then (1 : Int32) else (0 : Int32)))] [(.int (if EX z then (1 : Int32) else (0 : Int32))), (.int (if NS0 z then (1 : Int32) else (0 : Int32)))])) (st12) ?_
    refine Go.st (S' := T12.setTop (mkF m 60 #[.val (.int p0), .val (.int p1), .val (.int z), .val (.int (p1 &&& (3 : Int32))), .val (.int (if NS0 z then (1 : Int32) else (0 : Int32)))] [])) (fun _ k_ => XS.icmpNo X12.here hx rfl (hb hby at_57) rfl (teq (own_ifc (own_same z))).2 k_) ?_
    refine Go.st (S' := T12.setTop (mkF m 61 #[.val (.int p0), .val (.int p1), .val (.int z), .val (.int (p1 &&& (3 : Int32))), .val (.int (if NS0 z then (1 : Int32) else (0 : Int32)))] [(.int (1 : Int32))])) (fun _ k_ => XS.iconst X12.here hx rfl (hb hby at_60) k_) ?_
    refine Go.st (S' := T12.setTop (mkF m 65 #[.val (.int p0), .val (.int p1), .val (.int z), .val (.int (p1 &&& (3 : Int32))), .val (.int (if NS0 z then (1 : Int32) else (0 : Int32)))] [(.int (1 : Int32))])) (fun _ k_ => XS.goto X12.here hx rfl (pc0 := 61) (pc' := 65) rfl (hb hby at_61) (by decide) (by decide) k_) ?_
    exact Go.retN X12 hx (t := .boolean) hret (by simp) hlk (hb hby at_65) (by decide) (by decide) ⟨rfl, N12⟩
  refine Go.cast (ef_rm0 m p0 p1) ?_
  refine Go.st (S' := T0.setTop (mkF m 1 #[.val (.int p0), .val (.int p1), .unset, .unset, .unset] [(.int p1)])) (fun _ k_ => XS.iloadN X0.here hx rfl (hb hby at_0) rfl k_) ?_
  refine Go.st (S' := T0.setTop (mkF m 2 #[.val (.int p0), .val (.int p1), .unset, .unset, .unset] [(.int (3 : Int32)), (.int p1)])) (fun _ k_ => XS.iconst X0.here hx rfl (hb hby at_1) k_) ?_
  refine Go.st (S' := T0.setTop (mkF m 3 #[.val (.int p0), .val (.int p1), .unset, .unset, .unset] [(.int (p1 &&& (3 : Int32)))])) (fun _ k_ => XS.iand X0.here hx rfl (hb hby at_2) rfl k_) ?_
  refine Go.st (S' := T0.setTop (mkF m 4 #[.val (.int p0), .val (.int p1), .unset, .val (.int (p1 &&& (3 : Int32))), .unset] [])) (fun _ k_ => XS.istoreN X0.here hx rfl (hb hby at_3) rfl (l' := #[.val (.int p0), .val (.int p1), .unset, .val (.int (p1 &&& (3 : Int32))), .unset]) rfl k_) ?_
  refine Go.st (S' := T0.setTop (mkF m 5 #[.val (.int p0), .val (.int p1), .unset, .val (.int (p1 &&& (3 : Int32))), .unset] [(.int (p1 &&& (3 : Int32)))])) (fun _ k_ => XS.iloadN X0.here hx rfl (hb hby at_4) rfl k_) ?_
  by_cases hc5 : (p1 &&& (3 : Int32)) = (0 : Int32)
  · skip
    refine Go.st (S' := T0.setTop (mkF m 8 #[.val (.int p0), .val (.int p1), .unset, .val (.int (p1 &&& (3 : Int32))), .unset] [])) (fun _ k_ => XS.ifNo X0.here hx rfl (hb hby at_5) rfl ((if0 _ _).trans (teq hc5).2) k_) ?_
    refine Go.st (S' := T0.setTop (mkF m 9 #[.val (.int p0), .val (.int p1), .unset, .val (.int (p1 &&& (3 : Int32))), .unset] [(.int p0)])) (fun _ k_ => XS.iloadN X0.here hx rfl (hb hby at_8) rfl k_) ?_
    refine Go.st (S' := T0.setTop (mkF m 10 #[.val (.int p0), .val (.int p1), .val (.int p0), .val (.int (p1 &&& (3 : Int32))), .unset] [])) (fun _ k_ => XS.istoreN X0.here hx rfl (hb hby at_9) rfl (l' := #[.val (.int p0), .val (.int p1), .val (.int p0), .val (.int (p1 &&& (3 : Int32))), .unset]) rfl k_) ?_
    refine Go.st (S' := T0.setTop (mkF m 45 #[.val (.int p0), .val (.int p1), .val (.int p0), .val (.int (p1 &&& (3 : Int32))), .unset] [])) (fun _ k_ => XS.goto X0.here hx rfl (pc0 := 10) (pc' := 45) rfl (hb hby at_10) (by decide) (by decide) k_) ?_
    exact J45 _
  · skip
    refine Go.st (S' := T0.setTop (mkF m 13 #[.val (.int p0), .val (.int p1), .unset, .val (.int (p1 &&& (3 : Int32))), .unset] [])) (fun _ k_ => XS.ifYes X0.here hx rfl (pc0 := 5) (pc' := 13) rfl (hb hby at_5) rfl ((if0 _ _).trans (feq hc5).2) (by decide) (by decide) k_) ?_
    refine Go.st (S' := T0.setTop (mkF m 14 #[.val (.int p0), .val (.int p1), .unset, .val (.int (p1 &&& (3 : Int32))), .unset] [(.int (p1 &&& (3 : Int32)))])) (fun _ k_ => XS.iloadN X0.here hx rfl (hb hby at_13) rfl k_) ?_
    refine Go.st (S' := T0.setTop (mkF m 15 #[.val (.int p0), .val (.int p1), .unset, .val (.int (p1 &&& (3 : Int32))), .unset] [(.int (1 : Int32)), (.int (p1 &&& (3 : Int32)))])) (fun _ k_ => XS.iconst X0.here hx rfl (hb hby at_14) k_) ?_
    by_cases hc15 : (p1 &&& (3 : Int32)) = (1 : Int32)
    · skip
      refine Go.st (S' := T0.setTop (mkF m 18 #[.val (.int p0), .val (.int p1), .unset, .val (.int (p1 &&& (3 : Int32))), .unset] [])) (fun _ k_ => XS.icmpNo X0.here hx rfl (hb hby at_15) rfl (teq hc15).2 k_) ?_
      refine Go.st (S' := T0.setTop (mkF m 19 #[.val (.int p0), .val (.int p1), .unset, .val (.int (p1 &&& (3 : Int32))), .unset] [(.int p0)])) (fun _ k_ => XS.iloadN X0.here hx rfl (hb hby at_18) rfl k_) ?_
      refine Go.st (S' := T0.setTop (mkF m 22 #[.val (.int p0), .val (.int p1), .unset, .val (.int (p1 &&& (3 : Int32))), .unset] [(.int (1023 : Int32)), (.int p0)])) (fun _ k_ => XS.sipush X0.here hx rfl (hb hby at_19) k_) ?_
      refine Go.st (S' := T0.setTop (mkF m 23 #[.val (.int p0), .val (.int p1), .unset, .val (.int (p1 &&& (3 : Int32))), .unset] [(.int (p0 &&& (1023 : Int32)))])) (fun _ k_ => XS.iand X0.here hx rfl (hb hby at_22) rfl k_) ?_
      refine Go.st (S' := T0.setTop (mkF m 24 #[.val (.int p0), .val (.int p1), .val (.int (p0 &&& (1023 : Int32))), .val (.int (p1 &&& (3 : Int32))), .unset] [])) (fun _ k_ => XS.istoreN X0.here hx rfl (hb hby at_23) rfl (l' := #[.val (.int p0), .val (.int p1), .val (.int (p0 &&& (1023 : Int32))), .val (.int (p1 &&& (3 : Int32))), .unset]) rfl k_) ?_
      refine Go.st (S' := T0.setTop (mkF m 45 #[.val (.int p0), .val (.int p1), .val (.int (p0 &&& (1023 : Int32))), .val (.int (p1 &&& (3 : Int32))), .unset] [])) (fun _ k_ => XS.goto X0.here hx rfl (pc0 := 24) (pc' := 45) rfl (hb hby at_24) (by decide) (by decide) k_) ?_
      exact J45 _
    · skip
      refine Go.st (S' := T0.setTop (mkF m 27 #[.val (.int p0), .val (.int p1), .unset, .val (.int (p1 &&& (3 : Int32))), .unset] [])) (fun _ k_ => XS.icmpYes X0.here hx rfl (pc0 := 15) (pc' := 27) rfl (hb hby at_15) rfl (feq hc15).2 (by decide) (by decide) k_) ?_
      refine Go.st (S' := T0.setTop (mkF m 28 #[.val (.int p0), .val (.int p1), .unset, .val (.int (p1 &&& (3 : Int32))), .unset] [(.int (p1 &&& (3 : Int32)))])) (fun _ k_ => XS.iloadN X0.here hx rfl (hb hby at_27) rfl k_) ?_
      refine Go.st (S' := T0.setTop (mkF m 29 #[.val (.int p0), .val (.int p1), .unset, .val (.int (p1 &&& (3 : Int32))), .unset] [(.int (2 : Int32)), (.int (p1 &&& (3 : Int32)))])) (fun _ k_ => XS.iconst X0.here hx rfl (hb hby at_28) k_) ?_
      by_cases hc29 : (p1 &&& (3 : Int32)) = (2 : Int32)
      · skip
        refine Go.st (S' := T0.setTop (mkF m 32 #[.val (.int p0), .val (.int p1), .unset, .val (.int (p1 &&& (3 : Int32))), .unset] [])) (fun _ k_ => XS.icmpNo X0.here hx rfl (hb hby at_29) rfl (teq hc29).2 k_) ?_
        refine Go.st (S' := T0.setTop (mkF m 33 #[.val (.int p0), .val (.int p1), .unset, .val (.int (p1 &&& (3 : Int32))), .unset] [(.int p0)])) (fun _ k_ => XS.iloadN X0.here hx rfl (hb hby at_32) rfl k_) ?_
        refine Go.st (S' := T0.setTop (mkF m 35 #[.val (.int p0), .val (.int p1), .unset, .val (.int (p1 &&& (3 : Int32))), .unset] [(.int (65535 : Int32)), (.int p0)])) (X0.ldcInt hx hown (mvT hZ (w21 hw)) (g := (mkF m 33 #[.val (.int p0), .val (.int p1), .unset, .val (.int (p1 &&& (3 : Int32))), .unset] [(.int p0)])) rfl (hb hby at_33)) ?_
        refine Go.st (S' := T0.setTop (mkF m 36 #[.val (.int p0), .val (.int p1), .unset, .val (.int (p1 &&& (3 : Int32))), .unset] [(.int (p0 &&& (65535 : Int32)))])) (fun _ k_ => XS.iand X0.here hx rfl (hb hby at_35) rfl k_) ?_
        refine Go.st (S' := T0.setTop (mkF m 37 #[.val (.int p0), .val (.int p1), .val (.int (p0 &&& (65535 : Int32))), .val (.int (p1 &&& (3 : Int32))), .unset] [])) (fun _ k_ => XS.istoreN X0.here hx rfl (hb hby at_36) rfl (l' := #[.val (.int p0), .val (.int p1), .val (.int (p0 &&& (65535 : Int32))), .val (.int (p1 &&& (3 : Int32))), .unset]) rfl k_) ?_
        refine Go.st (S' := T0.setTop (mkF m 45 #[.val (.int p0), .val (.int p1), .val (.int (p0 &&& (65535 : Int32))), .val (.int (p1 &&& (3 : Int32))), .unset] [])) (fun _ k_ => XS.goto X0.here hx rfl (pc0 := 37) (pc' := 45) rfl (hb hby at_37) (by decide) (by decide) k_) ?_
        exact J45 _
      · skip
        refine Go.st (S' := T0.setTop (mkF m 40 #[.val (.int p0), .val (.int p1), .unset, .val (.int (p1 &&& (3 : Int32))), .unset] [])) (fun _ k_ => XS.icmpYes X0.here hx rfl (pc0 := 29) (pc' := 40) rfl (hb hby at_29) rfl (feq hc29).2 (by decide) (by decide) k_) ?_
        refine Go.st (S' := T0.setTop (mkF m 41 #[.val (.int p0), .val (.int p1), .unset, .val (.int (p1 &&& (3 : Int32))), .unset] [(.int p0)])) (fun _ k_ => XS.iloadN X0.here hx rfl (hb hby at_40) rfl k_) ?_
        refine Go.st (S' := T0.setTop (mkF m 43 #[.val (.int p0), .val (.int p1), .unset, .val (.int (p1 &&& (3 : Int32))), .unset] [(.int (2097151 : Int32)), (.int p0)])) (X0.ldcInt hx hown (mvT hZ (w0 hw)) (g := (mkF m 41 #[.val (.int p0), .val (.int p1), .unset, .val (.int (p1 &&& (3 : Int32))), .unset] [(.int p0)])) rfl (hb hby at_41)) ?_
        refine Go.st (S' := T0.setTop (mkF m 44 #[.val (.int p0), .val (.int p1), .unset, .val (.int (p1 &&& (3 : Int32))), .unset] [(.int (p0 &&& (2097151 : Int32)))])) (fun _ k_ => XS.iand X0.here hx rfl (hb hby at_43) rfl k_) ?_
        refine Go.st (S' := T0.setTop (mkF m 45 #[.val (.int p0), .val (.int p1), .val (.int (p0 &&& (2097151 : Int32))), .val (.int (p1 &&& (3 : Int32))), .unset] [])) (fun _ k_ => XS.istoreN X0.here hx rfl (hb hby at_44) rfl (l' := #[.val (.int p0), .val (.int p1), .val (.int (p0 &&& (2097151 : Int32))), .val (.int (p1 &&& (3 : Int32))), .unset]) rfl k_) ?_
        exact J45 _
set_option maxRecDepth 65536 in
set_option maxHeartbeats 40000000 in
theorem comes_1 {Post : Tables → Env → Array Value → State → Outcome → State → Prop} (hpost : ∀ tb e args s v u, (limb_1_1.after args s (.returned v) u = true ∧ limb_1_2.after args s (.returned v) u = true ∧ True) → FrameEnd s (.returned v) u (Jvm.fieldLocs frame_1_writes args s ++ Jvm.arrayLocs frame_1_arrays args s ++ Jvm.staticLocs frame_1_statics s) 0 0 → Post tb e args s (.returned v) u) :
    ArmFor flags0 classFile x code maxLocals ret World_1 tables_1 room_1 Calls_1 rest_1 Pre_1 Post := by
  intro l hfl _ _ p e ha hc hk s m args below hf hA hF happ hP
  obtain ⟨hcalls, hrest, hpre⟩ := hP
  obtain ⟨-, -, -, hnamed, -, -, -, hat⟩ := (Spec.applies_iff hf).mp happ
  obtain ⟨hg, hn⟩ := and_e (Cond.before_iff.mp (show (Jvm.Cond.and given_1 narrow_1).before args s = true from hpre))
  obtain ⟨g1, g2⟩ := and_e hg
  obtain ⟨g3, g4⟩ := and_e g2
  obtain ⟨u0, u1, rfl⟩ : ∃ u0 u1 : Value, args = #[u0, u1] := by
    have hs : args.size = 2 := by simpa [Cond.value, given_1] using g1
    obtain ⟨L⟩ := args
    match L, hs with
    | [u0, u1], _ => exact ⟨u0, u1, rfl⟩
  have hw := fun d (hd : d ∈ tables_1) => atoms_spec (ws := Jvm.Cond.code x code maxLocals ret :: tables_1) hat d (List.mem_cons_of_mem _ hd)
  obtain ⟨i0, ei0⟩ := is_v g3
  obtain rfl : u0 = (.int i0) := Option.some.inj ei0
  obtain ⟨i1, ei1⟩ := is_v g4
  obtain rfl : u1 = (.int i1) := Option.some.inj ei1
  obtain ⟨n, o, h1, h2, h3, v, L, rfl, ⟨hv, N⟩, hq⟩ := rm0 l s _ hw tables_1 i0 i1 s.heap s.heap.size (Nat.le_refl _) p e ha hc hk s m _ below hf ((Spec.applies_iff_loose hf).mp happ).1 ⟨rfl, State.Warmed39.refl s, rfl⟩ trivial
  subst hv
  refine ⟨n, _, h1, h2, h3, hpost _ _ _ _ _ _ ⟨Cond.after_iff.mpr rfl, Cond.after_iff.mpr (eq_i res_at (Term.int_eval (1)) rfl), trivial⟩ ⟨hq.1, hq.2.1, (hq.2.2.sift fun y hy => Or.inr (N y hy)).mono (by decide) (by decide)⟩⟩
theorem main_1_1 : Claimed_1_1 := comes_1 fun _ _ _ _ _ _ h hF => ⟨h.1, hF⟩
theorem main_1_2 : Claimed_1_2 := comes_1 fun _ _ _ _ _ _ h hF => ⟨h.2.1, hF⟩
end Jvm.Pilot.@@N@@
namespace Jvm.Pilot.@@N@@
open Jvm Jvm.ClassFile Sem Op Lib Jvm.Free Jvm.Stand Jvm.Pilot.@@N@@.Jvm.D
/-! MADE BY PROGRAM (witnessworld.py) out of the Statement's table words and the real class files: 9 classes; the members and pool entries that the words name. The judged class is class 1, her method 1. -/
namespace start1
open Jvm.ClassFile
def u (s : String) : CpInfo := .utf8 (stringToUtf16 s)
/-- a pool by its gaps: so many unusable entries, then the entry; so many at the end -/
def gap : Nat → List CpInfo → List CpInfo
  | 0, r => r
  | n + 1, r => .unusable :: gap n r
def poolList (es : List (Nat × CpInfo)) (last : Nat) : List CpInfo := es.foldr (fun e r => gap e.1 (e.2 :: r)) (gap last [])
def pool (es : List (Nat × CpInfo)) (last : Nat) : Array CpInfo := ⟨poolList es last⟩
def fileOf (pool : Array CpInfo) (this : Nat) (attrs : Array Attribute := #[]) (ms : Array MethodInfo := #[]) (fl : Nat := 33) (sup : Nat := 0) (ifs : Array Nat := #[]) (fds : Array FieldInfo := #[]) : ClassFile where
  minorVersion := 0
  majorVersion := 65
  constantPool := pool
  accessFlags := fl
  thisClass := this
  superClass := sup
  interfaces := ifs
  fields := fds
  methods := ms
  attributes := attrs
def plain (name : String) (sup : Option ClassId) : Class where
  name := name
  kind := .ordinary
  loader := none
  accessFlags := 33
  super := sup
  interfaces := #[]
  cf := none
  fields := #[]
  methods := #[]
  instanceTypes := #[]
  staticTypes := #[]
  resolved := #[]
  callSites := []
  init := .initialized
  statics := none
  mirror := none

def pool0 : Array CpInfo := pool [(5, u "<init>"), (0, u "()V"), (1, .class_ 10), (1, u "java/lang/Object")] 113

def k0m0 : Method := { name := "<init>", desc := "()V", sig := { parameters := [], returnType := none }, accessFlags := 1, code := none }
/-- java/lang/Object -/
def k0 : Class := { plain "java/lang/Object" none with
  accessFlags := 33
  interfaces := #[]
  cf := some (fileOf pool0 8 #[] #[{ accessFlags := 1, nameIndex := 5, descriptorIndex := 6, attributes := #[] }] 33 0 #[] #[])
  fields := #[]
  methods := #[k0m0]
  instanceTypes := #[]
  staticTypes := #[]
  resolved := Array.replicate 124 none
  statics := none }

def pool1 : Array CpInfo := pool [(2, .class_ 4), (1, u "java/lang/Object"), (0, u "<init>"), (0, u "()V"), (0, .integer 65535), (0, .integer 2097151), (0, .methodref 10 11), (0, .class_ 12), (0, .nameAndType 13 14), (0, u "com/example/quillon/quillon/model/XmlChars"), (0, u "isNameStartChar"), (0, u "(I)Z"), (0, .methodref 16 17), (0, .class_ 18), (0, .nameAndType 19 14), (0, u "com/example/quillon/quillon/model/XmlCharsIsNameStartCharPinLaw"), (0, u "expected"), (0, .integer 983039), (0, .methodref 16 22), (0, .nameAndType 23 24), (0, u "in"), (0, u "(III)Z"), (0, .integer 55296), (0, .integer 63743), (0, .integer 64976), (0, .integer 65007), (0, .integer 65534), (2, u "law"), (0, u "(II)Z")] 3

def k1m0 : Method := { name := "<init>", desc := "()V", sig := { parameters := [], returnType := none }, accessFlags := 2, code := none }
def k1c1 : Code := { maxStack := 2, maxLocals := 5, code := code, exceptionTable := #[], attributes := #[] }
def k1m1 : Method := { name := "law", desc := "(II)Z", sig := { parameters := [.int, .int], returnType := some .boolean }, accessFlags := 9, code := some k1c1 }
def k1c2 : Code := { maxStack := 2, maxLocals := 3, code := method_3_code, exceptionTable := #[], attributes := #[] }
def k1m2 : Method := { name := "in", desc := "(III)Z", sig := { parameters := [.int, .int, .int], returnType := some .boolean }, accessFlags := 10, code := some k1c2 }
def k1c3 : Code := { maxStack := 3, maxLocals := 1, code := method_4_code, exceptionTable := #[], attributes := #[] }
def k1m3 : Method := { name := "expected", desc := "(I)Z", sig := { parameters := [.int], returnType := some .boolean }, accessFlags := 10, code := some k1c3 }
/-- com/example/quillon/quillon/model/XmlCharsIsNameStartCharPinLaw -/
def k1 : Class := { plain "com/example/quillon/quillon/model/XmlCharsIsNameStartCharPinLaw" (some 0) with
  accessFlags := 49
  interfaces := #[]
  cf := some (fileOf pool1 16 #[] #[{ accessFlags := 2, nameIndex := 5, descriptorIndex := 6, attributes := #[] }, { accessFlags := 9, nameIndex := 32, descriptorIndex := 33, attributes := #[] }, { accessFlags := 10, nameIndex := 23, descriptorIndex := 24, attributes := #[] }, { accessFlags := 10, nameIndex := 19, descriptorIndex := 14, attributes := #[] }] 49 2 #[] #[])
  fields := #[]
  methods := #[k1m0, k1m1, k1m2, k1m3]
  instanceTypes := #[]
  staticTypes := #[]
  resolved := Array.replicate 37 none
  statics := none }

def pool2 : Array CpInfo := pool [(2, .class_ 4), (1, u "java/lang/Object"), (0, u "<init>"), (0, u "()V"), (0, .integer 55295), (1, .integer 65533), (0, .integer 65536), (1, .integer 63744), (0, .integer 64975), (0, .integer 65008), (0, .integer 983039), (15, .class_ 33), (1, u "com/example/quillon/quillon/model/XmlChars"), (0, u "isNameStartChar"), (0, u "(I)Z")] 37

def k2m0 : Method := { name := "<init>", desc := "()V", sig := { parameters := [], returnType := none }, accessFlags := 2, code := none }
def k2c1 : Code := { maxStack := 2, maxLocals := 1, code := prog_59_method_3_code, exceptionTable := #[], attributes := #[] }
def k2m1 : Method := { name := "isNameStartChar", desc := "(I)Z", sig := { parameters := [.int], returnType := some .boolean }, accessFlags := 9, code := some k2c1 }
/-- com/example/quillon/quillon/model/XmlChars -/
def k2 : Class := { plain "com/example/quillon/quillon/model/XmlChars" (some 0) with
  accessFlags := 49
  interfaces := #[]
  cf := some (fileOf pool2 31 #[] #[{ accessFlags := 2, nameIndex := 5, descriptorIndex := 6, attributes := #[] }, { accessFlags := 9, nameIndex := 34, descriptorIndex := 35, attributes := #[] }] 49 2 #[] #[])
  fields := #[]
  methods := #[k2m0, k2m1]
  instanceTypes := #[]
  staticTypes := #[]
  resolved := Array.replicate 73 none
  statics := none }

def pool3 : Array CpInfo := pool [(1, u "java/lang/Cloneable"), (0, .class_ 1), (0, u "java/lang/Object"), (0, .class_ 3)] 3

/-- java/lang/Cloneable -/
def k3 : Class := { plain "java/lang/Cloneable" (some 0) with
  accessFlags := 1537
  interfaces := #[]
  cf := some (fileOf pool3 2 #[] #[] 1537 4 #[] #[])
  fields := #[]
  methods := #[]
  instanceTypes := #[]
  staticTypes := #[]
  resolved := Array.replicate 8 none
  statics := none }

def pool4 : Array CpInfo := pool [(1, u "java/io/Serializable"), (0, .class_ 1), (0, u "java/lang/Object"), (0, .class_ 3)] 3

/-- java/io/Serializable -/
def k4 : Class := { plain "java/io/Serializable" (some 0) with
  accessFlags := 1537
  interfaces := #[]
  cf := some (fileOf pool4 2 #[] #[] 1537 4 #[] #[])
  fields := #[]
  methods := #[]
  instanceTypes := #[]
  staticTypes := #[]
  resolved := Array.replicate 8 none
  statics := none }

/-- the primitive byte -/
def k5 : Class := { plain "byte" none with kind := .primitive 'B', accessFlags := 0x411 }
/-- [B -/
def k6 : Class := { plain "[B" (some 0) with kind := .array 5 .byte, interfaces := #[3, 4], accessFlags := 1041 }

/-- the primitive int -/
def k7 : Class := { plain "int" none with kind := .primitive 'I', accessFlags := 0x411 }
/-- [I -/
def k8 : Class := { plain "[I" (some 0) with kind := .array 7 .int, interfaces := #[3, 4], accessFlags := 1041 }

def heap : Heap := #[]
def classes : Array Class := #[k0, k1, k2, k3, k4, k5, k6, k7, k8]
def interned : List (Array UInt16 × Addr) := []
def slotsUsed : Nat := 0
def theMethod : MethodId := ⟨1, 1⟩
def args0 : Array Value := #[.int 5, .int 7]
def aboutOver (below : List Frame) : State where
  vm := { classes := classes, interned := interned.toArray }
  heap := heap
  slotsUsed := slotsUsed
  threads := #[{ frames := .invoking theMethod args0 :: below }]
def below0 : List Frame := [.native { method := ⟨0, 0⟩, args := #[] }]
def about1 : State := aboutOver below0
def p0 : Program := .bare "" "" ""
def e0 : Env := launch0.env 0 0 0
theorem w_frames : about1.frames = Frame.invoking theMethod args0 :: below0 := rfl
set_option maxRecDepth 65536 in
theorem w_args : argsFit about1.vm theMethod args0 = true := by decide +kernel
set_option maxRecDepth 65536 in
theorem w_heap : heapFits about1 = true := by decide +kernel
set_option maxRecDepth 65536 in
theorem w_runnable : about1.curStatus? = some .runnable := by decide +kernel
set_option maxRecDepth 65536 in
theorem w_alone : about1.alone = true := by decide +kernel
set_option maxRecDepth 65536 in
theorem w_named : about1.methodNamed? x = some theMethod := by decide +kernel
set_option maxRecDepth 65536 in
theorem w_hears : about1.hears theMethod below0 = true := by decide +kernel
set_option maxRecDepth 65536 in
theorem w_ripe : about1.ripe theMethod args0 below0 = true := by decide +kernel
theorem w_running : about1.status = .running := rfl
set_option maxRecDepth 65536 in
theorem w_room : about1.hasRoom e0.platform room_1 = true :=
  launch0.hasRoom_least _ room_1 (by decide +kernel) (by decide +kernel) (by decide +kernel) (by decide +kernel) (by decide +kernel) (by decide +kernel)
theorem allAtoms_all (ts : List Jvm.Cond) (a : Array Jvm.Value) (st : Jvm.State) : (allAtoms ts).before a st = ts.all (fun c => c.before a st) := by
  induction ts with
  | nil => rfl
  | cons c t ih =>
    show (Jvm.Cond.and c (allAtoms t)).before a st = _
    rw [Jvm.Cond.before_and, ih, List.all_cons]
def words1 : List Jvm.Cond := Jvm.Cond.code x code maxLocals ret :: tables_1
/-- a 'code' word, met by the world's own term for the bytes: nothing is compared byte by byte -/
theorem code_word {y : MethodName} {bytes : ByteArray} {mx : Nat} {rt : Option FieldType} {a : Array Value} {s : State} {m : MethodId} {meth : Method} {c : Code} (h1 : s.methodNamed? y = some m) (h2 : s.vm.method? m = some meth) (h3 : meth.code = some c) (h4 : c.code = bytes)
    (h5 : (c.maxLocals == mx && c.exceptionTable.isEmpty && decide (c.maxStack ≤ mostOperands) && decide (meth.sig.returnType = rt) && !meth.locks && decide (parseMethodDescriptor y.desc = some meth.sig)) = true) : (Jvm.Cond.code y bytes mx rt).before a s = true := by
  simp only [Bool.and_eq_true, beq_iff_eq, Bool.not_eq_true', decide_eq_true_eq] at h5
  obtain ⟨⟨⟨⟨⟨g1, g2⟩, g3⟩, g4⟩, g5⟩, g6⟩ := h5
  simp [Cond.before, Cond.holds, Cond.value, h1, h2, h3, h4, g1, g2, g3, g4, g5, g6]
def isCode : Jvm.Cond → Bool
  | .code _ _ _ _ => true
  | _ => false
theorem all_split {L : List Jvm.Cond} {P : Jvm.Cond → Bool} (h1 : L.all (fun c => isCode c || P c) = true) (h2 : ∀ c ∈ L.filter isCode, P c = true) : L.all P = true := by
  refine List.all_eq_true.mpr fun c hc => ?_
  have h := List.all_eq_true.mp h1 c hc
  rcases Bool.eq_false_or_eq_true (isCode c) with hi | hi
  · exact h2 c (List.mem_filter.mpr ⟨hc, hi⟩)
  · simpa [hi] using h
set_option maxRecDepth 65536 in
theorem w_c0 : (Jvm.Cond.code x code maxLocals ret).before args0 about1 = true := code_word (m := ⟨1, 1⟩) (meth := k1m1) (c := k1c1) (by decide +kernel) rfl rfl rfl (by decide +kernel)
set_option maxRecDepth 65536 in
theorem w_c1 : (Jvm.Cond.code ({ cls := "com/example/quillon/quillon/model/XmlChars", name := "isNameStartChar", desc := "(I)Z" } : Jvm.MethodName) prog_59_method_3_code (1 : Nat) (Option.some Jvm.ClassFile.FieldType.boolean)).before args0 about1 = true := code_word (m := ⟨2, 1⟩) (meth := k2m1) (c := k2c1) (by decide +kernel) rfl rfl rfl (by decide +kernel)
set_option maxRecDepth 65536 in
theorem w_c2 : (Jvm.Cond.code ({ cls := "com/example/quillon/quillon/model/XmlCharsIsNameStartCharPinLaw", name := "expected", desc := "(I)Z" } : Jvm.MethodName) method_4_code (1 : Nat) (Option.some Jvm.ClassFile.FieldType.boolean)).before args0 about1 = true := code_word (m := ⟨1, 3⟩) (meth := k1m3) (c := k1c3) (by decide +kernel) rfl rfl rfl (by decide +kernel)
set_option maxRecDepth 65536 in
theorem w_c3 : (Jvm.Cond.code ({ cls := "com/example/quillon/quillon/model/XmlCharsIsNameStartCharPinLaw", name := "in", desc := "(III)Z" } : Jvm.MethodName) method_3_code (3 : Nat) (Option.some Jvm.ClassFile.FieldType.boolean)).before args0 about1 = true := code_word (m := ⟨1, 2⟩) (meth := k1m2) (c := k1c2) (by decide +kernel) rfl rfl rfl (by decide +kernel)
def codes1 : List Jvm.Cond := [Jvm.Cond.code x code maxLocals ret, Jvm.Cond.code ({ cls := "com/example/quillon/quillon/model/XmlChars", name := "isNameStartChar", desc := "(I)Z" } : Jvm.MethodName) prog_59_method_3_code (1 : Nat) (Option.some Jvm.ClassFile.FieldType.boolean), Jvm.Cond.code ({ cls := "com/example/quillon/quillon/model/XmlCharsIsNameStartCharPinLaw", name := "expected", desc := "(I)Z" } : Jvm.MethodName) method_4_code (1 : Nat) (Option.some Jvm.ClassFile.FieldType.boolean), Jvm.Cond.code ({ cls := "com/example/quillon/quillon/model/XmlCharsIsNameStartCharPinLaw", name := "in", desc := "(III)Z" } : Jvm.MethodName) method_3_code (3 : Nat) (Option.some Jvm.ClassFile.FieldType.boolean)]
set_option maxRecDepth 65536 in
theorem codes_eq : words1.filter isCode = codes1 := rfl
theorem w_codes : ∀ c ∈ words1.filter isCode, c.before args0 about1 = true := by
  rw [codes_eq]
  intro c hc
  simp only [codes1, List.mem_cons, List.not_mem_nil, or_false] at hc
  rcases hc with rfl | rfl | rfl | rfl
  · exact w_c0
  · exact w_c1
  · exact w_c2
  · exact w_c3
set_option maxRecDepth 65536 in
theorem w_t1 : (words1.take 24).all (fun c => isCode c || c.before args0 about1) = true := by decide +kernel
set_option maxRecDepth 65536 in
theorem w_t2 : (words1.drop 24).all (fun c => isCode c || c.before args0 about1) = true := by decide +kernel
theorem w_tables : (allAtoms (Jvm.Cond.code x code maxLocals ret :: tables_1)).before args0 about1 = true := by
  rw [allAtoms_all]
  show words1.all (fun c => c.before args0 about1) = true
  refine all_split ?_ w_codes
  rw [← List.take_append_drop 24 words1, List.all_append, w_t1, w_t2]
  rfl
set_option maxRecDepth 65536 in
theorem w_case : (Jvm.Cond.and given_1 narrow_1).before args0 about1 = true := by decide +kernel
theorem w_applies : (headSpec (Jvm.Cond.code x code maxLocals ret :: tables_1) room_1).applies x e0.platform about1 = true :=
  (Spec.applies_iff w_frames).mpr ⟨w_running, w_runnable, w_alone, w_named, w_hears, w_ripe, w_room, w_tables⟩
theorem atStart : AtStart classFile x code maxLocals ret World_1 tables_1 room_1 Calls_1 rest_1 Pre_1 launch0 p0 e0 about1 theMethod args0 below0 :=
  ⟨lists_1, trivial, launch0.admits_env _ _ _, launch0.least_env, fairChoices_fair.cas, fairChoices_fair.clock, w_frames, w_args, w_heap, w_applies, trivial, trivial, w_case⟩
end start1
theorem witness_1 : WitnessClaimed_1 := ⟨start1.p0, start1.e0, start1.about1, start1.theMethod, start1.args0, start1.below0, start1.atStart⟩
end Jvm.Pilot.@@N@@
