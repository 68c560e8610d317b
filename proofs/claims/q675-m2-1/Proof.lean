import JvmDerived
import JvmDerived.Pilot.@@N@@Statement
import JvmDerived.Pilot.@@N@@Code
set_option linter.unusedVariables false
set_option linter.unusedSimpArgs false
namespace Jvm.Pilot.@@N@@
open Jvm Jvm.ClassFile Sem Op Lib Jvm.Free Jvm.Stand Jvm.LawKit Jvm.RoadKit Bundle Jvm.Pilot.@@N@@.Jvm.D
/-! ## own layer: walks in goal-directed form -/
section Layer
variable {p : Program} {l : Launch} {e : Env} {R : Room} {s : State} {m : MethodId} {args : Array Value} {below : List Frame} {meth : Method} {c : Code} {T : State} {locs : List Loc} {cells slots : Nat} {Z : State} {a0 : Array Value} {h h' : Heap} {a b : Addr} {ty : FieldType} {xs ys : List Int32} {ls : List Int64}
/-- from S the run comes to the invocation's end, with what Q says of the value, the heap and the written places -/
def Go (p : Program) (e : Env) (below : List Frame) (s : State) (rm : Room) (Q : Option Value → Heap → List Loc → Prop) (S : State) : Prop :=
  ∃ t o, Steps p.tables e below S t ∧ t.status = .running ∧ Ended t below o ∧ ∃ v L, o = .returned v ∧ Q v t.heap L ∧ FrameEnd s o t L rm.cells rm.slots
theorem Go.st {rm : Room} {Q : Option Value → Heap → List Loc → Prop} {S S' : State} (k : ∀ t, Steps p.tables e below S' t → Steps p.tables e below S t) (g : Go p e below s rm Q S') : Go p e below s rm Q S := by
  obtain ⟨t, o, h, r⟩ := g; exact ⟨t, o, k t h, r⟩
theorem Go.ret {rm : Room} {Q : Option Value → Heap → List Loc → Prop} {S : State} {v : Option Value} (X : Stand p l e rm s m args below meth c T locs cells slots) (hv : meth.sig.returnType = none → v = none) (hlk : meth.locks = false) (hc : cells ≤ rm.cells) (hs : slots ≤ rm.slots) (hQ : Q v T.heap locs)
    (st : ∀ fs, (∀ (f : JFrame) (acts : List Action), f.method = m → f.locked = none → f.entered = [] → (doReturn e (T.setTop f) acts v).1 = T.setFrames fs) → Steps p.tables e below S (T.setFrames fs)) : Go p e below s rm Q S := by
  obtain ⟨fs, hr, hrun, hended, hW, hsame⟩ := X.leave (v := v) hv hlk
  exact ⟨_, _, st fs hr, hrun, hended, v, locs, rfl, hQ, ⟨v, rfl⟩, hW, hsame.mono hc hs⟩
theorem Go.retI {rm : Room} {Q : Option Value → Heap → List Loc → Prop} (X : Stand p l e rm s m args below meth c T locs cells slots) (hx : p.tables.exec = Jvm.exec) (hret : meth.sig.returnType = some .int) (hlk : meth.locks = false) {pc : Nat} {Ls : Array Slot} {z : Int32} {rest : List Value} (hd : decode c.code pc = .ok (.ireturn, 1)) (hc : cells ≤ rm.cells) (hs : slots ≤ rm.slots)
    (hQ : Q (some (.int z)) T.heap locs) : Go p e below s rm Q (T.setTop (mkF m pc Ls (.int z :: rest))) := by
  refine Go.ret X (v := some (.int z)) (fun q => by rw [hret] at q; cases q) hlk hc hs hQ fun fs hr => ?_
  have hm' : T.vm.method? m = some meth := X.method'
  have hn : narrow .int (.int z) = .int z := rfl
  show Steps p.tables e below (T.setTop { method := m, pc := pc, locals := Ls, stack := _ :: rest, locked := none }) _
  jvm_step X.here [X.here.top, hx, hd, hm', hret, hn]
  first | (intro acts; rw [hr _ acts rfl rfl rfl]) | rw [hr _ _ rfl rfl rfl]
  exact Steps.refl _
theorem Go.retN {rm : Room} {Q : Option Value → Heap → List Loc → Prop} {t : FieldType} (X : Stand p l e rm s m args below meth c T locs cells slots) (hx : p.tables.exec = Jvm.exec) (hret : meth.sig.returnType = some t) (ht : t = .boolean ∨ t = .byte ∨ t = .char ∨ t = .short) (hlk : meth.locks = false) {pc : Nat} {Ls : Array Slot} {z : Int32} {rest : List Value} (hd : decode c.code pc = .ok (.ireturn, 1)) (hc : cells ≤ rm.cells) (hs : slots ≤ rm.slots)
    (hQ : Q (some (.int (nar t z))) T.heap locs) : Go p e below s rm Q (T.setTop (mkF m pc Ls (.int z :: rest))) :=
  Go.ret X (v := some (.int (nar t z))) (fun q => by rw [hret] at q; cases q) hlk hc hs hQ fun fs hr => Jvm.RoadKit.retN X hx hret ht hd hr
theorem Go.retV {rm : Room} {Q : Option Value → Heap → List Loc → Prop} (X : Stand p l e rm s m args below meth c T locs cells slots) (hx : p.tables.exec = Jvm.exec) (hret : meth.sig.returnType = none) (hlk : meth.locks = false) {pc : Nat} {Ls : Array Slot} (hd : decode c.code pc = .ok (.return_, 1)) (hc : cells ≤ rm.cells) (hs : slots ≤ rm.slots)
    (hQ : Q none T.heap locs) : Go p e below s rm Q (T.setTop (mkF m pc Ls [])) :=
  Go.ret X (v := none) (fun _ => rfl) hlk hc hs hQ fun fs hr => X.returnOut hx hret hd hr
theorem Go.retJ {rm : Room} {Q : Option Value → Heap → List Loc → Prop} (X : Stand p l e rm s m args below meth c T locs cells slots) (hx : p.tables.exec = Jvm.exec) (hret : meth.sig.returnType = some .long) (hlk : meth.locks = false) {pc : Nat} {Ls : Array Slot} {z : Int64} {rest : List Value} (hd : decode c.code pc = .ok (.lreturn, 1)) (hc : cells ≤ rm.cells) (hs : slots ≤ rm.slots)
    (hQ : Q (some (.long z)) T.heap locs) : Go p e below s rm Q (T.setTop (mkF m pc Ls (.long z :: rest))) := by
  refine Go.ret X (v := some (.long z)) (fun q => by rw [hret] at q; cases q) hlk hc hs hQ fun fs hr => ?_
  have hm' : T.vm.method? m = some meth := X.method'
  show Steps p.tables e below (T.setTop { method := m, pc := pc, locals := Ls, stack := _ :: rest, locked := none }) _
  jvm_step X.here [X.here.top, hx, hd, hm', hret, narrow]
  first | (intro acts; rw [hr _ acts rfl rfl rfl]) | rw [hr _ _ rfl rfl rfl]
  exact Steps.refl _
theorem Go.retR {rm : Room} {Q : Option Value → Heap → List Loc → Prop} {t : FieldType} (X : Stand p l e rm s m args below meth c T locs cells slots) (hx : p.tables.exec = Jvm.exec) (hret : meth.sig.returnType = some t) (ht : t.isReference = true) (hlk : meth.locks = false) {pc : Nat} {Ls : Array Slot} {z : Addr} (hd : decode c.code pc = .ok (.areturn, 1)) (hc : cells ≤ rm.cells) (hs : slots ≤ rm.slots)
    (hQ : Q (some (.ref z)) T.heap locs) : Go p e below s rm Q (T.setTop (mkF m pc Ls [.ref z])) := by
  refine Go.ret X (v := some (.ref z)) (fun q => by rw [hret] at q; cases q) hlk hc hs hQ fun fs hr => ?_
  exact X.areturnOut hx rfl hret ht hd hr
/-- the contract of a body: called with these arguments over the heap h0 it comes back, and Q -/
abbrev Con (l : Launch) (Z : State) (y : MethodName) (bytes : ByteArray) (maxL : Nat) (ret : Option FieldType) (ws : List Jvm.Cond) (rm : Room) (as : Array Value) (h0 : Heap) (Q : Option Value → Heap → List Loc → Prop) : Prop :=
  MetFree l y (head1 (Jvm.Cond.code y bytes maxL ret :: ws) rm) (fun a U => a = as ∧ Z.Warmed39 U.vm ∧ U.heap = h0) (fun _ _ _ _ _ => True) (fun _ U o U' => ∃ v L, o = .returned v ∧ Q v U'.heap L ∧ FrameEnd U o U' L rm.cells rm.slots)
theorem Con.mk {y : MethodName} {bytes : ByteArray} {maxL : Nat} {ret : Option FieldType} {ws : List Jvm.Cond} {rm : Room} {as : Array Value} {h0 : Heap} {Q : Option Value → Heap → List Loc → Prop} (hp : plainFor y = true)
    (body : ∀ (p : Program) (e : Env) (s : State) (m : MethodId) (below : List Frame) (meth : Method) (c : Code) (T : State), p.tables.exec = Jvm.exec → c.code = bytes → c.maxLocals = maxL → s.vm.findClass y.cls = some m.cls → meth.name = y.name → meth.sig.returnType = ret → meth.locks = false → Z.Warmed39 s.vm →
      Stand p l e rm s m as below meth c T [] 0 0 → T.heap = h0 → Go p e below s rm Q (T.setTop (entryFrame m as maxL))) : Con l Z y bytes maxL ret ws rm as h0 Q := by
  refine MetFree.of_bodySF hp hisR ?_
  intro p e s m args below meth c s₁ Bd hml0 hP hK
  obtain ⟨rfl, hZ, hh⟩ := hP
  exact body p e s m below meth c s₁ Bd.exec Bd.bytes hml0 (findClass_of_methodNamed Bd.named) (name_of_methodNamed Bd.named Bd.method).1 Bd.returns Bd.notSynchronized hZ (Stand.of_body Bd) (by rw [← hh, Bd.state]; rfl)
theorem Go.cast {rm : Room} {Q : Option Value → Heap → List Loc → Prop} {f f' : JFrame} (q : f = f') (g : Go p e below s rm Q (T.setTop f')) : Go p e below s rm Q (T.setTop f) := q ▸ g
/-! calls -/
theorem callSt (X : Stand p l e R s m args below meth c T locs cells slots) (hx : p.tables.exec = Jvm.exec) (hZ : Z.Warmed39 s.vm) {own : String} {index : Nat} {y : MethodName} {bytes : ByteArray} {maxL : Nat} {ret : Option FieldType} {rm : Room} {W : Nat} {Q : Option Value → Heap → List Loc → Prop} {argsL rest : List Value}
    (hown : s.vm.findClass own = some m.cls) (w1 : (Jvm.Cond.methodLink own index y).before a0 Z = true) (w2 : (Jvm.Cond.static y).before a0 Z = true) (w3 : (Jvm.Cond.initialized y.cls).before a0 Z = true) (w4 : (Jvm.Cond.code y bytes maxL ret).before a0 Z = true) (hy : y.cls ≠ "java/lang/invoke/MethodHandle" ∧ y.cls ≠ "java/lang/invoke/VarHandle")
    (eT : T.heap = h) (hM : Con l Z y bytes maxL ret [] rm argsL.toArray h Q) (hf : rm.frames + 1 ≤ R.frames) (hl : W + (maxL + 11) + rm.locals ≤ R.locals) {sig : MethodDescriptor} (hpd : parseMethodDescriptor y.desc = some sig) (hlen : argsL.length = sig.parameters.length)
    {g : JFrame} (hg : g.method = m) (hsize : g.locals.size = c.maxLocals) (hstack : g.stack = argsL.reverse ++ rest) (hW : 2 * g.monitorRoom + (rest.map fun v => v.category).sum ≤ W) (hdg : decode c.code g.pc = .ok (.invokestatic index, 3)) (hc : cells + rm.cells ≤ R.cells) (hs : slots + rm.slots ≤ R.slots) :
    ∃ (v : Option Value) (T' : State) (h' : Heap) (L : List Loc), Stand p l e R s m args below meth c T' (locs ++ L) (cells + rm.cells) (slots + rm.slots) ∧ T'.heap = h' ∧ Q v h' L ∧ ∀ t, Steps p.tables e below (T'.setTop { g with pc := g.pc + 3, stack := v.toList ++ rest }) t → Steps p.tables e below (T.setTop g) t := by
  obtain ⟨v, _, ⟨T1, L1, k1, n1⟩, -, X1, ⟨Lc, hQ, l1, y1, z1⟩, st⟩ := Jvm.LawKit.callS X hx (y := y) hown (mvT hZ w1) (mvT hZ w2) (mvT hZ w3) (mvT hZ w4) hy (backOf (W := W) (Z := Z) (a0 := a0) (h := h) hM hZ w4 w3 hf hl) (g := g) hg hsize (argsL := argsL) (rest := rest) (fun sg q => by rw [hpd] at q; cases q; exact hlen) hstack hW hdg (fun _ _ => ⟨rfl, eT, hc, hs⟩)
  dsimp only [Pt.U, Pt.locs, Pt.cells, Pt.slots] at X1 l1 y1 z1 st hQ
  subst l1 y1 z1
  exact ⟨v, T1, T1.heap, Lc, X1, rfl, hQ, st⟩
theorem callIn (X : Stand p l e R s m args below meth c T locs cells slots) (hx : p.tables.exec = Jvm.exec) (hZ : Z.Warmed39 s.vm) {own : String} {index : Nat} {y : MethodName} {bytes : ByteArray} {maxL : Nat} {rm : Room} {W : Nat} {Q : Option Value → Heap → List Loc → Prop} {argsL rest : List Value} (hi : y.name = "<init>")
    (hown : s.vm.findClass own = some m.cls) (w1 : (Jvm.Cond.methodLink own index y).before a0 Z = true) (w2 : (Jvm.Cond.instanceMethod y).before a0 Z = true) (w3 : (Jvm.Cond.initialized y.cls).before a0 Z = true) (w4 : (Jvm.Cond.code y bytes maxL none).before a0 Z = true) (hy : y.cls ≠ "java/lang/invoke/MethodHandle" ∧ y.cls ≠ "java/lang/invoke/VarHandle")
    (eT : T.heap = h) (hM : Con l Z y bytes maxL none [] rm (.ref a :: argsL).toArray h Q) (hf : rm.frames + 1 ≤ R.frames) (hl : W + (maxL + 11) + rm.locals ≤ R.locals) {sig : MethodDescriptor} (hpd : parseMethodDescriptor y.desc = some sig) (hlen : argsL.length = sig.parameters.length)
    {g : JFrame} (hg : g.method = m) (hsize : g.locals.size = c.maxLocals) (hstack : g.stack = argsL.reverse ++ .ref a :: rest) (hW : 2 * g.monitorRoom + (rest.map fun v => v.category).sum ≤ W) (hdg : decode c.code g.pc = .ok (.invokespecial index, 3)) (hc : cells + rm.cells ≤ R.cells) (hs : slots + rm.slots ≤ R.slots) :
    ∃ (v : Option Value) (T' : State) (h' : Heap) (L : List Loc), Stand p l e R s m args below meth c T' (locs ++ L) (cells + rm.cells) (slots + rm.slots) ∧ T'.heap = h' ∧ Q v h' L ∧ ∀ t, Steps p.tables e below (T'.setTop { g with pc := g.pc + 3, stack := v.toList ++ rest }) t → Steps p.tables e below (T.setTop g) t := by
  obtain ⟨v, _, ⟨T1, L1, k1, n1⟩, -, X1, ⟨Lc, hQ, l1, y1, z1⟩, st⟩ := X.specialBack hx (y := y) hi hown (mvT hZ w1) (mvT hZ w2) (mvT hZ w4) hy (backOf (W := W) (Z := Z) (a0 := a0) (h := h) hM hZ w4 w3 hf hl) (g := g) hg hsize (Steps.refl _) (a := a) (argsL := argsL) (rest := rest) (fun sg q => by rw [hpd] at q; cases q; exact hlen) hstack hW hdg (fun _ _ => ⟨rfl, eT, hc, hs⟩)
  dsimp only [Pt.U, Pt.locs, Pt.cells, Pt.slots] at X1 l1 y1 z1 st hQ
  subst l1 y1 z1
  exact ⟨v, T1, T1.heap, Lc, X1, rfl, hQ, fun t k => st.trans k⟩
theorem callVi (X : Stand p l e R s m args below meth c T locs cells slots) (hx : p.tables.exec = Jvm.exec) (hZ : Z.Warmed39 s.vm) {own C : String} {index : Nat} {y : MethodName} {bytes : ByteArray} {maxL : Nat} {ret : Option FieldType} {rm : Room} {W : Nat} {Q : Option Value → Heap → List Loc → Prop} {argsL rest : List Value}
    (hown : s.vm.findClass own = some m.cls) (w1 : (Jvm.Cond.methodLink own index y).before a0 Z = true) (wd : (Jvm.Cond.declares y).before a0 Z = true) (ws : (Jvm.Cond.selects C y y).before a0 Z = true) (w2 : (Jvm.Cond.instanceMethod y).before a0 Z = true) (w3 : (Jvm.Cond.initialized y.cls).before a0 Z = true) (w4 : (Jvm.Cond.code y bytes maxL ret).before a0 Z = true) (hy : y.cls ≠ "java/lang/invoke/MethodHandle" ∧ y.cls ≠ "java/lang/invoke/VarHandle")
    (eT : T.heap = h) (E : Exa Z h a C) (hM : Con l Z y bytes maxL ret [] rm (.ref a :: argsL).toArray h Q) (hf : rm.frames + 1 ≤ R.frames) (hl : W + (maxL + 11) + rm.locals ≤ R.locals) {sig : MethodDescriptor} (hpd : parseMethodDescriptor y.desc = some sig) (hlen : argsL.length = sig.parameters.length)
    {g : JFrame} (hg : g.method = m) (hsize : g.locals.size = c.maxLocals) (hstack : g.stack = argsL.reverse ++ .ref a :: rest) (hW : 2 * g.monitorRoom + (rest.map fun v => v.category).sum ≤ W) (hdg : decode c.code g.pc = .ok (.invokevirtual index, 3)) (hc : cells + rm.cells ≤ R.cells) (hs : slots + rm.slots ≤ R.slots) :
    ∃ (v : Option Value) (T' : State) (h' : Heap) (L : List Loc), Stand p l e R s m args below meth c T' (locs ++ L) (cells + rm.cells) (slots + rm.slots) ∧ T'.heap = h' ∧ Q v h' L ∧ ∀ t, Steps p.tables e below (T'.setTop { g with pc := g.pc + 3, stack := v.toList ++ rest }) t → Steps p.tables e below (T.setTop g) t := by
  obtain ⟨cB, kB, q1, q2, q3⟩ := isOf hZ eT E
  obtain ⟨v, _, ⟨T1, L1, k1, n1⟩, -, X1, ⟨Lc, hQ, l1, y1, z1⟩, st⟩ := X.virtualBack hx (y := y) (z := y) hown (mvT hZ w1) (mvT hZ wd) (notFace_of_selects (args := #[]) (mvT hZ ws)) (mvT hZ ws) (mvT hZ w2) hy (backOf (W := W) (Z := Z) (a0 := a0) (h := h) hM hZ w4 w3 hf hl) q1 q3 (g := g) hg hsize (Steps.refl _) (argsL := argsL) (rest := rest) (fun sg q => by rw [hpd] at q; cases q; exact hlen) hstack hW hdg (fun _ _ => ⟨rfl, eT, hc, hs⟩)
  dsimp only [Pt.U, Pt.locs, Pt.cells, Pt.slots] at X1 l1 y1 z1 st hQ
  subst l1 y1 z1
  exact ⟨v, T1, T1.heap, Lc, X1, rfl, hQ, fun t k => st.trans k⟩
theorem callPr (X : Stand p l e R s m args below meth c T locs cells slots) (hx : p.tables.exec = Jvm.exec) (hZ : Z.Warmed39 s.vm) {own : String} {index ni : Nat} {y : MethodName} {bytes : ByteArray} {maxL : Nat} {ret : Option FieldType} {rm : Room} {W : Nat} {Q : Option Value → Heap → List Loc → Prop} {argsL rest : List Value}
    (hown : s.vm.findClass own = some m.cls) (w1 : (Jvm.Cond.methodLink own index y).before a0 Z = true) (w2 : (Jvm.Cond.instanceMethod y).before a0 Z = true) (wi : (Jvm.Cond.instantiable y.cls ni).before a0 Z = true) (wp : (Jvm.Cond.privateMethod y).before a0 Z = true) (w3 : (Jvm.Cond.initialized y.cls).before a0 Z = true) (w4 : (Jvm.Cond.code y bytes maxL ret).before a0 Z = true) (hy : y.cls ≠ "java/lang/invoke/MethodHandle" ∧ y.cls ≠ "java/lang/invoke/VarHandle")
    (eT : T.heap = h) {C : String} (E : Exa Z h a C) (hM : Con l Z y bytes maxL ret [] rm (.ref a :: argsL).toArray h Q) (hf : rm.frames + 1 ≤ R.frames) (hl : W + (maxL + 11) + rm.locals ≤ R.locals) {sig : MethodDescriptor} (hpd : parseMethodDescriptor y.desc = some sig) (hlen : argsL.length = sig.parameters.length)
    {g : JFrame} (hg : g.method = m) (hsize : g.locals.size = c.maxLocals) (hstack : g.stack = argsL.reverse ++ .ref a :: rest) (hW : 2 * g.monitorRoom + (rest.map fun v => v.category).sum ≤ W) (hdg : decode c.code g.pc = .ok (.invokevirtual index, 3)) (hc : cells + rm.cells ≤ R.cells) (hs : slots + rm.slots ≤ R.slots) :
    ∃ (v : Option Value) (T' : State) (h' : Heap) (L : List Loc), Stand p l e R s m args below meth c T' (locs ++ L) (cells + rm.cells) (slots + rm.slots) ∧ T'.heap = h' ∧ Q v h' L ∧ ∀ t, Steps p.tables e below (T'.setTop { g with pc := g.pc + 3, stack := v.toList ++ rest }) t → Steps p.tables e below (T.setTop g) t := by
  obtain ⟨cell, q1, q2⟩ := E.cell
  have wi' : (Jvm.Cond.instantiable y.cls ni).before args s = true := mvT hZ wi
  obtain ⟨cI, kI, i1, i2, i3, i4, -⟩ := Cond.instantiable_spec wi'
  have i5 : kI.isInterface = false := by cases hq : kI.isInterface <;> simp [hq] at i4 ⊢
  have hpriv : s.PrivateAt y := Cond.privateMethod_at (mvP hZ wp (args := args))
  have hinst : (Jvm.Cond.instanceMethod y).before args s = true := mvT hZ w2
  obtain ⟨v, _, ⟨T1, L1, k1, n1⟩, -, X1, ⟨Lc, hQ, l1, y1, z1⟩, st⟩ := X.privateBack hx (y := y) hown (mvT hZ w1) hinst (selects_self_of_private i1 i2 i5 hpriv hinst hy) hpriv (mvT hZ w4) hy (backOf (W := W) (Z := Z) (a0 := a0) (h := h) hM hZ w4 w3 hf hl) (g := g) hg hsize (Steps.refl _) (a := a) (cell := cell) (by rw [eT]; exact q1) q2 (argsL := argsL) (rest := rest) (fun sg q => by rw [hpd] at q; cases q; exact hlen) hstack hW hdg (fun _ _ => ⟨rfl, eT, hc, hs⟩)
  dsimp only [Pt.U, Pt.locs, Pt.cells, Pt.slots] at X1 l1 y1 z1 st hQ
  subst l1 y1 z1
  exact ⟨v, T1, T1.heap, Lc, X1, rfl, hQ, fun t k => st.trans k⟩
/-! arrays of ints, bytes, .. by the list of what they hold -/
def Ai (Z : State) (h : Heap) (a : Addr) (ty : FieldType) (xs : List Int32) : Prop := ∃ (k : ClassId) (z : Int32), Arv Z h a k ty z (xs.map Value.int) (.int 0) ∧ z.toNatClampNeg = xs.length
theorem Ai.lt (A : Ai Z h a ty xs) : a < h.size := by obtain ⟨_, _, q, -⟩ := A; exact q.lt
theorem Ai.ext (A : Ai Z h a ty xs) (E : Ext h h') : Ai Z h' a ty xs := by obtain ⟨k, z, q, r⟩ := A; exact ⟨k, z, q.ext E, r⟩
theorem Ai.other {sl : Nat} {v : Value} (A : Ai Z h a ty xs) (W : Wr h h' b sl v) (ne : a ≠ b) : Ai Z h' a ty xs := by obtain ⟨k, z, q, r⟩ := A; exact ⟨k, z, q.other W ne, r⟩
theorem Ai.keep {ws : List Addr} (A : Ai Z h a ty xs) (K : Keep h h' ws) (nin : a ∉ ws) : Ai Z h' a ty xs := by obtain ⟨k, z, q, r⟩ := A; exact ⟨k, z, q.keep K nin, r⟩
theorem Ai.len (A : Ai Z h a ty xs) : xs.length < 2 ^ 31 := by
  obtain ⟨k, z, ⟨c, -, -, -, hz, -⟩, r⟩ := A
  rw [← r]; exact (back32 hz).2
theorem Ai.open (A : Ai Z h a ty xs) : ∃ c : Cell, Arr Z h a c ty ∧ c.slots.size = xs.length ∧ ∀ (i : Nat) (v : Int32), xs[i]? = some v → c.slots[i]? = some (.int v) := by
  obtain ⟨k, z, ⟨c, A, q1, S, q3, H, G⟩, r⟩ := A
  refine ⟨c, A, S.trans r, fun i v hv => ?_⟩
  have hi : i < xs.length := (List.getElem?_eq_some_iff.mp hv).1
  rw [H i (by rw [S, r]; exact hi)]
  simp [List.getD_eq_getElem?_getD, hv]
theorem Ai.fitsOf {i : Nat} {v : Int32} (A : Ai Z h a ty xs) (hv : xs[i]? = some v) : fits ty (.int v) = true := by
  obtain ⟨k, z, ⟨c, A, q1, S, q3, H, G⟩, r⟩ := A
  have hi : i < xs.length := (List.getElem?_eq_some_iff.mp hv).1
  have := G i (by rw [S, r]; exact hi)
  simpa [List.getD_eq_getElem?_getD, hv] using this
theorem own_in {n : Nat} {j : Int32} (hj : ¬ j < 0) (hi : j.toNatClampNeg < n) : ¬ (j < 0 ∨ n ≤ j.toNatClampNeg) := fun q => q.elim hj fun r => absurd hi (Nat.not_lt.mpr r)
theorem Ai.load (A : Ai Z h a .int xs) (X : Stand p l e R s m args below meth c T locs cells slots) (hx : p.tables.exec = Jvm.exec) (hZ : Z.Warmed39 s.vm) (eT : T.heap = h) {j v : Int32} (hj : ¬ j < 0) (hv : xs[j.toNatClampNeg]? = some v) {g : JFrame} (hg : g.method = m) {rest : List Value} (hs : g.stack = .int j :: .ref a :: rest) (hd : decode c.code g.pc = .ok (.iaload, 1)) :
    ∀ t, Steps p.tables e below (T.setTop { g with pc := g.pc + 1, stack := .int v :: rest }) t → Steps p.tables e below (T.setTop g) t := by
  obtain ⟨cl, Ar, S, H⟩ := A.open
  exact fun t k => X.iaload hx (j := j) (v := .int v) (by rw [eT]; exact Ar.1) (State.isArrayOf_alike hZ.alike Ar.2.1) Ar.2.2 (own_in hj (by rw [S]; exact (List.getElem?_eq_some_iff.mp hv).1)) (H _ _ hv) hg hs hd t k
theorem Ai.bload (A : Ai Z h a .byte xs) (X : Stand p l e R s m args below meth c T locs cells slots) (hx : p.tables.exec = Jvm.exec) (hZ : Z.Warmed39 s.vm) (eT : T.heap = h) {j v : Int32} (hj : ¬ j < 0) (hv : xs[j.toNatClampNeg]? = some v) {g : JFrame} (hg : g.method = m) {rest : List Value} (hs : g.stack = .int j :: .ref a :: rest) (hd : decode c.code g.pc = .ok (.baload, 1)) :
    ∀ t, Steps p.tables e below (T.setTop { g with pc := g.pc + 1, stack := .int v :: rest }) t → Steps p.tables e below (T.setTop g) t := by
  obtain ⟨cl, Ar, S, H⟩ := A.open
  exact fun t k => X.baloadBytes hx (j := j) (v := .int v) (by rw [eT]; exact Ar.1) (State.isArrayOf_alike hZ.alike Ar.2.1) Ar.2.2 (own_in hj (by rw [S]; exact (List.getElem?_eq_some_iff.mp hv).1)) (H _ _ hv) hg hs hd t k
theorem Ai.length (A : Ai Z h a ty xs) (X : Stand p l e R s m args below meth c T locs cells slots) (hx : p.tables.exec = Jvm.exec) (hZ : Z.Warmed39 s.vm) (eT : T.heap = h) {n : Int32} (hn : xs.length.toInt32 = n) {g : JFrame} (hg : g.method = m) {rest : List Value} (hs : g.stack = .ref a :: rest) (hd : decode c.code g.pc = .ok (.arraylength, 1)) :
    ∀ t, Steps p.tables e below (T.setTop { g with pc := g.pc + 1, stack := .int n :: rest }) t → Steps p.tables e below (T.setTop g) t := by
  obtain ⟨cl, Ar, S, H⟩ := A.open
  subst hn
  rw [← S]
  exact fun t k => X.arraylength hx (by rw [eT]; exact Ar.1) (State.isArrayOf_alike hZ.alike Ar.2.1) hg hs hd t k
theorem Ai.set {j v : Int32} (A : Ai Z h a ty xs) (hf : fits ty (.int v) = true) (W : Wr h h' a j.toNatClampNeg (.int v)) (hi : j.toNatClampNeg < xs.length) : Ai Z h' a ty (xs.set j.toNatClampNeg v) := by
  obtain ⟨k, z, ⟨c, A, q1, S, q3, H, G⟩, r⟩ := A
  refine ⟨k, z, ?_, by simpa using r⟩
  rw [List.map_set]
  exact Arv.set A q1 S q3 H G hf W j.toNatClampNeg rfl (by simpa using hi)
theorem Ai.store (A : Ai Z h a .int xs) (X : Stand p l e R s m args below meth c T locs cells slots) (hx : p.tables.exec = Jvm.exec) (hZ : Z.Warmed39 s.vm) (eT : T.heap = h) {j v : Int32} (hj : ¬ j < 0) (hi : j.toNatClampNeg < xs.length) {g : JFrame} (hg : g.method = m) {rest : List Value} (hs : g.stack = .int v :: .int j :: .ref a :: rest) (hd : decode c.code g.pc = .ok (.iastore, 1)) :
    ∃ T' h', Stand p l e R s m args below meth c T' (locs ++ [⟨a, j.toNatClampNeg⟩]) cells slots ∧ T'.heap = h' ∧ Wr h h' a j.toNatClampNeg (.int v) ∧ Ai Z h' a .int (xs.set j.toNatClampNeg v) ∧
      ∀ t, Steps p.tables e below (T'.setTop { g with pc := g.pc + 1, stack := rest }) t → Steps p.tables e below (T.setTop g) t := by
  obtain ⟨cl, Ar, S, H⟩ := A.open
  obtain ⟨T', h', X', e', W, st⟩ := stI X hx hZ eT Ar (j := j) (own_in hj (by rw [S]; exact hi)) hg hs hd
  exact ⟨T', h', X', e', W, A.set rfl W hi, st⟩
theorem Ai.bstore (A : Ai Z h a .byte xs) (X : Stand p l e R s m args below meth c T locs cells slots) (hx : p.tables.exec = Jvm.exec) (hZ : Z.Warmed39 s.vm) (eT : T.heap = h) {j v : Int32} (hj : ¬ j < 0) (hi : j.toNatClampNeg < xs.length) {g : JFrame} (hg : g.method = m) {rest : List Value} (hs : g.stack = .int v :: .int j :: .ref a :: rest) (hd : decode c.code g.pc = .ok (.bastore, 1)) :
    ∃ T' h', Stand p l e R s m args below meth c T' (locs ++ [⟨a, j.toNatClampNeg⟩]) cells slots ∧ T'.heap = h' ∧ Wr h h' a j.toNatClampNeg (.int v.toInt8.toInt32) ∧ Ai Z h' a .byte (xs.set j.toNatClampNeg v.toInt8.toInt32) ∧
      ∀ t, Steps p.tables e below (T'.setTop { g with pc := g.pc + 1, stack := rest }) t → Steps p.tables e below (T.setTop g) t := by
  obtain ⟨cl, Ar, S, H⟩ := A.open
  obtain ⟨T', h', X', e', W, st⟩ := stB X hx hZ eT Ar (j := j) (own_in hj (by rw [S]; exact hi)) hg hs hd
  exact ⟨T', h', X', e', W, A.set (fits_nar_byte v) W hi, st⟩
theorem Ai.new (X : Stand p l e R s m args below meth c T locs cells slots) (hx : p.tables.exec = Jvm.exec) (hZ : Z.Warmed39 s.vm) {aty : ArrayType} (w : (Jvm.Cond.arrayClass (newarray.typeOf aty)).before a0 Z = true) (hdef : defaultValue (newarray.typeOf aty) = .int 0) (eT : T.heap = h) {n : Int32} (hn : ¬ n < 0) (cap : Nat) (hcap : n.toNatClampNeg ≤ cap) (hb : cap * 8 ≤ 536870912) (hc : cells + 1 ≤ R.cells) (hl : slots + cap ≤ R.slots)
    {g : JFrame} (hg : g.method = m) {rest : List Value} (hs : g.stack = .int n :: rest) (hd : decode c.code g.pc = .ok (.newarray aty, 2)) :
    ∃ T' h' b, Stand p l e R s m args below meth c T' locs (cells + 1) (slots + cap) ∧ T'.heap = h' ∧ b = h.size ∧ Ext h h' ∧ Ai Z h' b (newarray.typeOf aty) (List.replicate n.toNatClampNeg 0) ∧
      ∀ t, Steps p.tables e below (T'.setTop { g with pc := g.pc + 2, stack := .ref b :: rest }) t → Steps p.tables e below (T.setTop g) t := by
  obtain ⟨T', h', k, X', e', E, A, st⟩ := newP X hx hZ w eT (g := g) hg hd hs hn hcap hb hc hl
  refine ⟨T', h', _, X', e', rfl, E, ⟨k, n, ?_, by simp⟩, st⟩
  have V := Arv.new A hn
  rw [hdef] at V
  rw [List.map_replicate]
  exact V.pad (pad_rep [] (.int 0) n.toNatClampNeg)
theorem Ai.newE (X : Stand p l e R s m args below meth c T locs cells slots) (hx : p.tables.exec = Jvm.exec) (hZ : Z.Warmed39 s.vm) {aty : ArrayType} (w : (Jvm.Cond.arrayClass (newarray.typeOf aty)).before a0 Z = true) (hdef : defaultValue (newarray.typeOf aty) = .int 0) (eT : T.heap = h) {n : Int32} (hn : ¬ n < 0) (cap : Nat) (hcap : n.toNatClampNeg ≤ cap) (hb : cap * 8 ≤ 536870912) (hc : cells + 1 ≤ R.cells) (hl : slots + cap ≤ R.slots) {ad : String} (had : "[" ++ (newarray.typeOf aty).toString = ad)
    {g : JFrame} (hg : g.method = m) {rest : List Value} (hs : g.stack = .int n :: rest) (hd : decode c.code g.pc = .ok (.newarray aty, 2)) :
    ∃ T' h' b, Stand p l e R s m args below meth c T' locs (cells + 1) (slots + cap) ∧ T'.heap = h' ∧ b = h.size ∧ Ext h h' ∧ Ai Z h' b (newarray.typeOf aty) (List.replicate n.toNatClampNeg 0) ∧ Exa Z h' b ad ∧
      ∀ t, Steps p.tables e below (T'.setTop { g with pc := g.pc + 2, stack := .ref b :: rest }) t → Steps p.tables e below (T.setTop g) t := by
  obtain ⟨T', h', k, X', e', E, A, Ex, st⟩ := newPE X hx hZ w eT (g := g) hg hd hs hn hcap hb hc hl had
  refine ⟨T', h', _, X', e', rfl, E, ⟨k, n, ?_, by simp⟩, Ex, st⟩
  have V := Arv.new A hn
  rw [hdef] at V
  rw [List.map_replicate]
  exact V.pad (pad_rep [] (.int 0) n.toNatClampNeg)
theorem Ai.copy (X : Stand p l e R s m args below meth c T locs cells slots) (hx : p.tables.exec = Jvm.exec) (hZ : Z.Warmed39 s.vm) {own : String} {index : Nat} (hown : s.vm.findClass own = some m.cls)
    (w1 : (Jvm.Cond.methodLink own index Jvm.Stand.acN).before a0 Z = true) (w2 : (Jvm.Cond.native Jvm.Stand.acN).before a0 Z = true) (w3 : (Jvm.Cond.static Jvm.Stand.acN).before a0 Z = true) (w4 : (Jvm.Cond.initialized "java/lang/System").before a0 Z = true) (eT : T.heap = h)
    {sp dp nn : Int32} (A : Ai Z h a ty xs) (B : Ai Z h b ty ys) (hty : refKind ty = false) (h1 : ¬ sp < 0) (h2 : ¬ dp < 0) (h3 : ¬ nn < 0) (h4 : sp.toNatClampNeg + nn.toNatClampNeg ≤ xs.length) (h5 : dp.toNatClampNeg + nn.toNatClampNeg ≤ ys.length) {n0 : Nat} (N : Fr n0 locs) (ge : n0 ≤ b)
    {g : JFrame} (hg : g.method = m) (hsize : g.locals.size = c.maxLocals) {rest : List Value} (hs : g.stack = .int nn :: .int dp :: .ref b :: .int sp :: .ref a :: rest) (hd : decode c.code g.pc = .ok (.invokestatic index, 3))
    (hf : 1 ≤ R.frames) {W : Nat} (hW : 2 * g.monitorRoom + (rest.map fun v => v.category).sum ≤ W) (hlo : W + (nativeFrameWords "java/lang/System" "arraycopy" 5 + 11) ≤ R.locals) :
    ∃ T' h' L, Stand p l e R s m args below meth c T' L cells slots ∧ T'.heap = h' ∧ Fr n0 L ∧ Keep h h' [b] ∧ Ai Z h' b ty (ys.take dp.toNatClampNeg ++ (xs.drop sp.toNatClampNeg).take nn.toNatClampNeg ++ ys.drop (dp.toNatClampNeg + nn.toNatClampNeg)) ∧
      ∀ t, Steps p.tables e below (T'.setTop { g with pc := g.pc + 3, stack := rest }) t → Steps p.tables e below (T.setTop g) t := by
  obtain ⟨k, z, A, r⟩ := A
  obtain ⟨k', z', B, r'⟩ := B
  obtain ⟨T', h', L, X', e', N', K, V, st⟩ := cpA X hx hZ hown w1 w2 w3 w4 eT A B (Or.inl ⟨rfl, hty⟩) h1 h2 h3 (by rw [r]; exact h4) (by rw [r']; exact h5) rfl (by simpa using h5) N ge hg hsize hs hd hf hW hlo
  refine ⟨T', h', L, X', e', N', K, ⟨k', z', ?_, ?_⟩, st⟩
  · have q : (List.range nn.toNatClampNeg).map (fun i => (xs.map Value.int).getD (sp.toNatClampNeg + i) (.int 0)) = ((xs.drop sp.toNatClampNeg).take nn.toNatClampNeg).map Value.int := by
      apply List.ext_getElem?
      intro i
      by_cases hi : i < nn.toNatClampNeg
      · have h6 : sp.toNatClampNeg + i < xs.length := by omega
        simp [List.getElem?_take, hi, h6, List.getD_eq_getElem?_getD]
      · simp [List.getElem?_take, hi]
    rw [q] at V
    simpa [List.map_append, List.map_take, List.map_drop] using V
  · rw [r']; simp; omega
/-! arrays of longs -/
def Al (Z : State) (h : Heap) (a : Addr) (ls : List Int64) : Prop := ∃ (k : ClassId) (z : Int32), Arv Z h a k .long z (ls.map Value.long) (.long 0) ∧ z.toNatClampNeg = ls.length
theorem Al.lt (A : Al Z h a ls) : a < h.size := by obtain ⟨_, _, q, -⟩ := A; exact q.lt
theorem Al.ext (A : Al Z h a ls) (E : Ext h h') : Al Z h' a ls := by obtain ⟨k, z, q, r⟩ := A; exact ⟨k, z, q.ext E, r⟩
theorem Al.other {sl : Nat} {v : Value} (A : Al Z h a ls) (W : Wr h h' b sl v) (ne : a ≠ b) : Al Z h' a ls := by obtain ⟨k, z, q, r⟩ := A; exact ⟨k, z, q.other W ne, r⟩
theorem Al.keep {ws : List Addr} (A : Al Z h a ls) (K : Keep h h' ws) (nin : a ∉ ws) : Al Z h' a ls := by obtain ⟨k, z, q, r⟩ := A; exact ⟨k, z, q.keep K nin, r⟩
theorem Al.len (A : Al Z h a ls) : ls.length < 2 ^ 31 := by
  obtain ⟨k, z, ⟨c, -, -, -, hz, -⟩, r⟩ := A
  rw [← r]; exact (back32 hz).2
theorem Al.open (A : Al Z h a ls) : ∃ c : Cell, Arr Z h a c .long ∧ c.slots.size = ls.length ∧ ∀ (i : Nat) (v : Int64), ls[i]? = some v → c.slots[i]? = some (.long v) := by
  obtain ⟨k, z, ⟨c, A, q1, S, q3, H, G⟩, r⟩ := A
  refine ⟨c, A, S.trans r, fun i v hv => ?_⟩
  have hi : i < ls.length := (List.getElem?_eq_some_iff.mp hv).1
  rw [H i (by rw [S, r]; exact hi)]
  simp [List.getD_eq_getElem?_getD, hv]
theorem Al.load (A : Al Z h a ls) (X : Stand p l e R s m args below meth c T locs cells slots) (hx : p.tables.exec = Jvm.exec) (hZ : Z.Warmed39 s.vm) (eT : T.heap = h) {j : Int32} {v : Int64} (hj : ¬ j < 0) (hv : ls[j.toNatClampNeg]? = some v) {g : JFrame} (hg : g.method = m) {rest : List Value} (hs : g.stack = .int j :: .ref a :: rest) (hd : decode c.code g.pc = .ok (.laload, 1)) :
    ∀ t, Steps p.tables e below (T.setTop { g with pc := g.pc + 1, stack := .long v :: rest }) t → Steps p.tables e below (T.setTop g) t := by
  obtain ⟨cl, Ar, S, H⟩ := A.open
  exact fun t k => X.laload hx (j := j) (v := .long v) (by rw [eT]; exact Ar.1) (State.isArrayOf_alike hZ.alike Ar.2.1) Ar.2.2 (own_in hj (by rw [S]; exact (List.getElem?_eq_some_iff.mp hv).1)) (H _ _ hv) hg hs hd t k
theorem Al.length (A : Al Z h a ls) (X : Stand p l e R s m args below meth c T locs cells slots) (hx : p.tables.exec = Jvm.exec) (hZ : Z.Warmed39 s.vm) (eT : T.heap = h) {n : Int32} (hn : ls.length.toInt32 = n) {g : JFrame} (hg : g.method = m) {rest : List Value} (hs : g.stack = .ref a :: rest) (hd : decode c.code g.pc = .ok (.arraylength, 1)) :
    ∀ t, Steps p.tables e below (T.setTop { g with pc := g.pc + 1, stack := .int n :: rest }) t → Steps p.tables e below (T.setTop g) t := by
  obtain ⟨cl, Ar, S, H⟩ := A.open
  subst hn
  rw [← S]
  exact fun t k => X.arraylength hx (by rw [eT]; exact Ar.1) (State.isArrayOf_alike hZ.alike Ar.2.1) hg hs hd t k
theorem Al.store (A : Al Z h a ls) (X : Stand p l e R s m args below meth c T locs cells slots) (hx : p.tables.exec = Jvm.exec) (hZ : Z.Warmed39 s.vm) (eT : T.heap = h) {j : Int32} {v : Int64} (hj : ¬ j < 0) (hi : j.toNatClampNeg < ls.length) {g : JFrame} (hg : g.method = m) {rest : List Value} (hs : g.stack = .long v :: .int j :: .ref a :: rest) (hd : decode c.code g.pc = .ok (.lastore, 1)) :
    ∃ T' h', Stand p l e R s m args below meth c T' (locs ++ [⟨a, j.toNatClampNeg⟩]) cells slots ∧ T'.heap = h' ∧ Wr h h' a j.toNatClampNeg (.long v) ∧ Al Z h' a (ls.set j.toNatClampNeg v) ∧
      ∀ t, Steps p.tables e below (T'.setTop { g with pc := g.pc + 1, stack := rest }) t → Steps p.tables e below (T.setTop g) t := by
  obtain ⟨cl, Ar, S, H⟩ := A.open
  obtain ⟨T', h', X', e', W, st⟩ := stJ X hx hZ eT Ar (j := j) (own_in hj (by rw [S]; exact hi)) hg hs hd
  refine ⟨T', h', X', e', W, ?_, st⟩
  obtain ⟨k, z, ⟨c, A, q1, S, q3, H, G⟩, r⟩ := A
  refine ⟨k, z, ?_, by simpa using r⟩
  rw [List.map_set]
  exact Arv.set A q1 S q3 H G rfl W j.toNatClampNeg rfl (by simpa using hi)
theorem Al.new (X : Stand p l e R s m args below meth c T locs cells slots) (hx : p.tables.exec = Jvm.exec) (hZ : Z.Warmed39 s.vm) {aty : ArrayType} (w : (Jvm.Cond.arrayClass (newarray.typeOf aty)).before a0 Z = true) (hdef : aty = .long) (eT : T.heap = h) {n : Int32} (hn : ¬ n < 0) (cap : Nat) (hcap : n.toNatClampNeg ≤ cap) (hb : cap * 8 ≤ 536870912) (hc : cells + 1 ≤ R.cells) (hl : slots + cap ≤ R.slots)
    {g : JFrame} (hg : g.method = m) {rest : List Value} (hs : g.stack = .int n :: rest) (hd : decode c.code g.pc = .ok (.newarray aty, 2)) :
    ∃ T' h' b, Stand p l e R s m args below meth c T' locs (cells + 1) (slots + cap) ∧ T'.heap = h' ∧ b = h.size ∧ Ext h h' ∧ Al Z h' b (List.replicate n.toNatClampNeg 0) ∧
      ∀ t, Steps p.tables e below (T'.setTop { g with pc := g.pc + 2, stack := .ref b :: rest }) t → Steps p.tables e below (T.setTop g) t := by
  obtain ⟨T', h', k, X', e', E, A, st⟩ := newP X hx hZ w eT (g := g) hg hd hs hn hcap hb hc hl
  subst hdef
  refine ⟨T', h', _, X', e', rfl, E, ⟨k, n, ?_, by simp⟩, st⟩
  have V := Arv.new A hn
  rw [List.map_replicate]
  exact V.pad (pad_rep [] (.long 0) n.toNatClampNeg)
theorem own_if1 {P : Prop} [Decidable P] (h : P) : ¬ ((if P then (1 : Int32) else (0 : Int32)) = 0) := by rw [if_pos h]; decide
theorem own_if0 {P : Prop} [Decidable P] (h : ¬ P) : (if P then (1 : Int32) else (0 : Int32)) = 0 := if_neg h
theorem own_ifc {P Q : Prop} [Decidable P] [Decidable Q] (h : P ↔ Q) : (if P then (1 : Int32) else (0 : Int32)) = (if Q then (1 : Int32) else (0 : Int32)) := by
  by_cases p : P
  · rw [if_pos p, if_pos (h.mp p)]
  · rw [if_neg p, if_neg (fun q => p (h.mpr q))]
theorem own_narI {P : Prop} [Decidable P] : nar .boolean (if P then (1 : Int32) else (0 : Int32)) = (if P then (1 : Int32) else (0 : Int32)) := by
  by_cases p : P
  · rw [if_pos p]; rfl
  · rw [if_neg p]; rfl
theorem own_bb (x : Int32) : x.toInt8.toInt32.toInt8.toInt32 = x.toInt8.toInt32 := by simp
end Layer
section Numbers
theorem own_mod (x k : Int32) (hk : 0 < k.toInt) : 0 ≤ ((x &&& (2147483647 : Int32)) % k).toInt ∧ ((x &&& (2147483647 : Int32)) % k).toInt < k.toInt := by
  have h1 := c_and x 2147483647 (by decide)
  have h2 := (c_iremV (x &&& 2147483647) k).1 h1.1 hk
  exact ⟨h2.1, h2.2.1⟩
theorem own_nn {j : Int32} (h : 0 ≤ j.toInt) : ¬ j < 0 := by
  rw [Int32.lt_iff_toInt_lt, show (0 : Int32).toInt = 0 from rfl]; omega
theorem own_nat {j : Int32} {k : Nat} (h : 0 ≤ j.toInt) (h2 : j.toInt < k) : j.toNatClampNeg < k := by
  simp only [Int32.toNatClampNeg]; omega
theorem own_at {xs : List Int32} {i : Nat} (h : i < xs.length) : ∃ v, xs[i]? = some v := ⟨xs[i], List.getElem?_eq_getElem h⟩
end Numbers
theorem w0 {Z : State} {a0 : Array Value} (hw : ∀ d ∈ tables_1, d.before a0 Z = true) : (Jvm.Cond.arrayClass Jvm.ClassFile.FieldType.int).before a0 Z = true := hw _ (List.mem_of_getElem? (i := 0) rfl)
theorem w1 {Z : State} {a0 : Array Value} (hw : ∀ d ∈ tables_1, d.before a0 Z = true) : (Jvm.Cond.constant "com/example/quillon/quillon/model/XmlCharsIsXmlCharPinLaw" (12 : Nat) (55295 : Int32)).before a0 Z = true := hw _ (List.mem_of_getElem? (i := 1) rfl)
theorem w2 {Z : State} {a0 : Array Value} (hw : ∀ d ∈ tables_1, d.before a0 Z = true) : (Jvm.Cond.constant "com/example/quillon/quillon/model/XmlCharsIsXmlCharPinLaw" (8 : Nat) (55296 : Int32)).before a0 Z = true := hw _ (List.mem_of_getElem? (i := 2) rfl)
theorem w3 {Z : State} {a0 : Array Value} (hw : ∀ d ∈ tables_1, d.before a0 Z = true) : (Jvm.Cond.constant "com/example/quillon/quillon/model/XmlCharsIsXmlCharPinLaw" (9 : Nat) (57343 : Int32)).before a0 Z = true := hw _ (List.mem_of_getElem? (i := 3) rfl)
theorem w4 {Z : State} {a0 : Array Value} (hw : ∀ d ∈ tables_1, d.before a0 Z = true) : (Jvm.Cond.constant "com/example/quillon/quillon/model/XmlCharsIsXmlCharPinLaw" (13 : Nat) (57344 : Int32)).before a0 Z = true := hw _ (List.mem_of_getElem? (i := 4) rfl)
theorem w5 {Z : State} {a0 : Array Value} (hw : ∀ d ∈ tables_1, d.before a0 Z = true) : (Jvm.Cond.constant "com/example/quillon/quillon/model/XmlCharsIsXmlCharPinLaw" (14 : Nat) (65533 : Int32)).before a0 Z = true := hw _ (List.mem_of_getElem? (i := 5) rfl)
theorem w6 {Z : State} {a0 : Array Value} (hw : ∀ d ∈ tables_1, d.before a0 Z = true) : (Jvm.Cond.constant "com/example/quillon/quillon/model/XmlCharsIsXmlCharPinLaw" (11 : Nat) (65535 : Int32)).before a0 Z = true := hw _ (List.mem_of_getElem? (i := 6) rfl)
theorem w7 {Z : State} {a0 : Array Value} (hw : ∀ d ∈ tables_1, d.before a0 Z = true) : (Jvm.Cond.constant "com/example/quillon/quillon/model/XmlCharsIsXmlCharPinLaw" (15 : Nat) (65536 : Int32)).before a0 Z = true := hw _ (List.mem_of_getElem? (i := 7) rfl)
theorem w8 {Z : State} {a0 : Array Value} (hw : ∀ d ∈ tables_1, d.before a0 Z = true) : (Jvm.Cond.constant "com/example/quillon/quillon/model/XmlCharsIsXmlCharPinLaw" (7 : Nat) (1114111 : Int32)).before a0 Z = true := hw _ (List.mem_of_getElem? (i := 8) rfl)
theorem w9 {Z : State} {a0 : Array Value} (hw : ∀ d ∈ tables_1, d.before a0 Z = true) : (Jvm.Cond.constant "com/example/quillon/quillon/model/XmlCharsIsXmlCharPinLaw" (16 : Nat) (1114112 : Int32)).before a0 Z = true := hw _ (List.mem_of_getElem? (i := 9) rfl)
theorem w10 {Z : State} {a0 : Array Value} (hw : ∀ d ∈ tables_1, d.before a0 Z = true) : (Jvm.Cond.constant "com/example/quillon/quillon/model/XmlCharsIsXmlCharPinLaw" (19 : Nat) (-2147483648 : Int32)).before a0 Z = true := hw _ (List.mem_of_getElem? (i := 10) rfl)
theorem w11 {Z : State} {a0 : Array Value} (hw : ∀ d ∈ tables_1, d.before a0 Z = true) : (Jvm.Cond.constant "com/example/quillon/quillon/model/XmlCharsIsXmlCharPinLaw" (20 : Nat) (2147483647 : Int32)).before a0 Z = true := hw _ (List.mem_of_getElem? (i := 11) rfl)
theorem w12 {Z : State} {a0 : Array Value} (hw : ∀ d ∈ tables_1, d.before a0 Z = true) : (Jvm.Cond.methodLink "com/example/quillon/quillon/model/XmlCharsIsXmlCharPinLaw" (21 : Nat) ({ cls := "com/example/quillon/quillon/model/XmlChars", name := "isXmlChar", desc := "(I)Z" } : Jvm.MethodName)).before a0 Z = true := hw _ (List.mem_of_getElem? (i := 12) rfl)
theorem w13 {Z : State} {a0 : Array Value} (hw : ∀ d ∈ tables_1, d.before a0 Z = true) : (Jvm.Cond.static ({ cls := "com/example/quillon/quillon/model/XmlChars", name := "isXmlChar", desc := "(I)Z" } : Jvm.MethodName)).before a0 Z = true := hw _ (List.mem_of_getElem? (i := 13) rfl)
theorem w14 {Z : State} {a0 : Array Value} (hw : ∀ d ∈ tables_1, d.before a0 Z = true) : (Jvm.Cond.initialized "com/example/quillon/quillon/model/XmlChars").before a0 Z = true := hw _ (List.mem_of_getElem? (i := 14) rfl)
theorem w15 {Z : State} {a0 : Array Value} (hw : ∀ d ∈ tables_1, d.before a0 Z = true) : (Jvm.Cond.code ({ cls := "com/example/quillon/quillon/model/XmlChars", name := "isXmlChar", desc := "(I)Z" } : Jvm.MethodName) prog_59_method_2_code (1 : Nat) (Option.some Jvm.ClassFile.FieldType.boolean)).before a0 Z = true := hw _ (List.mem_of_getElem? (i := 15) rfl)
theorem w16 {Z : State} {a0 : Array Value} (hw : ∀ d ∈ tables_1, d.before a0 Z = true) : (Jvm.Cond.constant "com/example/quillon/quillon/model/XmlChars" (8 : Nat) (57344 : Int32)).before a0 Z = true := hw _ (List.mem_of_getElem? (i := 16) rfl)
theorem w17 {Z : State} {a0 : Array Value} (hw : ∀ d ∈ tables_1, d.before a0 Z = true) : (Jvm.Cond.constant "com/example/quillon/quillon/model/XmlChars" (10 : Nat) (65536 : Int32)).before a0 Z = true := hw _ (List.mem_of_getElem? (i := 17) rfl)
theorem w18 {Z : State} {a0 : Array Value} (hw : ∀ d ∈ tables_1, d.before a0 Z = true) : (Jvm.Cond.methodLink "com/example/quillon/quillon/model/XmlCharsIsXmlCharPinLaw" (27 : Nat) ({ cls := "com/example/quillon/quillon/model/XmlCharsIsXmlCharPinLaw", name := "reference", desc := "(I)Z" } : Jvm.MethodName)).before a0 Z = true := hw _ (List.mem_of_getElem? (i := 18) rfl)
theorem w19 {Z : State} {a0 : Array Value} (hw : ∀ d ∈ tables_1, d.before a0 Z = true) : (Jvm.Cond.static ({ cls := "com/example/quillon/quillon/model/XmlCharsIsXmlCharPinLaw", name := "reference", desc := "(I)Z" } : Jvm.MethodName)).before a0 Z = true := hw _ (List.mem_of_getElem? (i := 19) rfl)
theorem w20 {Z : State} {a0 : Array Value} (hw : ∀ d ∈ tables_1, d.before a0 Z = true) : (Jvm.Cond.initialized "com/example/quillon/quillon/model/XmlCharsIsXmlCharPinLaw").before a0 Z = true := hw _ (List.mem_of_getElem? (i := 20) rfl)
theorem w21 {Z : State} {a0 : Array Value} (hw : ∀ d ∈ tables_1, d.before a0 Z = true) : (Jvm.Cond.code ({ cls := "com/example/quillon/quillon/model/XmlCharsIsXmlCharPinLaw", name := "reference", desc := "(I)Z" } : Jvm.MethodName) method_2_code (1 : Nat) (Option.some Jvm.ClassFile.FieldType.boolean)).before a0 Z = true := hw _ (List.mem_of_getElem? (i := 21) rfl)
theorem w22 {Z : State} {a0 : Array Value} (hw : ∀ d ∈ tables_1, d.before a0 Z = true) : (Jvm.Cond.constant "com/example/quillon/quillon/model/XmlChars" (7 : Nat) (55295 : Int32)).before a0 Z = true := hw _ (List.mem_of_getElem? (i := 22) rfl)
theorem w23 {Z : State} {a0 : Array Value} (hw : ∀ d ∈ tables_1, d.before a0 Z = true) : (Jvm.Cond.constant "com/example/quillon/quillon/model/XmlCharsIsXmlCharPinLaw" (10 : Nat) (65534 : Int32)).before a0 Z = true := hw _ (List.mem_of_getElem? (i := 23) rfl)
theorem w24 {Z : State} {a0 : Array Value} (hw : ∀ d ∈ tables_1, d.before a0 Z = true) : (Jvm.Cond.constant "com/example/quillon/quillon/model/XmlChars" (9 : Nat) (65533 : Int32)).before a0 Z = true := hw _ (List.mem_of_getElem? (i := 24) rfl)
theorem w25 {Z : State} {a0 : Array Value} (hw : ∀ d ∈ tables_1, d.before a0 Z = true) : (Jvm.Cond.constant "com/example/quillon/quillon/model/XmlChars" (11 : Nat) (1114111 : Int32)).before a0 Z = true := hw _ (List.mem_of_getElem? (i := 25) rfl)
theorem pd0 : parseMethodDescriptor "(I)Z" = some ⟨[.int], some .boolean⟩ := by decide +kernel
theorem pn0 : plainName "com/example/quillon/quillon/model/XmlChars" = true := by first | (simp [plainName, overriddenIn]; done) | decide +kernel
theorem pn1 : plainName "com/example/quillon/quillon/model/XmlCharsIsXmlCharPinLaw" = true := by first | (simp [plainName, overriddenIn]; done) | decide +kernel
theorem d1_0 : decode prog_59_method_2_code 0 = .ok (.iload_n 0, 1) := by decide +kernel
theorem d1_1 : decode prog_59_method_2_code 1 = .ok (.bipush 9, 2) := by decide +kernel
theorem d1_3 : decode prog_59_method_2_code 3 = .ok (.if_icmp .eq 51, 3) := by decide +kernel
theorem d1_6 : decode prog_59_method_2_code 6 = .ok (.iload_n 0, 1) := by decide +kernel
theorem d1_7 : decode prog_59_method_2_code 7 = .ok (.bipush 10, 2) := by decide +kernel
theorem d1_9 : decode prog_59_method_2_code 9 = .ok (.if_icmp .eq 45, 3) := by decide +kernel
theorem d1_12 : decode prog_59_method_2_code 12 = .ok (.iload_n 0, 1) := by decide +kernel
theorem d1_13 : decode prog_59_method_2_code 13 = .ok (.bipush 13, 2) := by decide +kernel
theorem d1_15 : decode prog_59_method_2_code 15 = .ok (.if_icmp .eq 39, 3) := by decide +kernel
theorem d1_18 : decode prog_59_method_2_code 18 = .ok (.iload_n 0, 1) := by decide +kernel
theorem d1_19 : decode prog_59_method_2_code 19 = .ok (.bipush 32, 2) := by decide +kernel
theorem d1_21 : decode prog_59_method_2_code 21 = .ok (.if_icmp .lt 9, 3) := by decide +kernel
theorem d1_24 : decode prog_59_method_2_code 24 = .ok (.iload_n 0, 1) := by decide +kernel
theorem d1_25 : decode prog_59_method_2_code 25 = .ok (.ldc 7, 2) := by decide +kernel
theorem d1_27 : decode prog_59_method_2_code 27 = .ok (.if_icmp .le 27, 3) := by decide +kernel
theorem d1_30 : decode prog_59_method_2_code 30 = .ok (.iload_n 0, 1) := by decide +kernel
theorem d1_31 : decode prog_59_method_2_code 31 = .ok (.ldc 8, 2) := by decide +kernel
theorem d1_33 : decode prog_59_method_2_code 33 = .ok (.if_icmp .lt 9, 3) := by decide +kernel
theorem d1_36 : decode prog_59_method_2_code 36 = .ok (.iload_n 0, 1) := by decide +kernel
theorem d1_37 : decode prog_59_method_2_code 37 = .ok (.ldc 9, 2) := by decide +kernel
theorem d1_39 : decode prog_59_method_2_code 39 = .ok (.if_icmp .le 15, 3) := by decide +kernel
theorem d1_42 : decode prog_59_method_2_code 42 = .ok (.iload_n 0, 1) := by decide +kernel
theorem d1_43 : decode prog_59_method_2_code 43 = .ok (.ldc 10, 2) := by decide +kernel
theorem d1_45 : decode prog_59_method_2_code 45 = .ok (.if_icmp .lt 13, 3) := by decide +kernel
theorem d1_48 : decode prog_59_method_2_code 48 = .ok (.iload_n 0, 1) := by decide +kernel
theorem d1_49 : decode prog_59_method_2_code 49 = .ok (.ldc 11, 2) := by decide +kernel
theorem d1_51 : decode prog_59_method_2_code 51 = .ok (.if_icmp .gt 7, 3) := by decide +kernel
theorem d1_54 : decode prog_59_method_2_code 54 = .ok (.iconst 1, 1) := by decide +kernel
theorem d1_55 : decode prog_59_method_2_code 55 = .ok (.goto 4, 3) := by decide +kernel
theorem d1_58 : decode prog_59_method_2_code 58 = .ok (.iconst 0, 1) := by decide +kernel
theorem d1_59 : decode prog_59_method_2_code 59 = .ok (.ireturn, 1) := by decide +kernel
theorem d2_0 : decode method_2_code 0 = .ok (.iload_n 0, 1) := by decide +kernel
theorem d2_1 : decode method_2_code 1 = .ok (.ifCond .lt 9, 3) := by decide +kernel
theorem d2_4 : decode method_2_code 4 = .ok (.iload_n 0, 1) := by decide +kernel
theorem d2_5 : decode method_2_code 5 = .ok (.ldc 7, 2) := by decide +kernel
theorem d2_7 : decode method_2_code 7 = .ok (.if_icmp .le 5, 3) := by decide +kernel
theorem d2_10 : decode method_2_code 10 = .ok (.iconst 0, 1) := by decide +kernel
theorem d2_11 : decode method_2_code 11 = .ok (.ireturn, 1) := by decide +kernel
theorem d2_12 : decode method_2_code 12 = .ok (.iload_n 0, 1) := by decide +kernel
theorem d2_13 : decode method_2_code 13 = .ok (.bipush 32, 2) := by decide +kernel
theorem d2_15 : decode method_2_code 15 = .ok (.if_icmp .ge 27, 3) := by decide +kernel
theorem d2_18 : decode method_2_code 18 = .ok (.iload_n 0, 1) := by decide +kernel
theorem d2_19 : decode method_2_code 19 = .ok (.bipush 9, 2) := by decide +kernel
theorem d2_21 : decode method_2_code 21 = .ok (.if_icmp .eq 15, 3) := by decide +kernel
theorem d2_24 : decode method_2_code 24 = .ok (.iload_n 0, 1) := by decide +kernel
theorem d2_25 : decode method_2_code 25 = .ok (.bipush 10, 2) := by decide +kernel
theorem d2_27 : decode method_2_code 27 = .ok (.if_icmp .eq 9, 3) := by decide +kernel
theorem d2_30 : decode method_2_code 30 = .ok (.iload_n 0, 1) := by decide +kernel
theorem d2_31 : decode method_2_code 31 = .ok (.bipush 13, 2) := by decide +kernel
theorem d2_33 : decode method_2_code 33 = .ok (.if_icmp .ne 7, 3) := by decide +kernel
theorem d2_36 : decode method_2_code 36 = .ok (.iconst 1, 1) := by decide +kernel
theorem d2_37 : decode method_2_code 37 = .ok (.goto 4, 3) := by decide +kernel
theorem d2_40 : decode method_2_code 40 = .ok (.iconst 0, 1) := by decide +kernel
theorem d2_41 : decode method_2_code 41 = .ok (.ireturn, 1) := by decide +kernel
theorem d2_42 : decode method_2_code 42 = .ok (.iload_n 0, 1) := by decide +kernel
theorem d2_43 : decode method_2_code 43 = .ok (.ldc 8, 2) := by decide +kernel
theorem d2_45 : decode method_2_code 45 = .ok (.if_icmp .lt 11, 3) := by decide +kernel
theorem d2_48 : decode method_2_code 48 = .ok (.iload_n 0, 1) := by decide +kernel
theorem d2_49 : decode method_2_code 49 = .ok (.ldc 9, 2) := by decide +kernel
theorem d2_51 : decode method_2_code 51 = .ok (.if_icmp .gt 5, 3) := by decide +kernel
theorem d2_54 : decode method_2_code 54 = .ok (.iconst 0, 1) := by decide +kernel
theorem d2_55 : decode method_2_code 55 = .ok (.ireturn, 1) := by decide +kernel
theorem d2_56 : decode method_2_code 56 = .ok (.iload_n 0, 1) := by decide +kernel
theorem d2_57 : decode method_2_code 57 = .ok (.ldc 10, 2) := by decide +kernel
theorem d2_59 : decode method_2_code 59 = .ok (.if_icmp .eq 9, 3) := by decide +kernel
theorem d2_62 : decode method_2_code 62 = .ok (.iload_n 0, 1) := by decide +kernel
theorem d2_63 : decode method_2_code 63 = .ok (.ldc 11, 2) := by decide +kernel
theorem d2_65 : decode method_2_code 65 = .ok (.if_icmp .ne 5, 3) := by decide +kernel
theorem d2_68 : decode method_2_code 68 = .ok (.iconst 0, 1) := by decide +kernel
theorem d2_69 : decode method_2_code 69 = .ok (.ireturn, 1) := by decide +kernel
theorem d2_70 : decode method_2_code 70 = .ok (.iconst 1, 1) := by decide +kernel
theorem d2_71 : decode method_2_code 71 = .ok (.ireturn, 1) := by decide +kernel
abbrev XC5 (c : Int32) : Prop := (¬ c < (65536 : Int32) ∧ ¬ (1114111 : Int32) < c)
abbrev XC4 (c : Int32) : Prop := (¬ c < (57344 : Int32) ∧ ¬ (65533 : Int32) < c) ∨ XC5 c
abbrev XC3 (c : Int32) : Prop := (¬ c < (32 : Int32) ∧ ¬ (55295 : Int32) < c) ∨ XC4 c
abbrev XC2 (c : Int32) : Prop := c = (13 : Int32) ∨ XC3 c
abbrev XC1 (c : Int32) : Prop := c = (10 : Int32) ∨ XC2 c
abbrev XC0 (c : Int32) : Prop := c = (9 : Int32) ∨ XC1 c
theorem ef_rm1 (m : MethodId) (x0 : Int32) : entryFrame m #[(.int x0)] 1 = mkF m 0 #[.val (.int x0)] [] := by first | (simp [entryFrame, mkF, argsToLocals, Value.category]; done) | rfl
set_option maxRecDepth 65536 in
set_option maxHeartbeats 40000000 in
theorem rm1 (l : Launch) (Z : State) (a0 : Array Value) (hw : ∀ d ∈ tables_1, d.before a0 Z = true) (p0 : Int32) (h0 : Heap) (n0 : Nat) (Z0 : n0 ≤ h0.size) :
    Con l Z (⟨"com/example/quillon/quillon/model/XmlChars", "isXmlChar", "(I)Z"⟩ : MethodName) prog_59_method_2_code 1 (some .boolean) [] ({ frames := 0, cells := 0, slots := 0, locals := 0 } : Room) #[(.int p0)] h0 (fun v h L => v = some (.int (if XC0 p0 then (1 : Int32) else (0 : Int32))) ∧ Fr n0 L ∧ h = h0) := by
  refine Con.mk (plainFor_of_name pn0) ?_
  intro p e s m below meth c T0 hx hby hml hown hnm hret hlk hZ X0 e0
  have hown : s.vm.findClass "com/example/quillon/quillon/model/XmlChars" = some m.cls := hown
  have hnm : meth.name = "isXmlChar" := hnm
  have N0 := Fr.nil n0
  have J5 : ∀ (hk : XC0 p0 ↔ XC5 p0), Go p e below s ({ frames := 0, cells := 0, slots := 0, locals := 0 } : Room) (fun v h L => v = some (.int (if XC0 p0 then (1 : Int32) else (0 : Int32))) ∧ Fr n0 L ∧ h = h0) (T0.setTop (mkF m 42 #[.val (.int p0)] [])) := by
    intro hk
    refine Go.st (S' := T0.setTop (mkF m 43 #[.val (.int p0)] [(.int p0)])) (fun _ k_ => XS.iloadN X0.here hx rfl (hb hby d1_42) rfl k_) ?_
    refine Go.st (S' := T0.setTop (mkF m 45 #[.val (.int p0)] [(.int (65536 : Int32)), (.int p0)])) (X0.ldcInt hx hown (mvT hZ (w17 hw)) (g := (mkF m 43 #[.val (.int p0)] [(.int p0)])) rfl (hb hby d1_43)) ?_
    by_cases hc45 : p0 < (65536 : Int32)
    · skip
      refine Go.st (S' := T0.setTop (mkF m 58 #[.val (.int p0)] [])) (fun _ k_ => XS.icmpYes X0.here hx rfl (pc0 := 45) (pc' := 58) rfl (hb hby d1_45) rfl (tlt hc45).1 (by decide) (by decide) k_) ?_
      refine Go.st (S' := T0.setTop (mkF m 59 #[.val (.int p0)] [(.int (0 : Int32))])) (fun _ k_ => XS.iconst X0.here hx rfl (hb hby d1_58) k_) ?_
      exact Go.retN X0 hx (t := .boolean) hret (by simp) hlk (hb hby d1_59) (by decide) (by decide) (by rw [e0]; exact ⟨by rw [if_neg (fun z => (fun q => q.1 hc45) (hk.mp z))]; rfl, N0, rfl⟩)
    · skip
      refine Go.st (S' := T0.setTop (mkF m 48 #[.val (.int p0)] [])) (fun _ k_ => XS.icmpNo X0.here hx rfl (hb hby d1_45) rfl (flt hc45).1 k_) ?_
      refine Go.st (S' := T0.setTop (mkF m 49 #[.val (.int p0)] [(.int p0)])) (fun _ k_ => XS.iloadN X0.here hx rfl (hb hby d1_48) rfl k_) ?_
      refine Go.st (S' := T0.setTop (mkF m 51 #[.val (.int p0)] [(.int (1114111 : Int32)), (.int p0)])) (X0.ldcInt hx hown (mvT hZ (w25 hw)) (g := (mkF m 49 #[.val (.int p0)] [(.int p0)])) rfl (hb hby d1_49)) ?_
      by_cases hc51 : (1114111 : Int32) < p0
      · skip
        refine Go.st (S' := T0.setTop (mkF m 58 #[.val (.int p0)] [])) (fun _ k_ => XS.icmpYes X0.here hx rfl (pc0 := 51) (pc' := 58) rfl (hb hby d1_51) rfl (tlt hc51).2.2.1 (by decide) (by decide) k_) ?_
        refine Go.st (S' := T0.setTop (mkF m 59 #[.val (.int p0)] [(.int (0 : Int32))])) (fun _ k_ => XS.iconst X0.here hx rfl (hb hby d1_58) k_) ?_
        exact Go.retN X0 hx (t := .boolean) hret (by simp) hlk (hb hby d1_59) (by decide) (by decide) (by rw [e0]; exact ⟨by rw [if_neg (fun z => (fun q => q.2 hc51) (hk.mp z))]; rfl, N0, rfl⟩)
      · skip
        refine Go.st (S' := T0.setTop (mkF m 54 #[.val (.int p0)] [])) (fun _ k_ => XS.icmpNo X0.here hx rfl (hb hby d1_51) rfl (flt hc51).2.2.1 k_) ?_
        refine Go.st (S' := T0.setTop (mkF m 55 #[.val (.int p0)] [(.int (1 : Int32))])) (fun _ k_ => XS.iconst X0.here hx rfl (hb hby d1_54) k_) ?_
        refine Go.st (S' := T0.setTop (mkF m 59 #[.val (.int p0)] [(.int (1 : Int32))])) (fun _ k_ => XS.goto X0.here hx rfl (pc0 := 55) (pc' := 59) rfl (hb hby d1_55) (by decide) (by decide) k_) ?_
        exact Go.retN X0 hx (t := .boolean) hret (by simp) hlk (hb hby d1_59) (by decide) (by decide) (by rw [e0]; exact ⟨by rw [if_pos (hk.mpr ⟨hc45, hc51⟩)]; rfl, N0, rfl⟩)
  have J4 : ∀ (hk : XC0 p0 ↔ XC4 p0), Go p e below s ({ frames := 0, cells := 0, slots := 0, locals := 0 } : Room) (fun v h L => v = some (.int (if XC0 p0 then (1 : Int32) else (0 : Int32))) ∧ Fr n0 L ∧ h = h0) (T0.setTop (mkF m 30 #[.val (.int p0)] [])) := by
    intro hk
    refine Go.st (S' := T0.setTop (mkF m 31 #[.val (.int p0)] [(.int p0)])) (fun _ k_ => XS.iloadN X0.here hx rfl (hb hby d1_30) rfl k_) ?_
    refine Go.st (S' := T0.setTop (mkF m 33 #[.val (.int p0)] [(.int (57344 : Int32)), (.int p0)])) (X0.ldcInt hx hown (mvT hZ (w16 hw)) (g := (mkF m 31 #[.val (.int p0)] [(.int p0)])) rfl (hb hby d1_31)) ?_
    by_cases hc33 : p0 < (57344 : Int32)
    · skip
      refine Go.st (S' := T0.setTop (mkF m 42 #[.val (.int p0)] [])) (fun _ k_ => XS.icmpYes X0.here hx rfl (pc0 := 33) (pc' := 42) rfl (hb hby d1_33) rfl (tlt hc33).1 (by decide) (by decide) k_) ?_
      exact J5 (hk.trans (or_iff_right (fun q => q.1 hc33)))
    · skip
      refine Go.st (S' := T0.setTop (mkF m 36 #[.val (.int p0)] [])) (fun _ k_ => XS.icmpNo X0.here hx rfl (hb hby d1_33) rfl (flt hc33).1 k_) ?_
      refine Go.st (S' := T0.setTop (mkF m 37 #[.val (.int p0)] [(.int p0)])) (fun _ k_ => XS.iloadN X0.here hx rfl (hb hby d1_36) rfl k_) ?_
      refine Go.st (S' := T0.setTop (mkF m 39 #[.val (.int p0)] [(.int (65533 : Int32)), (.int p0)])) (X0.ldcInt hx hown (mvT hZ (w24 hw)) (g := (mkF m 37 #[.val (.int p0)] [(.int p0)])) rfl (hb hby d1_37)) ?_
      by_cases hc39 : (65533 : Int32) < p0
      · skip
        refine Go.st (S' := T0.setTop (mkF m 42 #[.val (.int p0)] [])) (fun _ k_ => XS.icmpNo X0.here hx rfl (hb hby d1_39) rfl (tlt hc39).2.2.2 k_) ?_
        exact J5 (hk.trans (or_iff_right (fun q => q.2 hc39)))
      · skip
        refine Go.st (S' := T0.setTop (mkF m 54 #[.val (.int p0)] [])) (fun _ k_ => XS.icmpYes X0.here hx rfl (pc0 := 39) (pc' := 54) rfl (hb hby d1_39) rfl (flt hc39).2.2.2 (by decide) (by decide) k_) ?_
        refine Go.st (S' := T0.setTop (mkF m 55 #[.val (.int p0)] [(.int (1 : Int32))])) (fun _ k_ => XS.iconst X0.here hx rfl (hb hby d1_54) k_) ?_
        refine Go.st (S' := T0.setTop (mkF m 59 #[.val (.int p0)] [(.int (1 : Int32))])) (fun _ k_ => XS.goto X0.here hx rfl (pc0 := 55) (pc' := 59) rfl (hb hby d1_55) (by decide) (by decide) k_) ?_
        exact Go.retN X0 hx (t := .boolean) hret (by simp) hlk (hb hby d1_59) (by decide) (by decide) (by rw [e0]; exact ⟨by rw [if_pos (hk.mpr (Or.inl ⟨hc33, hc39⟩))]; rfl, N0, rfl⟩)
  have J3 : ∀ (hk : XC0 p0 ↔ XC3 p0), Go p e below s ({ frames := 0, cells := 0, slots := 0, locals := 0 } : Room) (fun v h L => v = some (.int (if XC0 p0 then (1 : Int32) else (0 : Int32))) ∧ Fr n0 L ∧ h = h0) (T0.setTop (mkF m 18 #[.val (.int p0)] [])) := by
    intro hk
    refine Go.st (S' := T0.setTop (mkF m 19 #[.val (.int p0)] [(.int p0)])) (fun _ k_ => XS.iloadN X0.here hx rfl (hb hby d1_18) rfl k_) ?_
    refine Go.st (S' := T0.setTop (mkF m 21 #[.val (.int p0)] [(.int (32 : Int32)), (.int p0)])) (fun _ k_ => XS.bipush X0.here hx rfl (hb hby d1_19) k_) ?_
    by_cases hc21 : p0 < (32 : Int32)
    · skip
      refine Go.st (S' := T0.setTop (mkF m 30 #[.val (.int p0)] [])) (fun _ k_ => XS.icmpYes X0.here hx rfl (pc0 := 21) (pc' := 30) rfl (hb hby d1_21) rfl (tlt hc21).1 (by decide) (by decide) k_) ?_
      exact J4 (hk.trans (or_iff_right (fun q => q.1 hc21)))
    · skip
      refine Go.st (S' := T0.setTop (mkF m 24 #[.val (.int p0)] [])) (fun _ k_ => XS.icmpNo X0.here hx rfl (hb hby d1_21) rfl (flt hc21).1 k_) ?_
      refine Go.st (S' := T0.setTop (mkF m 25 #[.val (.int p0)] [(.int p0)])) (fun _ k_ => XS.iloadN X0.here hx rfl (hb hby d1_24) rfl k_) ?_
      refine Go.st (S' := T0.setTop (mkF m 27 #[.val (.int p0)] [(.int (55295 : Int32)), (.int p0)])) (X0.ldcInt hx hown (mvT hZ (w22 hw)) (g := (mkF m 25 #[.val (.int p0)] [(.int p0)])) rfl (hb hby d1_25)) ?_
      by_cases hc27 : (55295 : Int32) < p0
      · skip
        refine Go.st (S' := T0.setTop (mkF m 30 #[.val (.int p0)] [])) (fun _ k_ => XS.icmpNo X0.here hx rfl (hb hby d1_27) rfl (tlt hc27).2.2.2 k_) ?_
        exact J4 (hk.trans (or_iff_right (fun q => q.2 hc27)))
      · skip
        refine Go.st (S' := T0.setTop (mkF m 54 #[.val (.int p0)] [])) (fun _ k_ => XS.icmpYes X0.here hx rfl (pc0 := 27) (pc' := 54) rfl (hb hby d1_27) rfl (flt hc27).2.2.2 (by decide) (by decide) k_) ?_
        refine Go.st (S' := T0.setTop (mkF m 55 #[.val (.int p0)] [(.int (1 : Int32))])) (fun _ k_ => XS.iconst X0.here hx rfl (hb hby d1_54) k_) ?_
        refine Go.st (S' := T0.setTop (mkF m 59 #[.val (.int p0)] [(.int (1 : Int32))])) (fun _ k_ => XS.goto X0.here hx rfl (pc0 := 55) (pc' := 59) rfl (hb hby d1_55) (by decide) (by decide) k_) ?_
        exact Go.retN X0 hx (t := .boolean) hret (by simp) hlk (hb hby d1_59) (by decide) (by decide) (by rw [e0]; exact ⟨by rw [if_pos (hk.mpr (Or.inl ⟨hc21, hc27⟩))]; rfl, N0, rfl⟩)
  have J2 : ∀ (hk : XC0 p0 ↔ XC2 p0), Go p e below s ({ frames := 0, cells := 0, slots := 0, locals := 0 } : Room) (fun v h L => v = some (.int (if XC0 p0 then (1 : Int32) else (0 : Int32))) ∧ Fr n0 L ∧ h = h0) (T0.setTop (mkF m 12 #[.val (.int p0)] [])) := by
    intro hk
    refine Go.st (S' := T0.setTop (mkF m 13 #[.val (.int p0)] [(.int p0)])) (fun _ k_ => XS.iloadN X0.here hx rfl (hb hby d1_12) rfl k_) ?_
    refine Go.st (S' := T0.setTop (mkF m 15 #[.val (.int p0)] [(.int (13 : Int32)), (.int p0)])) (fun _ k_ => XS.bipush X0.here hx rfl (hb hby d1_13) k_) ?_
    by_cases hc15 : p0 = (13 : Int32)
    · skip
      refine Go.st (S' := T0.setTop (mkF m 54 #[.val (.int p0)] [])) (fun _ k_ => XS.icmpYes X0.here hx rfl (pc0 := 15) (pc' := 54) rfl (hb hby d1_15) rfl (teq hc15).1 (by decide) (by decide) k_) ?_
      refine Go.st (S' := T0.setTop (mkF m 55 #[.val (.int p0)] [(.int (1 : Int32))])) (fun _ k_ => XS.iconst X0.here hx rfl (hb hby d1_54) k_) ?_
      refine Go.st (S' := T0.setTop (mkF m 59 #[.val (.int p0)] [(.int (1 : Int32))])) (fun _ k_ => XS.goto X0.here hx rfl (pc0 := 55) (pc' := 59) rfl (hb hby d1_55) (by decide) (by decide) k_) ?_
      exact Go.retN X0 hx (t := .boolean) hret (by simp) hlk (hb hby d1_59) (by decide) (by decide) (by rw [e0]; exact ⟨by rw [if_pos (hk.mpr (Or.inl hc15))]; rfl, N0, rfl⟩)
    · skip
      refine Go.st (S' := T0.setTop (mkF m 18 #[.val (.int p0)] [])) (fun _ k_ => XS.icmpNo X0.here hx rfl (hb hby d1_15) rfl (feq hc15).1 k_) ?_
      exact J3 (hk.trans (or_iff_right (fun q => hc15 q)))
  have J1 : ∀ (hk : XC0 p0 ↔ XC1 p0), Go p e below s ({ frames := 0, cells := 0, slots := 0, locals := 0 } : Room) (fun v h L => v = some (.int (if XC0 p0 then (1 : Int32) else (0 : Int32))) ∧ Fr n0 L ∧ h = h0) (T0.setTop (mkF m 6 #[.val (.int p0)] [])) := by
    intro hk
    refine Go.st (S' := T0.setTop (mkF m 7 #[.val (.int p0)] [(.int p0)])) (fun _ k_ => XS.iloadN X0.here hx rfl (hb hby d1_6) rfl k_) ?_
    refine Go.st (S' := T0.setTop (mkF m 9 #[.val (.int p0)] [(.int (10 : Int32)), (.int p0)])) (fun _ k_ => XS.bipush X0.here hx rfl (hb hby d1_7) k_) ?_
    by_cases hc9 : p0 = (10 : Int32)
    · skip
      refine Go.st (S' := T0.setTop (mkF m 54 #[.val (.int p0)] [])) (fun _ k_ => XS.icmpYes X0.here hx rfl (pc0 := 9) (pc' := 54) rfl (hb hby d1_9) rfl (teq hc9).1 (by decide) (by decide) k_) ?_
      refine Go.st (S' := T0.setTop (mkF m 55 #[.val (.int p0)] [(.int (1 : Int32))])) (fun _ k_ => XS.iconst X0.here hx rfl (hb hby d1_54) k_) ?_
      refine Go.st (S' := T0.setTop (mkF m 59 #[.val (.int p0)] [(.int (1 : Int32))])) (fun _ k_ => XS.goto X0.here hx rfl (pc0 := 55) (pc' := 59) rfl (hb hby d1_55) (by decide) (by decide) k_) ?_
      exact Go.retN X0 hx (t := .boolean) hret (by simp) hlk (hb hby d1_59) (by decide) (by decide) (by rw [e0]; exact ⟨by rw [if_pos (hk.mpr (Or.inl hc9))]; rfl, N0, rfl⟩)
    · skip
      refine Go.st (S' := T0.setTop (mkF m 12 #[.val (.int p0)] [])) (fun _ k_ => XS.icmpNo X0.here hx rfl (hb hby d1_9) rfl (feq hc9).1 k_) ?_
      exact J2 (hk.trans (or_iff_right (fun q => hc9 q)))
  refine Go.cast (ef_rm1 m p0) ?_
  have hk : XC0 p0 ↔ XC0 p0 := Iff.rfl
  refine Go.st (S' := T0.setTop (mkF m 1 #[.val (.int p0)] [(.int p0)])) (fun _ k_ => XS.iloadN X0.here hx rfl (hb hby d1_0) rfl k_) ?_
  refine Go.st (S' := T0.setTop (mkF m 3 #[.val (.int p0)] [(.int (9 : Int32)), (.int p0)])) (fun _ k_ => XS.bipush X0.here hx rfl (hb hby d1_1) k_) ?_
  by_cases hc3 : p0 = (9 : Int32)
  · skip
    refine Go.st (S' := T0.setTop (mkF m 54 #[.val (.int p0)] [])) (fun _ k_ => XS.icmpYes X0.here hx rfl (pc0 := 3) (pc' := 54) rfl (hb hby d1_3) rfl (teq hc3).1 (by decide) (by decide) k_) ?_
    refine Go.st (S' := T0.setTop (mkF m 55 #[.val (.int p0)] [(.int (1 : Int32))])) (fun _ k_ => XS.iconst X0.here hx rfl (hb hby d1_54) k_) ?_
    refine Go.st (S' := T0.setTop (mkF m 59 #[.val (.int p0)] [(.int (1 : Int32))])) (fun _ k_ => XS.goto X0.here hx rfl (pc0 := 55) (pc' := 59) rfl (hb hby d1_55) (by decide) (by decide) k_) ?_
    exact Go.retN X0 hx (t := .boolean) hret (by simp) hlk (hb hby d1_59) (by decide) (by decide) (by rw [e0]; exact ⟨by rw [if_pos (hk.mpr (Or.inl hc3))]; rfl, N0, rfl⟩)
  · skip
    refine Go.st (S' := T0.setTop (mkF m 6 #[.val (.int p0)] [])) (fun _ k_ => XS.icmpNo X0.here hx rfl (hb hby d1_3) rfl (feq hc3).1 k_) ?_
    exact J1 (hk.trans (or_iff_right (fun q => hc3 q)))
theorem ef_rm2 (m : MethodId) (x0 : Int32) : entryFrame m #[(.int x0)] 1 = mkF m 0 #[.val (.int x0)] [] := by first | (simp [entryFrame, mkF, argsToLocals, Value.category]; done) | rfl
set_option maxRecDepth 65536 in
set_option maxHeartbeats 40000000 in
theorem rm2 (l : Launch) (Z : State) (a0 : Array Value) (hw : ∀ d ∈ tables_1, d.before a0 Z = true) (p0 : Int32) (h0 : Heap) (n0 : Nat) (Z0 : n0 ≤ h0.size) :
    Con l Z (⟨"com/example/quillon/quillon/model/XmlCharsIsXmlCharPinLaw", "reference", "(I)Z"⟩ : MethodName) method_2_code 1 (some .boolean) [] ({ frames := 0, cells := 0, slots := 0, locals := 0 } : Room) #[(.int p0)] h0 (fun v h L => v = some (.int (if XC0 p0 then (1 : Int32) else (0 : Int32))) ∧ Fr n0 L ∧ h = h0) := by
  refine Con.mk (plainFor_of_name pn1) ?_
  intro p e s m below meth c T0 hx hby hml hown hnm hret hlk hZ X0 e0
  have hown : s.vm.findClass "com/example/quillon/quillon/model/XmlCharsIsXmlCharPinLaw" = some m.cls := hown
  have hnm : meth.name = "reference" := hnm
  have N0 := Fr.nil n0
  refine Go.cast (ef_rm2 m p0) ?_
  refine Go.st (S' := T0.setTop (mkF m 1 #[.val (.int p0)] [(.int p0)])) (fun _ k_ => XS.iloadN X0.here hx rfl (hb hby d2_0) rfl k_) ?_
  by_cases hc1 : p0 < (0 : Int32)
  · skip
    refine Go.st (S' := T0.setTop (mkF m 10 #[.val (.int p0)] [])) (fun _ k_ => XS.ifYes X0.here hx rfl (pc0 := 1) (pc' := 10) rfl (hb hby d2_1) rfl ((if0 _ _).trans (tlt hc1).1) (by decide) (by decide) k_) ?_
    refine Go.st (S' := T0.setTop (mkF m 11 #[.val (.int p0)] [(.int (0 : Int32))])) (fun _ k_ => XS.iconst X0.here hx rfl (hb hby d2_10) k_) ?_
    exact Go.retN X0 hx (t := .boolean) hret (by simp) hlk (hb hby d2_11) (by decide) (by decide) (by rw [e0]; exact ⟨by rw [if_neg (show ¬ XC0 p0 from by have z0 := hc1; simp only [XC0, XC1, XC2, XC3, XC4, XC5, Int32.lt_iff_toInt_lt, ← Int32.toInt_inj, Int32.reduceToInt] at z0 ⊢; omega)]; rfl, N0, rfl⟩)
  · skip
    refine Go.st (S' := T0.setTop (mkF m 4 #[.val (.int p0)] [])) (fun _ k_ => XS.ifNo X0.here hx rfl (hb hby d2_1) rfl ((if0 _ _).trans (flt hc1).1) k_) ?_
    refine Go.st (S' := T0.setTop (mkF m 5 #[.val (.int p0)] [(.int p0)])) (fun _ k_ => XS.iloadN X0.here hx rfl (hb hby d2_4) rfl k_) ?_
    refine Go.st (S' := T0.setTop (mkF m 7 #[.val (.int p0)] [(.int (1114111 : Int32)), (.int p0)])) (X0.ldcInt hx hown (mvT hZ (w8 hw)) (g := (mkF m 5 #[.val (.int p0)] [(.int p0)])) rfl (hb hby d2_5)) ?_
    by_cases hc7 : (1114111 : Int32) < p0
    · skip
      refine Go.st (S' := T0.setTop (mkF m 10 #[.val (.int p0)] [])) (fun _ k_ => XS.icmpNo X0.here hx rfl (hb hby d2_7) rfl (tlt hc7).2.2.2 k_) ?_
      refine Go.st (S' := T0.setTop (mkF m 11 #[.val (.int p0)] [(.int (0 : Int32))])) (fun _ k_ => XS.iconst X0.here hx rfl (hb hby d2_10) k_) ?_
      exact Go.retN X0 hx (t := .boolean) hret (by simp) hlk (hb hby d2_11) (by decide) (by decide) (by rw [e0]; exact ⟨by rw [if_neg (show ¬ XC0 p0 from by have z0 := hc1; have z1 := hc7; simp only [XC0, XC1, XC2, XC3, XC4, XC5, Int32.lt_iff_toInt_lt, ← Int32.toInt_inj, Int32.reduceToInt] at z0 z1 ⊢; omega)]; rfl, N0, rfl⟩)
    · skip
      refine Go.st (S' := T0.setTop (mkF m 12 #[.val (.int p0)] [])) (fun _ k_ => XS.icmpYes X0.here hx rfl (pc0 := 7) (pc' := 12) rfl (hb hby d2_7) rfl (flt hc7).2.2.2 (by decide) (by decide) k_) ?_
      refine Go.st (S' := T0.setTop (mkF m 13 #[.val (.int p0)] [(.int p0)])) (fun _ k_ => XS.iloadN X0.here hx rfl (hb hby d2_12) rfl k_) ?_
      refine Go.st (S' := T0.setTop (mkF m 15 #[.val (.int p0)] [(.int (32 : Int32)), (.int p0)])) (fun _ k_ => XS.bipush X0.here hx rfl (hb hby d2_13) k_) ?_
      by_cases hc15 : p0 < (32 : Int32)
      · skip
        refine Go.st (S' := T0.setTop (mkF m 18 #[.val (.int p0)] [])) (fun _ k_ => XS.icmpNo X0.here hx rfl (hb hby d2_15) rfl (tlt hc15).2.1 k_) ?_
        refine Go.st (S' := T0.setTop (mkF m 19 #[.val (.int p0)] [(.int p0)])) (fun _ k_ => XS.iloadN X0.here hx rfl (hb hby d2_18) rfl k_) ?_
        refine Go.st (S' := T0.setTop (mkF m 21 #[.val (.int p0)] [(.int (9 : Int32)), (.int p0)])) (fun _ k_ => XS.bipush X0.here hx rfl (hb hby d2_19) k_) ?_
        by_cases hc21 : p0 = (9 : Int32)
        · skip
          refine Go.st (S' := T0.setTop (mkF m 36 #[.val (.int p0)] [])) (fun _ k_ => XS.icmpYes X0.here hx rfl (pc0 := 21) (pc' := 36) rfl (hb hby d2_21) rfl (teq hc21).1 (by decide) (by decide) k_) ?_
          refine Go.st (S' := T0.setTop (mkF m 37 #[.val (.int p0)] [(.int (1 : Int32))])) (fun _ k_ => XS.iconst X0.here hx rfl (hb hby d2_36) k_) ?_
          refine Go.st (S' := T0.setTop (mkF m 41 #[.val (.int p0)] [(.int (1 : Int32))])) (fun _ k_ => XS.goto X0.here hx rfl (pc0 := 37) (pc' := 41) rfl (hb hby d2_37) (by decide) (by decide) k_) ?_
          exact Go.retN X0 hx (t := .boolean) hret (by simp) hlk (hb hby d2_41) (by decide) (by decide) (by rw [e0]; exact ⟨by rw [if_pos (show XC0 p0 from by have z0 := hc1; have z1 := hc7; have z2 := hc15; have z3 := hc21; simp only [XC0, XC1, XC2, XC3, XC4, XC5, Int32.lt_iff_toInt_lt, ← Int32.toInt_inj, Int32.reduceToInt] at z0 z1 z2 z3 ⊢; omega)]; rfl, N0, rfl⟩)
        · skip
          refine Go.st (S' := T0.setTop (mkF m 24 #[.val (.int p0)] [])) (fun _ k_ => XS.icmpNo X0.here hx rfl (hb hby d2_21) rfl (feq hc21).1 k_) ?_
          refine Go.st (S' := T0.setTop (mkF m 25 #[.val (.int p0)] [(.int p0)])) (fun _ k_ => XS.iloadN X0.here hx rfl (hb hby d2_24) rfl k_) ?_
          refine Go.st (S' := T0.setTop (mkF m 27 #[.val (.int p0)] [(.int (10 : Int32)), (.int p0)])) (fun _ k_ => XS.bipush X0.here hx rfl (hb hby d2_25) k_) ?_
          by_cases hc27 : p0 = (10 : Int32)
          · skip
            refine Go.st (S' := T0.setTop (mkF m 36 #[.val (.int p0)] [])) (fun _ k_ => XS.icmpYes X0.here hx rfl (pc0 := 27) (pc' := 36) rfl (hb hby d2_27) rfl (teq hc27).1 (by decide) (by decide) k_) ?_
            refine Go.st (S' := T0.setTop (mkF m 37 #[.val (.int p0)] [(.int (1 : Int32))])) (fun _ k_ => XS.iconst X0.here hx rfl (hb hby d2_36) k_) ?_
            refine Go.st (S' := T0.setTop (mkF m 41 #[.val (.int p0)] [(.int (1 : Int32))])) (fun _ k_ => XS.goto X0.here hx rfl (pc0 := 37) (pc' := 41) rfl (hb hby d2_37) (by decide) (by decide) k_) ?_
            exact Go.retN X0 hx (t := .boolean) hret (by simp) hlk (hb hby d2_41) (by decide) (by decide) (by rw [e0]; exact ⟨by rw [if_pos (show XC0 p0 from by have z0 := hc1; have z1 := hc7; have z2 := hc15; have z3 := hc21; have z4 := hc27; simp only [XC0, XC1, XC2, XC3, XC4, XC5, Int32.lt_iff_toInt_lt, ← Int32.toInt_inj, Int32.reduceToInt] at z0 z1 z2 z3 z4 ⊢; omega)]; rfl, N0, rfl⟩)
          · skip
            refine Go.st (S' := T0.setTop (mkF m 30 #[.val (.int p0)] [])) (fun _ k_ => XS.icmpNo X0.here hx rfl (hb hby d2_27) rfl (feq hc27).1 k_) ?_
            refine Go.st (S' := T0.setTop (mkF m 31 #[.val (.int p0)] [(.int p0)])) (fun _ k_ => XS.iloadN X0.here hx rfl (hb hby d2_30) rfl k_) ?_
            refine Go.st (S' := T0.setTop (mkF m 33 #[.val (.int p0)] [(.int (13 : Int32)), (.int p0)])) (fun _ k_ => XS.bipush X0.here hx rfl (hb hby d2_31) k_) ?_
            by_cases hc33 : p0 = (13 : Int32)
            · skip
              refine Go.st (S' := T0.setTop (mkF m 36 #[.val (.int p0)] [])) (fun _ k_ => XS.icmpNo X0.here hx rfl (hb hby d2_33) rfl (teq hc33).2 k_) ?_
              refine Go.st (S' := T0.setTop (mkF m 37 #[.val (.int p0)] [(.int (1 : Int32))])) (fun _ k_ => XS.iconst X0.here hx rfl (hb hby d2_36) k_) ?_
              refine Go.st (S' := T0.setTop (mkF m 41 #[.val (.int p0)] [(.int (1 : Int32))])) (fun _ k_ => XS.goto X0.here hx rfl (pc0 := 37) (pc' := 41) rfl (hb hby d2_37) (by decide) (by decide) k_) ?_
              exact Go.retN X0 hx (t := .boolean) hret (by simp) hlk (hb hby d2_41) (by decide) (by decide) (by rw [e0]; exact ⟨by rw [if_pos (show XC0 p0 from by have z0 := hc1; have z1 := hc7; have z2 := hc15; have z3 := hc21; have z4 := hc27; have z5 := hc33; simp only [XC0, XC1, XC2, XC3, XC4, XC5, Int32.lt_iff_toInt_lt, ← Int32.toInt_inj, Int32.reduceToInt] at z0 z1 z2 z3 z4 z5 ⊢; omega)]; rfl, N0, rfl⟩)
            · skip
              refine Go.st (S' := T0.setTop (mkF m 40 #[.val (.int p0)] [])) (fun _ k_ => XS.icmpYes X0.here hx rfl (pc0 := 33) (pc' := 40) rfl (hb hby d2_33) rfl (feq hc33).2 (by decide) (by decide) k_) ?_
              refine Go.st (S' := T0.setTop (mkF m 41 #[.val (.int p0)] [(.int (0 : Int32))])) (fun _ k_ => XS.iconst X0.here hx rfl (hb hby d2_40) k_) ?_
              exact Go.retN X0 hx (t := .boolean) hret (by simp) hlk (hb hby d2_41) (by decide) (by decide) (by rw [e0]; exact ⟨by rw [if_neg (show ¬ XC0 p0 from by have z0 := hc1; have z1 := hc7; have z2 := hc15; have z3 := hc21; have z4 := hc27; have z5 := hc33; simp only [XC0, XC1, XC2, XC3, XC4, XC5, Int32.lt_iff_toInt_lt, ← Int32.toInt_inj, Int32.reduceToInt] at z0 z1 z2 z3 z4 z5 ⊢; omega)]; rfl, N0, rfl⟩)
      · skip
        refine Go.st (S' := T0.setTop (mkF m 42 #[.val (.int p0)] [])) (fun _ k_ => XS.icmpYes X0.here hx rfl (pc0 := 15) (pc' := 42) rfl (hb hby d2_15) rfl (flt hc15).2.1 (by decide) (by decide) k_) ?_
        refine Go.st (S' := T0.setTop (mkF m 43 #[.val (.int p0)] [(.int p0)])) (fun _ k_ => XS.iloadN X0.here hx rfl (hb hby d2_42) rfl k_) ?_
        refine Go.st (S' := T0.setTop (mkF m 45 #[.val (.int p0)] [(.int (55296 : Int32)), (.int p0)])) (X0.ldcInt hx hown (mvT hZ (w2 hw)) (g := (mkF m 43 #[.val (.int p0)] [(.int p0)])) rfl (hb hby d2_43)) ?_
        by_cases hc45 : p0 < (55296 : Int32)
        · skip
          refine Go.st (S' := T0.setTop (mkF m 56 #[.val (.int p0)] [])) (fun _ k_ => XS.icmpYes X0.here hx rfl (pc0 := 45) (pc' := 56) rfl (hb hby d2_45) rfl (tlt hc45).1 (by decide) (by decide) k_) ?_
          refine Go.st (S' := T0.setTop (mkF m 57 #[.val (.int p0)] [(.int p0)])) (fun _ k_ => XS.iloadN X0.here hx rfl (hb hby d2_56) rfl k_) ?_
          refine Go.st (S' := T0.setTop (mkF m 59 #[.val (.int p0)] [(.int (65534 : Int32)), (.int p0)])) (X0.ldcInt hx hown (mvT hZ (w23 hw)) (g := (mkF m 57 #[.val (.int p0)] [(.int p0)])) rfl (hb hby d2_57)) ?_
          by_cases hc59 : p0 = (65534 : Int32)
          · skip
            refine Go.st (S' := T0.setTop (mkF m 68 #[.val (.int p0)] [])) (fun _ k_ => XS.icmpYes X0.here hx rfl (pc0 := 59) (pc' := 68) rfl (hb hby d2_59) rfl (teq hc59).1 (by decide) (by decide) k_) ?_
            refine Go.st (S' := T0.setTop (mkF m 69 #[.val (.int p0)] [(.int (0 : Int32))])) (fun _ k_ => XS.iconst X0.here hx rfl (hb hby d2_68) k_) ?_
            exact Go.retN X0 hx (t := .boolean) hret (by simp) hlk (hb hby d2_69) (by decide) (by decide) (by rw [e0]; exact ⟨by rw [if_neg (show ¬ XC0 p0 from by have z0 := hc1; have z1 := hc7; have z2 := hc15; have z3 := hc45; have z4 := hc59; simp only [XC0, XC1, XC2, XC3, XC4, XC5, Int32.lt_iff_toInt_lt, ← Int32.toInt_inj, Int32.reduceToInt] at z0 z1 z2 z3 z4 ⊢; omega)]; rfl, N0, rfl⟩)
          · skip
            refine Go.st (S' := T0.setTop (mkF m 62 #[.val (.int p0)] [])) (fun _ k_ => XS.icmpNo X0.here hx rfl (hb hby d2_59) rfl (feq hc59).1 k_) ?_
            refine Go.st (S' := T0.setTop (mkF m 63 #[.val (.int p0)] [(.int p0)])) (fun _ k_ => XS.iloadN X0.here hx rfl (hb hby d2_62) rfl k_) ?_
            refine Go.st (S' := T0.setTop (mkF m 65 #[.val (.int p0)] [(.int (65535 : Int32)), (.int p0)])) (X0.ldcInt hx hown (mvT hZ (w6 hw)) (g := (mkF m 63 #[.val (.int p0)] [(.int p0)])) rfl (hb hby d2_63)) ?_
            by_cases hc65 : p0 = (65535 : Int32)
            · skip
              refine Go.st (S' := T0.setTop (mkF m 68 #[.val (.int p0)] [])) (fun _ k_ => XS.icmpNo X0.here hx rfl (hb hby d2_65) rfl (teq hc65).2 k_) ?_
              refine Go.st (S' := T0.setTop (mkF m 69 #[.val (.int p0)] [(.int (0 : Int32))])) (fun _ k_ => XS.iconst X0.here hx rfl (hb hby d2_68) k_) ?_
              exact Go.retN X0 hx (t := .boolean) hret (by simp) hlk (hb hby d2_69) (by decide) (by decide) (by rw [e0]; exact ⟨by rw [if_neg (show ¬ XC0 p0 from by have z0 := hc1; have z1 := hc7; have z2 := hc15; have z3 := hc45; have z4 := hc59; have z5 := hc65; simp only [XC0, XC1, XC2, XC3, XC4, XC5, Int32.lt_iff_toInt_lt, ← Int32.toInt_inj, Int32.reduceToInt] at z0 z1 z2 z3 z4 z5 ⊢; omega)]; rfl, N0, rfl⟩)
            · skip
              refine Go.st (S' := T0.setTop (mkF m 70 #[.val (.int p0)] [])) (fun _ k_ => XS.icmpYes X0.here hx rfl (pc0 := 65) (pc' := 70) rfl (hb hby d2_65) rfl (feq hc65).2 (by decide) (by decide) k_) ?_
              refine Go.st (S' := T0.setTop (mkF m 71 #[.val (.int p0)] [(.int (1 : Int32))])) (fun _ k_ => XS.iconst X0.here hx rfl (hb hby d2_70) k_) ?_
              exact Go.retN X0 hx (t := .boolean) hret (by simp) hlk (hb hby d2_71) (by decide) (by decide) (by rw [e0]; exact ⟨by rw [if_pos (show XC0 p0 from by have z0 := hc1; have z1 := hc7; have z2 := hc15; have z3 := hc45; have z4 := hc59; have z5 := hc65; simp only [XC0, XC1, XC2, XC3, XC4, XC5, Int32.lt_iff_toInt_lt, ← Int32.toInt_inj, Int32.reduceToInt] at z0 z1 z2 z3 z4 z5 ⊢; omega)]; rfl, N0, rfl⟩)
        · skip
          refine Go.st (S' := T0.setTop (mkF m 48 #[.val (.int p0)] [])) (fun _ k_ => XS.icmpNo X0.here hx rfl (hb hby d2_45) rfl (flt hc45).1 k_) ?_
          refine Go.st (S' := T0.setTop (mkF m 49 #[.val (.int p0)] [(.int p0)])) (fun _ k_ => XS.iloadN X0.here hx rfl (hb hby d2_48) rfl k_) ?_
          refine Go.st (S' := T0.setTop (mkF m 51 #[.val (.int p0)] [(.int (57343 : Int32)), (.int p0)])) (X0.ldcInt hx hown (mvT hZ (w3 hw)) (g := (mkF m 49 #[.val (.int p0)] [(.int p0)])) rfl (hb hby d2_49)) ?_
          by_cases hc51 : (57343 : Int32) < p0
          · skip
            refine Go.st (S' := T0.setTop (mkF m 56 #[.val (.int p0)] [])) (fun _ k_ => XS.icmpYes X0.here hx rfl (pc0 := 51) (pc' := 56) rfl (hb hby d2_51) rfl (tlt hc51).2.2.1 (by decide) (by decide) k_) ?_
            refine Go.st (S' := T0.setTop (mkF m 57 #[.val (.int p0)] [(.int p0)])) (fun _ k_ => XS.iloadN X0.here hx rfl (hb hby d2_56) rfl k_) ?_
            refine Go.st (S' := T0.setTop (mkF m 59 #[.val (.int p0)] [(.int (65534 : Int32)), (.int p0)])) (X0.ldcInt hx hown (mvT hZ (w23 hw)) (g := (mkF m 57 #[.val (.int p0)] [(.int p0)])) rfl (hb hby d2_57)) ?_
            by_cases hc59 : p0 = (65534 : Int32)
            · skip
              refine Go.st (S' := T0.setTop (mkF m 68 #[.val (.int p0)] [])) (fun _ k_ => XS.icmpYes X0.here hx rfl (pc0 := 59) (pc' := 68) rfl (hb hby d2_59) rfl (teq hc59).1 (by decide) (by decide) k_) ?_
              refine Go.st (S' := T0.setTop (mkF m 69 #[.val (.int p0)] [(.int (0 : Int32))])) (fun _ k_ => XS.iconst X0.here hx rfl (hb hby d2_68) k_) ?_
              exact Go.retN X0 hx (t := .boolean) hret (by simp) hlk (hb hby d2_69) (by decide) (by decide) (by rw [e0]; exact ⟨by rw [if_neg (show ¬ XC0 p0 from by have z0 := hc1; have z1 := hc7; have z2 := hc15; have z3 := hc45; have z4 := hc51; have z5 := hc59; simp only [XC0, XC1, XC2, XC3, XC4, XC5, Int32.lt_iff_toInt_lt, ← Int32.toInt_inj, Int32.reduceToInt] at z0 z1 z2 z3 z4 z5 ⊢; omega)]; rfl, N0, rfl⟩)
            · skip
              refine Go.st (S' := T0.setTop (mkF m 62 #[.val (.int p0)] [])) (fun _ k_ => XS.icmpNo X0.here hx rfl (hb hby d2_59) rfl (feq hc59).1 k_) ?_
              refine Go.st (S' := T0.setTop (mkF m 63 #[.val (.int p0)] [(.int p0)])) (fun _ k_ => XS.iloadN X0.here hx rfl (hb hby d2_62) rfl k_) ?_
              refine Go.st (S' := T0.setTop (mkF m 65 #[.val (.int p0)] [(.int (65535 : Int32)), (.int p0)])) (X0.ldcInt hx hown (mvT hZ (w6 hw)) (g := (mkF m 63 #[.val (.int p0)] [(.int p0)])) rfl (hb hby d2_63)) ?_
              by_cases hc65 : p0 = (65535 : Int32)
              · skip
                refine Go.st (S' := T0.setTop (mkF m 68 #[.val (.int p0)] [])) (fun _ k_ => XS.icmpNo X0.here hx rfl (hb hby d2_65) rfl (teq hc65).2 k_) ?_
                refine Go.st (S' := T0.setTop (mkF m 69 #[.val (.int p0)] [(.int (0 : Int32))])) (fun _ k_ => XS.iconst X0.here hx rfl (hb hby d2_68) k_) ?_
                exact Go.retN X0 hx (t := .boolean) hret (by simp) hlk (hb hby d2_69) (by decide) (by decide) (by rw [e0]; exact ⟨by rw [if_neg (show ¬ XC0 p0 from by have z0 := hc1; have z1 := hc7; have z2 := hc15; have z3 := hc45; have z4 := hc51; have z5 := hc59; have z6 := hc65; simp only [XC0, XC1, XC2, XC3, XC4, XC5, Int32.lt_iff_toInt_lt, ← Int32.toInt_inj, Int32.reduceToInt] at z0 z1 z2 z3 z4 z5 z6 ⊢; omega)]; rfl, N0, rfl⟩)
              · skip
                refine Go.st (S' := T0.setTop (mkF m 70 #[.val (.int p0)] [])) (fun _ k_ => XS.icmpYes X0.here hx rfl (pc0 := 65) (pc' := 70) rfl (hb hby d2_65) rfl (feq hc65).2 (by decide) (by decide) k_) ?_
                refine Go.st (S' := T0.setTop (mkF m 71 #[.val (.int p0)] [(.int (1 : Int32))])) (fun _ k_ => XS.iconst X0.here hx rfl (hb hby d2_70) k_) ?_
                exact Go.retN X0 hx (t := .boolean) hret (by simp) hlk (hb hby d2_71) (by decide) (by decide) (by rw [e0]; exact ⟨by rw [if_pos (show XC0 p0 from by have z0 := hc1; have z1 := hc7; have z2 := hc15; have z3 := hc45; have z4 := hc51; have z5 := hc59; have z6 := hc65; simp only [XC0, XC1, XC2, XC3, XC4, XC5, Int32.lt_iff_toInt_lt, ← Int32.toInt_inj, Int32.reduceToInt] at z0 z1 z2 z3 z4 z5 z6 ⊢; omega)]; rfl, N0, rfl⟩)
          · skip
            refine Go.st (S' := T0.setTop (mkF m 54 #[.val (.int p0)] [])) (fun _ k_ => XS.icmpNo X0.here hx rfl (hb hby d2_51) rfl (flt hc51).2.2.1 k_) ?_
            refine Go.st (S' := T0.setTop (mkF m 55 #[.val (.int p0)] [(.int (0 : Int32))])) (fun _ k_ => XS.iconst X0.here hx rfl (hb hby d2_54) k_) ?_
            exact Go.retN X0 hx (t := .boolean) hret (by simp) hlk (hb hby d2_55) (by decide) (by decide) (by rw [e0]; exact ⟨by rw [if_neg (show ¬ XC0 p0 from by have z0 := hc1; have z1 := hc7; have z2 := hc15; have z3 := hc45; have z4 := hc51; simp only [XC0, XC1, XC2, XC3, XC4, XC5, Int32.lt_iff_toInt_lt, ← Int32.toInt_inj, Int32.reduceToInt] at z0 z1 z2 z3 z4 ⊢; omega)]; rfl, N0, rfl⟩)
theorem ef_rm0 (m : MethodId) (x0 : Int32) (x1 : Int32) (x2 : Int32) : entryFrame m #[(.int x0), (.int x1), (.int x2)] maxLocals = mkF m 0 #[.val (.int x0), .val (.int x1), .val (.int x2), .unset, .unset, .unset, .unset, .unset] [] := by first | (simp [entryFrame, mkF, argsToLocals, Value.category, maxLocals]; done) | rfl
set_option maxRecDepth 65536 in
set_option maxHeartbeats 40000000 in
theorem rm0 (l : Launch) (Z : State) (a0 : Array Value) (hw : ∀ d ∈ tables_1, d.before a0 Z = true) (ws : List Jvm.Cond) (p0 : Int32) (p1 : Int32) (p2 : Int32) (h0 : Heap) (n0 : Nat) (Z0 : n0 ≤ h0.size) :
    Con l Z x code maxLocals ret ws room_1 #[(.int p0), (.int p1), (.int p2)] h0 (fun v h L => v = some (.int 1) ∧ Fr n0 L) := by
  refine Con.mk (plainFor_of_name pn1) ?_
  intro p e s m below meth c T0 hx hby hml hown hnm hret hlk hZ X0 e0
  have hret : meth.sig.returnType = some .boolean := hret
  have hml : c.maxLocals = 8 := hml
  have hown : s.vm.findClass "com/example/quillon/quillon/model/XmlCharsIsXmlCharPinLaw" = some m.cls := hown
  have hby : c.code = code := hby
  have N0 := Fr.nil n0
  refine Go.cast (ef_rm0 m p0 p1 p2) ?_
  refine Go.st (S' := T0.setTop (mkF m 2 #[.val (.int p0), .val (.int p1), .val (.int p2), .unset, .unset, .unset, .unset, .unset] [(.int (16 : Int32))])) (fun _ k_ => XS.bipush X0.here hx rfl (hb hby at_0) k_) ?_
  obtain ⟨T11, h11, b11, X11, e11, q11, E11, A11, st11⟩ := Ai.new X0 hx hZ (aty := .int) (w0 hw) rfl e0 (n := (16 : Int32)) (by decide) 16 (by decide) (by decide) (by decide) (by decide) (g := (mkF m 2 #[.val (.int p0), .val (.int p1), .val (.int p2), .unset, .unset, .unset, .unset, .unset] [(.int (16 : Int32))])) rfl rfl (hb hby at_2)
  have g_b11 : n0 ≤ b11 := Nat.le_trans Z0 (Nat.le_of_eq q11.symm)
  replace Z0 := Nat.le_trans Z0 E11.1
  have A_b11 : Ai Z h11 b11 .int [(0 : Int32), (0 : Int32), (0 : Int32), (0 : Int32), (0 : Int32), (0 : Int32), (0 : Int32), (0 : Int32), (0 : Int32), (0 : Int32), (0 : Int32), (0 : Int32), (0 : Int32), (0 : Int32), (0 : Int32), (0 : Int32)] := A11
  refine Go.st (S' := T11.setTop (mkF m 4 #[.val (.int p0), .val (.int p1), .val (.int p2), .unset, .unset, .unset, .unset, .unset] [(.ref b11)])) (st11) ?_
  refine Go.st (S' := T11.setTop (mkF m 5 #[.val (.int p0), .val (.int p1), .val (.int p2), .unset, .unset, .unset, .unset, .unset] [(.ref b11), (.ref b11)])) (fun _ k_ => XS.dup X11.here hx rfl (hb hby at_4) rfl rfl k_) ?_
  refine Go.st (S' := T11.setTop (mkF m 6 #[.val (.int p0), .val (.int p1), .val (.int p2), .unset, .unset, .unset, .unset, .unset] [(.int (0 : Int32)), (.ref b11), (.ref b11)])) (fun _ k_ => XS.iconst X11.here hx rfl (hb hby at_5) k_) ?_
  refine Go.st (S' := T11.setTop (mkF m 8 #[.val (.int p0), .val (.int p1), .val (.int p2), .unset, .unset, .unset, .unset, .unset] [(.int (9 : Int32)), (.int (0 : Int32)), (.ref b11), (.ref b11)])) (fun _ k_ => XS.bipush X11.here hx rfl (hb hby at_6) k_) ?_
  obtain ⟨T12, h12, X12, e12, W12, A12, st12⟩ := A_b11.store X11 hx hZ e11 (j := (0 : Int32)) (by decide) (Nat.le_of_ble_eq_true rfl) (g := (mkF m 8 #[.val (.int p0), .val (.int p1), .val (.int p2), .unset, .unset, .unset, .unset, .unset] [(.int (9 : Int32)), (.int (0 : Int32)), (.ref b11), (.ref b11)])) rfl rfl (hb hby at_8)
  replace A_b11 : Ai Z h12 b11 .int [(9 : Int32), (0 : Int32), (0 : Int32), (0 : Int32), (0 : Int32), (0 : Int32), (0 : Int32), (0 : Int32), (0 : Int32), (0 : Int32), (0 : Int32), (0 : Int32), (0 : Int32), (0 : Int32), (0 : Int32), (0 : Int32)] := A12
  replace Z0 := Nat.le_trans Z0 (Keep.of_wr W12).1
  have N12 := Fr.snoc X12 N0 g_b11
  refine Go.st (S' := T12.setTop (mkF m 9 #[.val (.int p0), .val (.int p1), .val (.int p2), .unset, .unset, .unset, .unset, .unset] [(.ref b11)])) (st12) ?_
  refine Go.st (S' := T12.setTop (mkF m 10 #[.val (.int p0), .val (.int p1), .val (.int p2), .unset, .unset, .unset, .unset, .unset] [(.ref b11), (.ref b11)])) (fun _ k_ => XS.dup X12.here hx rfl (hb hby at_9) rfl rfl k_) ?_
  refine Go.st (S' := T12.setTop (mkF m 11 #[.val (.int p0), .val (.int p1), .val (.int p2), .unset, .unset, .unset, .unset, .unset] [(.int (1 : Int32)), (.ref b11), (.ref b11)])) (fun _ k_ => XS.iconst X12.here hx rfl (hb hby at_10) k_) ?_
  refine Go.st (S' := T12.setTop (mkF m 13 #[.val (.int p0), .val (.int p1), .val (.int p2), .unset, .unset, .unset, .unset, .unset] [(.int (10 : Int32)), (.int (1 : Int32)), (.ref b11), (.ref b11)])) (fun _ k_ => XS.bipush X12.here hx rfl (hb hby at_11) k_) ?_
  obtain ⟨T13, h13, X13, e13, W13, A13, st13⟩ := A_b11.store X12 hx hZ e12 (j := (1 : Int32)) (by decide) (Nat.le_of_ble_eq_true rfl) (g := (mkF m 13 #[.val (.int p0), .val (.int p1), .val (.int p2), .unset, .unset, .unset, .unset, .unset] [(.int (10 : Int32)), (.int (1 : Int32)), (.ref b11), (.ref b11)])) rfl rfl (hb hby at_13)
  replace A_b11 : Ai Z h13 b11 .int [(9 : Int32), (10 : Int32), (0 : Int32), (0 : Int32), (0 : Int32), (0 : Int32), (0 : Int32), (0 : Int32), (0 : Int32), (0 : Int32), (0 : Int32), (0 : Int32), (0 : Int32), (0 : Int32), (0 : Int32), (0 : Int32)] := A13
  replace Z0 := Nat.le_trans Z0 (Keep.of_wr W13).1
  have N13 := Fr.snoc X13 N12 g_b11
  refine Go.st (S' := T13.setTop (mkF m 14 #[.val (.int p0), .val (.int p1), .val (.int p2), .unset, .unset, .unset, .unset, .unset] [(.ref b11)])) (st13) ?_
  refine Go.st (S' := T13.setTop (mkF m 15 #[.val (.int p0), .val (.int p1), .val (.int p2), .unset, .unset, .unset, .unset, .unset] [(.ref b11), (.ref b11)])) (fun _ k_ => XS.dup X13.here hx rfl (hb hby at_14) rfl rfl k_) ?_
  refine Go.st (S' := T13.setTop (mkF m 16 #[.val (.int p0), .val (.int p1), .val (.int p2), .unset, .unset, .unset, .unset, .unset] [(.int (2 : Int32)), (.ref b11), (.ref b11)])) (fun _ k_ => XS.iconst X13.here hx rfl (hb hby at_15) k_) ?_
  refine Go.st (S' := T13.setTop (mkF m 18 #[.val (.int p0), .val (.int p1), .val (.int p2), .unset, .unset, .unset, .unset, .unset] [(.int (13 : Int32)), (.int (2 : Int32)), (.ref b11), (.ref b11)])) (fun _ k_ => XS.bipush X13.here hx rfl (hb hby at_16) k_) ?_
  obtain ⟨T14, h14, X14, e14, W14, A14, st14⟩ := A_b11.store X13 hx hZ e13 (j := (2 : Int32)) (by decide) (Nat.le_of_ble_eq_true rfl) (g := (mkF m 18 #[.val (.int p0), .val (.int p1), .val (.int p2), .unset, .unset, .unset, .unset, .unset] [(.int (13 : Int32)), (.int (2 : Int32)), (.ref b11), (.ref b11)])) rfl rfl (hb hby at_18)
  replace A_b11 : Ai Z h14 b11 .int [(9 : Int32), (10 : Int32), (13 : Int32), (0 : Int32), (0 : Int32), (0 : Int32), (0 : Int32), (0 : Int32), (0 : Int32), (0 : Int32), (0 : Int32), (0 : Int32), (0 : Int32), (0 : Int32), (0 : Int32), (0 : Int32)] := A14
  replace Z0 := Nat.le_trans Z0 (Keep.of_wr W14).1
  have N14 := Fr.snoc X14 N13 g_b11
  refine Go.st (S' := T14.setTop (mkF m 19 #[.val (.int p0), .val (.int p1), .val (.int p2), .unset, .unset, .unset, .unset, .unset] [(.ref b11)])) (st14) ?_
  refine Go.st (S' := T14.setTop (mkF m 20 #[.val (.int p0), .val (.int p1), .val (.int p2), .unset, .unset, .unset, .unset, .unset] [(.ref b11), (.ref b11)])) (fun _ k_ => XS.dup X14.here hx rfl (hb hby at_19) rfl rfl k_) ?_
  refine Go.st (S' := T14.setTop (mkF m 21 #[.val (.int p0), .val (.int p1), .val (.int p2), .unset, .unset, .unset, .unset, .unset] [(.int (3 : Int32)), (.ref b11), (.ref b11)])) (fun _ k_ => XS.iconst X14.here hx rfl (hb hby at_20) k_) ?_
  refine Go.st (S' := T14.setTop (mkF m 23 #[.val (.int p0), .val (.int p1), .val (.int p2), .unset, .unset, .unset, .unset, .unset] [(.int (32 : Int32)), (.int (3 : Int32)), (.ref b11), (.ref b11)])) (fun _ k_ => XS.bipush X14.here hx rfl (hb hby at_21) k_) ?_
  obtain ⟨T15, h15, X15, e15, W15, A15, st15⟩ := A_b11.store X14 hx hZ e14 (j := (3 : Int32)) (by decide) (Nat.le_of_ble_eq_true rfl) (g := (mkF m 23 #[.val (.int p0), .val (.int p1), .val (.int p2), .unset, .unset, .unset, .unset, .unset] [(.int (32 : Int32)), (.int (3 : Int32)), (.ref b11), (.ref b11)])) rfl rfl (hb hby at_23)
  replace A_b11 : Ai Z h15 b11 .int [(9 : Int32), (10 : Int32), (13 : Int32), (32 : Int32), (0 : Int32), (0 : Int32), (0 : Int32), (0 : Int32), (0 : Int32), (0 : Int32), (0 : Int32), (0 : Int32), (0 : Int32), (0 : Int32), (0 : Int32), (0 : Int32)] := A15
  replace Z0 := Nat.le_trans Z0 (Keep.of_wr W15).1
  have N15 := Fr.snoc X15 N14 g_b11
  refine Go.st (S' := T15.setTop (mkF m 24 #[.val (.int p0), .val (.int p1), .val (.int p2), .unset, .unset, .unset, .unset, .unset] [(.ref b11)])) (st15) ?_
  refine Go.st (S' := T15.setTop (mkF m 25 #[.val (.int p0), .val (.int p1), .val (.int p2), .unset, .unset, .unset, .unset, .unset] [(.ref b11), (.ref b11)])) (fun _ k_ => XS.dup X15.here hx rfl (hb hby at_24) rfl rfl k_) ?_
  refine Go.st (S' := T15.setTop (mkF m 26 #[.val (.int p0), .val (.int p1), .val (.int p2), .unset, .unset, .unset, .unset, .unset] [(.int (4 : Int32)), (.ref b11), (.ref b11)])) (fun _ k_ => XS.iconst X15.here hx rfl (hb hby at_25) k_) ?_
  refine Go.st (S' := T15.setTop (mkF m 28 #[.val (.int p0), .val (.int p1), .val (.int p2), .unset, .unset, .unset, .unset, .unset] [(.int (55295 : Int32)), (.int (4 : Int32)), (.ref b11), (.ref b11)])) (X15.ldcInt hx hown (mvT hZ (w1 hw)) (g := (mkF m 26 #[.val (.int p0), .val (.int p1), .val (.int p2), .unset, .unset, .unset, .unset, .unset] [(.int (4 : Int32)), (.ref b11), (.ref b11)])) rfl (hb hby at_26)) ?_
  obtain ⟨T16, h16, X16, e16, W16, A16, st16⟩ := A_b11.store X15 hx hZ e15 (j := (4 : Int32)) (by decide) (Nat.le_of_ble_eq_true rfl) (g := (mkF m 28 #[.val (.int p0), .val (.int p1), .val (.int p2), .unset, .unset, .unset, .unset, .unset] [(.int (55295 : Int32)), (.int (4 : Int32)), (.ref b11), (.ref b11)])) rfl rfl (hb hby at_28)
  replace A_b11 : Ai Z h16 b11 .int [(9 : Int32), (10 : Int32), (13 : Int32), (32 : Int32), (55295 : Int32), (0 : Int32), (0 : Int32), (0 : Int32), (0 : Int32), (0 : Int32), (0 : Int32), (0 : Int32), (0 : Int32), (0 : Int32), (0 : Int32), (0 : Int32)] := A16
  replace Z0 := Nat.le_trans Z0 (Keep.of_wr W16).1
  have N16 := Fr.snoc X16 N15 g_b11
  refine Go.st (S' := T16.setTop (mkF m 29 #[.val (.int p0), .val (.int p1), .val (.int p2), .unset, .unset, .unset, .unset, .unset] [(.ref b11)])) (st16) ?_
  refine Go.st (S' := T16.setTop (mkF m 30 #[.val (.int p0), .val (.int p1), .val (.int p2), .unset, .unset, .unset, .unset, .unset] [(.ref b11), (.ref b11)])) (fun _ k_ => XS.dup X16.here hx rfl (hb hby at_29) rfl rfl k_) ?_
  refine Go.st (S' := T16.setTop (mkF m 31 #[.val (.int p0), .val (.int p1), .val (.int p2), .unset, .unset, .unset, .unset, .unset] [(.int (5 : Int32)), (.ref b11), (.ref b11)])) (fun _ k_ => XS.iconst X16.here hx rfl (hb hby at_30) k_) ?_
  refine Go.st (S' := T16.setTop (mkF m 33 #[.val (.int p0), .val (.int p1), .val (.int p2), .unset, .unset, .unset, .unset, .unset] [(.int (55296 : Int32)), (.int (5 : Int32)), (.ref b11), (.ref b11)])) (X16.ldcInt hx hown (mvT hZ (w2 hw)) (g := (mkF m 31 #[.val (.int p0), .val (.int p1), .val (.int p2), .unset, .unset, .unset, .unset, .unset] [(.int (5 : Int32)), (.ref b11), (.ref b11)])) rfl (hb hby at_31)) ?_
  obtain ⟨T17, h17, X17, e17, W17, A17, st17⟩ := A_b11.store X16 hx hZ e16 (j := (5 : Int32)) (by decide) (Nat.le_of_ble_eq_true rfl) (g := (mkF m 33 #[.val (.int p0), .val (.int p1), .val (.int p2), .unset, .unset, .unset, .unset, .unset] [(.int (55296 : Int32)), (.int (5 : Int32)), (.ref b11), (.ref b11)])) rfl rfl (hb hby at_33)
  replace A_b11 : Ai Z h17 b11 .int [(9 : Int32), (10 : Int32), (13 : Int32), (32 : Int32), (55295 : Int32), (55296 : Int32), (0 : Int32), (0 : Int32), (0 : Int32), (0 : Int32), (0 : Int32), (0 : Int32), (0 : Int32), (0 : Int32), (0 : Int32), (0 : Int32)] := A17
  replace Z0 := Nat.le_trans Z0 (Keep.of_wr W17).1
  have N17 := Fr.snoc X17 N16 g_b11
  refine Go.st (S' := T17.setTop (mkF m 34 #[.val (.int p0), .val (.int p1), .val (.int p2), .unset, .unset, .unset, .unset, .unset] [(.ref b11)])) (st17) ?_
  refine Go.st (S' := T17.setTop (mkF m 35 #[.val (.int p0), .val (.int p1), .val (.int p2), .unset, .unset, .unset, .unset, .unset] [(.ref b11), (.ref b11)])) (fun _ k_ => XS.dup X17.here hx rfl (hb hby at_34) rfl rfl k_) ?_
  refine Go.st (S' := T17.setTop (mkF m 37 #[.val (.int p0), .val (.int p1), .val (.int p2), .unset, .unset, .unset, .unset, .unset] [(.int (6 : Int32)), (.ref b11), (.ref b11)])) (fun _ k_ => XS.bipush X17.here hx rfl (hb hby at_35) k_) ?_
  refine Go.st (S' := T17.setTop (mkF m 39 #[.val (.int p0), .val (.int p1), .val (.int p2), .unset, .unset, .unset, .unset, .unset] [(.int (57343 : Int32)), (.int (6 : Int32)), (.ref b11), (.ref b11)])) (X17.ldcInt hx hown (mvT hZ (w3 hw)) (g := (mkF m 37 #[.val (.int p0), .val (.int p1), .val (.int p2), .unset, .unset, .unset, .unset, .unset] [(.int (6 : Int32)), (.ref b11), (.ref b11)])) rfl (hb hby at_37)) ?_
  obtain ⟨T18, h18, X18, e18, W18, A18, st18⟩ := A_b11.store X17 hx hZ e17 (j := (6 : Int32)) (by decide) (Nat.le_of_ble_eq_true rfl) (g := (mkF m 39 #[.val (.int p0), .val (.int p1), .val (.int p2), .unset, .unset, .unset, .unset, .unset] [(.int (57343 : Int32)), (.int (6 : Int32)), (.ref b11), (.ref b11)])) rfl rfl (hb hby at_39)
  replace A_b11 : Ai Z h18 b11 .int [(9 : Int32), (10 : Int32), (13 : Int32), (32 : Int32), (55295 : Int32), (55296 : Int32), (57343 : Int32), (0 : Int32), (0 : Int32), (0 : Int32), (0 : Int32), (0 : Int32), (0 : Int32), (0 : Int32), (0 : Int32), (0 : Int32)] := A18
  replace Z0 := Nat.le_trans Z0 (Keep.of_wr W18).1
  have N18 := Fr.snoc X18 N17 g_b11
  refine Go.st (S' := T18.setTop (mkF m 40 #[.val (.int p0), .val (.int p1), .val (.int p2), .unset, .unset, .unset, .unset, .unset] [(.ref b11)])) (st18) ?_
  refine Go.st (S' := T18.setTop (mkF m 41 #[.val (.int p0), .val (.int p1), .val (.int p2), .unset, .unset, .unset, .unset, .unset] [(.ref b11), (.ref b11)])) (fun _ k_ => XS.dup X18.here hx rfl (hb hby at_40) rfl rfl k_) ?_
  refine Go.st (S' := T18.setTop (mkF m 43 #[.val (.int p0), .val (.int p1), .val (.int p2), .unset, .unset, .unset, .unset, .unset] [(.int (7 : Int32)), (.ref b11), (.ref b11)])) (fun _ k_ => XS.bipush X18.here hx rfl (hb hby at_41) k_) ?_
  refine Go.st (S' := T18.setTop (mkF m 45 #[.val (.int p0), .val (.int p1), .val (.int p2), .unset, .unset, .unset, .unset, .unset] [(.int (57344 : Int32)), (.int (7 : Int32)), (.ref b11), (.ref b11)])) (X18.ldcInt hx hown (mvT hZ (w4 hw)) (g := (mkF m 43 #[.val (.int p0), .val (.int p1), .val (.int p2), .unset, .unset, .unset, .unset, .unset] [(.int (7 : Int32)), (.ref b11), (.ref b11)])) rfl (hb hby at_43)) ?_
  obtain ⟨T19, h19, X19, e19, W19, A19, st19⟩ := A_b11.store X18 hx hZ e18 (j := (7 : Int32)) (by decide) (Nat.le_of_ble_eq_true rfl) (g := (mkF m 45 #[.val (.int p0), .val (.int p1), .val (.int p2), .unset, .unset, .unset, .unset, .unset] [(.int (57344 : Int32)), (.int (7 : Int32)), (.ref b11), (.ref b11)])) rfl rfl (hb hby at_45)
  replace A_b11 : Ai Z h19 b11 .int [(9 : Int32), (10 : Int32), (13 : Int32), (32 : Int32), (55295 : Int32), (55296 : Int32), (57343 : Int32), (57344 : Int32), (0 : Int32), (0 : Int32), (0 : Int32), (0 : Int32), (0 : Int32), (0 : Int32), (0 : Int32), (0 : Int32)] := A19
  replace Z0 := Nat.le_trans Z0 (Keep.of_wr W19).1
  have N19 := Fr.snoc X19 N18 g_b11
  refine Go.st (S' := T19.setTop (mkF m 46 #[.val (.int p0), .val (.int p1), .val (.int p2), .unset, .unset, .unset, .unset, .unset] [(.ref b11)])) (st19) ?_
  refine Go.st (S' := T19.setTop (mkF m 47 #[.val (.int p0), .val (.int p1), .val (.int p2), .unset, .unset, .unset, .unset, .unset] [(.ref b11), (.ref b11)])) (fun _ k_ => XS.dup X19.here hx rfl (hb hby at_46) rfl rfl k_) ?_
  refine Go.st (S' := T19.setTop (mkF m 49 #[.val (.int p0), .val (.int p1), .val (.int p2), .unset, .unset, .unset, .unset, .unset] [(.int (8 : Int32)), (.ref b11), (.ref b11)])) (fun _ k_ => XS.bipush X19.here hx rfl (hb hby at_47) k_) ?_
  refine Go.st (S' := T19.setTop (mkF m 51 #[.val (.int p0), .val (.int p1), .val (.int p2), .unset, .unset, .unset, .unset, .unset] [(.int (65533 : Int32)), (.int (8 : Int32)), (.ref b11), (.ref b11)])) (X19.ldcInt hx hown (mvT hZ (w5 hw)) (g := (mkF m 49 #[.val (.int p0), .val (.int p1), .val (.int p2), .unset, .unset, .unset, .unset, .unset] [(.int (8 : Int32)), (.ref b11), (.ref b11)])) rfl (hb hby at_49)) ?_
  obtain ⟨T20, h20, X20, e20, W20, A20, st20⟩ := A_b11.store X19 hx hZ e19 (j := (8 : Int32)) (by decide) (Nat.le_of_ble_eq_true rfl) (g := (mkF m 51 #[.val (.int p0), .val (.int p1), .val (.int p2), .unset, .unset, .unset, .unset, .unset] [(.int (65533 : Int32)), (.int (8 : Int32)), (.ref b11), (.ref b11)])) rfl rfl (hb hby at_51)
  replace A_b11 : Ai Z h20 b11 .int [(9 : Int32), (10 : Int32), (13 : Int32), (32 : Int32), (55295 : Int32), (55296 : Int32), (57343 : Int32), (57344 : Int32), (65533 : Int32), (0 : Int32), (0 : Int32), (0 : Int32), (0 : Int32), (0 : Int32), (0 : Int32), (0 : Int32)] := A20
  replace Z0 := Nat.le_trans Z0 (Keep.of_wr W20).1
  have N20 := Fr.snoc X20 N19 g_b11
  refine Go.st (S' := T20.setTop (mkF m 52 #[.val (.int p0), .val (.int p1), .val (.int p2), .unset, .unset, .unset, .unset, .unset] [(.ref b11)])) (st20) ?_
  refine Go.st (S' := T20.setTop (mkF m 53 #[.val (.int p0), .val (.int p1), .val (.int p2), .unset, .unset, .unset, .unset, .unset] [(.ref b11), (.ref b11)])) (fun _ k_ => XS.dup X20.here hx rfl (hb hby at_52) rfl rfl k_) ?_
  refine Go.st (S' := T20.setTop (mkF m 55 #[.val (.int p0), .val (.int p1), .val (.int p2), .unset, .unset, .unset, .unset, .unset] [(.int (9 : Int32)), (.ref b11), (.ref b11)])) (fun _ k_ => XS.bipush X20.here hx rfl (hb hby at_53) k_) ?_
  refine Go.st (S' := T20.setTop (mkF m 57 #[.val (.int p0), .val (.int p1), .val (.int p2), .unset, .unset, .unset, .unset, .unset] [(.int (65535 : Int32)), (.int (9 : Int32)), (.ref b11), (.ref b11)])) (X20.ldcInt hx hown (mvT hZ (w6 hw)) (g := (mkF m 55 #[.val (.int p0), .val (.int p1), .val (.int p2), .unset, .unset, .unset, .unset, .unset] [(.int (9 : Int32)), (.ref b11), (.ref b11)])) rfl (hb hby at_55)) ?_
  obtain ⟨T21, h21, X21, e21, W21, A21, st21⟩ := A_b11.store X20 hx hZ e20 (j := (9 : Int32)) (by decide) (Nat.le_of_ble_eq_true rfl) (g := (mkF m 57 #[.val (.int p0), .val (.int p1), .val (.int p2), .unset, .unset, .unset, .unset, .unset] [(.int (65535 : Int32)), (.int (9 : Int32)), (.ref b11), (.ref b11)])) rfl rfl (hb hby at_57)
  replace A_b11 : Ai Z h21 b11 .int [(9 : Int32), (10 : Int32), (13 : Int32), (32 : Int32), (55295 : Int32), (55296 : Int32), (57343 : Int32), (57344 : Int32), (65533 : Int32), (65535 : Int32), (0 : Int32), (0 : Int32), (0 : Int32), (0 : Int32), (0 : Int32), (0 : Int32)] := A21
  replace Z0 := Nat.le_trans Z0 (Keep.of_wr W21).1
  have N21 := Fr.snoc X21 N20 g_b11
  refine Go.st (S' := T21.setTop (mkF m 58 #[.val (.int p0), .val (.int p1), .val (.int p2), .unset, .unset, .unset, .unset, .unset] [(.ref b11)])) (st21) ?_
  refine Go.st (S' := T21.setTop (mkF m 59 #[.val (.int p0), .val (.int p1), .val (.int p2), .unset, .unset, .unset, .unset, .unset] [(.ref b11), (.ref b11)])) (fun _ k_ => XS.dup X21.here hx rfl (hb hby at_58) rfl rfl k_) ?_
  refine Go.st (S' := T21.setTop (mkF m 61 #[.val (.int p0), .val (.int p1), .val (.int p2), .unset, .unset, .unset, .unset, .unset] [(.int (10 : Int32)), (.ref b11), (.ref b11)])) (fun _ k_ => XS.bipush X21.here hx rfl (hb hby at_59) k_) ?_
  refine Go.st (S' := T21.setTop (mkF m 63 #[.val (.int p0), .val (.int p1), .val (.int p2), .unset, .unset, .unset, .unset, .unset] [(.int (65536 : Int32)), (.int (10 : Int32)), (.ref b11), (.ref b11)])) (X21.ldcInt hx hown (mvT hZ (w7 hw)) (g := (mkF m 61 #[.val (.int p0), .val (.int p1), .val (.int p2), .unset, .unset, .unset, .unset, .unset] [(.int (10 : Int32)), (.ref b11), (.ref b11)])) rfl (hb hby at_61)) ?_
  obtain ⟨T22, h22, X22, e22, W22, A22, st22⟩ := A_b11.store X21 hx hZ e21 (j := (10 : Int32)) (by decide) (Nat.le_of_ble_eq_true rfl) (g := (mkF m 63 #[.val (.int p0), .val (.int p1), .val (.int p2), .unset, .unset, .unset, .unset, .unset] [(.int (65536 : Int32)), (.int (10 : Int32)), (.ref b11), (.ref b11)])) rfl rfl (hb hby at_63)
  replace A_b11 : Ai Z h22 b11 .int [(9 : Int32), (10 : Int32), (13 : Int32), (32 : Int32), (55295 : Int32), (55296 : Int32), (57343 : Int32), (57344 : Int32), (65533 : Int32), (65535 : Int32), (65536 : Int32), (0 : Int32), (0 : Int32), (0 : Int32), (0 : Int32), (0 : Int32)] := A22
  replace Z0 := Nat.le_trans Z0 (Keep.of_wr W22).1
  have N22 := Fr.snoc X22 N21 g_b11
  refine Go.st (S' := T22.setTop (mkF m 64 #[.val (.int p0), .val (.int p1), .val (.int p2), .unset, .unset, .unset, .unset, .unset] [(.ref b11)])) (st22) ?_
  refine Go.st (S' := T22.setTop (mkF m 65 #[.val (.int p0), .val (.int p1), .val (.int p2), .unset, .unset, .unset, .unset, .unset] [(.ref b11), (.ref b11)])) (fun _ k_ => XS.dup X22.here hx rfl (hb hby at_64) rfl rfl k_) ?_
  refine Go.st (S' := T22.setTop (mkF m 67 #[.val (.int p0), .val (.int p1), .val (.int p2), .unset, .unset, .unset, .unset, .unset] [(.int (11 : Int32)), (.ref b11), (.ref b11)])) (fun _ k_ => XS.bipush X22.here hx rfl (hb hby at_65) k_) ?_
  refine Go.st (S' := T22.setTop (mkF m 69 #[.val (.int p0), .val (.int p1), .val (.int p2), .unset, .unset, .unset, .unset, .unset] [(.int (1114111 : Int32)), (.int (11 : Int32)), (.ref b11), (.ref b11)])) (X22.ldcInt hx hown (mvT hZ (w8 hw)) (g := (mkF m 67 #[.val (.int p0), .val (.int p1), .val (.int p2), .unset, .unset, .unset, .unset, .unset] [(.int (11 : Int32)), (.ref b11), (.ref b11)])) rfl (hb hby at_67)) ?_
  obtain ⟨T23, h23, X23, e23, W23, A23, st23⟩ := A_b11.store X22 hx hZ e22 (j := (11 : Int32)) (by decide) (Nat.le_of_ble_eq_true rfl) (g := (mkF m 69 #[.val (.int p0), .val (.int p1), .val (.int p2), .unset, .unset, .unset, .unset, .unset] [(.int (1114111 : Int32)), (.int (11 : Int32)), (.ref b11), (.ref b11)])) rfl rfl (hb hby at_69)
  replace A_b11 : Ai Z h23 b11 .int [(9 : Int32), (10 : Int32), (13 : Int32), (32 : Int32), (55295 : Int32), (55296 : Int32), (57343 : Int32), (57344 : Int32), (65533 : Int32), (65535 : Int32), (65536 : Int32), (1114111 : Int32), (0 : Int32), (0 : Int32), (0 : Int32), (0 : Int32)] := A23
  replace Z0 := Nat.le_trans Z0 (Keep.of_wr W23).1
  have N23 := Fr.snoc X23 N22 g_b11
  refine Go.st (S' := T23.setTop (mkF m 70 #[.val (.int p0), .val (.int p1), .val (.int p2), .unset, .unset, .unset, .unset, .unset] [(.ref b11)])) (st23) ?_
  refine Go.st (S' := T23.setTop (mkF m 71 #[.val (.int p0), .val (.int p1), .val (.int p2), .unset, .unset, .unset, .unset, .unset] [(.ref b11), (.ref b11)])) (fun _ k_ => XS.dup X23.here hx rfl (hb hby at_70) rfl rfl k_) ?_
  refine Go.st (S' := T23.setTop (mkF m 73 #[.val (.int p0), .val (.int p1), .val (.int p2), .unset, .unset, .unset, .unset, .unset] [(.int (12 : Int32)), (.ref b11), (.ref b11)])) (fun _ k_ => XS.bipush X23.here hx rfl (hb hby at_71) k_) ?_
  refine Go.st (S' := T23.setTop (mkF m 75 #[.val (.int p0), .val (.int p1), .val (.int p2), .unset, .unset, .unset, .unset, .unset] [(.int (1114112 : Int32)), (.int (12 : Int32)), (.ref b11), (.ref b11)])) (X23.ldcInt hx hown (mvT hZ (w9 hw)) (g := (mkF m 73 #[.val (.int p0), .val (.int p1), .val (.int p2), .unset, .unset, .unset, .unset, .unset] [(.int (12 : Int32)), (.ref b11), (.ref b11)])) rfl (hb hby at_73)) ?_
  obtain ⟨T24, h24, X24, e24, W24, A24, st24⟩ := A_b11.store X23 hx hZ e23 (j := (12 : Int32)) (by decide) (Nat.le_of_ble_eq_true rfl) (g := (mkF m 75 #[.val (.int p0), .val (.int p1), .val (.int p2), .unset, .unset, .unset, .unset, .unset] [(.int (1114112 : Int32)), (.int (12 : Int32)), (.ref b11), (.ref b11)])) rfl rfl (hb hby at_75)
  replace A_b11 : Ai Z h24 b11 .int [(9 : Int32), (10 : Int32), (13 : Int32), (32 : Int32), (55295 : Int32), (55296 : Int32), (57343 : Int32), (57344 : Int32), (65533 : Int32), (65535 : Int32), (65536 : Int32), (1114111 : Int32), (1114112 : Int32), (0 : Int32), (0 : Int32), (0 : Int32)] := A24
  replace Z0 := Nat.le_trans Z0 (Keep.of_wr W24).1
  have N24 := Fr.snoc X24 N23 g_b11
  refine Go.st (S' := T24.setTop (mkF m 76 #[.val (.int p0), .val (.int p1), .val (.int p2), .unset, .unset, .unset, .unset, .unset] [(.ref b11)])) (st24) ?_
  refine Go.st (S' := T24.setTop (mkF m 77 #[.val (.int p0), .val (.int p1), .val (.int p2), .unset, .unset, .unset, .unset, .unset] [(.ref b11), (.ref b11)])) (fun _ k_ => XS.dup X24.here hx rfl (hb hby at_76) rfl rfl k_) ?_
  refine Go.st (S' := T24.setTop (mkF m 79 #[.val (.int p0), .val (.int p1), .val (.int p2), .unset, .unset, .unset, .unset, .unset] [(.int (13 : Int32)), (.ref b11), (.ref b11)])) (fun _ k_ => XS.bipush X24.here hx rfl (hb hby at_77) k_) ?_
  refine Go.st (S' := T24.setTop (mkF m 80 #[.val (.int p0), .val (.int p1), .val (.int p2), .unset, .unset, .unset, .unset, .unset] [(.int (0 : Int32)), (.int (13 : Int32)), (.ref b11), (.ref b11)])) (fun _ k_ => XS.iconst X24.here hx rfl (hb hby at_79) k_) ?_
  obtain ⟨T25, h25, X25, e25, W25, A25, st25⟩ := A_b11.store X24 hx hZ e24 (j := (13 : Int32)) (by decide) (Nat.le_of_ble_eq_true rfl) (g := (mkF m 80 #[.val (.int p0), .val (.int p1), .val (.int p2), .unset, .unset, .unset, .unset, .unset] [(.int (0 : Int32)), (.int (13 : Int32)), (.ref b11), (.ref b11)])) rfl rfl (hb hby at_80)
  replace A_b11 : Ai Z h25 b11 .int [(9 : Int32), (10 : Int32), (13 : Int32), (32 : Int32), (55295 : Int32), (55296 : Int32), (57343 : Int32), (57344 : Int32), (65533 : Int32), (65535 : Int32), (65536 : Int32), (1114111 : Int32), (1114112 : Int32), (0 : Int32), (0 : Int32), (0 : Int32)] := A25
  replace Z0 := Nat.le_trans Z0 (Keep.of_wr W25).1
  have N25 := Fr.snoc X25 N24 g_b11
  refine Go.st (S' := T25.setTop (mkF m 81 #[.val (.int p0), .val (.int p1), .val (.int p2), .unset, .unset, .unset, .unset, .unset] [(.ref b11)])) (st25) ?_
  refine Go.st (S' := T25.setTop (mkF m 82 #[.val (.int p0), .val (.int p1), .val (.int p2), .unset, .unset, .unset, .unset, .unset] [(.ref b11), (.ref b11)])) (fun _ k_ => XS.dup X25.here hx rfl (hb hby at_81) rfl rfl k_) ?_
  refine Go.st (S' := T25.setTop (mkF m 84 #[.val (.int p0), .val (.int p1), .val (.int p2), .unset, .unset, .unset, .unset, .unset] [(.int (14 : Int32)), (.ref b11), (.ref b11)])) (fun _ k_ => XS.bipush X25.here hx rfl (hb hby at_82) k_) ?_
  refine Go.st (S' := T25.setTop (mkF m 86 #[.val (.int p0), .val (.int p1), .val (.int p2), .unset, .unset, .unset, .unset, .unset] [(.int (-2147483648 : Int32)), (.int (14 : Int32)), (.ref b11), (.ref b11)])) (X25.ldcInt hx hown (mvT hZ (w10 hw)) (g := (mkF m 84 #[.val (.int p0), .val (.int p1), .val (.int p2), .unset, .unset, .unset, .unset, .unset] [(.int (14 : Int32)), (.ref b11), (.ref b11)])) rfl (hb hby at_84)) ?_
  obtain ⟨T26, h26, X26, e26, W26, A26, st26⟩ := A_b11.store X25 hx hZ e25 (j := (14 : Int32)) (by decide) (Nat.le_of_ble_eq_true rfl) (g := (mkF m 86 #[.val (.int p0), .val (.int p1), .val (.int p2), .unset, .unset, .unset, .unset, .unset] [(.int (-2147483648 : Int32)), (.int (14 : Int32)), (.ref b11), (.ref b11)])) rfl rfl (hb hby at_86)
  replace A_b11 : Ai Z h26 b11 .int [(9 : Int32), (10 : Int32), (13 : Int32), (32 : Int32), (55295 : Int32), (55296 : Int32), (57343 : Int32), (57344 : Int32), (65533 : Int32), (65535 : Int32), (65536 : Int32), (1114111 : Int32), (1114112 : Int32), (0 : Int32), (-2147483648 : Int32), (0 : Int32)] := A26
  replace Z0 := Nat.le_trans Z0 (Keep.of_wr W26).1
  have N26 := Fr.snoc X26 N25 g_b11
  refine Go.st (S' := T26.setTop (mkF m 87 #[.val (.int p0), .val (.int p1), .val (.int p2), .unset, .unset, .unset, .unset, .unset] [(.ref b11)])) (st26) ?_
  refine Go.st (S' := T26.setTop (mkF m 88 #[.val (.int p0), .val (.int p1), .val (.int p2), .unset, .unset, .unset, .unset, .unset] [(.ref b11), (.ref b11)])) (fun _ k_ => XS.dup X26.here hx rfl (hb hby at_87) rfl rfl k_) ?_
  refine Go.st (S' := T26.setTop (mkF m 90 #[.val (.int p0), .val (.int p1), .val (.int p2), .unset, .unset, .unset, .unset, .unset] [(.int (15 : Int32)), (.ref b11), (.ref b11)])) (fun _ k_ => XS.bipush X26.here hx rfl (hb hby at_88) k_) ?_
  refine Go.st (S' := T26.setTop (mkF m 92 #[.val (.int p0), .val (.int p1), .val (.int p2), .unset, .unset, .unset, .unset, .unset] [(.int (2147483647 : Int32)), (.int (15 : Int32)), (.ref b11), (.ref b11)])) (X26.ldcInt hx hown (mvT hZ (w11 hw)) (g := (mkF m 90 #[.val (.int p0), .val (.int p1), .val (.int p2), .unset, .unset, .unset, .unset, .unset] [(.int (15 : Int32)), (.ref b11), (.ref b11)])) rfl (hb hby at_90)) ?_
  obtain ⟨T27, h27, X27, e27, W27, A27, st27⟩ := A_b11.store X26 hx hZ e26 (j := (15 : Int32)) (by decide) (Nat.le_of_ble_eq_true rfl) (g := (mkF m 92 #[.val (.int p0), .val (.int p1), .val (.int p2), .unset, .unset, .unset, .unset, .unset] [(.int (2147483647 : Int32)), (.int (15 : Int32)), (.ref b11), (.ref b11)])) rfl rfl (hb hby at_92)
  replace A_b11 : Ai Z h27 b11 .int [(9 : Int32), (10 : Int32), (13 : Int32), (32 : Int32), (55295 : Int32), (55296 : Int32), (57343 : Int32), (57344 : Int32), (65533 : Int32), (65535 : Int32), (65536 : Int32), (1114111 : Int32), (1114112 : Int32), (0 : Int32), (-2147483648 : Int32), (2147483647 : Int32)] := A27
  replace Z0 := Nat.le_trans Z0 (Keep.of_wr W27).1
  have N27 := Fr.snoc X27 N26 g_b11
  refine Go.st (S' := T27.setTop (mkF m 93 #[.val (.int p0), .val (.int p1), .val (.int p2), .unset, .unset, .unset, .unset, .unset] [(.ref b11)])) (st27) ?_
  refine Go.st (S' := T27.setTop (mkF m 94 #[.val (.int p0), .val (.int p1), .val (.int p2), .val (.ref b11), .unset, .unset, .unset, .unset] [])) (fun _ k_ => XS.astoreN X27.here hx rfl (hb hby at_93) rfl rfl (l' := #[.val (.int p0), .val (.int p1), .val (.int p2), .val (.ref b11), .unset, .unset, .unset, .unset]) rfl k_) ?_
  refine Go.st (S' := T27.setTop (mkF m 95 #[.val (.int p0), .val (.int p1), .val (.int p2), .val (.ref b11), .unset, .unset, .unset, .unset] [(.int p1)])) (fun _ k_ => XS.iloadN X27.here hx rfl (hb hby at_94) rfl k_) ?_
  refine Go.st (S' := T27.setTop (mkF m 97 #[.val (.int p0), .val (.int p1), .val (.int p2), .val (.ref b11), .unset, .unset, .unset, .unset] [(.int (2147483647 : Int32)), (.int p1)])) (X27.ldcInt hx hown (mvT hZ (w11 hw)) (g := (mkF m 95 #[.val (.int p0), .val (.int p1), .val (.int p2), .val (.ref b11), .unset, .unset, .unset, .unset] [(.int p1)])) rfl (hb hby at_95)) ?_
  refine Go.st (S' := T27.setTop (mkF m 98 #[.val (.int p0), .val (.int p1), .val (.int p2), .val (.ref b11), .unset, .unset, .unset, .unset] [(.int (p1 &&& (2147483647 : Int32)))])) (fun _ k_ => XS.iand X27.here hx rfl (hb hby at_97) rfl k_) ?_
  refine Go.st (S' := T27.setTop (mkF m 100 #[.val (.int p0), .val (.int p1), .val (.int p2), .val (.ref b11), .unset, .unset, .unset, .unset] [(.int (16 : Int32)), (.int (p1 &&& (2147483647 : Int32)))])) (fun _ k_ => XS.bipush X27.here hx rfl (hb hby at_98) k_) ?_
  refine Go.st (S' := T27.setTop (mkF m 101 #[.val (.int p0), .val (.int p1), .val (.int p2), .val (.ref b11), .unset, .unset, .unset, .unset] [(.int ((p1 &&& (2147483647 : Int32)) % (16 : Int32)))])) (fun _ k_ => iremM X27 hx rfl (hb hby at_100) rfl (by decide) k_) ?_
  have jr := own_mod p1 16 (by decide)
  obtain ⟨j, q_j⟩ : ∃ z : Int32, z = ((p1 &&& (2147483647 : Int32)) % (16 : Int32)) := ⟨_, rfl⟩
  rw [← q_j]
  rw [← q_j, show (16 : Int32).toInt = 16 from rfl] at jr
  refine Go.st (S' := T27.setTop (mkF m 103 #[.val (.int p0), .val (.int p1), .val (.int p2), .val (.ref b11), .val (.int j), .unset, .unset, .unset] [])) (fun _ k_ => XS.istore X27.here hx rfl (hb hby at_101) rfl (l' := #[.val (.int p0), .val (.int p1), .val (.int p2), .val (.ref b11), .val (.int j), .unset, .unset, .unset]) rfl k_) ?_
  refine Go.st (S' := T27.setTop (mkF m 104 #[.val (.int p0), .val (.int p1), .val (.int p2), .val (.ref b11), .val (.int j), .unset, .unset, .unset] [(.ref b11)])) (fun _ k_ => XS.aloadN X27.here hx rfl (hb hby at_103) rfl rfl k_) ?_
  refine Go.st (S' := T27.setTop (mkF m 106 #[.val (.int p0), .val (.int p1), .val (.int p2), .val (.ref b11), .val (.int j), .unset, .unset, .unset] [(.int j), (.ref b11)])) (fun _ k_ => XS.iload X27.here hx rfl (hb hby at_104) rfl k_) ?_
  obtain ⟨ev, hev⟩ := own_at (xs := [(9 : Int32), (10 : Int32), (13 : Int32), (32 : Int32), (55295 : Int32), (55296 : Int32), (57343 : Int32), (57344 : Int32), (65533 : Int32), (65535 : Int32), (65536 : Int32), (1114111 : Int32), (1114112 : Int32), (0 : Int32), (-2147483648 : Int32), (2147483647 : Int32)]) (own_nat (k := 16) jr.1 jr.2)
  refine Go.st (S' := T27.setTop (mkF m 107 #[.val (.int p0), .val (.int p1), .val (.int p2), .val (.ref b11), .val (.int j), .unset, .unset, .unset] [(.int ev)])) (A_b11.load X27 hx hZ e27 (j := j) (v := ev) (own_nn jr.1) hev (g := (mkF m 106 #[.val (.int p0), .val (.int p1), .val (.int p2), .val (.ref b11), .val (.int j), .unset, .unset, .unset] [(.int j), (.ref b11)])) rfl rfl (hb hby at_106)) ?_
  refine Go.st (S' := T27.setTop (mkF m 108 #[.val (.int p0), .val (.int p1), .val (.int p2), .val (.ref b11), .val (.int j), .unset, .unset, .unset] [(.int p2), (.int ev)])) (fun _ k_ => XS.iloadN X27.here hx rfl (hb hby at_107) rfl k_) ?_
  refine Go.st (S' := T27.setTop (mkF m 109 #[.val (.int p0), .val (.int p1), .val (.int p2), .val (.ref b11), .val (.int j), .unset, .unset, .unset] [(.int (3 : Int32)), (.int p2), (.int ev)])) (fun _ k_ => XS.iconst X27.here hx rfl (hb hby at_108) k_) ?_
  refine Go.st (S' := T27.setTop (mkF m 110 #[.val (.int p0), .val (.int p1), .val (.int p2), .val (.ref b11), .val (.int j), .unset, .unset, .unset] [(.int (p2 &&& (3 : Int32))), (.int ev)])) (fun _ k_ => XS.iand X27.here hx rfl (hb hby at_109) rfl k_) ?_
  refine Go.st (S' := T27.setTop (mkF m 111 #[.val (.int p0), .val (.int p1), .val (.int p2), .val (.ref b11), .val (.int j), .unset, .unset, .unset] [(.int (1 : Int32)), (.int (p2 &&& (3 : Int32))), (.int ev)])) (fun _ k_ => XS.iconst X27.here hx rfl (hb hby at_110) k_) ?_
  refine Go.st (S' := T27.setTop (mkF m 112 #[.val (.int p0), .val (.int p1), .val (.int p2), .val (.ref b11), .val (.int j), .unset, .unset, .unset] [(.int ((p2 &&& (3 : Int32)) - (1 : Int32))), (.int ev)])) (fun _ k_ => XS.isub X27.here hx rfl (hb hby at_111) rfl k_) ?_
  refine Go.st (S' := T27.setTop (mkF m 113 #[.val (.int p0), .val (.int p1), .val (.int p2), .val (.ref b11), .val (.int j), .unset, .unset, .unset] [(.int (ev + ((p2 &&& (3 : Int32)) - (1 : Int32))))])) (fun _ k_ => XS.iadd X27.here hx rfl (hb hby at_112) rfl k_) ?_
  obtain ⟨y, q_y⟩ : ∃ z : Int32, z = (ev + ((p2 &&& (3 : Int32)) - (1 : Int32))) := ⟨_, rfl⟩
  rw [← q_y]
  refine Go.st (S' := T27.setTop (mkF m 115 #[.val (.int p0), .val (.int p1), .val (.int p2), .val (.ref b11), .val (.int j), .val (.int y), .unset, .unset] [])) (fun _ k_ => XS.istore X27.here hx rfl (hb hby at_113) rfl (l' := #[.val (.int p0), .val (.int p1), .val (.int p2), .val (.ref b11), .val (.int j), .val (.int y), .unset, .unset]) rfl k_) ?_
  refine Go.st (S' := T27.setTop (mkF m 116 #[.val (.int p0), .val (.int p1), .val (.int p2), .val (.ref b11), .val (.int j), .val (.int y), .unset, .unset] [(.int p0)])) (fun _ k_ => XS.iloadN X27.here hx rfl (hb hby at_115) rfl k_) ?_
  obtain ⟨v28, T28, h28, L28, X28, e28, hQ28, st28⟩ := callSt X27 hx hZ hown (w12 hw) (w13 hw) (w14 hw) (w15 hw) (by decide) (W := 0) (argsL := [(.int p0)]) (rest := []) e27 (rm1 l Z a0 hw p0 h27 n0 Z0) (by decide) (by decide) pd0 rfl (g := (mkF m 116 #[.val (.int p0), .val (.int p1), .val (.int p2), .val (.ref b11), .val (.int j), .val (.int y), .unset, .unset] [(.int p0)])) rfl (by rw [hml]; rfl) rfl (by show 2 * 0 + _ ≤ _; exact Nat.le_of_eq rfl) (hb hby at_116) (by decide) (by decide)
  obtain ⟨rfl, Nq28, hh28⟩ := hQ28
  rw [hh28] at e28
  have N28 := Fr.app N27 Nq28
  refine Go.st (S' := T28.setTop (mkF m 119 #[.val (.int p0), .val (.int p1), .val (.int p2), .val (.ref b11), .val (.int j), .val (.int y), .unset, .unset] [(.int (if XC0 p0 then (1 : Int32) else (0 : Int32)))])) (st28) ?_
  refine Go.st (S' := T28.setTop (mkF m 120 #[.val (.int p0), .val (.int p1), .val (.int p2), .val (.ref b11), .val (.int j), .val (.int y), .unset, .unset] [(.int p0), (.int (if XC0 p0 then (1 : Int32) else (0 : Int32)))])) (fun _ k_ => XS.iloadN X28.here hx rfl (hb hby at_119) rfl k_) ?_
  obtain ⟨v29, T29, h29, L29, X29, e29, hQ29, st29⟩ := callSt X28 hx hZ hown (w18 hw) (w19 hw) (w20 hw) (w21 hw) (by decide) (W := 1) (argsL := [(.int p0)]) (rest := [(.int (if XC0 p0 then (1 : Int32) else (0 : Int32)))]) e28 (rm2 l Z a0 hw p0 h27 n0 Z0) (by decide) (by decide) pd0 rfl (g := (mkF m 120 #[.val (.int p0), .val (.int p1), .val (.int p2), .val (.ref b11), .val (.int j), .val (.int y), .unset, .unset] [(.int p0), (.int (if XC0 p0 then (1 : Int32) else (0 : Int32)))])) rfl (by rw [hml]; rfl) rfl (by show 2 * 0 + _ ≤ _; exact Nat.le_of_eq rfl) (hb hby at_120) (by decide) (by decide)
  obtain ⟨rfl, Nq29, hh29⟩ := hQ29
  rw [hh29] at e29
  have N29 := Fr.app N28 Nq29
  refine Go.st (S' := T29.setTop (mkF m 123 #[.val (.int p0), .val (.int p1), .val (.int p2), .val (.ref b11), .val (.int j), .val (.int y), .unset, .unset] [(.int (if XC0 p0 then (1 : Int32) else (0 : Int32))), (.int (if XC0 p0 then (1 : Int32) else (0 : Int32)))])) (st29) ?_
  refine Go.st (S' := T29.setTop (mkF m 126 #[.val (.int p0), .val (.int p1), .val (.int p2), .val (.ref b11), .val (.int j), .val (.int y), .unset, .unset] [])) (fun _ k_ => XS.icmpNo X29.here hx rfl (hb hby at_123) rfl (teq (rfl : (if XC0 p0 then (1 : Int32) else (0 : Int32)) = (if XC0 p0 then (1 : Int32) else (0 : Int32)))).2 k_) ?_
  refine Go.st (S' := T29.setTop (mkF m 127 #[.val (.int p0), .val (.int p1), .val (.int p2), .val (.ref b11), .val (.int j), .val (.int y), .unset, .unset] [(.int (1 : Int32))])) (fun _ k_ => XS.iconst X29.here hx rfl (hb hby at_126) k_) ?_
  refine Go.st (S' := T29.setTop (mkF m 131 #[.val (.int p0), .val (.int p1), .val (.int p2), .val (.ref b11), .val (.int j), .val (.int y), .unset, .unset] [(.int (1 : Int32))])) (fun _ k_ => XS.goto X29.here hx rfl (pc0 := 127) (pc' := 131) rfl (hb hby at_127) (by decide) (by decide) k_) ?_
  refine Go.st (S' := T29.setTop (mkF m 133 #[.val (.int p0), .val (.int p1), .val (.int p2), .val (.ref b11), .val (.int j), .val (.int y), .val (.int (1 : Int32)), .unset] [])) (fun _ k_ => XS.istore X29.here hx rfl (hb hby at_131) rfl (l' := #[.val (.int p0), .val (.int p1), .val (.int p2), .val (.ref b11), .val (.int j), .val (.int y), .val (.int (1 : Int32)), .unset]) rfl k_) ?_
  refine Go.st (S' := T29.setTop (mkF m 135 #[.val (.int p0), .val (.int p1), .val (.int p2), .val (.ref b11), .val (.int j), .val (.int y), .val (.int (1 : Int32)), .unset] [(.int y)])) (fun _ k_ => XS.iload X29.here hx rfl (hb hby at_133) rfl k_) ?_
  obtain ⟨v30, T30, h30, L30, X30, e30, hQ30, st30⟩ := callSt X29 hx hZ hown (w12 hw) (w13 hw) (w14 hw) (w15 hw) (by decide) (W := 0) (argsL := [(.int y)]) (rest := []) e29 (rm1 l Z a0 hw y h27 n0 Z0) (by decide) (by decide) pd0 rfl (g := (mkF m 135 #[.val (.int p0), .val (.int p1), .val (.int p2), .val (.ref b11), .val (.int j), .val (.int y), .val (.int (1 : Int32)), .unset] [(.int y)])) rfl (by rw [hml]; rfl) rfl (by show 2 * 0 + _ ≤ _; exact Nat.le_of_eq rfl) (hb hby at_135) (by decide) (by decide)
  obtain ⟨rfl, Nq30, hh30⟩ := hQ30
  rw [hh30] at e30
  have N30 := Fr.app N29 Nq30
  refine Go.st (S' := T30.setTop (mkF m 138 #[.val (.int p0), .val (.int p1), .val (.int p2), .val (.ref b11), .val (.int j), .val (.int y), .val (.int (1 : Int32)), .unset] [(.int (if XC0 y then (1 : Int32) else (0 : Int32)))])) (st30) ?_
  refine Go.st (S' := T30.setTop (mkF m 140 #[.val (.int p0), .val (.int p1), .val (.int p2), .val (.ref b11), .val (.int j), .val (.int y), .val (.int (1 : Int32)), .unset] [(.int y), (.int (if XC0 y then (1 : Int32) else (0 : Int32)))])) (fun _ k_ => XS.iload X30.here hx rfl (hb hby at_138) rfl k_) ?_
  obtain ⟨v31, T31, h31, L31, X31, e31, hQ31, st31⟩ := callSt X30 hx hZ hown (w18 hw) (w19 hw) (w20 hw) (w21 hw) (by decide) (W := 1) (argsL := [(.int y)]) (rest := [(.int (if XC0 y then (1 : Int32) else (0 : Int32)))]) e30 (rm2 l Z a0 hw y h27 n0 Z0) (by decide) (by decide) pd0 rfl (g := (mkF m 140 #[.val (.int p0), .val (.int p1), .val (.int p2), .val (.ref b11), .val (.int j), .val (.int y), .val (.int (1 : Int32)), .unset] [(.int y), (.int (if XC0 y then (1 : Int32) else (0 : Int32)))])) rfl (by rw [hml]; rfl) rfl (by show 2 * 0 + _ ≤ _; exact Nat.le_of_eq rfl) (hb hby at_140) (by decide) (by decide)
  obtain ⟨rfl, Nq31, hh31⟩ := hQ31
  rw [hh31] at e31
  have N31 := Fr.app N30 Nq31
  refine Go.st (S' := T31.setTop (mkF m 143 #[.val (.int p0), .val (.int p1), .val (.int p2), .val (.ref b11), .val (.int j), .val (.int y), .val (.int (1 : Int32)), .unset] [(.int (if XC0 y then (1 : Int32) else (0 : Int32))), (.int (if XC0 y then (1 : Int32) else (0 : Int32)))])) (st31) ?_
  refine Go.st (S' := T31.setTop (mkF m 146 #[.val (.int p0), .val (.int p1), .val (.int p2), .val (.ref b11), .val (.int j), .val (.int y), .val (.int (1 : Int32)), .unset] [])) (fun _ k_ => XS.icmpNo X31.here hx rfl (hb hby at_143) rfl (teq (rfl : (if XC0 y then (1 : Int32) else (0 : Int32)) = (if XC0 y then (1 : Int32) else (0 : Int32)))).2 k_) ?_
  refine Go.st (S' := T31.setTop (mkF m 147 #[.val (.int p0), .val (.int p1), .val (.int p2), .val (.ref b11), .val (.int j), .val (.int y), .val (.int (1 : Int32)), .unset] [(.int (1 : Int32))])) (fun _ k_ => XS.iconst X31.here hx rfl (hb hby at_146) k_) ?_
  refine Go.st (S' := T31.setTop (mkF m 151 #[.val (.int p0), .val (.int p1), .val (.int p2), .val (.ref b11), .val (.int j), .val (.int y), .val (.int (1 : Int32)), .unset] [(.int (1 : Int32))])) (fun _ k_ => XS.goto X31.here hx rfl (pc0 := 147) (pc' := 151) rfl (hb hby at_147) (by decide) (by decide) k_) ?_
  refine Go.st (S' := T31.setTop (mkF m 153 #[.val (.int p0), .val (.int p1), .val (.int p2), .val (.ref b11), .val (.int j), .val (.int y), .val (.int (1 : Int32)), .val (.int (1 : Int32))] [])) (fun _ k_ => XS.istore X31.here hx rfl (hb hby at_151) rfl (l' := #[.val (.int p0), .val (.int p1), .val (.int p2), .val (.ref b11), .val (.int j), .val (.int y), .val (.int (1 : Int32)), .val (.int (1 : Int32))]) rfl k_) ?_
  refine Go.st (S' := T31.setTop (mkF m 155 #[.val (.int p0), .val (.int p1), .val (.int p2), .val (.ref b11), .val (.int j), .val (.int y), .val (.int (1 : Int32)), .val (.int (1 : Int32))] [(.int (1 : Int32))])) (fun _ k_ => XS.iload X31.here hx rfl (hb hby at_153) rfl k_) ?_
  refine Go.st (S' := T31.setTop (mkF m 158 #[.val (.int p0), .val (.int p1), .val (.int p2), .val (.ref b11), .val (.int j), .val (.int y), .val (.int (1 : Int32)), .val (.int (1 : Int32))] [])) (fun _ k_ => XS.ifNo X31.here hx rfl (hb hby at_155) rfl ((if0 _ _).trans (feq (by decide)).1) k_) ?_
  refine Go.st (S' := T31.setTop (mkF m 160 #[.val (.int p0), .val (.int p1), .val (.int p2), .val (.ref b11), .val (.int j), .val (.int y), .val (.int (1 : Int32)), .val (.int (1 : Int32))] [(.int (1 : Int32))])) (fun _ k_ => XS.iload X31.here hx rfl (hb hby at_158) rfl k_) ?_
  refine Go.st (S' := T31.setTop (mkF m 163 #[.val (.int p0), .val (.int p1), .val (.int p2), .val (.ref b11), .val (.int j), .val (.int y), .val (.int (1 : Int32)), .val (.int (1 : Int32))] [])) (fun _ k_ => XS.ifNo X31.here hx rfl (hb hby at_160) rfl ((if0 _ _).trans (feq (by decide)).1) k_) ?_
  refine Go.st (S' := T31.setTop (mkF m 164 #[.val (.int p0), .val (.int p1), .val (.int p2), .val (.ref b11), .val (.int j), .val (.int y), .val (.int (1 : Int32)), .val (.int (1 : Int32))] [(.int (1 : Int32))])) (fun _ k_ => XS.iconst X31.here hx rfl (hb hby at_163) k_) ?_
  refine Go.st (S' := T31.setTop (mkF m 168 #[.val (.int p0), .val (.int p1), .val (.int p2), .val (.ref b11), .val (.int j), .val (.int y), .val (.int (1 : Int32)), .val (.int (1 : Int32))] [(.int (1 : Int32))])) (fun _ k_ => XS.goto X31.here hx rfl (pc0 := 164) (pc' := 168) rfl (hb hby at_164) (by decide) (by decide) k_) ?_
  exact Go.retN X31 hx (t := .boolean) hret (by simp) hlk (hb hby at_168) (by decide) (by decide) ⟨rfl, N31⟩
set_option maxRecDepth 65536 in
set_option maxHeartbeats 40000000 in
theorem comes_1 {Post : Tables → Env → Array Value → State → Outcome → State → Prop} (hpost : ∀ tb e args s v u, (limb_1_1.after args s (.returned v) u = true ∧ limb_1_2.after args s (.returned v) u = true ∧ True) → FrameEnd s (.returned v) u (Jvm.fieldLocs frame_1_writes args s ++ Jvm.arrayLocs frame_1_arrays args s ++ Jvm.staticLocs frame_1_statics s) 16 128 → Post tb e args s (.returned v) u) :
    ArmFor flags0 classFile x code maxLocals ret World_1 tables_1 room_1 Calls_1 rest_1 Pre_1 Post := by
  intro l hfl _ _ p e ha hc hk s m args below hf hA hF happ hP
  obtain ⟨hcalls, hrest, hpre⟩ := hP
  obtain ⟨-, -, -, hnamed, -, -, -, hat⟩ := (Spec.applies_iff hf).mp happ
  obtain ⟨hg, hn⟩ := and_e (Cond.before_iff.mp (show (Jvm.Cond.and given_1 narrow_1).before args s = true from hpre))
  obtain ⟨g1, g2⟩ := and_e hg
  obtain ⟨g3, g4⟩ := and_e g2
  obtain ⟨g5, g6⟩ := and_e g4
  obtain ⟨u0, u1, u2, rfl⟩ : ∃ u0 u1 u2 : Value, args = #[u0, u1, u2] := by
    have hs : args.size = 3 := by simpa [Cond.value, given_1] using g1
    obtain ⟨L⟩ := args
    match L, hs with
    | [u0, u1, u2], _ => exact ⟨u0, u1, u2, rfl⟩
  have hw := fun d (hd : d ∈ tables_1) => atoms_spec (ws := Jvm.Cond.code x code maxLocals ret :: tables_1) hat d (List.mem_cons_of_mem _ hd)
  obtain ⟨i0, ei0⟩ := is_v g3
  obtain rfl : u0 = (.int i0) := Option.some.inj ei0
  obtain ⟨i1, ei1⟩ := is_v g5
  obtain rfl : u1 = (.int i1) := Option.some.inj ei1
  obtain ⟨i2, ei2⟩ := is_v g6
  obtain rfl : u2 = (.int i2) := Option.some.inj ei2
  obtain ⟨n, o, h1, h2, h3, v, L, rfl, ⟨hv, N⟩, hq⟩ := rm0 l s _ hw tables_1 i0 i1 i2 s.heap s.heap.size (Nat.le_refl _) p e ha hc hk s m _ below hf ((Spec.applies_iff_loose hf).mp happ).1 ⟨rfl, State.Warmed39.refl s, rfl⟩ trivial
  subst hv
  refine ⟨n, _, h1, h2, h3, hpost _ _ _ _ _ _ ⟨Cond.after_iff.mpr rfl, Cond.after_iff.mpr (eq_i res_at (Term.int_eval (1)) rfl), trivial⟩ ⟨hq.1, hq.2.1, (hq.2.2.sift fun y hy => Or.inr (N y hy)).mono (by decide) (by decide)⟩⟩
theorem main_1_1 : Claimed_1_1 := comes_1 fun _ _ _ _ _ _ h hF => ⟨h.1, hF⟩
theorem main_1_2 : Claimed_1_2 := comes_1 fun _ _ _ _ _ _ h hF => ⟨h.2.1, hF⟩
end Jvm.Pilot.@@N@@
namespace Jvm.Pilot.@@N@@
open Jvm Jvm.ClassFile Sem Op Lib Jvm.Free Jvm.Stand Jvm.Pilot.@@N@@.Jvm.D
/-! MADE BY PROGRAM (witnessworld.py) out of the Statement's table words and the real class files: 9 classes; the members and pool entries that the words name. The judged class is class 1, her method 2. -/
namespace start1
open Jvm.ClassFile
def u (s : String) : CpInfo := .utf8 (stringToUtf16 s)
/-- a pool by its gaps: so many unusable entries, then the entry; so many at the end -/
def gap : Nat → List CpInfo → List CpInfo
  | 0, r => r
  | n + 1, r => .unusable :: gap n r
def poolList (es : List (Nat × CpInfo)) (last : Nat) : List CpInfo := es.foldr (fun e r => gap e.1 (e.2 :: r)) (gap last [])
def pool (es : List (Nat × CpInfo)) (last : Nat) : Array CpInfo := ⟨poolList es last⟩
def fileOf (pool : Array CpInfo) (this : Nat) (attrs : Array Attribute := #[]) (ms : Array MethodInfo := #[]) (fl : Nat := 33) (sup : Nat := 0) (ifs : Array Nat := #[]) (fds : Array FieldInfo := #[]) : ClassFile where
  minorVersion := 0
  majorVersion := 65
  constantPool := pool
  accessFlags := fl
  thisClass := this
  superClass := sup
  interfaces := ifs
  fields := fds
  methods := ms
  attributes := attrs
def plain (name : String) (sup : Option ClassId) : Class where
  name := name
  kind := .ordinary
  loader := none
  accessFlags := 33
  super := sup
  interfaces := #[]
  cf := none
  fields := #[]
  methods := #[]
  instanceTypes := #[]
  staticTypes := #[]
  resolved := #[]
  callSites := []
  init := .initialized
  statics := none
  mirror := none

def pool0 : Array CpInfo := pool [(5, u "<init>"), (0, u "()V"), (1, .class_ 10), (1, u "java/lang/Object")] 113

def k0m0 : Method := { name := "<init>", desc := "()V", sig := { parameters := [], returnType := none }, accessFlags := 1, code := none }
/-- java/lang/Object -/
def k0 : Class := { plain "java/lang/Object" none with
  accessFlags := 33
  interfaces := #[]
  cf := some (fileOf pool0 8 #[] #[{ accessFlags := 1, nameIndex := 5, descriptorIndex := 6, attributes := #[] }] 33 0 #[] #[])
  fields := #[]
  methods := #[k0m0]
  instanceTypes := #[]
  staticTypes := #[]
  resolved := Array.replicate 124 none
  statics := none }

def pool1 : Array CpInfo := pool [(2, .class_ 4), (1, u "java/lang/Object"), (0, u "<init>"), (0, u "()V"), (0, .integer 1114111), (0, .integer 55296), (0, .integer 57343), (0, .integer 65534), (0, .integer 65535), (0, .integer 55295), (0, .integer 57344), (0, .integer 65533), (0, .integer 65536), (0, .integer 1114112), (2, .integer 2147483648), (0, .integer 2147483647), (0, .methodref 22 23), (0, .class_ 24), (0, .nameAndType 25 26), (0, u "com/example/quillon/quillon/model/XmlChars"), (0, u "isXmlChar"), (0, u "(I)Z"), (0, .methodref 28 29), (0, .class_ 30), (0, .nameAndType 31 26), (0, u "com/example/quillon/quillon/model/XmlCharsIsXmlCharPinLaw"), (0, u "reference"), (3, u "law"), (0, u "(III)Z")] 4

def k1m0 : Method := { name := "<init>", desc := "()V", sig := { parameters := [], returnType := none }, accessFlags := 2, code := none }
def k1c1 : Code := { maxStack := 2, maxLocals := 1, code := method_2_code, exceptionTable := #[], attributes := #[] }
def k1m1 : Method := { name := "reference", desc := "(I)Z", sig := { parameters := [.int], returnType := some .boolean }, accessFlags := 10, code := some k1c1 }
def k1c2 : Code := { maxStack := 4, maxLocals := 8, code := code, exceptionTable := #[], attributes := #[] }
def k1m2 : Method := { name := "law", desc := "(III)Z", sig := { parameters := [.int, .int, .int], returnType := some .boolean }, accessFlags := 9, code := some k1c2 }
/-- com/example/quillon/quillon/model/XmlCharsIsXmlCharPinLaw -/
def k1 : Class := { plain "com/example/quillon/quillon/model/XmlCharsIsXmlCharPinLaw" (some 0) with
  accessFlags := 49
  interfaces := #[]
  cf := some (fileOf pool1 28 #[] #[{ accessFlags := 2, nameIndex := 5, descriptorIndex := 6, attributes := #[] }, { accessFlags := 10, nameIndex := 31, descriptorIndex := 26, attributes := #[] }, { accessFlags := 9, nameIndex := 35, descriptorIndex := 36, attributes := #[] }] 49 2 #[] #[])
  fields := #[]
  methods := #[k1m0, k1m1, k1m2]
  instanceTypes := #[]
  staticTypes := #[]
  resolved := Array.replicate 41 none
  statics := none }

def pool2 : Array CpInfo := pool [(2, .class_ 4), (1, u "java/lang/Object"), (0, u "<init>"), (0, u "()V"), (0, .integer 55295), (0, .integer 57344), (0, .integer 65533), (0, .integer 65536), (0, .integer 1114111), (19, .class_ 33), (1, u "com/example/quillon/quillon/model/XmlChars"), (1, u "(I)Z"), (31, u "isXmlChar")] 5

def k2m0 : Method := { name := "<init>", desc := "()V", sig := { parameters := [], returnType := none }, accessFlags := 2, code := none }
def k2c1 : Code := { maxStack := 2, maxLocals := 1, code := prog_59_method_2_code, exceptionTable := #[], attributes := #[] }
def k2m1 : Method := { name := "isXmlChar", desc := "(I)Z", sig := { parameters := [.int], returnType := some .boolean }, accessFlags := 9, code := some k2c1 }
/-- com/example/quillon/quillon/model/XmlChars -/
def k2 : Class := { plain "com/example/quillon/quillon/model/XmlChars" (some 0) with
  accessFlags := 49
  interfaces := #[]
  cf := some (fileOf pool2 31 #[] #[{ accessFlags := 2, nameIndex := 5, descriptorIndex := 6, attributes := #[] }, { accessFlags := 9, nameIndex := 67, descriptorIndex := 35, attributes := #[] }] 49 2 #[] #[])
  fields := #[]
  methods := #[k2m0, k2m1]
  instanceTypes := #[]
  staticTypes := #[]
  resolved := Array.replicate 73 none
  statics := none }

def pool3 : Array CpInfo := pool [(1, u "java/lang/Cloneable"), (0, .class_ 1), (0, u "java/lang/Object"), (0, .class_ 3)] 3

/-- java/lang/Cloneable -/
def k3 : Class := { plain "java/lang/Cloneable" (some 0) with
  accessFlags := 1537
  interfaces := #[]
  cf := some (fileOf pool3 2 #[] #[] 1537 4 #[] #[])
  fields := #[]
  methods := #[]
  instanceTypes := #[]
  staticTypes := #[]
  resolved := Array.replicate 8 none
  statics := none }

def pool4 : Array CpInfo := pool [(1, u "java/io/Serializable"), (0, .class_ 1), (0, u "java/lang/Object"), (0, .class_ 3)] 3

/-- java/io/Serializable -/
def k4 : Class := { plain "java/io/Serializable" (some 0) with
  accessFlags := 1537
  interfaces := #[]
  cf := some (fileOf pool4 2 #[] #[] 1537 4 #[] #[])
  fields := #[]
  methods := #[]
  instanceTypes := #[]
  staticTypes := #[]
  resolved := Array.replicate 8 none
  statics := none }

/-- the primitive byte -/
def k5 : Class := { plain "byte" none with kind := .primitive 'B', accessFlags := 0x411 }
/-- [B -/
def k6 : Class := { plain "[B" (some 0) with kind := .array 5 .byte, interfaces := #[3, 4], accessFlags := 1041 }

/-- the primitive int -/
def k7 : Class := { plain "int" none with kind := .primitive 'I', accessFlags := 0x411 }
/-- [I -/
def k8 : Class := { plain "[I" (some 0) with kind := .array 7 .int, interfaces := #[3, 4], accessFlags := 1041 }

def heap : Heap := #[]
def classes : Array Class := #[k0, k1, k2, k3, k4, k5, k6, k7, k8]
def interned : List (Array UInt16 × Addr) := []
def slotsUsed : Nat := 0
def theMethod : MethodId := ⟨1, 2⟩
def args0 : Array Value := #[.int 5, .int 7, .int 3]
def aboutOver (below : List Frame) : State where
  vm := { classes := classes, interned := interned.toArray }
  heap := heap
  slotsUsed := slotsUsed
  threads := #[{ frames := .invoking theMethod args0 :: below }]
def below0 : List Frame := [.native { method := ⟨0, 0⟩, args := #[] }]
def about1 : State := aboutOver below0
def p0 : Program := .bare "" "" ""
def e0 : Env := launch0.env 0 0 0
theorem w_frames : about1.frames = Frame.invoking theMethod args0 :: below0 := rfl
set_option maxRecDepth 65536 in
theorem w_args : argsFit about1.vm theMethod args0 = true := by decide +kernel
set_option maxRecDepth 65536 in
theorem w_heap : heapFits about1 = true := by decide +kernel
set_option maxRecDepth 65536 in
theorem w_runnable : about1.curStatus? = some .runnable := by decide +kernel
set_option maxRecDepth 65536 in
theorem w_alone : about1.alone = true := by decide +kernel
set_option maxRecDepth 65536 in
theorem w_named : about1.methodNamed? x = some theMethod := by decide +kernel
set_option maxRecDepth 65536 in
theorem w_hears : about1.hears theMethod below0 = true := by decide +kernel
set_option maxRecDepth 65536 in
theorem w_ripe : about1.ripe theMethod args0 below0 = true := by decide +kernel
theorem w_running : about1.status = .running := rfl
set_option maxRecDepth 65536 in
theorem w_room : about1.hasRoom e0.platform room_1 = true :=
  launch0.hasRoom_least _ room_1 (by decide +kernel) (by decide +kernel) (by decide +kernel) (by decide +kernel) (by decide +kernel) (by decide +kernel)
theorem allAtoms_all (ts : List Jvm.Cond) (a : Array Jvm.Value) (st : Jvm.State) : (allAtoms ts).before a st = ts.all (fun c => c.before a st) := by
  induction ts with
  | nil => rfl
  | cons c t ih =>
    show (Jvm.Cond.and c (allAtoms t)).before a st = _
    rw [Jvm.Cond.before_and, ih, List.all_cons]
def words1 : List Jvm.Cond := Jvm.Cond.code x code maxLocals ret :: tables_1
/-- a 'code' word, met by the world's own term for the bytes: nothing is compared byte by byte -/
theorem code_word {y : MethodName} {bytes : ByteArray} {mx : Nat} {rt : Option FieldType} {a : Array Value} {s : State} {m : MethodId} {meth : Method} {c : Code} (h1 : s.methodNamed? y = some m) (h2 : s.vm.method? m = some meth) (h3 : meth.code = some c) (h4 : c.code = bytes)
    (h5 : (c.maxLocals == mx && c.exceptionTable.isEmpty && decide (c.maxStack ≤ mostOperands) && decide (meth.sig.returnType = rt) && !meth.locks && decide (parseMethodDescriptor y.desc = some meth.sig)) = true) : (Jvm.Cond.code y bytes mx rt).before a s = true := by
  simp only [Bool.and_eq_true, beq_iff_eq, Bool.not_eq_true', decide_eq_true_eq] at h5
  obtain ⟨⟨⟨⟨⟨g1, g2⟩, g3⟩, g4⟩, g5⟩, g6⟩ := h5
  simp [Cond.before, Cond.holds, Cond.value, h1, h2, h3, h4, g1, g2, g3, g4, g5, g6]
def isCode : Jvm.Cond → Bool
  | .code _ _ _ _ => true
  | _ => false
theorem all_split {L : List Jvm.Cond} {P : Jvm.Cond → Bool} (h1 : L.all (fun c => isCode c || P c) = true) (h2 : ∀ c ∈ L.filter isCode, P c = true) : L.all P = true := by
  refine List.all_eq_true.mpr fun c hc => ?_
  have h := List.all_eq_true.mp h1 c hc
  rcases Bool.eq_false_or_eq_true (isCode c) with hi | hi
  · exact h2 c (List.mem_filter.mpr ⟨hc, hi⟩)
  · simpa [hi] using h
set_option maxRecDepth 65536 in
theorem w_c0 : (Jvm.Cond.code x code maxLocals ret).before args0 about1 = true := code_word (m := ⟨1, 2⟩) (meth := k1m2) (c := k1c2) (by decide +kernel) rfl rfl rfl (by decide +kernel)
set_option maxRecDepth 65536 in
theorem w_c1 : (Jvm.Cond.code ({ cls := "com/example/quillon/quillon/model/XmlChars", name := "isXmlChar", desc := "(I)Z" } : Jvm.MethodName) prog_59_method_2_code (1 : Nat) (Option.some Jvm.ClassFile.FieldType.boolean)).before args0 about1 = true := code_word (m := ⟨2, 1⟩) (meth := k2m1) (c := k2c1) (by decide +kernel) rfl rfl rfl (by decide +kernel)
set_option maxRecDepth 65536 in
theorem w_c2 : (Jvm.Cond.code ({ cls := "com/example/quillon/quillon/model/XmlCharsIsXmlCharPinLaw", name := "reference", desc := "(I)Z" } : Jvm.MethodName) method_2_code (1 : Nat) (Option.some Jvm.ClassFile.FieldType.boolean)).before args0 about1 = true := code_word (m := ⟨1, 1⟩) (meth := k1m1) (c := k1c1) (by decide +kernel) rfl rfl rfl (by decide +kernel)
def codes1 : List Jvm.Cond := [Jvm.Cond.code x code maxLocals ret, Jvm.Cond.code ({ cls := "com/example/quillon/quillon/model/XmlChars", name := "isXmlChar", desc := "(I)Z" } : Jvm.MethodName) prog_59_method_2_code (1 : Nat) (Option.some Jvm.ClassFile.FieldType.boolean), Jvm.Cond.code ({ cls := "com/example/quillon/quillon/model/XmlCharsIsXmlCharPinLaw", name := "reference", desc := "(I)Z" } : Jvm.MethodName) method_2_code (1 : Nat) (Option.some Jvm.ClassFile.FieldType.boolean)]
set_option maxRecDepth 65536 in
theorem codes_eq : words1.filter isCode = codes1 := rfl
theorem w_codes : ∀ c ∈ words1.filter isCode, c.before args0 about1 = true := by
  rw [codes_eq]
  intro c hc
  simp only [codes1, List.mem_cons, List.not_mem_nil, or_false] at hc
  rcases hc with rfl | rfl | rfl
  · exact w_c0
  · exact w_c1
  · exact w_c2
set_option maxRecDepth 65536 in
theorem w_t1 : (words1.take 24).all (fun c => isCode c || c.before args0 about1) = true := by decide +kernel
set_option maxRecDepth 65536 in
theorem w_t2 : (words1.drop 24).all (fun c => isCode c || c.before args0 about1) = true := by decide +kernel
theorem w_tables : (allAtoms (Jvm.Cond.code x code maxLocals ret :: tables_1)).before args0 about1 = true := by
  rw [allAtoms_all]
  show words1.all (fun c => c.before args0 about1) = true
  refine all_split ?_ w_codes
  rw [← List.take_append_drop 24 words1, List.all_append, w_t1, w_t2]
  rfl
set_option maxRecDepth 65536 in
theorem w_case : (Jvm.Cond.and given_1 narrow_1).before args0 about1 = true := by decide +kernel
theorem w_applies : (headSpec (Jvm.Cond.code x code maxLocals ret :: tables_1) room_1).applies x e0.platform about1 = true :=
  (Spec.applies_iff w_frames).mpr ⟨w_running, w_runnable, w_alone, w_named, w_hears, w_ripe, w_room, w_tables⟩
theorem atStart : AtStart classFile x code maxLocals ret World_1 tables_1 room_1 Calls_1 rest_1 Pre_1 launch0 p0 e0 about1 theMethod args0 below0 :=
  ⟨lists_1, trivial, launch0.admits_env _ _ _, launch0.least_env, fairChoices_fair.cas, fairChoices_fair.clock, w_frames, w_args, w_heap, w_applies, trivial, trivial, w_case⟩
end start1
theorem witness_1 : WitnessClaimed_1 := ⟨start1.p0, start1.e0, start1.about1, start1.theMethod, start1.args0, start1.below0, start1.atStart⟩
end Jvm.Pilot.@@N@@
