import JvmDerived
import JvmDerived.Pilot.@@N@@Statement
import JvmDerived.Pilot.@@N@@Code
set_option linter.unusedVariables false
set_option linter.unusedSimpArgs false
namespace Jvm.Pilot.@@N@@
open Jvm Jvm.ClassFile Sem Op Lib Jvm.Free Jvm.Stand Jvm.LawKit Jvm.RoadKit Bundle Jvm.Pilot.@@N@@.Jvm.D
/-! ## own layer: walks in goal-directed form -/
section Layer
variable {p : Program} {l : Launch} {e : Env} {R : Room} {s : State} {m : MethodId} {args : Array Value} {below : List Frame} {meth : Method} {c : Code} {T : State} {locs : List Loc} {cells slots : Nat} {Z : State} {a0 : Array Value} {h h' : Heap} {a b : Addr} {ty : FieldType} {xs ys : List Int32} {ls : List Int64}
/-- from S the run comes to the invocation's end, with what Q says of the value, the heap and the written places -/
def Go (p : Program) (e : Env) (below : List Frame) (s : State) (rm : Room) (Q : Option Value → Heap → List Loc → Prop) (S : State) : Prop :=
  ∃ t o, Steps p.tables e below S t ∧ t.status = .running ∧ Ended t below o ∧ ∃ v L, o = .returned v ∧ Q v t.heap L ∧ FrameEnd s o t L rm.cells rm.slots
theorem Go.st {rm : Room} {Q : Option Value → Heap → List Loc → Prop} {S S' : State} (k : ∀ t, Steps p.tables e below S' t → Steps p.tables e below S t) (g : Go p e below s rm Q S') : Go p e below s rm Q S := by
  obtain ⟨t, o, h, r⟩ := g; exact ⟨t, o, k t h, r⟩
theorem Go.ret {rm : Room} {Q : Option Value → Heap → List Loc → Prop} {S : State} {v : Option Value} (X : Stand p l e rm s m args below meth c T locs cells slots) (hv : meth.sig.returnType = none → v = none) (hlk : meth.locks = false) (hc : cells ≤ rm.cells) (hs : slots ≤ rm.slots) (hQ : Q v T.heap locs)
    (st : ∀ fs, (∀ (f : JFrame) (acts : List Action), f.method = m → f.locked = none → f.entered = [] → (doReturn e (T.setTop f) acts v).1 = T.setFrames fs) → Steps p.tables e below S (T.setFrames fs)) : Go p e below s rm Q S := by
  obtain ⟨fs, hr, hrun, hended, hW, hsame⟩ := X.leave (v := v) hv hlk
  exact ⟨_, _, st fs hr, hrun, hended, v, locs, rfl, hQ, ⟨v, rfl⟩, hW, hsame.mono hc hs⟩
theorem Go.retI {rm : Room} {Q : Option Value → Heap → List Loc → Prop} (X : Stand p l e rm s m args below meth c T locs cells slots) (hx : p.tables.exec = Jvm.exec) (hret : meth.sig.returnType = some .int) (hlk : meth.locks = false) {pc : Nat} {Ls : Array Slot} {z : Int32} {rest : List Value} (hd : decode c.code pc = .ok (.ireturn, 1)) (hc : cells ≤ rm.cells) (hs : slots ≤ rm.slots)
    (hQ : Q (some (.int z)) T.heap locs) : Go p e below s rm Q (T.setTop (mkF m pc Ls (.int z :: rest))) := by
  refine Go.ret X (v := some (.int z)) (fun q => by rw [hret] at q; cases q) hlk hc hs hQ fun fs hr => ?_
  have hm' : T.vm.method? m = some meth := X.method'
  have hn : narrow .int (.int z) = .int z := rfl
  show Steps p.tables e below (T.setTop { method := m, pc := pc, locals := Ls, stack := _ :: rest, locked := none }) _
  jvm_step X.here [X.here.top, hx, hd, hm', hret, hn]
  first | (intro acts; rw [hr _ acts rfl rfl rfl]) | rw [hr _ _ rfl rfl rfl]
  exact Steps.refl _
theorem Go.retN {rm : Room} {Q : Option Value → Heap → List Loc → Prop} {t : FieldType} (X : Stand p l e rm s m args below meth c T locs cells slots) (hx : p.tables.exec = Jvm.exec) (hret : meth.sig.returnType = some t) (ht : t = .boolean ∨ t = .byte ∨ t = .char ∨ t = .short) (hlk : meth.locks = false) {pc : Nat} {Ls : Array Slot} {z : Int32} {rest : List Value} (hd : decode c.code pc = .ok (.ireturn, 1)) (hc : cells ≤ rm.cells) (hs : slots ≤ rm.slots)
    (hQ : Q (some (.int (nar t z))) T.heap locs) : Go p e below s rm Q (T.setTop (mkF m pc Ls (.int z :: rest))) :=
  Go.ret X (v := some (.int (nar t z))) (fun q => by rw [hret] at q; cases q) hlk hc hs hQ fun fs hr => Jvm.RoadKit.retN X hx hret ht hd hr
theorem Go.retV {rm : Room} {Q : Option Value → Heap → List Loc → Prop} (X : Stand p l e rm s m args below meth c T locs cells slots) (hx : p.tables.exec = Jvm.exec) (hret : meth.sig.returnType = none) (hlk : meth.locks = false) {pc : Nat} {Ls : Array Slot} (hd : decode c.code pc = .ok (.return_, 1)) (hc : cells ≤ rm.cells) (hs : slots ≤ rm.slots)
    (hQ : Q none T.heap locs) : Go p e below s rm Q (T.setTop (mkF m pc Ls [])) :=
  Go.ret X (v := none) (fun _ => rfl) hlk hc hs hQ fun fs hr => X.returnOut hx hret hd hr
theorem Go.retJ {rm : Room} {Q : Option Value → Heap → List Loc → Prop} (X : Stand p l e rm s m args below meth c T locs cells slots) (hx : p.tables.exec = Jvm.exec) (hret : meth.sig.returnType = some .long) (hlk : meth.locks = false) {pc : Nat} {Ls : Array Slot} {z : Int64} {rest : List Value} (hd : decode c.code pc = .ok (.lreturn, 1)) (hc : cells ≤ rm.cells) (hs : slots ≤ rm.slots)
    (hQ : Q (some (.long z)) T.heap locs) : Go p e below s rm Q (T.setTop (mkF m pc Ls (.long z :: rest))) := by
  refine Go.ret X (v := some (.long z)) (fun q => by rw [hret] at q; cases q) hlk hc hs hQ fun fs hr => ?_
  have hm' : T.vm.method? m = some meth := X.method'
  show Steps p.tables e below (T.setTop { method := m, pc := pc, locals := Ls, stack := _ :: rest, locked := none }) _
  jvm_step X.here [X.here.top, hx, hd, hm', hret, narrow]
  first | (intro acts; rw [hr _ acts rfl rfl rfl]) | rw [hr _ _ rfl rfl rfl]
  exact Steps.refl _
theorem Go.retR {rm : Room} {Q : Option Value → Heap → List Loc → Prop} {t : FieldType} (X : Stand p l e rm s m args below meth c T locs cells slots) (hx : p.tables.exec = Jvm.exec) (hret : meth.sig.returnType = some t) (ht : t.isReference = true) (hlk : meth.locks = false) {pc : Nat} {Ls : Array Slot} {z : Addr} (hd : decode c.code pc = .ok (.areturn, 1)) (hc : cells ≤ rm.cells) (hs : slots ≤ rm.slots)
    (hQ : Q (some (.ref z)) T.heap locs) : Go p e below s rm Q (T.setTop (mkF m pc Ls [.ref z])) := by
  refine Go.ret X (v := some (.ref z)) (fun q => by rw [hret] at q; cases q) hlk hc hs hQ fun fs hr => ?_
  exact X.areturnOut hx rfl hret ht hd hr
/-- the contract of a body: called with these arguments over the heap h0 it comes back, and Q -/
abbrev Con (l : Launch) (Z : State) (y : MethodName) (bytes : ByteArray) (maxL : Nat) (ret : Option FieldType) (ws : List Jvm.Cond) (rm : Room) (as : Array Value) (h0 : Heap) (Q : Option Value → Heap → List Loc → Prop) : Prop :=
  MetFree l y (head1 (Jvm.Cond.code y bytes maxL ret :: ws) rm) (fun a U => a = as ∧ Z.Warmed39 U.vm ∧ U.heap = h0) (fun _ _ _ _ _ => True) (fun _ U o U' => ∃ v L, o = .returned v ∧ Q v U'.heap L ∧ FrameEnd U o U' L rm.cells rm.slots)
theorem Con.mk {y : MethodName} {bytes : ByteArray} {maxL : Nat} {ret : Option FieldType} {ws : List Jvm.Cond} {rm : Room} {as : Array Value} {h0 : Heap} {Q : Option Value → Heap → List Loc → Prop} (hp : plainFor y = true)
    (body : ∀ (p : Program) (e : Env) (s : State) (m : MethodId) (below : List Frame) (meth : Method) (c : Code) (T : State), p.tables.exec = Jvm.exec → c.code = bytes → c.maxLocals = maxL → s.vm.findClass y.cls = some m.cls → meth.name = y.name → meth.sig.returnType = ret → meth.locks = false → Z.Warmed39 s.vm →
      Stand p l e rm s m as below meth c T [] 0 0 → T.heap = h0 → Go p e below s rm Q (T.setTop (entryFrame m as maxL))) : Con l Z y bytes maxL ret ws rm as h0 Q := by
  refine MetFree.of_bodySF hp hisR ?_
  intro p e s m args below meth c s₁ Bd hml0 hP hK
  obtain ⟨rfl, hZ, hh⟩ := hP
  exact body p e s m below meth c s₁ Bd.exec Bd.bytes hml0 (findClass_of_methodNamed Bd.named) (name_of_methodNamed Bd.named Bd.method).1 Bd.returns Bd.notSynchronized hZ (Stand.of_body Bd) (by rw [← hh, Bd.state]; rfl)
theorem Go.cast {rm : Room} {Q : Option Value → Heap → List Loc → Prop} {f f' : JFrame} (q : f = f') (g : Go p e below s rm Q (T.setTop f')) : Go p e below s rm Q (T.setTop f) := q ▸ g
/-! calls -/
theorem callSt (X : Stand p l e R s m args below meth c T locs cells slots) (hx : p.tables.exec = Jvm.exec) (hZ : Z.Warmed39 s.vm) {own : String} {index : Nat} {y : MethodName} {bytes : ByteArray} {maxL : Nat} {ret : Option FieldType} {rm : Room} {W : Nat} {Q : Option Value → Heap → List Loc → Prop} {argsL rest : List Value}
    (hown : s.vm.findClass own = some m.cls) (w1 : (Jvm.Cond.methodLink own index y).before a0 Z = true) (w2 : (Jvm.Cond.static y).before a0 Z = true) (w3 : (Jvm.Cond.initialized y.cls).before a0 Z = true) (w4 : (Jvm.Cond.code y bytes maxL ret).before a0 Z = true) (hy : y.cls ≠ "java/lang/invoke/MethodHandle" ∧ y.cls ≠ "java/lang/invoke/VarHandle")
    (eT : T.heap = h) (hM : Con l Z y bytes maxL ret [] rm argsL.toArray h Q) (hf : rm.frames + 1 ≤ R.frames) (hl : W + (maxL + 11) + rm.locals ≤ R.locals) {sig : MethodDescriptor} (hpd : parseMethodDescriptor y.desc = some sig) (hlen : argsL.length = sig.parameters.length)
    {g : JFrame} (hg : g.method = m) (hsize : g.locals.size = c.maxLocals) (hstack : g.stack = argsL.reverse ++ rest) (hW : 2 * g.monitorRoom + (rest.map fun v => v.category).sum ≤ W) (hdg : decode c.code g.pc = .ok (.invokestatic index, 3)) (hc : cells + rm.cells ≤ R.cells) (hs : slots + rm.slots ≤ R.slots) :
    ∃ (v : Option Value) (T' : State) (h' : Heap) (L : List Loc), Stand p l e R s m args below meth c T' (locs ++ L) (cells + rm.cells) (slots + rm.slots) ∧ T'.heap = h' ∧ Q v h' L ∧ ∀ t, Steps p.tables e below (T'.setTop { g with pc := g.pc + 3, stack := v.toList ++ rest }) t → Steps p.tables e below (T.setTop g) t := by
  obtain ⟨v, _, ⟨T1, L1, k1, n1⟩, -, X1, ⟨Lc, hQ, l1, y1, z1⟩, st⟩ := Jvm.LawKit.callS X hx (y := y) hown (mvT hZ w1) (mvT hZ w2) (mvT hZ w3) (mvT hZ w4) hy (backOf (W := W) (Z := Z) (a0 := a0) (h := h) hM hZ w4 w3 hf hl) (g := g) hg hsize (argsL := argsL) (rest := rest) (fun sg q => by rw [hpd] at q; cases q; exact hlen) hstack hW hdg (fun _ _ => ⟨rfl, eT, hc, hs⟩)
  dsimp only [Pt.U, Pt.locs, Pt.cells, Pt.slots] at X1 l1 y1 z1 st hQ
  subst l1 y1 z1
  exact ⟨v, T1, T1.heap, Lc, X1, rfl, hQ, st⟩
theorem callIn (X : Stand p l e R s m args below meth c T locs cells slots) (hx : p.tables.exec = Jvm.exec) (hZ : Z.Warmed39 s.vm) {own : String} {index : Nat} {y : MethodName} {bytes : ByteArray} {maxL : Nat} {rm : Room} {W : Nat} {Q : Option Value → Heap → List Loc → Prop} {argsL rest : List Value} (hi : y.name = "<init>")
    (hown : s.vm.findClass own = some m.cls) (w1 : (Jvm.Cond.methodLink own index y).before a0 Z = true) (w2 : (Jvm.Cond.instanceMethod y).before a0 Z = true) (w3 : (Jvm.Cond.initialized y.cls).before a0 Z = true) (w4 : (Jvm.Cond.code y bytes maxL none).before a0 Z = true) (hy : y.cls ≠ "java/lang/invoke/MethodHandle" ∧ y.cls ≠ "java/lang/invoke/VarHandle")
    (eT : T.heap = h) (hM : Con l Z y bytes maxL none [] rm (.ref a :: argsL).toArray h Q) (hf : rm.frames + 1 ≤ R.frames) (hl : W + (maxL + 11) + rm.locals ≤ R.locals) {sig : MethodDescriptor} (hpd : parseMethodDescriptor y.desc = some sig) (hlen : argsL.length = sig.parameters.length)
    {g : JFrame} (hg : g.method = m) (hsize : g.locals.size = c.maxLocals) (hstack : g.stack = argsL.reverse ++ .ref a :: rest) (hW : 2 * g.monitorRoom + (rest.map fun v => v.category).sum ≤ W) (hdg : decode c.code g.pc = .ok (.invokespecial index, 3)) (hc : cells + rm.cells ≤ R.cells) (hs : slots + rm.slots ≤ R.slots) :
    ∃ (v : Option Value) (T' : State) (h' : Heap) (L : List Loc), Stand p l e R s m args below meth c T' (locs ++ L) (cells + rm.cells) (slots + rm.slots) ∧ T'.heap = h' ∧ Q v h' L ∧ ∀ t, Steps p.tables e below (T'.setTop { g with pc := g.pc + 3, stack := v.toList ++ rest }) t → Steps p.tables e below (T.setTop g) t := by
  obtain ⟨v, _, ⟨T1, L1, k1, n1⟩, -, X1, ⟨Lc, hQ, l1, y1, z1⟩, st⟩ := X.specialBack hx (y := y) hi hown (mvT hZ w1) (mvT hZ w2) (mvT hZ w4) hy (backOf (W := W) (Z := Z) (a0 := a0) (h := h) hM hZ w4 w3 hf hl) (g := g) hg hsize (Steps.refl _) (a := a) (argsL := argsL) (rest := rest) (fun sg q => by rw [hpd] at q; cases q; exact hlen) hstack hW hdg (fun _ _ => ⟨rfl, eT, hc, hs⟩)
  dsimp only [Pt.U, Pt.locs, Pt.cells, Pt.slots] at X1 l1 y1 z1 st hQ
  subst l1 y1 z1
  exact ⟨v, T1, T1.heap, Lc, X1, rfl, hQ, fun t k => st.trans k⟩
theorem callVi (X : Stand p l e R s m args below meth c T locs cells slots) (hx : p.tables.exec = Jvm.exec) (hZ : Z.Warmed39 s.vm) {own C : String} {index : Nat} {y : MethodName} {bytes : ByteArray} {maxL : Nat} {ret : Option FieldType} {rm : Room} {W : Nat} {Q : Option Value → Heap → List Loc → Prop} {argsL rest : List Value}
    (hown : s.vm.findClass own = some m.cls) (w1 : (Jvm.Cond.methodLink own index y).before a0 Z = true) (wd : (Jvm.Cond.declares y).before a0 Z = true) (ws : (Jvm.Cond.selects C y y).before a0 Z = true) (w2 : (Jvm.Cond.instanceMethod y).before a0 Z = true) (w3 : (Jvm.Cond.initialized y.cls).before a0 Z = true) (w4 : (Jvm.Cond.code y bytes maxL ret).before a0 Z = true) (hy : y.cls ≠ "java/lang/invoke/MethodHandle" ∧ y.cls ≠ "java/lang/invoke/VarHandle")
    (eT : T.heap = h) (E : Exa Z h a C) (hM : Con l Z y bytes maxL ret [] rm (.ref a :: argsL).toArray h Q) (hf : rm.frames + 1 ≤ R.frames) (hl : W + (maxL + 11) + rm.locals ≤ R.locals) {sig : MethodDescriptor} (hpd : parseMethodDescriptor y.desc = some sig) (hlen : argsL.length = sig.parameters.length)
    {g : JFrame} (hg : g.method = m) (hsize : g.locals.size = c.maxLocals) (hstack : g.stack = argsL.reverse ++ .ref a :: rest) (hW : 2 * g.monitorRoom + (rest.map fun v => v.category).sum ≤ W) (hdg : decode c.code g.pc = .ok (.invokevirtual index, 3)) (hc : cells + rm.cells ≤ R.cells) (hs : slots + rm.slots ≤ R.slots) :
    ∃ (v : Option Value) (T' : State) (h' : Heap) (L : List Loc), Stand p l e R s m args below meth c T' (locs ++ L) (cells + rm.cells) (slots + rm.slots) ∧ T'.heap = h' ∧ Q v h' L ∧ ∀ t, Steps p.tables e below (T'.setTop { g with pc := g.pc + 3, stack := v.toList ++ rest }) t → Steps p.tables e below (T.setTop g) t := by
  obtain ⟨cB, kB, q1, q2, q3⟩ := isOf hZ eT E
  obtain ⟨v, _, ⟨T1, L1, k1, n1⟩, -, X1, ⟨Lc, hQ, l1, y1, z1⟩, st⟩ := X.virtualBack hx (y := y) (z := y) hown (mvT hZ w1) (mvT hZ wd) (notFace_of_selects (args := #[]) (mvT hZ ws)) (mvT hZ ws) (mvT hZ w2) hy (backOf (W := W) (Z := Z) (a0 := a0) (h := h) hM hZ w4 w3 hf hl) q1 q3 (g := g) hg hsize (Steps.refl _) (argsL := argsL) (rest := rest) (fun sg q => by rw [hpd] at q; cases q; exact hlen) hstack hW hdg (fun _ _ => ⟨rfl, eT, hc, hs⟩)
  dsimp only [Pt.U, Pt.locs, Pt.cells, Pt.slots] at X1 l1 y1 z1 st hQ
  subst l1 y1 z1
  exact ⟨v, T1, T1.heap, Lc, X1, rfl, hQ, fun t k => st.trans k⟩
theorem callPr (X : Stand p l e R s m args below meth c T locs cells slots) (hx : p.tables.exec = Jvm.exec) (hZ : Z.Warmed39 s.vm) {own : String} {index ni : Nat} {y : MethodName} {bytes : ByteArray} {maxL : Nat} {ret : Option FieldType} {rm : Room} {W : Nat} {Q : Option Value → Heap → List Loc → Prop} {argsL rest : List Value}
    (hown : s.vm.findClass own = some m.cls) (w1 : (Jvm.Cond.methodLink own index y).before a0 Z = true) (w2 : (Jvm.Cond.instanceMethod y).before a0 Z = true) (wi : (Jvm.Cond.instantiable y.cls ni).before a0 Z = true) (wp : (Jvm.Cond.privateMethod y).before a0 Z = true) (w3 : (Jvm.Cond.initialized y.cls).before a0 Z = true) (w4 : (Jvm.Cond.code y bytes maxL ret).before a0 Z = true) (hy : y.cls ≠ "java/lang/invoke/MethodHandle" ∧ y.cls ≠ "java/lang/invoke/VarHandle")
    (eT : T.heap = h) {C : String} (E : Exa Z h a C) (hM : Con l Z y bytes maxL ret [] rm (.ref a :: argsL).toArray h Q) (hf : rm.frames + 1 ≤ R.frames) (hl : W + (maxL + 11) + rm.locals ≤ R.locals) {sig : MethodDescriptor} (hpd : parseMethodDescriptor y.desc = some sig) (hlen : argsL.length = sig.parameters.length)
    {g : JFrame} (hg : g.method = m) (hsize : g.locals.size = c.maxLocals) (hstack : g.stack = argsL.reverse ++ .ref a :: rest) (hW : 2 * g.monitorRoom + (rest.map fun v => v.category).sum ≤ W) (hdg : decode c.code g.pc = .ok (.invokevirtual index, 3)) (hc : cells + rm.cells ≤ R.cells) (hs : slots + rm.slots ≤ R.slots) :
    ∃ (v : Option Value) (T' : State) (h' : Heap) (L : List Loc), Stand p l e R s m args below meth c T' (locs ++ L) (cells + rm.cells) (slots + rm.slots) ∧ T'.heap = h' ∧ Q v h' L ∧ ∀ t, Steps p.tables e below (T'.setTop { g with pc := g.pc + 3, stack := v.toList ++ rest }) t → Steps p.tables e below (T.setTop g) t := by
  obtain ⟨cell, q1, q2⟩ := E.cell
  have wi' : (Jvm.Cond.instantiable y.cls ni).before args s = true := mvT hZ wi
  obtain ⟨cI, kI, i1, i2, i3, i4, -⟩ := Cond.instantiable_spec wi'
  have i5 : kI.isInterface = false := by cases hq : kI.isInterface <;> simp [hq] at i4 ⊢
  have hpriv : s.PrivateAt y := Cond.privateMethod_at (mvP hZ wp (args := args))
  have hinst : (Jvm.Cond.instanceMethod y).before args s = true := mvT hZ w2
  obtain ⟨v, _, ⟨T1, L1, k1, n1⟩, -, X1, ⟨Lc, hQ, l1, y1, z1⟩, st⟩ := X.privateBack hx (y := y) hown (mvT hZ w1) hinst (selects_self_of_private i1 i2 i5 hpriv hinst hy) hpriv (mvT hZ w4) hy (backOf (W := W) (Z := Z) (a0 := a0) (h := h) hM hZ w4 w3 hf hl) (g := g) hg hsize (Steps.refl _) (a := a) (cell := cell) (by rw [eT]; exact q1) q2 (argsL := argsL) (rest := rest) (fun sg q => by rw [hpd] at q; cases q; exact hlen) hstack hW hdg (fun _ _ => ⟨rfl, eT, hc, hs⟩)
  dsimp only [Pt.U, Pt.locs, Pt.cells, Pt.slots] at X1 l1 y1 z1 st hQ
  subst l1 y1 z1
  exact ⟨v, T1, T1.heap, Lc, X1, rfl, hQ, fun t k => st.trans k⟩
/-! arrays of ints, bytes, .. by the list of what they hold -/
def Ai (Z : State) (h : Heap) (a : Addr) (ty : FieldType) (xs : List Int32) : Prop := ∃ (k : ClassId) (z : Int32), Arv Z h a k ty z (xs.map Value.int) (.int 0) ∧ z.toNatClampNeg = xs.length
theorem Ai.lt (A : Ai Z h a ty xs) : a < h.size := by obtain ⟨_, _, q, -⟩ := A; exact q.lt
theorem Ai.ext (A : Ai Z h a ty xs) (E : Ext h h') : Ai Z h' a ty xs := by obtain ⟨k, z, q, r⟩ := A; exact ⟨k, z, q.ext E, r⟩
theorem Ai.other {sl : Nat} {v : Value} (A : Ai Z h a ty xs) (W : Wr h h' b sl v) (ne : a ≠ b) : Ai Z h' a ty xs := by obtain ⟨k, z, q, r⟩ := A; exact ⟨k, z, q.other W ne, r⟩
theorem Ai.keep {ws : List Addr} (A : Ai Z h a ty xs) (K : Keep h h' ws) (nin : a ∉ ws) : Ai Z h' a ty xs := by obtain ⟨k, z, q, r⟩ := A; exact ⟨k, z, q.keep K nin, r⟩
theorem Ai.len (A : Ai Z h a ty xs) : xs.length < 2 ^ 31 := by
  obtain ⟨k, z, ⟨c, -, -, -, hz, -⟩, r⟩ := A
  rw [← r]; exact (back32 hz).2
theorem Ai.open (A : Ai Z h a ty xs) : ∃ c : Cell, Arr Z h a c ty ∧ c.slots.size = xs.length ∧ ∀ (i : Nat) (v : Int32), xs[i]? = some v → c.slots[i]? = some (.int v) := by
  obtain ⟨k, z, ⟨c, A, q1, S, q3, H, G⟩, r⟩ := A
  refine ⟨c, A, S.trans r, fun i v hv => ?_⟩
  have hi : i < xs.length := (List.getElem?_eq_some_iff.mp hv).1
  rw [H i (by rw [S, r]; exact hi)]
  simp [List.getD_eq_getElem?_getD, hv]
theorem Ai.fitsOf {i : Nat} {v : Int32} (A : Ai Z h a ty xs) (hv : xs[i]? = some v) : fits ty (.int v) = true := by
  obtain ⟨k, z, ⟨c, A, q1, S, q3, H, G⟩, r⟩ := A
  have hi : i < xs.length := (List.getElem?_eq_some_iff.mp hv).1
  have := G i (by rw [S, r]; exact hi)
  simpa [List.getD_eq_getElem?_getD, hv] using this
theorem own_in {n : Nat} {j : Int32} (hj : ¬ j < 0) (hi : j.toNatClampNeg < n) : ¬ (j < 0 ∨ n ≤ j.toNatClampNeg) := fun q => q.elim hj fun r => absurd hi (Nat.not_lt.mpr r)
theorem Ai.load (A : Ai Z h a .int xs) (X : Stand p l e R s m args below meth c T locs cells slots) (hx : p.tables.exec = Jvm.exec) (hZ : Z.Warmed39 s.vm) (eT : T.heap = h) {j v : Int32} (hj : ¬ j < 0) (hv : xs[j.toNatClampNeg]? = some v) {g : JFrame} (hg : g.method = m) {rest : List Value} (hs : g.stack = .int j :: .ref a :: rest) (hd : decode c.code g.pc = .ok (.iaload, 1)) :
    ∀ t, Steps p.tables e below (T.setTop { g with pc := g.pc + 1, stack := .int v :: rest }) t → Steps p.tables e below (T.setTop g) t := by
  obtain ⟨cl, Ar, S, H⟩ := A.open
  exact fun t k => X.iaload hx (j := j) (v := .int v) (by rw [eT]; exact Ar.1) (State.isArrayOf_alike hZ.alike Ar.2.1) Ar.2.2 (own_in hj (by rw [S]; exact (List.getElem?_eq_some_iff.mp hv).1)) (H _ _ hv) hg hs hd t k
theorem Ai.bload (A : Ai Z h a .byte xs) (X : Stand p l e R s m args below meth c T locs cells slots) (hx : p.tables.exec = Jvm.exec) (hZ : Z.Warmed39 s.vm) (eT : T.heap = h) {j v : Int32} (hj : ¬ j < 0) (hv : xs[j.toNatClampNeg]? = some v) {g : JFrame} (hg : g.method = m) {rest : List Value} (hs : g.stack = .int j :: .ref a :: rest) (hd : decode c.code g.pc = .ok (.baload, 1)) :
    ∀ t, Steps p.tables e below (T.setTop { g with pc := g.pc + 1, stack := .int v :: rest }) t → Steps p.tables e below (T.setTop g) t := by
  obtain ⟨cl, Ar, S, H⟩ := A.open
  exact fun t k => X.baloadBytes hx (j := j) (v := .int v) (by rw [eT]; exact Ar.1) (State.isArrayOf_alike hZ.alike Ar.2.1) Ar.2.2 (own_in hj (by rw [S]; exact (List.getElem?_eq_some_iff.mp hv).1)) (H _ _ hv) hg hs hd t k
theorem Ai.length (A : Ai Z h a ty xs) (X : Stand p l e R s m args below meth c T locs cells slots) (hx : p.tables.exec = Jvm.exec) (hZ : Z.Warmed39 s.vm) (eT : T.heap = h) {n : Int32} (hn : xs.length.toInt32 = n) {g : JFrame} (hg : g.method = m) {rest : List Value} (hs : g.stack = .ref a :: rest) (hd : decode c.code g.pc = .ok (.arraylength, 1)) :
    ∀ t, Steps p.tables e below (T.setTop { g with pc := g.pc + 1, stack := .int n :: rest }) t → Steps p.tables e below (T.setTop g) t := by
  obtain ⟨cl, Ar, S, H⟩ := A.open
  subst hn
  rw [← S]
  exact fun t k => X.arraylength hx (by rw [eT]; exact Ar.1) (State.isArrayOf_alike hZ.alike Ar.2.1) hg hs hd t k
theorem Ai.set {j v : Int32} (A : Ai Z h a ty xs) (hf : fits ty (.int v) = true) (W : Wr h h' a j.toNatClampNeg (.int v)) (hi : j.toNatClampNeg < xs.length) : Ai Z h' a ty (xs.set j.toNatClampNeg v) := by
  obtain ⟨k, z, ⟨c, A, q1, S, q3, H, G⟩, r⟩ := A
  refine ⟨k, z, ?_, by simpa using r⟩
  rw [List.map_set]
  exact Arv.set A q1 S q3 H G hf W j.toNatClampNeg rfl (by simpa using hi)
theorem Ai.store (A : Ai Z h a .int xs) (X : Stand p l e R s m args below meth c T locs cells slots) (hx : p.tables.exec = Jvm.exec) (hZ : Z.Warmed39 s.vm) (eT : T.heap = h) {j v : Int32} (hj : ¬ j < 0) (hi : j.toNatClampNeg < xs.length) {g : JFrame} (hg : g.method = m) {rest : List Value} (hs : g.stack = .int v :: .int j :: .ref a :: rest) (hd : decode c.code g.pc = .ok (.iastore, 1)) :
    ∃ T' h', Stand p l e R s m args below meth c T' (locs ++ [⟨a, j.toNatClampNeg⟩]) cells slots ∧ T'.heap = h' ∧ Wr h h' a j.toNatClampNeg (.int v) ∧ Ai Z h' a .int (xs.set j.toNatClampNeg v) ∧
      ∀ t, Steps p.tables e below (T'.setTop { g with pc := g.pc + 1, stack := rest }) t → Steps p.tables e below (T.setTop g) t := by
  obtain ⟨cl, Ar, S, H⟩ := A.open
  obtain ⟨T', h', X', e', W, st⟩ := stI X hx hZ eT Ar (j := j) (own_in hj (by rw [S]; exact hi)) hg hs hd
  exact ⟨T', h', X', e', W, A.set rfl W hi, st⟩
theorem Ai.bstore (A : Ai Z h a .byte xs) (X : Stand p l e R s m args below meth c T locs cells slots) (hx : p.tables.exec = Jvm.exec) (hZ : Z.Warmed39 s.vm) (eT : T.heap = h) {j v : Int32} (hj : ¬ j < 0) (hi : j.toNatClampNeg < xs.length) {g : JFrame} (hg : g.method = m) {rest : List Value} (hs : g.stack = .int v :: .int j :: .ref a :: rest) (hd : decode c.code g.pc = .ok (.bastore, 1)) :
    ∃ T' h', Stand p l e R s m args below meth c T' (locs ++ [⟨a, j.toNatClampNeg⟩]) cells slots ∧ T'.heap = h' ∧ Wr h h' a j.toNatClampNeg (.int v.toInt8.toInt32) ∧ Ai Z h' a .byte (xs.set j.toNatClampNeg v.toInt8.toInt32) ∧
      ∀ t, Steps p.tables e below (T'.setTop { g with pc := g.pc + 1, stack := rest }) t → Steps p.tables e below (T.setTop g) t := by
  obtain ⟨cl, Ar, S, H⟩ := A.open
  obtain ⟨T', h', X', e', W, st⟩ := stB X hx hZ eT Ar (j := j) (own_in hj (by rw [S]; exact hi)) hg hs hd
  exact ⟨T', h', X', e', W, A.set (fits_nar_byte v) W hi, st⟩
theorem Ai.new (X : Stand p l e R s m args below meth c T locs cells slots) (hx : p.tables.exec = Jvm.exec) (hZ : Z.Warmed39 s.vm) {aty : ArrayType} (w : (Jvm.Cond.arrayClass (newarray.typeOf aty)).before a0 Z = true) (hdef : defaultValue (newarray.typeOf aty) = .int 0) (eT : T.heap = h) {n : Int32} (hn : ¬ n < 0) (cap : Nat) (hcap : n.toNatClampNeg ≤ cap) (hb : cap * 8 ≤ 536870912) (hc : cells + 1 ≤ R.cells) (hl : slots + cap ≤ R.slots)
    {g : JFrame} (hg : g.method = m) {rest : List Value} (hs : g.stack = .int n :: rest) (hd : decode c.code g.pc = .ok (.newarray aty, 2)) :
    ∃ T' h' b, Stand p l e R s m args below meth c T' locs (cells + 1) (slots + cap) ∧ T'.heap = h' ∧ b = h.size ∧ Ext h h' ∧ Ai Z h' b (newarray.typeOf aty) (List.replicate n.toNatClampNeg 0) ∧
      ∀ t, Steps p.tables e below (T'.setTop { g with pc := g.pc + 2, stack := .ref b :: rest }) t → Steps p.tables e below (T.setTop g) t := by
  obtain ⟨T', h', k, X', e', E, A, st⟩ := newP X hx hZ w eT (g := g) hg hd hs hn hcap hb hc hl
  refine ⟨T', h', _, X', e', rfl, E, ⟨k, n, ?_, by simp⟩, st⟩
  have V := Arv.new A hn
  rw [hdef] at V
  rw [List.map_replicate]
  exact V.pad (pad_rep [] (.int 0) n.toNatClampNeg)
theorem Ai.newE (X : Stand p l e R s m args below meth c T locs cells slots) (hx : p.tables.exec = Jvm.exec) (hZ : Z.Warmed39 s.vm) {aty : ArrayType} (w : (Jvm.Cond.arrayClass (newarray.typeOf aty)).before a0 Z = true) (hdef : defaultValue (newarray.typeOf aty) = .int 0) (eT : T.heap = h) {n : Int32} (hn : ¬ n < 0) (cap : Nat) (hcap : n.toNatClampNeg ≤ cap) (hb : cap * 8 ≤ 536870912) (hc : cells + 1 ≤ R.cells) (hl : slots + cap ≤ R.slots) {ad : String} (had : "[" ++ (newarray.typeOf aty).toString = ad)
    {g : JFrame} (hg : g.method = m) {rest : List Value} (hs : g.stack = .int n :: rest) (hd : decode c.code g.pc = .ok (.newarray aty, 2)) :
    ∃ T' h' b, Stand p l e R s m args below meth c T' locs (cells + 1) (slots + cap) ∧ T'.heap = h' ∧ b = h.size ∧ Ext h h' ∧ Ai Z h' b (newarray.typeOf aty) (List.replicate n.toNatClampNeg 0) ∧ Exa Z h' b ad ∧
      ∀ t, Steps p.tables e below (T'.setTop { g with pc := g.pc + 2, stack := .ref b :: rest }) t → Steps p.tables e below (T.setTop g) t := by
  obtain ⟨T', h', k, X', e', E, A, Ex, st⟩ := newPE X hx hZ w eT (g := g) hg hd hs hn hcap hb hc hl had
  refine ⟨T', h', _, X', e', rfl, E, ⟨k, n, ?_, by simp⟩, Ex, st⟩
  have V := Arv.new A hn
  rw [hdef] at V
  rw [List.map_replicate]
  exact V.pad (pad_rep [] (.int 0) n.toNatClampNeg)
theorem Ai.copy (X : Stand p l e R s m args below meth c T locs cells slots) (hx : p.tables.exec = Jvm.exec) (hZ : Z.Warmed39 s.vm) {own : String} {index : Nat} (hown : s.vm.findClass own = some m.cls)
    (w1 : (Jvm.Cond.methodLink own index Jvm.Stand.acN).before a0 Z = true) (w2 : (Jvm.Cond.native Jvm.Stand.acN).before a0 Z = true) (w3 : (Jvm.Cond.static Jvm.Stand.acN).before a0 Z = true) (w4 : (Jvm.Cond.initialized "java/lang/System").before a0 Z = true) (eT : T.heap = h)
    {sp dp nn : Int32} (A : Ai Z h a ty xs) (B : Ai Z h b ty ys) (hty : refKind ty = false) (h1 : ¬ sp < 0) (h2 : ¬ dp < 0) (h3 : ¬ nn < 0) (h4 : sp.toNatClampNeg + nn.toNatClampNeg ≤ xs.length) (h5 : dp.toNatClampNeg + nn.toNatClampNeg ≤ ys.length) {n0 : Nat} (N : Fr n0 locs) (ge : n0 ≤ b)
    {g : JFrame} (hg : g.method = m) (hsize : g.locals.size = c.maxLocals) {rest : List Value} (hs : g.stack = .int nn :: .int dp :: .ref b :: .int sp :: .ref a :: rest) (hd : decode c.code g.pc = .ok (.invokestatic index, 3))
    (hf : 1 ≤ R.frames) {W : Nat} (hW : 2 * g.monitorRoom + (rest.map fun v => v.category).sum ≤ W) (hlo : W + (nativeFrameWords "java/lang/System" "arraycopy" 5 + 11) ≤ R.locals) :
    ∃ T' h' L, Stand p l e R s m args below meth c T' L cells slots ∧ T'.heap = h' ∧ Fr n0 L ∧ Keep h h' [b] ∧ Ai Z h' b ty (ys.take dp.toNatClampNeg ++ (xs.drop sp.toNatClampNeg).take nn.toNatClampNeg ++ ys.drop (dp.toNatClampNeg + nn.toNatClampNeg)) ∧
      ∀ t, Steps p.tables e below (T'.setTop { g with pc := g.pc + 3, stack := rest }) t → Steps p.tables e below (T.setTop g) t := by
  obtain ⟨k, z, A, r⟩ := A
  obtain ⟨k', z', B, r'⟩ := B
  obtain ⟨T', h', L, X', e', N', K, V, st⟩ := cpA X hx hZ hown w1 w2 w3 w4 eT A B (Or.inl ⟨rfl, hty⟩) h1 h2 h3 (by rw [r]; exact h4) (by rw [r']; exact h5) rfl (by simpa using h5) N ge hg hsize hs hd hf hW hlo
  refine ⟨T', h', L, X', e', N', K, ⟨k', z', ?_, ?_⟩, st⟩
  · have q : (List.range nn.toNatClampNeg).map (fun i => (xs.map Value.int).getD (sp.toNatClampNeg + i) (.int 0)) = ((xs.drop sp.toNatClampNeg).take nn.toNatClampNeg).map Value.int := by
      apply List.ext_getElem?
      intro i
      by_cases hi : i < nn.toNatClampNeg
      · have h6 : sp.toNatClampNeg + i < xs.length := by omega
        simp [List.getElem?_take, hi, h6, List.getD_eq_getElem?_getD]
      · simp [List.getElem?_take, hi]
    rw [q] at V
    simpa [List.map_append, List.map_take, List.map_drop] using V
  · rw [r']; simp; omega
/-! arrays of longs -/
def Al (Z : State) (h : Heap) (a : Addr) (ls : List Int64) : Prop := ∃ (k : ClassId) (z : Int32), Arv Z h a k .long z (ls.map Value.long) (.long 0) ∧ z.toNatClampNeg = ls.length
theorem Al.lt (A : Al Z h a ls) : a < h.size := by obtain ⟨_, _, q, -⟩ := A; exact q.lt
theorem Al.ext (A : Al Z h a ls) (E : Ext h h') : Al Z h' a ls := by obtain ⟨k, z, q, r⟩ := A; exact ⟨k, z, q.ext E, r⟩
theorem Al.other {sl : Nat} {v : Value} (A : Al Z h a ls) (W : Wr h h' b sl v) (ne : a ≠ b) : Al Z h' a ls := by obtain ⟨k, z, q, r⟩ := A; exact ⟨k, z, q.other W ne, r⟩
theorem Al.keep {ws : List Addr} (A : Al Z h a ls) (K : Keep h h' ws) (nin : a ∉ ws) : Al Z h' a ls := by obtain ⟨k, z, q, r⟩ := A; exact ⟨k, z, q.keep K nin, r⟩
theorem Al.len (A : Al Z h a ls) : ls.length < 2 ^ 31 := by
  obtain ⟨k, z, ⟨c, -, -, -, hz, -⟩, r⟩ := A
  rw [← r]; exact (back32 hz).2
theorem Al.open (A : Al Z h a ls) : ∃ c : Cell, Arr Z h a c .long ∧ c.slots.size = ls.length ∧ ∀ (i : Nat) (v : Int64), ls[i]? = some v → c.slots[i]? = some (.long v) := by
  obtain ⟨k, z, ⟨c, A, q1, S, q3, H, G⟩, r⟩ := A
  refine ⟨c, A, S.trans r, fun i v hv => ?_⟩
  have hi : i < ls.length := (List.getElem?_eq_some_iff.mp hv).1
  rw [H i (by rw [S, r]; exact hi)]
  simp [List.getD_eq_getElem?_getD, hv]
theorem Al.load (A : Al Z h a ls) (X : Stand p l e R s m args below meth c T locs cells slots) (hx : p.tables.exec = Jvm.exec) (hZ : Z.Warmed39 s.vm) (eT : T.heap = h) {j : Int32} {v : Int64} (hj : ¬ j < 0) (hv : ls[j.toNatClampNeg]? = some v) {g : JFrame} (hg : g.method = m) {rest : List Value} (hs : g.stack = .int j :: .ref a :: rest) (hd : decode c.code g.pc = .ok (.laload, 1)) :
    ∀ t, Steps p.tables e below (T.setTop { g with pc := g.pc + 1, stack := .long v :: rest }) t → Steps p.tables e below (T.setTop g) t := by
  obtain ⟨cl, Ar, S, H⟩ := A.open
  exact fun t k => X.laload hx (j := j) (v := .long v) (by rw [eT]; exact Ar.1) (State.isArrayOf_alike hZ.alike Ar.2.1) Ar.2.2 (own_in hj (by rw [S]; exact (List.getElem?_eq_some_iff.mp hv).1)) (H _ _ hv) hg hs hd t k
theorem Al.length (A : Al Z h a ls) (X : Stand p l e R s m args below meth c T locs cells slots) (hx : p.tables.exec = Jvm.exec) (hZ : Z.Warmed39 s.vm) (eT : T.heap = h) {n : Int32} (hn : ls.length.toInt32 = n) {g : JFrame} (hg : g.method = m) {rest : List Value} (hs : g.stack = .ref a :: rest) (hd : decode c.code g.pc = .ok (.arraylength, 1)) :
    ∀ t, Steps p.tables e below (T.setTop { g with pc := g.pc + 1, stack := .int n :: rest }) t → Steps p.tables e below (T.setTop g) t := by
  obtain ⟨cl, Ar, S, H⟩ := A.open
  subst hn
  rw [← S]
  exact fun t k => X.arraylength hx (by rw [eT]; exact Ar.1) (State.isArrayOf_alike hZ.alike Ar.2.1) hg hs hd t k
theorem Al.store (A : Al Z h a ls) (X : Stand p l e R s m args below meth c T locs cells slots) (hx : p.tables.exec = Jvm.exec) (hZ : Z.Warmed39 s.vm) (eT : T.heap = h) {j : Int32} {v : Int64} (hj : ¬ j < 0) (hi : j.toNatClampNeg < ls.length) {g : JFrame} (hg : g.method = m) {rest : List Value} (hs : g.stack = .long v :: .int j :: .ref a :: rest) (hd : decode c.code g.pc = .ok (.lastore, 1)) :
    ∃ T' h', Stand p l e R s m args below meth c T' (locs ++ [⟨a, j.toNatClampNeg⟩]) cells slots ∧ T'.heap = h' ∧ Wr h h' a j.toNatClampNeg (.long v) ∧ Al Z h' a (ls.set j.toNatClampNeg v) ∧
      ∀ t, Steps p.tables e below (T'.setTop { g with pc := g.pc + 1, stack := rest }) t → Steps p.tables e below (T.setTop g) t := by
  obtain ⟨cl, Ar, S, H⟩ := A.open
  obtain ⟨T', h', X', e', W, st⟩ := stJ X hx hZ eT Ar (j := j) (own_in hj (by rw [S]; exact hi)) hg hs hd
  refine ⟨T', h', X', e', W, ?_, st⟩
  obtain ⟨k, z, ⟨c, A, q1, S, q3, H, G⟩, r⟩ := A
  refine ⟨k, z, ?_, by simpa using r⟩
  rw [List.map_set]
  exact Arv.set A q1 S q3 H G rfl W j.toNatClampNeg rfl (by simpa using hi)
theorem Al.new (X : Stand p l e R s m args below meth c T locs cells slots) (hx : p.tables.exec = Jvm.exec) (hZ : Z.Warmed39 s.vm) {aty : ArrayType} (w : (Jvm.Cond.arrayClass (newarray.typeOf aty)).before a0 Z = true) (hdef : aty = .long) (eT : T.heap = h) {n : Int32} (hn : ¬ n < 0) (cap : Nat) (hcap : n.toNatClampNeg ≤ cap) (hb : cap * 8 ≤ 536870912) (hc : cells + 1 ≤ R.cells) (hl : slots + cap ≤ R.slots)
    {g : JFrame} (hg : g.method = m) {rest : List Value} (hs : g.stack = .int n :: rest) (hd : decode c.code g.pc = .ok (.newarray aty, 2)) :
    ∃ T' h' b, Stand p l e R s m args below meth c T' locs (cells + 1) (slots + cap) ∧ T'.heap = h' ∧ b = h.size ∧ Ext h h' ∧ Al Z h' b (List.replicate n.toNatClampNeg 0) ∧
      ∀ t, Steps p.tables e below (T'.setTop { g with pc := g.pc + 2, stack := .ref b :: rest }) t → Steps p.tables e below (T.setTop g) t := by
  obtain ⟨T', h', k, X', e', E, A, st⟩ := newP X hx hZ w eT (g := g) hg hd hs hn hcap hb hc hl
  subst hdef
  refine ⟨T', h', _, X', e', rfl, E, ⟨k, n, ?_, by simp⟩, st⟩
  have V := Arv.new A hn
  rw [List.map_replicate]
  exact V.pad (pad_rep [] (.long 0) n.toNatClampNeg)
theorem own_if1 {P : Prop} [Decidable P] (h : P) : ¬ ((if P then (1 : Int32) else (0 : Int32)) = 0) := by rw [if_pos h]; decide
theorem own_if0 {P : Prop} [Decidable P] (h : ¬ P) : (if P then (1 : Int32) else (0 : Int32)) = 0 := if_neg h
theorem own_ifc {P Q : Prop} [Decidable P] [Decidable Q] (h : P ↔ Q) : (if P then (1 : Int32) else (0 : Int32)) = (if Q then (1 : Int32) else (0 : Int32)) := by
  by_cases p : P
  · rw [if_pos p, if_pos (h.mp p)]
  · rw [if_neg p, if_neg (fun q => p (h.mpr q))]
theorem own_narI {P : Prop} [Decidable P] : nar .boolean (if P then (1 : Int32) else (0 : Int32)) = (if P then (1 : Int32) else (0 : Int32)) := by
  by_cases p : P
  · rw [if_pos p]; rfl
  · rw [if_neg p]; rfl
theorem own_bb (x : Int32) : x.toInt8.toInt32.toInt8.toInt32 = x.toInt8.toInt32 := by simp
end Layer
section Numbers
theorem own_mod (x k : Int32) (hk : 0 < k.toInt) : 0 ≤ ((x &&& (2147483647 : Int32)) % k).toInt ∧ ((x &&& (2147483647 : Int32)) % k).toInt < k.toInt := by
  have h1 := c_and x 2147483647 (by decide)
  have h2 := (c_iremV (x &&& 2147483647) k).1 h1.1 hk
  exact ⟨h2.1, h2.2.1⟩
theorem own_nn {j : Int32} (h : 0 ≤ j.toInt) : ¬ j < 0 := by
  rw [Int32.lt_iff_toInt_lt, show (0 : Int32).toInt = 0 from rfl]; omega
theorem own_nat {j : Int32} {k : Nat} (h : 0 ≤ j.toInt) (h2 : j.toInt < k) : j.toNatClampNeg < k := by
  simp only [Int32.toNatClampNeg]; omega
theorem own_at {xs : List Int32} {i : Nat} (h : i < xs.length) : ∃ v, xs[i]? = some v := ⟨xs[i], List.getElem?_eq_getElem h⟩
end Numbers
theorem own_il_at {ys zs : List Int32} {k : Nat} {x : Int32} (h : ys[k]? = some x) : (ys ++ zs)[k]? = some x := by rw [List.getElem?_append_left (List.getElem?_eq_some_iff.mp h).1]; exact h
theorem own_il_lt {i x : Int32} {ys : List Int32} (h0 : ¬ i < 0) (h : ys[i.toNatClampNeg]? = some x) (h1 : ys.length ≤ 16) : i < ys.length.toInt32 := by
  have q := (List.getElem?_eq_some_iff.mp h).1
  rw [Int32.lt_iff_toInt_lt, len_toInt (by omega)]
  rw [Int32.lt_iff_toInt_lt, show (0 : Int32).toInt = 0 from rfl] at h0
  simp only [Int32.toNatClampNeg] at q; omega
theorem own_n (x : Int32) : ((x &&& (3 : Int32)) % (3 : Int32)) + (1 : Int32) = (1 : Int32) ∨ ((x &&& (3 : Int32)) % (3 : Int32)) + (1 : Int32) = (2 : Int32) ∨ ((x &&& (3 : Int32)) % (3 : Int32)) + (1 : Int32) = (3 : Int32) := by
  have h1 := c_and x 3 (by decide)
  have h2 := (c_iremV (x &&& 3) 3).1 h1.1 (by decide)
  have h3 := c_iadd ((x &&& 3) % 3) 1
  have r := rng32 (((x &&& 3) % 3) + 1)
  have e1 : (1 : Int32).toInt = 1 := rfl
  have e2 : (2 : Int32).toInt = 2 := rfl
  have e3 : (3 : Int32).toInt = 3 := rfl
  simp only [← Int32.toInt_inj, e1, e2, e3] at *
  omega
theorem own_i1 (x : Int32) : ((x &&& (2147483647 : Int32)) % (1 : Int32)) = (0 : Int32) := by
  have h := own_mod x 1 (by decide)
  rw [← Int32.toInt_inj, show (0 : Int32).toInt = 0 from rfl]; rw [show (1 : Int32).toInt = 1 from rfl] at h; omega
theorem own_i2 (x : Int32) : ((x &&& (2147483647 : Int32)) % (2 : Int32)) = (0 : Int32) ∨ ((x &&& (2147483647 : Int32)) % (2 : Int32)) = (1 : Int32) := by
  have h := own_mod x 2 (by decide)
  simp only [← Int32.toInt_inj, show (0 : Int32).toInt = 0 from rfl, show (1 : Int32).toInt = 1 from rfl]; rw [show (2 : Int32).toInt = 2 from rfl] at h; omega
theorem own_i3 (x : Int32) : ((x &&& (2147483647 : Int32)) % (3 : Int32)) = (0 : Int32) ∨ ((x &&& (2147483647 : Int32)) % (3 : Int32)) = (1 : Int32) ∨ ((x &&& (2147483647 : Int32)) % (3 : Int32)) = (2 : Int32) := by
  have h := own_mod x 3 (by decide)
  simp only [← Int32.toInt_inj, show (0 : Int32).toInt = 0 from rfl, show (1 : Int32).toInt = 1 from rfl, show (2 : Int32).toInt = 2 from rfl]; rw [show (3 : Int32).toInt = 3 from rfl] at h; omega
theorem w0 {Z : State} {a0 : Array Value} (hw : ∀ d ∈ tables_1, d.before a0 Z = true) : (Jvm.Cond.classLink "com/example/caseweave/caseweave/core/IntListGetPinLaw" (7 : Nat) "com/example/caseweave/caseweave/core/IntList").before a0 Z = true := hw _ (List.mem_of_getElem? (i := 0) rfl)
theorem w1 {Z : State} {a0 : Array Value} (hw : ∀ d ∈ tables_1, d.before a0 Z = true) : (Jvm.Cond.instantiable "com/example/caseweave/caseweave/core/IntList" (2 : Nat)).before a0 Z = true := hw _ (List.mem_of_getElem? (i := 1) rfl)
theorem w2 {Z : State} {a0 : Array Value} (hw : ∀ d ∈ tables_1, d.before a0 Z = true) : (Jvm.Cond.initialized "com/example/caseweave/caseweave/core/IntList").before a0 Z = true := hw _ (List.mem_of_getElem? (i := 2) rfl)
theorem w3 {Z : State} {a0 : Array Value} (hw : ∀ d ∈ tables_1, d.before a0 Z = true) : (Jvm.Cond.methodLink "com/example/caseweave/caseweave/core/IntListGetPinLaw" (9 : Nat) ({ cls := "com/example/caseweave/caseweave/core/IntList", name := "<init>", desc := "()V" } : Jvm.MethodName)).before a0 Z = true := hw _ (List.mem_of_getElem? (i := 3) rfl)
theorem w4 {Z : State} {a0 : Array Value} (hw : ∀ d ∈ tables_1, d.before a0 Z = true) : (Jvm.Cond.instanceMethod ({ cls := "com/example/caseweave/caseweave/core/IntList", name := "<init>", desc := "()V" } : Jvm.MethodName)).before a0 Z = true := hw _ (List.mem_of_getElem? (i := 4) rfl)
theorem w5 {Z : State} {a0 : Array Value} (hw : ∀ d ∈ tables_1, d.before a0 Z = true) : (Jvm.Cond.code ({ cls := "com/example/caseweave/caseweave/core/IntList", name := "<init>", desc := "()V" } : Jvm.MethodName) prog_6_method_1_code (1 : Nat) (Option.none : Option Jvm.ClassFile.FieldType)).before a0 Z = true := hw _ (List.mem_of_getElem? (i := 5) rfl)
theorem w6 {Z : State} {a0 : Array Value} (hw : ∀ d ∈ tables_1, d.before a0 Z = true) : (Jvm.Cond.methodLink "com/example/caseweave/caseweave/core/IntList" (3 : Nat) ({ cls := "java/lang/Object", name := "<init>", desc := "()V" } : Jvm.MethodName)).before a0 Z = true := hw _ (List.mem_of_getElem? (i := 6) rfl)
theorem w7 {Z : State} {a0 : Array Value} (hw : ∀ d ∈ tables_1, d.before a0 Z = true) : (Jvm.Cond.instanceMethod ({ cls := "java/lang/Object", name := "<init>", desc := "()V" } : Jvm.MethodName)).before a0 Z = true := hw _ (List.mem_of_getElem? (i := 7) rfl)
theorem w8 {Z : State} {a0 : Array Value} (hw : ∀ d ∈ tables_1, d.before a0 Z = true) : (Jvm.Cond.code ({ cls := "java/lang/Object", name := "<init>", desc := "()V" } : Jvm.MethodName) object_method_1_code (1 : Nat) (Option.none : Option Jvm.ClassFile.FieldType)).before a0 Z = true := hw _ (List.mem_of_getElem? (i := 8) rfl)
theorem w9 {Z : State} {a0 : Array Value} (hw : ∀ d ∈ tables_1, d.before a0 Z = true) : (Jvm.Cond.arrayClass Jvm.ClassFile.FieldType.int).before a0 Z = true := hw _ (List.mem_of_getElem? (i := 9) rfl)
theorem w10 {Z : State} {a0 : Array Value} (hw : ∀ d ∈ tables_1, d.before a0 Z = true) : (Jvm.Cond.fieldLink "com/example/caseweave/caseweave/core/IntList" (9 : Nat) "com/example/caseweave/caseweave/core/IntList" "values" "[I").before a0 Z = true := hw _ (List.mem_of_getElem? (i := 10) rfl)
theorem w11 {Z : State} {a0 : Array Value} (hw : ∀ d ∈ tables_1, d.before a0 Z = true) : (Jvm.Cond.lays "com/example/caseweave/caseweave/core/IntList" "com/example/caseweave/caseweave/core/IntList" "values" "[I").before a0 Z = true := hw _ (List.mem_of_getElem? (i := 11) rfl)
theorem w12 {Z : State} {a0 : Array Value} (hw : ∀ d ∈ tables_1, d.before a0 Z = true) : (Jvm.Cond.methodLink "com/example/caseweave/caseweave/core/IntListGetPinLaw" (10 : Nat) ({ cls := "com/example/caseweave/caseweave/core/IntList", name := "add", desc := "(I)V" } : Jvm.MethodName)).before a0 Z = true := hw _ (List.mem_of_getElem? (i := 12) rfl)
theorem w13 {Z : State} {a0 : Array Value} (hw : ∀ d ∈ tables_1, d.before a0 Z = true) : (Jvm.Cond.declares ({ cls := "com/example/caseweave/caseweave/core/IntList", name := "add", desc := "(I)V" } : Jvm.MethodName)).before a0 Z = true := hw _ (List.mem_of_getElem? (i := 13) rfl)
theorem w14 {Z : State} {a0 : Array Value} (hw : ∀ d ∈ tables_1, d.before a0 Z = true) : (Jvm.Cond.instanceMethod ({ cls := "com/example/caseweave/caseweave/core/IntList", name := "add", desc := "(I)V" } : Jvm.MethodName)).before a0 Z = true := hw _ (List.mem_of_getElem? (i := 14) rfl)
theorem w15 {Z : State} {a0 : Array Value} (hw : ∀ d ∈ tables_1, d.before a0 Z = true) : (Jvm.Cond.selects "com/example/caseweave/caseweave/core/IntList" ({ cls := "com/example/caseweave/caseweave/core/IntList", name := "add", desc := "(I)V" } : Jvm.MethodName) ({ cls := "com/example/caseweave/caseweave/core/IntList", name := "add", desc := "(I)V" } : Jvm.MethodName)).before a0 Z = true := hw _ (List.mem_of_getElem? (i := 15) rfl)
theorem w16 {Z : State} {a0 : Array Value} (hw : ∀ d ∈ tables_1, d.before a0 Z = true) : (Jvm.Cond.code ({ cls := "com/example/caseweave/caseweave/core/IntList", name := "add", desc := "(I)V" } : Jvm.MethodName) prog_6_method_4_code (2 : Nat) (Option.none : Option Jvm.ClassFile.FieldType)).before a0 Z = true := hw _ (List.mem_of_getElem? (i := 16) rfl)
theorem w17 {Z : State} {a0 : Array Value} (hw : ∀ d ∈ tables_1, d.before a0 Z = true) : (Jvm.Cond.fieldLink "com/example/caseweave/caseweave/core/IntList" (15 : Nat) "com/example/caseweave/caseweave/core/IntList" "size" "I").before a0 Z = true := hw _ (List.mem_of_getElem? (i := 17) rfl)
theorem w18 {Z : State} {a0 : Array Value} (hw : ∀ d ∈ tables_1, d.before a0 Z = true) : (Jvm.Cond.lays "com/example/caseweave/caseweave/core/IntList" "com/example/caseweave/caseweave/core/IntList" "size" "I").before a0 Z = true := hw _ (List.mem_of_getElem? (i := 18) rfl)
theorem w19 {Z : State} {a0 : Array Value} (hw : ∀ d ∈ tables_1, d.before a0 Z = true) : (Jvm.Cond.constant "com/example/caseweave/caseweave/core/IntListGetPinLaw" (14 : Nat) (2147483647 : Int32)).before a0 Z = true := hw _ (List.mem_of_getElem? (i := 19) rfl)
theorem w20 {Z : State} {a0 : Array Value} (hw : ∀ d ∈ tables_1, d.before a0 Z = true) : (Jvm.Cond.methodLink "com/example/caseweave/caseweave/core/IntListGetPinLaw" (15 : Nat) ({ cls := "com/example/caseweave/caseweave/core/IntList", name := "size", desc := "()I" } : Jvm.MethodName)).before a0 Z = true := hw _ (List.mem_of_getElem? (i := 20) rfl)
theorem w21 {Z : State} {a0 : Array Value} (hw : ∀ d ∈ tables_1, d.before a0 Z = true) : (Jvm.Cond.declares ({ cls := "com/example/caseweave/caseweave/core/IntList", name := "size", desc := "()I" } : Jvm.MethodName)).before a0 Z = true := hw _ (List.mem_of_getElem? (i := 21) rfl)
theorem w22 {Z : State} {a0 : Array Value} (hw : ∀ d ∈ tables_1, d.before a0 Z = true) : (Jvm.Cond.instanceMethod ({ cls := "com/example/caseweave/caseweave/core/IntList", name := "size", desc := "()I" } : Jvm.MethodName)).before a0 Z = true := hw _ (List.mem_of_getElem? (i := 22) rfl)
theorem w23 {Z : State} {a0 : Array Value} (hw : ∀ d ∈ tables_1, d.before a0 Z = true) : (Jvm.Cond.selects "com/example/caseweave/caseweave/core/IntList" ({ cls := "com/example/caseweave/caseweave/core/IntList", name := "size", desc := "()I" } : Jvm.MethodName) ({ cls := "com/example/caseweave/caseweave/core/IntList", name := "size", desc := "()I" } : Jvm.MethodName)).before a0 Z = true := hw _ (List.mem_of_getElem? (i := 23) rfl)
theorem w24 {Z : State} {a0 : Array Value} (hw : ∀ d ∈ tables_1, d.before a0 Z = true) : (Jvm.Cond.code ({ cls := "com/example/caseweave/caseweave/core/IntList", name := "size", desc := "()I" } : Jvm.MethodName) prog_6_method_2_code (1 : Nat) (Option.some Jvm.ClassFile.FieldType.int)).before a0 Z = true := hw _ (List.mem_of_getElem? (i := 24) rfl)
theorem w25 {Z : State} {a0 : Array Value} (hw : ∀ d ∈ tables_1, d.before a0 Z = true) : (Jvm.Cond.methodLink "com/example/caseweave/caseweave/core/IntListGetPinLaw" (19 : Nat) ({ cls := "com/example/caseweave/caseweave/core/IntList", name := "get", desc := "(I)I" } : Jvm.MethodName)).before a0 Z = true := hw _ (List.mem_of_getElem? (i := 25) rfl)
theorem w26 {Z : State} {a0 : Array Value} (hw : ∀ d ∈ tables_1, d.before a0 Z = true) : (Jvm.Cond.declares ({ cls := "com/example/caseweave/caseweave/core/IntList", name := "get", desc := "(I)I" } : Jvm.MethodName)).before a0 Z = true := hw _ (List.mem_of_getElem? (i := 26) rfl)
theorem w27 {Z : State} {a0 : Array Value} (hw : ∀ d ∈ tables_1, d.before a0 Z = true) : (Jvm.Cond.instanceMethod ({ cls := "com/example/caseweave/caseweave/core/IntList", name := "get", desc := "(I)I" } : Jvm.MethodName)).before a0 Z = true := hw _ (List.mem_of_getElem? (i := 27) rfl)
theorem w28 {Z : State} {a0 : Array Value} (hw : ∀ d ∈ tables_1, d.before a0 Z = true) : (Jvm.Cond.selects "com/example/caseweave/caseweave/core/IntList" ({ cls := "com/example/caseweave/caseweave/core/IntList", name := "get", desc := "(I)I" } : Jvm.MethodName) ({ cls := "com/example/caseweave/caseweave/core/IntList", name := "get", desc := "(I)I" } : Jvm.MethodName)).before a0 Z = true := hw _ (List.mem_of_getElem? (i := 28) rfl)
theorem w29 {Z : State} {a0 : Array Value} (hw : ∀ d ∈ tables_1, d.before a0 Z = true) : (Jvm.Cond.code ({ cls := "com/example/caseweave/caseweave/core/IntList", name := "get", desc := "(I)I" } : Jvm.MethodName) prog_6_method_3_code (2 : Nat) (Option.some Jvm.ClassFile.FieldType.int)).before a0 Z = true := hw _ (List.mem_of_getElem? (i := 29) rfl)
theorem pd0 : parseMethodDescriptor "()V" = some ⟨[], none⟩ := by decide +kernel
theorem pd1 : parseMethodDescriptor "(I)V" = some ⟨[.int], none⟩ := by decide +kernel
theorem pd2 : parseMethodDescriptor "()I" = some ⟨[], some .int⟩ := by decide +kernel
theorem pd3 : parseMethodDescriptor "(I)I" = some ⟨[.int], some .int⟩ := by decide +kernel
theorem pn0 : plainName "com/example/caseweave/caseweave/core/IntList" = true := by first | (simp [plainName, overriddenIn]; done) | decide +kernel
theorem pn1 : plainName "com/example/caseweave/caseweave/core/IntListGetPinLaw" = true := by first | (simp [plainName, overriddenIn]; done) | decide +kernel
theorem d1_0 : decode prog_6_method_1_code 0 = .ok (.aload_n 0, 1) := by decide +kernel
theorem d1_1 : decode prog_6_method_1_code 1 = .ok (.invokespecial 3, 3) := by decide +kernel
theorem d1_4 : decode prog_6_method_1_code 4 = .ok (.aload_n 0, 1) := by decide +kernel
theorem d1_5 : decode prog_6_method_1_code 5 = .ok (.bipush 16, 2) := by decide +kernel
theorem d1_7 : decode prog_6_method_1_code 7 = .ok (.newarray .int, 2) := by decide +kernel
theorem d1_9 : decode prog_6_method_1_code 9 = .ok (.putfield 9, 3) := by decide +kernel
theorem d1_12 : decode prog_6_method_1_code 12 = .ok (.return_, 1) := by decide +kernel
theorem d3_0 : decode prog_6_method_4_code 0 = .ok (.aload_n 0, 1) := by decide +kernel
theorem d3_1 : decode prog_6_method_4_code 1 = .ok (.getfield 15, 3) := by decide +kernel
theorem d3_4 : decode prog_6_method_4_code 4 = .ok (.aload_n 0, 1) := by decide +kernel
theorem d3_5 : decode prog_6_method_4_code 5 = .ok (.getfield 9, 3) := by decide +kernel
theorem d3_8 : decode prog_6_method_4_code 8 = .ok (.arraylength, 1) := by decide +kernel
theorem d3_9 : decode prog_6_method_4_code 9 = .ok (.if_icmp .ne 49, 3) := by decide +kernel
theorem d3_58 : decode prog_6_method_4_code 58 = .ok (.aload_n 0, 1) := by decide +kernel
theorem d3_59 : decode prog_6_method_4_code 59 = .ok (.getfield 9, 3) := by decide +kernel
theorem d3_62 : decode prog_6_method_4_code 62 = .ok (.aload_n 0, 1) := by decide +kernel
theorem d3_63 : decode prog_6_method_4_code 63 = .ok (.dup, 1) := by decide +kernel
theorem d3_64 : decode prog_6_method_4_code 64 = .ok (.getfield 15, 3) := by decide +kernel
theorem d3_67 : decode prog_6_method_4_code 67 = .ok (.dup_x1, 1) := by decide +kernel
theorem d3_68 : decode prog_6_method_4_code 68 = .ok (.iconst 1, 1) := by decide +kernel
theorem d3_69 : decode prog_6_method_4_code 69 = .ok (.iadd, 1) := by decide +kernel
theorem d3_70 : decode prog_6_method_4_code 70 = .ok (.putfield 15, 3) := by decide +kernel
theorem d3_73 : decode prog_6_method_4_code 73 = .ok (.iload_n 1, 1) := by decide +kernel
theorem d3_74 : decode prog_6_method_4_code 74 = .ok (.iastore, 1) := by decide +kernel
theorem d3_75 : decode prog_6_method_4_code 75 = .ok (.return_, 1) := by decide +kernel
theorem d4_0 : decode prog_6_method_2_code 0 = .ok (.aload_n 0, 1) := by decide +kernel
theorem d4_1 : decode prog_6_method_2_code 1 = .ok (.getfield 15, 3) := by decide +kernel
theorem d4_4 : decode prog_6_method_2_code 4 = .ok (.ireturn, 1) := by decide +kernel
theorem d5_0 : decode prog_6_method_3_code 0 = .ok (.iload_n 1, 1) := by decide +kernel
theorem d5_1 : decode prog_6_method_3_code 1 = .ok (.ifCond .lt 11, 3) := by decide +kernel
theorem d5_4 : decode prog_6_method_3_code 4 = .ok (.iload_n 1, 1) := by decide +kernel
theorem d5_5 : decode prog_6_method_3_code 5 = .ok (.aload_n 0, 1) := by decide +kernel
theorem d5_6 : decode prog_6_method_3_code 6 = .ok (.getfield 15, 3) := by decide +kernel
theorem d5_9 : decode prog_6_method_3_code 9 = .ok (.if_icmp .lt 21, 3) := by decide +kernel
theorem d5_30 : decode prog_6_method_3_code 30 = .ok (.aload_n 0, 1) := by decide +kernel
theorem d5_31 : decode prog_6_method_3_code 31 = .ok (.getfield 9, 3) := by decide +kernel
theorem d5_34 : decode prog_6_method_3_code 34 = .ok (.iload_n 1, 1) := by decide +kernel
theorem d5_35 : decode prog_6_method_3_code 35 = .ok (.iaload, 1) := by decide +kernel
theorem d5_36 : decode prog_6_method_3_code 36 = .ok (.ireturn, 1) := by decide +kernel
/-- an IntList at a, its array at b, that holds ys -/
def IL (Z : State) (h : Heap) (a b : Addr) (ys : List Int32) : Prop := Exa Z h a "com/example/caseweave/caseweave/core/IntList" ∧ Fld Z h a "com/example/caseweave/caseweave/core/IntList" "size" "I" (.int ys.length.toInt32) ∧ Fld Z h a "com/example/caseweave/caseweave/core/IntList" "values" "[I" (.ref b) ∧ Ai Z h b .int (ys ++ List.replicate (16 - ys.length) 0) ∧ ys.length ≤ 16
theorem IL.ext {Z : State} {h h' : Heap} {a b : Addr} {ys : List Int32} (H : IL Z h a b ys) (E : Ext h h') : IL Z h' a b ys := ⟨H.1.ext E, H.2.1.ext E, H.2.2.1.ext E, H.2.2.2.1.ext E, H.2.2.2.2⟩
theorem IL.keep {Z : State} {h h' : Heap} {a b : Addr} {ys : List Int32} {ws : List Addr} (H : IL Z h a b ys) (K : Keep h h' ws) (n : a ∉ ws ∧ b ∉ ws) : IL Z h' a b ys := ⟨H.1.keep K, H.2.1.keep K n.1, H.2.2.1.keep K n.1, H.2.2.2.1.keep K n.2, H.2.2.2.2⟩
theorem IL.lt {Z : State} {h : Heap} {a b : Addr} {ys : List Int32} (H : IL Z h a b ys) : a < h.size := H.1.lt
theorem IL.ltb {Z : State} {h : Heap} {a b : Addr} {ys : List Int32} (H : IL Z h a b ys) : b < h.size := H.2.2.2.1.lt
theorem own_il_len (ys : List Int32) (q : ys.length ≤ 16) : (ys ++ List.replicate (16 - ys.length) (0 : Int32)).length = 16 := by simp; omega
theorem own_ti {n : Nat} (h : n < 2147483648) : n.toInt32.toInt = n := len_toInt h
theorem own_tn {n : Nat} (h : n < 2147483648) : n.toInt32.toNatClampNeg = n := by simp only [Int32.toNatClampNeg, own_ti h]; rfl
theorem own_tpos {n : Nat} (h : n < 2147483648) : ¬ n.toInt32 < 0 := by rw [Int32.lt_iff_toInt_lt, own_ti h, show (0 : Int32).toInt = 0 from rfl]; omega
theorem own_t1 (n : Nat) : n.toInt32 + (1 : Int32) = (n + 1).toInt32 := (Int32.ofNat_add n 1).symm
theorem own_ilne {n : Nat} (h : n < 16) : ¬ (n.toInt32 = (16 : Int32)) := by rw [← Int32.toInt_inj, own_ti (by omega), show (16 : Int32).toInt = 16 from rfl]; omega
theorem own_ilset (ys : List Int32) (v : Int32) (q : ys.length < 16) : (ys ++ List.replicate (16 - ys.length) (0 : Int32)).set (ys.length.toInt32.toNatClampNeg) v = (ys ++ [v]) ++ List.replicate (16 - (ys ++ [v]).length) (0 : Int32) := by
  rw [own_tn (by omega)]
  have e : 16 - ys.length = (16 - (ys ++ [v]).length) + 1 := by simp; omega
  rw [e, List.replicate_succ]
  simp

theorem ef_il_init (m : MethodId) (x0 : Addr) : entryFrame m #[(.ref x0)] 1 = mkF m 0 #[.val (.ref x0)] [] := by first | (simp [entryFrame, mkF, argsToLocals, Value.category]; done) | rfl
set_option maxRecDepth 65536 in
set_option maxHeartbeats 40000000 in
theorem il_init (l : Launch) (Z : State) (a0 : Array Value) (hw : ∀ d ∈ tables_1, d.before a0 Z = true) (a : Addr) (h0 : Heap) (n0 : Nat) (Z0 : n0 ≤ h0.size) (E_a : Exa Z h0 a "com/example/caseweave/caseweave/core/IntList") (F_size_a : Fld Z h0 a "com/example/caseweave/caseweave/core/IntList" "size" "I" (.int 0)) (F_values_a : Fld Z h0 a "com/example/caseweave/caseweave/core/IntList" "values" "[I" .null) (g_a : n0 ≤ a) :
    Con l Z (⟨"com/example/caseweave/caseweave/core/IntList", "<init>", "()V"⟩ : MethodName) prog_6_method_1_code 1 none [] ({ frames := 1, cells := 1, slots := 16, locals := 12 } : Room) #[(.ref a)] h0 (fun v h L => v = none ∧ Fr n0 L ∧ Keep h0 h [a] ∧ ∃ b, h0.size ≤ b ∧ IL Z h a b []) := by
  refine Con.mk (plainFor_of_name pn0) ?_
  intro p e s m below meth c T0 hx hby hml hown hnm hret hlk hZ X0 e0
  have hown : s.vm.findClass "com/example/caseweave/caseweave/core/IntList" = some m.cls := hown
  have hnm : meth.name = "<init>" := hnm
  have N0 := Fr.nil n0
  have K0 := Keep.refl h0 [a]
  refine Go.cast (ef_il_init m a) ?_
  refine Go.st (S' := T0.setTop (mkF m 1 #[.val (.ref a)] [(.ref a)])) (fun _ k_ => XS.aloadN X0.here hx rfl (hb hby d1_0) rfl rfl k_) ?_
  obtain ⟨T11, X11, e11, st11⟩ := initO X0 hx hZ hown (w6 hw) (w7 hw) (w8 hw) e0 (g := (mkF m 1 #[.val (.ref a)] [(.ref a)])) rfl (by rw [hml]; rfl) rfl (hb hby d1_1) (by decide) (W := 0) (by show 2 * 0 + _ ≤ _; exact Nat.le_of_eq rfl) (by decide)
  refine Go.st (S' := T11.setTop (mkF m 4 #[.val (.ref a)] [])) (st11) ?_
  refine Go.st (S' := T11.setTop (mkF m 5 #[.val (.ref a)] [(.ref a)])) (fun _ k_ => XS.aloadN X11.here hx rfl (hb hby d1_4) rfl rfl k_) ?_
  refine Go.st (S' := T11.setTop (mkF m 7 #[.val (.ref a)] [(.int (16 : Int32)), (.ref a)])) (fun _ k_ => XS.bipush X11.here hx rfl (hb hby d1_5) k_) ?_
  obtain ⟨T12, h12, b12, X12, e12, q12, E12, A12, st12⟩ := Ai.new X11 hx hZ (aty := .int) (w9 hw) rfl e11 (n := (16 : Int32)) (by decide) 16 (by decide) (by decide) (by decide) (by decide) (g := (mkF m 7 #[.val (.ref a)] [(.int (16 : Int32)), (.ref a)])) rfl rfl (hb hby d1_7)
  have ne_a_b12 : a ≠ b12 := Nat.ne_of_lt (Nat.lt_of_lt_of_le E_a.lt (Nat.le_of_eq q12.symm))
  have g_b12 : n0 ≤ b12 := Nat.le_trans Z0 (Nat.le_of_eq q12.symm)
  have sz_b12 : h0.size ≤ b12 := Nat.le_trans K0.1 (Nat.le_of_eq q12.symm)
  replace E_a := E_a.ext E12
  replace F_size_a := F_size_a.ext E12
  replace F_values_a := F_values_a.ext E12
  replace Z0 := Nat.le_trans Z0 E12.1
  replace K0 := K0.ext E12
  have A_b12 : Ai Z h12 b12 .int [(0 : Int32), (0 : Int32), (0 : Int32), (0 : Int32), (0 : Int32), (0 : Int32), (0 : Int32), (0 : Int32), (0 : Int32), (0 : Int32), (0 : Int32), (0 : Int32), (0 : Int32), (0 : Int32), (0 : Int32), (0 : Int32)] := A12
  refine Go.st (S' := T12.setTop (mkF m 9 #[.val (.ref a)] [(.ref b12), (.ref a)])) (st12) ?_
  obtain ⟨T13, h13, X13, e13, W13, st13⟩ := putF X12 hx hZ hown (host := "") (Or.inl (w10 hw)) Via.refl e12 F_values_a E_a (Or.inl (w11 hw)) (w1 hw) (ty := (.array .int)) (by decide) rfl rfl (g := (mkF m 9 #[.val (.ref a)] [(.ref b12), (.ref a)])) rfl rfl (hb hby d1_9)
  replace F_values_a := F_values_a.same W13
  replace E_a := E_a.wr W13
  replace F_size_a := F_size_a.other W13 (Or.inr (slot_ne (Or.inl (w18 hw)) (Or.inl (w11 hw)) (by decide) (t := .int) (t' := (.array .int)) (by decide) (by decide)))
  replace A_b12 := A_b12.other W13 (Ne.symm ne_a_b12)
  replace Z0 := Nat.le_trans Z0 (Keep.of_wr W13).1
  replace K0 := K0.wr W13 (Or.inl (by simp))
  have N13 := Fr.snoc X13 N0 g_a
  refine Go.st (S' := T13.setTop (mkF m 12 #[.val (.ref a)] [])) (st13) ?_
  exact Go.retV X13 hx hret hlk (hb hby d1_12) (by decide) (by decide) (by rw [e13]; exact ⟨rfl, N13, K0, b12, sz_b12, E_a, F_size_a, F_values_a, A_b12, by decide⟩)
theorem ef_il_add (m : MethodId) (x0 : Addr) (x1 : Int32) : entryFrame m #[(.ref x0), (.int x1)] 2 = mkF m 0 #[.val (.ref x0), .val (.int x1)] [] := by first | (simp [entryFrame, mkF, argsToLocals, Value.category]; done) | rfl
set_option maxRecDepth 65536 in
set_option maxHeartbeats 40000000 in
theorem il_add (l : Launch) (Z : State) (a0 : Array Value) (hw : ∀ d ∈ tables_1, d.before a0 Z = true) (a b : Addr) (x : Int32) (ys : List Int32) (h0 : Heap) (n0 : Nat) (Z0 : n0 ≤ h0.size) (H : IL Z h0 a b ys) (hlt : ys.length < 16) (g_a : n0 ≤ a) (g_b : n0 ≤ b) (ne_a_b : a ≠ b) :
    Con l Z (⟨"com/example/caseweave/caseweave/core/IntList", "add", "(I)V"⟩ : MethodName) prog_6_method_4_code 2 none [] ({ frames := 0, cells := 0, slots := 0, locals := 0 } : Room) #[(.ref a), (.int x)] h0 (fun v h L => v = none ∧ Fr n0 L ∧ Keep h0 h [a, b] ∧ IL Z h a b (ys ++ [x])) := by
  refine Con.mk (plainFor_of_name pn0) ?_
  intro p e s m below meth c T0 hx hby hml hown hnm hret hlk hZ X0 e0
  have hown : s.vm.findClass "com/example/caseweave/caseweave/core/IntList" = some m.cls := hown
  have hnm : meth.name = "add" := hnm
  have N0 := Fr.nil n0
  have K0 := Keep.refl h0 [a, b]
  refine Go.cast (ef_il_add m a x) ?_
  obtain ⟨E_a, F_size_a, F_values_a, A_b, hle⟩ := H
  refine Go.st (S' := T0.setTop (mkF m 1 #[.val (.ref a), .val (.int x)] [(.ref a)])) (fun _ k_ => XS.aloadN X0.here hx rfl (hb hby d3_0) rfl rfl k_) ?_
  obtain ⟨T11, X11, e11, st11⟩ := getF X0 hx hZ hown (host := "") (Or.inl (w17 hw)) Via.refl e0 F_size_a (g := (mkF m 1 #[.val (.ref a), .val (.int x)] [(.ref a)])) rfl rfl (hb hby d3_1)
  refine Go.st (S' := T11.setTop (mkF m 4 #[.val (.ref a), .val (.int x)] [(.int ys.length.toInt32)])) (st11) ?_
  refine Go.st (S' := T11.setTop (mkF m 5 #[.val (.ref a), .val (.int x)] [(.ref a), (.int ys.length.toInt32)])) (fun _ k_ => XS.aloadN X11.here hx rfl (hb hby d3_4) rfl rfl k_) ?_
  obtain ⟨T12, X12, e12, st12⟩ := getF X11 hx hZ hown (host := "") (Or.inl (w10 hw)) Via.refl e11 F_values_a (g := (mkF m 5 #[.val (.ref a), .val (.int x)] [(.ref a), (.int ys.length.toInt32)])) rfl rfl (hb hby d3_5)
  refine Go.st (S' := T12.setTop (mkF m 8 #[.val (.ref a), .val (.int x)] [(.ref b), (.int ys.length.toInt32)])) (st12) ?_
  refine Go.st (S' := T12.setTop (mkF m 9 #[.val (.ref a), .val (.int x)] [(.int (16 : Int32)), (.int ys.length.toInt32)])) (A_b.length X12 hx hZ e12 (n := (16 : Int32)) (by rw [own_il_len ys hle]; rfl) (g := (mkF m 8 #[.val (.ref a), .val (.int x)] [(.ref b), (.int ys.length.toInt32)])) rfl rfl (hb hby d3_8)) ?_
  refine Go.st (S' := T12.setTop (mkF m 58 #[.val (.ref a), .val (.int x)] [])) (fun _ k_ => XS.icmpYes X12.here hx rfl (pc0 := 9) (pc' := 58) rfl (hb hby d3_9) rfl (feq (own_ilne hlt)).2 (by decide) (by decide) k_) ?_
  refine Go.st (S' := T12.setTop (mkF m 59 #[.val (.ref a), .val (.int x)] [(.ref a)])) (fun _ k_ => XS.aloadN X12.here hx rfl (hb hby d3_58) rfl rfl k_) ?_
  obtain ⟨T13, X13, e13, st13⟩ := getF X12 hx hZ hown (host := "") (Or.inl (w10 hw)) Via.refl e12 F_values_a (g := (mkF m 59 #[.val (.ref a), .val (.int x)] [(.ref a)])) rfl rfl (hb hby d3_59)
  refine Go.st (S' := T13.setTop (mkF m 62 #[.val (.ref a), .val (.int x)] [(.ref b)])) (st13) ?_
  refine Go.st (S' := T13.setTop (mkF m 63 #[.val (.ref a), .val (.int x)] [(.ref a), (.ref b)])) (fun _ k_ => XS.aloadN X13.here hx rfl (hb hby d3_62) rfl rfl k_) ?_
  refine Go.st (S' := T13.setTop (mkF m 64 #[.val (.ref a), .val (.int x)] [(.ref a), (.ref a), (.ref b)])) (fun _ k_ => XS.dup X13.here hx rfl (hb hby d3_63) rfl rfl k_) ?_
  obtain ⟨T14, X14, e14, st14⟩ := getF X13 hx hZ hown (host := "") (Or.inl (w17 hw)) Via.refl e13 F_size_a (g := (mkF m 64 #[.val (.ref a), .val (.int x)] [(.ref a), (.ref a), (.ref b)])) rfl rfl (hb hby d3_64)
  refine Go.st (S' := T14.setTop (mkF m 67 #[.val (.ref a), .val (.int x)] [(.int ys.length.toInt32), (.ref a), (.ref b)])) (st14) ?_
  refine Go.st (S' := T14.setTop (mkF m 68 #[.val (.ref a), .val (.int x)] [(.int ys.length.toInt32), (.ref a), (.int ys.length.toInt32), (.ref b)])) (fun _ k_ => XS.dupX1 X14.here hx rfl (hb hby d3_67) rfl rfl rfl k_) ?_
  refine Go.st (S' := T14.setTop (mkF m 69 #[.val (.ref a), .val (.int x)] [(.int (1 : Int32)), (.int ys.length.toInt32), (.ref a), (.int ys.length.toInt32), (.ref b)])) (fun _ k_ => XS.iconst X14.here hx rfl (hb hby d3_68) k_) ?_
  refine Go.st (S' := T14.setTop (mkF m 70 #[.val (.ref a), .val (.int x)] [(.int (ys.length.toInt32 + (1 : Int32))), (.ref a), (.int ys.length.toInt32), (.ref b)])) (fun _ k_ => XS.iadd X14.here hx rfl (hb hby d3_69) rfl k_) ?_
  obtain ⟨T15, h15, X15, e15, W15, st15⟩ := putF X14 hx hZ hown (host := "") (Or.inl (w17 hw)) Via.refl e14 F_size_a E_a (Or.inl (w18 hw)) (w1 hw) (ty := .int) (by decide) rfl rfl (g := (mkF m 70 #[.val (.ref a), .val (.int x)] [(.int (ys.length.toInt32 + (1 : Int32))), (.ref a), (.int ys.length.toInt32), (.ref b)])) rfl rfl (hb hby d3_70)
  replace F_size_a := F_size_a.same W15
  replace E_a := E_a.wr W15
  replace F_values_a := F_values_a.other W15 (Or.inr (slot_ne (Or.inl (w11 hw)) (Or.inl (w18 hw)) (by decide) (t := (.array .int)) (t' := .int) (by decide) (by decide)))
  replace A_b := A_b.other W15 (Ne.symm ne_a_b)
  replace Z0 := Nat.le_trans Z0 (Keep.of_wr W15).1
  replace K0 := K0.wr W15 (Or.inl (by simp))
  have N15 := Fr.snoc X15 N0 g_a
  refine Go.st (S' := T15.setTop (mkF m 73 #[.val (.ref a), .val (.int x)] [(.int ys.length.toInt32), (.ref b)])) (st15) ?_
  refine Go.st (S' := T15.setTop (mkF m 74 #[.val (.ref a), .val (.int x)] [(.int x), (.int ys.length.toInt32), (.ref b)])) (fun _ k_ => XS.iloadN X15.here hx rfl (hb hby d3_73) rfl k_) ?_
  obtain ⟨T16, h16, X16, e16, W16, A16, st16⟩ := A_b.store X15 hx hZ e15 (j := ys.length.toInt32) (own_tpos (by omega)) (by rw [own_tn (by omega), own_il_len ys hle]; exact hlt) (g := (mkF m 74 #[.val (.ref a), .val (.int x)] [(.int x), (.int ys.length.toInt32), (.ref b)])) rfl rfl (hb hby d3_74)
  replace A_b : Ai Z h16 b .int ((ys ++ [x]) ++ List.replicate (16 - (ys ++ [x]).length) 0) := own_ilset ys x hlt ▸ A16
  replace E_a := E_a.wr W16
  replace F_size_a := F_size_a.other W16 (Or.inl ne_a_b)
  replace F_values_a := F_values_a.other W16 (Or.inl ne_a_b)
  replace Z0 := Nat.le_trans Z0 (Keep.of_wr W16).1
  replace K0 := K0.wr W16 (Or.inl (by simp))
  have N16 := Fr.snoc X16 N15 g_b
  refine Go.st (S' := T16.setTop (mkF m 75 #[.val (.ref a), .val (.int x)] [])) (st16) ?_
  exact Go.retV X16 hx hret hlk (hb hby d3_75) (by decide) (by decide) (by rw [e16]; exact ⟨rfl, N16, K0, E_a, by rw [own_t1] at F_size_a; simpa using F_size_a, F_values_a, A_b, by simp; omega⟩)
theorem ef_il_size (m : MethodId) (x0 : Addr) : entryFrame m #[(.ref x0)] 1 = mkF m 0 #[.val (.ref x0)] [] := by first | (simp [entryFrame, mkF, argsToLocals, Value.category]; done) | rfl
set_option maxRecDepth 65536 in
set_option maxHeartbeats 40000000 in
theorem il_size (l : Launch) (Z : State) (a0 : Array Value) (hw : ∀ d ∈ tables_1, d.before a0 Z = true) (a b : Addr) (ys : List Int32) (h0 : Heap) (n0 : Nat) (Z0 : n0 ≤ h0.size) (H : IL Z h0 a b ys) :
    Con l Z (⟨"com/example/caseweave/caseweave/core/IntList", "size", "()I"⟩ : MethodName) prog_6_method_2_code 1 (some .int) [] ({ frames := 0, cells := 0, slots := 0, locals := 0 } : Room) #[(.ref a)] h0 (fun v h L => v = some (.int ys.length.toInt32) ∧ Fr n0 L ∧ h = h0) := by
  refine Con.mk (plainFor_of_name pn0) ?_
  intro p e s m below meth c T0 hx hby hml hown hnm hret hlk hZ X0 e0
  have hown : s.vm.findClass "com/example/caseweave/caseweave/core/IntList" = some m.cls := hown
  have hnm : meth.name = "size" := hnm
  have N0 := Fr.nil n0
  refine Go.cast (ef_il_size m a) ?_
  obtain ⟨E_a, F_size_a, F_values_a, A_b, hle⟩ := H
  refine Go.st (S' := T0.setTop (mkF m 1 #[.val (.ref a)] [(.ref a)])) (fun _ k_ => XS.aloadN X0.here hx rfl (hb hby d4_0) rfl rfl k_) ?_
  obtain ⟨T11, X11, e11, st11⟩ := getF X0 hx hZ hown (host := "") (Or.inl (w17 hw)) Via.refl e0 F_size_a (g := (mkF m 1 #[.val (.ref a)] [(.ref a)])) rfl rfl (hb hby d4_1)
  refine Go.st (S' := T11.setTop (mkF m 4 #[.val (.ref a)] [(.int ys.length.toInt32)])) (st11) ?_
  exact Go.retI X11 hx hret hlk (hb hby d4_4) (by decide) (by decide) (by rw [e11]; exact ⟨rfl, N0, rfl⟩)
theorem ef_il_get (m : MethodId) (x0 : Addr) (x1 : Int32) : entryFrame m #[(.ref x0), (.int x1)] 2 = mkF m 0 #[.val (.ref x0), .val (.int x1)] [] := by first | (simp [entryFrame, mkF, argsToLocals, Value.category]; done) | rfl
set_option maxRecDepth 65536 in
set_option maxHeartbeats 40000000 in
theorem il_get (l : Launch) (Z : State) (a0 : Array Value) (hw : ∀ d ∈ tables_1, d.before a0 Z = true) (a b : Addr) (i x : Int32) (ys : List Int32) (h0 : Heap) (n0 : Nat) (Z0 : n0 ≤ h0.size) (H : IL Z h0 a b ys) (hi : ¬ i < 0) (hx0 : ys[i.toNatClampNeg]? = some x) :
    Con l Z (⟨"com/example/caseweave/caseweave/core/IntList", "get", "(I)I"⟩ : MethodName) prog_6_method_3_code 2 (some .int) [] ({ frames := 0, cells := 0, slots := 0, locals := 0 } : Room) #[(.ref a), (.int i)] h0 (fun v h L => v = some (.int x) ∧ Fr n0 L ∧ h = h0) := by
  refine Con.mk (plainFor_of_name pn0) ?_
  intro p e s m below meth c T0 hx hby hml hown hnm hret hlk hZ X0 e0
  have hown : s.vm.findClass "com/example/caseweave/caseweave/core/IntList" = some m.cls := hown
  have hnm : meth.name = "get" := hnm
  have N0 := Fr.nil n0
  refine Go.cast (ef_il_get m a i) ?_
  obtain ⟨E_a, F_size_a, F_values_a, A_b, hle⟩ := H
  have hil : i < ys.length.toInt32 := own_il_lt hi hx0 hle
  refine Go.st (S' := T0.setTop (mkF m 1 #[.val (.ref a), .val (.int i)] [(.int i)])) (fun _ k_ => XS.iloadN X0.here hx rfl (hb hby d5_0) rfl k_) ?_
  refine Go.st (S' := T0.setTop (mkF m 4 #[.val (.ref a), .val (.int i)] [])) (fun _ k_ => XS.ifNo X0.here hx rfl (hb hby d5_1) rfl ((if0 _ _).trans (flt (hi)).1) k_) ?_
  refine Go.st (S' := T0.setTop (mkF m 5 #[.val (.ref a), .val (.int i)] [(.int i)])) (fun _ k_ => XS.iloadN X0.here hx rfl (hb hby d5_4) rfl k_) ?_
  refine Go.st (S' := T0.setTop (mkF m 6 #[.val (.ref a), .val (.int i)] [(.ref a), (.int i)])) (fun _ k_ => XS.aloadN X0.here hx rfl (hb hby d5_5) rfl rfl k_) ?_
  obtain ⟨T11, X11, e11, st11⟩ := getF X0 hx hZ hown (host := "") (Or.inl (w17 hw)) Via.refl e0 F_size_a (g := (mkF m 6 #[.val (.ref a), .val (.int i)] [(.ref a), (.int i)])) rfl rfl (hb hby d5_6)
  refine Go.st (S' := T11.setTop (mkF m 9 #[.val (.ref a), .val (.int i)] [(.int ys.length.toInt32), (.int i)])) (st11) ?_
  refine Go.st (S' := T11.setTop (mkF m 30 #[.val (.ref a), .val (.int i)] [])) (fun _ k_ => XS.icmpYes X11.here hx rfl (pc0 := 9) (pc' := 30) rfl (hb hby d5_9) rfl (tlt (hil)).1 (by decide) (by decide) k_) ?_
  refine Go.st (S' := T11.setTop (mkF m 31 #[.val (.ref a), .val (.int i)] [(.ref a)])) (fun _ k_ => XS.aloadN X11.here hx rfl (hb hby d5_30) rfl rfl k_) ?_
  obtain ⟨T12, X12, e12, st12⟩ := getF X11 hx hZ hown (host := "") (Or.inl (w10 hw)) Via.refl e11 F_values_a (g := (mkF m 31 #[.val (.ref a), .val (.int i)] [(.ref a)])) rfl rfl (hb hby d5_31)
  refine Go.st (S' := T12.setTop (mkF m 34 #[.val (.ref a), .val (.int i)] [(.ref b)])) (st12) ?_
  refine Go.st (S' := T12.setTop (mkF m 35 #[.val (.ref a), .val (.int i)] [(.int i), (.ref b)])) (fun _ k_ => XS.iloadN X12.here hx rfl (hb hby d5_34) rfl k_) ?_
  refine Go.st (S' := T12.setTop (mkF m 36 #[.val (.ref a), .val (.int i)] [(.int x)])) (A_b.load X12 hx hZ e12 (j := i) (v := x) hi (own_il_at hx0) (g := (mkF m 35 #[.val (.ref a), .val (.int i)] [(.int i), (.ref b)])) rfl rfl (hb hby d5_35)) ?_
  exact Go.retI X12 hx hret hlk (hb hby d5_36) (by decide) (by decide) (by rw [e12]; exact ⟨rfl, N0, rfl⟩)
theorem ef_rm0 (m : MethodId) (x0 : Int32) (x1 : Int32) (x2 : Int32) (x3 : Int32) (x4 : Int32) : entryFrame m #[(.int x0), (.int x1), (.int x2), (.int x3), (.int x4)] maxLocals = mkF m 0 #[.val (.int x0), .val (.int x1), .val (.int x2), .val (.int x3), .val (.int x4), .unset, .unset, .unset, .unset] [] := by first | (simp [entryFrame, mkF, argsToLocals, Value.category, maxLocals]; done) | rfl
set_option maxRecDepth 65536 in
set_option maxHeartbeats 40000000 in
theorem rm0 (l : Launch) (Z : State) (a0 : Array Value) (hw : ∀ d ∈ tables_1, d.before a0 Z = true) (ws : List Jvm.Cond) (p0 : Int32) (p1 : Int32) (p2 : Int32) (p3 : Int32) (p4 : Int32) (h0 : Heap) (n0 : Nat) (Z0 : n0 ≤ h0.size) :
    Con l Z x code maxLocals ret ws room_1 #[(.int p0), (.int p1), (.int p2), (.int p3), (.int p4)] h0 (fun v h L => v = some (.int 1) ∧ Fr n0 L) := by
  refine Con.mk (plainFor_of_name pn1) ?_
  intro p e s m below meth c T0 hx hby hml hown hnm hret hlk hZ X0 e0
  have hret : meth.sig.returnType = some .boolean := hret
  have hml : c.maxLocals = 9 := hml
  have hown : s.vm.findClass "com/example/caseweave/caseweave/core/IntListGetPinLaw" = some m.cls := hown
  have hby : c.code = code := hby
  have N0 := Fr.nil n0
  refine Go.cast (ef_rm0 m p0 p1 p2 p3 p4) ?_
  obtain ⟨T11, h11, X11, e11, E11, A11, D11, -, st11⟩ := newO X0 hx hZ hown (w0 hw) (w1 hw) (w2 hw) e0 (g := (mkF m 0 #[.val (.int p0), .val (.int p1), .val (.int p2), .val (.int p3), .val (.int p4), .unset, .unset, .unset, .unset] [])) rfl (hb hby at_0) (by decide) (by decide)
  obtain ⟨b11, q11⟩ : ∃ z, z = h0.size := ⟨_, rfl⟩
  rw [← q11] at A11 D11 st11
  have g_b11 : n0 ≤ b11 := Nat.le_trans Z0 (Nat.le_of_eq q11.symm)
  replace Z0 := Nat.le_trans Z0 E11.1
  have E_b11 := A11
  have F_values_b11 : Fld Z h11 b11 "com/example/caseweave/caseweave/core/IntList" "values" "[I" .null := D11 (Or.inl (w11 hw)) (ty := (.array .int)) (by decide)
  have F_size_b11 : Fld Z h11 b11 "com/example/caseweave/caseweave/core/IntList" "size" "I" (.int (0 : Int32)) := D11 (Or.inl (w18 hw)) (ty := .int) (by decide)
  refine Go.st (S' := T11.setTop (mkF m 3 #[.val (.int p0), .val (.int p1), .val (.int p2), .val (.int p3), .val (.int p4), .unset, .unset, .unset, .unset] [(.ref b11)])) (st11) ?_
  refine Go.st (S' := T11.setTop (mkF m 4 #[.val (.int p0), .val (.int p1), .val (.int p2), .val (.int p3), .val (.int p4), .unset, .unset, .unset, .unset] [(.ref b11), (.ref b11)])) (fun _ k_ => XS.dup X11.here hx rfl (hb hby at_3) rfl rfl k_) ?_
  obtain ⟨v12, T12, h12, L12, X12, e12, hQ12, st12⟩ := callIn X11 hx hZ rfl hown (w3 hw) (w4 hw) (w2 hw) (w5 hw) (by decide) (W := 1) (argsL := []) (rest := [(.ref b11)]) e11 (il_init l Z a0 hw b11 h11 n0 Z0 E_b11 F_size_b11 F_values_b11 g_b11) (by decide) (by decide) pd0 rfl (g := (mkF m 4 #[.val (.int p0), .val (.int p1), .val (.int p2), .val (.int p3), .val (.int p4), .unset, .unset, .unset, .unset] [(.ref b11), (.ref b11)])) rfl (by rw [hml]; rfl) rfl (by show 2 * 0 + _ ≤ _; exact Nat.le_of_eq rfl) (hb hby at_4) (by decide) (by decide)
  obtain ⟨rfl, Nq12, Kq12, c12, hb12, IL_b11⟩ := hQ12
  have N12 := Fr.app N0 Nq12
  have ne_b11_c12 : b11 ≠ c12 := Nat.ne_of_lt (Nat.lt_of_lt_of_le E_b11.lt hb12)
  have g_c12 : n0 ≤ c12 := Nat.le_trans Z0 hb12
  replace Z0 := Nat.le_trans Z0 Kq12.1
  refine Go.st (S' := T12.setTop (mkF m 7 #[.val (.int p0), .val (.int p1), .val (.int p2), .val (.int p3), .val (.int p4), .unset, .unset, .unset, .unset] [(.ref b11)])) (st12) ?_
  refine Go.st (S' := T12.setTop (mkF m 9 #[.val (.int p0), .val (.int p1), .val (.int p2), .val (.int p3), .val (.int p4), .val (.ref b11), .unset, .unset, .unset] [])) (fun _ k_ => XS.astore X12.here hx rfl (hb hby at_7) rfl rfl (l' := #[.val (.int p0), .val (.int p1), .val (.int p2), .val (.int p3), .val (.int p4), .val (.ref b11), .unset, .unset, .unset]) rfl k_) ?_
  refine Go.st (S' := T12.setTop (mkF m 10 #[.val (.int p0), .val (.int p1), .val (.int p2), .val (.int p3), .val (.int p4), .val (.ref b11), .unset, .unset, .unset] [(.int p3)])) (fun _ k_ => XS.iloadN X12.here hx rfl (hb hby at_9) rfl k_) ?_
  refine Go.st (S' := T12.setTop (mkF m 11 #[.val (.int p0), .val (.int p1), .val (.int p2), .val (.int p3), .val (.int p4), .val (.ref b11), .unset, .unset, .unset] [(.int (3 : Int32)), (.int p3)])) (fun _ k_ => XS.iconst X12.here hx rfl (hb hby at_10) k_) ?_
  refine Go.st (S' := T12.setTop (mkF m 12 #[.val (.int p0), .val (.int p1), .val (.int p2), .val (.int p3), .val (.int p4), .val (.ref b11), .unset, .unset, .unset] [(.int (p3 &&& (3 : Int32)))])) (fun _ k_ => XS.iand X12.here hx rfl (hb hby at_11) rfl k_) ?_
  refine Go.st (S' := T12.setTop (mkF m 13 #[.val (.int p0), .val (.int p1), .val (.int p2), .val (.int p3), .val (.int p4), .val (.ref b11), .unset, .unset, .unset] [(.int (3 : Int32)), (.int (p3 &&& (3 : Int32)))])) (fun _ k_ => XS.iconst X12.here hx rfl (hb hby at_12) k_) ?_
  refine Go.st (S' := T12.setTop (mkF m 14 #[.val (.int p0), .val (.int p1), .val (.int p2), .val (.int p3), .val (.int p4), .val (.ref b11), .unset, .unset, .unset] [(.int ((p3 &&& (3 : Int32)) % (3 : Int32)))])) (fun _ k_ => iremM X12 hx rfl (hb hby at_13) rfl (by decide) k_) ?_
  refine Go.st (S' := T12.setTop (mkF m 15 #[.val (.int p0), .val (.int p1), .val (.int p2), .val (.int p3), .val (.int p4), .val (.ref b11), .unset, .unset, .unset] [(.int (1 : Int32)), (.int ((p3 &&& (3 : Int32)) % (3 : Int32)))])) (fun _ k_ => XS.iconst X12.here hx rfl (hb hby at_14) k_) ?_
  refine Go.st (S' := T12.setTop (mkF m 16 #[.val (.int p0), .val (.int p1), .val (.int p2), .val (.int p3), .val (.int p4), .val (.ref b11), .unset, .unset, .unset] [(.int (((p3 &&& (3 : Int32)) % (3 : Int32)) + (1 : Int32)))])) (fun _ k_ => XS.iadd X12.here hx rfl (hb hby at_15) rfl k_) ?_
  rcases own_n p3 with hq | hq | hq
  · skip
    rw [hq]
    refine Go.st (S' := T12.setTop (mkF m 18 #[.val (.int p0), .val (.int p1), .val (.int p2), .val (.int p3), .val (.int p4), .val (.ref b11), .val (.int (1 : Int32)), .unset, .unset] [])) (fun _ k_ => XS.istore X12.here hx rfl (hb hby at_16) rfl (l' := #[.val (.int p0), .val (.int p1), .val (.int p2), .val (.int p3), .val (.int p4), .val (.ref b11), .val (.int (1 : Int32)), .unset, .unset]) rfl k_) ?_
    refine Go.st (S' := T12.setTop (mkF m 20 #[.val (.int p0), .val (.int p1), .val (.int p2), .val (.int p3), .val (.int p4), .val (.ref b11), .val (.int (1 : Int32)), .unset, .unset] [(.ref b11)])) (fun _ k_ => XS.aload X12.here hx rfl (hb hby at_18) rfl rfl k_) ?_
    refine Go.st (S' := T12.setTop (mkF m 21 #[.val (.int p0), .val (.int p1), .val (.int p2), .val (.int p3), .val (.int p4), .val (.ref b11), .val (.int (1 : Int32)), .unset, .unset] [(.int p0), (.ref b11)])) (fun _ k_ => XS.iloadN X12.here hx rfl (hb hby at_20) rfl k_) ?_
    obtain ⟨v13, T13, h13, L13, X13, e13, hQ13, st13⟩ := callVi X12 hx hZ hown (w12 hw) (w13 hw) (w15 hw) (w14 hw) (w2 hw) (w16 hw) (by decide) (W := 0) (argsL := [(.int p0)]) (rest := []) e12 IL_b11.1 (il_add l Z a0 hw b11 c12 p0 [] h12 n0 Z0 IL_b11 (Nat.le_of_ble_eq_true rfl) g_b11 g_c12 ne_b11_c12) (by decide) (by decide) pd1 rfl (g := (mkF m 21 #[.val (.int p0), .val (.int p1), .val (.int p2), .val (.int p3), .val (.int p4), .val (.ref b11), .val (.int (1 : Int32)), .unset, .unset] [(.int p0), (.ref b11)])) rfl (by rw [hml]; rfl) rfl (by show 2 * 0 + _ ≤ _; exact Nat.le_of_eq rfl) (hb hby at_21) (by decide) (by decide)
    obtain ⟨rfl, Nq13, Kq13, IL_b11⟩ := hQ13
    have N13 := Fr.app N12 Nq13
    replace Z0 := Nat.le_trans Z0 Kq13.1
    refine Go.st (S' := T13.setTop (mkF m 24 #[.val (.int p0), .val (.int p1), .val (.int p2), .val (.int p3), .val (.int p4), .val (.ref b11), .val (.int (1 : Int32)), .unset, .unset] [])) (st13) ?_
    refine Go.st (S' := T13.setTop (mkF m 26 #[.val (.int p0), .val (.int p1), .val (.int p2), .val (.int p3), .val (.int p4), .val (.ref b11), .val (.int (1 : Int32)), .unset, .unset] [(.int (1 : Int32))])) (fun _ k_ => XS.iload X13.here hx rfl (hb hby at_24) rfl k_) ?_
    refine Go.st (S' := T13.setTop (mkF m 27 #[.val (.int p0), .val (.int p1), .val (.int p2), .val (.int p3), .val (.int p4), .val (.ref b11), .val (.int (1 : Int32)), .unset, .unset] [(.int (2 : Int32)), (.int (1 : Int32))])) (fun _ k_ => XS.iconst X13.here hx rfl (hb hby at_26) k_) ?_
    refine Go.st (S' := T13.setTop (mkF m 36 #[.val (.int p0), .val (.int p1), .val (.int p2), .val (.int p3), .val (.int p4), .val (.ref b11), .val (.int (1 : Int32)), .unset, .unset] [])) (fun _ k_ => XS.icmpYes X13.here hx rfl (pc0 := 27) (pc' := 36) rfl (hb hby at_27) rfl (tlt (by decide)).1 (by decide) (by decide) k_) ?_
    refine Go.st (S' := T13.setTop (mkF m 38 #[.val (.int p0), .val (.int p1), .val (.int p2), .val (.int p3), .val (.int p4), .val (.ref b11), .val (.int (1 : Int32)), .unset, .unset] [(.int (1 : Int32))])) (fun _ k_ => XS.iload X13.here hx rfl (hb hby at_36) rfl k_) ?_
    refine Go.st (S' := T13.setTop (mkF m 39 #[.val (.int p0), .val (.int p1), .val (.int p2), .val (.int p3), .val (.int p4), .val (.ref b11), .val (.int (1 : Int32)), .unset, .unset] [(.int (3 : Int32)), (.int (1 : Int32))])) (fun _ k_ => XS.iconst X13.here hx rfl (hb hby at_38) k_) ?_
    refine Go.st (S' := T13.setTop (mkF m 48 #[.val (.int p0), .val (.int p1), .val (.int p2), .val (.int p3), .val (.int p4), .val (.ref b11), .val (.int (1 : Int32)), .unset, .unset] [])) (fun _ k_ => XS.icmpYes X13.here hx rfl (pc0 := 39) (pc' := 48) rfl (hb hby at_39) rfl (tlt (by decide)).1 (by decide) (by decide) k_) ?_
    refine Go.st (S' := T13.setTop (mkF m 50 #[.val (.int p0), .val (.int p1), .val (.int p2), .val (.int p3), .val (.int p4), .val (.ref b11), .val (.int (1 : Int32)), .unset, .unset] [(.int p4)])) (fun _ k_ => XS.iload X13.here hx rfl (hb hby at_48) rfl k_) ?_
    refine Go.st (S' := T13.setTop (mkF m 52 #[.val (.int p0), .val (.int p1), .val (.int p2), .val (.int p3), .val (.int p4), .val (.ref b11), .val (.int (1 : Int32)), .unset, .unset] [(.int (2147483647 : Int32)), (.int p4)])) (X13.ldcInt hx hown (mvT hZ (w19 hw)) (g := (mkF m 50 #[.val (.int p0), .val (.int p1), .val (.int p2), .val (.int p3), .val (.int p4), .val (.ref b11), .val (.int (1 : Int32)), .unset, .unset] [(.int p4)])) rfl (hb hby at_50)) ?_
    refine Go.st (S' := T13.setTop (mkF m 53 #[.val (.int p0), .val (.int p1), .val (.int p2), .val (.int p3), .val (.int p4), .val (.ref b11), .val (.int (1 : Int32)), .unset, .unset] [(.int (p4 &&& (2147483647 : Int32)))])) (fun _ k_ => XS.iand X13.here hx rfl (hb hby at_52) rfl k_) ?_
    refine Go.st (S' := T13.setTop (mkF m 55 #[.val (.int p0), .val (.int p1), .val (.int p2), .val (.int p3), .val (.int p4), .val (.ref b11), .val (.int (1 : Int32)), .unset, .unset] [(.int (1 : Int32)), (.int (p4 &&& (2147483647 : Int32)))])) (fun _ k_ => XS.iload X13.here hx rfl (hb hby at_53) rfl k_) ?_
    refine Go.st (S' := T13.setTop (mkF m 56 #[.val (.int p0), .val (.int p1), .val (.int p2), .val (.int p3), .val (.int p4), .val (.ref b11), .val (.int (1 : Int32)), .unset, .unset] [(.int ((p4 &&& (2147483647 : Int32)) % (1 : Int32)))])) (fun _ k_ => iremM X13 hx rfl (hb hby at_55) rfl (by decide) k_) ?_
    have hq := own_i1 p4
    rw [hq]
    refine Go.st (S' := T13.setTop (mkF m 58 #[.val (.int p0), .val (.int p1), .val (.int p2), .val (.int p3), .val (.int p4), .val (.ref b11), .val (.int (1 : Int32)), .val (.int (0 : Int32)), .unset] [])) (fun _ k_ => XS.istore X13.here hx rfl (hb hby at_56) rfl (l' := #[.val (.int p0), .val (.int p1), .val (.int p2), .val (.int p3), .val (.int p4), .val (.ref b11), .val (.int (1 : Int32)), .val (.int (0 : Int32)), .unset]) rfl k_) ?_
    refine Go.st (S' := T13.setTop (mkF m 60 #[.val (.int p0), .val (.int p1), .val (.int p2), .val (.int p3), .val (.int p4), .val (.ref b11), .val (.int (1 : Int32)), .val (.int (0 : Int32)), .unset] [(.int (0 : Int32))])) (fun _ k_ => XS.iload X13.here hx rfl (hb hby at_58) rfl k_) ?_
    refine Go.st (S' := T13.setTop (mkF m 63 #[.val (.int p0), .val (.int p1), .val (.int p2), .val (.int p3), .val (.int p4), .val (.ref b11), .val (.int (1 : Int32)), .val (.int (0 : Int32)), .unset] [])) (fun _ k_ => XS.ifNo X13.here hx rfl (hb hby at_60) rfl ((if0 _ _).trans (teq (by decide)).2) k_) ?_
    refine Go.st (S' := T13.setTop (mkF m 64 #[.val (.int p0), .val (.int p1), .val (.int p2), .val (.int p3), .val (.int p4), .val (.ref b11), .val (.int (1 : Int32)), .val (.int (0 : Int32)), .unset] [(.int p0)])) (fun _ k_ => XS.iloadN X13.here hx rfl (hb hby at_63) rfl k_) ?_
    refine Go.st (S' := T13.setTop (mkF m 66 #[.val (.int p0), .val (.int p1), .val (.int p2), .val (.int p3), .val (.int p4), .val (.ref b11), .val (.int (1 : Int32)), .val (.int (0 : Int32)), .val (.int p0)] [])) (fun _ k_ => XS.istore X13.here hx rfl (hb hby at_64) rfl (l' := #[.val (.int p0), .val (.int p1), .val (.int p2), .val (.int p3), .val (.int p4), .val (.ref b11), .val (.int (1 : Int32)), .val (.int (0 : Int32)), .val (.int p0)]) rfl k_) ?_
    refine Go.st (S' := T13.setTop (mkF m 84 #[.val (.int p0), .val (.int p1), .val (.int p2), .val (.int p3), .val (.int p4), .val (.ref b11), .val (.int (1 : Int32)), .val (.int (0 : Int32)), .val (.int p0)] [])) (fun _ k_ => XS.goto X13.here hx rfl (pc0 := 66) (pc' := 84) rfl (hb hby at_66) (by decide) (by decide) k_) ?_
    refine Go.st (S' := T13.setTop (mkF m 86 #[.val (.int p0), .val (.int p1), .val (.int p2), .val (.int p3), .val (.int p4), .val (.ref b11), .val (.int (1 : Int32)), .val (.int (0 : Int32)), .val (.int p0)] [(.ref b11)])) (fun _ k_ => XS.aload X13.here hx rfl (hb hby at_84) rfl rfl k_) ?_
    obtain ⟨v14, T14, h14, L14, X14, e14, hQ14, st14⟩ := callVi X13 hx hZ hown (w20 hw) (w21 hw) (w23 hw) (w22 hw) (w2 hw) (w24 hw) (by decide) (W := 0) (argsL := []) (rest := []) e13 IL_b11.1 (il_size l Z a0 hw b11 c12 [p0] h13 n0 Z0 IL_b11) (by decide) (by decide) pd2 rfl (g := (mkF m 86 #[.val (.int p0), .val (.int p1), .val (.int p2), .val (.int p3), .val (.int p4), .val (.ref b11), .val (.int (1 : Int32)), .val (.int (0 : Int32)), .val (.int p0)] [(.ref b11)])) rfl (by rw [hml]; rfl) rfl (by show 2 * 0 + _ ≤ _; exact Nat.le_of_eq rfl) (hb hby at_86) (by decide) (by decide)
    obtain ⟨rfl, Nq14, hh14⟩ := hQ14
    rw [hh14] at e14
    have N14 := Fr.app N13 Nq14
    refine Go.st (S' := T14.setTop (mkF m 89 #[.val (.int p0), .val (.int p1), .val (.int p2), .val (.int p3), .val (.int p4), .val (.ref b11), .val (.int (1 : Int32)), .val (.int (0 : Int32)), .val (.int p0)] [(.int (1 : Int32))])) (st14) ?_
    refine Go.st (S' := T14.setTop (mkF m 91 #[.val (.int p0), .val (.int p1), .val (.int p2), .val (.int p3), .val (.int p4), .val (.ref b11), .val (.int (1 : Int32)), .val (.int (0 : Int32)), .val (.int p0)] [(.int (1 : Int32)), (.int (1 : Int32))])) (fun _ k_ => XS.iload X14.here hx rfl (hb hby at_89) rfl k_) ?_
    refine Go.st (S' := T14.setTop (mkF m 94 #[.val (.int p0), .val (.int p1), .val (.int p2), .val (.int p3), .val (.int p4), .val (.ref b11), .val (.int (1 : Int32)), .val (.int (0 : Int32)), .val (.int p0)] [])) (fun _ k_ => XS.icmpNo X14.here hx rfl (hb hby at_91) rfl (teq (by decide)).2 k_) ?_
    refine Go.st (S' := T14.setTop (mkF m 96 #[.val (.int p0), .val (.int p1), .val (.int p2), .val (.int p3), .val (.int p4), .val (.ref b11), .val (.int (1 : Int32)), .val (.int (0 : Int32)), .val (.int p0)] [(.ref b11)])) (fun _ k_ => XS.aload X14.here hx rfl (hb hby at_94) rfl rfl k_) ?_
    refine Go.st (S' := T14.setTop (mkF m 98 #[.val (.int p0), .val (.int p1), .val (.int p2), .val (.int p3), .val (.int p4), .val (.ref b11), .val (.int (1 : Int32)), .val (.int (0 : Int32)), .val (.int p0)] [(.int (0 : Int32)), (.ref b11)])) (fun _ k_ => XS.iload X14.here hx rfl (hb hby at_96) rfl k_) ?_
    obtain ⟨v15, T15, h15, L15, X15, e15, hQ15, st15⟩ := callVi X14 hx hZ hown (w25 hw) (w26 hw) (w28 hw) (w27 hw) (w2 hw) (w29 hw) (by decide) (W := 0) (argsL := [(.int (0 : Int32))]) (rest := []) e14 IL_b11.1 (il_get l Z a0 hw b11 c12 (0 : Int32) p0 [p0] h13 n0 Z0 IL_b11 (by decide) rfl) (by decide) (by decide) pd3 rfl (g := (mkF m 98 #[.val (.int p0), .val (.int p1), .val (.int p2), .val (.int p3), .val (.int p4), .val (.ref b11), .val (.int (1 : Int32)), .val (.int (0 : Int32)), .val (.int p0)] [(.int (0 : Int32)), (.ref b11)])) rfl (by rw [hml]; rfl) rfl (by show 2 * 0 + _ ≤ _; exact Nat.le_of_eq rfl) (hb hby at_98) (by decide) (by decide)
    obtain ⟨rfl, Nq15, hh15⟩ := hQ15
    rw [hh15] at e15
    have N15 := Fr.app N14 Nq15
    refine Go.st (S' := T15.setTop (mkF m 101 #[.val (.int p0), .val (.int p1), .val (.int p2), .val (.int p3), .val (.int p4), .val (.ref b11), .val (.int (1 : Int32)), .val (.int (0 : Int32)), .val (.int p0)] [(.int p0)])) (st15) ?_
    refine Go.st (S' := T15.setTop (mkF m 103 #[.val (.int p0), .val (.int p1), .val (.int p2), .val (.int p3), .val (.int p4), .val (.ref b11), .val (.int (1 : Int32)), .val (.int (0 : Int32)), .val (.int p0)] [(.int p0), (.int p0)])) (fun _ k_ => XS.iload X15.here hx rfl (hb hby at_101) rfl k_) ?_
    refine Go.st (S' := T15.setTop (mkF m 106 #[.val (.int p0), .val (.int p1), .val (.int p2), .val (.int p3), .val (.int p4), .val (.ref b11), .val (.int (1 : Int32)), .val (.int (0 : Int32)), .val (.int p0)] [])) (fun _ k_ => XS.icmpNo X15.here hx rfl (hb hby at_103) rfl (teq (rfl : p0 = p0)).2 k_) ?_
    refine Go.st (S' := T15.setTop (mkF m 107 #[.val (.int p0), .val (.int p1), .val (.int p2), .val (.int p3), .val (.int p4), .val (.ref b11), .val (.int (1 : Int32)), .val (.int (0 : Int32)), .val (.int p0)] [(.int (1 : Int32))])) (fun _ k_ => XS.iconst X15.here hx rfl (hb hby at_106) k_) ?_
    refine Go.st (S' := T15.setTop (mkF m 111 #[.val (.int p0), .val (.int p1), .val (.int p2), .val (.int p3), .val (.int p4), .val (.ref b11), .val (.int (1 : Int32)), .val (.int (0 : Int32)), .val (.int p0)] [(.int (1 : Int32))])) (fun _ k_ => XS.goto X15.here hx rfl (pc0 := 107) (pc' := 111) rfl (hb hby at_107) (by decide) (by decide) k_) ?_
    exact Go.retN X15 hx (t := .boolean) hret (by simp) hlk (hb hby at_111) (by decide) (by decide) ⟨rfl, N15⟩
  · skip
    rw [hq]
    refine Go.st (S' := T12.setTop (mkF m 18 #[.val (.int p0), .val (.int p1), .val (.int p2), .val (.int p3), .val (.int p4), .val (.ref b11), .val (.int (2 : Int32)), .unset, .unset] [])) (fun _ k_ => XS.istore X12.here hx rfl (hb hby at_16) rfl (l' := #[.val (.int p0), .val (.int p1), .val (.int p2), .val (.int p3), .val (.int p4), .val (.ref b11), .val (.int (2 : Int32)), .unset, .unset]) rfl k_) ?_
    refine Go.st (S' := T12.setTop (mkF m 20 #[.val (.int p0), .val (.int p1), .val (.int p2), .val (.int p3), .val (.int p4), .val (.ref b11), .val (.int (2 : Int32)), .unset, .unset] [(.ref b11)])) (fun _ k_ => XS.aload X12.here hx rfl (hb hby at_18) rfl rfl k_) ?_
    refine Go.st (S' := T12.setTop (mkF m 21 #[.val (.int p0), .val (.int p1), .val (.int p2), .val (.int p3), .val (.int p4), .val (.ref b11), .val (.int (2 : Int32)), .unset, .unset] [(.int p0), (.ref b11)])) (fun _ k_ => XS.iloadN X12.here hx rfl (hb hby at_20) rfl k_) ?_
    obtain ⟨v16, T16, h16, L16, X16, e16, hQ16, st16⟩ := callVi X12 hx hZ hown (w12 hw) (w13 hw) (w15 hw) (w14 hw) (w2 hw) (w16 hw) (by decide) (W := 0) (argsL := [(.int p0)]) (rest := []) e12 IL_b11.1 (il_add l Z a0 hw b11 c12 p0 [] h12 n0 Z0 IL_b11 (Nat.le_of_ble_eq_true rfl) g_b11 g_c12 ne_b11_c12) (by decide) (by decide) pd1 rfl (g := (mkF m 21 #[.val (.int p0), .val (.int p1), .val (.int p2), .val (.int p3), .val (.int p4), .val (.ref b11), .val (.int (2 : Int32)), .unset, .unset] [(.int p0), (.ref b11)])) rfl (by rw [hml]; rfl) rfl (by show 2 * 0 + _ ≤ _; exact Nat.le_of_eq rfl) (hb hby at_21) (by decide) (by decide)
    obtain ⟨rfl, Nq16, Kq16, IL_b11⟩ := hQ16
    have N16 := Fr.app N12 Nq16
    replace Z0 := Nat.le_trans Z0 Kq16.1
    refine Go.st (S' := T16.setTop (mkF m 24 #[.val (.int p0), .val (.int p1), .val (.int p2), .val (.int p3), .val (.int p4), .val (.ref b11), .val (.int (2 : Int32)), .unset, .unset] [])) (st16) ?_
    refine Go.st (S' := T16.setTop (mkF m 26 #[.val (.int p0), .val (.int p1), .val (.int p2), .val (.int p3), .val (.int p4), .val (.ref b11), .val (.int (2 : Int32)), .unset, .unset] [(.int (2 : Int32))])) (fun _ k_ => XS.iload X16.here hx rfl (hb hby at_24) rfl k_) ?_
    refine Go.st (S' := T16.setTop (mkF m 27 #[.val (.int p0), .val (.int p1), .val (.int p2), .val (.int p3), .val (.int p4), .val (.ref b11), .val (.int (2 : Int32)), .unset, .unset] [(.int (2 : Int32)), (.int (2 : Int32))])) (fun _ k_ => XS.iconst X16.here hx rfl (hb hby at_26) k_) ?_
    refine Go.st (S' := T16.setTop (mkF m 30 #[.val (.int p0), .val (.int p1), .val (.int p2), .val (.int p3), .val (.int p4), .val (.ref b11), .val (.int (2 : Int32)), .unset, .unset] [])) (fun _ k_ => XS.icmpNo X16.here hx rfl (hb hby at_27) rfl (flt (by decide)).1 k_) ?_
    refine Go.st (S' := T16.setTop (mkF m 32 #[.val (.int p0), .val (.int p1), .val (.int p2), .val (.int p3), .val (.int p4), .val (.ref b11), .val (.int (2 : Int32)), .unset, .unset] [(.ref b11)])) (fun _ k_ => XS.aload X16.here hx rfl (hb hby at_30) rfl rfl k_) ?_
    refine Go.st (S' := T16.setTop (mkF m 33 #[.val (.int p0), .val (.int p1), .val (.int p2), .val (.int p3), .val (.int p4), .val (.ref b11), .val (.int (2 : Int32)), .unset, .unset] [(.int p1), (.ref b11)])) (fun _ k_ => XS.iloadN X16.here hx rfl (hb hby at_32) rfl k_) ?_
    obtain ⟨v17, T17, h17, L17, X17, e17, hQ17, st17⟩ := callVi X16 hx hZ hown (w12 hw) (w13 hw) (w15 hw) (w14 hw) (w2 hw) (w16 hw) (by decide) (W := 0) (argsL := [(.int p1)]) (rest := []) e16 IL_b11.1 (il_add l Z a0 hw b11 c12 p1 [p0] h16 n0 Z0 IL_b11 (Nat.le_of_ble_eq_true rfl) g_b11 g_c12 ne_b11_c12) (by decide) (by decide) pd1 rfl (g := (mkF m 33 #[.val (.int p0), .val (.int p1), .val (.int p2), .val (.int p3), .val (.int p4), .val (.ref b11), .val (.int (2 : Int32)), .unset, .unset] [(.int p1), (.ref b11)])) rfl (by rw [hml]; rfl) rfl (by show 2 * 0 + _ ≤ _; exact Nat.le_of_eq rfl) (hb hby at_33) (by decide) (by decide)
    obtain ⟨rfl, Nq17, Kq17, IL_b11⟩ := hQ17
    have N17 := Fr.app N16 Nq17
    replace Z0 := Nat.le_trans Z0 Kq17.1
    refine Go.st (S' := T17.setTop (mkF m 36 #[.val (.int p0), .val (.int p1), .val (.int p2), .val (.int p3), .val (.int p4), .val (.ref b11), .val (.int (2 : Int32)), .unset, .unset] [])) (st17) ?_
    refine Go.st (S' := T17.setTop (mkF m 38 #[.val (.int p0), .val (.int p1), .val (.int p2), .val (.int p3), .val (.int p4), .val (.ref b11), .val (.int (2 : Int32)), .unset, .unset] [(.int (2 : Int32))])) (fun _ k_ => XS.iload X17.here hx rfl (hb hby at_36) rfl k_) ?_
    refine Go.st (S' := T17.setTop (mkF m 39 #[.val (.int p0), .val (.int p1), .val (.int p2), .val (.int p3), .val (.int p4), .val (.ref b11), .val (.int (2 : Int32)), .unset, .unset] [(.int (3 : Int32)), (.int (2 : Int32))])) (fun _ k_ => XS.iconst X17.here hx rfl (hb hby at_38) k_) ?_
    refine Go.st (S' := T17.setTop (mkF m 48 #[.val (.int p0), .val (.int p1), .val (.int p2), .val (.int p3), .val (.int p4), .val (.ref b11), .val (.int (2 : Int32)), .unset, .unset] [])) (fun _ k_ => XS.icmpYes X17.here hx rfl (pc0 := 39) (pc' := 48) rfl (hb hby at_39) rfl (tlt (by decide)).1 (by decide) (by decide) k_) ?_
    refine Go.st (S' := T17.setTop (mkF m 50 #[.val (.int p0), .val (.int p1), .val (.int p2), .val (.int p3), .val (.int p4), .val (.ref b11), .val (.int (2 : Int32)), .unset, .unset] [(.int p4)])) (fun _ k_ => XS.iload X17.here hx rfl (hb hby at_48) rfl k_) ?_
    refine Go.st (S' := T17.setTop (mkF m 52 #[.val (.int p0), .val (.int p1), .val (.int p2), .val (.int p3), .val (.int p4), .val (.ref b11), .val (.int (2 : Int32)), .unset, .unset] [(.int (2147483647 : Int32)), (.int p4)])) (X17.ldcInt hx hown (mvT hZ (w19 hw)) (g := (mkF m 50 #[.val (.int p0), .val (.int p1), .val (.int p2), .val (.int p3), .val (.int p4), .val (.ref b11), .val (.int (2 : Int32)), .unset, .unset] [(.int p4)])) rfl (hb hby at_50)) ?_
    refine Go.st (S' := T17.setTop (mkF m 53 #[.val (.int p0), .val (.int p1), .val (.int p2), .val (.int p3), .val (.int p4), .val (.ref b11), .val (.int (2 : Int32)), .unset, .unset] [(.int (p4 &&& (2147483647 : Int32)))])) (fun _ k_ => XS.iand X17.here hx rfl (hb hby at_52) rfl k_) ?_
    refine Go.st (S' := T17.setTop (mkF m 55 #[.val (.int p0), .val (.int p1), .val (.int p2), .val (.int p3), .val (.int p4), .val (.ref b11), .val (.int (2 : Int32)), .unset, .unset] [(.int (2 : Int32)), (.int (p4 &&& (2147483647 : Int32)))])) (fun _ k_ => XS.iload X17.here hx rfl (hb hby at_53) rfl k_) ?_
    refine Go.st (S' := T17.setTop (mkF m 56 #[.val (.int p0), .val (.int p1), .val (.int p2), .val (.int p3), .val (.int p4), .val (.ref b11), .val (.int (2 : Int32)), .unset, .unset] [(.int ((p4 &&& (2147483647 : Int32)) % (2 : Int32)))])) (fun _ k_ => iremM X17 hx rfl (hb hby at_55) rfl (by decide) k_) ?_
    rcases own_i2 p4 with hq | hq
    · skip
      rw [hq]
      refine Go.st (S' := T17.setTop (mkF m 58 #[.val (.int p0), .val (.int p1), .val (.int p2), .val (.int p3), .val (.int p4), .val (.ref b11), .val (.int (2 : Int32)), .val (.int (0 : Int32)), .unset] [])) (fun _ k_ => XS.istore X17.here hx rfl (hb hby at_56) rfl (l' := #[.val (.int p0), .val (.int p1), .val (.int p2), .val (.int p3), .val (.int p4), .val (.ref b11), .val (.int (2 : Int32)), .val (.int (0 : Int32)), .unset]) rfl k_) ?_
      refine Go.st (S' := T17.setTop (mkF m 60 #[.val (.int p0), .val (.int p1), .val (.int p2), .val (.int p3), .val (.int p4), .val (.ref b11), .val (.int (2 : Int32)), .val (.int (0 : Int32)), .unset] [(.int (0 : Int32))])) (fun _ k_ => XS.iload X17.here hx rfl (hb hby at_58) rfl k_) ?_
      refine Go.st (S' := T17.setTop (mkF m 63 #[.val (.int p0), .val (.int p1), .val (.int p2), .val (.int p3), .val (.int p4), .val (.ref b11), .val (.int (2 : Int32)), .val (.int (0 : Int32)), .unset] [])) (fun _ k_ => XS.ifNo X17.here hx rfl (hb hby at_60) rfl ((if0 _ _).trans (teq (by decide)).2) k_) ?_
      refine Go.st (S' := T17.setTop (mkF m 64 #[.val (.int p0), .val (.int p1), .val (.int p2), .val (.int p3), .val (.int p4), .val (.ref b11), .val (.int (2 : Int32)), .val (.int (0 : Int32)), .unset] [(.int p0)])) (fun _ k_ => XS.iloadN X17.here hx rfl (hb hby at_63) rfl k_) ?_
      refine Go.st (S' := T17.setTop (mkF m 66 #[.val (.int p0), .val (.int p1), .val (.int p2), .val (.int p3), .val (.int p4), .val (.ref b11), .val (.int (2 : Int32)), .val (.int (0 : Int32)), .val (.int p0)] [])) (fun _ k_ => XS.istore X17.here hx rfl (hb hby at_64) rfl (l' := #[.val (.int p0), .val (.int p1), .val (.int p2), .val (.int p3), .val (.int p4), .val (.ref b11), .val (.int (2 : Int32)), .val (.int (0 : Int32)), .val (.int p0)]) rfl k_) ?_
      refine Go.st (S' := T17.setTop (mkF m 84 #[.val (.int p0), .val (.int p1), .val (.int p2), .val (.int p3), .val (.int p4), .val (.ref b11), .val (.int (2 : Int32)), .val (.int (0 : Int32)), .val (.int p0)] [])) (fun _ k_ => XS.goto X17.here hx rfl (pc0 := 66) (pc' := 84) rfl (hb hby at_66) (by decide) (by decide) k_) ?_
      refine Go.st (S' := T17.setTop (mkF m 86 #[.val (.int p0), .val (.int p1), .val (.int p2), .val (.int p3), .val (.int p4), .val (.ref b11), .val (.int (2 : Int32)), .val (.int (0 : Int32)), .val (.int p0)] [(.ref b11)])) (fun _ k_ => XS.aload X17.here hx rfl (hb hby at_84) rfl rfl k_) ?_
      obtain ⟨v18, T18, h18, L18, X18, e18, hQ18, st18⟩ := callVi X17 hx hZ hown (w20 hw) (w21 hw) (w23 hw) (w22 hw) (w2 hw) (w24 hw) (by decide) (W := 0) (argsL := []) (rest := []) e17 IL_b11.1 (il_size l Z a0 hw b11 c12 [p0, p1] h17 n0 Z0 IL_b11) (by decide) (by decide) pd2 rfl (g := (mkF m 86 #[.val (.int p0), .val (.int p1), .val (.int p2), .val (.int p3), .val (.int p4), .val (.ref b11), .val (.int (2 : Int32)), .val (.int (0 : Int32)), .val (.int p0)] [(.ref b11)])) rfl (by rw [hml]; rfl) rfl (by show 2 * 0 + _ ≤ _; exact Nat.le_of_eq rfl) (hb hby at_86) (by decide) (by decide)
      obtain ⟨rfl, Nq18, hh18⟩ := hQ18
      rw [hh18] at e18
      have N18 := Fr.app N17 Nq18
      refine Go.st (S' := T18.setTop (mkF m 89 #[.val (.int p0), .val (.int p1), .val (.int p2), .val (.int p3), .val (.int p4), .val (.ref b11), .val (.int (2 : Int32)), .val (.int (0 : Int32)), .val (.int p0)] [(.int (2 : Int32))])) (st18) ?_
      refine Go.st (S' := T18.setTop (mkF m 91 #[.val (.int p0), .val (.int p1), .val (.int p2), .val (.int p3), .val (.int p4), .val (.ref b11), .val (.int (2 : Int32)), .val (.int (0 : Int32)), .val (.int p0)] [(.int (2 : Int32)), (.int (2 : Int32))])) (fun _ k_ => XS.iload X18.here hx rfl (hb hby at_89) rfl k_) ?_
      refine Go.st (S' := T18.setTop (mkF m 94 #[.val (.int p0), .val (.int p1), .val (.int p2), .val (.int p3), .val (.int p4), .val (.ref b11), .val (.int (2 : Int32)), .val (.int (0 : Int32)), .val (.int p0)] [])) (fun _ k_ => XS.icmpNo X18.here hx rfl (hb hby at_91) rfl (teq (by decide)).2 k_) ?_
      refine Go.st (S' := T18.setTop (mkF m 96 #[.val (.int p0), .val (.int p1), .val (.int p2), .val (.int p3), .val (.int p4), .val (.ref b11), .val (.int (2 : Int32)), .val (.int (0 : Int32)), .val (.int p0)] [(.ref b11)])) (fun _ k_ => XS.aload X18.here hx rfl (hb hby at_94) rfl rfl k_) ?_
      refine Go.st (S' := T18.setTop (mkF m 98 #[.val (.int p0), .val (.int p1), .val (.int p2), .val (.int p3), .val (.int p4), .val (.ref b11), .val (.int (2 : Int32)), .val (.int (0 : Int32)), .val (.int p0)] [(.int (0 : Int32)), (.ref b11)])) (fun _ k_ => XS.iload X18.here hx rfl (hb hby at_96) rfl k_) ?_
      obtain ⟨v19, T19, h19, L19, X19, e19, hQ19, st19⟩ := callVi X18 hx hZ hown (w25 hw) (w26 hw) (w28 hw) (w27 hw) (w2 hw) (w29 hw) (by decide) (W := 0) (argsL := [(.int (0 : Int32))]) (rest := []) e18 IL_b11.1 (il_get l Z a0 hw b11 c12 (0 : Int32) p0 [p0, p1] h17 n0 Z0 IL_b11 (by decide) rfl) (by decide) (by decide) pd3 rfl (g := (mkF m 98 #[.val (.int p0), .val (.int p1), .val (.int p2), .val (.int p3), .val (.int p4), .val (.ref b11), .val (.int (2 : Int32)), .val (.int (0 : Int32)), .val (.int p0)] [(.int (0 : Int32)), (.ref b11)])) rfl (by rw [hml]; rfl) rfl (by show 2 * 0 + _ ≤ _; exact Nat.le_of_eq rfl) (hb hby at_98) (by decide) (by decide)
      obtain ⟨rfl, Nq19, hh19⟩ := hQ19
      rw [hh19] at e19
      have N19 := Fr.app N18 Nq19
      refine Go.st (S' := T19.setTop (mkF m 101 #[.val (.int p0), .val (.int p1), .val (.int p2), .val (.int p3), .val (.int p4), .val (.ref b11), .val (.int (2 : Int32)), .val (.int (0 : Int32)), .val (.int p0)] [(.int p0)])) (st19) ?_
      refine Go.st (S' := T19.setTop (mkF m 103 #[.val (.int p0), .val (.int p1), .val (.int p2), .val (.int p3), .val (.int p4), .val (.ref b11), .val (.int (2 : Int32)), .val (.int (0 : Int32)), .val (.int p0)] [(.int p0), (.int p0)])) (fun _ k_ => XS.iload X19.here hx rfl (hb hby at_101) rfl k_) ?_
      refine Go.st (S' := T19.setTop (mkF m 106 #[.val (.int p0), .val (.int p1), .val (.int p2), .val (.int p3), .val (.int p4), .val (.ref b11), .val (.int (2 : Int32)), .val (.int (0 : Int32)), .val (.int p0)] [])) (fun _ k_ => XS.icmpNo X19.here hx rfl (hb hby at_103) rfl (teq (rfl : p0 = p0)).2 k_) ?_
      refine Go.st (S' := T19.setTop (mkF m 107 #[.val (.int p0), .val (.int p1), .val (.int p2), .val (.int p3), .val (.int p4), .val (.ref b11), .val (.int (2 : Int32)), .val (.int (0 : Int32)), .val (.int p0)] [(.int (1 : Int32))])) (fun _ k_ => XS.iconst X19.here hx rfl (hb hby at_106) k_) ?_
      refine Go.st (S' := T19.setTop (mkF m 111 #[.val (.int p0), .val (.int p1), .val (.int p2), .val (.int p3), .val (.int p4), .val (.ref b11), .val (.int (2 : Int32)), .val (.int (0 : Int32)), .val (.int p0)] [(.int (1 : Int32))])) (fun _ k_ => XS.goto X19.here hx rfl (pc0 := 107) (pc' := 111) rfl (hb hby at_107) (by decide) (by decide) k_) ?_
      exact Go.retN X19 hx (t := .boolean) hret (by simp) hlk (hb hby at_111) (by decide) (by decide) ⟨rfl, N19⟩
    · skip
      rw [hq]
      refine Go.st (S' := T17.setTop (mkF m 58 #[.val (.int p0), .val (.int p1), .val (.int p2), .val (.int p3), .val (.int p4), .val (.ref b11), .val (.int (2 : Int32)), .val (.int (1 : Int32)), .unset] [])) (fun _ k_ => XS.istore X17.here hx rfl (hb hby at_56) rfl (l' := #[.val (.int p0), .val (.int p1), .val (.int p2), .val (.int p3), .val (.int p4), .val (.ref b11), .val (.int (2 : Int32)), .val (.int (1 : Int32)), .unset]) rfl k_) ?_
      refine Go.st (S' := T17.setTop (mkF m 60 #[.val (.int p0), .val (.int p1), .val (.int p2), .val (.int p3), .val (.int p4), .val (.ref b11), .val (.int (2 : Int32)), .val (.int (1 : Int32)), .unset] [(.int (1 : Int32))])) (fun _ k_ => XS.iload X17.here hx rfl (hb hby at_58) rfl k_) ?_
      refine Go.st (S' := T17.setTop (mkF m 69 #[.val (.int p0), .val (.int p1), .val (.int p2), .val (.int p3), .val (.int p4), .val (.ref b11), .val (.int (2 : Int32)), .val (.int (1 : Int32)), .unset] [])) (fun _ k_ => XS.ifYes X17.here hx rfl (pc0 := 60) (pc' := 69) rfl (hb hby at_60) rfl ((if0 _ _).trans (feq (by decide)).2) (by decide) (by decide) k_) ?_
      refine Go.st (S' := T17.setTop (mkF m 71 #[.val (.int p0), .val (.int p1), .val (.int p2), .val (.int p3), .val (.int p4), .val (.ref b11), .val (.int (2 : Int32)), .val (.int (1 : Int32)), .unset] [(.int (1 : Int32))])) (fun _ k_ => XS.iload X17.here hx rfl (hb hby at_69) rfl k_) ?_
      refine Go.st (S' := T17.setTop (mkF m 72 #[.val (.int p0), .val (.int p1), .val (.int p2), .val (.int p3), .val (.int p4), .val (.ref b11), .val (.int (2 : Int32)), .val (.int (1 : Int32)), .unset] [(.int (1 : Int32)), (.int (1 : Int32))])) (fun _ k_ => XS.iconst X17.here hx rfl (hb hby at_71) k_) ?_
      refine Go.st (S' := T17.setTop (mkF m 75 #[.val (.int p0), .val (.int p1), .val (.int p2), .val (.int p3), .val (.int p4), .val (.ref b11), .val (.int (2 : Int32)), .val (.int (1 : Int32)), .unset] [])) (fun _ k_ => XS.icmpNo X17.here hx rfl (hb hby at_72) rfl (teq (by decide)).2 k_) ?_
      refine Go.st (S' := T17.setTop (mkF m 76 #[.val (.int p0), .val (.int p1), .val (.int p2), .val (.int p3), .val (.int p4), .val (.ref b11), .val (.int (2 : Int32)), .val (.int (1 : Int32)), .unset] [(.int p1)])) (fun _ k_ => XS.iloadN X17.here hx rfl (hb hby at_75) rfl k_) ?_
      refine Go.st (S' := T17.setTop (mkF m 78 #[.val (.int p0), .val (.int p1), .val (.int p2), .val (.int p3), .val (.int p4), .val (.ref b11), .val (.int (2 : Int32)), .val (.int (1 : Int32)), .val (.int p1)] [])) (fun _ k_ => XS.istore X17.here hx rfl (hb hby at_76) rfl (l' := #[.val (.int p0), .val (.int p1), .val (.int p2), .val (.int p3), .val (.int p4), .val (.ref b11), .val (.int (2 : Int32)), .val (.int (1 : Int32)), .val (.int p1)]) rfl k_) ?_
      refine Go.st (S' := T17.setTop (mkF m 84 #[.val (.int p0), .val (.int p1), .val (.int p2), .val (.int p3), .val (.int p4), .val (.ref b11), .val (.int (2 : Int32)), .val (.int (1 : Int32)), .val (.int p1)] [])) (fun _ k_ => XS.goto X17.here hx rfl (pc0 := 78) (pc' := 84) rfl (hb hby at_78) (by decide) (by decide) k_) ?_
      refine Go.st (S' := T17.setTop (mkF m 86 #[.val (.int p0), .val (.int p1), .val (.int p2), .val (.int p3), .val (.int p4), .val (.ref b11), .val (.int (2 : Int32)), .val (.int (1 : Int32)), .val (.int p1)] [(.ref b11)])) (fun _ k_ => XS.aload X17.here hx rfl (hb hby at_84) rfl rfl k_) ?_
      obtain ⟨v20, T20, h20, L20, X20, e20, hQ20, st20⟩ := callVi X17 hx hZ hown (w20 hw) (w21 hw) (w23 hw) (w22 hw) (w2 hw) (w24 hw) (by decide) (W := 0) (argsL := []) (rest := []) e17 IL_b11.1 (il_size l Z a0 hw b11 c12 [p0, p1] h17 n0 Z0 IL_b11) (by decide) (by decide) pd2 rfl (g := (mkF m 86 #[.val (.int p0), .val (.int p1), .val (.int p2), .val (.int p3), .val (.int p4), .val (.ref b11), .val (.int (2 : Int32)), .val (.int (1 : Int32)), .val (.int p1)] [(.ref b11)])) rfl (by rw [hml]; rfl) rfl (by show 2 * 0 + _ ≤ _; exact Nat.le_of_eq rfl) (hb hby at_86) (by decide) (by decide)
      obtain ⟨rfl, Nq20, hh20⟩ := hQ20
      rw [hh20] at e20
      have N20 := Fr.app N17 Nq20
      refine Go.st (S' := T20.setTop (mkF m 89 #[.val (.int p0), .val (.int p1), .val (.int p2), .val (.int p3), .val (.int p4), .val (.ref b11), .val (.int (2 : Int32)), .val (.int (1 : Int32)), .val (.int p1)] [(.int (2 : Int32))])) (st20) ?_
      refine Go.st (S' := T20.setTop (mkF m 91 #[.val (.int p0), .val (.int p1), .val (.int p2), .val (.int p3), .val (.int p4), .val (.ref b11), .val (.int (2 : Int32)), .val (.int (1 : Int32)), .val (.int p1)] [(.int (2 : Int32)), (.int (2 : Int32))])) (fun _ k_ => XS.iload X20.here hx rfl (hb hby at_89) rfl k_) ?_
      refine Go.st (S' := T20.setTop (mkF m 94 #[.val (.int p0), .val (.int p1), .val (.int p2), .val (.int p3), .val (.int p4), .val (.ref b11), .val (.int (2 : Int32)), .val (.int (1 : Int32)), .val (.int p1)] [])) (fun _ k_ => XS.icmpNo X20.here hx rfl (hb hby at_91) rfl (teq (by decide)).2 k_) ?_
      refine Go.st (S' := T20.setTop (mkF m 96 #[.val (.int p0), .val (.int p1), .val (.int p2), .val (.int p3), .val (.int p4), .val (.ref b11), .val (.int (2 : Int32)), .val (.int (1 : Int32)), .val (.int p1)] [(.ref b11)])) (fun _ k_ => XS.aload X20.here hx rfl (hb hby at_94) rfl rfl k_) ?_
      refine Go.st (S' := T20.setTop (mkF m 98 #[.val (.int p0), .val (.int p1), .val (.int p2), .val (.int p3), .val (.int p4), .val (.ref b11), .val (.int (2 : Int32)), .val (.int (1 : Int32)), .val (.int p1)] [(.int (1 : Int32)), (.ref b11)])) (fun _ k_ => XS.iload X20.here hx rfl (hb hby at_96) rfl k_) ?_
      obtain ⟨v21, T21, h21, L21, X21, e21, hQ21, st21⟩ := callVi X20 hx hZ hown (w25 hw) (w26 hw) (w28 hw) (w27 hw) (w2 hw) (w29 hw) (by decide) (W := 0) (argsL := [(.int (1 : Int32))]) (rest := []) e20 IL_b11.1 (il_get l Z a0 hw b11 c12 (1 : Int32) p1 [p0, p1] h17 n0 Z0 IL_b11 (by decide) rfl) (by decide) (by decide) pd3 rfl (g := (mkF m 98 #[.val (.int p0), .val (.int p1), .val (.int p2), .val (.int p3), .val (.int p4), .val (.ref b11), .val (.int (2 : Int32)), .val (.int (1 : Int32)), .val (.int p1)] [(.int (1 : Int32)), (.ref b11)])) rfl (by rw [hml]; rfl) rfl (by show 2 * 0 + _ ≤ _; exact Nat.le_of_eq rfl) (hb hby at_98) (by decide) (by decide)
      obtain ⟨rfl, Nq21, hh21⟩ := hQ21
      rw [hh21] at e21
      have N21 := Fr.app N20 Nq21
      refine Go.st (S' := T21.setTop (mkF m 101 #[.val (.int p0), .val (.int p1), .val (.int p2), .val (.int p3), .val (.int p4), .val (.ref b11), .val (.int (2 : Int32)), .val (.int (1 : Int32)), .val (.int p1)] [(.int p1)])) (st21) ?_
      refine Go.st (S' := T21.setTop (mkF m 103 #[.val (.int p0), .val (.int p1), .val (.int p2), .val (.int p3), .val (.int p4), .val (.ref b11), .val (.int (2 : Int32)), .val (.int (1 : Int32)), .val (.int p1)] [(.int p1), (.int p1)])) (fun _ k_ => XS.iload X21.here hx rfl (hb hby at_101) rfl k_) ?_
      refine Go.st (S' := T21.setTop (mkF m 106 #[.val (.int p0), .val (.int p1), .val (.int p2), .val (.int p3), .val (.int p4), .val (.ref b11), .val (.int (2 : Int32)), .val (.int (1 : Int32)), .val (.int p1)] [])) (fun _ k_ => XS.icmpNo X21.here hx rfl (hb hby at_103) rfl (teq (rfl : p1 = p1)).2 k_) ?_
      refine Go.st (S' := T21.setTop (mkF m 107 #[.val (.int p0), .val (.int p1), .val (.int p2), .val (.int p3), .val (.int p4), .val (.ref b11), .val (.int (2 : Int32)), .val (.int (1 : Int32)), .val (.int p1)] [(.int (1 : Int32))])) (fun _ k_ => XS.iconst X21.here hx rfl (hb hby at_106) k_) ?_
      refine Go.st (S' := T21.setTop (mkF m 111 #[.val (.int p0), .val (.int p1), .val (.int p2), .val (.int p3), .val (.int p4), .val (.ref b11), .val (.int (2 : Int32)), .val (.int (1 : Int32)), .val (.int p1)] [(.int (1 : Int32))])) (fun _ k_ => XS.goto X21.here hx rfl (pc0 := 107) (pc' := 111) rfl (hb hby at_107) (by decide) (by decide) k_) ?_
      exact Go.retN X21 hx (t := .boolean) hret (by simp) hlk (hb hby at_111) (by decide) (by decide) ⟨rfl, N21⟩
  · skip
    rw [hq]
    refine Go.st (S' := T12.setTop (mkF m 18 #[.val (.int p0), .val (.int p1), .val (.int p2), .val (.int p3), .val (.int p4), .val (.ref b11), .val (.int (3 : Int32)), .unset, .unset] [])) (fun _ k_ => XS.istore X12.here hx rfl (hb hby at_16) rfl (l' := #[.val (.int p0), .val (.int p1), .val (.int p2), .val (.int p3), .val (.int p4), .val (.ref b11), .val (.int (3 : Int32)), .unset, .unset]) rfl k_) ?_
    refine Go.st (S' := T12.setTop (mkF m 20 #[.val (.int p0), .val (.int p1), .val (.int p2), .val (.int p3), .val (.int p4), .val (.ref b11), .val (.int (3 : Int32)), .unset, .unset] [(.ref b11)])) (fun _ k_ => XS.aload X12.here hx rfl (hb hby at_18) rfl rfl k_) ?_
    refine Go.st (S' := T12.setTop (mkF m 21 #[.val (.int p0), .val (.int p1), .val (.int p2), .val (.int p3), .val (.int p4), .val (.ref b11), .val (.int (3 : Int32)), .unset, .unset] [(.int p0), (.ref b11)])) (fun _ k_ => XS.iloadN X12.here hx rfl (hb hby at_20) rfl k_) ?_
    obtain ⟨v22, T22, h22, L22, X22, e22, hQ22, st22⟩ := callVi X12 hx hZ hown (w12 hw) (w13 hw) (w15 hw) (w14 hw) (w2 hw) (w16 hw) (by decide) (W := 0) (argsL := [(.int p0)]) (rest := []) e12 IL_b11.1 (il_add l Z a0 hw b11 c12 p0 [] h12 n0 Z0 IL_b11 (Nat.le_of_ble_eq_true rfl) g_b11 g_c12 ne_b11_c12) (by decide) (by decide) pd1 rfl (g := (mkF m 21 #[.val (.int p0), .val (.int p1), .val (.int p2), .val (.int p3), .val (.int p4), .val (.ref b11), .val (.int (3 : Int32)), .unset, .unset] [(.int p0), (.ref b11)])) rfl (by rw [hml]; rfl) rfl (by show 2 * 0 + _ ≤ _; exact Nat.le_of_eq rfl) (hb hby at_21) (by decide) (by decide)
    obtain ⟨rfl, Nq22, Kq22, IL_b11⟩ := hQ22
    have N22 := Fr.app N12 Nq22
    replace Z0 := Nat.le_trans Z0 Kq22.1
    refine Go.st (S' := T22.setTop (mkF m 24 #[.val (.int p0), .val (.int p1), .val (.int p2), .val (.int p3), .val (.int p4), .val (.ref b11), .val (.int (3 : Int32)), .unset, .unset] [])) (st22) ?_
    refine Go.st (S' := T22.setTop (mkF m 26 #[.val (.int p0), .val (.int p1), .val (.int p2), .val (.int p3), .val (.int p4), .val (.ref b11), .val (.int (3 : Int32)), .unset, .unset] [(.int (3 : Int32))])) (fun _ k_ => XS.iload X22.here hx rfl (hb hby at_24) rfl k_) ?_
    refine Go.st (S' := T22.setTop (mkF m 27 #[.val (.int p0), .val (.int p1), .val (.int p2), .val (.int p3), .val (.int p4), .val (.ref b11), .val (.int (3 : Int32)), .unset, .unset] [(.int (2 : Int32)), (.int (3 : Int32))])) (fun _ k_ => XS.iconst X22.here hx rfl (hb hby at_26) k_) ?_
    refine Go.st (S' := T22.setTop (mkF m 30 #[.val (.int p0), .val (.int p1), .val (.int p2), .val (.int p3), .val (.int p4), .val (.ref b11), .val (.int (3 : Int32)), .unset, .unset] [])) (fun _ k_ => XS.icmpNo X22.here hx rfl (hb hby at_27) rfl (flt (by decide)).1 k_) ?_
    refine Go.st (S' := T22.setTop (mkF m 32 #[.val (.int p0), .val (.int p1), .val (.int p2), .val (.int p3), .val (.int p4), .val (.ref b11), .val (.int (3 : Int32)), .unset, .unset] [(.ref b11)])) (fun _ k_ => XS.aload X22.here hx rfl (hb hby at_30) rfl rfl k_) ?_
    refine Go.st (S' := T22.setTop (mkF m 33 #[.val (.int p0), .val (.int p1), .val (.int p2), .val (.int p3), .val (.int p4), .val (.ref b11), .val (.int (3 : Int32)), .unset, .unset] [(.int p1), (.ref b11)])) (fun _ k_ => XS.iloadN X22.here hx rfl (hb hby at_32) rfl k_) ?_
    obtain ⟨v23, T23, h23, L23, X23, e23, hQ23, st23⟩ := callVi X22 hx hZ hown (w12 hw) (w13 hw) (w15 hw) (w14 hw) (w2 hw) (w16 hw) (by decide) (W := 0) (argsL := [(.int p1)]) (rest := []) e22 IL_b11.1 (il_add l Z a0 hw b11 c12 p1 [p0] h22 n0 Z0 IL_b11 (Nat.le_of_ble_eq_true rfl) g_b11 g_c12 ne_b11_c12) (by decide) (by decide) pd1 rfl (g := (mkF m 33 #[.val (.int p0), .val (.int p1), .val (.int p2), .val (.int p3), .val (.int p4), .val (.ref b11), .val (.int (3 : Int32)), .unset, .unset] [(.int p1), (.ref b11)])) rfl (by rw [hml]; rfl) rfl (by show 2 * 0 + _ ≤ _; exact Nat.le_of_eq rfl) (hb hby at_33) (by decide) (by decide)
    obtain ⟨rfl, Nq23, Kq23, IL_b11⟩ := hQ23
    have N23 := Fr.app N22 Nq23
    replace Z0 := Nat.le_trans Z0 Kq23.1
    refine Go.st (S' := T23.setTop (mkF m 36 #[.val (.int p0), .val (.int p1), .val (.int p2), .val (.int p3), .val (.int p4), .val (.ref b11), .val (.int (3 : Int32)), .unset, .unset] [])) (st23) ?_
    refine Go.st (S' := T23.setTop (mkF m 38 #[.val (.int p0), .val (.int p1), .val (.int p2), .val (.int p3), .val (.int p4), .val (.ref b11), .val (.int (3 : Int32)), .unset, .unset] [(.int (3 : Int32))])) (fun _ k_ => XS.iload X23.here hx rfl (hb hby at_36) rfl k_) ?_
    refine Go.st (S' := T23.setTop (mkF m 39 #[.val (.int p0), .val (.int p1), .val (.int p2), .val (.int p3), .val (.int p4), .val (.ref b11), .val (.int (3 : Int32)), .unset, .unset] [(.int (3 : Int32)), (.int (3 : Int32))])) (fun _ k_ => XS.iconst X23.here hx rfl (hb hby at_38) k_) ?_
    refine Go.st (S' := T23.setTop (mkF m 42 #[.val (.int p0), .val (.int p1), .val (.int p2), .val (.int p3), .val (.int p4), .val (.ref b11), .val (.int (3 : Int32)), .unset, .unset] [])) (fun _ k_ => XS.icmpNo X23.here hx rfl (hb hby at_39) rfl (flt (by decide)).1 k_) ?_
    refine Go.st (S' := T23.setTop (mkF m 44 #[.val (.int p0), .val (.int p1), .val (.int p2), .val (.int p3), .val (.int p4), .val (.ref b11), .val (.int (3 : Int32)), .unset, .unset] [(.ref b11)])) (fun _ k_ => XS.aload X23.here hx rfl (hb hby at_42) rfl rfl k_) ?_
    refine Go.st (S' := T23.setTop (mkF m 45 #[.val (.int p0), .val (.int p1), .val (.int p2), .val (.int p3), .val (.int p4), .val (.ref b11), .val (.int (3 : Int32)), .unset, .unset] [(.int p2), (.ref b11)])) (fun _ k_ => XS.iloadN X23.here hx rfl (hb hby at_44) rfl k_) ?_
    obtain ⟨v24, T24, h24, L24, X24, e24, hQ24, st24⟩ := callVi X23 hx hZ hown (w12 hw) (w13 hw) (w15 hw) (w14 hw) (w2 hw) (w16 hw) (by decide) (W := 0) (argsL := [(.int p2)]) (rest := []) e23 IL_b11.1 (il_add l Z a0 hw b11 c12 p2 [p0, p1] h23 n0 Z0 IL_b11 (Nat.le_of_ble_eq_true rfl) g_b11 g_c12 ne_b11_c12) (by decide) (by decide) pd1 rfl (g := (mkF m 45 #[.val (.int p0), .val (.int p1), .val (.int p2), .val (.int p3), .val (.int p4), .val (.ref b11), .val (.int (3 : Int32)), .unset, .unset] [(.int p2), (.ref b11)])) rfl (by rw [hml]; rfl) rfl (by show 2 * 0 + _ ≤ _; exact Nat.le_of_eq rfl) (hb hby at_45) (by decide) (by decide)
    obtain ⟨rfl, Nq24, Kq24, IL_b11⟩ := hQ24
    have N24 := Fr.app N23 Nq24
    replace Z0 := Nat.le_trans Z0 Kq24.1
    refine Go.st (S' := T24.setTop (mkF m 48 #[.val (.int p0), .val (.int p1), .val (.int p2), .val (.int p3), .val (.int p4), .val (.ref b11), .val (.int (3 : Int32)), .unset, .unset] [])) (st24) ?_
    refine Go.st (S' := T24.setTop (mkF m 50 #[.val (.int p0), .val (.int p1), .val (.int p2), .val (.int p3), .val (.int p4), .val (.ref b11), .val (.int (3 : Int32)), .unset, .unset] [(.int p4)])) (fun _ k_ => XS.iload X24.here hx rfl (hb hby at_48) rfl k_) ?_
    refine Go.st (S' := T24.setTop (mkF m 52 #[.val (.int p0), .val (.int p1), .val (.int p2), .val (.int p3), .val (.int p4), .val (.ref b11), .val (.int (3 : Int32)), .unset, .unset] [(.int (2147483647 : Int32)), (.int p4)])) (X24.ldcInt hx hown (mvT hZ (w19 hw)) (g := (mkF m 50 #[.val (.int p0), .val (.int p1), .val (.int p2), .val (.int p3), .val (.int p4), .val (.ref b11), .val (.int (3 : Int32)), .unset, .unset] [(.int p4)])) rfl (hb hby at_50)) ?_
    refine Go.st (S' := T24.setTop (mkF m 53 #[.val (.int p0), .val (.int p1), .val (.int p2), .val (.int p3), .val (.int p4), .val (.ref b11), .val (.int (3 : Int32)), .unset, .unset] [(.int (p4 &&& (2147483647 : Int32)))])) (fun _ k_ => XS.iand X24.here hx rfl (hb hby at_52) rfl k_) ?_
    refine Go.st (S' := T24.setTop (mkF m 55 #[.val (.int p0), .val (.int p1), .val (.int p2), .val (.int p3), .val (.int p4), .val (.ref b11), .val (.int (3 : Int32)), .unset, .unset] [(.int (3 : Int32)), (.int (p4 &&& (2147483647 : Int32)))])) (fun _ k_ => XS.iload X24.here hx rfl (hb hby at_53) rfl k_) ?_
    refine Go.st (S' := T24.setTop (mkF m 56 #[.val (.int p0), .val (.int p1), .val (.int p2), .val (.int p3), .val (.int p4), .val (.ref b11), .val (.int (3 : Int32)), .unset, .unset] [(.int ((p4 &&& (2147483647 : Int32)) % (3 : Int32)))])) (fun _ k_ => iremM X24 hx rfl (hb hby at_55) rfl (by decide) k_) ?_
    rcases own_i3 p4 with hq | hq | hq
    · skip
      rw [hq]
      refine Go.st (S' := T24.setTop (mkF m 58 #[.val (.int p0), .val (.int p1), .val (.int p2), .val (.int p3), .val (.int p4), .val (.ref b11), .val (.int (3 : Int32)), .val (.int (0 : Int32)), .unset] [])) (fun _ k_ => XS.istore X24.here hx rfl (hb hby at_56) rfl (l' := #[.val (.int p0), .val (.int p1), .val (.int p2), .val (.int p3), .val (.int p4), .val (.ref b11), .val (.int (3 : Int32)), .val (.int (0 : Int32)), .unset]) rfl k_) ?_
      refine Go.st (S' := T24.setTop (mkF m 60 #[.val (.int p0), .val (.int p1), .val (.int p2), .val (.int p3), .val (.int p4), .val (.ref b11), .val (.int (3 : Int32)), .val (.int (0 : Int32)), .unset] [(.int (0 : Int32))])) (fun _ k_ => XS.iload X24.here hx rfl (hb hby at_58) rfl k_) ?_
      refine Go.st (S' := T24.setTop (mkF m 63 #[.val (.int p0), .val (.int p1), .val (.int p2), .val (.int p3), .val (.int p4), .val (.ref b11), .val (.int (3 : Int32)), .val (.int (0 : Int32)), .unset] [])) (fun _ k_ => XS.ifNo X24.here hx rfl (hb hby at_60) rfl ((if0 _ _).trans (teq (by decide)).2) k_) ?_
      refine Go.st (S' := T24.setTop (mkF m 64 #[.val (.int p0), .val (.int p1), .val (.int p2), .val (.int p3), .val (.int p4), .val (.ref b11), .val (.int (3 : Int32)), .val (.int (0 : Int32)), .unset] [(.int p0)])) (fun _ k_ => XS.iloadN X24.here hx rfl (hb hby at_63) rfl k_) ?_
      refine Go.st (S' := T24.setTop (mkF m 66 #[.val (.int p0), .val (.int p1), .val (.int p2), .val (.int p3), .val (.int p4), .val (.ref b11), .val (.int (3 : Int32)), .val (.int (0 : Int32)), .val (.int p0)] [])) (fun _ k_ => XS.istore X24.here hx rfl (hb hby at_64) rfl (l' := #[.val (.int p0), .val (.int p1), .val (.int p2), .val (.int p3), .val (.int p4), .val (.ref b11), .val (.int (3 : Int32)), .val (.int (0 : Int32)), .val (.int p0)]) rfl k_) ?_
      refine Go.st (S' := T24.setTop (mkF m 84 #[.val (.int p0), .val (.int p1), .val (.int p2), .val (.int p3), .val (.int p4), .val (.ref b11), .val (.int (3 : Int32)), .val (.int (0 : Int32)), .val (.int p0)] [])) (fun _ k_ => XS.goto X24.here hx rfl (pc0 := 66) (pc' := 84) rfl (hb hby at_66) (by decide) (by decide) k_) ?_
      refine Go.st (S' := T24.setTop (mkF m 86 #[.val (.int p0), .val (.int p1), .val (.int p2), .val (.int p3), .val (.int p4), .val (.ref b11), .val (.int (3 : Int32)), .val (.int (0 : Int32)), .val (.int p0)] [(.ref b11)])) (fun _ k_ => XS.aload X24.here hx rfl (hb hby at_84) rfl rfl k_) ?_
      obtain ⟨v25, T25, h25, L25, X25, e25, hQ25, st25⟩ := callVi X24 hx hZ hown (w20 hw) (w21 hw) (w23 hw) (w22 hw) (w2 hw) (w24 hw) (by decide) (W := 0) (argsL := []) (rest := []) e24 IL_b11.1 (il_size l Z a0 hw b11 c12 [p0, p1, p2] h24 n0 Z0 IL_b11) (by decide) (by decide) pd2 rfl (g := (mkF m 86 #[.val (.int p0), .val (.int p1), .val (.int p2), .val (.int p3), .val (.int p4), .val (.ref b11), .val (.int (3 : Int32)), .val (.int (0 : Int32)), .val (.int p0)] [(.ref b11)])) rfl (by rw [hml]; rfl) rfl (by show 2 * 0 + _ ≤ _; exact Nat.le_of_eq rfl) (hb hby at_86) (by decide) (by decide)
      obtain ⟨rfl, Nq25, hh25⟩ := hQ25
      rw [hh25] at e25
      have N25 := Fr.app N24 Nq25
      refine Go.st (S' := T25.setTop (mkF m 89 #[.val (.int p0), .val (.int p1), .val (.int p2), .val (.int p3), .val (.int p4), .val (.ref b11), .val (.int (3 : Int32)), .val (.int (0 : Int32)), .val (.int p0)] [(.int (3 : Int32))])) (st25) ?_
      refine Go.st (S' := T25.setTop (mkF m 91 #[.val (.int p0), .val (.int p1), .val (.int p2), .val (.int p3), .val (.int p4), .val (.ref b11), .val (.int (3 : Int32)), .val (.int (0 : Int32)), .val (.int p0)] [(.int (3 : Int32)), (.int (3 : Int32))])) (fun _ k_ => XS.iload X25.here hx rfl (hb hby at_89) rfl k_) ?_
      refine Go.st (S' := T25.setTop (mkF m 94 #[.val (.int p0), .val (.int p1), .val (.int p2), .val (.int p3), .val (.int p4), .val (.ref b11), .val (.int (3 : Int32)), .val (.int (0 : Int32)), .val (.int p0)] [])) (fun _ k_ => XS.icmpNo X25.here hx rfl (hb hby at_91) rfl (teq (by decide)).2 k_) ?_
      refine Go.st (S' := T25.setTop (mkF m 96 #[.val (.int p0), .val (.int p1), .val (.int p2), .val (.int p3), .val (.int p4), .val (.ref b11), .val (.int (3 : Int32)), .val (.int (0 : Int32)), .val (.int p0)] [(.ref b11)])) (fun _ k_ => XS.aload X25.here hx rfl (hb hby at_94) rfl rfl k_) ?_
      refine Go.st (S' := T25.setTop (mkF m 98 #[.val (.int p0), .val (.int p1), .val (.int p2), .val (.int p3), .val (.int p4), .val (.ref b11), .val (.int (3 : Int32)), .val (.int (0 : Int32)), .val (.int p0)] [(.int (0 : Int32)), (.ref b11)])) (fun _ k_ => XS.iload X25.here hx rfl (hb hby at_96) rfl k_) ?_
      obtain ⟨v26, T26, h26, L26, X26, e26, hQ26, st26⟩ := callVi X25 hx hZ hown (w25 hw) (w26 hw) (w28 hw) (w27 hw) (w2 hw) (w29 hw) (by decide) (W := 0) (argsL := [(.int (0 : Int32))]) (rest := []) e25 IL_b11.1 (il_get l Z a0 hw b11 c12 (0 : Int32) p0 [p0, p1, p2] h24 n0 Z0 IL_b11 (by decide) rfl) (by decide) (by decide) pd3 rfl (g := (mkF m 98 #[.val (.int p0), .val (.int p1), .val (.int p2), .val (.int p3), .val (.int p4), .val (.ref b11), .val (.int (3 : Int32)), .val (.int (0 : Int32)), .val (.int p0)] [(.int (0 : Int32)), (.ref b11)])) rfl (by rw [hml]; rfl) rfl (by show 2 * 0 + _ ≤ _; exact Nat.le_of_eq rfl) (hb hby at_98) (by decide) (by decide)
      obtain ⟨rfl, Nq26, hh26⟩ := hQ26
      rw [hh26] at e26
      have N26 := Fr.app N25 Nq26
      refine Go.st (S' := T26.setTop (mkF m 101 #[.val (.int p0), .val (.int p1), .val (.int p2), .val (.int p3), .val (.int p4), .val (.ref b11), .val (.int (3 : Int32)), .val (.int (0 : Int32)), .val (.int p0)] [(.int p0)])) (st26) ?_
      refine Go.st (S' := T26.setTop (mkF m 103 #[.val (.int p0), .val (.int p1), .val (.int p2), .val (.int p3), .val (.int p4), .val (.ref b11), .val (.int (3 : Int32)), .val (.int (0 : Int32)), .val (.int p0)] [(.int p0), (.int p0)])) (fun _ k_ => XS.iload X26.here hx rfl (hb hby at_101) rfl k_) ?_
      refine Go.st (S' := T26.setTop (mkF m 106 #[.val (.int p0), .val (.int p1), .val (.int p2), .val (.int p3), .val (.int p4), .val (.ref b11), .val (.int (3 : Int32)), .val (.int (0 : Int32)), .val (.int p0)] [])) (fun _ k_ => XS.icmpNo X26.here hx rfl (hb hby at_103) rfl (teq (rfl : p0 = p0)).2 k_) ?_
      refine Go.st (S' := T26.setTop (mkF m 107 #[.val (.int p0), .val (.int p1), .val (.int p2), .val (.int p3), .val (.int p4), .val (.ref b11), .val (.int (3 : Int32)), .val (.int (0 : Int32)), .val (.int p0)] [(.int (1 : Int32))])) (fun _ k_ => XS.iconst X26.here hx rfl (hb hby at_106) k_) ?_
      refine Go.st (S' := T26.setTop (mkF m 111 #[.val (.int p0), .val (.int p1), .val (.int p2), .val (.int p3), .val (.int p4), .val (.ref b11), .val (.int (3 : Int32)), .val (.int (0 : Int32)), .val (.int p0)] [(.int (1 : Int32))])) (fun _ k_ => XS.goto X26.here hx rfl (pc0 := 107) (pc' := 111) rfl (hb hby at_107) (by decide) (by decide) k_) ?_
      exact Go.retN X26 hx (t := .boolean) hret (by simp) hlk (hb hby at_111) (by decide) (by decide) ⟨rfl, N26⟩
    · skip
      rw [hq]
      refine Go.st (S' := T24.setTop (mkF m 58 #[.val (.int p0), .val (.int p1), .val (.int p2), .val (.int p3), .val (.int p4), .val (.ref b11), .val (.int (3 : Int32)), .val (.int (1 : Int32)), .unset] [])) (fun _ k_ => XS.istore X24.here hx rfl (hb hby at_56) rfl (l' := #[.val (.int p0), .val (.int p1), .val (.int p2), .val (.int p3), .val (.int p4), .val (.ref b11), .val (.int (3 : Int32)), .val (.int (1 : Int32)), .unset]) rfl k_) ?_
      refine Go.st (S' := T24.setTop (mkF m 60 #[.val (.int p0), .val (.int p1), .val (.int p2), .val (.int p3), .val (.int p4), .val (.ref b11), .val (.int (3 : Int32)), .val (.int (1 : Int32)), .unset] [(.int (1 : Int32))])) (fun _ k_ => XS.iload X24.here hx rfl (hb hby at_58) rfl k_) ?_
      refine Go.st (S' := T24.setTop (mkF m 69 #[.val (.int p0), .val (.int p1), .val (.int p2), .val (.int p3), .val (.int p4), .val (.ref b11), .val (.int (3 : Int32)), .val (.int (1 : Int32)), .unset] [])) (fun _ k_ => XS.ifYes X24.here hx rfl (pc0 := 60) (pc' := 69) rfl (hb hby at_60) rfl ((if0 _ _).trans (feq (by decide)).2) (by decide) (by decide) k_) ?_
      refine Go.st (S' := T24.setTop (mkF m 71 #[.val (.int p0), .val (.int p1), .val (.int p2), .val (.int p3), .val (.int p4), .val (.ref b11), .val (.int (3 : Int32)), .val (.int (1 : Int32)), .unset] [(.int (1 : Int32))])) (fun _ k_ => XS.iload X24.here hx rfl (hb hby at_69) rfl k_) ?_
      refine Go.st (S' := T24.setTop (mkF m 72 #[.val (.int p0), .val (.int p1), .val (.int p2), .val (.int p3), .val (.int p4), .val (.ref b11), .val (.int (3 : Int32)), .val (.int (1 : Int32)), .unset] [(.int (1 : Int32)), (.int (1 : Int32))])) (fun _ k_ => XS.iconst X24.here hx rfl (hb hby at_71) k_) ?_
      refine Go.st (S' := T24.setTop (mkF m 75 #[.val (.int p0), .val (.int p1), .val (.int p2), .val (.int p3), .val (.int p4), .val (.ref b11), .val (.int (3 : Int32)), .val (.int (1 : Int32)), .unset] [])) (fun _ k_ => XS.icmpNo X24.here hx rfl (hb hby at_72) rfl (teq (by decide)).2 k_) ?_
      refine Go.st (S' := T24.setTop (mkF m 76 #[.val (.int p0), .val (.int p1), .val (.int p2), .val (.int p3), .val (.int p4), .val (.ref b11), .val (.int (3 : Int32)), .val (.int (1 : Int32)), .unset] [(.int p1)])) (fun _ k_ => XS.iloadN X24.here hx rfl (hb hby at_75) rfl k_) ?_
      refine Go.st (S' := T24.setTop (mkF m 78 #[.val (.int p0), .val (.int p1), .val (.int p2), .val (.int p3), .val (.int p4), .val (.ref b11), .val (.int (3 : Int32)), .val (.int (1 : Int32)), .val (.int p1)] [])) (fun _ k_ => XS.istore X24.here hx rfl (hb hby at_76) rfl (l' := #[.val (.int p0), .val (.int p1), .val (.int p2), .val (.int p3), .val (.int p4), .val (.ref b11), .val (.int (3 : Int32)), .val (.int (1 : Int32)), .val (.int p1)]) rfl k_) ?_
      refine Go.st (S' := T24.setTop (mkF m 84 #[.val (.int p0), .val (.int p1), .val (.int p2), .val (.int p3), .val (.int p4), .val (.ref b11), .val (.int (3 : Int32)), .val (.int (1 : Int32)), .val (.int p1)] [])) (fun _ k_ => XS.goto X24.here hx rfl (pc0 := 78) (pc' := 84) rfl (hb hby at_78) (by decide) (by decide) k_) ?_
      refine Go.st (S' := T24.setTop (mkF m 86 #[.val (.int p0), .val (.int p1), .val (.int p2), .val (.int p3), .val (.int p4), .val (.ref b11), .val (.int (3 : Int32)), .val (.int (1 : Int32)), .val (.int p1)] [(.ref b11)])) (fun _ k_ => XS.aload X24.here hx rfl (hb hby at_84) rfl rfl k_) ?_
      obtain ⟨v27, T27, h27, L27, X27, e27, hQ27, st27⟩ := callVi X24 hx hZ hown (w20 hw) (w21 hw) (w23 hw) (w22 hw) (w2 hw) (w24 hw) (by decide) (W := 0) (argsL := []) (rest := []) e24 IL_b11.1 (il_size l Z a0 hw b11 c12 [p0, p1, p2] h24 n0 Z0 IL_b11) (by decide) (by decide) pd2 rfl (g := (mkF m 86 #[.val (.int p0), .val (.int p1), .val (.int p2), .val (.int p3), .val (.int p4), .val (.ref b11), .val (.int (3 : Int32)), .val (.int (1 : Int32)), .val (.int p1)] [(.ref b11)])) rfl (by rw [hml]; rfl) rfl (by show 2 * 0 + _ ≤ _; exact Nat.le_of_eq rfl) (hb hby at_86) (by decide) (by decide)
      obtain ⟨rfl, Nq27, hh27⟩ := hQ27
      rw [hh27] at e27
      have N27 := Fr.app N24 Nq27
      refine Go.st (S' := T27.setTop (mkF m 89 #[.val (.int p0), .val (.int p1), .val (.int p2), .val (.int p3), .val (.int p4), .val (.ref b11), .val (.int (3 : Int32)), .val (.int (1 : Int32)), .val (.int p1)] [(.int (3 : Int32))])) (st27) ?_
      refine Go.st (S' := T27.setTop (mkF m 91 #[.val (.int p0), .val (.int p1), .val (.int p2), .val (.int p3), .val (.int p4), .val (.ref b11), .val (.int (3 : Int32)), .val (.int (1 : Int32)), .val (.int p1)] [(.int (3 : Int32)), (.int (3 : Int32))])) (fun _ k_ => XS.iload X27.here hx rfl (hb hby at_89) rfl k_) ?_
      refine Go.st (S' := T27.setTop (mkF m 94 #[.val (.int p0), .val (.int p1), .val (.int p2), .val (.int p3), .val (.int p4), .val (.ref b11), .val (.int (3 : Int32)), .val (.int (1 : Int32)), .val (.int p1)] [])) (fun _ k_ => XS.icmpNo X27.here hx rfl (hb hby at_91) rfl (teq (by decide)).2 k_) ?_
      refine Go.st (S' := T27.setTop (mkF m 96 #[.val (.int p0), .val (.int p1), .val (.int p2), .val (.int p3), .val (.int p4), .val (.ref b11), .val (.int (3 : Int32)), .val (.int (1 : Int32)), .val (.int p1)] [(.ref b11)])) (fun _ k_ => XS.aload X27.here hx rfl (hb hby at_94) rfl rfl k_) ?_
      refine Go.st (S' := T27.setTop (mkF m 98 #[.val (.int p0), .val (.int p1), .val (.int p2), .val (.int p3), .val (.int p4), .val (.ref b11), .val (.int (3 : Int32)), .val (.int (1 : Int32)), .val (.int p1)] [(.int (1 : Int32)), (.ref b11)])) (fun _ k_ => XS.iload X27.here hx rfl (hb hby at_96) rfl k_) ?_
      obtain ⟨v28, T28, h28, L28, X28, e28, hQ28, st28⟩ := callVi X27 hx hZ hown (w25 hw) (w26 hw) (w28 hw) (w27 hw) (w2 hw) (w29 hw) (by decide) (W := 0) (argsL := [(.int (1 : Int32))]) (rest := []) e27 IL_b11.1 (il_get l Z a0 hw b11 c12 (1 : Int32) p1 [p0, p1, p2] h24 n0 Z0 IL_b11 (by decide) rfl) (by decide) (by decide) pd3 rfl (g := (mkF m 98 #[.val (.int p0), .val (.int p1), .val (.int p2), .val (.int p3), .val (.int p4), .val (.ref b11), .val (.int (3 : Int32)), .val (.int (1 : Int32)), .val (.int p1)] [(.int (1 : Int32)), (.ref b11)])) rfl (by rw [hml]; rfl) rfl (by show 2 * 0 + _ ≤ _; exact Nat.le_of_eq rfl) (hb hby at_98) (by decide) (by decide)
      obtain ⟨rfl, Nq28, hh28⟩ := hQ28
      rw [hh28] at e28
      have N28 := Fr.app N27 Nq28
      refine Go.st (S' := T28.setTop (mkF m 101 #[.val (.int p0), .val (.int p1), .val (.int p2), .val (.int p3), .val (.int p4), .val (.ref b11), .val (.int (3 : Int32)), .val (.int (1 : Int32)), .val (.int p1)] [(.int p1)])) (st28) ?_
      refine Go.st (S' := T28.setTop (mkF m 103 #[.val (.int p0), .val (.int p1), .val (.int p2), .val (.int p3), .val (.int p4), .val (.ref b11), .val (.int (3 : Int32)), .val (.int (1 : Int32)), .val (.int p1)] [(.int p1), (.int p1)])) (fun _ k_ => XS.iload X28.here hx rfl (hb hby at_101) rfl k_) ?_
      refine Go.st (S' := T28.setTop (mkF m 106 #[.val (.int p0), .val (.int p1), .val (.int p2), .val (.int p3), .val (.int p4), .val (.ref b11), .val (.int (3 : Int32)), .val (.int (1 : Int32)), .val (.int p1)] [])) (fun _ k_ => XS.icmpNo X28.here hx rfl (hb hby at_103) rfl (teq (rfl : p1 = p1)).2 k_) ?_
      refine Go.st (S' := T28.setTop (mkF m 107 #[.val (.int p0), .val (.int p1), .val (.int p2), .val (.int p3), .val (.int p4), .val (.ref b11), .val (.int (3 : Int32)), .val (.int (1 : Int32)), .val (.int p1)] [(.int (1 : Int32))])) (fun _ k_ => XS.iconst X28.here hx rfl (hb hby at_106) k_) ?_
      refine Go.st (S' := T28.setTop (mkF m 111 #[.val (.int p0), .val (.int p1), .val (.int p2), .val (.int p3), .val (.int p4), .val (.ref b11), .val (.int (3 : Int32)), .val (.int (1 : Int32)), .val (.int p1)] [(.int (1 : Int32))])) (fun _ k_ => XS.goto X28.here hx rfl (pc0 := 107) (pc' := 111) rfl (hb hby at_107) (by decide) (by decide) k_) ?_
      exact Go.retN X28 hx (t := .boolean) hret (by simp) hlk (hb hby at_111) (by decide) (by decide) ⟨rfl, N28⟩
    · skip
      rw [hq]
      refine Go.st (S' := T24.setTop (mkF m 58 #[.val (.int p0), .val (.int p1), .val (.int p2), .val (.int p3), .val (.int p4), .val (.ref b11), .val (.int (3 : Int32)), .val (.int (2 : Int32)), .unset] [])) (fun _ k_ => XS.istore X24.here hx rfl (hb hby at_56) rfl (l' := #[.val (.int p0), .val (.int p1), .val (.int p2), .val (.int p3), .val (.int p4), .val (.ref b11), .val (.int (3 : Int32)), .val (.int (2 : Int32)), .unset]) rfl k_) ?_
      refine Go.st (S' := T24.setTop (mkF m 60 #[.val (.int p0), .val (.int p1), .val (.int p2), .val (.int p3), .val (.int p4), .val (.ref b11), .val (.int (3 : Int32)), .val (.int (2 : Int32)), .unset] [(.int (2 : Int32))])) (fun _ k_ => XS.iload X24.here hx rfl (hb hby at_58) rfl k_) ?_
      refine Go.st (S' := T24.setTop (mkF m 69 #[.val (.int p0), .val (.int p1), .val (.int p2), .val (.int p3), .val (.int p4), .val (.ref b11), .val (.int (3 : Int32)), .val (.int (2 : Int32)), .unset] [])) (fun _ k_ => XS.ifYes X24.here hx rfl (pc0 := 60) (pc' := 69) rfl (hb hby at_60) rfl ((if0 _ _).trans (feq (by decide)).2) (by decide) (by decide) k_) ?_
      refine Go.st (S' := T24.setTop (mkF m 71 #[.val (.int p0), .val (.int p1), .val (.int p2), .val (.int p3), .val (.int p4), .val (.ref b11), .val (.int (3 : Int32)), .val (.int (2 : Int32)), .unset] [(.int (2 : Int32))])) (fun _ k_ => XS.iload X24.here hx rfl (hb hby at_69) rfl k_) ?_
      refine Go.st (S' := T24.setTop (mkF m 72 #[.val (.int p0), .val (.int p1), .val (.int p2), .val (.int p3), .val (.int p4), .val (.ref b11), .val (.int (3 : Int32)), .val (.int (2 : Int32)), .unset] [(.int (1 : Int32)), (.int (2 : Int32))])) (fun _ k_ => XS.iconst X24.here hx rfl (hb hby at_71) k_) ?_
      refine Go.st (S' := T24.setTop (mkF m 81 #[.val (.int p0), .val (.int p1), .val (.int p2), .val (.int p3), .val (.int p4), .val (.ref b11), .val (.int (3 : Int32)), .val (.int (2 : Int32)), .unset] [])) (fun _ k_ => XS.icmpYes X24.here hx rfl (pc0 := 72) (pc' := 81) rfl (hb hby at_72) rfl (feq (by decide)).2 (by decide) (by decide) k_) ?_
      refine Go.st (S' := T24.setTop (mkF m 82 #[.val (.int p0), .val (.int p1), .val (.int p2), .val (.int p3), .val (.int p4), .val (.ref b11), .val (.int (3 : Int32)), .val (.int (2 : Int32)), .unset] [(.int p2)])) (fun _ k_ => XS.iloadN X24.here hx rfl (hb hby at_81) rfl k_) ?_
      refine Go.st (S' := T24.setTop (mkF m 84 #[.val (.int p0), .val (.int p1), .val (.int p2), .val (.int p3), .val (.int p4), .val (.ref b11), .val (.int (3 : Int32)), .val (.int (2 : Int32)), .val (.int p2)] [])) (fun _ k_ => XS.istore X24.here hx rfl (hb hby at_82) rfl (l' := #[.val (.int p0), .val (.int p1), .val (.int p2), .val (.int p3), .val (.int p4), .val (.ref b11), .val (.int (3 : Int32)), .val (.int (2 : Int32)), .val (.int p2)]) rfl k_) ?_
      refine Go.st (S' := T24.setTop (mkF m 86 #[.val (.int p0), .val (.int p1), .val (.int p2), .val (.int p3), .val (.int p4), .val (.ref b11), .val (.int (3 : Int32)), .val (.int (2 : Int32)), .val (.int p2)] [(.ref b11)])) (fun _ k_ => XS.aload X24.here hx rfl (hb hby at_84) rfl rfl k_) ?_
      obtain ⟨v29, T29, h29, L29, X29, e29, hQ29, st29⟩ := callVi X24 hx hZ hown (w20 hw) (w21 hw) (w23 hw) (w22 hw) (w2 hw) (w24 hw) (by decide) (W := 0) (argsL := []) (rest := []) e24 IL_b11.1 (il_size l Z a0 hw b11 c12 [p0, p1, p2] h24 n0 Z0 IL_b11) (by decide) (by decide) pd2 rfl (g := (mkF m 86 #[.val (.int p0), .val (.int p1), .val (.int p2), .val (.int p3), .val (.int p4), .val (.ref b11), .val (.int (3 : Int32)), .val (.int (2 : Int32)), .val (.int p2)] [(.ref b11)])) rfl (by rw [hml]; rfl) rfl (by show 2 * 0 + _ ≤ _; exact Nat.le_of_eq rfl) (hb hby at_86) (by decide) (by decide)
      obtain ⟨rfl, Nq29, hh29⟩ := hQ29
      rw [hh29] at e29
      have N29 := Fr.app N24 Nq29
      refine Go.st (S' := T29.setTop (mkF m 89 #[.val (.int p0), .val (.int p1), .val (.int p2), .val (.int p3), .val (.int p4), .val (.ref b11), .val (.int (3 : Int32)), .val (.int (2 : Int32)), .val (.int p2)] [(.int (3 : Int32))])) (st29) ?_
      refine Go.st (S' := T29.setTop (mkF m 91 #[.val (.int p0), .val (.int p1), .val (.int p2), .val (.int p3), .val (.int p4), .val (.ref b11), .val (.int (3 : Int32)), .val (.int (2 : Int32)), .val (.int p2)] [(.int (3 : Int32)), (.int (3 : Int32))])) (fun _ k_ => XS.iload X29.here hx rfl (hb hby at_89) rfl k_) ?_
      refine Go.st (S' := T29.setTop (mkF m 94 #[.val (.int p0), .val (.int p1), .val (.int p2), .val (.int p3), .val (.int p4), .val (.ref b11), .val (.int (3 : Int32)), .val (.int (2 : Int32)), .val (.int p2)] [])) (fun _ k_ => XS.icmpNo X29.here hx rfl (hb hby at_91) rfl (teq (by decide)).2 k_) ?_
      refine Go.st (S' := T29.setTop (mkF m 96 #[.val (.int p0), .val (.int p1), .val (.int p2), .val (.int p3), .val (.int p4), .val (.ref b11), .val (.int (3 : Int32)), .val (.int (2 : Int32)), .val (.int p2)] [(.ref b11)])) (fun _ k_ => XS.aload X29.here hx rfl (hb hby at_94) rfl rfl k_) ?_
      refine Go.st (S' := T29.setTop (mkF m 98 #[.val (.int p0), .val (.int p1), .val (.int p2), .val (.int p3), .val (.int p4), .val (.ref b11), .val (.int (3 : Int32)), .val (.int (2 : Int32)), .val (.int p2)] [(.int (2 : Int32)), (.ref b11)])) (fun _ k_ => XS.iload X29.here hx rfl (hb hby at_96) rfl k_) ?_
      obtain ⟨v30, T30, h30, L30, X30, e30, hQ30, st30⟩ := callVi X29 hx hZ hown (w25 hw) (w26 hw) (w28 hw) (w27 hw) (w2 hw) (w29 hw) (by decide) (W := 0) (argsL := [(.int (2 : Int32))]) (rest := []) e29 IL_b11.1 (il_get l Z a0 hw b11 c12 (2 : Int32) p2 [p0, p1, p2] h24 n0 Z0 IL_b11 (by decide) rfl) (by decide) (by decide) pd3 rfl (g := (mkF m 98 #[.val (.int p0), .val (.int p1), .val (.int p2), .val (.int p3), .val (.int p4), .val (.ref b11), .val (.int (3 : Int32)), .val (.int (2 : Int32)), .val (.int p2)] [(.int (2 : Int32)), (.ref b11)])) rfl (by rw [hml]; rfl) rfl (by show 2 * 0 + _ ≤ _; exact Nat.le_of_eq rfl) (hb hby at_98) (by decide) (by decide)
      obtain ⟨rfl, Nq30, hh30⟩ := hQ30
      rw [hh30] at e30
      have N30 := Fr.app N29 Nq30
      refine Go.st (S' := T30.setTop (mkF m 101 #[.val (.int p0), .val (.int p1), .val (.int p2), .val (.int p3), .val (.int p4), .val (.ref b11), .val (.int (3 : Int32)), .val (.int (2 : Int32)), .val (.int p2)] [(.int p2)])) (st30) ?_
      refine Go.st (S' := T30.setTop (mkF m 103 #[.val (.int p0), .val (.int p1), .val (.int p2), .val (.int p3), .val (.int p4), .val (.ref b11), .val (.int (3 : Int32)), .val (.int (2 : Int32)), .val (.int p2)] [(.int p2), (.int p2)])) (fun _ k_ => XS.iload X30.here hx rfl (hb hby at_101) rfl k_) ?_
      refine Go.st (S' := T30.setTop (mkF m 106 #[.val (.int p0), .val (.int p1), .val (.int p2), .val (.int p3), .val (.int p4), .val (.ref b11), .val (.int (3 : Int32)), .val (.int (2 : Int32)), .val (.int p2)] [])) (fun _ k_ => XS.icmpNo X30.here hx rfl (hb hby at_103) rfl (teq (rfl : p2 = p2)).2 k_) ?_
      refine Go.st (S' := T30.setTop (mkF m 107 #[.val (.int p0), .val (.int p1), .val (.int p2), .val (.int p3), .val (.int p4), .val (.ref b11), .val (.int (3 : Int32)), .val (.int (2 : Int32)), .val (.int p2)] [(.int (1 : Int32))])) (fun _ k_ => XS.iconst X30.here hx rfl (hb hby at_106) k_) ?_
      refine Go.st (S' := T30.setTop (mkF m 111 #[.val (.int p0), .val (.int p1), .val (.int p2), .val (.int p3), .val (.int p4), .val (.ref b11), .val (.int (3 : Int32)), .val (.int (2 : Int32)), .val (.int p2)] [(.int (1 : Int32))])) (fun _ k_ => XS.goto X30.here hx rfl (pc0 := 107) (pc' := 111) rfl (hb hby at_107) (by decide) (by decide) k_) ?_
      exact Go.retN X30 hx (t := .boolean) hret (by simp) hlk (hb hby at_111) (by decide) (by decide) ⟨rfl, N30⟩
set_option maxRecDepth 65536 in
set_option maxHeartbeats 40000000 in
theorem comes_1 {Post : Tables → Env → Array Value → State → Outcome → State → Prop} (hpost : ∀ tb e args s v u, (limb_1_1.after args s (.returned v) u = true ∧ limb_1_2.after args s (.returned v) u = true ∧ True) → FrameEnd s (.returned v) u (Jvm.fieldLocs frame_1_writes args s ++ Jvm.arrayLocs frame_1_arrays args s ++ Jvm.staticLocs frame_1_statics s) 16 128 → Post tb e args s (.returned v) u) :
    ArmFor flags0 classFile x code maxLocals ret World_1 tables_1 room_1 Calls_1 rest_1 Pre_1 Post := by
  intro l hfl _ _ p e ha hc hk s m args below hf hA hF happ hP
  obtain ⟨hcalls, hrest, hpre⟩ := hP
  obtain ⟨-, -, -, hnamed, -, -, -, hat⟩ := (Spec.applies_iff hf).mp happ
  obtain ⟨hg, hn⟩ := and_e (Cond.before_iff.mp (show (Jvm.Cond.and given_1 narrow_1).before args s = true from hpre))
  obtain ⟨g1, g2⟩ := and_e hg
  obtain ⟨g3, g4⟩ := and_e g2
  obtain ⟨g5, g6⟩ := and_e g4
  obtain ⟨g7, g8⟩ := and_e g6
  obtain ⟨g9, g10⟩ := and_e g8
  obtain ⟨u0, u1, u2, u3, u4, rfl⟩ : ∃ u0 u1 u2 u3 u4 : Value, args = #[u0, u1, u2, u3, u4] := by
    have hs : args.size = 5 := by simpa [Cond.value, given_1] using g1
    obtain ⟨L⟩ := args
    match L, hs with
    | [u0, u1, u2, u3, u4], _ => exact ⟨u0, u1, u2, u3, u4, rfl⟩
  have hw := fun d (hd : d ∈ tables_1) => atoms_spec (ws := Jvm.Cond.code x code maxLocals ret :: tables_1) hat d (List.mem_cons_of_mem _ hd)
  obtain ⟨i0, ei0⟩ := is_v g3
  obtain rfl : u0 = (.int i0) := Option.some.inj ei0
  obtain ⟨i1, ei1⟩ := is_v g5
  obtain rfl : u1 = (.int i1) := Option.some.inj ei1
  obtain ⟨i2, ei2⟩ := is_v g7
  obtain rfl : u2 = (.int i2) := Option.some.inj ei2
  obtain ⟨i3, ei3⟩ := is_v g9
  obtain rfl : u3 = (.int i3) := Option.some.inj ei3
  obtain ⟨i4, ei4⟩ := is_v g10
  obtain rfl : u4 = (.int i4) := Option.some.inj ei4
  obtain ⟨n, o, h1, h2, h3, v, L, rfl, ⟨hv, N⟩, hq⟩ := rm0 l s _ hw tables_1 i0 i1 i2 i3 i4 s.heap s.heap.size (Nat.le_refl _) p e ha hc hk s m _ below hf ((Spec.applies_iff_loose hf).mp happ).1 ⟨rfl, State.Warmed39.refl s, rfl⟩ trivial
  subst hv
  refine ⟨n, _, h1, h2, h3, hpost _ _ _ _ _ _ ⟨Cond.after_iff.mpr rfl, Cond.after_iff.mpr (eq_i res_at (Term.int_eval (1)) rfl), trivial⟩ ⟨hq.1, hq.2.1, (hq.2.2.sift fun y hy => Or.inr (N y hy)).mono (by decide) (by decide)⟩⟩
theorem main_1_1 : Claimed_1_1 := comes_1 fun _ _ _ _ _ _ h hF => ⟨h.1, hF⟩
theorem main_1_2 : Claimed_1_2 := comes_1 fun _ _ _ _ _ _ h hF => ⟨h.2.1, hF⟩
end Jvm.Pilot.@@N@@
namespace Jvm.Pilot.@@N@@
open Jvm Jvm.ClassFile Sem Op Lib Jvm.Free Jvm.Stand Jvm.Pilot.@@N@@.Jvm.D
/-! MADE BY PROGRAM (witnessworld.py) out of the Statement's table words and the real class files: 9 classes; the members and pool entries that the words name. The judged class is class 1, her method 1. -/
namespace start1
open Jvm.ClassFile
def u (s : String) : CpInfo := .utf8 (stringToUtf16 s)
/-- a pool by its gaps: so many unusable entries, then the entry; so many at the end -/
def gap : Nat → List CpInfo → List CpInfo
  | 0, r => r
  | n + 1, r => .unusable :: gap n r
def poolList (es : List (Nat × CpInfo)) (last : Nat) : List CpInfo := es.foldr (fun e r => gap e.1 (e.2 :: r)) (gap last [])
def pool (es : List (Nat × CpInfo)) (last : Nat) : Array CpInfo := ⟨poolList es last⟩
def fileOf (pool : Array CpInfo) (this : Nat) (attrs : Array Attribute := #[]) (ms : Array MethodInfo := #[]) (fl : Nat := 33) (sup : Nat := 0) (ifs : Array Nat := #[]) (fds : Array FieldInfo := #[]) : ClassFile where
  minorVersion := 0
  majorVersion := 65
  constantPool := pool
  accessFlags := fl
  thisClass := this
  superClass := sup
  interfaces := ifs
  fields := fds
  methods := ms
  attributes := attrs
def plain (name : String) (sup : Option ClassId) : Class where
  name := name
  kind := .ordinary
  loader := none
  accessFlags := 33
  super := sup
  interfaces := #[]
  cf := none
  fields := #[]
  methods := #[]
  instanceTypes := #[]
  staticTypes := #[]
  resolved := #[]
  callSites := []
  init := .initialized
  statics := none
  mirror := none

def pool0 : Array CpInfo := pool [(5, u "<init>"), (0, u "()V"), (1, .class_ 10), (1, u "java/lang/Object")] 113

def k0c0 : Code := { maxStack := 0, maxLocals := 1, code := object_method_1_code, exceptionTable := #[], attributes := #[] }
def k0m0 : Method := { name := "<init>", desc := "()V", sig := { parameters := [], returnType := none }, accessFlags := 1, code := some k0c0 }
/-- java/lang/Object -/
def k0 : Class := { plain "java/lang/Object" none with
  accessFlags := 33
  interfaces := #[]
  cf := some (fileOf pool0 8 #[] #[{ accessFlags := 1, nameIndex := 5, descriptorIndex := 6, attributes := #[] }] 33 0 #[] #[])
  fields := #[]
  methods := #[k0m0]
  instanceTypes := #[]
  staticTypes := #[]
  resolved := Array.replicate 124 none
  statics := none }

def pool1 : Array CpInfo := pool [(2, .class_ 4), (0, .nameAndType 5 6), (0, u "java/lang/Object"), (0, u "<init>"), (0, u "()V"), (0, .class_ 8), (0, u "com/example/caseweave/caseweave/core/IntList"), (0, .methodref 7 3), (0, .methodref 7 11), (0, .nameAndType 12 13), (0, u "add"), (0, u "(I)V"), (0, .integer 2147483647), (0, .methodref 7 16), (0, .nameAndType 17 18), (0, u "size"), (0, u "()I"), (0, .methodref 7 20), (0, .nameAndType 21 22), (0, u "get"), (0, u "(I)I"), (0, .class_ 24), (0, u "com/example/caseweave/caseweave/core/IntListGetPinLaw"), (2, u "law"), (0, u "(IIIII)Z")] 3

def k1m0 : Method := { name := "<init>", desc := "()V", sig := { parameters := [], returnType := none }, accessFlags := 2, code := none }
def k1c1 : Code := { maxStack := 2, maxLocals := 9, code := code, exceptionTable := #[], attributes := #[] }
def k1m1 : Method := { name := "law", desc := "(IIIII)Z", sig := { parameters := [.int, .int, .int, .int, .int], returnType := some .boolean }, accessFlags := 9, code := some k1c1 }
/-- com/example/caseweave/caseweave/core/IntListGetPinLaw -/
def k1 : Class := { plain "com/example/caseweave/caseweave/core/IntListGetPinLaw" (some 0) with
  accessFlags := 49
  interfaces := #[]
  cf := some (fileOf pool1 23 #[] #[{ accessFlags := 2, nameIndex := 5, descriptorIndex := 6, attributes := #[] }, { accessFlags := 9, nameIndex := 27, descriptorIndex := 28, attributes := #[] }] 49 2 #[] #[])
  fields := #[]
  methods := #[k1m0, k1m1]
  instanceTypes := #[]
  staticTypes := #[]
  resolved := Array.replicate 32 none
  statics := none }

def pool2 : Array CpInfo := pool [(3, .methodref 4 5), (0, .class_ 6), (0, .nameAndType 7 8), (0, u "java/lang/Object"), (0, u "<init>"), (0, u "()V"), (0, .fieldref 10 11), (0, .class_ 12), (0, .nameAndType 13 14), (0, u "com/example/caseweave/caseweave/core/IntList"), (0, u "values"), (0, u "[I"), (0, .fieldref 10 16), (0, .nameAndType 17 18), (0, u "size"), (0, u "I"), (9, .integer 2147483639), (5, .long 2147483639), (1, .long 2), (13, u "MAX_LENGTH"), (3, u "()I"), (0, u "get"), (0, u "(I)I"), (1, u "add"), (0, u "(I)V")] 17

def k2c0 : Code := { maxStack := 2, maxLocals := 1, code := prog_6_method_1_code, exceptionTable := #[], attributes := #[] }
def k2m0 : Method := { name := "<init>", desc := "()V", sig := { parameters := [], returnType := none }, accessFlags := 0, code := some k2c0 }
def k2c1 : Code := { maxStack := 1, maxLocals := 1, code := prog_6_method_2_code, exceptionTable := #[], attributes := #[] }
def k2m1 : Method := { name := "size", desc := "()I", sig := { parameters := [], returnType := some .int }, accessFlags := 0, code := some k2c1 }
def k2c2 : Code := { maxStack := 4, maxLocals := 2, code := prog_6_method_3_code, exceptionTable := #[], attributes := #[] }
def k2m2 : Method := { name := "get", desc := "(I)I", sig := { parameters := [.int], returnType := some .int }, accessFlags := 0, code := some k2c2 }
def k2c3 : Code := { maxStack := 8, maxLocals := 2, code := prog_6_method_4_code, exceptionTable := #[], attributes := #[] }
def k2m3 : Method := { name := "add", desc := "(I)V", sig := { parameters := [.int], returnType := none }, accessFlags := 0, code := some k2c3 }
/-- com/example/caseweave/caseweave/core/IntList -/
def k2 : Class := { plain "com/example/caseweave/caseweave/core/IntList" (some 0) with
  accessFlags := 48
  interfaces := #[]
  cf := some (fileOf pool2 10 #[] #[{ accessFlags := 0, nameIndex := 7, descriptorIndex := 8, attributes := #[] }, { accessFlags := 0, nameIndex := 17, descriptorIndex := 54, attributes := #[] }, { accessFlags := 0, nameIndex := 55, descriptorIndex := 56, attributes := #[] }, { accessFlags := 0, nameIndex := 58, descriptorIndex := 59, attributes := #[] }] 48 4 #[] #[{ accessFlags := 26, nameIndex := 50, descriptorIndex := 18, attributes := #[] }, { accessFlags := 2, nameIndex := 13, descriptorIndex := 14, attributes := #[] }, { accessFlags := 2, nameIndex := 17, descriptorIndex := 18, attributes := #[] }])
  fields := #[{ name := "MAX_LENGTH", type := .int, accessFlags := 26, slot := 0, constantValue := 0 }, { name := "values", type := (.array .int), accessFlags := 2, slot := 0, constantValue := 0 }, { name := "size", type := .int, accessFlags := 2, slot := 1, constantValue := 0 }]
  methods := #[k2m0, k2m1, k2m2, k2m3]
  instanceTypes := #[(.array .int), .int]
  staticTypes := #[.int]
  resolved := Array.replicate 77 none
  statics := none }

def pool3 : Array CpInfo := pool [(1, u "java/lang/Cloneable"), (0, .class_ 1), (0, u "java/lang/Object"), (0, .class_ 3)] 3

/-- java/lang/Cloneable -/
def k3 : Class := { plain "java/lang/Cloneable" (some 0) with
  accessFlags := 1537
  interfaces := #[]
  cf := some (fileOf pool3 2 #[] #[] 1537 4 #[] #[])
  fields := #[]
  methods := #[]
  instanceTypes := #[]
  staticTypes := #[]
  resolved := Array.replicate 8 none
  statics := none }

def pool4 : Array CpInfo := pool [(1, u "java/io/Serializable"), (0, .class_ 1), (0, u "java/lang/Object"), (0, .class_ 3)] 3

/-- java/io/Serializable -/
def k4 : Class := { plain "java/io/Serializable" (some 0) with
  accessFlags := 1537
  interfaces := #[]
  cf := some (fileOf pool4 2 #[] #[] 1537 4 #[] #[])
  fields := #[]
  methods := #[]
  instanceTypes := #[]
  staticTypes := #[]
  resolved := Array.replicate 8 none
  statics := none }

/-- the primitive byte -/
def k5 : Class := { plain "byte" none with kind := .primitive 'B', accessFlags := 0x411 }
/-- [B -/
def k6 : Class := { plain "[B" (some 0) with kind := .array 5 .byte, interfaces := #[3, 4], accessFlags := 1041 }

/-- the primitive int -/
def k7 : Class := { plain "int" none with kind := .primitive 'I', accessFlags := 0x411 }
/-- [I -/
def k8 : Class := { plain "[I" (some 0) with kind := .array 7 .int, interfaces := #[3, 4], accessFlags := 1041 }

def heap : Heap := #[]
def classes : Array Class := #[k0, k1, k2, k3, k4, k5, k6, k7, k8]
def interned : List (Array UInt16 × Addr) := []
def slotsUsed : Nat := 0
def theMethod : MethodId := ⟨1, 1⟩
def args0 : Array Value := #[.int 5, .int 7, .int 3, .int 2, .int 1]
def aboutOver (below : List Frame) : State where
  vm := { classes := classes, interned := interned.toArray }
  heap := heap
  slotsUsed := slotsUsed
  threads := #[{ frames := .invoking theMethod args0 :: below }]
def below0 : List Frame := [.native { method := ⟨0, 0⟩, args := #[] }]
def about1 : State := aboutOver below0
def p0 : Program := .bare "" "" ""
def e0 : Env := launch0.env 0 0 0
theorem w_frames : about1.frames = Frame.invoking theMethod args0 :: below0 := rfl
set_option maxRecDepth 65536 in
theorem w_args : argsFit about1.vm theMethod args0 = true := by decide +kernel
set_option maxRecDepth 65536 in
theorem w_heap : heapFits about1 = true := by decide +kernel
set_option maxRecDepth 65536 in
theorem w_runnable : about1.curStatus? = some .runnable := by decide +kernel
set_option maxRecDepth 65536 in
theorem w_alone : about1.alone = true := by decide +kernel
set_option maxRecDepth 65536 in
theorem w_named : about1.methodNamed? x = some theMethod := by decide +kernel
set_option maxRecDepth 65536 in
theorem w_hears : about1.hears theMethod below0 = true := by decide +kernel
set_option maxRecDepth 65536 in
theorem w_ripe : about1.ripe theMethod args0 below0 = true := by decide +kernel
theorem w_running : about1.status = .running := rfl
set_option maxRecDepth 65536 in
theorem w_room : about1.hasRoom e0.platform room_1 = true :=
  launch0.hasRoom_least _ room_1 (by decide +kernel) (by decide +kernel) (by decide +kernel) (by decide +kernel) (by decide +kernel) (by decide +kernel)
theorem allAtoms_all (ts : List Jvm.Cond) (a : Array Jvm.Value) (st : Jvm.State) : (allAtoms ts).before a st = ts.all (fun c => c.before a st) := by
  induction ts with
  | nil => rfl
  | cons c t ih =>
    show (Jvm.Cond.and c (allAtoms t)).before a st = _
    rw [Jvm.Cond.before_and, ih, List.all_cons]
def words1 : List Jvm.Cond := Jvm.Cond.code x code maxLocals ret :: tables_1
/-- a 'code' word, met by the world's own term for the bytes: nothing is compared byte by byte -/
theorem code_word {y : MethodName} {bytes : ByteArray} {mx : Nat} {rt : Option FieldType} {a : Array Value} {s : State} {m : MethodId} {meth : Method} {c : Code} (h1 : s.methodNamed? y = some m) (h2 : s.vm.method? m = some meth) (h3 : meth.code = some c) (h4 : c.code = bytes)
    (h5 : (c.maxLocals == mx && c.exceptionTable.isEmpty && decide (c.maxStack ≤ mostOperands) && decide (meth.sig.returnType = rt) && !meth.locks && decide (parseMethodDescriptor y.desc = some meth.sig)) = true) : (Jvm.Cond.code y bytes mx rt).before a s = true := by
  simp only [Bool.and_eq_true, beq_iff_eq, Bool.not_eq_true', decide_eq_true_eq] at h5
  obtain ⟨⟨⟨⟨⟨g1, g2⟩, g3⟩, g4⟩, g5⟩, g6⟩ := h5
  simp [Cond.before, Cond.holds, Cond.value, h1, h2, h3, h4, g1, g2, g3, g4, g5, g6]
def isCode : Jvm.Cond → Bool
  | .code _ _ _ _ => true
  | _ => false
theorem all_split {L : List Jvm.Cond} {P : Jvm.Cond → Bool} (h1 : L.all (fun c => isCode c || P c) = true) (h2 : ∀ c ∈ L.filter isCode, P c = true) : L.all P = true := by
  refine List.all_eq_true.mpr fun c hc => ?_
  have h := List.all_eq_true.mp h1 c hc
  rcases Bool.eq_false_or_eq_true (isCode c) with hi | hi
  · exact h2 c (List.mem_filter.mpr ⟨hc, hi⟩)
  · simpa [hi] using h
set_option maxRecDepth 65536 in
theorem w_c0 : (Jvm.Cond.code x code maxLocals ret).before args0 about1 = true := code_word (m := ⟨1, 1⟩) (meth := k1m1) (c := k1c1) (by decide +kernel) rfl rfl rfl (by decide +kernel)
set_option maxRecDepth 65536 in
theorem w_c1 : (Jvm.Cond.code ({ cls := "com/example/caseweave/caseweave/core/IntList", name := "<init>", desc := "()V" } : Jvm.MethodName) prog_6_method_1_code (1 : Nat) (Option.none : Option Jvm.ClassFile.FieldType)).before args0 about1 = true := code_word (m := ⟨2, 0⟩) (meth := k2m0) (c := k2c0) (by decide +kernel) rfl rfl rfl (by decide +kernel)
set_option maxRecDepth 65536 in
theorem w_c2 : (Jvm.Cond.code ({ cls := "java/lang/Object", name := "<init>", desc := "()V" } : Jvm.MethodName) object_method_1_code (1 : Nat) (Option.none : Option Jvm.ClassFile.FieldType)).before args0 about1 = true := code_word (m := ⟨0, 0⟩) (meth := k0m0) (c := k0c0) (by decide +kernel) rfl rfl rfl (by decide +kernel)
set_option maxRecDepth 65536 in
theorem w_c3 : (Jvm.Cond.code ({ cls := "com/example/caseweave/caseweave/core/IntList", name := "add", desc := "(I)V" } : Jvm.MethodName) prog_6_method_4_code (2 : Nat) (Option.none : Option Jvm.ClassFile.FieldType)).before args0 about1 = true := code_word (m := ⟨2, 3⟩) (meth := k2m3) (c := k2c3) (by decide +kernel) rfl rfl rfl (by decide +kernel)
set_option maxRecDepth 65536 in
theorem w_c4 : (Jvm.Cond.code ({ cls := "com/example/caseweave/caseweave/core/IntList", name := "size", desc := "()I" } : Jvm.MethodName) prog_6_method_2_code (1 : Nat) (Option.some Jvm.ClassFile.FieldType.int)).before args0 about1 = true := code_word (m := ⟨2, 1⟩) (meth := k2m1) (c := k2c1) (by decide +kernel) rfl rfl rfl (by decide +kernel)
set_option maxRecDepth 65536 in
theorem w_c5 : (Jvm.Cond.code ({ cls := "com/example/caseweave/caseweave/core/IntList", name := "get", desc := "(I)I" } : Jvm.MethodName) prog_6_method_3_code (2 : Nat) (Option.some Jvm.ClassFile.FieldType.int)).before args0 about1 = true := code_word (m := ⟨2, 2⟩) (meth := k2m2) (c := k2c2) (by decide +kernel) rfl rfl rfl (by decide +kernel)
def codes1 : List Jvm.Cond := [Jvm.Cond.code x code maxLocals ret, Jvm.Cond.code ({ cls := "com/example/caseweave/caseweave/core/IntList", name := "<init>", desc := "()V" } : Jvm.MethodName) prog_6_method_1_code (1 : Nat) (Option.none : Option Jvm.ClassFile.FieldType), Jvm.Cond.code ({ cls := "java/lang/Object", name := "<init>", desc := "()V" } : Jvm.MethodName) object_method_1_code (1 : Nat) (Option.none : Option Jvm.ClassFile.FieldType), Jvm.Cond.code ({ cls := "com/example/caseweave/caseweave/core/IntList", name := "add", desc := "(I)V" } : Jvm.MethodName) prog_6_method_4_code (2 : Nat) (Option.none : Option Jvm.ClassFile.FieldType), Jvm.Cond.code ({ cls := "com/example/caseweave/caseweave/core/IntList", name := "size", desc := "()I" } : Jvm.MethodName) prog_6_method_2_code (1 : Nat) (Option.some Jvm.ClassFile.FieldType.int), Jvm.Cond.code ({ cls := "com/example/caseweave/caseweave/core/IntList", name := "get", desc := "(I)I" } : Jvm.MethodName) prog_6_method_3_code (2 : Nat) (Option.some Jvm.ClassFile.FieldType.int)]
set_option maxRecDepth 65536 in
theorem codes_eq : words1.filter isCode = codes1 := rfl
theorem w_codes : ∀ c ∈ words1.filter isCode, c.before args0 about1 = true := by
  rw [codes_eq]
  intro c hc
  simp only [codes1, List.mem_cons, List.not_mem_nil, or_false] at hc
  rcases hc with rfl | rfl | rfl | rfl | rfl | rfl
  · exact w_c0
  · exact w_c1
  · exact w_c2
  · exact w_c3
  · exact w_c4
  · exact w_c5
set_option maxRecDepth 65536 in
theorem w_t1 : (words1.take 24).all (fun c => isCode c || c.before args0 about1) = true := by decide +kernel
set_option maxRecDepth 65536 in
theorem w_t2 : (words1.drop 24).all (fun c => isCode c || c.before args0 about1) = true := by decide +kernel
theorem w_tables : (allAtoms (Jvm.Cond.code x code maxLocals ret :: tables_1)).before args0 about1 = true := by
  rw [allAtoms_all]
  show words1.all (fun c => c.before args0 about1) = true
  refine all_split ?_ w_codes
  rw [← List.take_append_drop 24 words1, List.all_append, w_t1, w_t2]
  rfl
set_option maxRecDepth 65536 in
theorem w_case : (Jvm.Cond.and given_1 narrow_1).before args0 about1 = true := by decide +kernel
theorem w_applies : (headSpec (Jvm.Cond.code x code maxLocals ret :: tables_1) room_1).applies x e0.platform about1 = true :=
  (Spec.applies_iff w_frames).mpr ⟨w_running, w_runnable, w_alone, w_named, w_hears, w_ripe, w_room, w_tables⟩
theorem atStart : AtStart classFile x code maxLocals ret World_1 tables_1 room_1 Calls_1 rest_1 Pre_1 launch0 p0 e0 about1 theMethod args0 below0 :=
  ⟨lists_1, trivial, launch0.admits_env _ _ _, launch0.least_env, fairChoices_fair.cas, fairChoices_fair.clock, w_frames, w_args, w_heap, w_applies, trivial, trivial, w_case⟩
end start1
theorem witness_1 : WitnessClaimed_1 := ⟨start1.p0, start1.e0, start1.about1, start1.theMethod, start1.args0, start1.below0, start1.atStart⟩
end Jvm.Pilot.@@N@@
