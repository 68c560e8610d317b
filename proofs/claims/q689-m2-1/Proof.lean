import JvmDerived
import JvmDerived.Pilot.@@N@@Statement
import JvmDerived.Pilot.@@N@@Code
set_option linter.unusedVariables false
set_option linter.unusedSimpArgs false
namespace Jvm.Pilot.@@N@@
open Jvm Jvm.ClassFile Sem Op Lib Jvm.Free Jvm.Stand Jvm.LawKit Jvm.RoadKit Bundle Jvm.Pilot.@@N@@.Jvm.D
/-! ## own layer: walks in goal-directed form -/
section Layer
variable {p : Program} {l : Launch} {e : Env} {R : Room} {s : State} {m : MethodId} {args : Array Value} {below : List Frame} {meth : Method} {c : Code} {T : State} {locs : List Loc} {cells slots : Nat} {Z : State} {a0 : Array Value} {h h' : Heap} {a b : Addr} {ty : FieldType} {xs ys : List Int32} {ls : List Int64}
/-- from S the run comes to the invocation's end, with what Q says of the value, the heap and the written places -/
def Go (p : Program) (e : Env) (below : List Frame) (s : State) (rm : Room) (Q : Option Value → Heap → List Loc → Prop) (S : State) : Prop :=
  ∃ t o, Steps p.tables e below S t ∧ t.status = .running ∧ Ended t below o ∧ ∃ v L, o = .returned v ∧ Q v t.heap L ∧ FrameEnd s o t L rm.cells rm.slots
theorem Go.st {rm : Room} {Q : Option Value → Heap → List Loc → Prop} {S S' : State} (k : ∀ t, Steps p.tables e below S' t → Steps p.tables e below S t) (g : Go p e below s rm Q S') : Go p e below s rm Q S := by
  obtain ⟨t, o, h, r⟩ := g; exact ⟨t, o, k t h, r⟩
theorem Go.ret {rm : Room} {Q : Option Value → Heap → List Loc → Prop} {S : State} {v : Option Value} (X : Stand p l e rm s m args below meth c T locs cells slots) (hv : meth.sig.returnType = none → v = none) (hlk : meth.locks = false) (hc : cells ≤ rm.cells) (hs : slots ≤ rm.slots) (hQ : Q v T.heap locs)
    (st : ∀ fs, (∀ (f : JFrame) (acts : List Action), f.method = m → f.locked = none → f.entered = [] → (doReturn e (T.setTop f) acts v).1 = T.setFrames fs) → Steps p.tables e below S (T.setFrames fs)) : Go p e below s rm Q S := by
  obtain ⟨fs, hr, hrun, hended, hW, hsame⟩ := X.leave (v := v) hv hlk
  exact ⟨_, _, st fs hr, hrun, hended, v, locs, rfl, hQ, ⟨v, rfl⟩, hW, hsame.mono hc hs⟩
theorem Go.retI {rm : Room} {Q : Option Value → Heap → List Loc → Prop} (X : Stand p l e rm s m args below meth c T locs cells slots) (hx : p.tables.exec = Jvm.exec) (hret : meth.sig.returnType = some .int) (hlk : meth.locks = false) {pc : Nat} {Ls : Array Slot} {z : Int32} {rest : List Value} (hd : decode c.code pc = .ok (.ireturn, 1)) (hc : cells ≤ rm.cells) (hs : slots ≤ rm.slots)
    (hQ : Q (some (.int z)) T.heap locs) : Go p e below s rm Q (T.setTop (mkF m pc Ls (.int z :: rest))) := by
  refine Go.ret X (v := some (.int z)) (fun q => by rw [hret] at q; cases q) hlk hc hs hQ fun fs hr => ?_
  have hm' : T.vm.method? m = some meth := X.method'
  have hn : narrow .int (.int z) = .int z := rfl
  show Steps p.tables e below (T.setTop { method := m, pc := pc, locals := Ls, stack := _ :: rest, locked := none }) _
  jvm_step X.here [X.here.top, hx, hd, hm', hret, hn]
  first | (intro acts; rw [hr _ acts rfl rfl rfl]) | rw [hr _ _ rfl rfl rfl]
  exact Steps.refl _
theorem Go.retN {rm : Room} {Q : Option Value → Heap → List Loc → Prop} {t : FieldType} (X : Stand p l e rm s m args below meth c T locs cells slots) (hx : p.tables.exec = Jvm.exec) (hret : meth.sig.returnType = some t) (ht : t = .boolean ∨ t = .byte ∨ t = .char ∨ t = .short) (hlk : meth.locks = false) {pc : Nat} {Ls : Array Slot} {z : Int32} {rest : List Value} (hd : decode c.code pc = .ok (.ireturn, 1)) (hc : cells ≤ rm.cells) (hs : slots ≤ rm.slots)
    (hQ : Q (some (.int (nar t z))) T.heap locs) : Go p e below s rm Q (T.setTop (mkF m pc Ls (.int z :: rest))) :=
  Go.ret X (v := some (.int (nar t z))) (fun q => by rw [hret] at q; cases q) hlk hc hs hQ fun fs hr => Jvm.RoadKit.retN X hx hret ht hd hr
theorem Go.retV {rm : Room} {Q : Option Value → Heap → List Loc → Prop} (X : Stand p l e rm s m args below meth c T locs cells slots) (hx : p.tables.exec = Jvm.exec) (hret : meth.sig.returnType = none) (hlk : meth.locks = false) {pc : Nat} {Ls : Array Slot} (hd : decode c.code pc = .ok (.return_, 1)) (hc : cells ≤ rm.cells) (hs : slots ≤ rm.slots)
    (hQ : Q none T.heap locs) : Go p e below s rm Q (T.setTop (mkF m pc Ls [])) :=
  Go.ret X (v := none) (fun _ => rfl) hlk hc hs hQ fun fs hr => X.returnOut hx hret hd hr
theorem Go.retJ {rm : Room} {Q : Option Value → Heap → List Loc → Prop} (X : Stand p l e rm s m args below meth c T locs cells slots) (hx : p.tables.exec = Jvm.exec) (hret : meth.sig.returnType = some .long) (hlk : meth.locks = false) {pc : Nat} {Ls : Array Slot} {z : Int64} {rest : List Value} (hd : decode c.code pc = .ok (.lreturn, 1)) (hc : cells ≤ rm.cells) (hs : slots ≤ rm.slots)
    (hQ : Q (some (.long z)) T.heap locs) : Go p e below s rm Q (T.setTop (mkF m pc Ls (.long z :: rest))) := by
  refine Go.ret X (v := some (.long z)) (fun q => by rw [hret] at q; cases q) hlk hc hs hQ fun fs hr => ?_
  have hm' : T.vm.method? m = some meth := X.method'
  show Steps p.tables e below (T.setTop { method := m, pc := pc, locals := Ls, stack := _ :: rest, locked := none }) _
  jvm_step X.here [X.here.top, hx, hd, hm', hret, narrow]
  first | (intro acts; rw [hr _ acts rfl rfl rfl]) | rw [hr _ _ rfl rfl rfl]
  exact Steps.refl _
theorem Go.retR {rm : Room} {Q : Option Value → Heap → List Loc → Prop} {t : FieldType} (X : Stand p l e rm s m args below meth c T locs cells slots) (hx : p.tables.exec = Jvm.exec) (hret : meth.sig.returnType = some t) (ht : t.isReference = true) (hlk : meth.locks = false) {pc : Nat} {Ls : Array Slot} {z : Addr} (hd : decode c.code pc = .ok (.areturn, 1)) (hc : cells ≤ rm.cells) (hs : slots ≤ rm.slots)
    (hQ : Q (some (.ref z)) T.heap locs) : Go p e below s rm Q (T.setTop (mkF m pc Ls [.ref z])) := by
  refine Go.ret X (v := some (.ref z)) (fun q => by rw [hret] at q; cases q) hlk hc hs hQ fun fs hr => ?_
  exact X.areturnOut hx rfl hret ht hd hr
/-- the contract of a body: called with these arguments over the heap h0 it comes back, and Q -/
abbrev Con (l : Launch) (Z : State) (y : MethodName) (bytes : ByteArray) (maxL : Nat) (ret : Option FieldType) (ws : List Jvm.Cond) (rm : Room) (as : Array Value) (h0 : Heap) (Q : Option Value → Heap → List Loc → Prop) : Prop :=
  MetFree l y (head1 (Jvm.Cond.code y bytes maxL ret :: ws) rm) (fun a U => a = as ∧ Z.Warmed39 U.vm ∧ U.heap = h0) (fun _ _ _ _ _ => True) (fun _ U o U' => ∃ v L, o = .returned v ∧ Q v U'.heap L ∧ FrameEnd U o U' L rm.cells rm.slots)
theorem Con.mk {y : MethodName} {bytes : ByteArray} {maxL : Nat} {ret : Option FieldType} {ws : List Jvm.Cond} {rm : Room} {as : Array Value} {h0 : Heap} {Q : Option Value → Heap → List Loc → Prop} (hp : plainFor y = true)
    (body : ∀ (p : Program) (e : Env) (s : State) (m : MethodId) (below : List Frame) (meth : Method) (c : Code) (T : State), p.tables.exec = Jvm.exec → c.code = bytes → c.maxLocals = maxL → s.vm.findClass y.cls = some m.cls → meth.name = y.name → meth.sig.returnType = ret → meth.locks = false → Z.Warmed39 s.vm →
      Stand p l e rm s m as below meth c T [] 0 0 → T.heap = h0 → Go p e below s rm Q (T.setTop (entryFrame m as maxL))) : Con l Z y bytes maxL ret ws rm as h0 Q := by
  refine MetFree.of_bodySF hp hisR ?_
  intro p e s m args below meth c s₁ Bd hml0 hP hK
  obtain ⟨rfl, hZ, hh⟩ := hP
  exact body p e s m below meth c s₁ Bd.exec Bd.bytes hml0 (findClass_of_methodNamed Bd.named) (name_of_methodNamed Bd.named Bd.method).1 Bd.returns Bd.notSynchronized hZ (Stand.of_body Bd) (by rw [← hh, Bd.state]; rfl)
theorem Go.cast {rm : Room} {Q : Option Value → Heap → List Loc → Prop} {f f' : JFrame} (q : f = f') (g : Go p e below s rm Q (T.setTop f')) : Go p e below s rm Q (T.setTop f) := q ▸ g
/-! calls -/
theorem callSt (X : Stand p l e R s m args below meth c T locs cells slots) (hx : p.tables.exec = Jvm.exec) (hZ : Z.Warmed39 s.vm) {own : String} {index : Nat} {y : MethodName} {bytes : ByteArray} {maxL : Nat} {ret : Option FieldType} {rm : Room} {W : Nat} {Q : Option Value → Heap → List Loc → Prop} {argsL rest : List Value}
    (hown : s.vm.findClass own = some m.cls) (w1 : (Jvm.Cond.methodLink own index y).before a0 Z = true) (w2 : (Jvm.Cond.static y).before a0 Z = true) (w3 : (Jvm.Cond.initialized y.cls).before a0 Z = true) (w4 : (Jvm.Cond.code y bytes maxL ret).before a0 Z = true) (hy : y.cls ≠ "java/lang/invoke/MethodHandle" ∧ y.cls ≠ "java/lang/invoke/VarHandle")
    (eT : T.heap = h) (hM : Con l Z y bytes maxL ret [] rm argsL.toArray h Q) (hf : rm.frames + 1 ≤ R.frames) (hl : W + (maxL + 11) + rm.locals ≤ R.locals) {sig : MethodDescriptor} (hpd : parseMethodDescriptor y.desc = some sig) (hlen : argsL.length = sig.parameters.length)
    {g : JFrame} (hg : g.method = m) (hsize : g.locals.size = c.maxLocals) (hstack : g.stack = argsL.reverse ++ rest) (hW : 2 * g.monitorRoom + (rest.map fun v => v.category).sum ≤ W) (hdg : decode c.code g.pc = .ok (.invokestatic index, 3)) (hc : cells + rm.cells ≤ R.cells) (hs : slots + rm.slots ≤ R.slots) :
    ∃ (v : Option Value) (T' : State) (h' : Heap) (L : List Loc), Stand p l e R s m args below meth c T' (locs ++ L) (cells + rm.cells) (slots + rm.slots) ∧ T'.heap = h' ∧ Q v h' L ∧ ∀ t, Steps p.tables e below (T'.setTop { g with pc := g.pc + 3, stack := v.toList ++ rest }) t → Steps p.tables e below (T.setTop g) t := by
  obtain ⟨v, _, ⟨T1, L1, k1, n1⟩, -, X1, ⟨Lc, hQ, l1, y1, z1⟩, st⟩ := Jvm.LawKit.callS X hx (y := y) hown (mvT hZ w1) (mvT hZ w2) (mvT hZ w3) (mvT hZ w4) hy (backOf (W := W) (Z := Z) (a0 := a0) (h := h) hM hZ w4 w3 hf hl) (g := g) hg hsize (argsL := argsL) (rest := rest) (fun sg q => by rw [hpd] at q; cases q; exact hlen) hstack hW hdg (fun _ _ => ⟨rfl, eT, hc, hs⟩)
  dsimp only [Pt.U, Pt.locs, Pt.cells, Pt.slots] at X1 l1 y1 z1 st hQ
  subst l1 y1 z1
  exact ⟨v, T1, T1.heap, Lc, X1, rfl, hQ, st⟩
theorem callIn (X : Stand p l e R s m args below meth c T locs cells slots) (hx : p.tables.exec = Jvm.exec) (hZ : Z.Warmed39 s.vm) {own : String} {index : Nat} {y : MethodName} {bytes : ByteArray} {maxL : Nat} {rm : Room} {W : Nat} {Q : Option Value → Heap → List Loc → Prop} {argsL rest : List Value} (hi : y.name = "<init>")
    (hown : s.vm.findClass own = some m.cls) (w1 : (Jvm.Cond.methodLink own index y).before a0 Z = true) (w2 : (Jvm.Cond.instanceMethod y).before a0 Z = true) (w3 : (Jvm.Cond.initialized y.cls).before a0 Z = true) (w4 : (Jvm.Cond.code y bytes maxL none).before a0 Z = true) (hy : y.cls ≠ "java/lang/invoke/MethodHandle" ∧ y.cls ≠ "java/lang/invoke/VarHandle")
    (eT : T.heap = h) (hM : Con l Z y bytes maxL none [] rm (.ref a :: argsL).toArray h Q) (hf : rm.frames + 1 ≤ R.frames) (hl : W + (maxL + 11) + rm.locals ≤ R.locals) {sig : MethodDescriptor} (hpd : parseMethodDescriptor y.desc = some sig) (hlen : argsL.length = sig.parameters.length)
    {g : JFrame} (hg : g.method = m) (hsize : g.locals.size = c.maxLocals) (hstack : g.stack = argsL.reverse ++ .ref a :: rest) (hW : 2 * g.monitorRoom + (rest.map fun v => v.category).sum ≤ W) (hdg : decode c.code g.pc = .ok (.invokespecial index, 3)) (hc : cells + rm.cells ≤ R.cells) (hs : slots + rm.slots ≤ R.slots) :
    ∃ (v : Option Value) (T' : State) (h' : Heap) (L : List Loc), Stand p l e R s m args below meth c T' (locs ++ L) (cells + rm.cells) (slots + rm.slots) ∧ T'.heap = h' ∧ Q v h' L ∧ ∀ t, Steps p.tables e below (T'.setTop { g with pc := g.pc + 3, stack := v.toList ++ rest }) t → Steps p.tables e below (T.setTop g) t := by
  obtain ⟨v, _, ⟨T1, L1, k1, n1⟩, -, X1, ⟨Lc, hQ, l1, y1, z1⟩, st⟩ := X.specialBack hx (y := y) hi hown (mvT hZ w1) (mvT hZ w2) (mvT hZ w4) hy (backOf (W := W) (Z := Z) (a0 := a0) (h := h) hM hZ w4 w3 hf hl) (g := g) hg hsize (Steps.refl _) (a := a) (argsL := argsL) (rest := rest) (fun sg q => by rw [hpd] at q; cases q; exact hlen) hstack hW hdg (fun _ _ => ⟨rfl, eT, hc, hs⟩)
  dsimp only [Pt.U, Pt.locs, Pt.cells, Pt.slots] at X1 l1 y1 z1 st hQ
  subst l1 y1 z1
  exact ⟨v, T1, T1.heap, Lc, X1, rfl, hQ, fun t k => st.trans k⟩
theorem callVi (X : Stand p l e R s m args below meth c T locs cells slots) (hx : p.tables.exec = Jvm.exec) (hZ : Z.Warmed39 s.vm) {own C : String} {index : Nat} {y : MethodName} {bytes : ByteArray} {maxL : Nat} {ret : Option FieldType} {rm : Room} {W : Nat} {Q : Option Value → Heap → List Loc → Prop} {argsL rest : List Value}
    (hown : s.vm.findClass own = some m.cls) (w1 : (Jvm.Cond.methodLink own index y).before a0 Z = true) (wd : (Jvm.Cond.declares y).before a0 Z = true) (ws : (Jvm.Cond.selects C y y).before a0 Z = true) (w2 : (Jvm.Cond.instanceMethod y).before a0 Z = true) (w3 : (Jvm.Cond.initialized y.cls).before a0 Z = true) (w4 : (Jvm.Cond.code y bytes maxL ret).before a0 Z = true) (hy : y.cls ≠ "java/lang/invoke/MethodHandle" ∧ y.cls ≠ "java/lang/invoke/VarHandle")
    (eT : T.heap = h) (E : Exa Z h a C) (hM : Con l Z y bytes maxL ret [] rm (.ref a :: argsL).toArray h Q) (hf : rm.frames + 1 ≤ R.frames) (hl : W + (maxL + 11) + rm.locals ≤ R.locals) {sig : MethodDescriptor} (hpd : parseMethodDescriptor y.desc = some sig) (hlen : argsL.length = sig.parameters.length)
    {g : JFrame} (hg : g.method = m) (hsize : g.locals.size = c.maxLocals) (hstack : g.stack = argsL.reverse ++ .ref a :: rest) (hW : 2 * g.monitorRoom + (rest.map fun v => v.category).sum ≤ W) (hdg : decode c.code g.pc = .ok (.invokevirtual index, 3)) (hc : cells + rm.cells ≤ R.cells) (hs : slots + rm.slots ≤ R.slots) :
    ∃ (v : Option Value) (T' : State) (h' : Heap) (L : List Loc), Stand p l e R s m args below meth c T' (locs ++ L) (cells + rm.cells) (slots + rm.slots) ∧ T'.heap = h' ∧ Q v h' L ∧ ∀ t, Steps p.tables e below (T'.setTop { g with pc := g.pc + 3, stack := v.toList ++ rest }) t → Steps p.tables e below (T.setTop g) t := by
  obtain ⟨cB, kB, q1, q2, q3⟩ := isOf hZ eT E
  obtain ⟨v, _, ⟨T1, L1, k1, n1⟩, -, X1, ⟨Lc, hQ, l1, y1, z1⟩, st⟩ := X.virtualBack hx (y := y) (z := y) hown (mvT hZ w1) (mvT hZ wd) (notFace_of_selects (args := #[]) (mvT hZ ws)) (mvT hZ ws) (mvT hZ w2) hy (backOf (W := W) (Z := Z) (a0 := a0) (h := h) hM hZ w4 w3 hf hl) q1 q3 (g := g) hg hsize (Steps.refl _) (argsL := argsL) (rest := rest) (fun sg q => by rw [hpd] at q; cases q; exact hlen) hstack hW hdg (fun _ _ => ⟨rfl, eT, hc, hs⟩)
  dsimp only [Pt.U, Pt.locs, Pt.cells, Pt.slots] at X1 l1 y1 z1 st hQ
  subst l1 y1 z1
  exact ⟨v, T1, T1.heap, Lc, X1, rfl, hQ, fun t k => st.trans k⟩
theorem callPr (X : Stand p l e R s m args below meth c T locs cells slots) (hx : p.tables.exec = Jvm.exec) (hZ : Z.Warmed39 s.vm) {own : String} {index ni : Nat} {y : MethodName} {bytes : ByteArray} {maxL : Nat} {ret : Option FieldType} {rm : Room} {W : Nat} {Q : Option Value → Heap → List Loc → Prop} {argsL rest : List Value}
    (hown : s.vm.findClass own = some m.cls) (w1 : (Jvm.Cond.methodLink own index y).before a0 Z = true) (w2 : (Jvm.Cond.instanceMethod y).before a0 Z = true) (wi : (Jvm.Cond.instantiable y.cls ni).before a0 Z = true) (wp : (Jvm.Cond.privateMethod y).before a0 Z = true) (w3 : (Jvm.Cond.initialized y.cls).before a0 Z = true) (w4 : (Jvm.Cond.code y bytes maxL ret).before a0 Z = true) (hy : y.cls ≠ "java/lang/invoke/MethodHandle" ∧ y.cls ≠ "java/lang/invoke/VarHandle")
    (eT : T.heap = h) {C : String} (E : Exa Z h a C) (hM : Con l Z y bytes maxL ret [] rm (.ref a :: argsL).toArray h Q) (hf : rm.frames + 1 ≤ R.frames) (hl : W + (maxL + 11) + rm.locals ≤ R.locals) {sig : MethodDescriptor} (hpd : parseMethodDescriptor y.desc = some sig) (hlen : argsL.length = sig.parameters.length)
    {g : JFrame} (hg : g.method = m) (hsize : g.locals.size = c.maxLocals) (hstack : g.stack = argsL.reverse ++ .ref a :: rest) (hW : 2 * g.monitorRoom + (rest.map fun v => v.category).sum ≤ W) (hdg : decode c.code g.pc = .ok (.invokevirtual index, 3)) (hc : cells + rm.cells ≤ R.cells) (hs : slots + rm.slots ≤ R.slots) :
    ∃ (v : Option Value) (T' : State) (h' : Heap) (L : List Loc), Stand p l e R s m args below meth c T' (locs ++ L) (cells + rm.cells) (slots + rm.slots) ∧ T'.heap = h' ∧ Q v h' L ∧ ∀ t, Steps p.tables e below (T'.setTop { g with pc := g.pc + 3, stack := v.toList ++ rest }) t → Steps p.tables e below (T.setTop g) t := by
  obtain ⟨cell, q1, q2⟩ := E.cell
  have wi' : (Jvm.Cond.instantiable y.cls ni).before args s = true := mvT hZ wi
  obtain ⟨cI, kI, i1, i2, i3, i4, -⟩ := Cond.instantiable_spec wi'
  have i5 : kI.isInterface = false := by cases hq : kI.isInterface <;> simp [hq] at i4 ⊢
  have hpriv : s.PrivateAt y := Cond.privateMethod_at (mvP hZ wp (args := args))
  have hinst : (Jvm.Cond.instanceMethod y).before args s = true := mvT hZ w2
  obtain ⟨v, _, ⟨T1, L1, k1, n1⟩, -, X1, ⟨Lc, hQ, l1, y1, z1⟩, st⟩ := X.privateBack hx (y := y) hown (mvT hZ w1) hinst (selects_self_of_private i1 i2 i5 hpriv hinst hy) hpriv (mvT hZ w4) hy (backOf (W := W) (Z := Z) (a0 := a0) (h := h) hM hZ w4 w3 hf hl) (g := g) hg hsize (Steps.refl _) (a := a) (cell := cell) (by rw [eT]; exact q1) q2 (argsL := argsL) (rest := rest) (fun sg q => by rw [hpd] at q; cases q; exact hlen) hstack hW hdg (fun _ _ => ⟨rfl, eT, hc, hs⟩)
  dsimp only [Pt.U, Pt.locs, Pt.cells, Pt.slots] at X1 l1 y1 z1 st hQ
  subst l1 y1 z1
  exact ⟨v, T1, T1.heap, Lc, X1, rfl, hQ, fun t k => st.trans k⟩
/-! arrays of ints, bytes, .. by the list of what they hold -/
def Ai (Z : State) (h : Heap) (a : Addr) (ty : FieldType) (xs : List Int32) : Prop := ∃ (k : ClassId) (z : Int32), Arv Z h a k ty z (xs.map Value.int) (.int 0) ∧ z.toNatClampNeg = xs.length
theorem Ai.lt (A : Ai Z h a ty xs) : a < h.size := by obtain ⟨_, _, q, -⟩ := A; exact q.lt
theorem Ai.ext (A : Ai Z h a ty xs) (E : Ext h h') : Ai Z h' a ty xs := by obtain ⟨k, z, q, r⟩ := A; exact ⟨k, z, q.ext E, r⟩
theorem Ai.other {sl : Nat} {v : Value} (A : Ai Z h a ty xs) (W : Wr h h' b sl v) (ne : a ≠ b) : Ai Z h' a ty xs := by obtain ⟨k, z, q, r⟩ := A; exact ⟨k, z, q.other W ne, r⟩
theorem Ai.keep {ws : List Addr} (A : Ai Z h a ty xs) (K : Keep h h' ws) (nin : a ∉ ws) : Ai Z h' a ty xs := by obtain ⟨k, z, q, r⟩ := A; exact ⟨k, z, q.keep K nin, r⟩
theorem Ai.len (A : Ai Z h a ty xs) : xs.length < 2 ^ 31 := by
  obtain ⟨k, z, ⟨c, -, -, -, hz, -⟩, r⟩ := A
  rw [← r]; exact (back32 hz).2
theorem Ai.open (A : Ai Z h a ty xs) : ∃ c : Cell, Arr Z h a c ty ∧ c.slots.size = xs.length ∧ ∀ (i : Nat) (v : Int32), xs[i]? = some v → c.slots[i]? = some (.int v) := by
  obtain ⟨k, z, ⟨c, A, q1, S, q3, H, G⟩, r⟩ := A
  refine ⟨c, A, S.trans r, fun i v hv => ?_⟩
  have hi : i < xs.length := (List.getElem?_eq_some_iff.mp hv).1
  rw [H i (by rw [S, r]; exact hi)]
  simp [List.getD_eq_getElem?_getD, hv]
theorem Ai.fitsOf {i : Nat} {v : Int32} (A : Ai Z h a ty xs) (hv : xs[i]? = some v) : fits ty (.int v) = true := by
  obtain ⟨k, z, ⟨c, A, q1, S, q3, H, G⟩, r⟩ := A
  have hi : i < xs.length := (List.getElem?_eq_some_iff.mp hv).1
  have := G i (by rw [S, r]; exact hi)
  simpa [List.getD_eq_getElem?_getD, hv] using this
theorem own_in {n : Nat} {j : Int32} (hj : ¬ j < 0) (hi : j.toNatClampNeg < n) : ¬ (j < 0 ∨ n ≤ j.toNatClampNeg) := fun q => q.elim hj fun r => absurd hi (Nat.not_lt.mpr r)
theorem Ai.load (A : Ai Z h a .int xs) (X : Stand p l e R s m args below meth c T locs cells slots) (hx : p.tables.exec = Jvm.exec) (hZ : Z.Warmed39 s.vm) (eT : T.heap = h) {j v : Int32} (hj : ¬ j < 0) (hv : xs[j.toNatClampNeg]? = some v) {g : JFrame} (hg : g.method = m) {rest : List Value} (hs : g.stack = .int j :: .ref a :: rest) (hd : decode c.code g.pc = .ok (.iaload, 1)) :
    ∀ t, Steps p.tables e below (T.setTop { g with pc := g.pc + 1, stack := .int v :: rest }) t → Steps p.tables e below (T.setTop g) t := by
  obtain ⟨cl, Ar, S, H⟩ := A.open
  exact fun t k => X.iaload hx (j := j) (v := .int v) (by rw [eT]; exact Ar.1) (State.isArrayOf_alike hZ.alike Ar.2.1) Ar.2.2 (own_in hj (by rw [S]; exact (List.getElem?_eq_some_iff.mp hv).1)) (H _ _ hv) hg hs hd t k
theorem Ai.bload (A : Ai Z h a .byte xs) (X : Stand p l e R s m args below meth c T locs cells slots) (hx : p.tables.exec = Jvm.exec) (hZ : Z.Warmed39 s.vm) (eT : T.heap = h) {j v : Int32} (hj : ¬ j < 0) (hv : xs[j.toNatClampNeg]? = some v) {g : JFrame} (hg : g.method = m) {rest : List Value} (hs : g.stack = .int j :: .ref a :: rest) (hd : decode c.code g.pc = .ok (.baload, 1)) :
    ∀ t, Steps p.tables e below (T.setTop { g with pc := g.pc + 1, stack := .int v :: rest }) t → Steps p.tables e below (T.setTop g) t := by
  obtain ⟨cl, Ar, S, H⟩ := A.open
  exact fun t k => X.baloadBytes hx (j := j) (v := .int v) (by rw [eT]; exact Ar.1) (State.isArrayOf_alike hZ.alike Ar.2.1) Ar.2.2 (own_in hj (by rw [S]; exact (List.getElem?_eq_some_iff.mp hv).1)) (H _ _ hv) hg hs hd t k
theorem Ai.length (A : Ai Z h a ty xs) (X : Stand p l e R s m args below meth c T locs cells slots) (hx : p.tables.exec = Jvm.exec) (hZ : Z.Warmed39 s.vm) (eT : T.heap = h) {n : Int32} (hn : xs.length.toInt32 = n) {g : JFrame} (hg : g.method = m) {rest : List Value} (hs : g.stack = .ref a :: rest) (hd : decode c.code g.pc = .ok (.arraylength, 1)) :
    ∀ t, Steps p.tables e below (T.setTop { g with pc := g.pc + 1, stack := .int n :: rest }) t → Steps p.tables e below (T.setTop g) t := by
  obtain ⟨cl, Ar, S, H⟩ := A.open
  subst hn
  rw [← S]
  exact fun t k => X.arraylength hx (by rw [eT]; exact Ar.1) (State.isArrayOf_alike hZ.alike Ar.2.1) hg hs hd t k
theorem Ai.set {j v : Int32} (A : Ai Z h a ty xs) (hf : fits ty (.int v) = true) (W : Wr h h' a j.toNatClampNeg (.int v)) (hi : j.toNatClampNeg < xs.length) : Ai Z h' a ty (xs.set j.toNatClampNeg v) := by
  obtain ⟨k, z, ⟨c, A, q1, S, q3, H, G⟩, r⟩ := A
  refine ⟨k, z, ?_, by simpa using r⟩
  rw [List.map_set]
  exact Arv.set A q1 S q3 H G hf W j.toNatClampNeg rfl (by simpa using hi)
theorem Ai.store (A : Ai Z h a .int xs) (X : Stand p l e R s m args below meth c T locs cells slots) (hx : p.tables.exec = Jvm.exec) (hZ : Z.Warmed39 s.vm) (eT : T.heap = h) {j v : Int32} (hj : ¬ j < 0) (hi : j.toNatClampNeg < xs.length) {g : JFrame} (hg : g.method = m) {rest : List Value} (hs : g.stack = .int v :: .int j :: .ref a :: rest) (hd : decode c.code g.pc = .ok (.iastore, 1)) :
    ∃ T' h', Stand p l e R s m args below meth c T' (locs ++ [⟨a, j.toNatClampNeg⟩]) cells slots ∧ T'.heap = h' ∧ Wr h h' a j.toNatClampNeg (.int v) ∧ Ai Z h' a .int (xs.set j.toNatClampNeg v) ∧
      ∀ t, Steps p.tables e below (T'.setTop { g with pc := g.pc + 1, stack := rest }) t → Steps p.tables e below (T.setTop g) t := by
  obtain ⟨cl, Ar, S, H⟩ := A.open
  obtain ⟨T', h', X', e', W, st⟩ := stI X hx hZ eT Ar (j := j) (own_in hj (by rw [S]; exact hi)) hg hs hd
  exact ⟨T', h', X', e', W, A.set rfl W hi, st⟩
theorem Ai.bstore (A : Ai Z h a .byte xs) (X : Stand p l e R s m args below meth c T locs cells slots) (hx : p.tables.exec = Jvm.exec) (hZ : Z.Warmed39 s.vm) (eT : T.heap = h) {j v : Int32} (hj : ¬ j < 0) (hi : j.toNatClampNeg < xs.length) {g : JFrame} (hg : g.method = m) {rest : List Value} (hs : g.stack = .int v :: .int j :: .ref a :: rest) (hd : decode c.code g.pc = .ok (.bastore, 1)) :
    ∃ T' h', Stand p l e R s m args below meth c T' (locs ++ [⟨a, j.toNatClampNeg⟩]) cells slots ∧ T'.heap = h' ∧ Wr h h' a j.toNatClampNeg (.int v.toInt8.toInt32) ∧ Ai Z h' a .byte (xs.set j.toNatClampNeg v.toInt8.toInt32) ∧
      ∀ t, Steps p.tables e below (T'.setTop { g with pc := g.pc + 1, stack := rest }) t → Steps p.tables e below (T.setTop g) t := by
  obtain ⟨cl, Ar, S, H⟩ := A.open
  obtain ⟨T', h', X', e', W, st⟩ := stB X hx hZ eT Ar (j := j) (own_in hj (by rw [S]; exact hi)) hg hs hd
  exact ⟨T', h', X', e', W, A.set (fits_nar_byte v) W hi, st⟩
theorem Ai.new (X : Stand p l e R s m args below meth c T locs cells slots) (hx : p.tables.exec = Jvm.exec) (hZ : Z.Warmed39 s.vm) {aty : ArrayType} (w : (Jvm.Cond.arrayClass (newarray.typeOf aty)).before a0 Z = true) (hdef : defaultValue (newarray.typeOf aty) = .int 0) (eT : T.heap = h) {n : Int32} (hn : ¬ n < 0) (cap : Nat) (hcap : n.toNatClampNeg ≤ cap) (hb : cap * 8 ≤ 536870912) (hc : cells + 1 ≤ R.cells) (hl : slots + cap ≤ R.slots)
    {g : JFrame} (hg : g.method = m) {rest : List Value} (hs : g.stack = .int n :: rest) (hd : decode c.code g.pc = .ok (.newarray aty, 2)) :
    ∃ T' h' b, Stand p l e R s m args below meth c T' locs (cells + 1) (slots + cap) ∧ T'.heap = h' ∧ b = h.size ∧ Ext h h' ∧ Ai Z h' b (newarray.typeOf aty) (List.replicate n.toNatClampNeg 0) ∧
      ∀ t, Steps p.tables e below (T'.setTop { g with pc := g.pc + 2, stack := .ref b :: rest }) t → Steps p.tables e below (T.setTop g) t := by
  obtain ⟨T', h', k, X', e', E, A, st⟩ := newP X hx hZ w eT (g := g) hg hd hs hn hcap hb hc hl
  refine ⟨T', h', _, X', e', rfl, E, ⟨k, n, ?_, by simp⟩, st⟩
  have V := Arv.new A hn
  rw [hdef] at V
  rw [List.map_replicate]
  exact V.pad (pad_rep [] (.int 0) n.toNatClampNeg)
theorem Ai.newE (X : Stand p l e R s m args below meth c T locs cells slots) (hx : p.tables.exec = Jvm.exec) (hZ : Z.Warmed39 s.vm) {aty : ArrayType} (w : (Jvm.Cond.arrayClass (newarray.typeOf aty)).before a0 Z = true) (hdef : defaultValue (newarray.typeOf aty) = .int 0) (eT : T.heap = h) {n : Int32} (hn : ¬ n < 0) (cap : Nat) (hcap : n.toNatClampNeg ≤ cap) (hb : cap * 8 ≤ 536870912) (hc : cells + 1 ≤ R.cells) (hl : slots + cap ≤ R.slots) {ad : String} (had : "[" ++ (newarray.typeOf aty).toString = ad)
    {g : JFrame} (hg : g.method = m) {rest : List Value} (hs : g.stack = .int n :: rest) (hd : decode c.code g.pc = .ok (.newarray aty, 2)) :
    ∃ T' h' b, Stand p l e R s m args below meth c T' locs (cells + 1) (slots + cap) ∧ T'.heap = h' ∧ b = h.size ∧ Ext h h' ∧ Ai Z h' b (newarray.typeOf aty) (List.replicate n.toNatClampNeg 0) ∧ Exa Z h' b ad ∧
      ∀ t, Steps p.tables e below (T'.setTop { g with pc := g.pc + 2, stack := .ref b :: rest }) t → Steps p.tables e below (T.setTop g) t := by
  obtain ⟨T', h', k, X', e', E, A, Ex, st⟩ := newPE X hx hZ w eT (g := g) hg hd hs hn hcap hb hc hl had
  refine ⟨T', h', _, X', e', rfl, E, ⟨k, n, ?_, by simp⟩, Ex, st⟩
  have V := Arv.new A hn
  rw [hdef] at V
  rw [List.map_replicate]
  exact V.pad (pad_rep [] (.int 0) n.toNatClampNeg)
theorem Ai.copy (X : Stand p l e R s m args below meth c T locs cells slots) (hx : p.tables.exec = Jvm.exec) (hZ : Z.Warmed39 s.vm) {own : String} {index : Nat} (hown : s.vm.findClass own = some m.cls)
    (w1 : (Jvm.Cond.methodLink own index Jvm.Stand.acN).before a0 Z = true) (w2 : (Jvm.Cond.native Jvm.Stand.acN).before a0 Z = true) (w3 : (Jvm.Cond.static Jvm.Stand.acN).before a0 Z = true) (w4 : (Jvm.Cond.initialized "java/lang/System").before a0 Z = true) (eT : T.heap = h)
    {sp dp nn : Int32} (A : Ai Z h a ty xs) (B : Ai Z h b ty ys) (hty : refKind ty = false) (h1 : ¬ sp < 0) (h2 : ¬ dp < 0) (h3 : ¬ nn < 0) (h4 : sp.toNatClampNeg + nn.toNatClampNeg ≤ xs.length) (h5 : dp.toNatClampNeg + nn.toNatClampNeg ≤ ys.length) {n0 : Nat} (N : Fr n0 locs) (ge : n0 ≤ b)
    {g : JFrame} (hg : g.method = m) (hsize : g.locals.size = c.maxLocals) {rest : List Value} (hs : g.stack = .int nn :: .int dp :: .ref b :: .int sp :: .ref a :: rest) (hd : decode c.code g.pc = .ok (.invokestatic index, 3))
    (hf : 1 ≤ R.frames) {W : Nat} (hW : 2 * g.monitorRoom + (rest.map fun v => v.category).sum ≤ W) (hlo : W + (nativeFrameWords "java/lang/System" "arraycopy" 5 + 11) ≤ R.locals) :
    ∃ T' h' L, Stand p l e R s m args below meth c T' L cells slots ∧ T'.heap = h' ∧ Fr n0 L ∧ Keep h h' [b] ∧ Ai Z h' b ty (ys.take dp.toNatClampNeg ++ (xs.drop sp.toNatClampNeg).take nn.toNatClampNeg ++ ys.drop (dp.toNatClampNeg + nn.toNatClampNeg)) ∧
      ∀ t, Steps p.tables e below (T'.setTop { g with pc := g.pc + 3, stack := rest }) t → Steps p.tables e below (T.setTop g) t := by
  obtain ⟨k, z, A, r⟩ := A
  obtain ⟨k', z', B, r'⟩ := B
  obtain ⟨T', h', L, X', e', N', K, V, st⟩ := cpA X hx hZ hown w1 w2 w3 w4 eT A B (Or.inl ⟨rfl, hty⟩) h1 h2 h3 (by rw [r]; exact h4) (by rw [r']; exact h5) rfl (by simpa using h5) N ge hg hsize hs hd hf hW hlo
  refine ⟨T', h', L, X', e', N', K, ⟨k', z', ?_, ?_⟩, st⟩
  · have q : (List.range nn.toNatClampNeg).map (fun i => (xs.map Value.int).getD (sp.toNatClampNeg + i) (.int 0)) = ((xs.drop sp.toNatClampNeg).take nn.toNatClampNeg).map Value.int := by
      apply List.ext_getElem?
      intro i
      by_cases hi : i < nn.toNatClampNeg
      · have h6 : sp.toNatClampNeg + i < xs.length := by omega
        simp [List.getElem?_take, hi, h6, List.getD_eq_getElem?_getD]
      · simp [List.getElem?_take, hi]
    rw [q] at V
    simpa [List.map_append, List.map_take, List.map_drop] using V
  · rw [r']; simp; omega
/-! arrays of longs -/
def Al (Z : State) (h : Heap) (a : Addr) (ls : List Int64) : Prop := ∃ (k : ClassId) (z : Int32), Arv Z h a k .long z (ls.map Value.long) (.long 0) ∧ z.toNatClampNeg = ls.length
theorem Al.lt (A : Al Z h a ls) : a < h.size := by obtain ⟨_, _, q, -⟩ := A; exact q.lt
theorem Al.ext (A : Al Z h a ls) (E : Ext h h') : Al Z h' a ls := by obtain ⟨k, z, q, r⟩ := A; exact ⟨k, z, q.ext E, r⟩
theorem Al.other {sl : Nat} {v : Value} (A : Al Z h a ls) (W : Wr h h' b sl v) (ne : a ≠ b) : Al Z h' a ls := by obtain ⟨k, z, q, r⟩ := A; exact ⟨k, z, q.other W ne, r⟩
theorem Al.keep {ws : List Addr} (A : Al Z h a ls) (K : Keep h h' ws) (nin : a ∉ ws) : Al Z h' a ls := by obtain ⟨k, z, q, r⟩ := A; exact ⟨k, z, q.keep K nin, r⟩
theorem Al.len (A : Al Z h a ls) : ls.length < 2 ^ 31 := by
  obtain ⟨k, z, ⟨c, -, -, -, hz, -⟩, r⟩ := A
  rw [← r]; exact (back32 hz).2
theorem Al.open (A : Al Z h a ls) : ∃ c : Cell, Arr Z h a c .long ∧ c.slots.size = ls.length ∧ ∀ (i : Nat) (v : Int64), ls[i]? = some v → c.slots[i]? = some (.long v) := by
  obtain ⟨k, z, ⟨c, A, q1, S, q3, H, G⟩, r⟩ := A
  refine ⟨c, A, S.trans r, fun i v hv => ?_⟩
  have hi : i < ls.length := (List.getElem?_eq_some_iff.mp hv).1
  rw [H i (by rw [S, r]; exact hi)]
  simp [List.getD_eq_getElem?_getD, hv]
theorem Al.load (A : Al Z h a ls) (X : Stand p l e R s m args below meth c T locs cells slots) (hx : p.tables.exec = Jvm.exec) (hZ : Z.Warmed39 s.vm) (eT : T.heap = h) {j : Int32} {v : Int64} (hj : ¬ j < 0) (hv : ls[j.toNatClampNeg]? = some v) {g : JFrame} (hg : g.method = m) {rest : List Value} (hs : g.stack = .int j :: .ref a :: rest) (hd : decode c.code g.pc = .ok (.laload, 1)) :
    ∀ t, Steps p.tables e below (T.setTop { g with pc := g.pc + 1, stack := .long v :: rest }) t → Steps p.tables e below (T.setTop g) t := by
  obtain ⟨cl, Ar, S, H⟩ := A.open
  exact fun t k => X.laload hx (j := j) (v := .long v) (by rw [eT]; exact Ar.1) (State.isArrayOf_alike hZ.alike Ar.2.1) Ar.2.2 (own_in hj (by rw [S]; exact (List.getElem?_eq_some_iff.mp hv).1)) (H _ _ hv) hg hs hd t k
theorem Al.length (A : Al Z h a ls) (X : Stand p l e R s m args below meth c T locs cells slots) (hx : p.tables.exec = Jvm.exec) (hZ : Z.Warmed39 s.vm) (eT : T.heap = h) {n : Int32} (hn : ls.length.toInt32 = n) {g : JFrame} (hg : g.method = m) {rest : List Value} (hs : g.stack = .ref a :: rest) (hd : decode c.code g.pc = .ok (.arraylength, 1)) :
    ∀ t, Steps p.tables e below (T.setTop { g with pc := g.pc + 1, stack := .int n :: rest }) t → Steps p.tables e below (T.setTop g) t := by
  obtain ⟨cl, Ar, S, H⟩ := A.open
  subst hn
  rw [← S]
  exact fun t k => X.arraylength hx (by rw [eT]; exact Ar.1) (State.isArrayOf_alike hZ.alike Ar.2.1) hg hs hd t k
theorem Al.store (A : Al Z h a ls) (X : Stand p l e R s m args below meth c T locs cells slots) (hx : p.tables.exec = Jvm.exec) (hZ : Z.Warmed39 s.vm) (eT : T.heap = h) {j : Int32} {v : Int64} (hj : ¬ j < 0) (hi : j.toNatClampNeg < ls.length) {g : JFrame} (hg : g.method = m) {rest : List Value} (hs : g.stack = .long v :: .int j :: .ref a :: rest) (hd : decode c.code g.pc = .ok (.lastore, 1)) :
    ∃ T' h', Stand p l e R s m args below meth c T' (locs ++ [⟨a, j.toNatClampNeg⟩]) cells slots ∧ T'.heap = h' ∧ Wr h h' a j.toNatClampNeg (.long v) ∧ Al Z h' a (ls.set j.toNatClampNeg v) ∧
      ∀ t, Steps p.tables e below (T'.setTop { g with pc := g.pc + 1, stack := rest }) t → Steps p.tables e below (T.setTop g) t := by
  obtain ⟨cl, Ar, S, H⟩ := A.open
  obtain ⟨T', h', X', e', W, st⟩ := stJ X hx hZ eT Ar (j := j) (own_in hj (by rw [S]; exact hi)) hg hs hd
  refine ⟨T', h', X', e', W, ?_, st⟩
  obtain ⟨k, z, ⟨c, A, q1, S, q3, H, G⟩, r⟩ := A
  refine ⟨k, z, ?_, by simpa using r⟩
  rw [List.map_set]
  exact Arv.set A q1 S q3 H G rfl W j.toNatClampNeg rfl (by simpa using hi)
theorem Al.new (X : Stand p l e R s m args below meth c T locs cells slots) (hx : p.tables.exec = Jvm.exec) (hZ : Z.Warmed39 s.vm) {aty : ArrayType} (w : (Jvm.Cond.arrayClass (newarray.typeOf aty)).before a0 Z = true) (hdef : aty = .long) (eT : T.heap = h) {n : Int32} (hn : ¬ n < 0) (cap : Nat) (hcap : n.toNatClampNeg ≤ cap) (hb : cap * 8 ≤ 536870912) (hc : cells + 1 ≤ R.cells) (hl : slots + cap ≤ R.slots)
    {g : JFrame} (hg : g.method = m) {rest : List Value} (hs : g.stack = .int n :: rest) (hd : decode c.code g.pc = .ok (.newarray aty, 2)) :
    ∃ T' h' b, Stand p l e R s m args below meth c T' locs (cells + 1) (slots + cap) ∧ T'.heap = h' ∧ b = h.size ∧ Ext h h' ∧ Al Z h' b (List.replicate n.toNatClampNeg 0) ∧
      ∀ t, Steps p.tables e below (T'.setTop { g with pc := g.pc + 2, stack := .ref b :: rest }) t → Steps p.tables e below (T.setTop g) t := by
  obtain ⟨T', h', k, X', e', E, A, st⟩ := newP X hx hZ w eT (g := g) hg hd hs hn hcap hb hc hl
  subst hdef
  refine ⟨T', h', _, X', e', rfl, E, ⟨k, n, ?_, by simp⟩, st⟩
  have V := Arv.new A hn
  rw [List.map_replicate]
  exact V.pad (pad_rep [] (.long 0) n.toNatClampNeg)
theorem own_if1 {P : Prop} [Decidable P] (h : P) : ¬ ((if P then (1 : Int32) else (0 : Int32)) = 0) := by rw [if_pos h]; decide
theorem own_if0 {P : Prop} [Decidable P] (h : ¬ P) : (if P then (1 : Int32) else (0 : Int32)) = 0 := if_neg h
theorem own_ifc {P Q : Prop} [Decidable P] [Decidable Q] (h : P ↔ Q) : (if P then (1 : Int32) else (0 : Int32)) = (if Q then (1 : Int32) else (0 : Int32)) := by
  by_cases p : P
  · rw [if_pos p, if_pos (h.mp p)]
  · rw [if_neg p, if_neg (fun q => p (h.mpr q))]
theorem own_narI {P : Prop} [Decidable P] : nar .boolean (if P then (1 : Int32) else (0 : Int32)) = (if P then (1 : Int32) else (0 : Int32)) := by
  by_cases p : P
  · rw [if_pos p]; rfl
  · rw [if_neg p]; rfl
theorem own_bb (x : Int32) : x.toInt8.toInt32.toInt8.toInt32 = x.toInt8.toInt32 := by simp
end Layer
section Numbers
theorem own_mod (x k : Int32) (hk : 0 < k.toInt) : 0 ≤ ((x &&& (2147483647 : Int32)) % k).toInt ∧ ((x &&& (2147483647 : Int32)) % k).toInt < k.toInt := by
  have h1 := c_and x 2147483647 (by decide)
  have h2 := (c_iremV (x &&& 2147483647) k).1 h1.1 hk
  exact ⟨h2.1, h2.2.1⟩
theorem own_nn {j : Int32} (h : 0 ≤ j.toInt) : ¬ j < 0 := by
  rw [Int32.lt_iff_toInt_lt, show (0 : Int32).toInt = 0 from rfl]; omega
theorem own_nat {j : Int32} {k : Nat} (h : 0 ≤ j.toInt) (h2 : j.toInt < k) : j.toNatClampNeg < k := by
  simp only [Int32.toNatClampNeg]; omega
theorem own_at {xs : List Int32} {i : Nat} (h : i < xs.length) : ∃ v, xs[i]? = some v := ⟨xs[i], List.getElem?_eq_getElem h⟩
end Numbers
theorem own_il_at {ys zs : List Int32} {k : Nat} {x : Int32} (h : ys[k]? = some x) : (ys ++ zs)[k]? = some x := by rw [List.getElem?_append_left (List.getElem?_eq_some_iff.mp h).1]; exact h
theorem own_il_lt {i x : Int32} {ys : List Int32} (h0 : ¬ i < 0) (h : ys[i.toNatClampNeg]? = some x) (h1 : ys.length ≤ 16) : i < ys.length.toInt32 := by
  have q := (List.getElem?_eq_some_iff.mp h).1
  rw [Int32.lt_iff_toInt_lt, len_toInt (by omega)]
  rw [Int32.lt_iff_toInt_lt, show (0 : Int32).toInt = 0 from rfl] at h0
  simp only [Int32.toNatClampNeg] at q; omega
theorem own_lswMiss {p : Program} {l : Launch} {e : Env} {R : Room} {s : State} {m : MethodId} {args : Array Value} {below : List Frame} {meth : Method} {c : Code} {T : State} {locs : List Loc} {cells slots : Nat} (X : Stand p l e R s m args below meth c T locs cells slots) (hx : p.tables.exec = Jvm.exec) {g : JFrame} (hg : g.method = m) {k : Int32} {rest : List Value} (hs : g.stack = .int k :: rest) {dflt : Int} {pairs : Array (Int × Int)} {len pc0 pc' : Nat} (hpc : g.pc = pc0) (hd : decode c.code g.pc = .ok (.lookupswitch dflt pairs, len))
    (ho : (pairs.toList.zip (pairs.toList.drop 1)).all (fun (a, next) => a.1 < next.1) = true) (hf : pairs.find? (·.1 == k.toInt) = none) (h0 : 0 ≤ (pc0 : Int) + dflt) (hp : ((pc0 : Int) + dflt).toNat = pc') (t : State) (r : Steps p.tables e below (T.setTop { g with pc := pc', stack := rest }) t) : Steps p.tables e below (T.setTop g) t := by
  subst hpc hp
  exact X.lookupswitchMiss hx hg hs hd ho hf h0 t r
theorem own_big {n : Nat} (h : n ≤ 4) : ¬ (n.toInt32 = (536870912 : Int32)) := by
  intro q; have q := congrArg Int32.toInt q; rw [len_toInt (by omega), show (536870912 : Int32).toInt = 536870912 from rfl] at q; omega
theorem own_small {n : Nat} (h : n ≤ 8) : ¬ ((8 : Int32) < n.toInt32) := by
  intro q; rw [Int32.lt_iff_toInt_lt, len_toInt (by omega), show (8 : Int32).toInt = 8 from rfl] at q; omega
theorem own_nexts (s : Int32) (r : 0 ≤ s.toInt ∧ s.toInt ≤ 15) : s.toNatClampNeg ≠ ((s + (1 : Int32)) &&& (15 : Int32)).toNatClampNeg := by
  have m := c_mask (s + 1) 15 4 (by decide) (by decide)
  have a := c_iadd s 1
  have e1 : (1 : Int32).toInt = 1 := rfl
  have r2 := rng32 (s + 1)
  rw [show ((2 ^ 4 : Nat) : Int) = 16 from rfl] at m
  simp only [Int32.toNatClampNeg]; omega
theorem w0 {Z : State} {a0 : Array Value} (hw : ∀ d ∈ tables_1, d.before a0 Z = true) : (Jvm.Cond.arrayClass Jvm.ClassFile.FieldType.int).before a0 Z = true := hw _ (List.mem_of_getElem? (i := 0) rfl)
theorem w1 {Z : State} {a0 : Array Value} (hw : ∀ d ∈ tables_1, d.before a0 Z = true) : (Jvm.Cond.classLink "com/example/caseweave/caseweave/core/MarkingTableIsAtMostPinLaw" (7 : Nat) "com/example/caseweave/caseweave/core/MarkingTable").before a0 Z = true := hw _ (List.mem_of_getElem? (i := 1) rfl)
theorem w2 {Z : State} {a0 : Array Value} (hw : ∀ d ∈ tables_1, d.before a0 Z = true) : (Jvm.Cond.instantiable "com/example/caseweave/caseweave/core/MarkingTable" (6 : Nat)).before a0 Z = true := hw _ (List.mem_of_getElem? (i := 2) rfl)
theorem w3 {Z : State} {a0 : Array Value} (hw : ∀ d ∈ tables_1, d.before a0 Z = true) : (Jvm.Cond.initialized "com/example/caseweave/caseweave/core/MarkingTable").before a0 Z = true := hw _ (List.mem_of_getElem? (i := 3) rfl)
theorem w4 {Z : State} {a0 : Array Value} (hw : ∀ d ∈ tables_1, d.before a0 Z = true) : (Jvm.Cond.methodLink "com/example/caseweave/caseweave/core/MarkingTableIsAtMostPinLaw" (9 : Nat) ({ cls := "com/example/caseweave/caseweave/core/MarkingTable", name := "<init>", desc := "(I)V" } : Jvm.MethodName)).before a0 Z = true := hw _ (List.mem_of_getElem? (i := 4) rfl)
theorem w5 {Z : State} {a0 : Array Value} (hw : ∀ d ∈ tables_1, d.before a0 Z = true) : (Jvm.Cond.instanceMethod ({ cls := "com/example/caseweave/caseweave/core/MarkingTable", name := "<init>", desc := "(I)V" } : Jvm.MethodName)).before a0 Z = true := hw _ (List.mem_of_getElem? (i := 5) rfl)
theorem w6 {Z : State} {a0 : Array Value} (hw : ∀ d ∈ tables_1, d.before a0 Z = true) : (Jvm.Cond.code ({ cls := "com/example/caseweave/caseweave/core/MarkingTable", name := "<init>", desc := "(I)V" } : Jvm.MethodName) prog_9_method_1_code (2 : Nat) (Option.none : Option Jvm.ClassFile.FieldType)).before a0 Z = true := hw _ (List.mem_of_getElem? (i := 6) rfl)
theorem w7 {Z : State} {a0 : Array Value} (hw : ∀ d ∈ tables_1, d.before a0 Z = true) : (Jvm.Cond.methodLink "com/example/caseweave/caseweave/core/MarkingTable" (1 : Nat) ({ cls := "java/lang/Object", name := "<init>", desc := "()V" } : Jvm.MethodName)).before a0 Z = true := hw _ (List.mem_of_getElem? (i := 7) rfl)
theorem w8 {Z : State} {a0 : Array Value} (hw : ∀ d ∈ tables_1, d.before a0 Z = true) : (Jvm.Cond.instanceMethod ({ cls := "java/lang/Object", name := "<init>", desc := "()V" } : Jvm.MethodName)).before a0 Z = true := hw _ (List.mem_of_getElem? (i := 8) rfl)
theorem w9 {Z : State} {a0 : Array Value} (hw : ∀ d ∈ tables_1, d.before a0 Z = true) : (Jvm.Cond.code ({ cls := "java/lang/Object", name := "<init>", desc := "()V" } : Jvm.MethodName) object_method_1_code (1 : Nat) (Option.none : Option Jvm.ClassFile.FieldType)).before a0 Z = true := hw _ (List.mem_of_getElem? (i := 9) rfl)
theorem w10 {Z : State} {a0 : Array Value} (hw : ∀ d ∈ tables_1, d.before a0 Z = true) : (Jvm.Cond.classLink "com/example/caseweave/caseweave/core/MarkingTable" (7 : Nat) "com/example/caseweave/caseweave/core/IntList").before a0 Z = true := hw _ (List.mem_of_getElem? (i := 10) rfl)
theorem w11 {Z : State} {a0 : Array Value} (hw : ∀ d ∈ tables_1, d.before a0 Z = true) : (Jvm.Cond.instantiable "com/example/caseweave/caseweave/core/IntList" (2 : Nat)).before a0 Z = true := hw _ (List.mem_of_getElem? (i := 11) rfl)
theorem w12 {Z : State} {a0 : Array Value} (hw : ∀ d ∈ tables_1, d.before a0 Z = true) : (Jvm.Cond.initialized "com/example/caseweave/caseweave/core/IntList").before a0 Z = true := hw _ (List.mem_of_getElem? (i := 12) rfl)
theorem w13 {Z : State} {a0 : Array Value} (hw : ∀ d ∈ tables_1, d.before a0 Z = true) : (Jvm.Cond.methodLink "com/example/caseweave/caseweave/core/MarkingTable" (9 : Nat) ({ cls := "com/example/caseweave/caseweave/core/IntList", name := "<init>", desc := "()V" } : Jvm.MethodName)).before a0 Z = true := hw _ (List.mem_of_getElem? (i := 13) rfl)
theorem w14 {Z : State} {a0 : Array Value} (hw : ∀ d ∈ tables_1, d.before a0 Z = true) : (Jvm.Cond.instanceMethod ({ cls := "com/example/caseweave/caseweave/core/IntList", name := "<init>", desc := "()V" } : Jvm.MethodName)).before a0 Z = true := hw _ (List.mem_of_getElem? (i := 14) rfl)
theorem w15 {Z : State} {a0 : Array Value} (hw : ∀ d ∈ tables_1, d.before a0 Z = true) : (Jvm.Cond.code ({ cls := "com/example/caseweave/caseweave/core/IntList", name := "<init>", desc := "()V" } : Jvm.MethodName) prog_6_method_1_code (1 : Nat) (Option.none : Option Jvm.ClassFile.FieldType)).before a0 Z = true := hw _ (List.mem_of_getElem? (i := 15) rfl)
theorem w16 {Z : State} {a0 : Array Value} (hw : ∀ d ∈ tables_1, d.before a0 Z = true) : (Jvm.Cond.methodLink "com/example/caseweave/caseweave/core/IntList" (3 : Nat) ({ cls := "java/lang/Object", name := "<init>", desc := "()V" } : Jvm.MethodName)).before a0 Z = true := hw _ (List.mem_of_getElem? (i := 16) rfl)
theorem w17 {Z : State} {a0 : Array Value} (hw : ∀ d ∈ tables_1, d.before a0 Z = true) : (Jvm.Cond.fieldLink "com/example/caseweave/caseweave/core/IntList" (9 : Nat) "com/example/caseweave/caseweave/core/IntList" "values" "[I").before a0 Z = true := hw _ (List.mem_of_getElem? (i := 17) rfl)
theorem w18 {Z : State} {a0 : Array Value} (hw : ∀ d ∈ tables_1, d.before a0 Z = true) : (Jvm.Cond.lays "com/example/caseweave/caseweave/core/IntList" "com/example/caseweave/caseweave/core/IntList" "values" "[I").before a0 Z = true := hw _ (List.mem_of_getElem? (i := 18) rfl)
theorem w19 {Z : State} {a0 : Array Value} (hw : ∀ d ∈ tables_1, d.before a0 Z = true) : (Jvm.Cond.fieldLink "com/example/caseweave/caseweave/core/MarkingTable" (10 : Nat) "com/example/caseweave/caseweave/core/MarkingTable" "pairs" "Lcom/example/caseweave/caseweave/core/IntList;").before a0 Z = true := hw _ (List.mem_of_getElem? (i := 19) rfl)
theorem w20 {Z : State} {a0 : Array Value} (hw : ∀ d ∈ tables_1, d.before a0 Z = true) : (Jvm.Cond.laysFinal "com/example/caseweave/caseweave/core/MarkingTable" "com/example/caseweave/caseweave/core/MarkingTable" "pairs" "Lcom/example/caseweave/caseweave/core/IntList;").before a0 Z = true := hw _ (List.mem_of_getElem? (i := 20) rfl)
theorem w21 {Z : State} {a0 : Array Value} (hw : ∀ d ∈ tables_1, d.before a0 Z = true) : (Jvm.Cond.fieldLink "com/example/caseweave/caseweave/core/MarkingTable" (16 : Nat) "com/example/caseweave/caseweave/core/MarkingTable" "starts" "Lcom/example/caseweave/caseweave/core/IntList;").before a0 Z = true := hw _ (List.mem_of_getElem? (i := 21) rfl)
theorem w22 {Z : State} {a0 : Array Value} (hw : ∀ d ∈ tables_1, d.before a0 Z = true) : (Jvm.Cond.laysFinal "com/example/caseweave/caseweave/core/MarkingTable" "com/example/caseweave/caseweave/core/MarkingTable" "starts" "Lcom/example/caseweave/caseweave/core/IntList;").before a0 Z = true := hw _ (List.mem_of_getElem? (i := 22) rfl)
theorem w23 {Z : State} {a0 : Array Value} (hw : ∀ d ∈ tables_1, d.before a0 Z = true) : (Jvm.Cond.fieldLink "com/example/caseweave/caseweave/core/MarkingTable" (19 : Nat) "com/example/caseweave/caseweave/core/MarkingTable" "hashes" "Lcom/example/caseweave/caseweave/core/IntList;").before a0 Z = true := hw _ (List.mem_of_getElem? (i := 23) rfl)
theorem w24 {Z : State} {a0 : Array Value} (hw : ∀ d ∈ tables_1, d.before a0 Z = true) : (Jvm.Cond.laysFinal "com/example/caseweave/caseweave/core/MarkingTable" "com/example/caseweave/caseweave/core/MarkingTable" "hashes" "Lcom/example/caseweave/caseweave/core/IntList;").before a0 Z = true := hw _ (List.mem_of_getElem? (i := 24) rfl)
theorem w25 {Z : State} {a0 : Array Value} (hw : ∀ d ∈ tables_1, d.before a0 Z = true) : (Jvm.Cond.fieldLink "com/example/caseweave/caseweave/core/MarkingTable" (22 : Nat) "com/example/caseweave/caseweave/core/MarkingTable" "slots" "[I").before a0 Z = true := hw _ (List.mem_of_getElem? (i := 25) rfl)
theorem w26 {Z : State} {a0 : Array Value} (hw : ∀ d ∈ tables_1, d.before a0 Z = true) : (Jvm.Cond.lays "com/example/caseweave/caseweave/core/MarkingTable" "com/example/caseweave/caseweave/core/MarkingTable" "slots" "[I").before a0 Z = true := hw _ (List.mem_of_getElem? (i := 26) rfl)
theorem w27 {Z : State} {a0 : Array Value} (hw : ∀ d ∈ tables_1, d.before a0 Z = true) : (Jvm.Cond.fieldLink "com/example/caseweave/caseweave/core/MarkingTable" (26 : Nat) "com/example/caseweave/caseweave/core/MarkingTable" "places" "I").before a0 Z = true := hw _ (List.mem_of_getElem? (i := 27) rfl)
theorem w28 {Z : State} {a0 : Array Value} (hw : ∀ d ∈ tables_1, d.before a0 Z = true) : (Jvm.Cond.laysFinal "com/example/caseweave/caseweave/core/MarkingTable" "com/example/caseweave/caseweave/core/MarkingTable" "places" "I").before a0 Z = true := hw _ (List.mem_of_getElem? (i := 28) rfl)
theorem w29 {Z : State} {a0 : Array Value} (hw : ∀ d ∈ tables_1, d.before a0 Z = true) : (Jvm.Cond.fieldLink "com/example/caseweave/caseweave/core/MarkingTable" (30 : Nat) "com/example/caseweave/caseweave/core/MarkingTable" "stored" "[I").before a0 Z = true := hw _ (List.mem_of_getElem? (i := 29) rfl)
theorem w30 {Z : State} {a0 : Array Value} (hw : ∀ d ∈ tables_1, d.before a0 Z = true) : (Jvm.Cond.laysFinal "com/example/caseweave/caseweave/core/MarkingTable" "com/example/caseweave/caseweave/core/MarkingTable" "stored" "[I").before a0 Z = true := hw _ (List.mem_of_getElem? (i := 30) rfl)
theorem w31 {Z : State} {a0 : Array Value} (hw : ∀ d ∈ tables_1, d.before a0 Z = true) : (Jvm.Cond.methodLink "com/example/caseweave/caseweave/core/MarkingTable" (33 : Nat) ({ cls := "com/example/caseweave/caseweave/core/IntList", name := "add", desc := "(I)V" } : Jvm.MethodName)).before a0 Z = true := hw _ (List.mem_of_getElem? (i := 31) rfl)
theorem w32 {Z : State} {a0 : Array Value} (hw : ∀ d ∈ tables_1, d.before a0 Z = true) : (Jvm.Cond.declares ({ cls := "com/example/caseweave/caseweave/core/IntList", name := "add", desc := "(I)V" } : Jvm.MethodName)).before a0 Z = true := hw _ (List.mem_of_getElem? (i := 32) rfl)
theorem w33 {Z : State} {a0 : Array Value} (hw : ∀ d ∈ tables_1, d.before a0 Z = true) : (Jvm.Cond.instanceMethod ({ cls := "com/example/caseweave/caseweave/core/IntList", name := "add", desc := "(I)V" } : Jvm.MethodName)).before a0 Z = true := hw _ (List.mem_of_getElem? (i := 33) rfl)
theorem w34 {Z : State} {a0 : Array Value} (hw : ∀ d ∈ tables_1, d.before a0 Z = true) : (Jvm.Cond.selects "com/example/caseweave/caseweave/core/IntList" ({ cls := "com/example/caseweave/caseweave/core/IntList", name := "add", desc := "(I)V" } : Jvm.MethodName) ({ cls := "com/example/caseweave/caseweave/core/IntList", name := "add", desc := "(I)V" } : Jvm.MethodName)).before a0 Z = true := hw _ (List.mem_of_getElem? (i := 34) rfl)
theorem w35 {Z : State} {a0 : Array Value} (hw : ∀ d ∈ tables_1, d.before a0 Z = true) : (Jvm.Cond.code ({ cls := "com/example/caseweave/caseweave/core/IntList", name := "add", desc := "(I)V" } : Jvm.MethodName) prog_6_method_4_code (2 : Nat) (Option.none : Option Jvm.ClassFile.FieldType)).before a0 Z = true := hw _ (List.mem_of_getElem? (i := 35) rfl)
theorem w36 {Z : State} {a0 : Array Value} (hw : ∀ d ∈ tables_1, d.before a0 Z = true) : (Jvm.Cond.fieldLink "com/example/caseweave/caseweave/core/IntList" (15 : Nat) "com/example/caseweave/caseweave/core/IntList" "size" "I").before a0 Z = true := hw _ (List.mem_of_getElem? (i := 36) rfl)
theorem w37 {Z : State} {a0 : Array Value} (hw : ∀ d ∈ tables_1, d.before a0 Z = true) : (Jvm.Cond.lays "com/example/caseweave/caseweave/core/IntList" "com/example/caseweave/caseweave/core/IntList" "size" "I").before a0 Z = true := hw _ (List.mem_of_getElem? (i := 37) rfl)
theorem w38 {Z : State} {a0 : Array Value} (hw : ∀ d ∈ tables_1, d.before a0 Z = true) : (Jvm.Cond.methodLink "com/example/caseweave/caseweave/core/MarkingTableIsAtMostPinLaw" (12 : Nat) ({ cls := "com/example/caseweave/caseweave/core/MarkingTable", name := "add", desc := "([I)I" } : Jvm.MethodName)).before a0 Z = true := hw _ (List.mem_of_getElem? (i := 38) rfl)
theorem w39 {Z : State} {a0 : Array Value} (hw : ∀ d ∈ tables_1, d.before a0 Z = true) : (Jvm.Cond.declares ({ cls := "com/example/caseweave/caseweave/core/MarkingTable", name := "add", desc := "([I)I" } : Jvm.MethodName)).before a0 Z = true := hw _ (List.mem_of_getElem? (i := 39) rfl)
theorem w40 {Z : State} {a0 : Array Value} (hw : ∀ d ∈ tables_1, d.before a0 Z = true) : (Jvm.Cond.instanceMethod ({ cls := "com/example/caseweave/caseweave/core/MarkingTable", name := "add", desc := "([I)I" } : Jvm.MethodName)).before a0 Z = true := hw _ (List.mem_of_getElem? (i := 40) rfl)
theorem w41 {Z : State} {a0 : Array Value} (hw : ∀ d ∈ tables_1, d.before a0 Z = true) : (Jvm.Cond.selects "com/example/caseweave/caseweave/core/MarkingTable" ({ cls := "com/example/caseweave/caseweave/core/MarkingTable", name := "add", desc := "([I)I" } : Jvm.MethodName) ({ cls := "com/example/caseweave/caseweave/core/MarkingTable", name := "add", desc := "([I)I" } : Jvm.MethodName)).before a0 Z = true := hw _ (List.mem_of_getElem? (i := 41) rfl)
theorem w42 {Z : State} {a0 : Array Value} (hw : ∀ d ∈ tables_1, d.before a0 Z = true) : (Jvm.Cond.code ({ cls := "com/example/caseweave/caseweave/core/MarkingTable", name := "add", desc := "([I)I" } : Jvm.MethodName) prog_9_method_4_code (4 : Nat) (Option.some Jvm.ClassFile.FieldType.int)).before a0 Z = true := hw _ (List.mem_of_getElem? (i := 42) rfl)
theorem w43 {Z : State} {a0 : Array Value} (hw : ∀ d ∈ tables_1, d.before a0 Z = true) : (Jvm.Cond.methodLink "com/example/caseweave/caseweave/core/MarkingTable" (59 : Nat) ({ cls := "com/example/caseweave/caseweave/core/MarkingTable", name := "size", desc := "()I" } : Jvm.MethodName)).before a0 Z = true := hw _ (List.mem_of_getElem? (i := 43) rfl)
theorem w44 {Z : State} {a0 : Array Value} (hw : ∀ d ∈ tables_1, d.before a0 Z = true) : (Jvm.Cond.declares ({ cls := "com/example/caseweave/caseweave/core/MarkingTable", name := "size", desc := "()I" } : Jvm.MethodName)).before a0 Z = true := hw _ (List.mem_of_getElem? (i := 44) rfl)
theorem w45 {Z : State} {a0 : Array Value} (hw : ∀ d ∈ tables_1, d.before a0 Z = true) : (Jvm.Cond.instanceMethod ({ cls := "com/example/caseweave/caseweave/core/MarkingTable", name := "size", desc := "()I" } : Jvm.MethodName)).before a0 Z = true := hw _ (List.mem_of_getElem? (i := 45) rfl)
theorem w46 {Z : State} {a0 : Array Value} (hw : ∀ d ∈ tables_1, d.before a0 Z = true) : (Jvm.Cond.selects "com/example/caseweave/caseweave/core/MarkingTable" ({ cls := "com/example/caseweave/caseweave/core/MarkingTable", name := "size", desc := "()I" } : Jvm.MethodName) ({ cls := "com/example/caseweave/caseweave/core/MarkingTable", name := "size", desc := "()I" } : Jvm.MethodName)).before a0 Z = true := hw _ (List.mem_of_getElem? (i := 46) rfl)
theorem w47 {Z : State} {a0 : Array Value} (hw : ∀ d ∈ tables_1, d.before a0 Z = true) : (Jvm.Cond.code ({ cls := "com/example/caseweave/caseweave/core/MarkingTable", name := "size", desc := "()I" } : Jvm.MethodName) prog_9_method_2_code (1 : Nat) (Option.some Jvm.ClassFile.FieldType.int)).before a0 Z = true := hw _ (List.mem_of_getElem? (i := 47) rfl)
theorem w48 {Z : State} {a0 : Array Value} (hw : ∀ d ∈ tables_1, d.before a0 Z = true) : (Jvm.Cond.methodLink "com/example/caseweave/caseweave/core/MarkingTable" (37 : Nat) ({ cls := "com/example/caseweave/caseweave/core/IntList", name := "size", desc := "()I" } : Jvm.MethodName)).before a0 Z = true := hw _ (List.mem_of_getElem? (i := 48) rfl)
theorem w49 {Z : State} {a0 : Array Value} (hw : ∀ d ∈ tables_1, d.before a0 Z = true) : (Jvm.Cond.declares ({ cls := "com/example/caseweave/caseweave/core/IntList", name := "size", desc := "()I" } : Jvm.MethodName)).before a0 Z = true := hw _ (List.mem_of_getElem? (i := 49) rfl)
theorem w50 {Z : State} {a0 : Array Value} (hw : ∀ d ∈ tables_1, d.before a0 Z = true) : (Jvm.Cond.instanceMethod ({ cls := "com/example/caseweave/caseweave/core/IntList", name := "size", desc := "()I" } : Jvm.MethodName)).before a0 Z = true := hw _ (List.mem_of_getElem? (i := 50) rfl)
theorem w51 {Z : State} {a0 : Array Value} (hw : ∀ d ∈ tables_1, d.before a0 Z = true) : (Jvm.Cond.selects "com/example/caseweave/caseweave/core/IntList" ({ cls := "com/example/caseweave/caseweave/core/IntList", name := "size", desc := "()I" } : Jvm.MethodName) ({ cls := "com/example/caseweave/caseweave/core/IntList", name := "size", desc := "()I" } : Jvm.MethodName)).before a0 Z = true := hw _ (List.mem_of_getElem? (i := 51) rfl)
theorem w52 {Z : State} {a0 : Array Value} (hw : ∀ d ∈ tables_1, d.before a0 Z = true) : (Jvm.Cond.code ({ cls := "com/example/caseweave/caseweave/core/IntList", name := "size", desc := "()I" } : Jvm.MethodName) prog_6_method_2_code (1 : Nat) (Option.some Jvm.ClassFile.FieldType.int)).before a0 Z = true := hw _ (List.mem_of_getElem? (i := 52) rfl)
theorem w53 {Z : State} {a0 : Array Value} (hw : ∀ d ∈ tables_1, d.before a0 Z = true) : (Jvm.Cond.constant "com/example/caseweave/caseweave/core/MarkingTable" (60 : Nat) (536870912 : Int32)).before a0 Z = true := hw _ (List.mem_of_getElem? (i := 53) rfl)
theorem w54 {Z : State} {a0 : Array Value} (hw : ∀ d ∈ tables_1, d.before a0 Z = true) : (Jvm.Cond.methodLink "com/example/caseweave/caseweave/core/MarkingTable" (41 : Nat) ({ cls := "com/example/caseweave/caseweave/core/MarkingTable", name := "hash", desc := "([I)I" } : Jvm.MethodName)).before a0 Z = true := hw _ (List.mem_of_getElem? (i := 54) rfl)
theorem w55 {Z : State} {a0 : Array Value} (hw : ∀ d ∈ tables_1, d.before a0 Z = true) : (Jvm.Cond.static ({ cls := "com/example/caseweave/caseweave/core/MarkingTable", name := "hash", desc := "([I)I" } : Jvm.MethodName)).before a0 Z = true := hw _ (List.mem_of_getElem? (i := 55) rfl)
theorem w56 {Z : State} {a0 : Array Value} (hw : ∀ d ∈ tables_1, d.before a0 Z = true) : (Jvm.Cond.code ({ cls := "com/example/caseweave/caseweave/core/MarkingTable", name := "hash", desc := "([I)I" } : Jvm.MethodName) prog_9_method_9_code (2 : Nat) (Option.some Jvm.ClassFile.FieldType.int)).before a0 Z = true := hw _ (List.mem_of_getElem? (i := 56) rfl)
theorem w57 {Z : State} {a0 : Array Value} (hw : ∀ d ∈ tables_1, d.before a0 Z = true) : (Jvm.Cond.methodLink "com/example/caseweave/caseweave/core/MarkingTable" (75 : Nat) ({ cls := "java/util/Arrays", name := "hashCode", desc := "([I)I" } : Jvm.MethodName)).before a0 Z = true := hw _ (List.mem_of_getElem? (i := 57) rfl)
theorem w58 {Z : State} {a0 : Array Value} (hw : ∀ d ∈ tables_1, d.before a0 Z = true) : (Jvm.Cond.static ({ cls := "java/util/Arrays", name := "hashCode", desc := "([I)I" } : Jvm.MethodName)).before a0 Z = true := hw _ (List.mem_of_getElem? (i := 58) rfl)
theorem w59 {Z : State} {a0 : Array Value} (hw : ∀ d ∈ tables_1, d.before a0 Z = true) : (Jvm.Cond.initialized "java/util/Arrays").before a0 Z = true := hw _ (List.mem_of_getElem? (i := 59) rfl)
theorem w60 {Z : State} {a0 : Array Value} (hw : ∀ d ∈ tables_1, d.before a0 Z = true) : (Jvm.Cond.code ({ cls := "java/util/Arrays", name := "hashCode", desc := "([I)I" } : Jvm.MethodName) jdk_65_method_150_code (1 : Nat) (Option.some Jvm.ClassFile.FieldType.int)).before a0 Z = true := hw _ (List.mem_of_getElem? (i := 60) rfl)
theorem w61 {Z : State} {a0 : Array Value} (hw : ∀ d ∈ tables_1, d.before a0 Z = true) : (Jvm.Cond.methodLink "java/util/Arrays" (379 : Nat) ({ cls := "jdk/internal/util/ArraysSupport", name := "vectorizedHashCode", desc := "(Ljava/lang/Object;IIII)I" } : Jvm.MethodName)).before a0 Z = true := hw _ (List.mem_of_getElem? (i := 61) rfl)
theorem w62 {Z : State} {a0 : Array Value} (hw : ∀ d ∈ tables_1, d.before a0 Z = true) : (Jvm.Cond.static ({ cls := "jdk/internal/util/ArraysSupport", name := "vectorizedHashCode", desc := "(Ljava/lang/Object;IIII)I" } : Jvm.MethodName)).before a0 Z = true := hw _ (List.mem_of_getElem? (i := 62) rfl)
theorem w63 {Z : State} {a0 : Array Value} (hw : ∀ d ∈ tables_1, d.before a0 Z = true) : (Jvm.Cond.initialized "jdk/internal/util/ArraysSupport").before a0 Z = true := hw _ (List.mem_of_getElem? (i := 63) rfl)
theorem w64 {Z : State} {a0 : Array Value} (hw : ∀ d ∈ tables_1, d.before a0 Z = true) : (Jvm.Cond.code ({ cls := "jdk/internal/util/ArraysSupport", name := "vectorizedHashCode", desc := "(Ljava/lang/Object;IIII)I" } : Jvm.MethodName) jdk_48_method_4_code (5 : Nat) (Option.some Jvm.ClassFile.FieldType.int)).before a0 Z = true := hw _ (List.mem_of_getElem? (i := 64) rfl)
theorem w65 {Z : State} {a0 : Array Value} (hw : ∀ d ∈ tables_1, d.before a0 Z = true) : (Jvm.Cond.classLink "jdk/internal/util/ArraysSupport" (82 : Nat) "[I").before a0 Z = true := hw _ (List.mem_of_getElem? (i := 65) rfl)
theorem w67 {Z : State} {a0 : Array Value} (hw : ∀ d ∈ tables_1, d.before a0 Z = true) : (Jvm.Cond.methodLink "jdk/internal/util/ArraysSupport" (84 : Nat) ({ cls := "jdk/internal/util/ArraysSupport", name := "hashCode", desc := "(I[III)I" } : Jvm.MethodName)).before a0 Z = true := hw _ (List.mem_of_getElem? (i := 67) rfl)
theorem w68 {Z : State} {a0 : Array Value} (hw : ∀ d ∈ tables_1, d.before a0 Z = true) : (Jvm.Cond.static ({ cls := "jdk/internal/util/ArraysSupport", name := "hashCode", desc := "(I[III)I" } : Jvm.MethodName)).before a0 Z = true := hw _ (List.mem_of_getElem? (i := 68) rfl)
theorem w69 {Z : State} {a0 : Array Value} (hw : ∀ d ∈ tables_1, d.before a0 Z = true) : (Jvm.Cond.code ({ cls := "jdk/internal/util/ArraysSupport", name := "hashCode", desc := "(I[III)I" } : Jvm.MethodName) jdk_48_method_9_code (6 : Nat) (Option.some Jvm.ClassFile.FieldType.int)).before a0 Z = true := hw _ (List.mem_of_getElem? (i := 69) rfl)
theorem w70 {Z : State} {a0 : Array Value} (hw : ∀ d ∈ tables_1, d.before a0 Z = true) : (Jvm.Cond.constant "com/example/caseweave/caseweave/core/MarkingTable" (78 : Nat) (-1640531527 : Int32)).before a0 Z = true := hw _ (List.mem_of_getElem? (i := 70) rfl)
theorem w71 {Z : State} {a0 : Array Value} (hw : ∀ d ∈ tables_1, d.before a0 Z = true) : (Jvm.Cond.methodLink "com/example/caseweave/caseweave/core/MarkingTable" (68 : Nat) ({ cls := "com/example/caseweave/caseweave/core/MarkingTable", name := "insert", desc := "(I)V" } : Jvm.MethodName)).before a0 Z = true := hw _ (List.mem_of_getElem? (i := 71) rfl)
theorem w72 {Z : State} {a0 : Array Value} (hw : ∀ d ∈ tables_1, d.before a0 Z = true) : (Jvm.Cond.instanceMethod ({ cls := "com/example/caseweave/caseweave/core/MarkingTable", name := "insert", desc := "(I)V" } : Jvm.MethodName)).before a0 Z = true := hw _ (List.mem_of_getElem? (i := 72) rfl)
theorem w73 {Z : State} {a0 : Array Value} (hw : ∀ d ∈ tables_1, d.before a0 Z = true) : (Jvm.Cond.privateMethod ({ cls := "com/example/caseweave/caseweave/core/MarkingTable", name := "insert", desc := "(I)V" } : Jvm.MethodName)).before a0 Z = true := hw _ (List.mem_of_getElem? (i := 73) rfl)
theorem w74 {Z : State} {a0 : Array Value} (hw : ∀ d ∈ tables_1, d.before a0 Z = true) : (Jvm.Cond.code ({ cls := "com/example/caseweave/caseweave/core/MarkingTable", name := "insert", desc := "(I)V" } : Jvm.MethodName) prog_9_method_8_code (3 : Nat) (Option.none : Option Jvm.ClassFile.FieldType)).before a0 Z = true := hw _ (List.mem_of_getElem? (i := 74) rfl)
theorem w75 {Z : State} {a0 : Array Value} (hw : ∀ d ∈ tables_1, d.before a0 Z = true) : (Jvm.Cond.methodLink "com/example/caseweave/caseweave/core/MarkingTable" (45 : Nat) ({ cls := "com/example/caseweave/caseweave/core/IntList", name := "get", desc := "(I)I" } : Jvm.MethodName)).before a0 Z = true := hw _ (List.mem_of_getElem? (i := 75) rfl)
theorem w76 {Z : State} {a0 : Array Value} (hw : ∀ d ∈ tables_1, d.before a0 Z = true) : (Jvm.Cond.declares ({ cls := "com/example/caseweave/caseweave/core/IntList", name := "get", desc := "(I)I" } : Jvm.MethodName)).before a0 Z = true := hw _ (List.mem_of_getElem? (i := 76) rfl)
theorem w77 {Z : State} {a0 : Array Value} (hw : ∀ d ∈ tables_1, d.before a0 Z = true) : (Jvm.Cond.instanceMethod ({ cls := "com/example/caseweave/caseweave/core/IntList", name := "get", desc := "(I)I" } : Jvm.MethodName)).before a0 Z = true := hw _ (List.mem_of_getElem? (i := 77) rfl)
theorem w78 {Z : State} {a0 : Array Value} (hw : ∀ d ∈ tables_1, d.before a0 Z = true) : (Jvm.Cond.selects "com/example/caseweave/caseweave/core/IntList" ({ cls := "com/example/caseweave/caseweave/core/IntList", name := "get", desc := "(I)I" } : Jvm.MethodName) ({ cls := "com/example/caseweave/caseweave/core/IntList", name := "get", desc := "(I)I" } : Jvm.MethodName)).before a0 Z = true := hw _ (List.mem_of_getElem? (i := 78) rfl)
theorem w79 {Z : State} {a0 : Array Value} (hw : ∀ d ∈ tables_1, d.before a0 Z = true) : (Jvm.Cond.code ({ cls := "com/example/caseweave/caseweave/core/IntList", name := "get", desc := "(I)I" } : Jvm.MethodName) prog_6_method_3_code (2 : Nat) (Option.some Jvm.ClassFile.FieldType.int)).before a0 Z = true := hw _ (List.mem_of_getElem? (i := 79) rfl)
theorem w80 {Z : State} {a0 : Array Value} (hw : ∀ d ∈ tables_1, d.before a0 Z = true) : (Jvm.Cond.methodLink "com/example/caseweave/caseweave/core/MarkingTableIsAtMostPinLaw" (16 : Nat) ({ cls := "com/example/caseweave/caseweave/core/MarkingTableIsAtMostPinLaw", name := "fits", desc := "(II)Z" } : Jvm.MethodName)).before a0 Z = true := hw _ (List.mem_of_getElem? (i := 80) rfl)
theorem w81 {Z : State} {a0 : Array Value} (hw : ∀ d ∈ tables_1, d.before a0 Z = true) : (Jvm.Cond.static ({ cls := "com/example/caseweave/caseweave/core/MarkingTableIsAtMostPinLaw", name := "fits", desc := "(II)Z" } : Jvm.MethodName)).before a0 Z = true := hw _ (List.mem_of_getElem? (i := 81) rfl)
theorem w82 {Z : State} {a0 : Array Value} (hw : ∀ d ∈ tables_1, d.before a0 Z = true) : (Jvm.Cond.initialized "com/example/caseweave/caseweave/core/MarkingTableIsAtMostPinLaw").before a0 Z = true := hw _ (List.mem_of_getElem? (i := 82) rfl)
theorem w83 {Z : State} {a0 : Array Value} (hw : ∀ d ∈ tables_1, d.before a0 Z = true) : (Jvm.Cond.code ({ cls := "com/example/caseweave/caseweave/core/MarkingTableIsAtMostPinLaw", name := "fits", desc := "(II)Z" } : Jvm.MethodName) method_2_code (2 : Nat) (Option.some Jvm.ClassFile.FieldType.boolean)).before a0 Z = true := hw _ (List.mem_of_getElem? (i := 83) rfl)
theorem w84 {Z : State} {a0 : Array Value} (hw : ∀ d ∈ tables_1, d.before a0 Z = true) : (Jvm.Cond.methodLink "com/example/caseweave/caseweave/core/MarkingTableIsAtMostPinLaw" (22 : Nat) ({ cls := "com/example/caseweave/caseweave/core/MarkingTable", name := "isAtMost", desc := "(I[I)Z" } : Jvm.MethodName)).before a0 Z = true := hw _ (List.mem_of_getElem? (i := 84) rfl)
theorem w85 {Z : State} {a0 : Array Value} (hw : ∀ d ∈ tables_1, d.before a0 Z = true) : (Jvm.Cond.declares ({ cls := "com/example/caseweave/caseweave/core/MarkingTable", name := "isAtMost", desc := "(I[I)Z" } : Jvm.MethodName)).before a0 Z = true := hw _ (List.mem_of_getElem? (i := 85) rfl)
theorem w86 {Z : State} {a0 : Array Value} (hw : ∀ d ∈ tables_1, d.before a0 Z = true) : (Jvm.Cond.instanceMethod ({ cls := "com/example/caseweave/caseweave/core/MarkingTable", name := "isAtMost", desc := "(I[I)Z" } : Jvm.MethodName)).before a0 Z = true := hw _ (List.mem_of_getElem? (i := 86) rfl)
theorem w87 {Z : State} {a0 : Array Value} (hw : ∀ d ∈ tables_1, d.before a0 Z = true) : (Jvm.Cond.selects "com/example/caseweave/caseweave/core/MarkingTable" ({ cls := "com/example/caseweave/caseweave/core/MarkingTable", name := "isAtMost", desc := "(I[I)Z" } : Jvm.MethodName) ({ cls := "com/example/caseweave/caseweave/core/MarkingTable", name := "isAtMost", desc := "(I[I)Z" } : Jvm.MethodName)).before a0 Z = true := hw _ (List.mem_of_getElem? (i := 87) rfl)
theorem w88 {Z : State} {a0 : Array Value} (hw : ∀ d ∈ tables_1, d.before a0 Z = true) : (Jvm.Cond.code ({ cls := "com/example/caseweave/caseweave/core/MarkingTable", name := "isAtMost", desc := "(I[I)Z" } : Jvm.MethodName) prog_9_method_7_code (4 : Nat) (Option.some Jvm.ClassFile.FieldType.boolean)).before a0 Z = true := hw _ (List.mem_of_getElem? (i := 88) rfl)
theorem pd0 : parseMethodDescriptor "(I[III)I" = some ⟨[.int, (.array .int), .int, .int], some .int⟩ := by decide +kernel
theorem pd1 : parseMethodDescriptor "(Ljava/lang/Object;IIII)I" = some ⟨[(.object "java/lang/Object"), .int, .int, .int, .int], some .int⟩ := by decide +kernel
theorem pd2 : parseMethodDescriptor "([I)I" = some ⟨[(.array .int)], some .int⟩ := by decide +kernel
theorem pd3 : parseMethodDescriptor "()V" = some ⟨[], none⟩ := by decide +kernel
theorem pd4 : parseMethodDescriptor "(I)V" = some ⟨[.int], none⟩ := by decide +kernel
theorem pd5 : parseMethodDescriptor "()I" = some ⟨[], some .int⟩ := by decide +kernel
theorem pd6 : parseMethodDescriptor "(I)I" = some ⟨[.int], some .int⟩ := by decide +kernel
theorem pd7 : parseMethodDescriptor "(II)Z" = some ⟨[.int, .int], some .boolean⟩ := by decide +kernel
theorem pd8 : parseMethodDescriptor "(I[I)Z" = some ⟨[.int, (.array .int)], some .boolean⟩ := by decide +kernel
theorem pn0 : plainName "com/example/caseweave/caseweave/core/IntList" = true := by first | (simp [plainName, overriddenIn]; done) | decide +kernel
theorem pn1 : plainName "jdk/internal/util/ArraysSupport" = true := by first | (simp [plainName, overriddenIn]; done) | decide +kernel
theorem pn2 : plainName "java/util/Arrays" = true := by first | (simp [plainName, overriddenIn]; done) | decide +kernel
theorem pn3 : plainName "com/example/caseweave/caseweave/core/MarkingTable" = true := by first | (simp [plainName, overriddenIn]; done) | decide +kernel
theorem pn4 : plainName "com/example/caseweave/caseweave/core/MarkingTableIsAtMostPinLaw" = true := by first | (simp [plainName, overriddenIn]; done) | decide +kernel
theorem d1_0 : decode prog_9_method_1_code 0 = .ok (.aload_n 0, 1) := by decide +kernel
theorem d1_1 : decode prog_9_method_1_code 1 = .ok (.invokespecial 1, 3) := by decide +kernel
theorem d1_4 : decode prog_9_method_1_code 4 = .ok (.aload_n 0, 1) := by decide +kernel
theorem d1_5 : decode prog_9_method_1_code 5 = .ok (.new 7, 3) := by decide +kernel
theorem d1_8 : decode prog_9_method_1_code 8 = .ok (.dup, 1) := by decide +kernel
theorem d1_9 : decode prog_9_method_1_code 9 = .ok (.invokespecial 9, 3) := by decide +kernel
theorem d1_12 : decode prog_9_method_1_code 12 = .ok (.putfield 10, 3) := by decide +kernel
theorem d1_15 : decode prog_9_method_1_code 15 = .ok (.aload_n 0, 1) := by decide +kernel
theorem d1_16 : decode prog_9_method_1_code 16 = .ok (.new 7, 3) := by decide +kernel
theorem d1_19 : decode prog_9_method_1_code 19 = .ok (.dup, 1) := by decide +kernel
theorem d1_20 : decode prog_9_method_1_code 20 = .ok (.invokespecial 9, 3) := by decide +kernel
theorem d1_23 : decode prog_9_method_1_code 23 = .ok (.putfield 16, 3) := by decide +kernel
theorem d1_26 : decode prog_9_method_1_code 26 = .ok (.aload_n 0, 1) := by decide +kernel
theorem d1_27 : decode prog_9_method_1_code 27 = .ok (.new 7, 3) := by decide +kernel
theorem d1_30 : decode prog_9_method_1_code 30 = .ok (.dup, 1) := by decide +kernel
theorem d1_31 : decode prog_9_method_1_code 31 = .ok (.invokespecial 9, 3) := by decide +kernel
theorem d1_34 : decode prog_9_method_1_code 34 = .ok (.putfield 19, 3) := by decide +kernel
theorem d1_37 : decode prog_9_method_1_code 37 = .ok (.aload_n 0, 1) := by decide +kernel
theorem d1_38 : decode prog_9_method_1_code 38 = .ok (.bipush 16, 2) := by decide +kernel
theorem d1_40 : decode prog_9_method_1_code 40 = .ok (.newarray .int, 2) := by decide +kernel
theorem d1_42 : decode prog_9_method_1_code 42 = .ok (.putfield 22, 3) := by decide +kernel
theorem d1_45 : decode prog_9_method_1_code 45 = .ok (.aload_n 0, 1) := by decide +kernel
theorem d1_46 : decode prog_9_method_1_code 46 = .ok (.iload_n 1, 1) := by decide +kernel
theorem d1_47 : decode prog_9_method_1_code 47 = .ok (.putfield 26, 3) := by decide +kernel
theorem d1_50 : decode prog_9_method_1_code 50 = .ok (.aload_n 0, 1) := by decide +kernel
theorem d1_51 : decode prog_9_method_1_code 51 = .ok (.iload_n 1, 1) := by decide +kernel
theorem d1_52 : decode prog_9_method_1_code 52 = .ok (.newarray .int, 2) := by decide +kernel
theorem d1_54 : decode prog_9_method_1_code 54 = .ok (.putfield 30, 3) := by decide +kernel
theorem d1_57 : decode prog_9_method_1_code 57 = .ok (.aload_n 0, 1) := by decide +kernel
theorem d1_58 : decode prog_9_method_1_code 58 = .ok (.getfield 16, 3) := by decide +kernel
theorem d1_61 : decode prog_9_method_1_code 61 = .ok (.iconst 0, 1) := by decide +kernel
theorem d1_62 : decode prog_9_method_1_code 62 = .ok (.invokevirtual 33, 3) := by decide +kernel
theorem d1_65 : decode prog_9_method_1_code 65 = .ok (.return_, 1) := by decide +kernel
theorem d3_0 : decode prog_6_method_1_code 0 = .ok (.aload_n 0, 1) := by decide +kernel
theorem d3_1 : decode prog_6_method_1_code 1 = .ok (.invokespecial 3, 3) := by decide +kernel
theorem d3_4 : decode prog_6_method_1_code 4 = .ok (.aload_n 0, 1) := by decide +kernel
theorem d3_5 : decode prog_6_method_1_code 5 = .ok (.bipush 16, 2) := by decide +kernel
theorem d3_7 : decode prog_6_method_1_code 7 = .ok (.newarray .int, 2) := by decide +kernel
theorem d3_9 : decode prog_6_method_1_code 9 = .ok (.putfield 9, 3) := by decide +kernel
theorem d3_12 : decode prog_6_method_1_code 12 = .ok (.return_, 1) := by decide +kernel
theorem d4_0 : decode prog_6_method_4_code 0 = .ok (.aload_n 0, 1) := by decide +kernel
theorem d4_1 : decode prog_6_method_4_code 1 = .ok (.getfield 15, 3) := by decide +kernel
theorem d4_4 : decode prog_6_method_4_code 4 = .ok (.aload_n 0, 1) := by decide +kernel
theorem d4_5 : decode prog_6_method_4_code 5 = .ok (.getfield 9, 3) := by decide +kernel
theorem d4_8 : decode prog_6_method_4_code 8 = .ok (.arraylength, 1) := by decide +kernel
theorem d4_9 : decode prog_6_method_4_code 9 = .ok (.if_icmp .ne 49, 3) := by decide +kernel
theorem d4_58 : decode prog_6_method_4_code 58 = .ok (.aload_n 0, 1) := by decide +kernel
theorem d4_59 : decode prog_6_method_4_code 59 = .ok (.getfield 9, 3) := by decide +kernel
theorem d4_62 : decode prog_6_method_4_code 62 = .ok (.aload_n 0, 1) := by decide +kernel
theorem d4_63 : decode prog_6_method_4_code 63 = .ok (.dup, 1) := by decide +kernel
theorem d4_64 : decode prog_6_method_4_code 64 = .ok (.getfield 15, 3) := by decide +kernel
theorem d4_67 : decode prog_6_method_4_code 67 = .ok (.dup_x1, 1) := by decide +kernel
theorem d4_68 : decode prog_6_method_4_code 68 = .ok (.iconst 1, 1) := by decide +kernel
theorem d4_69 : decode prog_6_method_4_code 69 = .ok (.iadd, 1) := by decide +kernel
theorem d4_70 : decode prog_6_method_4_code 70 = .ok (.putfield 15, 3) := by decide +kernel
theorem d4_73 : decode prog_6_method_4_code 73 = .ok (.iload_n 1, 1) := by decide +kernel
theorem d4_74 : decode prog_6_method_4_code 74 = .ok (.iastore, 1) := by decide +kernel
theorem d4_75 : decode prog_6_method_4_code 75 = .ok (.return_, 1) := by decide +kernel
theorem d5_0 : decode prog_9_method_4_code 0 = .ok (.aload_n 0, 1) := by decide +kernel
theorem d5_1 : decode prog_9_method_4_code 1 = .ok (.invokevirtual 59, 3) := by decide +kernel
theorem d5_4 : decode prog_9_method_4_code 4 = .ok (.ldc 60, 2) := by decide +kernel
theorem d5_6 : decode prog_9_method_4_code 6 = .ok (.if_icmp .ne 13, 3) := by decide +kernel
theorem d5_19 : decode prog_9_method_4_code 19 = .ok (.aload_n 0, 1) := by decide +kernel
theorem d5_20 : decode prog_9_method_4_code 20 = .ok (.invokevirtual 59, 3) := by decide +kernel
theorem d5_23 : decode prog_9_method_4_code 23 = .ok (.istore_n 2, 1) := by decide +kernel
theorem d5_24 : decode prog_9_method_4_code 24 = .ok (.iconst 0, 1) := by decide +kernel
theorem d5_25 : decode prog_9_method_4_code 25 = .ok (.istore_n 3, 1) := by decide +kernel
theorem d5_26 : decode prog_9_method_4_code 26 = .ok (.iload_n 3, 1) := by decide +kernel
theorem d5_27 : decode prog_9_method_4_code 27 = .ok (.aload_n 0, 1) := by decide +kernel
theorem d5_28 : decode prog_9_method_4_code 28 = .ok (.getfield 26, 3) := by decide +kernel
theorem d5_31 : decode prog_9_method_4_code 31 = .ok (.if_icmp .ge 33, 3) := by decide +kernel
theorem d5_34 : decode prog_9_method_4_code 34 = .ok (.aload_n 1, 1) := by decide +kernel
theorem d5_35 : decode prog_9_method_4_code 35 = .ok (.iload_n 3, 1) := by decide +kernel
theorem d5_36 : decode prog_9_method_4_code 36 = .ok (.iaload, 1) := by decide +kernel
theorem d5_37 : decode prog_9_method_4_code 37 = .ok (.ifCond .eq 21, 3) := by decide +kernel
theorem d5_40 : decode prog_9_method_4_code 40 = .ok (.aload_n 0, 1) := by decide +kernel
theorem d5_41 : decode prog_9_method_4_code 41 = .ok (.getfield 10, 3) := by decide +kernel
theorem d5_44 : decode prog_9_method_4_code 44 = .ok (.iload_n 3, 1) := by decide +kernel
theorem d5_45 : decode prog_9_method_4_code 45 = .ok (.invokevirtual 33, 3) := by decide +kernel
theorem d5_48 : decode prog_9_method_4_code 48 = .ok (.aload_n 0, 1) := by decide +kernel
theorem d5_49 : decode prog_9_method_4_code 49 = .ok (.getfield 10, 3) := by decide +kernel
theorem d5_52 : decode prog_9_method_4_code 52 = .ok (.aload_n 1, 1) := by decide +kernel
theorem d5_53 : decode prog_9_method_4_code 53 = .ok (.iload_n 3, 1) := by decide +kernel
theorem d5_54 : decode prog_9_method_4_code 54 = .ok (.iaload, 1) := by decide +kernel
theorem d5_55 : decode prog_9_method_4_code 55 = .ok (.invokevirtual 33, 3) := by decide +kernel
theorem d5_58 : decode prog_9_method_4_code 58 = .ok (.iinc 3 1, 3) := by decide +kernel
theorem d5_61 : decode prog_9_method_4_code 61 = .ok (.goto (-35), 3) := by decide +kernel
theorem d5_64 : decode prog_9_method_4_code 64 = .ok (.aload_n 0, 1) := by decide +kernel
theorem d5_65 : decode prog_9_method_4_code 65 = .ok (.getfield 16, 3) := by decide +kernel
theorem d5_68 : decode prog_9_method_4_code 68 = .ok (.aload_n 0, 1) := by decide +kernel
theorem d5_69 : decode prog_9_method_4_code 69 = .ok (.getfield 10, 3) := by decide +kernel
theorem d5_72 : decode prog_9_method_4_code 72 = .ok (.invokevirtual 37, 3) := by decide +kernel
theorem d5_75 : decode prog_9_method_4_code 75 = .ok (.invokevirtual 33, 3) := by decide +kernel
theorem d5_78 : decode prog_9_method_4_code 78 = .ok (.aload_n 0, 1) := by decide +kernel
theorem d5_79 : decode prog_9_method_4_code 79 = .ok (.getfield 19, 3) := by decide +kernel
theorem d5_82 : decode prog_9_method_4_code 82 = .ok (.aload_n 1, 1) := by decide +kernel
theorem d5_83 : decode prog_9_method_4_code 83 = .ok (.invokestatic 41, 3) := by decide +kernel
theorem d5_86 : decode prog_9_method_4_code 86 = .ok (.invokevirtual 33, 3) := by decide +kernel
theorem d5_89 : decode prog_9_method_4_code 89 = .ok (.aload_n 0, 1) := by decide +kernel
theorem d5_90 : decode prog_9_method_4_code 90 = .ok (.invokevirtual 59, 3) := by decide +kernel
theorem d5_93 : decode prog_9_method_4_code 93 = .ok (.aload_n 0, 1) := by decide +kernel
theorem d5_94 : decode prog_9_method_4_code 94 = .ok (.getfield 22, 3) := by decide +kernel
theorem d5_97 : decode prog_9_method_4_code 97 = .ok (.arraylength, 1) := by decide +kernel
theorem d5_98 : decode prog_9_method_4_code 98 = .ok (.iconst 2, 1) := by decide +kernel
theorem d5_99 : decode prog_9_method_4_code 99 = .ok (.idiv, 1) := by decide +kernel
theorem d5_100 : decode prog_9_method_4_code 100 = .ok (.if_icmp .le 40, 3) := by decide +kernel
theorem d5_140 : decode prog_9_method_4_code 140 = .ok (.aload_n 0, 1) := by decide +kernel
theorem d5_141 : decode prog_9_method_4_code 141 = .ok (.iload_n 2, 1) := by decide +kernel
theorem d5_142 : decode prog_9_method_4_code 142 = .ok (.invokevirtual 68, 3) := by decide +kernel
theorem d5_145 : decode prog_9_method_4_code 145 = .ok (.iload_n 2, 1) := by decide +kernel
theorem d5_146 : decode prog_9_method_4_code 146 = .ok (.ireturn, 1) := by decide +kernel
theorem d6_0 : decode prog_9_method_2_code 0 = .ok (.aload_n 0, 1) := by decide +kernel
theorem d6_1 : decode prog_9_method_2_code 1 = .ok (.getfield 19, 3) := by decide +kernel
theorem d6_4 : decode prog_9_method_2_code 4 = .ok (.invokevirtual 37, 3) := by decide +kernel
theorem d6_7 : decode prog_9_method_2_code 7 = .ok (.ireturn, 1) := by decide +kernel
theorem d7_0 : decode prog_6_method_2_code 0 = .ok (.aload_n 0, 1) := by decide +kernel
theorem d7_1 : decode prog_6_method_2_code 1 = .ok (.getfield 15, 3) := by decide +kernel
theorem d7_4 : decode prog_6_method_2_code 4 = .ok (.ireturn, 1) := by decide +kernel
theorem d8_0 : decode prog_9_method_9_code 0 = .ok (.aload_n 0, 1) := by decide +kernel
theorem d8_1 : decode prog_9_method_9_code 1 = .ok (.invokestatic 75, 3) := by decide +kernel
theorem d8_4 : decode prog_9_method_9_code 4 = .ok (.ldc 78, 2) := by decide +kernel
theorem d8_6 : decode prog_9_method_9_code 6 = .ok (.imul, 1) := by decide +kernel
theorem d8_7 : decode prog_9_method_9_code 7 = .ok (.istore_n 1, 1) := by decide +kernel
theorem d8_8 : decode prog_9_method_9_code 8 = .ok (.iload_n 1, 1) := by decide +kernel
theorem d8_9 : decode prog_9_method_9_code 9 = .ok (.iload_n 1, 1) := by decide +kernel
theorem d8_10 : decode prog_9_method_9_code 10 = .ok (.bipush 16, 2) := by decide +kernel
theorem d8_12 : decode prog_9_method_9_code 12 = .ok (.iushr, 1) := by decide +kernel
theorem d8_13 : decode prog_9_method_9_code 13 = .ok (.ixor, 1) := by decide +kernel
theorem d8_14 : decode prog_9_method_9_code 14 = .ok (.ireturn, 1) := by decide +kernel
theorem d9_0 : decode jdk_65_method_150_code 0 = .ok (.aload_n 0, 1) := by decide +kernel
theorem d9_1 : decode jdk_65_method_150_code 1 = .ok (.ifnonnull 5, 3) := by decide +kernel
theorem d9_6 : decode jdk_65_method_150_code 6 = .ok (.aload_n 0, 1) := by decide +kernel
theorem d9_7 : decode jdk_65_method_150_code 7 = .ok (.arraylength, 1) := by decide +kernel
theorem d9_8 : decode jdk_65_method_150_code 8 = .ok (.lookupswitch 41 #[(0, 28), (1, 32)], 28) := by decide +kernel
theorem d9_49 : decode jdk_65_method_150_code 49 = .ok (.aload_n 0, 1) := by decide +kernel
theorem d9_50 : decode jdk_65_method_150_code 50 = .ok (.iconst 0, 1) := by decide +kernel
theorem d9_51 : decode jdk_65_method_150_code 51 = .ok (.aload_n 0, 1) := by decide +kernel
theorem d9_52 : decode jdk_65_method_150_code 52 = .ok (.arraylength, 1) := by decide +kernel
theorem d9_53 : decode jdk_65_method_150_code 53 = .ok (.iconst 1, 1) := by decide +kernel
theorem d9_54 : decode jdk_65_method_150_code 54 = .ok (.bipush 10, 2) := by decide +kernel
theorem d9_56 : decode jdk_65_method_150_code 56 = .ok (.invokestatic 379, 3) := by decide +kernel
theorem d9_59 : decode jdk_65_method_150_code 59 = .ok (.ireturn, 1) := by decide +kernel
theorem d10_0 : decode jdk_48_method_4_code 0 = .ok (.iload 4, 2) := by decide +kernel
theorem d10_2 : decode jdk_48_method_4_code 2 = .ok (.tableswitch 127 4 10 #[42, 55, 127, 127, 88, 101, 114], 42) := by decide +kernel
theorem d10_116 : decode jdk_48_method_4_code 116 = .ok (.iload_n 3, 1) := by decide +kernel
theorem d10_117 : decode jdk_48_method_4_code 117 = .ok (.aload_n 0, 1) := by decide +kernel
theorem d10_118 : decode jdk_48_method_4_code 118 = .ok (.checkcast 82, 3) := by decide +kernel
theorem d10_121 : decode jdk_48_method_4_code 121 = .ok (.iload_n 1, 1) := by decide +kernel
theorem d10_122 : decode jdk_48_method_4_code 122 = .ok (.iload_n 2, 1) := by decide +kernel
theorem d10_123 : decode jdk_48_method_4_code 123 = .ok (.invokestatic 84, 3) := by decide +kernel
theorem d10_126 : decode jdk_48_method_4_code 126 = .ok (.goto 31, 3) := by decide +kernel
theorem d10_157 : decode jdk_48_method_4_code 157 = .ok (.ireturn, 1) := by decide +kernel
theorem d11_0 : decode jdk_48_method_9_code 0 = .ok (.iload_n 2, 1) := by decide +kernel
theorem d11_1 : decode jdk_48_method_9_code 1 = .ok (.iload_n 3, 1) := by decide +kernel
theorem d11_2 : decode jdk_48_method_9_code 2 = .ok (.iadd, 1) := by decide +kernel
theorem d11_3 : decode jdk_48_method_9_code 3 = .ok (.istore 4, 2) := by decide +kernel
theorem d11_5 : decode jdk_48_method_9_code 5 = .ok (.iload_n 2, 1) := by decide +kernel
theorem d11_6 : decode jdk_48_method_9_code 6 = .ok (.istore 5, 2) := by decide +kernel
theorem d11_8 : decode jdk_48_method_9_code 8 = .ok (.iload 5, 2) := by decide +kernel
theorem d11_10 : decode jdk_48_method_9_code 10 = .ok (.iload 4, 2) := by decide +kernel
theorem d11_12 : decode jdk_48_method_9_code 12 = .ok (.if_icmp .ge 19, 3) := by decide +kernel
theorem d11_15 : decode jdk_48_method_9_code 15 = .ok (.bipush 31, 2) := by decide +kernel
theorem d11_17 : decode jdk_48_method_9_code 17 = .ok (.iload_n 0, 1) := by decide +kernel
theorem d11_18 : decode jdk_48_method_9_code 18 = .ok (.imul, 1) := by decide +kernel
theorem d11_19 : decode jdk_48_method_9_code 19 = .ok (.aload_n 1, 1) := by decide +kernel
theorem d11_20 : decode jdk_48_method_9_code 20 = .ok (.iload 5, 2) := by decide +kernel
theorem d11_22 : decode jdk_48_method_9_code 22 = .ok (.iaload, 1) := by decide +kernel
theorem d11_23 : decode jdk_48_method_9_code 23 = .ok (.iadd, 1) := by decide +kernel
theorem d11_24 : decode jdk_48_method_9_code 24 = .ok (.istore_n 0, 1) := by decide +kernel
theorem d11_25 : decode jdk_48_method_9_code 25 = .ok (.iinc 5 1, 3) := by decide +kernel
theorem d11_28 : decode jdk_48_method_9_code 28 = .ok (.goto (-20), 3) := by decide +kernel
theorem d11_31 : decode jdk_48_method_9_code 31 = .ok (.iload_n 0, 1) := by decide +kernel
theorem d11_32 : decode jdk_48_method_9_code 32 = .ok (.ireturn, 1) := by decide +kernel
theorem d12_0 : decode prog_9_method_8_code 0 = .ok (.aload_n 0, 1) := by decide +kernel
theorem d12_1 : decode prog_9_method_8_code 1 = .ok (.getfield 19, 3) := by decide +kernel
theorem d12_4 : decode prog_9_method_8_code 4 = .ok (.iload_n 1, 1) := by decide +kernel
theorem d12_5 : decode prog_9_method_8_code 5 = .ok (.invokevirtual 45, 3) := by decide +kernel
theorem d12_8 : decode prog_9_method_8_code 8 = .ok (.aload_n 0, 1) := by decide +kernel
theorem d12_9 : decode prog_9_method_8_code 9 = .ok (.getfield 22, 3) := by decide +kernel
theorem d12_12 : decode prog_9_method_8_code 12 = .ok (.arraylength, 1) := by decide +kernel
theorem d12_13 : decode prog_9_method_8_code 13 = .ok (.iconst 1, 1) := by decide +kernel
theorem d12_14 : decode prog_9_method_8_code 14 = .ok (.isub, 1) := by decide +kernel
theorem d12_15 : decode prog_9_method_8_code 15 = .ok (.iand, 1) := by decide +kernel
theorem d12_16 : decode prog_9_method_8_code 16 = .ok (.istore_n 2, 1) := by decide +kernel
theorem d12_17 : decode prog_9_method_8_code 17 = .ok (.aload_n 0, 1) := by decide +kernel
theorem d12_18 : decode prog_9_method_8_code 18 = .ok (.getfield 22, 3) := by decide +kernel
theorem d12_21 : decode prog_9_method_8_code 21 = .ok (.iload_n 2, 1) := by decide +kernel
theorem d12_22 : decode prog_9_method_8_code 22 = .ok (.iaload, 1) := by decide +kernel
theorem d12_23 : decode prog_9_method_8_code 23 = .ok (.ifCond .eq 18, 3) := by decide +kernel
theorem d12_26 : decode prog_9_method_8_code 26 = .ok (.iload_n 2, 1) := by decide +kernel
theorem d12_27 : decode prog_9_method_8_code 27 = .ok (.iconst 1, 1) := by decide +kernel
theorem d12_28 : decode prog_9_method_8_code 28 = .ok (.iadd, 1) := by decide +kernel
theorem d12_29 : decode prog_9_method_8_code 29 = .ok (.aload_n 0, 1) := by decide +kernel
theorem d12_30 : decode prog_9_method_8_code 30 = .ok (.getfield 22, 3) := by decide +kernel
theorem d12_33 : decode prog_9_method_8_code 33 = .ok (.arraylength, 1) := by decide +kernel
theorem d12_34 : decode prog_9_method_8_code 34 = .ok (.iconst 1, 1) := by decide +kernel
theorem d12_35 : decode prog_9_method_8_code 35 = .ok (.isub, 1) := by decide +kernel
theorem d12_36 : decode prog_9_method_8_code 36 = .ok (.iand, 1) := by decide +kernel
theorem d12_37 : decode prog_9_method_8_code 37 = .ok (.istore_n 2, 1) := by decide +kernel
theorem d12_38 : decode prog_9_method_8_code 38 = .ok (.goto (-21), 3) := by decide +kernel
theorem d12_41 : decode prog_9_method_8_code 41 = .ok (.aload_n 0, 1) := by decide +kernel
theorem d12_42 : decode prog_9_method_8_code 42 = .ok (.getfield 22, 3) := by decide +kernel
theorem d12_45 : decode prog_9_method_8_code 45 = .ok (.iload_n 2, 1) := by decide +kernel
theorem d12_46 : decode prog_9_method_8_code 46 = .ok (.iload_n 1, 1) := by decide +kernel
theorem d12_47 : decode prog_9_method_8_code 47 = .ok (.iconst 1, 1) := by decide +kernel
theorem d12_48 : decode prog_9_method_8_code 48 = .ok (.iadd, 1) := by decide +kernel
theorem d12_49 : decode prog_9_method_8_code 49 = .ok (.iastore, 1) := by decide +kernel
theorem d12_50 : decode prog_9_method_8_code 50 = .ok (.return_, 1) := by decide +kernel
theorem d13_0 : decode prog_6_method_3_code 0 = .ok (.iload_n 1, 1) := by decide +kernel
theorem d13_1 : decode prog_6_method_3_code 1 = .ok (.ifCond .lt 11, 3) := by decide +kernel
theorem d13_4 : decode prog_6_method_3_code 4 = .ok (.iload_n 1, 1) := by decide +kernel
theorem d13_5 : decode prog_6_method_3_code 5 = .ok (.aload_n 0, 1) := by decide +kernel
theorem d13_6 : decode prog_6_method_3_code 6 = .ok (.getfield 15, 3) := by decide +kernel
theorem d13_9 : decode prog_6_method_3_code 9 = .ok (.if_icmp .lt 21, 3) := by decide +kernel
theorem d13_30 : decode prog_6_method_3_code 30 = .ok (.aload_n 0, 1) := by decide +kernel
theorem d13_31 : decode prog_6_method_3_code 31 = .ok (.getfield 9, 3) := by decide +kernel
theorem d13_34 : decode prog_6_method_3_code 34 = .ok (.iload_n 1, 1) := by decide +kernel
theorem d13_35 : decode prog_6_method_3_code 35 = .ok (.iaload, 1) := by decide +kernel
theorem d13_36 : decode prog_6_method_3_code 36 = .ok (.ireturn, 1) := by decide +kernel
theorem d14_0 : decode method_2_code 0 = .ok (.iload_n 0, 1) := by decide +kernel
theorem d14_1 : decode method_2_code 1 = .ok (.ifCond .eq 8, 3) := by decide +kernel
theorem d14_4 : decode method_2_code 4 = .ok (.iload_n 0, 1) := by decide +kernel
theorem d14_5 : decode method_2_code 5 = .ok (.iload_n 1, 1) := by decide +kernel
theorem d14_6 : decode method_2_code 6 = .ok (.if_icmp .gt 7, 3) := by decide +kernel
theorem d14_9 : decode method_2_code 9 = .ok (.iconst 1, 1) := by decide +kernel
theorem d14_10 : decode method_2_code 10 = .ok (.goto 4, 3) := by decide +kernel
theorem d14_13 : decode method_2_code 13 = .ok (.iconst 0, 1) := by decide +kernel
theorem d14_14 : decode method_2_code 14 = .ok (.ireturn, 1) := by decide +kernel
theorem d15_0 : decode prog_9_method_7_code 0 = .ok (.aload_n 0, 1) := by decide +kernel
theorem d15_1 : decode prog_9_method_7_code 1 = .ok (.getfield 16, 3) := by decide +kernel
theorem d15_4 : decode prog_9_method_7_code 4 = .ok (.iload_n 1, 1) := by decide +kernel
theorem d15_5 : decode prog_9_method_7_code 5 = .ok (.invokevirtual 45, 3) := by decide +kernel
theorem d15_8 : decode prog_9_method_7_code 8 = .ok (.istore_n 3, 1) := by decide +kernel
theorem d15_9 : decode prog_9_method_7_code 9 = .ok (.iload_n 3, 1) := by decide +kernel
theorem d15_10 : decode prog_9_method_7_code 10 = .ok (.aload_n 0, 1) := by decide +kernel
theorem d15_11 : decode prog_9_method_7_code 11 = .ok (.getfield 16, 3) := by decide +kernel
theorem d15_14 : decode prog_9_method_7_code 14 = .ok (.iload_n 1, 1) := by decide +kernel
theorem d15_15 : decode prog_9_method_7_code 15 = .ok (.iconst 1, 1) := by decide +kernel
theorem d15_16 : decode prog_9_method_7_code 16 = .ok (.iadd, 1) := by decide +kernel
theorem d15_17 : decode prog_9_method_7_code 17 = .ok (.invokevirtual 45, 3) := by decide +kernel
theorem d15_20 : decode prog_9_method_7_code 20 = .ok (.if_icmp .ge 34, 3) := by decide +kernel
theorem d15_23 : decode prog_9_method_7_code 23 = .ok (.aload_n 0, 1) := by decide +kernel
theorem d15_24 : decode prog_9_method_7_code 24 = .ok (.getfield 10, 3) := by decide +kernel
theorem d15_27 : decode prog_9_method_7_code 27 = .ok (.iload_n 3, 1) := by decide +kernel
theorem d15_28 : decode prog_9_method_7_code 28 = .ok (.iconst 1, 1) := by decide +kernel
theorem d15_29 : decode prog_9_method_7_code 29 = .ok (.iadd, 1) := by decide +kernel
theorem d15_30 : decode prog_9_method_7_code 30 = .ok (.invokevirtual 45, 3) := by decide +kernel
theorem d15_33 : decode prog_9_method_7_code 33 = .ok (.aload_n 2, 1) := by decide +kernel
theorem d15_34 : decode prog_9_method_7_code 34 = .ok (.aload_n 0, 1) := by decide +kernel
theorem d15_35 : decode prog_9_method_7_code 35 = .ok (.getfield 10, 3) := by decide +kernel
theorem d15_38 : decode prog_9_method_7_code 38 = .ok (.iload_n 3, 1) := by decide +kernel
theorem d15_39 : decode prog_9_method_7_code 39 = .ok (.invokevirtual 45, 3) := by decide +kernel
theorem d15_42 : decode prog_9_method_7_code 42 = .ok (.iaload, 1) := by decide +kernel
theorem d15_43 : decode prog_9_method_7_code 43 = .ok (.if_icmp .le 5, 3) := by decide +kernel
theorem d15_46 : decode prog_9_method_7_code 46 = .ok (.iconst 0, 1) := by decide +kernel
theorem d15_47 : decode prog_9_method_7_code 47 = .ok (.ireturn, 1) := by decide +kernel
theorem d15_48 : decode prog_9_method_7_code 48 = .ok (.iinc 3 2, 3) := by decide +kernel
theorem d15_51 : decode prog_9_method_7_code 51 = .ok (.goto (-42), 3) := by decide +kernel
theorem d15_54 : decode prog_9_method_7_code 54 = .ok (.iconst 1, 1) := by decide +kernel
theorem d15_55 : decode prog_9_method_7_code 55 = .ok (.ireturn, 1) := by decide +kernel
/-- an IntList at a, its array at b, that holds ys -/
def IL (Z : State) (h : Heap) (a b : Addr) (ys : List Int32) : Prop := Exa Z h a "com/example/caseweave/caseweave/core/IntList" ∧ Fld Z h a "com/example/caseweave/caseweave/core/IntList" "size" "I" (.int ys.length.toInt32) ∧ Fld Z h a "com/example/caseweave/caseweave/core/IntList" "values" "[I" (.ref b) ∧ Ai Z h b .int (ys ++ List.replicate (16 - ys.length) 0) ∧ ys.length ≤ 16
theorem IL.ext {Z : State} {h h' : Heap} {a b : Addr} {ys : List Int32} (H : IL Z h a b ys) (E : Ext h h') : IL Z h' a b ys := ⟨H.1.ext E, H.2.1.ext E, H.2.2.1.ext E, H.2.2.2.1.ext E, H.2.2.2.2⟩
theorem IL.keep {Z : State} {h h' : Heap} {a b : Addr} {ys : List Int32} {ws : List Addr} (H : IL Z h a b ys) (K : Keep h h' ws) (n : a ∉ ws ∧ b ∉ ws) : IL Z h' a b ys := ⟨H.1.keep K, H.2.1.keep K n.1, H.2.2.1.keep K n.1, H.2.2.2.1.keep K n.2, H.2.2.2.2⟩
theorem IL.lt {Z : State} {h : Heap} {a b : Addr} {ys : List Int32} (H : IL Z h a b ys) : a < h.size := H.1.lt
theorem IL.ltb {Z : State} {h : Heap} {a b : Addr} {ys : List Int32} (H : IL Z h a b ys) : b < h.size := H.2.2.2.1.lt
theorem own_il_len (ys : List Int32) (q : ys.length ≤ 16) : (ys ++ List.replicate (16 - ys.length) (0 : Int32)).length = 16 := by simp; omega
theorem own_ti {n : Nat} (h : n < 2147483648) : n.toInt32.toInt = n := len_toInt h
theorem own_tn {n : Nat} (h : n < 2147483648) : n.toInt32.toNatClampNeg = n := by simp only [Int32.toNatClampNeg, own_ti h]; rfl
theorem own_tpos {n : Nat} (h : n < 2147483648) : ¬ n.toInt32 < 0 := by rw [Int32.lt_iff_toInt_lt, own_ti h, show (0 : Int32).toInt = 0 from rfl]; omega
theorem own_t1 (n : Nat) : n.toInt32 + (1 : Int32) = (n + 1).toInt32 := (Int32.ofNat_add n 1).symm
theorem own_ilne {n : Nat} (h : n < 16) : ¬ (n.toInt32 = (16 : Int32)) := by rw [← Int32.toInt_inj, own_ti (by omega), show (16 : Int32).toInt = 16 from rfl]; omega
theorem own_ilset (ys : List Int32) (v : Int32) (q : ys.length < 16) : (ys ++ List.replicate (16 - ys.length) (0 : Int32)).set (ys.length.toInt32.toNatClampNeg) v = (ys ++ [v]) ++ List.replicate (16 - (ys ++ [v]).length) (0 : Int32) := by
  rw [own_tn (by omega)]
  have e : 16 - ys.length = (16 - (ys ++ [v]).length) + 1 := by simp; omega
  rw [e, List.replicate_succ]
  simp

theorem ef_il_init (m : MethodId) (x0 : Addr) : entryFrame m #[(.ref x0)] 1 = mkF m 0 #[.val (.ref x0)] [] := by first | (simp [entryFrame, mkF, argsToLocals, Value.category]; done) | rfl
set_option maxRecDepth 65536 in
set_option maxHeartbeats 40000000 in
theorem il_init (l : Launch) (Z : State) (a0 : Array Value) (hw : ∀ d ∈ tables_1, d.before a0 Z = true) (a : Addr) (h0 : Heap) (n0 : Nat) (Z0 : n0 ≤ h0.size) (E_a : Exa Z h0 a "com/example/caseweave/caseweave/core/IntList") (F_size_a : Fld Z h0 a "com/example/caseweave/caseweave/core/IntList" "size" "I" (.int 0)) (F_values_a : Fld Z h0 a "com/example/caseweave/caseweave/core/IntList" "values" "[I" .null) (g_a : n0 ≤ a) :
    Con l Z (⟨"com/example/caseweave/caseweave/core/IntList", "<init>", "()V"⟩ : MethodName) prog_6_method_1_code 1 none [] ({ frames := 1, cells := 1, slots := 16, locals := 12 } : Room) #[(.ref a)] h0 (fun v h L => v = none ∧ Fr n0 L ∧ Keep h0 h [a] ∧ ∃ b, h0.size ≤ b ∧ IL Z h a b []) := by
  refine Con.mk (plainFor_of_name pn0) ?_
  intro p e s m below meth c T0 hx hby hml hown hnm hret hlk hZ X0 e0
  have hown : s.vm.findClass "com/example/caseweave/caseweave/core/IntList" = some m.cls := hown
  have hnm : meth.name = "<init>" := hnm
  have N0 := Fr.nil n0
  have K0 := Keep.refl h0 [a]
  refine Go.cast (ef_il_init m a) ?_
  refine Go.st (S' := T0.setTop (mkF m 1 #[.val (.ref a)] [(.ref a)])) (fun _ k_ => XS.aloadN X0.here hx rfl (hb hby d3_0) rfl rfl k_) ?_
  obtain ⟨T11, X11, e11, st11⟩ := initO X0 hx hZ hown (w16 hw) (w8 hw) (w9 hw) e0 (g := (mkF m 1 #[.val (.ref a)] [(.ref a)])) rfl (by rw [hml]; rfl) rfl (hb hby d3_1) (by decide) (W := 0) (by show 2 * 0 + _ ≤ _; exact Nat.le_of_eq rfl) (by decide)
  refine Go.st (S' := T11.setTop (mkF m 4 #[.val (.ref a)] [])) (st11) ?_
  refine Go.st (S' := T11.setTop (mkF m 5 #[.val (.ref a)] [(.ref a)])) (fun _ k_ => XS.aloadN X11.here hx rfl (hb hby d3_4) rfl rfl k_) ?_
  refine Go.st (S' := T11.setTop (mkF m 7 #[.val (.ref a)] [(.int (16 : Int32)), (.ref a)])) (fun _ k_ => XS.bipush X11.here hx rfl (hb hby d3_5) k_) ?_
  obtain ⟨T12, h12, b12, X12, e12, q12, E12, A12, st12⟩ := Ai.new X11 hx hZ (aty := .int) (w0 hw) rfl e11 (n := (16 : Int32)) (by decide) 16 (by decide) (by decide) (by decide) (by decide) (g := (mkF m 7 #[.val (.ref a)] [(.int (16 : Int32)), (.ref a)])) rfl rfl (hb hby d3_7)
  have ne_a_b12 : a ≠ b12 := Nat.ne_of_lt (Nat.lt_of_lt_of_le E_a.lt (Nat.le_of_eq q12.symm))
  have g_b12 : n0 ≤ b12 := Nat.le_trans Z0 (Nat.le_of_eq q12.symm)
  have sz_b12 : h0.size ≤ b12 := Nat.le_trans K0.1 (Nat.le_of_eq q12.symm)
  replace E_a := E_a.ext E12
  replace F_size_a := F_size_a.ext E12
  replace F_values_a := F_values_a.ext E12
  replace Z0 := Nat.le_trans Z0 E12.1
  replace K0 := K0.ext E12
  have A_b12 : Ai Z h12 b12 .int [(0 : Int32), (0 : Int32), (0 : Int32), (0 : Int32), (0 : Int32), (0 : Int32), (0 : Int32), (0 : Int32), (0 : Int32), (0 : Int32), (0 : Int32), (0 : Int32), (0 : Int32), (0 : Int32), (0 : Int32), (0 : Int32)] := A12
  refine Go.st (S' := T12.setTop (mkF m 9 #[.val (.ref a)] [(.ref b12), (.ref a)])) (st12) ?_
  obtain ⟨T13, h13, X13, e13, W13, st13⟩ := putF X12 hx hZ hown (host := "") (Or.inl (w17 hw)) Via.refl e12 F_values_a E_a (Or.inl (w18 hw)) (w11 hw) (ty := (.array .int)) (by decide) rfl rfl (g := (mkF m 9 #[.val (.ref a)] [(.ref b12), (.ref a)])) rfl rfl (hb hby d3_9)
  replace F_values_a := F_values_a.same W13
  replace E_a := E_a.wr W13
  replace F_size_a := F_size_a.other W13 (Or.inr (slot_ne (Or.inl (w37 hw)) (Or.inl (w18 hw)) (by decide) (t := .int) (t' := (.array .int)) (by decide) (by decide)))
  replace A_b12 := A_b12.other W13 (Ne.symm ne_a_b12)
  replace Z0 := Nat.le_trans Z0 (Keep.of_wr W13).1
  replace K0 := K0.wr W13 (Or.inl (by simp))
  have N13 := Fr.snoc X13 N0 g_a
  refine Go.st (S' := T13.setTop (mkF m 12 #[.val (.ref a)] [])) (st13) ?_
  exact Go.retV X13 hx hret hlk (hb hby d3_12) (by decide) (by decide) (by rw [e13]; exact ⟨rfl, N13, K0, b12, sz_b12, E_a, F_size_a, F_values_a, A_b12, by decide⟩)
theorem ef_il_add (m : MethodId) (x0 : Addr) (x1 : Int32) : entryFrame m #[(.ref x0), (.int x1)] 2 = mkF m 0 #[.val (.ref x0), .val (.int x1)] [] := by first | (simp [entryFrame, mkF, argsToLocals, Value.category]; done) | rfl
set_option maxRecDepth 65536 in
set_option maxHeartbeats 40000000 in
theorem il_add (l : Launch) (Z : State) (a0 : Array Value) (hw : ∀ d ∈ tables_1, d.before a0 Z = true) (a b : Addr) (x : Int32) (ys : List Int32) (h0 : Heap) (n0 : Nat) (Z0 : n0 ≤ h0.size) (H : IL Z h0 a b ys) (hlt : ys.length < 16) (g_a : n0 ≤ a) (g_b : n0 ≤ b) (ne_a_b : a ≠ b) :
    Con l Z (⟨"com/example/caseweave/caseweave/core/IntList", "add", "(I)V"⟩ : MethodName) prog_6_method_4_code 2 none [] ({ frames := 0, cells := 0, slots := 0, locals := 0 } : Room) #[(.ref a), (.int x)] h0 (fun v h L => v = none ∧ Fr n0 L ∧ Keep h0 h [a, b] ∧ IL Z h a b (ys ++ [x])) := by
  refine Con.mk (plainFor_of_name pn0) ?_
  intro p e s m below meth c T0 hx hby hml hown hnm hret hlk hZ X0 e0
  have hown : s.vm.findClass "com/example/caseweave/caseweave/core/IntList" = some m.cls := hown
  have hnm : meth.name = "add" := hnm
  have N0 := Fr.nil n0
  have K0 := Keep.refl h0 [a, b]
  refine Go.cast (ef_il_add m a x) ?_
  obtain ⟨E_a, F_size_a, F_values_a, A_b, hle⟩ := H
  refine Go.st (S' := T0.setTop (mkF m 1 #[.val (.ref a), .val (.int x)] [(.ref a)])) (fun _ k_ => XS.aloadN X0.here hx rfl (hb hby d4_0) rfl rfl k_) ?_
  obtain ⟨T11, X11, e11, st11⟩ := getF X0 hx hZ hown (host := "") (Or.inl (w36 hw)) Via.refl e0 F_size_a (g := (mkF m 1 #[.val (.ref a), .val (.int x)] [(.ref a)])) rfl rfl (hb hby d4_1)
  refine Go.st (S' := T11.setTop (mkF m 4 #[.val (.ref a), .val (.int x)] [(.int ys.length.toInt32)])) (st11) ?_
  refine Go.st (S' := T11.setTop (mkF m 5 #[.val (.ref a), .val (.int x)] [(.ref a), (.int ys.length.toInt32)])) (fun _ k_ => XS.aloadN X11.here hx rfl (hb hby d4_4) rfl rfl k_) ?_
  obtain ⟨T12, X12, e12, st12⟩ := getF X11 hx hZ hown (host := "") (Or.inl (w17 hw)) Via.refl e11 F_values_a (g := (mkF m 5 #[.val (.ref a), .val (.int x)] [(.ref a), (.int ys.length.toInt32)])) rfl rfl (hb hby d4_5)
  refine Go.st (S' := T12.setTop (mkF m 8 #[.val (.ref a), .val (.int x)] [(.ref b), (.int ys.length.toInt32)])) (st12) ?_
  refine Go.st (S' := T12.setTop (mkF m 9 #[.val (.ref a), .val (.int x)] [(.int (16 : Int32)), (.int ys.length.toInt32)])) (A_b.length X12 hx hZ e12 (n := (16 : Int32)) (by rw [own_il_len ys hle]; rfl) (g := (mkF m 8 #[.val (.ref a), .val (.int x)] [(.ref b), (.int ys.length.toInt32)])) rfl rfl (hb hby d4_8)) ?_
  refine Go.st (S' := T12.setTop (mkF m 58 #[.val (.ref a), .val (.int x)] [])) (fun _ k_ => XS.icmpYes X12.here hx rfl (pc0 := 9) (pc' := 58) rfl (hb hby d4_9) rfl (feq (own_ilne hlt)).2 (by decide) (by decide) k_) ?_
  refine Go.st (S' := T12.setTop (mkF m 59 #[.val (.ref a), .val (.int x)] [(.ref a)])) (fun _ k_ => XS.aloadN X12.here hx rfl (hb hby d4_58) rfl rfl k_) ?_
  obtain ⟨T13, X13, e13, st13⟩ := getF X12 hx hZ hown (host := "") (Or.inl (w17 hw)) Via.refl e12 F_values_a (g := (mkF m 59 #[.val (.ref a), .val (.int x)] [(.ref a)])) rfl rfl (hb hby d4_59)
  refine Go.st (S' := T13.setTop (mkF m 62 #[.val (.ref a), .val (.int x)] [(.ref b)])) (st13) ?_
  refine Go.st (S' := T13.setTop (mkF m 63 #[.val (.ref a), .val (.int x)] [(.ref a), (.ref b)])) (fun _ k_ => XS.aloadN X13.here hx rfl (hb hby d4_62) rfl rfl k_) ?_
  refine Go.st (S' := T13.setTop (mkF m 64 #[.val (.ref a), .val (.int x)] [(.ref a), (.ref a), (.ref b)])) (fun _ k_ => XS.dup X13.here hx rfl (hb hby d4_63) rfl rfl k_) ?_
  obtain ⟨T14, X14, e14, st14⟩ := getF X13 hx hZ hown (host := "") (Or.inl (w36 hw)) Via.refl e13 F_size_a (g := (mkF m 64 #[.val (.ref a), .val (.int x)] [(.ref a), (.ref a), (.ref b)])) rfl rfl (hb hby d4_64)
  refine Go.st (S' := T14.setTop (mkF m 67 #[.val (.ref a), .val (.int x)] [(.int ys.length.toInt32), (.ref a), (.ref b)])) (st14) ?_
  refine Go.st (S' := T14.setTop (mkF m 68 #[.val (.ref a), .val (.int x)] [(.int ys.length.toInt32), (.ref a), (.int ys.length.toInt32), (.ref b)])) (fun _ k_ => XS.dupX1 X14.here hx rfl (hb hby d4_67) rfl rfl rfl k_) ?_
  refine Go.st (S' := T14.setTop (mkF m 69 #[.val (.ref a), .val (.int x)] [(.int (1 : Int32)), (.int ys.length.toInt32), (.ref a), (.int ys.length.toInt32), (.ref b)])) (fun _ k_ => XS.iconst X14.here hx rfl (hb hby d4_68) k_) ?_
  refine Go.st (S' := T14.setTop (mkF m 70 #[.val (.ref a), .val (.int x)] [(.int (ys.length.toInt32 + (1 : Int32))), (.ref a), (.int ys.length.toInt32), (.ref b)])) (fun _ k_ => XS.iadd X14.here hx rfl (hb hby d4_69) rfl k_) ?_
  obtain ⟨T15, h15, X15, e15, W15, st15⟩ := putF X14 hx hZ hown (host := "") (Or.inl (w36 hw)) Via.refl e14 F_size_a E_a (Or.inl (w37 hw)) (w11 hw) (ty := .int) (by decide) rfl rfl (g := (mkF m 70 #[.val (.ref a), .val (.int x)] [(.int (ys.length.toInt32 + (1 : Int32))), (.ref a), (.int ys.length.toInt32), (.ref b)])) rfl rfl (hb hby d4_70)
  replace F_size_a := F_size_a.same W15
  replace E_a := E_a.wr W15
  replace F_values_a := F_values_a.other W15 (Or.inr (slot_ne (Or.inl (w18 hw)) (Or.inl (w37 hw)) (by decide) (t := (.array .int)) (t' := .int) (by decide) (by decide)))
  replace A_b := A_b.other W15 (Ne.symm ne_a_b)
  replace Z0 := Nat.le_trans Z0 (Keep.of_wr W15).1
  replace K0 := K0.wr W15 (Or.inl (by simp))
  have N15 := Fr.snoc X15 N0 g_a
  refine Go.st (S' := T15.setTop (mkF m 73 #[.val (.ref a), .val (.int x)] [(.int ys.length.toInt32), (.ref b)])) (st15) ?_
  refine Go.st (S' := T15.setTop (mkF m 74 #[.val (.ref a), .val (.int x)] [(.int x), (.int ys.length.toInt32), (.ref b)])) (fun _ k_ => XS.iloadN X15.here hx rfl (hb hby d4_73) rfl k_) ?_
  obtain ⟨T16, h16, X16, e16, W16, A16, st16⟩ := A_b.store X15 hx hZ e15 (j := ys.length.toInt32) (own_tpos (by omega)) (by rw [own_tn (by omega), own_il_len ys hle]; exact hlt) (g := (mkF m 74 #[.val (.ref a), .val (.int x)] [(.int x), (.int ys.length.toInt32), (.ref b)])) rfl rfl (hb hby d4_74)
  replace A_b : Ai Z h16 b .int ((ys ++ [x]) ++ List.replicate (16 - (ys ++ [x]).length) 0) := own_ilset ys x hlt ▸ A16
  replace E_a := E_a.wr W16
  replace F_size_a := F_size_a.other W16 (Or.inl ne_a_b)
  replace F_values_a := F_values_a.other W16 (Or.inl ne_a_b)
  replace Z0 := Nat.le_trans Z0 (Keep.of_wr W16).1
  replace K0 := K0.wr W16 (Or.inl (by simp))
  have N16 := Fr.snoc X16 N15 g_b
  refine Go.st (S' := T16.setTop (mkF m 75 #[.val (.ref a), .val (.int x)] [])) (st16) ?_
  exact Go.retV X16 hx hret hlk (hb hby d4_75) (by decide) (by decide) (by rw [e16]; exact ⟨rfl, N16, K0, E_a, by rw [own_t1] at F_size_a; simpa using F_size_a, F_values_a, A_b, by simp; omega⟩)
theorem ef_il_size (m : MethodId) (x0 : Addr) : entryFrame m #[(.ref x0)] 1 = mkF m 0 #[.val (.ref x0)] [] := by first | (simp [entryFrame, mkF, argsToLocals, Value.category]; done) | rfl
set_option maxRecDepth 65536 in
set_option maxHeartbeats 40000000 in
theorem il_size (l : Launch) (Z : State) (a0 : Array Value) (hw : ∀ d ∈ tables_1, d.before a0 Z = true) (a b : Addr) (ys : List Int32) (h0 : Heap) (n0 : Nat) (Z0 : n0 ≤ h0.size) (H : IL Z h0 a b ys) :
    Con l Z (⟨"com/example/caseweave/caseweave/core/IntList", "size", "()I"⟩ : MethodName) prog_6_method_2_code 1 (some .int) [] ({ frames := 0, cells := 0, slots := 0, locals := 0 } : Room) #[(.ref a)] h0 (fun v h L => v = some (.int ys.length.toInt32) ∧ Fr n0 L ∧ h = h0) := by
  refine Con.mk (plainFor_of_name pn0) ?_
  intro p e s m below meth c T0 hx hby hml hown hnm hret hlk hZ X0 e0
  have hown : s.vm.findClass "com/example/caseweave/caseweave/core/IntList" = some m.cls := hown
  have hnm : meth.name = "size" := hnm
  have N0 := Fr.nil n0
  refine Go.cast (ef_il_size m a) ?_
  obtain ⟨E_a, F_size_a, F_values_a, A_b, hle⟩ := H
  refine Go.st (S' := T0.setTop (mkF m 1 #[.val (.ref a)] [(.ref a)])) (fun _ k_ => XS.aloadN X0.here hx rfl (hb hby d7_0) rfl rfl k_) ?_
  obtain ⟨T11, X11, e11, st11⟩ := getF X0 hx hZ hown (host := "") (Or.inl (w36 hw)) Via.refl e0 F_size_a (g := (mkF m 1 #[.val (.ref a)] [(.ref a)])) rfl rfl (hb hby d7_1)
  refine Go.st (S' := T11.setTop (mkF m 4 #[.val (.ref a)] [(.int ys.length.toInt32)])) (st11) ?_
  exact Go.retI X11 hx hret hlk (hb hby d7_4) (by decide) (by decide) (by rw [e11]; exact ⟨rfl, N0, rfl⟩)
theorem ef_il_get (m : MethodId) (x0 : Addr) (x1 : Int32) : entryFrame m #[(.ref x0), (.int x1)] 2 = mkF m 0 #[.val (.ref x0), .val (.int x1)] [] := by first | (simp [entryFrame, mkF, argsToLocals, Value.category]; done) | rfl
set_option maxRecDepth 65536 in
set_option maxHeartbeats 40000000 in
theorem il_get (l : Launch) (Z : State) (a0 : Array Value) (hw : ∀ d ∈ tables_1, d.before a0 Z = true) (a b : Addr) (i x : Int32) (ys : List Int32) (h0 : Heap) (n0 : Nat) (Z0 : n0 ≤ h0.size) (H : IL Z h0 a b ys) (hi : ¬ i < 0) (hx0 : ys[i.toNatClampNeg]? = some x) :
    Con l Z (⟨"com/example/caseweave/caseweave/core/IntList", "get", "(I)I"⟩ : MethodName) prog_6_method_3_code 2 (some .int) [] ({ frames := 0, cells := 0, slots := 0, locals := 0 } : Room) #[(.ref a), (.int i)] h0 (fun v h L => v = some (.int x) ∧ Fr n0 L ∧ h = h0) := by
  refine Con.mk (plainFor_of_name pn0) ?_
  intro p e s m below meth c T0 hx hby hml hown hnm hret hlk hZ X0 e0
  have hown : s.vm.findClass "com/example/caseweave/caseweave/core/IntList" = some m.cls := hown
  have hnm : meth.name = "get" := hnm
  have N0 := Fr.nil n0
  refine Go.cast (ef_il_get m a i) ?_
  obtain ⟨E_a, F_size_a, F_values_a, A_b, hle⟩ := H
  have hil : i < ys.length.toInt32 := own_il_lt hi hx0 hle
  refine Go.st (S' := T0.setTop (mkF m 1 #[.val (.ref a), .val (.int i)] [(.int i)])) (fun _ k_ => XS.iloadN X0.here hx rfl (hb hby d13_0) rfl k_) ?_
  refine Go.st (S' := T0.setTop (mkF m 4 #[.val (.ref a), .val (.int i)] [])) (fun _ k_ => XS.ifNo X0.here hx rfl (hb hby d13_1) rfl ((if0 _ _).trans (flt (hi)).1) k_) ?_
  refine Go.st (S' := T0.setTop (mkF m 5 #[.val (.ref a), .val (.int i)] [(.int i)])) (fun _ k_ => XS.iloadN X0.here hx rfl (hb hby d13_4) rfl k_) ?_
  refine Go.st (S' := T0.setTop (mkF m 6 #[.val (.ref a), .val (.int i)] [(.ref a), (.int i)])) (fun _ k_ => XS.aloadN X0.here hx rfl (hb hby d13_5) rfl rfl k_) ?_
  obtain ⟨T11, X11, e11, st11⟩ := getF X0 hx hZ hown (host := "") (Or.inl (w36 hw)) Via.refl e0 F_size_a (g := (mkF m 6 #[.val (.ref a), .val (.int i)] [(.ref a), (.int i)])) rfl rfl (hb hby d13_6)
  refine Go.st (S' := T11.setTop (mkF m 9 #[.val (.ref a), .val (.int i)] [(.int ys.length.toInt32), (.int i)])) (st11) ?_
  refine Go.st (S' := T11.setTop (mkF m 30 #[.val (.ref a), .val (.int i)] [])) (fun _ k_ => XS.icmpYes X11.here hx rfl (pc0 := 9) (pc' := 30) rfl (hb hby d13_9) rfl (tlt (hil)).1 (by decide) (by decide) k_) ?_
  refine Go.st (S' := T11.setTop (mkF m 31 #[.val (.ref a), .val (.int i)] [(.ref a)])) (fun _ k_ => XS.aloadN X11.here hx rfl (hb hby d13_30) rfl rfl k_) ?_
  obtain ⟨T12, X12, e12, st12⟩ := getF X11 hx hZ hown (host := "") (Or.inl (w17 hw)) Via.refl e11 F_values_a (g := (mkF m 31 #[.val (.ref a), .val (.int i)] [(.ref a)])) rfl rfl (hb hby d13_31)
  refine Go.st (S' := T12.setTop (mkF m 34 #[.val (.ref a), .val (.int i)] [(.ref b)])) (st12) ?_
  refine Go.st (S' := T12.setTop (mkF m 35 #[.val (.ref a), .val (.int i)] [(.int i), (.ref b)])) (fun _ k_ => XS.iloadN X12.here hx rfl (hb hby d13_34) rfl k_) ?_
  refine Go.st (S' := T12.setTop (mkF m 36 #[.val (.ref a), .val (.int i)] [(.int x)])) (A_b.load X12 hx hZ e12 (j := i) (v := x) hi (own_il_at hx0) (g := (mkF m 35 #[.val (.ref a), .val (.int i)] [(.int i), (.ref b)])) rfl rfl (hb hby d13_35)) ?_
  exact Go.retI X12 hx hret hlk (hb hby d13_36) (by decide) (by decide) (by rw [e12]; exact ⟨rfl, N0, rfl⟩)
/-- a MarkingTable at a: its pairs, starts, hashes (IntLists) and slots -/
def MT (Z : State) (h : Heap) (a pr prb ss ssb hs hsb sl : Addr) (P S H zs : List Int32) : Prop := Exa Z h a "com/example/caseweave/caseweave/core/MarkingTable" ∧ Fld Z h a "com/example/caseweave/caseweave/core/MarkingTable" "pairs" "Lcom/example/caseweave/caseweave/core/IntList;" (.ref pr) ∧ Fld Z h a "com/example/caseweave/caseweave/core/MarkingTable" "starts" "Lcom/example/caseweave/caseweave/core/IntList;" (.ref ss) ∧ Fld Z h a "com/example/caseweave/caseweave/core/MarkingTable" "hashes" "Lcom/example/caseweave/caseweave/core/IntList;" (.ref hs) ∧ Fld Z h a "com/example/caseweave/caseweave/core/MarkingTable" "slots" "[I" (.ref sl) ∧ Fld Z h a "com/example/caseweave/caseweave/core/MarkingTable" "places" "I" (.int 3) ∧ IL Z h pr prb P ∧ IL Z h ss ssb S ∧ IL Z h hs hsb H ∧ Ai Z h sl .int zs
def own_dis (n0 : Nat) (a pr prb ss ssb hs hsb sl : Addr) : Prop := a ≠ pr ∧ a ≠ prb ∧ a ≠ ss ∧ a ≠ ssb ∧ a ≠ hs ∧ a ≠ hsb ∧ a ≠ sl ∧ pr ≠ prb ∧ pr ≠ ss ∧ pr ≠ ssb ∧ pr ≠ hs ∧ pr ≠ hsb ∧ pr ≠ sl ∧ prb ≠ ss ∧ prb ≠ ssb ∧ prb ≠ hs ∧ prb ≠ hsb ∧ prb ≠ sl ∧ ss ≠ ssb ∧ ss ≠ hs ∧ ss ≠ hsb ∧ ss ≠ sl ∧ ssb ≠ hs ∧ ssb ≠ hsb ∧ ssb ≠ sl ∧ hs ≠ hsb ∧ hs ≠ sl ∧ hsb ≠ sl ∧ n0 ≤ a ∧ n0 ≤ pr ∧ n0 ≤ prb ∧ n0 ≤ ss ∧ n0 ≤ ssb ∧ n0 ≤ hs ∧ n0 ≤ hsb ∧ n0 ≤ sl
def own_off (t : Addr) (a pr prb ss ssb hs hsb sl : Addr) : Prop := t ≠ a ∧ t ≠ pr ∧ t ≠ prb ∧ t ≠ ss ∧ t ≠ ssb ∧ t ≠ hs ∧ t ≠ hsb ∧ t ≠ sl
def own_ps (x y z : Int32) : List (Int32 × Int32) := [((0 : Int32), x), ((1 : Int32), y), ((2 : Int32), z)].filter fun p => decide (¬ p.2 = 0)
def own_flat : List (Int32 × Int32) → List Int32
  | [] => []
  | p :: ps => p.1 :: p.2 :: own_flat ps
theorem own_flen (ps : List (Int32 × Int32)) : (own_flat ps).length = 2 * ps.length := by
  induction ps with
  | nil => rfl
  | cons p ps ih => simp only [own_flat, List.length_cons, ih]; omega
theorem own_plen (x y z : Int32) : (own_ps x y z).length ≤ 3 := List.length_filter_le _ _
/-- at most one place isn't 0 -/
def own_one (zs : List Int32) : Prop := zs.length = 16 ∧ ∀ i j : Nat, i < 16 → j < 16 → ¬ zs.getD i 0 = 0 → ¬ zs.getD j 0 = 0 → i = j
theorem own_gd0 {xs : List Int32} {i : Nat} (h : i < xs.length) : xs[i]? = some (xs.getD i 0) := by rw [List.getD_eq_getElem?_getD, List.getElem?_eq_getElem h]; rfl
theorem own_one.set {zs : List Int32} {k : Nat} {v : Int32} (hl : zs.length = 16) (h : ∀ i, zs.getD i 0 = 0) : own_one (zs.set k v) := by
  refine ⟨by rw [List.length_set]; exact hl, fun i j hi hj h1 h2 => ?_⟩
  have q : ∀ i, ¬ (zs.set k v).getD i 0 = 0 → k = i := fun i hi => by
    apply Decidable.byContradiction
    intro ne
    apply hi
    have := h i
    rw [List.getD_eq_getElem?_getD] at this ⊢
    rw [List.getElem?_set, if_neg ne]; exact this
  exact (q i h1).symm.trans (q j h2)
theorem own_z0 (i : Nat) : (List.replicate 16 (0 : Int32)).getD i 0 = 0 := by
  rw [List.getD_eq_getElem?_getD, List.getElem?_replicate]; split <;> rfl

theorem ef_hc_loop (m : MethodId) (x0 : Int32) (x1 : Addr) (x2 : Int32) (x3 : Int32) : entryFrame m #[(.int x0), (.ref x1), (.int x2), (.int x3)] 6 = mkF m 0 #[.val (.int x0), .val (.ref x1), .val (.int x2), .val (.int x3), .unset, .unset] [] := by first | (simp [entryFrame, mkF, argsToLocals, Value.category]; done) | rfl
set_option maxRecDepth 65536 in
set_option maxHeartbeats 40000000 in
theorem hc_loop (l : Launch) (Z : State) (a0 : Array Value) (hw : ∀ d ∈ tables_1, d.before a0 Z = true) (t : Addr) (x0 x1 x2 : Int32) (h0 : Heap) (n0 : Nat) (Z0 : n0 ≤ h0.size) (A_t : Ai Z h0 t .int [x0, x1, x2]) :
    Con l Z (⟨"jdk/internal/util/ArraysSupport", "hashCode", "(I[III)I"⟩ : MethodName) jdk_48_method_9_code 6 (some .int) [] ({ frames := 0, cells := 0, slots := 0, locals := 0 } : Room) #[(.int (1 : Int32)), (.ref t), (.int (0 : Int32)), (.int (3 : Int32))] h0 (fun v h L => (∃ x, v = some (.int x)) ∧ Fr n0 L ∧ h = h0) := by
  refine Con.mk (plainFor_of_name pn1) ?_
  intro p e s m below meth c T0 hx hby hml hown hnm hret hlk hZ X0 e0
  have hown : s.vm.findClass "jdk/internal/util/ArraysSupport" = some m.cls := hown
  have hnm : meth.name = "hashCode" := hnm
  have N0 := Fr.nil n0
  refine Go.cast (ef_hc_loop m (1 : Int32) t (0 : Int32) (3 : Int32)) ?_
  refine Go.st (S' := T0.setTop (mkF m 1 #[.val (.int (1 : Int32)), .val (.ref t), .val (.int (0 : Int32)), .val (.int (3 : Int32)), .unset, .unset] [(.int (0 : Int32))])) (fun _ k_ => XS.iloadN X0.here hx rfl (hb hby d11_0) rfl k_) ?_
  refine Go.st (S' := T0.setTop (mkF m 2 #[.val (.int (1 : Int32)), .val (.ref t), .val (.int (0 : Int32)), .val (.int (3 : Int32)), .unset, .unset] [(.int (3 : Int32)), (.int (0 : Int32))])) (fun _ k_ => XS.iloadN X0.here hx rfl (hb hby d11_1) rfl k_) ?_
  refine Go.st (S' := T0.setTop (mkF m 3 #[.val (.int (1 : Int32)), .val (.ref t), .val (.int (0 : Int32)), .val (.int (3 : Int32)), .unset, .unset] [(.int ((0 : Int32) + (3 : Int32)))])) (fun _ k_ => XS.iadd X0.here hx rfl (hb hby d11_2) rfl k_) ?_
  rw [show ((0 : Int32) + (3 : Int32)) = (3 : Int32) from (by decide)]
  refine Go.st (S' := T0.setTop (mkF m 5 #[.val (.int (1 : Int32)), .val (.ref t), .val (.int (0 : Int32)), .val (.int (3 : Int32)), .val (.int (3 : Int32)), .unset] [])) (fun _ k_ => XS.istore X0.here hx rfl (hb hby d11_3) rfl (l' := #[.val (.int (1 : Int32)), .val (.ref t), .val (.int (0 : Int32)), .val (.int (3 : Int32)), .val (.int (3 : Int32)), .unset]) rfl k_) ?_
  refine Go.st (S' := T0.setTop (mkF m 6 #[.val (.int (1 : Int32)), .val (.ref t), .val (.int (0 : Int32)), .val (.int (3 : Int32)), .val (.int (3 : Int32)), .unset] [(.int (0 : Int32))])) (fun _ k_ => XS.iloadN X0.here hx rfl (hb hby d11_5) rfl k_) ?_
  refine Go.st (S' := T0.setTop (mkF m 8 #[.val (.int (1 : Int32)), .val (.ref t), .val (.int (0 : Int32)), .val (.int (3 : Int32)), .val (.int (3 : Int32)), .val (.int (0 : Int32))] [])) (fun _ k_ => XS.istore X0.here hx rfl (hb hby d11_6) rfl (l' := #[.val (.int (1 : Int32)), .val (.ref t), .val (.int (0 : Int32)), .val (.int (3 : Int32)), .val (.int (3 : Int32)), .val (.int (0 : Int32))]) rfl k_) ?_
  refine Go.st (S' := T0.setTop (mkF m 10 #[.val (.int (1 : Int32)), .val (.ref t), .val (.int (0 : Int32)), .val (.int (3 : Int32)), .val (.int (3 : Int32)), .val (.int (0 : Int32))] [(.int (0 : Int32))])) (fun _ k_ => XS.iload X0.here hx rfl (hb hby d11_8) rfl k_) ?_
  refine Go.st (S' := T0.setTop (mkF m 12 #[.val (.int (1 : Int32)), .val (.ref t), .val (.int (0 : Int32)), .val (.int (3 : Int32)), .val (.int (3 : Int32)), .val (.int (0 : Int32))] [(.int (3 : Int32)), (.int (0 : Int32))])) (fun _ k_ => XS.iload X0.here hx rfl (hb hby d11_10) rfl k_) ?_
  refine Go.st (S' := T0.setTop (mkF m 15 #[.val (.int (1 : Int32)), .val (.ref t), .val (.int (0 : Int32)), .val (.int (3 : Int32)), .val (.int (3 : Int32)), .val (.int (0 : Int32))] [])) (fun _ k_ => XS.icmpNo X0.here hx rfl (hb hby d11_12) rfl (tlt (by decide)).2.1 k_) ?_
  refine Go.st (S' := T0.setTop (mkF m 17 #[.val (.int (1 : Int32)), .val (.ref t), .val (.int (0 : Int32)), .val (.int (3 : Int32)), .val (.int (3 : Int32)), .val (.int (0 : Int32))] [(.int (31 : Int32))])) (fun _ k_ => XS.bipush X0.here hx rfl (hb hby d11_15) k_) ?_
  refine Go.st (S' := T0.setTop (mkF m 18 #[.val (.int (1 : Int32)), .val (.ref t), .val (.int (0 : Int32)), .val (.int (3 : Int32)), .val (.int (3 : Int32)), .val (.int (0 : Int32))] [(.int (1 : Int32)), (.int (31 : Int32))])) (fun _ k_ => XS.iloadN X0.here hx rfl (hb hby d11_17) rfl k_) ?_
  refine Go.st (S' := T0.setTop (mkF m 19 #[.val (.int (1 : Int32)), .val (.ref t), .val (.int (0 : Int32)), .val (.int (3 : Int32)), .val (.int (3 : Int32)), .val (.int (0 : Int32))] [(.int ((31 : Int32) * (1 : Int32)))])) (fun _ k_ => XS.imul X0.here hx rfl (hb hby d11_18) rfl k_) ?_
  rw [show ((31 : Int32) * (1 : Int32)) = (31 : Int32) from (by decide)]
  refine Go.st (S' := T0.setTop (mkF m 20 #[.val (.int (1 : Int32)), .val (.ref t), .val (.int (0 : Int32)), .val (.int (3 : Int32)), .val (.int (3 : Int32)), .val (.int (0 : Int32))] [(.ref t), (.int (31 : Int32))])) (fun _ k_ => XS.aloadN X0.here hx rfl (hb hby d11_19) rfl rfl k_) ?_
  refine Go.st (S' := T0.setTop (mkF m 22 #[.val (.int (1 : Int32)), .val (.ref t), .val (.int (0 : Int32)), .val (.int (3 : Int32)), .val (.int (3 : Int32)), .val (.int (0 : Int32))] [(.int (0 : Int32)), (.ref t), (.int (31 : Int32))])) (fun _ k_ => XS.iload X0.here hx rfl (hb hby d11_20) rfl k_) ?_
  refine Go.st (S' := T0.setTop (mkF m 23 #[.val (.int (1 : Int32)), .val (.ref t), .val (.int (0 : Int32)), .val (.int (3 : Int32)), .val (.int (3 : Int32)), .val (.int (0 : Int32))] [(.int x0), (.int (31 : Int32))])) (A_t.load X0 hx hZ e0 (j := (0 : Int32)) (v := x0) (by decide) rfl (g := (mkF m 22 #[.val (.int (1 : Int32)), .val (.ref t), .val (.int (0 : Int32)), .val (.int (3 : Int32)), .val (.int (3 : Int32)), .val (.int (0 : Int32))] [(.int (0 : Int32)), (.ref t), (.int (31 : Int32))])) rfl rfl (hb hby d11_22)) ?_
  refine Go.st (S' := T0.setTop (mkF m 24 #[.val (.int (1 : Int32)), .val (.ref t), .val (.int (0 : Int32)), .val (.int (3 : Int32)), .val (.int (3 : Int32)), .val (.int (0 : Int32))] [(.int ((31 : Int32) + x0))])) (fun _ k_ => XS.iadd X0.here hx rfl (hb hby d11_23) rfl k_) ?_
  obtain ⟨hv1, q_hv1⟩ : ∃ z : Int32, z = ((31 : Int32) + x0) := ⟨_, rfl⟩
  rw [← q_hv1]
  refine Go.st (S' := T0.setTop (mkF m 25 #[.val (.int hv1), .val (.ref t), .val (.int (0 : Int32)), .val (.int (3 : Int32)), .val (.int (3 : Int32)), .val (.int (0 : Int32))] [])) (fun _ k_ => XS.istoreN X0.here hx rfl (hb hby d11_24) rfl (l' := #[.val (.int hv1), .val (.ref t), .val (.int (0 : Int32)), .val (.int (3 : Int32)), .val (.int (3 : Int32)), .val (.int (0 : Int32))]) rfl k_) ?_
  refine Go.st (S' := T0.setTop (mkF m 28 #[.val (.int hv1), .val (.ref t), .val (.int (0 : Int32)), .val (.int (3 : Int32)), .val (.int (3 : Int32)), .val (.int ((0 : Int32) + (1 : Int32)))] [])) (fun _ k_ => XS.iinc X0.here hx rfl (hb hby d11_25) rfl (l' := #[.val (.int hv1), .val (.ref t), .val (.int (0 : Int32)), .val (.int (3 : Int32)), .val (.int (3 : Int32)), .val (.int ((0 : Int32) + (1 : Int32)))]) rfl k_) ?_
  rw [show ((0 : Int32) + (1 : Int32)) = (1 : Int32) from rfl]
  refine Go.st (S' := T0.setTop (mkF m 8 #[.val (.int hv1), .val (.ref t), .val (.int (0 : Int32)), .val (.int (3 : Int32)), .val (.int (3 : Int32)), .val (.int (1 : Int32))] [])) (fun _ k_ => XS.goto X0.here hx rfl (pc0 := 28) (pc' := 8) rfl (hb hby d11_28) (by decide) (by decide) k_) ?_
  refine Go.st (S' := T0.setTop (mkF m 10 #[.val (.int hv1), .val (.ref t), .val (.int (0 : Int32)), .val (.int (3 : Int32)), .val (.int (3 : Int32)), .val (.int (1 : Int32))] [(.int (1 : Int32))])) (fun _ k_ => XS.iload X0.here hx rfl (hb hby d11_8) rfl k_) ?_
  refine Go.st (S' := T0.setTop (mkF m 12 #[.val (.int hv1), .val (.ref t), .val (.int (0 : Int32)), .val (.int (3 : Int32)), .val (.int (3 : Int32)), .val (.int (1 : Int32))] [(.int (3 : Int32)), (.int (1 : Int32))])) (fun _ k_ => XS.iload X0.here hx rfl (hb hby d11_10) rfl k_) ?_
  refine Go.st (S' := T0.setTop (mkF m 15 #[.val (.int hv1), .val (.ref t), .val (.int (0 : Int32)), .val (.int (3 : Int32)), .val (.int (3 : Int32)), .val (.int (1 : Int32))] [])) (fun _ k_ => XS.icmpNo X0.here hx rfl (hb hby d11_12) rfl (tlt (by decide)).2.1 k_) ?_
  refine Go.st (S' := T0.setTop (mkF m 17 #[.val (.int hv1), .val (.ref t), .val (.int (0 : Int32)), .val (.int (3 : Int32)), .val (.int (3 : Int32)), .val (.int (1 : Int32))] [(.int (31 : Int32))])) (fun _ k_ => XS.bipush X0.here hx rfl (hb hby d11_15) k_) ?_
  refine Go.st (S' := T0.setTop (mkF m 18 #[.val (.int hv1), .val (.ref t), .val (.int (0 : Int32)), .val (.int (3 : Int32)), .val (.int (3 : Int32)), .val (.int (1 : Int32))] [(.int hv1), (.int (31 : Int32))])) (fun _ k_ => XS.iloadN X0.here hx rfl (hb hby d11_17) rfl k_) ?_
  refine Go.st (S' := T0.setTop (mkF m 19 #[.val (.int hv1), .val (.ref t), .val (.int (0 : Int32)), .val (.int (3 : Int32)), .val (.int (3 : Int32)), .val (.int (1 : Int32))] [(.int ((31 : Int32) * hv1))])) (fun _ k_ => XS.imul X0.here hx rfl (hb hby d11_18) rfl k_) ?_
  refine Go.st (S' := T0.setTop (mkF m 20 #[.val (.int hv1), .val (.ref t), .val (.int (0 : Int32)), .val (.int (3 : Int32)), .val (.int (3 : Int32)), .val (.int (1 : Int32))] [(.ref t), (.int ((31 : Int32) * hv1))])) (fun _ k_ => XS.aloadN X0.here hx rfl (hb hby d11_19) rfl rfl k_) ?_
  refine Go.st (S' := T0.setTop (mkF m 22 #[.val (.int hv1), .val (.ref t), .val (.int (0 : Int32)), .val (.int (3 : Int32)), .val (.int (3 : Int32)), .val (.int (1 : Int32))] [(.int (1 : Int32)), (.ref t), (.int ((31 : Int32) * hv1))])) (fun _ k_ => XS.iload X0.here hx rfl (hb hby d11_20) rfl k_) ?_
  refine Go.st (S' := T0.setTop (mkF m 23 #[.val (.int hv1), .val (.ref t), .val (.int (0 : Int32)), .val (.int (3 : Int32)), .val (.int (3 : Int32)), .val (.int (1 : Int32))] [(.int x1), (.int ((31 : Int32) * hv1))])) (A_t.load X0 hx hZ e0 (j := (1 : Int32)) (v := x1) (by decide) rfl (g := (mkF m 22 #[.val (.int hv1), .val (.ref t), .val (.int (0 : Int32)), .val (.int (3 : Int32)), .val (.int (3 : Int32)), .val (.int (1 : Int32))] [(.int (1 : Int32)), (.ref t), (.int ((31 : Int32) * hv1))])) rfl rfl (hb hby d11_22)) ?_
  refine Go.st (S' := T0.setTop (mkF m 24 #[.val (.int hv1), .val (.ref t), .val (.int (0 : Int32)), .val (.int (3 : Int32)), .val (.int (3 : Int32)), .val (.int (1 : Int32))] [(.int (((31 : Int32) * hv1) + x1))])) (fun _ k_ => XS.iadd X0.here hx rfl (hb hby d11_23) rfl k_) ?_
  obtain ⟨hv2, q_hv2⟩ : ∃ z : Int32, z = (((31 : Int32) * hv1) + x1) := ⟨_, rfl⟩
  rw [← q_hv2]
  refine Go.st (S' := T0.setTop (mkF m 25 #[.val (.int hv2), .val (.ref t), .val (.int (0 : Int32)), .val (.int (3 : Int32)), .val (.int (3 : Int32)), .val (.int (1 : Int32))] [])) (fun _ k_ => XS.istoreN X0.here hx rfl (hb hby d11_24) rfl (l' := #[.val (.int hv2), .val (.ref t), .val (.int (0 : Int32)), .val (.int (3 : Int32)), .val (.int (3 : Int32)), .val (.int (1 : Int32))]) rfl k_) ?_
  refine Go.st (S' := T0.setTop (mkF m 28 #[.val (.int hv2), .val (.ref t), .val (.int (0 : Int32)), .val (.int (3 : Int32)), .val (.int (3 : Int32)), .val (.int ((1 : Int32) + (1 : Int32)))] [])) (fun _ k_ => XS.iinc X0.here hx rfl (hb hby d11_25) rfl (l' := #[.val (.int hv2), .val (.ref t), .val (.int (0 : Int32)), .val (.int (3 : Int32)), .val (.int (3 : Int32)), .val (.int ((1 : Int32) + (1 : Int32)))]) rfl k_) ?_
  rw [show ((1 : Int32) + (1 : Int32)) = (2 : Int32) from rfl]
  refine Go.st (S' := T0.setTop (mkF m 8 #[.val (.int hv2), .val (.ref t), .val (.int (0 : Int32)), .val (.int (3 : Int32)), .val (.int (3 : Int32)), .val (.int (2 : Int32))] [])) (fun _ k_ => XS.goto X0.here hx rfl (pc0 := 28) (pc' := 8) rfl (hb hby d11_28) (by decide) (by decide) k_) ?_
  refine Go.st (S' := T0.setTop (mkF m 10 #[.val (.int hv2), .val (.ref t), .val (.int (0 : Int32)), .val (.int (3 : Int32)), .val (.int (3 : Int32)), .val (.int (2 : Int32))] [(.int (2 : Int32))])) (fun _ k_ => XS.iload X0.here hx rfl (hb hby d11_8) rfl k_) ?_
  refine Go.st (S' := T0.setTop (mkF m 12 #[.val (.int hv2), .val (.ref t), .val (.int (0 : Int32)), .val (.int (3 : Int32)), .val (.int (3 : Int32)), .val (.int (2 : Int32))] [(.int (3 : Int32)), (.int (2 : Int32))])) (fun _ k_ => XS.iload X0.here hx rfl (hb hby d11_10) rfl k_) ?_
  refine Go.st (S' := T0.setTop (mkF m 15 #[.val (.int hv2), .val (.ref t), .val (.int (0 : Int32)), .val (.int (3 : Int32)), .val (.int (3 : Int32)), .val (.int (2 : Int32))] [])) (fun _ k_ => XS.icmpNo X0.here hx rfl (hb hby d11_12) rfl (tlt (by decide)).2.1 k_) ?_
  refine Go.st (S' := T0.setTop (mkF m 17 #[.val (.int hv2), .val (.ref t), .val (.int (0 : Int32)), .val (.int (3 : Int32)), .val (.int (3 : Int32)), .val (.int (2 : Int32))] [(.int (31 : Int32))])) (fun _ k_ => XS.bipush X0.here hx rfl (hb hby d11_15) k_) ?_
  refine Go.st (S' := T0.setTop (mkF m 18 #[.val (.int hv2), .val (.ref t), .val (.int (0 : Int32)), .val (.int (3 : Int32)), .val (.int (3 : Int32)), .val (.int (2 : Int32))] [(.int hv2), (.int (31 : Int32))])) (fun _ k_ => XS.iloadN X0.here hx rfl (hb hby d11_17) rfl k_) ?_
  refine Go.st (S' := T0.setTop (mkF m 19 #[.val (.int hv2), .val (.ref t), .val (.int (0 : Int32)), .val (.int (3 : Int32)), .val (.int (3 : Int32)), .val (.int (2 : Int32))] [(.int ((31 : Int32) * hv2))])) (fun _ k_ => XS.imul X0.here hx rfl (hb hby d11_18) rfl k_) ?_
  refine Go.st (S' := T0.setTop (mkF m 20 #[.val (.int hv2), .val (.ref t), .val (.int (0 : Int32)), .val (.int (3 : Int32)), .val (.int (3 : Int32)), .val (.int (2 : Int32))] [(.ref t), (.int ((31 : Int32) * hv2))])) (fun _ k_ => XS.aloadN X0.here hx rfl (hb hby d11_19) rfl rfl k_) ?_
  refine Go.st (S' := T0.setTop (mkF m 22 #[.val (.int hv2), .val (.ref t), .val (.int (0 : Int32)), .val (.int (3 : Int32)), .val (.int (3 : Int32)), .val (.int (2 : Int32))] [(.int (2 : Int32)), (.ref t), (.int ((31 : Int32) * hv2))])) (fun _ k_ => XS.iload X0.here hx rfl (hb hby d11_20) rfl k_) ?_
  refine Go.st (S' := T0.setTop (mkF m 23 #[.val (.int hv2), .val (.ref t), .val (.int (0 : Int32)), .val (.int (3 : Int32)), .val (.int (3 : Int32)), .val (.int (2 : Int32))] [(.int x2), (.int ((31 : Int32) * hv2))])) (A_t.load X0 hx hZ e0 (j := (2 : Int32)) (v := x2) (by decide) rfl (g := (mkF m 22 #[.val (.int hv2), .val (.ref t), .val (.int (0 : Int32)), .val (.int (3 : Int32)), .val (.int (3 : Int32)), .val (.int (2 : Int32))] [(.int (2 : Int32)), (.ref t), (.int ((31 : Int32) * hv2))])) rfl rfl (hb hby d11_22)) ?_
  refine Go.st (S' := T0.setTop (mkF m 24 #[.val (.int hv2), .val (.ref t), .val (.int (0 : Int32)), .val (.int (3 : Int32)), .val (.int (3 : Int32)), .val (.int (2 : Int32))] [(.int (((31 : Int32) * hv2) + x2))])) (fun _ k_ => XS.iadd X0.here hx rfl (hb hby d11_23) rfl k_) ?_
  obtain ⟨hv3, q_hv3⟩ : ∃ z : Int32, z = (((31 : Int32) * hv2) + x2) := ⟨_, rfl⟩
  rw [← q_hv3]
  refine Go.st (S' := T0.setTop (mkF m 25 #[.val (.int hv3), .val (.ref t), .val (.int (0 : Int32)), .val (.int (3 : Int32)), .val (.int (3 : Int32)), .val (.int (2 : Int32))] [])) (fun _ k_ => XS.istoreN X0.here hx rfl (hb hby d11_24) rfl (l' := #[.val (.int hv3), .val (.ref t), .val (.int (0 : Int32)), .val (.int (3 : Int32)), .val (.int (3 : Int32)), .val (.int (2 : Int32))]) rfl k_) ?_
  refine Go.st (S' := T0.setTop (mkF m 28 #[.val (.int hv3), .val (.ref t), .val (.int (0 : Int32)), .val (.int (3 : Int32)), .val (.int (3 : Int32)), .val (.int ((2 : Int32) + (1 : Int32)))] [])) (fun _ k_ => XS.iinc X0.here hx rfl (hb hby d11_25) rfl (l' := #[.val (.int hv3), .val (.ref t), .val (.int (0 : Int32)), .val (.int (3 : Int32)), .val (.int (3 : Int32)), .val (.int ((2 : Int32) + (1 : Int32)))]) rfl k_) ?_
  rw [show ((2 : Int32) + (1 : Int32)) = (3 : Int32) from rfl]
  refine Go.st (S' := T0.setTop (mkF m 8 #[.val (.int hv3), .val (.ref t), .val (.int (0 : Int32)), .val (.int (3 : Int32)), .val (.int (3 : Int32)), .val (.int (3 : Int32))] [])) (fun _ k_ => XS.goto X0.here hx rfl (pc0 := 28) (pc' := 8) rfl (hb hby d11_28) (by decide) (by decide) k_) ?_
  refine Go.st (S' := T0.setTop (mkF m 10 #[.val (.int hv3), .val (.ref t), .val (.int (0 : Int32)), .val (.int (3 : Int32)), .val (.int (3 : Int32)), .val (.int (3 : Int32))] [(.int (3 : Int32))])) (fun _ k_ => XS.iload X0.here hx rfl (hb hby d11_8) rfl k_) ?_
  refine Go.st (S' := T0.setTop (mkF m 12 #[.val (.int hv3), .val (.ref t), .val (.int (0 : Int32)), .val (.int (3 : Int32)), .val (.int (3 : Int32)), .val (.int (3 : Int32))] [(.int (3 : Int32)), (.int (3 : Int32))])) (fun _ k_ => XS.iload X0.here hx rfl (hb hby d11_10) rfl k_) ?_
  refine Go.st (S' := T0.setTop (mkF m 31 #[.val (.int hv3), .val (.ref t), .val (.int (0 : Int32)), .val (.int (3 : Int32)), .val (.int (3 : Int32)), .val (.int (3 : Int32))] [])) (fun _ k_ => XS.icmpYes X0.here hx rfl (pc0 := 12) (pc' := 31) rfl (hb hby d11_12) rfl (flt (by decide)).2.1 (by decide) (by decide) k_) ?_
  refine Go.st (S' := T0.setTop (mkF m 32 #[.val (.int hv3), .val (.ref t), .val (.int (0 : Int32)), .val (.int (3 : Int32)), .val (.int (3 : Int32)), .val (.int (3 : Int32))] [(.int hv3)])) (fun _ k_ => XS.iloadN X0.here hx rfl (hb hby d11_31) rfl k_) ?_
  exact Go.retI X0 hx hret hlk (hb hby d11_32) (by decide) (by decide) (by rw [e0]; exact ⟨⟨hv3, rfl⟩, N0, rfl⟩)
theorem ef_hc_vec (m : MethodId) (x0 : Addr) (x1 : Int32) (x2 : Int32) (x3 : Int32) (x4 : Int32) : entryFrame m #[(.ref x0), (.int x1), (.int x2), (.int x3), (.int x4)] 5 = mkF m 0 #[.val (.ref x0), .val (.int x1), .val (.int x2), .val (.int x3), .val (.int x4)] [] := by first | (simp [entryFrame, mkF, argsToLocals, Value.category]; done) | rfl
set_option maxRecDepth 65536 in
set_option maxHeartbeats 40000000 in
theorem hc_vec (l : Launch) (Z : State) (a0 : Array Value) (hw : ∀ d ∈ tables_1, d.before a0 Z = true) (t : Addr) (x0 x1 x2 : Int32) (h0 : Heap) (n0 : Nat) (Z0 : n0 ≤ h0.size) (A_t : Ai Z h0 t .int [x0, x1, x2]) (E_t : Exa Z h0 t "[I") :
    Con l Z (⟨"jdk/internal/util/ArraysSupport", "vectorizedHashCode", "(Ljava/lang/Object;IIII)I"⟩ : MethodName) jdk_48_method_4_code 5 (some .int) [] ({ frames := 1, cells := 0, slots := 0, locals := 20 } : Room) #[(.ref t), (.int (0 : Int32)), (.int (3 : Int32)), (.int (1 : Int32)), (.int (10 : Int32))] h0 (fun v h L => (∃ x, v = some (.int x)) ∧ Fr n0 L ∧ h = h0) := by
  refine Con.mk (plainFor_of_name pn1) ?_
  intro p e s m below meth c T0 hx hby hml hown hnm hret hlk hZ X0 e0
  have hown : s.vm.findClass "jdk/internal/util/ArraysSupport" = some m.cls := hown
  have hnm : meth.name = "vectorizedHashCode" := hnm
  have N0 := Fr.nil n0
  refine Go.cast (ef_hc_vec m t (0 : Int32) (3 : Int32) (1 : Int32) (10 : Int32)) ?_
  refine Go.st (S' := T0.setTop (mkF m 2 #[.val (.ref t), .val (.int (0 : Int32)), .val (.int (3 : Int32)), .val (.int (1 : Int32)), .val (.int (10 : Int32))] [(.int (10 : Int32))])) (fun _ k_ => XS.iload X0.here hx rfl (hb hby d10_0) rfl k_) ?_
  refine Go.st (S' := T0.setTop (mkF m 116 #[.val (.ref t), .val (.int (0 : Int32)), .val (.int (3 : Int32)), .val (.int (1 : Int32)), .val (.int (10 : Int32))] [])) (fun _ k_ => XS.tswIn X0.here hx rfl (pc0 := 2) (pc' := 116) rfl (hb hby d10_2) rfl (by decide) rfl (by decide) (by decide) k_) ?_
  refine Go.st (S' := T0.setTop (mkF m 117 #[.val (.ref t), .val (.int (0 : Int32)), .val (.int (3 : Int32)), .val (.int (1 : Int32)), .val (.int (10 : Int32))] [(.int (1 : Int32))])) (fun _ k_ => XS.iloadN X0.here hx rfl (hb hby d10_116) rfl k_) ?_
  refine Go.st (S' := T0.setTop (mkF m 118 #[.val (.ref t), .val (.int (0 : Int32)), .val (.int (3 : Int32)), .val (.int (1 : Int32)), .val (.int (10 : Int32))] [(.ref t), (.int (1 : Int32))])) (fun _ k_ => XS.aloadN X0.here hx rfl (hb hby d10_117) rfl rfl k_) ?_
  obtain ⟨T11, X11, e11, st11⟩ := castY X0 hx hZ hown (w65 hw) e0 (Ins.self E_t) (g := (mkF m 118 #[.val (.ref t), .val (.int (0 : Int32)), .val (.int (3 : Int32)), .val (.int (1 : Int32)), .val (.int (10 : Int32))] [(.ref t), (.int (1 : Int32))])) rfl rfl (hb hby d10_118)
  refine Go.st (S' := T11.setTop (mkF m 121 #[.val (.ref t), .val (.int (0 : Int32)), .val (.int (3 : Int32)), .val (.int (1 : Int32)), .val (.int (10 : Int32))] [(.ref t), (.int (1 : Int32))])) (st11) ?_
  refine Go.st (S' := T11.setTop (mkF m 122 #[.val (.ref t), .val (.int (0 : Int32)), .val (.int (3 : Int32)), .val (.int (1 : Int32)), .val (.int (10 : Int32))] [(.int (0 : Int32)), (.ref t), (.int (1 : Int32))])) (fun _ k_ => XS.iloadN X11.here hx rfl (hb hby d10_121) rfl k_) ?_
  refine Go.st (S' := T11.setTop (mkF m 123 #[.val (.ref t), .val (.int (0 : Int32)), .val (.int (3 : Int32)), .val (.int (1 : Int32)), .val (.int (10 : Int32))] [(.int (3 : Int32)), (.int (0 : Int32)), (.ref t), (.int (1 : Int32))])) (fun _ k_ => XS.iloadN X11.here hx rfl (hb hby d10_122) rfl k_) ?_
  obtain ⟨v12, T12, h12, L12, X12, e12, hQ12, st12⟩ := callSt X11 hx hZ hown (w67 hw) (w68 hw) (w63 hw) (w69 hw) (by decide) (W := 0) (argsL := [(.int (1 : Int32)), (.ref t), (.int (0 : Int32)), (.int (3 : Int32))]) (rest := []) e11 (hc_loop l Z a0 hw t x0 x1 x2 h0 n0 Z0 A_t) (by decide) (by decide) pd0 rfl (g := (mkF m 123 #[.val (.ref t), .val (.int (0 : Int32)), .val (.int (3 : Int32)), .val (.int (1 : Int32)), .val (.int (10 : Int32))] [(.int (3 : Int32)), (.int (0 : Int32)), (.ref t), (.int (1 : Int32))])) rfl (by rw [hml]; rfl) rfl (by show 2 * 0 + _ ≤ _; exact Nat.le_of_eq rfl) (hb hby d10_123) (by decide) (by decide)
  obtain ⟨⟨x12, rfl⟩, Nq12, hh12⟩ := hQ12
  rw [hh12] at e12
  have N12 := Fr.app N0 Nq12
  refine Go.st (S' := T12.setTop (mkF m 126 #[.val (.ref t), .val (.int (0 : Int32)), .val (.int (3 : Int32)), .val (.int (1 : Int32)), .val (.int (10 : Int32))] [(.int x12)])) (st12) ?_
  refine Go.st (S' := T12.setTop (mkF m 157 #[.val (.ref t), .val (.int (0 : Int32)), .val (.int (3 : Int32)), .val (.int (1 : Int32)), .val (.int (10 : Int32))] [(.int x12)])) (fun _ k_ => XS.goto X12.here hx rfl (pc0 := 126) (pc' := 157) rfl (hb hby d10_126) (by decide) (by decide) k_) ?_
  exact Go.retI X12 hx hret hlk (hb hby d10_157) (by decide) (by decide) (by rw [e12]; exact ⟨⟨_, rfl⟩, N12, rfl⟩)
theorem ef_hc_arr (m : MethodId) (x0 : Addr) : entryFrame m #[(.ref x0)] 1 = mkF m 0 #[.val (.ref x0)] [] := by first | (simp [entryFrame, mkF, argsToLocals, Value.category]; done) | rfl
set_option maxRecDepth 65536 in
set_option maxHeartbeats 40000000 in
theorem hc_arr (l : Launch) (Z : State) (a0 : Array Value) (hw : ∀ d ∈ tables_1, d.before a0 Z = true) (t : Addr) (x0 x1 x2 : Int32) (h0 : Heap) (n0 : Nat) (Z0 : n0 ≤ h0.size) (A_t : Ai Z h0 t .int [x0, x1, x2]) (E_t : Exa Z h0 t "[I") :
    Con l Z (⟨"java/util/Arrays", "hashCode", "([I)I"⟩ : MethodName) jdk_65_method_150_code 1 (some .int) [] ({ frames := 2, cells := 0, slots := 0, locals := 40 } : Room) #[(.ref t)] h0 (fun v h L => (∃ x, v = some (.int x)) ∧ Fr n0 L ∧ h = h0) := by
  refine Con.mk (plainFor_of_name pn2) ?_
  intro p e s m below meth c T0 hx hby hml hown hnm hret hlk hZ X0 e0
  have hown : s.vm.findClass "java/util/Arrays" = some m.cls := hown
  have hnm : meth.name = "hashCode" := hnm
  have N0 := Fr.nil n0
  refine Go.cast (ef_hc_arr m t) ?_
  refine Go.st (S' := T0.setTop (mkF m 1 #[.val (.ref t)] [(.ref t)])) (fun _ k_ => XS.aloadN X0.here hx rfl (hb hby d9_0) rfl rfl k_) ?_
  refine Go.st (S' := T0.setTop (mkF m 6 #[.val (.ref t)] [])) (fun _ k_ => XS.ifnonnullYes X0.here hx rfl (pc0 := 1) (pc' := 6) rfl (hb hby d9_1) rfl (by decide) (by decide) k_) ?_
  refine Go.st (S' := T0.setTop (mkF m 7 #[.val (.ref t)] [(.ref t)])) (fun _ k_ => XS.aloadN X0.here hx rfl (hb hby d9_6) rfl rfl k_) ?_
  refine Go.st (S' := T0.setTop (mkF m 8 #[.val (.ref t)] [(.int (3 : Int32))])) (A_t.length X0 hx hZ e0 (n := (3 : Int32)) rfl (g := (mkF m 7 #[.val (.ref t)] [(.ref t)])) rfl rfl (hb hby d9_7)) ?_
  refine Go.st (S' := T0.setTop (mkF m 49 #[.val (.ref t)] [])) (fun t_ k_ => own_lswMiss X0 hx (g := (mkF m 8 #[.val (.ref t)] [(.int (3 : Int32))])) rfl (k := (3 : Int32)) rfl (pc0 := 8) (pc' := 49) rfl (hb hby d9_8) (by decide) (by decide) (by decide) (by decide) t_ k_) ?_
  refine Go.st (S' := T0.setTop (mkF m 50 #[.val (.ref t)] [(.ref t)])) (fun _ k_ => XS.aloadN X0.here hx rfl (hb hby d9_49) rfl rfl k_) ?_
  refine Go.st (S' := T0.setTop (mkF m 51 #[.val (.ref t)] [(.int (0 : Int32)), (.ref t)])) (fun _ k_ => XS.iconst X0.here hx rfl (hb hby d9_50) k_) ?_
  refine Go.st (S' := T0.setTop (mkF m 52 #[.val (.ref t)] [(.ref t), (.int (0 : Int32)), (.ref t)])) (fun _ k_ => XS.aloadN X0.here hx rfl (hb hby d9_51) rfl rfl k_) ?_
  refine Go.st (S' := T0.setTop (mkF m 53 #[.val (.ref t)] [(.int (3 : Int32)), (.int (0 : Int32)), (.ref t)])) (A_t.length X0 hx hZ e0 (n := (3 : Int32)) rfl (g := (mkF m 52 #[.val (.ref t)] [(.ref t), (.int (0 : Int32)), (.ref t)])) rfl rfl (hb hby d9_52)) ?_
  refine Go.st (S' := T0.setTop (mkF m 54 #[.val (.ref t)] [(.int (1 : Int32)), (.int (3 : Int32)), (.int (0 : Int32)), (.ref t)])) (fun _ k_ => XS.iconst X0.here hx rfl (hb hby d9_53) k_) ?_
  refine Go.st (S' := T0.setTop (mkF m 56 #[.val (.ref t)] [(.int (10 : Int32)), (.int (1 : Int32)), (.int (3 : Int32)), (.int (0 : Int32)), (.ref t)])) (fun _ k_ => XS.bipush X0.here hx rfl (hb hby d9_54) k_) ?_
  obtain ⟨v11, T11, h11, L11, X11, e11, hQ11, st11⟩ := callSt X0 hx hZ hown (w61 hw) (w62 hw) (w63 hw) (w64 hw) (by decide) (W := 0) (argsL := [(.ref t), (.int (0 : Int32)), (.int (3 : Int32)), (.int (1 : Int32)), (.int (10 : Int32))]) (rest := []) e0 (hc_vec l Z a0 hw t x0 x1 x2 h0 n0 Z0 A_t E_t) (by decide) (by decide) pd1 rfl (g := (mkF m 56 #[.val (.ref t)] [(.int (10 : Int32)), (.int (1 : Int32)), (.int (3 : Int32)), (.int (0 : Int32)), (.ref t)])) rfl (by rw [hml]; rfl) rfl (by show 2 * 0 + _ ≤ _; exact Nat.le_of_eq rfl) (hb hby d9_56) (by decide) (by decide)
  obtain ⟨⟨x11, rfl⟩, Nq11, hh11⟩ := hQ11
  rw [hh11] at e11
  have N11 := Fr.app N0 Nq11
  refine Go.st (S' := T11.setTop (mkF m 59 #[.val (.ref t)] [(.int x11)])) (st11) ?_
  exact Go.retI X11 hx hret hlk (hb hby d9_59) (by decide) (by decide) (by rw [e11]; exact ⟨⟨_, rfl⟩, N11, rfl⟩)
theorem ef_mt_hash (m : MethodId) (x0 : Addr) : entryFrame m #[(.ref x0)] 2 = mkF m 0 #[.val (.ref x0), .unset] [] := by first | (simp [entryFrame, mkF, argsToLocals, Value.category]; done) | rfl
set_option maxRecDepth 65536 in
set_option maxHeartbeats 40000000 in
theorem mt_hash (l : Launch) (Z : State) (a0 : Array Value) (hw : ∀ d ∈ tables_1, d.before a0 Z = true) (t : Addr) (x0 x1 x2 : Int32) (h0 : Heap) (n0 : Nat) (Z0 : n0 ≤ h0.size) (A_t : Ai Z h0 t .int [x0, x1, x2]) (E_t : Exa Z h0 t "[I") :
    Con l Z (⟨"com/example/caseweave/caseweave/core/MarkingTable", "hash", "([I)I"⟩ : MethodName) prog_9_method_9_code 2 (some .int) [] ({ frames := 3, cells := 0, slots := 0, locals := 55 } : Room) #[(.ref t)] h0 (fun v h L => (∃ x, v = some (.int x)) ∧ Fr n0 L ∧ h = h0) := by
  refine Con.mk (plainFor_of_name pn3) ?_
  intro p e s m below meth c T0 hx hby hml hown hnm hret hlk hZ X0 e0
  have hown : s.vm.findClass "com/example/caseweave/caseweave/core/MarkingTable" = some m.cls := hown
  have hnm : meth.name = "hash" := hnm
  have N0 := Fr.nil n0
  refine Go.cast (ef_mt_hash m t) ?_
  refine Go.st (S' := T0.setTop (mkF m 1 #[.val (.ref t), .unset] [(.ref t)])) (fun _ k_ => XS.aloadN X0.here hx rfl (hb hby d8_0) rfl rfl k_) ?_
  obtain ⟨v11, T11, h11, L11, X11, e11, hQ11, st11⟩ := callSt X0 hx hZ hown (w57 hw) (w58 hw) (w59 hw) (w60 hw) (by decide) (W := 0) (argsL := [(.ref t)]) (rest := []) e0 (hc_arr l Z a0 hw t x0 x1 x2 h0 n0 Z0 A_t E_t) (by decide) (by decide) pd2 rfl (g := (mkF m 1 #[.val (.ref t), .unset] [(.ref t)])) rfl (by rw [hml]; rfl) rfl (by show 2 * 0 + _ ≤ _; exact Nat.le_of_eq rfl) (hb hby d8_1) (by decide) (by decide)
  obtain ⟨⟨x11, rfl⟩, Nq11, hh11⟩ := hQ11
  rw [hh11] at e11
  have N11 := Fr.app N0 Nq11
  refine Go.st (S' := T11.setTop (mkF m 4 #[.val (.ref t), .unset] [(.int x11)])) (st11) ?_
  refine Go.st (S' := T11.setTop (mkF m 6 #[.val (.ref t), .unset] [(.int (-1640531527 : Int32)), (.int x11)])) (X11.ldcInt hx hown (mvT hZ (w70 hw)) (g := (mkF m 4 #[.val (.ref t), .unset] [(.int x11)])) rfl (hb hby d8_4)) ?_
  refine Go.st (S' := T11.setTop (mkF m 7 #[.val (.ref t), .unset] [(.int (x11 * (-1640531527 : Int32)))])) (fun _ k_ => XS.imul X11.here hx rfl (hb hby d8_6) rfl k_) ?_
  obtain ⟨mh1, q_mh1⟩ : ∃ z : Int32, z = (x11 * (-1640531527 : Int32)) := ⟨_, rfl⟩
  rw [← q_mh1]
  refine Go.st (S' := T11.setTop (mkF m 8 #[.val (.ref t), .val (.int mh1)] [])) (fun _ k_ => XS.istoreN X11.here hx rfl (hb hby d8_7) rfl (l' := #[.val (.ref t), .val (.int mh1)]) rfl k_) ?_
  refine Go.st (S' := T11.setTop (mkF m 9 #[.val (.ref t), .val (.int mh1)] [(.int mh1)])) (fun _ k_ => XS.iloadN X11.here hx rfl (hb hby d8_8) rfl k_) ?_
  refine Go.st (S' := T11.setTop (mkF m 10 #[.val (.ref t), .val (.int mh1)] [(.int mh1), (.int mh1)])) (fun _ k_ => XS.iloadN X11.here hx rfl (hb hby d8_9) rfl k_) ?_
  refine Go.st (S' := T11.setTop (mkF m 12 #[.val (.ref t), .val (.int mh1)] [(.int (16 : Int32)), (.int mh1), (.int mh1)])) (fun _ k_ => XS.bipush X11.here hx rfl (hb hby d8_10) k_) ?_
  refine Go.st (S' := T11.setTop (mkF m 13 #[.val (.ref t), .val (.int mh1)] [(.int ((mh1.toUInt32 >>> ((16 : Int32) &&& 31).toUInt32).toInt32)), (.int mh1)])) (fun _ k_ => XS.iushr X11.here hx rfl (hb hby d8_12) rfl k_) ?_
  obtain ⟨mh2, q_mh2⟩ : ∃ z : Int32, z = ((mh1.toUInt32 >>> ((16 : Int32) &&& 31).toUInt32).toInt32) := ⟨_, rfl⟩
  rw [← q_mh2]
  refine Go.st (S' := T11.setTop (mkF m 14 #[.val (.ref t), .val (.int mh1)] [(.int (mh1 ^^^ mh2))])) (fun _ k_ => XS.ixor X11.here hx rfl (hb hby d8_13) rfl k_) ?_
  exact Go.retI X11 hx hret hlk (hb hby d8_14) (by decide) (by decide) (by rw [e11]; exact ⟨⟨_, rfl⟩, N11, rfl⟩)
theorem ef_mt_init (m : MethodId) (x0 : Addr) (x1 : Int32) : entryFrame m #[(.ref x0), (.int x1)] 2 = mkF m 0 #[.val (.ref x0), .val (.int x1)] [] := by first | (simp [entryFrame, mkF, argsToLocals, Value.category]; done) | rfl
set_option maxRecDepth 65536 in
set_option maxHeartbeats 40000000 in
theorem mt_init (l : Launch) (Z : State) (a0 : Array Value) (hw : ∀ d ∈ tables_1, d.before a0 Z = true) (a : Addr) (h0 : Heap) (n0 : Nat) (Z0 : n0 ≤ h0.size) (E_a : Exa Z h0 a "com/example/caseweave/caseweave/core/MarkingTable") (F_pairs_a : Fld Z h0 a "com/example/caseweave/caseweave/core/MarkingTable" "pairs" "Lcom/example/caseweave/caseweave/core/IntList;" .null) (F_starts_a : Fld Z h0 a "com/example/caseweave/caseweave/core/MarkingTable" "starts" "Lcom/example/caseweave/caseweave/core/IntList;" .null) (F_hashes_a : Fld Z h0 a "com/example/caseweave/caseweave/core/MarkingTable" "hashes" "Lcom/example/caseweave/caseweave/core/IntList;" .null) (F_slots_a : Fld Z h0 a "com/example/caseweave/caseweave/core/MarkingTable" "slots" "[I" .null) (F_stored_a : Fld Z h0 a "com/example/caseweave/caseweave/core/MarkingTable" "stored" "[I" .null) (F_places_a : Fld Z h0 a "com/example/caseweave/caseweave/core/MarkingTable" "places" "I" (.int 0)) (g_a : n0 ≤ a) :
    Con l Z (⟨"com/example/caseweave/caseweave/core/MarkingTable", "<init>", "(I)V"⟩ : MethodName) prog_9_method_1_code 2 none [] ({ frames := 2, cells := 8, slots := 73, locals := 30 } : Room) #[(.ref a), (.int (3 : Int32))] h0 (fun v h L => v = none ∧ Fr n0 L ∧ Keep h0 h [a] ∧ ∃ pr prb ss ssb hs hsb sl, own_dis n0 a pr prb ss ssb hs hsb sl ∧ (h0.size ≤ pr ∧ h0.size ≤ prb ∧ h0.size ≤ ss ∧ h0.size ≤ ssb ∧ h0.size ≤ hs ∧ h0.size ≤ hsb ∧ h0.size ≤ sl) ∧ MT Z h a pr prb ss ssb hs hsb sl [] [0] [] (List.replicate 16 0)) := by
  refine Con.mk (plainFor_of_name pn3) ?_
  intro p e s m below meth c T0 hx hby hml hown hnm hret hlk hZ X0 e0
  have hown : s.vm.findClass "com/example/caseweave/caseweave/core/MarkingTable" = some m.cls := hown
  have hnm : meth.name = "<init>" := hnm
  have N0 := Fr.nil n0
  have K0 := Keep.refl h0 [a]
  refine Go.cast (ef_mt_init m a (3 : Int32)) ?_
  refine Go.st (S' := T0.setTop (mkF m 1 #[.val (.ref a), .val (.int (3 : Int32))] [(.ref a)])) (fun _ k_ => XS.aloadN X0.here hx rfl (hb hby d1_0) rfl rfl k_) ?_
  obtain ⟨T11, X11, e11, st11⟩ := initO X0 hx hZ hown (w7 hw) (w8 hw) (w9 hw) e0 (g := (mkF m 1 #[.val (.ref a), .val (.int (3 : Int32))] [(.ref a)])) rfl (by rw [hml]; rfl) rfl (hb hby d1_1) (by decide) (W := 0) (by show 2 * 0 + _ ≤ _; exact Nat.le_of_eq rfl) (by decide)
  refine Go.st (S' := T11.setTop (mkF m 4 #[.val (.ref a), .val (.int (3 : Int32))] [])) (st11) ?_
  refine Go.st (S' := T11.setTop (mkF m 5 #[.val (.ref a), .val (.int (3 : Int32))] [(.ref a)])) (fun _ k_ => XS.aloadN X11.here hx rfl (hb hby d1_4) rfl rfl k_) ?_
  obtain ⟨T12, h12, X12, e12, E12, A12, D12, -, st12⟩ := newO X11 hx hZ hown (w10 hw) (w11 hw) (w12 hw) e11 (g := (mkF m 5 #[.val (.ref a), .val (.int (3 : Int32))] [(.ref a)])) rfl (hb hby d1_5) (by decide) (by decide)
  obtain ⟨b12, q12⟩ : ∃ z, z = h0.size := ⟨_, rfl⟩
  rw [← q12] at A12 D12 st12
  have ne_a_b12 : a ≠ b12 := Nat.ne_of_lt (Nat.lt_of_lt_of_le E_a.lt (Nat.le_of_eq q12.symm))
  have g_b12 : n0 ≤ b12 := Nat.le_trans Z0 (Nat.le_of_eq q12.symm)
  have sz_b12 : h0.size ≤ b12 := Nat.le_trans K0.1 (Nat.le_of_eq q12.symm)
  replace E_a := E_a.ext E12
  replace F_pairs_a := F_pairs_a.ext E12
  replace F_starts_a := F_starts_a.ext E12
  replace F_hashes_a := F_hashes_a.ext E12
  replace F_slots_a := F_slots_a.ext E12
  replace F_stored_a := F_stored_a.ext E12
  replace F_places_a := F_places_a.ext E12
  replace Z0 := Nat.le_trans Z0 E12.1
  replace K0 := K0.ext E12
  have E_b12 := A12
  have F_values_b12 : Fld Z h12 b12 "com/example/caseweave/caseweave/core/IntList" "values" "[I" .null := D12 (Or.inl (w18 hw)) (ty := (.array .int)) (by decide)
  have F_size_b12 : Fld Z h12 b12 "com/example/caseweave/caseweave/core/IntList" "size" "I" (.int (0 : Int32)) := D12 (Or.inl (w37 hw)) (ty := .int) (by decide)
  refine Go.st (S' := T12.setTop (mkF m 8 #[.val (.ref a), .val (.int (3 : Int32))] [(.ref b12), (.ref a)])) (st12) ?_
  refine Go.st (S' := T12.setTop (mkF m 9 #[.val (.ref a), .val (.int (3 : Int32))] [(.ref b12), (.ref b12), (.ref a)])) (fun _ k_ => XS.dup X12.here hx rfl (hb hby d1_8) rfl rfl k_) ?_
  obtain ⟨v13, T13, h13, L13, X13, e13, hQ13, st13⟩ := callIn X12 hx hZ rfl hown (w13 hw) (w14 hw) (w12 hw) (w15 hw) (by decide) (W := 2) (argsL := []) (rest := [(.ref b12), (.ref a)]) e12 (il_init l Z a0 hw b12 h12 n0 Z0 E_b12 F_size_b12 F_values_b12 g_b12) (by decide) (by decide) pd3 rfl (g := (mkF m 9 #[.val (.ref a), .val (.int (3 : Int32))] [(.ref b12), (.ref b12), (.ref a)])) rfl (by rw [hml]; rfl) rfl (by show 2 * 0 + _ ≤ _; exact Nat.le_of_eq rfl) (hb hby d1_9) (by decide) (by decide)
  obtain ⟨rfl, Nq13, Kq13, c13, hb13, IL_b12⟩ := hQ13
  have N13 := Fr.app N0 Nq13
  have ne_a_c13 : a ≠ c13 := Nat.ne_of_lt (Nat.lt_of_lt_of_le E_a.lt hb13)
  have ne_b12_c13 : b12 ≠ c13 := Nat.ne_of_lt (Nat.lt_of_lt_of_le E_b12.lt hb13)
  have g_c13 : n0 ≤ c13 := Nat.le_trans Z0 hb13
  have sz_c13 : h0.size ≤ c13 := Nat.le_trans K0.1 hb13
  replace E_a := E_a.keep Kq13
  replace F_pairs_a := F_pairs_a.keep Kq13 (ninS ne_a_b12 nin0)
  replace F_starts_a := F_starts_a.keep Kq13 (ninS ne_a_b12 nin0)
  replace F_hashes_a := F_hashes_a.keep Kq13 (ninS ne_a_b12 nin0)
  replace F_slots_a := F_slots_a.keep Kq13 (ninS ne_a_b12 nin0)
  replace F_stored_a := F_stored_a.keep Kq13 (ninS ne_a_b12 nin0)
  replace F_places_a := F_places_a.keep Kq13 (ninS ne_a_b12 nin0)
  replace Z0 := Nat.le_trans Z0 Kq13.1
  replace K0 := K0.trans Kq13 (allS (Or.inr sz_b12) all0)
  refine Go.st (S' := T13.setTop (mkF m 12 #[.val (.ref a), .val (.int (3 : Int32))] [(.ref b12), (.ref a)])) (st13) ?_
  obtain ⟨T14, h14, X14, e14, W14, st14⟩ := putF X13 hx hZ hown (host := "") (Or.inl (w19 hw)) Via.refl e13 F_pairs_a E_a (Or.inr ⟨(w20 hw), rfl, hnm⟩) (w2 hw) (ty := (.object "com/example/caseweave/caseweave/core/IntList")) (by decide) rfl rfl (g := (mkF m 12 #[.val (.ref a), .val (.int (3 : Int32))] [(.ref b12), (.ref a)])) rfl rfl (hb hby d1_12)
  replace F_pairs_a := F_pairs_a.same W14
  replace E_a := E_a.wr W14
  replace F_starts_a := F_starts_a.other W14 (Or.inr (slot_ne (Or.inr (w22 hw)) (Or.inr (w20 hw)) (by decide) (t := (.object "com/example/caseweave/caseweave/core/IntList")) (t' := (.object "com/example/caseweave/caseweave/core/IntList")) (by decide) (by decide)))
  replace F_hashes_a := F_hashes_a.other W14 (Or.inr (slot_ne (Or.inr (w24 hw)) (Or.inr (w20 hw)) (by decide) (t := (.object "com/example/caseweave/caseweave/core/IntList")) (t' := (.object "com/example/caseweave/caseweave/core/IntList")) (by decide) (by decide)))
  replace F_slots_a := F_slots_a.other W14 (Or.inr (slot_ne (Or.inl (w26 hw)) (Or.inr (w20 hw)) (by decide) (t := (.array .int)) (t' := (.object "com/example/caseweave/caseweave/core/IntList")) (by decide) (by decide)))
  replace F_stored_a := F_stored_a.other W14 (Or.inr (slot_ne (Or.inr (w30 hw)) (Or.inr (w20 hw)) (by decide) (t := (.array .int)) (t' := (.object "com/example/caseweave/caseweave/core/IntList")) (by decide) (by decide)))
  replace F_places_a := F_places_a.other W14 (Or.inr (slot_ne (Or.inr (w28 hw)) (Or.inr (w20 hw)) (by decide) (t := .int) (t' := (.object "com/example/caseweave/caseweave/core/IntList")) (by decide) (by decide)))
  replace IL_b12 := IL_b12.keep (Keep.of_wr W14) ⟨(ninS (Ne.symm ne_a_b12) nin0), (ninS (Ne.symm ne_a_c13) nin0)⟩
  replace Z0 := Nat.le_trans Z0 (Keep.of_wr W14).1
  replace K0 := K0.wr W14 (Or.inl (by simp))
  have N14 := Fr.snoc X14 N13 g_a
  refine Go.st (S' := T14.setTop (mkF m 15 #[.val (.ref a), .val (.int (3 : Int32))] [])) (st14) ?_
  refine Go.st (S' := T14.setTop (mkF m 16 #[.val (.ref a), .val (.int (3 : Int32))] [(.ref a)])) (fun _ k_ => XS.aloadN X14.here hx rfl (hb hby d1_15) rfl rfl k_) ?_
  obtain ⟨T15, h15, X15, e15, E15, A15, D15, -, st15⟩ := newO X14 hx hZ hown (w10 hw) (w11 hw) (w12 hw) e14 (g := (mkF m 16 #[.val (.ref a), .val (.int (3 : Int32))] [(.ref a)])) rfl (hb hby d1_16) (by decide) (by decide)
  obtain ⟨b15, q15⟩ : ∃ z, z = h14.size := ⟨_, rfl⟩
  rw [← q15] at A15 D15 st15
  have ne_a_b15 : a ≠ b15 := Nat.ne_of_lt (Nat.lt_of_lt_of_le E_a.lt (Nat.le_of_eq q15.symm))
  have ne_b12_b15 : b12 ≠ b15 := Nat.ne_of_lt (Nat.lt_of_lt_of_le IL_b12.lt (Nat.le_of_eq q15.symm))
  have ne_c13_b15 : c13 ≠ b15 := Nat.ne_of_lt (Nat.lt_of_lt_of_le IL_b12.ltb (Nat.le_of_eq q15.symm))
  have g_b15 : n0 ≤ b15 := Nat.le_trans Z0 (Nat.le_of_eq q15.symm)
  have sz_b15 : h0.size ≤ b15 := Nat.le_trans K0.1 (Nat.le_of_eq q15.symm)
  replace E_a := E_a.ext E15
  replace F_pairs_a := F_pairs_a.ext E15
  replace F_starts_a := F_starts_a.ext E15
  replace F_hashes_a := F_hashes_a.ext E15
  replace F_slots_a := F_slots_a.ext E15
  replace F_stored_a := F_stored_a.ext E15
  replace F_places_a := F_places_a.ext E15
  replace IL_b12 := IL_b12.ext E15
  replace Z0 := Nat.le_trans Z0 E15.1
  replace K0 := K0.ext E15
  have E_b15 := A15
  have F_values_b15 : Fld Z h15 b15 "com/example/caseweave/caseweave/core/IntList" "values" "[I" .null := D15 (Or.inl (w18 hw)) (ty := (.array .int)) (by decide)
  have F_size_b15 : Fld Z h15 b15 "com/example/caseweave/caseweave/core/IntList" "size" "I" (.int (0 : Int32)) := D15 (Or.inl (w37 hw)) (ty := .int) (by decide)
  refine Go.st (S' := T15.setTop (mkF m 19 #[.val (.ref a), .val (.int (3 : Int32))] [(.ref b15), (.ref a)])) (st15) ?_
  refine Go.st (S' := T15.setTop (mkF m 20 #[.val (.ref a), .val (.int (3 : Int32))] [(.ref b15), (.ref b15), (.ref a)])) (fun _ k_ => XS.dup X15.here hx rfl (hb hby d1_19) rfl rfl k_) ?_
  obtain ⟨v16, T16, h16, L16, X16, e16, hQ16, st16⟩ := callIn X15 hx hZ rfl hown (w13 hw) (w14 hw) (w12 hw) (w15 hw) (by decide) (W := 2) (argsL := []) (rest := [(.ref b15), (.ref a)]) e15 (il_init l Z a0 hw b15 h15 n0 Z0 E_b15 F_size_b15 F_values_b15 g_b15) (by decide) (by decide) pd3 rfl (g := (mkF m 20 #[.val (.ref a), .val (.int (3 : Int32))] [(.ref b15), (.ref b15), (.ref a)])) rfl (by rw [hml]; rfl) rfl (by show 2 * 0 + _ ≤ _; exact Nat.le_of_eq rfl) (hb hby d1_20) (by decide) (by decide)
  obtain ⟨rfl, Nq16, Kq16, c16, hb16, IL_b15⟩ := hQ16
  have N16 := Fr.app N14 Nq16
  have ne_a_c16 : a ≠ c16 := Nat.ne_of_lt (Nat.lt_of_lt_of_le E_a.lt hb16)
  have ne_b12_c16 : b12 ≠ c16 := Nat.ne_of_lt (Nat.lt_of_lt_of_le IL_b12.lt hb16)
  have ne_c13_c16 : c13 ≠ c16 := Nat.ne_of_lt (Nat.lt_of_lt_of_le IL_b12.ltb hb16)
  have ne_b15_c16 : b15 ≠ c16 := Nat.ne_of_lt (Nat.lt_of_lt_of_le E_b15.lt hb16)
  have g_c16 : n0 ≤ c16 := Nat.le_trans Z0 hb16
  have sz_c16 : h0.size ≤ c16 := Nat.le_trans K0.1 hb16
  replace E_a := E_a.keep Kq16
  replace F_pairs_a := F_pairs_a.keep Kq16 (ninS ne_a_b15 nin0)
  replace F_starts_a := F_starts_a.keep Kq16 (ninS ne_a_b15 nin0)
  replace F_hashes_a := F_hashes_a.keep Kq16 (ninS ne_a_b15 nin0)
  replace F_slots_a := F_slots_a.keep Kq16 (ninS ne_a_b15 nin0)
  replace F_stored_a := F_stored_a.keep Kq16 (ninS ne_a_b15 nin0)
  replace F_places_a := F_places_a.keep Kq16 (ninS ne_a_b15 nin0)
  replace IL_b12 := IL_b12.keep Kq16 ⟨(ninS ne_b12_b15 nin0), (ninS ne_c13_b15 nin0)⟩
  replace Z0 := Nat.le_trans Z0 Kq16.1
  replace K0 := K0.trans Kq16 (allS (Or.inr sz_b15) all0)
  refine Go.st (S' := T16.setTop (mkF m 23 #[.val (.ref a), .val (.int (3 : Int32))] [(.ref b15), (.ref a)])) (st16) ?_
  obtain ⟨T17, h17, X17, e17, W17, st17⟩ := putF X16 hx hZ hown (host := "") (Or.inl (w21 hw)) Via.refl e16 F_starts_a E_a (Or.inr ⟨(w22 hw), rfl, hnm⟩) (w2 hw) (ty := (.object "com/example/caseweave/caseweave/core/IntList")) (by decide) rfl rfl (g := (mkF m 23 #[.val (.ref a), .val (.int (3 : Int32))] [(.ref b15), (.ref a)])) rfl rfl (hb hby d1_23)
  replace F_starts_a := F_starts_a.same W17
  replace E_a := E_a.wr W17
  replace F_pairs_a := F_pairs_a.other W17 (Or.inr (slot_ne (Or.inr (w20 hw)) (Or.inr (w22 hw)) (by decide) (t := (.object "com/example/caseweave/caseweave/core/IntList")) (t' := (.object "com/example/caseweave/caseweave/core/IntList")) (by decide) (by decide)))
  replace F_hashes_a := F_hashes_a.other W17 (Or.inr (slot_ne (Or.inr (w24 hw)) (Or.inr (w22 hw)) (by decide) (t := (.object "com/example/caseweave/caseweave/core/IntList")) (t' := (.object "com/example/caseweave/caseweave/core/IntList")) (by decide) (by decide)))
  replace F_slots_a := F_slots_a.other W17 (Or.inr (slot_ne (Or.inl (w26 hw)) (Or.inr (w22 hw)) (by decide) (t := (.array .int)) (t' := (.object "com/example/caseweave/caseweave/core/IntList")) (by decide) (by decide)))
  replace F_stored_a := F_stored_a.other W17 (Or.inr (slot_ne (Or.inr (w30 hw)) (Or.inr (w22 hw)) (by decide) (t := (.array .int)) (t' := (.object "com/example/caseweave/caseweave/core/IntList")) (by decide) (by decide)))
  replace F_places_a := F_places_a.other W17 (Or.inr (slot_ne (Or.inr (w28 hw)) (Or.inr (w22 hw)) (by decide) (t := .int) (t' := (.object "com/example/caseweave/caseweave/core/IntList")) (by decide) (by decide)))
  replace IL_b12 := IL_b12.keep (Keep.of_wr W17) ⟨(ninS (Ne.symm ne_a_b12) nin0), (ninS (Ne.symm ne_a_c13) nin0)⟩
  replace IL_b15 := IL_b15.keep (Keep.of_wr W17) ⟨(ninS (Ne.symm ne_a_b15) nin0), (ninS (Ne.symm ne_a_c16) nin0)⟩
  replace Z0 := Nat.le_trans Z0 (Keep.of_wr W17).1
  replace K0 := K0.wr W17 (Or.inl (by simp))
  have N17 := Fr.snoc X17 N16 g_a
  refine Go.st (S' := T17.setTop (mkF m 26 #[.val (.ref a), .val (.int (3 : Int32))] [])) (st17) ?_
  refine Go.st (S' := T17.setTop (mkF m 27 #[.val (.ref a), .val (.int (3 : Int32))] [(.ref a)])) (fun _ k_ => XS.aloadN X17.here hx rfl (hb hby d1_26) rfl rfl k_) ?_
  obtain ⟨T18, h18, X18, e18, E18, A18, D18, -, st18⟩ := newO X17 hx hZ hown (w10 hw) (w11 hw) (w12 hw) e17 (g := (mkF m 27 #[.val (.ref a), .val (.int (3 : Int32))] [(.ref a)])) rfl (hb hby d1_27) (by decide) (by decide)
  obtain ⟨b18, q18⟩ : ∃ z, z = h17.size := ⟨_, rfl⟩
  rw [← q18] at A18 D18 st18
  have ne_a_b18 : a ≠ b18 := Nat.ne_of_lt (Nat.lt_of_lt_of_le E_a.lt (Nat.le_of_eq q18.symm))
  have ne_b12_b18 : b12 ≠ b18 := Nat.ne_of_lt (Nat.lt_of_lt_of_le IL_b12.lt (Nat.le_of_eq q18.symm))
  have ne_c13_b18 : c13 ≠ b18 := Nat.ne_of_lt (Nat.lt_of_lt_of_le IL_b12.ltb (Nat.le_of_eq q18.symm))
  have ne_b15_b18 : b15 ≠ b18 := Nat.ne_of_lt (Nat.lt_of_lt_of_le IL_b15.lt (Nat.le_of_eq q18.symm))
  have ne_c16_b18 : c16 ≠ b18 := Nat.ne_of_lt (Nat.lt_of_lt_of_le IL_b15.ltb (Nat.le_of_eq q18.symm))
  have g_b18 : n0 ≤ b18 := Nat.le_trans Z0 (Nat.le_of_eq q18.symm)
  have sz_b18 : h0.size ≤ b18 := Nat.le_trans K0.1 (Nat.le_of_eq q18.symm)
  replace E_a := E_a.ext E18
  replace F_pairs_a := F_pairs_a.ext E18
  replace F_starts_a := F_starts_a.ext E18
  replace F_hashes_a := F_hashes_a.ext E18
  replace F_slots_a := F_slots_a.ext E18
  replace F_stored_a := F_stored_a.ext E18
  replace F_places_a := F_places_a.ext E18
  replace IL_b12 := IL_b12.ext E18
  replace IL_b15 := IL_b15.ext E18
  replace Z0 := Nat.le_trans Z0 E18.1
  replace K0 := K0.ext E18
  have E_b18 := A18
  have F_values_b18 : Fld Z h18 b18 "com/example/caseweave/caseweave/core/IntList" "values" "[I" .null := D18 (Or.inl (w18 hw)) (ty := (.array .int)) (by decide)
  have F_size_b18 : Fld Z h18 b18 "com/example/caseweave/caseweave/core/IntList" "size" "I" (.int (0 : Int32)) := D18 (Or.inl (w37 hw)) (ty := .int) (by decide)
  refine Go.st (S' := T18.setTop (mkF m 30 #[.val (.ref a), .val (.int (3 : Int32))] [(.ref b18), (.ref a)])) (st18) ?_
  refine Go.st (S' := T18.setTop (mkF m 31 #[.val (.ref a), .val (.int (3 : Int32))] [(.ref b18), (.ref b18), (.ref a)])) (fun _ k_ => XS.dup X18.here hx rfl (hb hby d1_30) rfl rfl k_) ?_
  obtain ⟨v19, T19, h19, L19, X19, e19, hQ19, st19⟩ := callIn X18 hx hZ rfl hown (w13 hw) (w14 hw) (w12 hw) (w15 hw) (by decide) (W := 2) (argsL := []) (rest := [(.ref b18), (.ref a)]) e18 (il_init l Z a0 hw b18 h18 n0 Z0 E_b18 F_size_b18 F_values_b18 g_b18) (by decide) (by decide) pd3 rfl (g := (mkF m 31 #[.val (.ref a), .val (.int (3 : Int32))] [(.ref b18), (.ref b18), (.ref a)])) rfl (by rw [hml]; rfl) rfl (by show 2 * 0 + _ ≤ _; exact Nat.le_of_eq rfl) (hb hby d1_31) (by decide) (by decide)
  obtain ⟨rfl, Nq19, Kq19, c19, hb19, IL_b18⟩ := hQ19
  have N19 := Fr.app N17 Nq19
  have ne_a_c19 : a ≠ c19 := Nat.ne_of_lt (Nat.lt_of_lt_of_le E_a.lt hb19)
  have ne_b12_c19 : b12 ≠ c19 := Nat.ne_of_lt (Nat.lt_of_lt_of_le IL_b12.lt hb19)
  have ne_c13_c19 : c13 ≠ c19 := Nat.ne_of_lt (Nat.lt_of_lt_of_le IL_b12.ltb hb19)
  have ne_b15_c19 : b15 ≠ c19 := Nat.ne_of_lt (Nat.lt_of_lt_of_le IL_b15.lt hb19)
  have ne_c16_c19 : c16 ≠ c19 := Nat.ne_of_lt (Nat.lt_of_lt_of_le IL_b15.ltb hb19)
  have ne_b18_c19 : b18 ≠ c19 := Nat.ne_of_lt (Nat.lt_of_lt_of_le E_b18.lt hb19)
  have g_c19 : n0 ≤ c19 := Nat.le_trans Z0 hb19
  have sz_c19 : h0.size ≤ c19 := Nat.le_trans K0.1 hb19
  replace E_a := E_a.keep Kq19
  replace F_pairs_a := F_pairs_a.keep Kq19 (ninS ne_a_b18 nin0)
  replace F_starts_a := F_starts_a.keep Kq19 (ninS ne_a_b18 nin0)
  replace F_hashes_a := F_hashes_a.keep Kq19 (ninS ne_a_b18 nin0)
  replace F_slots_a := F_slots_a.keep Kq19 (ninS ne_a_b18 nin0)
  replace F_stored_a := F_stored_a.keep Kq19 (ninS ne_a_b18 nin0)
  replace F_places_a := F_places_a.keep Kq19 (ninS ne_a_b18 nin0)
  replace IL_b12 := IL_b12.keep Kq19 ⟨(ninS ne_b12_b18 nin0), (ninS ne_c13_b18 nin0)⟩
  replace IL_b15 := IL_b15.keep Kq19 ⟨(ninS ne_b15_b18 nin0), (ninS ne_c16_b18 nin0)⟩
  replace Z0 := Nat.le_trans Z0 Kq19.1
  replace K0 := K0.trans Kq19 (allS (Or.inr sz_b18) all0)
  refine Go.st (S' := T19.setTop (mkF m 34 #[.val (.ref a), .val (.int (3 : Int32))] [(.ref b18), (.ref a)])) (st19) ?_
  obtain ⟨T20, h20, X20, e20, W20, st20⟩ := putF X19 hx hZ hown (host := "") (Or.inl (w23 hw)) Via.refl e19 F_hashes_a E_a (Or.inr ⟨(w24 hw), rfl, hnm⟩) (w2 hw) (ty := (.object "com/example/caseweave/caseweave/core/IntList")) (by decide) rfl rfl (g := (mkF m 34 #[.val (.ref a), .val (.int (3 : Int32))] [(.ref b18), (.ref a)])) rfl rfl (hb hby d1_34)
  replace F_hashes_a := F_hashes_a.same W20
  replace E_a := E_a.wr W20
  replace F_pairs_a := F_pairs_a.other W20 (Or.inr (slot_ne (Or.inr (w20 hw)) (Or.inr (w24 hw)) (by decide) (t := (.object "com/example/caseweave/caseweave/core/IntList")) (t' := (.object "com/example/caseweave/caseweave/core/IntList")) (by decide) (by decide)))
  replace F_starts_a := F_starts_a.other W20 (Or.inr (slot_ne (Or.inr (w22 hw)) (Or.inr (w24 hw)) (by decide) (t := (.object "com/example/caseweave/caseweave/core/IntList")) (t' := (.object "com/example/caseweave/caseweave/core/IntList")) (by decide) (by decide)))
  replace F_slots_a := F_slots_a.other W20 (Or.inr (slot_ne (Or.inl (w26 hw)) (Or.inr (w24 hw)) (by decide) (t := (.array .int)) (t' := (.object "com/example/caseweave/caseweave/core/IntList")) (by decide) (by decide)))
  replace F_stored_a := F_stored_a.other W20 (Or.inr (slot_ne (Or.inr (w30 hw)) (Or.inr (w24 hw)) (by decide) (t := (.array .int)) (t' := (.object "com/example/caseweave/caseweave/core/IntList")) (by decide) (by decide)))
  replace F_places_a := F_places_a.other W20 (Or.inr (slot_ne (Or.inr (w28 hw)) (Or.inr (w24 hw)) (by decide) (t := .int) (t' := (.object "com/example/caseweave/caseweave/core/IntList")) (by decide) (by decide)))
  replace IL_b12 := IL_b12.keep (Keep.of_wr W20) ⟨(ninS (Ne.symm ne_a_b12) nin0), (ninS (Ne.symm ne_a_c13) nin0)⟩
  replace IL_b15 := IL_b15.keep (Keep.of_wr W20) ⟨(ninS (Ne.symm ne_a_b15) nin0), (ninS (Ne.symm ne_a_c16) nin0)⟩
  replace IL_b18 := IL_b18.keep (Keep.of_wr W20) ⟨(ninS (Ne.symm ne_a_b18) nin0), (ninS (Ne.symm ne_a_c19) nin0)⟩
  replace Z0 := Nat.le_trans Z0 (Keep.of_wr W20).1
  replace K0 := K0.wr W20 (Or.inl (by simp))
  have N20 := Fr.snoc X20 N19 g_a
  refine Go.st (S' := T20.setTop (mkF m 37 #[.val (.ref a), .val (.int (3 : Int32))] [])) (st20) ?_
  refine Go.st (S' := T20.setTop (mkF m 38 #[.val (.ref a), .val (.int (3 : Int32))] [(.ref a)])) (fun _ k_ => XS.aloadN X20.here hx rfl (hb hby d1_37) rfl rfl k_) ?_
  refine Go.st (S' := T20.setTop (mkF m 40 #[.val (.ref a), .val (.int (3 : Int32))] [(.int (16 : Int32)), (.ref a)])) (fun _ k_ => XS.bipush X20.here hx rfl (hb hby d1_38) k_) ?_
  obtain ⟨T21, h21, b21, X21, e21, q21, E21, A21, st21⟩ := Ai.new X20 hx hZ (aty := .int) (w0 hw) rfl e20 (n := (16 : Int32)) (by decide) 16 (by decide) (by decide) (by decide) (by decide) (g := (mkF m 40 #[.val (.ref a), .val (.int (3 : Int32))] [(.int (16 : Int32)), (.ref a)])) rfl rfl (hb hby d1_40)
  have ne_a_b21 : a ≠ b21 := Nat.ne_of_lt (Nat.lt_of_lt_of_le E_a.lt (Nat.le_of_eq q21.symm))
  have ne_b12_b21 : b12 ≠ b21 := Nat.ne_of_lt (Nat.lt_of_lt_of_le IL_b12.lt (Nat.le_of_eq q21.symm))
  have ne_c13_b21 : c13 ≠ b21 := Nat.ne_of_lt (Nat.lt_of_lt_of_le IL_b12.ltb (Nat.le_of_eq q21.symm))
  have ne_b15_b21 : b15 ≠ b21 := Nat.ne_of_lt (Nat.lt_of_lt_of_le IL_b15.lt (Nat.le_of_eq q21.symm))
  have ne_c16_b21 : c16 ≠ b21 := Nat.ne_of_lt (Nat.lt_of_lt_of_le IL_b15.ltb (Nat.le_of_eq q21.symm))
  have ne_b18_b21 : b18 ≠ b21 := Nat.ne_of_lt (Nat.lt_of_lt_of_le IL_b18.lt (Nat.le_of_eq q21.symm))
  have ne_c19_b21 : c19 ≠ b21 := Nat.ne_of_lt (Nat.lt_of_lt_of_le IL_b18.ltb (Nat.le_of_eq q21.symm))
  have g_b21 : n0 ≤ b21 := Nat.le_trans Z0 (Nat.le_of_eq q21.symm)
  have sz_b21 : h0.size ≤ b21 := Nat.le_trans K0.1 (Nat.le_of_eq q21.symm)
  replace E_a := E_a.ext E21
  replace F_pairs_a := F_pairs_a.ext E21
  replace F_starts_a := F_starts_a.ext E21
  replace F_hashes_a := F_hashes_a.ext E21
  replace F_slots_a := F_slots_a.ext E21
  replace F_stored_a := F_stored_a.ext E21
  replace F_places_a := F_places_a.ext E21
  replace IL_b12 := IL_b12.ext E21
  replace IL_b15 := IL_b15.ext E21
  replace IL_b18 := IL_b18.ext E21
  replace Z0 := Nat.le_trans Z0 E21.1
  replace K0 := K0.ext E21
  have A_b21 : Ai Z h21 b21 .int [(0 : Int32), (0 : Int32), (0 : Int32), (0 : Int32), (0 : Int32), (0 : Int32), (0 : Int32), (0 : Int32), (0 : Int32), (0 : Int32), (0 : Int32), (0 : Int32), (0 : Int32), (0 : Int32), (0 : Int32), (0 : Int32)] := A21
  refine Go.st (S' := T21.setTop (mkF m 42 #[.val (.ref a), .val (.int (3 : Int32))] [(.ref b21), (.ref a)])) (st21) ?_
  obtain ⟨T22, h22, X22, e22, W22, st22⟩ := putF X21 hx hZ hown (host := "") (Or.inl (w25 hw)) Via.refl e21 F_slots_a E_a (Or.inl (w26 hw)) (w2 hw) (ty := (.array .int)) (by decide) rfl rfl (g := (mkF m 42 #[.val (.ref a), .val (.int (3 : Int32))] [(.ref b21), (.ref a)])) rfl rfl (hb hby d1_42)
  replace F_slots_a := F_slots_a.same W22
  replace E_a := E_a.wr W22
  replace F_pairs_a := F_pairs_a.other W22 (Or.inr (slot_ne (Or.inr (w20 hw)) (Or.inl (w26 hw)) (by decide) (t := (.object "com/example/caseweave/caseweave/core/IntList")) (t' := (.array .int)) (by decide) (by decide)))
  replace F_starts_a := F_starts_a.other W22 (Or.inr (slot_ne (Or.inr (w22 hw)) (Or.inl (w26 hw)) (by decide) (t := (.object "com/example/caseweave/caseweave/core/IntList")) (t' := (.array .int)) (by decide) (by decide)))
  replace F_hashes_a := F_hashes_a.other W22 (Or.inr (slot_ne (Or.inr (w24 hw)) (Or.inl (w26 hw)) (by decide) (t := (.object "com/example/caseweave/caseweave/core/IntList")) (t' := (.array .int)) (by decide) (by decide)))
  replace F_stored_a := F_stored_a.other W22 (Or.inr (slot_ne (Or.inr (w30 hw)) (Or.inl (w26 hw)) (by decide) (t := (.array .int)) (t' := (.array .int)) (by decide) (by decide)))
  replace F_places_a := F_places_a.other W22 (Or.inr (slot_ne (Or.inr (w28 hw)) (Or.inl (w26 hw)) (by decide) (t := .int) (t' := (.array .int)) (by decide) (by decide)))
  replace IL_b12 := IL_b12.keep (Keep.of_wr W22) ⟨(ninS (Ne.symm ne_a_b12) nin0), (ninS (Ne.symm ne_a_c13) nin0)⟩
  replace IL_b15 := IL_b15.keep (Keep.of_wr W22) ⟨(ninS (Ne.symm ne_a_b15) nin0), (ninS (Ne.symm ne_a_c16) nin0)⟩
  replace IL_b18 := IL_b18.keep (Keep.of_wr W22) ⟨(ninS (Ne.symm ne_a_b18) nin0), (ninS (Ne.symm ne_a_c19) nin0)⟩
  replace A_b21 := A_b21.other W22 (Ne.symm ne_a_b21)
  replace Z0 := Nat.le_trans Z0 (Keep.of_wr W22).1
  replace K0 := K0.wr W22 (Or.inl (by simp))
  have N22 := Fr.snoc X22 N20 g_a
  refine Go.st (S' := T22.setTop (mkF m 45 #[.val (.ref a), .val (.int (3 : Int32))] [])) (st22) ?_
  refine Go.st (S' := T22.setTop (mkF m 46 #[.val (.ref a), .val (.int (3 : Int32))] [(.ref a)])) (fun _ k_ => XS.aloadN X22.here hx rfl (hb hby d1_45) rfl rfl k_) ?_
  refine Go.st (S' := T22.setTop (mkF m 47 #[.val (.ref a), .val (.int (3 : Int32))] [(.int (3 : Int32)), (.ref a)])) (fun _ k_ => XS.iloadN X22.here hx rfl (hb hby d1_46) rfl k_) ?_
  obtain ⟨T23, h23, X23, e23, W23, st23⟩ := putF X22 hx hZ hown (host := "") (Or.inl (w27 hw)) Via.refl e22 F_places_a E_a (Or.inr ⟨(w28 hw), rfl, hnm⟩) (w2 hw) (ty := .int) (by decide) rfl rfl (g := (mkF m 47 #[.val (.ref a), .val (.int (3 : Int32))] [(.int (3 : Int32)), (.ref a)])) rfl rfl (hb hby d1_47)
  replace F_places_a := F_places_a.same W23
  replace E_a := E_a.wr W23
  replace F_pairs_a := F_pairs_a.other W23 (Or.inr (slot_ne (Or.inr (w20 hw)) (Or.inr (w28 hw)) (by decide) (t := (.object "com/example/caseweave/caseweave/core/IntList")) (t' := .int) (by decide) (by decide)))
  replace F_starts_a := F_starts_a.other W23 (Or.inr (slot_ne (Or.inr (w22 hw)) (Or.inr (w28 hw)) (by decide) (t := (.object "com/example/caseweave/caseweave/core/IntList")) (t' := .int) (by decide) (by decide)))
  replace F_hashes_a := F_hashes_a.other W23 (Or.inr (slot_ne (Or.inr (w24 hw)) (Or.inr (w28 hw)) (by decide) (t := (.object "com/example/caseweave/caseweave/core/IntList")) (t' := .int) (by decide) (by decide)))
  replace F_slots_a := F_slots_a.other W23 (Or.inr (slot_ne (Or.inl (w26 hw)) (Or.inr (w28 hw)) (by decide) (t := (.array .int)) (t' := .int) (by decide) (by decide)))
  replace F_stored_a := F_stored_a.other W23 (Or.inr (slot_ne (Or.inr (w30 hw)) (Or.inr (w28 hw)) (by decide) (t := (.array .int)) (t' := .int) (by decide) (by decide)))
  replace IL_b12 := IL_b12.keep (Keep.of_wr W23) ⟨(ninS (Ne.symm ne_a_b12) nin0), (ninS (Ne.symm ne_a_c13) nin0)⟩
  replace IL_b15 := IL_b15.keep (Keep.of_wr W23) ⟨(ninS (Ne.symm ne_a_b15) nin0), (ninS (Ne.symm ne_a_c16) nin0)⟩
  replace IL_b18 := IL_b18.keep (Keep.of_wr W23) ⟨(ninS (Ne.symm ne_a_b18) nin0), (ninS (Ne.symm ne_a_c19) nin0)⟩
  replace A_b21 := A_b21.other W23 (Ne.symm ne_a_b21)
  replace Z0 := Nat.le_trans Z0 (Keep.of_wr W23).1
  replace K0 := K0.wr W23 (Or.inl (by simp))
  have N23 := Fr.snoc X23 N22 g_a
  refine Go.st (S' := T23.setTop (mkF m 50 #[.val (.ref a), .val (.int (3 : Int32))] [])) (st23) ?_
  refine Go.st (S' := T23.setTop (mkF m 51 #[.val (.ref a), .val (.int (3 : Int32))] [(.ref a)])) (fun _ k_ => XS.aloadN X23.here hx rfl (hb hby d1_50) rfl rfl k_) ?_
  refine Go.st (S' := T23.setTop (mkF m 52 #[.val (.ref a), .val (.int (3 : Int32))] [(.int (3 : Int32)), (.ref a)])) (fun _ k_ => XS.iloadN X23.here hx rfl (hb hby d1_51) rfl k_) ?_
  obtain ⟨T24, h24, b24, X24, e24, q24, E24, A24, st24⟩ := Ai.new X23 hx hZ (aty := .int) (w0 hw) rfl e23 (n := (3 : Int32)) (by decide) 3 (by decide) (by decide) (by decide) (by decide) (g := (mkF m 52 #[.val (.ref a), .val (.int (3 : Int32))] [(.int (3 : Int32)), (.ref a)])) rfl rfl (hb hby d1_52)
  have ne_a_b24 : a ≠ b24 := Nat.ne_of_lt (Nat.lt_of_lt_of_le E_a.lt (Nat.le_of_eq q24.symm))
  have ne_b12_b24 : b12 ≠ b24 := Nat.ne_of_lt (Nat.lt_of_lt_of_le IL_b12.lt (Nat.le_of_eq q24.symm))
  have ne_c13_b24 : c13 ≠ b24 := Nat.ne_of_lt (Nat.lt_of_lt_of_le IL_b12.ltb (Nat.le_of_eq q24.symm))
  have ne_b15_b24 : b15 ≠ b24 := Nat.ne_of_lt (Nat.lt_of_lt_of_le IL_b15.lt (Nat.le_of_eq q24.symm))
  have ne_c16_b24 : c16 ≠ b24 := Nat.ne_of_lt (Nat.lt_of_lt_of_le IL_b15.ltb (Nat.le_of_eq q24.symm))
  have ne_b18_b24 : b18 ≠ b24 := Nat.ne_of_lt (Nat.lt_of_lt_of_le IL_b18.lt (Nat.le_of_eq q24.symm))
  have ne_c19_b24 : c19 ≠ b24 := Nat.ne_of_lt (Nat.lt_of_lt_of_le IL_b18.ltb (Nat.le_of_eq q24.symm))
  have ne_b21_b24 : b21 ≠ b24 := Nat.ne_of_lt (Nat.lt_of_lt_of_le A_b21.lt (Nat.le_of_eq q24.symm))
  have g_b24 : n0 ≤ b24 := Nat.le_trans Z0 (Nat.le_of_eq q24.symm)
  have sz_b24 : h0.size ≤ b24 := Nat.le_trans K0.1 (Nat.le_of_eq q24.symm)
  replace E_a := E_a.ext E24
  replace F_pairs_a := F_pairs_a.ext E24
  replace F_starts_a := F_starts_a.ext E24
  replace F_hashes_a := F_hashes_a.ext E24
  replace F_slots_a := F_slots_a.ext E24
  replace F_stored_a := F_stored_a.ext E24
  replace F_places_a := F_places_a.ext E24
  replace IL_b12 := IL_b12.ext E24
  replace IL_b15 := IL_b15.ext E24
  replace IL_b18 := IL_b18.ext E24
  replace A_b21 := A_b21.ext E24
  replace Z0 := Nat.le_trans Z0 E24.1
  replace K0 := K0.ext E24
  have A_b24 : Ai Z h24 b24 .int [(0 : Int32), (0 : Int32), (0 : Int32)] := A24
  refine Go.st (S' := T24.setTop (mkF m 54 #[.val (.ref a), .val (.int (3 : Int32))] [(.ref b24), (.ref a)])) (st24) ?_
  obtain ⟨T25, h25, X25, e25, W25, st25⟩ := putF X24 hx hZ hown (host := "") (Or.inl (w29 hw)) Via.refl e24 F_stored_a E_a (Or.inr ⟨(w30 hw), rfl, hnm⟩) (w2 hw) (ty := (.array .int)) (by decide) rfl rfl (g := (mkF m 54 #[.val (.ref a), .val (.int (3 : Int32))] [(.ref b24), (.ref a)])) rfl rfl (hb hby d1_54)
  replace F_stored_a := F_stored_a.same W25
  replace E_a := E_a.wr W25
  replace F_pairs_a := F_pairs_a.other W25 (Or.inr (slot_ne (Or.inr (w20 hw)) (Or.inr (w30 hw)) (by decide) (t := (.object "com/example/caseweave/caseweave/core/IntList")) (t' := (.array .int)) (by decide) (by decide)))
  replace F_starts_a := F_starts_a.other W25 (Or.inr (slot_ne (Or.inr (w22 hw)) (Or.inr (w30 hw)) (by decide) (t := (.object "com/example/caseweave/caseweave/core/IntList")) (t' := (.array .int)) (by decide) (by decide)))
  replace F_hashes_a := F_hashes_a.other W25 (Or.inr (slot_ne (Or.inr (w24 hw)) (Or.inr (w30 hw)) (by decide) (t := (.object "com/example/caseweave/caseweave/core/IntList")) (t' := (.array .int)) (by decide) (by decide)))
  replace F_slots_a := F_slots_a.other W25 (Or.inr (slot_ne (Or.inl (w26 hw)) (Or.inr (w30 hw)) (by decide) (t := (.array .int)) (t' := (.array .int)) (by decide) (by decide)))
  replace F_places_a := F_places_a.other W25 (Or.inr (slot_ne (Or.inr (w28 hw)) (Or.inr (w30 hw)) (by decide) (t := .int) (t' := (.array .int)) (by decide) (by decide)))
  replace IL_b12 := IL_b12.keep (Keep.of_wr W25) ⟨(ninS (Ne.symm ne_a_b12) nin0), (ninS (Ne.symm ne_a_c13) nin0)⟩
  replace IL_b15 := IL_b15.keep (Keep.of_wr W25) ⟨(ninS (Ne.symm ne_a_b15) nin0), (ninS (Ne.symm ne_a_c16) nin0)⟩
  replace IL_b18 := IL_b18.keep (Keep.of_wr W25) ⟨(ninS (Ne.symm ne_a_b18) nin0), (ninS (Ne.symm ne_a_c19) nin0)⟩
  replace A_b21 := A_b21.other W25 (Ne.symm ne_a_b21)
  replace A_b24 := A_b24.other W25 (Ne.symm ne_a_b24)
  replace Z0 := Nat.le_trans Z0 (Keep.of_wr W25).1
  replace K0 := K0.wr W25 (Or.inl (by simp))
  have N25 := Fr.snoc X25 N23 g_a
  refine Go.st (S' := T25.setTop (mkF m 57 #[.val (.ref a), .val (.int (3 : Int32))] [])) (st25) ?_
  refine Go.st (S' := T25.setTop (mkF m 58 #[.val (.ref a), .val (.int (3 : Int32))] [(.ref a)])) (fun _ k_ => XS.aloadN X25.here hx rfl (hb hby d1_57) rfl rfl k_) ?_
  obtain ⟨T26, X26, e26, st26⟩ := getF X25 hx hZ hown (host := "") (Or.inl (w21 hw)) Via.refl e25 F_starts_a (g := (mkF m 58 #[.val (.ref a), .val (.int (3 : Int32))] [(.ref a)])) rfl rfl (hb hby d1_58)
  refine Go.st (S' := T26.setTop (mkF m 61 #[.val (.ref a), .val (.int (3 : Int32))] [(.ref b15)])) (st26) ?_
  refine Go.st (S' := T26.setTop (mkF m 62 #[.val (.ref a), .val (.int (3 : Int32))] [(.int (0 : Int32)), (.ref b15)])) (fun _ k_ => XS.iconst X26.here hx rfl (hb hby d1_61) k_) ?_
  obtain ⟨v27, T27, h27, L27, X27, e27, hQ27, st27⟩ := callVi X26 hx hZ hown (w31 hw) (w32 hw) (w34 hw) (w33 hw) (w12 hw) (w35 hw) (by decide) (W := 0) (argsL := [(.int (0 : Int32))]) (rest := []) e26 IL_b15.1 (il_add l Z a0 hw b15 c16 (0 : Int32) [] h25 n0 Z0 IL_b15 (by first | decide | (simp; omega) | omega) g_b15 g_c16 ne_b15_c16) (by decide) (by decide) pd4 rfl (g := (mkF m 62 #[.val (.ref a), .val (.int (3 : Int32))] [(.int (0 : Int32)), (.ref b15)])) rfl (by rw [hml]; rfl) rfl (by show 2 * 0 + _ ≤ _; exact Nat.le_of_eq rfl) (hb hby d1_62) (by decide) (by decide)
  obtain ⟨rfl, Nq27, Kq27, IL_b15⟩ := hQ27
  have N27 := Fr.app N25 Nq27
  replace E_a := E_a.keep Kq27
  replace F_pairs_a := F_pairs_a.keep Kq27 (ninS ne_a_b15 (ninS ne_a_c16 nin0))
  replace F_starts_a := F_starts_a.keep Kq27 (ninS ne_a_b15 (ninS ne_a_c16 nin0))
  replace F_hashes_a := F_hashes_a.keep Kq27 (ninS ne_a_b15 (ninS ne_a_c16 nin0))
  replace F_slots_a := F_slots_a.keep Kq27 (ninS ne_a_b15 (ninS ne_a_c16 nin0))
  replace F_stored_a := F_stored_a.keep Kq27 (ninS ne_a_b15 (ninS ne_a_c16 nin0))
  replace F_places_a := F_places_a.keep Kq27 (ninS ne_a_b15 (ninS ne_a_c16 nin0))
  replace IL_b12 := IL_b12.keep Kq27 ⟨(ninS ne_b12_b15 (ninS ne_b12_c16 nin0)), (ninS ne_c13_b15 (ninS ne_c13_c16 nin0))⟩
  replace IL_b18 := IL_b18.keep Kq27 ⟨(ninS (Ne.symm ne_b15_b18) (ninS (Ne.symm ne_c16_b18) nin0)), (ninS (Ne.symm ne_b15_c19) (ninS (Ne.symm ne_c16_c19) nin0))⟩
  replace A_b21 := A_b21.keep Kq27 (ninS (Ne.symm ne_b15_b21) (ninS (Ne.symm ne_c16_b21) nin0))
  replace A_b24 := A_b24.keep Kq27 (ninS (Ne.symm ne_b15_b24) (ninS (Ne.symm ne_c16_b24) nin0))
  replace Z0 := Nat.le_trans Z0 Kq27.1
  replace K0 := K0.trans Kq27 (allS (Or.inr sz_b15) (allS (Or.inr sz_c16) all0))
  refine Go.st (S' := T27.setTop (mkF m 65 #[.val (.ref a), .val (.int (3 : Int32))] [])) (st27) ?_
  exact Go.retV X27 hx hret hlk (hb hby d1_65) (by decide) (by decide) (by rw [e27]; exact ⟨rfl, N27, K0, b12, c13, b15, c16, b18, c19, b21, ⟨ne_a_b12, ne_a_c13, ne_a_b15, ne_a_c16, ne_a_b18, ne_a_c19, ne_a_b21, ne_b12_c13, ne_b12_b15, ne_b12_c16, ne_b12_b18, ne_b12_c19, ne_b12_b21, ne_c13_b15, ne_c13_c16, ne_c13_b18, ne_c13_c19, ne_c13_b21, ne_b15_c16, ne_b15_b18, ne_b15_c19, ne_b15_b21, ne_c16_b18, ne_c16_c19, ne_c16_b21, ne_b18_c19, ne_b18_b21, ne_c19_b21, g_a, g_b12, g_c13, g_b15, g_c16, g_b18, g_c19, g_b21⟩, ⟨sz_b12, sz_c13, sz_b15, sz_c16, sz_b18, sz_c19, sz_b21⟩, E_a, F_pairs_a, F_starts_a, F_hashes_a, F_slots_a, F_places_a, IL_b12, IL_b15, IL_b18, A_b21⟩)
theorem ef_mt_size (m : MethodId) (x0 : Addr) : entryFrame m #[(.ref x0)] 1 = mkF m 0 #[.val (.ref x0)] [] := by first | (simp [entryFrame, mkF, argsToLocals, Value.category]; done) | rfl
set_option maxRecDepth 65536 in
set_option maxHeartbeats 40000000 in
theorem mt_size (l : Launch) (Z : State) (a0 : Array Value) (hw : ∀ d ∈ tables_1, d.before a0 Z = true) (a pr prb ss ssb hs hsb sl : Addr) (P S H1 zs : List Int32) (h0 : Heap) (n0 : Nat) (Z0 : n0 ≤ h0.size) (H : MT Z h0 a pr prb ss ssb hs hsb sl P S H1 zs) (hd : own_dis n0 a pr prb ss ssb hs hsb sl) :
    Con l Z (⟨"com/example/caseweave/caseweave/core/MarkingTable", "size", "()I"⟩ : MethodName) prog_9_method_2_code 1 (some .int) [] ({ frames := 1, cells := 0, slots := 0, locals := 15 } : Room) #[(.ref a)] h0 (fun v h L => v = some (.int H1.length.toInt32) ∧ Fr n0 L ∧ h = h0) := by
  refine Con.mk (plainFor_of_name pn3) ?_
  intro p e s m below meth c T0 hx hby hml hown hnm hret hlk hZ X0 e0
  have hown : s.vm.findClass "com/example/caseweave/caseweave/core/MarkingTable" = some m.cls := hown
  have hnm : meth.name = "size" := hnm
  have N0 := Fr.nil n0
  refine Go.cast (ef_mt_size m a) ?_
  obtain ⟨E_a, F_pairs_a, F_starts_a, F_hashes_a, F_slots_a, F_places_a, IL_pr, IL_ss, IL_hs, A_sl⟩ := H
  obtain ⟨ne_a_pr, ne_a_prb, ne_a_ss, ne_a_ssb, ne_a_hs, ne_a_hsb, ne_a_sl, ne_pr_prb, ne_pr_ss, ne_pr_ssb, ne_pr_hs, ne_pr_hsb, ne_pr_sl, ne_prb_ss, ne_prb_ssb, ne_prb_hs, ne_prb_hsb, ne_prb_sl, ne_ss_ssb, ne_ss_hs, ne_ss_hsb, ne_ss_sl, ne_ssb_hs, ne_ssb_hsb, ne_ssb_sl, ne_hs_hsb, ne_hs_sl, ne_hsb_sl, g_a, g_pr, g_prb, g_ss, g_ssb, g_hs, g_hsb, g_sl⟩ := hd
  refine Go.st (S' := T0.setTop (mkF m 1 #[.val (.ref a)] [(.ref a)])) (fun _ k_ => XS.aloadN X0.here hx rfl (hb hby d6_0) rfl rfl k_) ?_
  obtain ⟨T11, X11, e11, st11⟩ := getF X0 hx hZ hown (host := "") (Or.inl (w23 hw)) Via.refl e0 F_hashes_a (g := (mkF m 1 #[.val (.ref a)] [(.ref a)])) rfl rfl (hb hby d6_1)
  refine Go.st (S' := T11.setTop (mkF m 4 #[.val (.ref a)] [(.ref hs)])) (st11) ?_
  obtain ⟨v12, T12, h12, L12, X12, e12, hQ12, st12⟩ := callVi X11 hx hZ hown (w48 hw) (w49 hw) (w51 hw) (w50 hw) (w12 hw) (w52 hw) (by decide) (W := 0) (argsL := []) (rest := []) e11 IL_hs.1 (il_size l Z a0 hw hs hsb H1 h0 n0 Z0 IL_hs) (by decide) (by decide) pd5 rfl (g := (mkF m 4 #[.val (.ref a)] [(.ref hs)])) rfl (by rw [hml]; rfl) rfl (by show 2 * 0 + _ ≤ _; exact Nat.le_of_eq rfl) (hb hby d6_4) (by decide) (by decide)
  obtain ⟨rfl, Nq12, hh12⟩ := hQ12
  rw [hh12] at e12
  have N12 := Fr.app N0 Nq12
  refine Go.st (S' := T12.setTop (mkF m 7 #[.val (.ref a)] [(.int H1.length.toInt32)])) (st12) ?_
  exact Go.retI X12 hx hret hlk (hb hby d6_7) (by decide) (by decide) (by rw [e12]; exact ⟨rfl, N12, rfl⟩)
theorem ef_mt_insert (m : MethodId) (x0 : Addr) (x1 : Int32) : entryFrame m #[(.ref x0), (.int x1)] 3 = mkF m 0 #[.val (.ref x0), .val (.int x1), .unset] [] := by first | (simp [entryFrame, mkF, argsToLocals, Value.category]; done) | rfl
set_option maxRecDepth 65536 in
set_option maxHeartbeats 40000000 in
theorem mt_insert (l : Launch) (Z : State) (a0 : Array Value) (hw : ∀ d ∈ tables_1, d.before a0 Z = true) (a pr prb ss ssb hs hsb sl : Addr) (P S H1 zs : List Int32) (k : Nat) (hv : Int32) (h0 : Heap) (n0 : Nat) (Z0 : n0 ≤ h0.size) (H : MT Z h0 a pr prb ss ssb hs hsb sl P S H1 zs) (hd : own_dis n0 a pr prb ss ssb hs hsb sl) (hk : k < 16) (hh : H1[k]? = some hv) (hz : own_one zs) :
    Con l Z (⟨"com/example/caseweave/caseweave/core/MarkingTable", "insert", "(I)V"⟩ : MethodName) prog_9_method_8_code 3 none [] ({ frames := 1, cells := 0, slots := 0, locals := 20 } : Room) #[(.ref a), (.int k.toInt32)] h0 (fun v h L => v = none ∧ Fr n0 L ∧ Keep h0 h [sl] ∧ ∃ zt, ((∀ i, zs.getD i 0 = 0) → own_one zt) ∧ zt.length = 16 ∧ MT Z h a pr prb ss ssb hs hsb sl P S H1 zt) := by
  refine Con.mk (plainFor_of_name pn3) ?_
  intro p e s m below meth c T0 hx hby hml hown hnm hret hlk hZ X0 e0
  have hown : s.vm.findClass "com/example/caseweave/caseweave/core/MarkingTable" = some m.cls := hown
  have hnm : meth.name = "insert" := hnm
  have N0 := Fr.nil n0
  have K0 := Keep.refl h0 [sl]
  refine Go.cast (ef_mt_insert m a k.toInt32) ?_
  obtain ⟨E_a, F_pairs_a, F_starts_a, F_hashes_a, F_slots_a, F_places_a, IL_pr, IL_ss, IL_hs, A_sl⟩ := H
  obtain ⟨ne_a_pr, ne_a_prb, ne_a_ss, ne_a_ssb, ne_a_hs, ne_a_hsb, ne_a_sl, ne_pr_prb, ne_pr_ss, ne_pr_ssb, ne_pr_hs, ne_pr_hsb, ne_pr_sl, ne_prb_ss, ne_prb_ssb, ne_prb_hs, ne_prb_hsb, ne_prb_sl, ne_ss_ssb, ne_ss_hs, ne_ss_hsb, ne_ss_sl, ne_ssb_hs, ne_ssb_hsb, ne_ssb_sl, ne_hs_hsb, ne_hs_sl, ne_hsb_sl, g_a, g_pr, g_prb, g_ss, g_ssb, g_hs, g_hsb, g_sl⟩ := hd
  refine Go.st (S' := T0.setTop (mkF m 1 #[.val (.ref a), .val (.int k.toInt32), .unset] [(.ref a)])) (fun _ k_ => XS.aloadN X0.here hx rfl (hb hby d12_0) rfl rfl k_) ?_
  obtain ⟨T11, X11, e11, st11⟩ := getF X0 hx hZ hown (host := "") (Or.inl (w23 hw)) Via.refl e0 F_hashes_a (g := (mkF m 1 #[.val (.ref a), .val (.int k.toInt32), .unset] [(.ref a)])) rfl rfl (hb hby d12_1)
  refine Go.st (S' := T11.setTop (mkF m 4 #[.val (.ref a), .val (.int k.toInt32), .unset] [(.ref hs)])) (st11) ?_
  refine Go.st (S' := T11.setTop (mkF m 5 #[.val (.ref a), .val (.int k.toInt32), .unset] [(.int k.toInt32), (.ref hs)])) (fun _ k_ => XS.iloadN X11.here hx rfl (hb hby d12_4) rfl k_) ?_
  obtain ⟨v12, T12, h12, L12, X12, e12, hQ12, st12⟩ := callVi X11 hx hZ hown (w75 hw) (w76 hw) (w78 hw) (w77 hw) (w12 hw) (w79 hw) (by decide) (W := 0) (argsL := [(.int k.toInt32)]) (rest := []) e11 IL_hs.1 (il_get l Z a0 hw hs hsb k.toInt32 hv H1 h0 n0 Z0 IL_hs (own_tpos (by omega)) (by rw [own_tn (by omega)]; exact hh)) (by decide) (by decide) pd6 rfl (g := (mkF m 5 #[.val (.ref a), .val (.int k.toInt32), .unset] [(.int k.toInt32), (.ref hs)])) rfl (by rw [hml]; rfl) rfl (by show 2 * 0 + _ ≤ _; exact Nat.le_of_eq rfl) (hb hby d12_5) (by decide) (by decide)
  obtain ⟨rfl, Nq12, hh12⟩ := hQ12
  rw [hh12] at e12
  have N12 := Fr.app N0 Nq12
  refine Go.st (S' := T12.setTop (mkF m 8 #[.val (.ref a), .val (.int k.toInt32), .unset] [(.int hv)])) (st12) ?_
  refine Go.st (S' := T12.setTop (mkF m 9 #[.val (.ref a), .val (.int k.toInt32), .unset] [(.ref a), (.int hv)])) (fun _ k_ => XS.aloadN X12.here hx rfl (hb hby d12_8) rfl rfl k_) ?_
  obtain ⟨T13, X13, e13, st13⟩ := getF X12 hx hZ hown (host := "") (Or.inl (w25 hw)) Via.refl e12 F_slots_a (g := (mkF m 9 #[.val (.ref a), .val (.int k.toInt32), .unset] [(.ref a), (.int hv)])) rfl rfl (hb hby d12_9)
  refine Go.st (S' := T13.setTop (mkF m 12 #[.val (.ref a), .val (.int k.toInt32), .unset] [(.ref sl), (.int hv)])) (st13) ?_
  refine Go.st (S' := T13.setTop (mkF m 13 #[.val (.ref a), .val (.int k.toInt32), .unset] [(.int (16 : Int32)), (.int hv)])) (A_sl.length X13 hx hZ e13 (n := (16 : Int32)) (by rw [hz.1]; rfl) (g := (mkF m 12 #[.val (.ref a), .val (.int k.toInt32), .unset] [(.ref sl), (.int hv)])) rfl rfl (hb hby d12_12)) ?_
  refine Go.st (S' := T13.setTop (mkF m 14 #[.val (.ref a), .val (.int k.toInt32), .unset] [(.int (1 : Int32)), (.int (16 : Int32)), (.int hv)])) (fun _ k_ => XS.iconst X13.here hx rfl (hb hby d12_13) k_) ?_
  refine Go.st (S' := T13.setTop (mkF m 15 #[.val (.ref a), .val (.int k.toInt32), .unset] [(.int ((16 : Int32) - (1 : Int32))), (.int hv)])) (fun _ k_ => XS.isub X13.here hx rfl (hb hby d12_14) rfl k_) ?_
  rw [show ((16 : Int32) - (1 : Int32)) = (15 : Int32) from (by decide)]
  refine Go.st (S' := T13.setTop (mkF m 16 #[.val (.ref a), .val (.int k.toInt32), .unset] [(.int (hv &&& (15 : Int32)))])) (fun _ k_ => XS.iand X13.here hx rfl (hb hby d12_15) rfl k_) ?_
  have r0 := c_and hv 15 (by decide)
  rw [show (15 : Int32).toInt = 15 from rfl] at r0
  obtain ⟨s0, q_s0⟩ : ∃ z : Int32, z = (hv &&& (15 : Int32)) := ⟨_, rfl⟩
  rw [← q_s0]
  rw [← q_s0] at r0
  have n0s : s0.toNatClampNeg < 16 := own_nat r0.1 (by omega)
  refine Go.st (S' := T13.setTop (mkF m 17 #[.val (.ref a), .val (.int k.toInt32), .val (.int s0)] [])) (fun _ k_ => XS.istoreN X13.here hx rfl (hb hby d12_16) rfl (l' := #[.val (.ref a), .val (.int k.toInt32), .val (.int s0)]) rfl k_) ?_
  refine Go.st (S' := T13.setTop (mkF m 18 #[.val (.ref a), .val (.int k.toInt32), .val (.int s0)] [(.ref a)])) (fun _ k_ => XS.aloadN X13.here hx rfl (hb hby d12_17) rfl rfl k_) ?_
  obtain ⟨T14, X14, e14, st14⟩ := getF X13 hx hZ hown (host := "") (Or.inl (w25 hw)) Via.refl e13 F_slots_a (g := (mkF m 18 #[.val (.ref a), .val (.int k.toInt32), .val (.int s0)] [(.ref a)])) rfl rfl (hb hby d12_18)
  refine Go.st (S' := T14.setTop (mkF m 21 #[.val (.ref a), .val (.int k.toInt32), .val (.int s0)] [(.ref sl)])) (st14) ?_
  refine Go.st (S' := T14.setTop (mkF m 22 #[.val (.ref a), .val (.int k.toInt32), .val (.int s0)] [(.int s0), (.ref sl)])) (fun _ k_ => XS.iloadN X14.here hx rfl (hb hby d12_21) rfl k_) ?_
  refine Go.st (S' := T14.setTop (mkF m 23 #[.val (.ref a), .val (.int k.toInt32), .val (.int s0)] [(.int (zs.getD s0.toNatClampNeg 0))])) (A_sl.load X14 hx hZ e14 (j := s0) (v := (zs.getD s0.toNatClampNeg 0)) (own_nn r0.1) (own_gd0 (by rw [hz.1]; exact n0s)) (g := (mkF m 22 #[.val (.ref a), .val (.int k.toInt32), .val (.int s0)] [(.int s0), (.ref sl)])) rfl rfl (hb hby d12_22)) ?_
  by_cases hc23 : (zs.getD s0.toNatClampNeg 0) = (0 : Int32)
  · skip
    refine Go.st (S' := T14.setTop (mkF m 41 #[.val (.ref a), .val (.int k.toInt32), .val (.int s0)] [])) (fun _ k_ => XS.ifYes X14.here hx rfl (pc0 := 23) (pc' := 41) rfl (hb hby d12_23) rfl ((if0 _ _).trans (teq hc23).1) (by decide) (by decide) k_) ?_
    refine Go.st (S' := T14.setTop (mkF m 42 #[.val (.ref a), .val (.int k.toInt32), .val (.int s0)] [(.ref a)])) (fun _ k_ => XS.aloadN X14.here hx rfl (hb hby d12_41) rfl rfl k_) ?_
    obtain ⟨T15, X15, e15, st15⟩ := getF X14 hx hZ hown (host := "") (Or.inl (w25 hw)) Via.refl e14 F_slots_a (g := (mkF m 42 #[.val (.ref a), .val (.int k.toInt32), .val (.int s0)] [(.ref a)])) rfl rfl (hb hby d12_42)
    refine Go.st (S' := T15.setTop (mkF m 45 #[.val (.ref a), .val (.int k.toInt32), .val (.int s0)] [(.ref sl)])) (st15) ?_
    refine Go.st (S' := T15.setTop (mkF m 46 #[.val (.ref a), .val (.int k.toInt32), .val (.int s0)] [(.int s0), (.ref sl)])) (fun _ k_ => XS.iloadN X15.here hx rfl (hb hby d12_45) rfl k_) ?_
    refine Go.st (S' := T15.setTop (mkF m 47 #[.val (.ref a), .val (.int k.toInt32), .val (.int s0)] [(.int k.toInt32), (.int s0), (.ref sl)])) (fun _ k_ => XS.iloadN X15.here hx rfl (hb hby d12_46) rfl k_) ?_
    refine Go.st (S' := T15.setTop (mkF m 48 #[.val (.ref a), .val (.int k.toInt32), .val (.int s0)] [(.int (1 : Int32)), (.int k.toInt32), (.int s0), (.ref sl)])) (fun _ k_ => XS.iconst X15.here hx rfl (hb hby d12_47) k_) ?_
    refine Go.st (S' := T15.setTop (mkF m 49 #[.val (.ref a), .val (.int k.toInt32), .val (.int s0)] [(.int (k.toInt32 + (1 : Int32))), (.int s0), (.ref sl)])) (fun _ k_ => XS.iadd X15.here hx rfl (hb hby d12_48) rfl k_) ?_
    obtain ⟨T16, h16, X16, e16, W16, A16, st16⟩ := A_sl.store X15 hx hZ e15 (j := s0) (own_nn r0.1) (by rw [hz.1]; exact n0s) (g := (mkF m 49 #[.val (.ref a), .val (.int k.toInt32), .val (.int s0)] [(.int (k.toInt32 + (1 : Int32))), (.int s0), (.ref sl)])) rfl rfl (hb hby d12_49)
    replace A_sl : Ai Z h16 sl .int (zs.set s0.toNatClampNeg (k.toInt32 + (1 : Int32))) := A16
    replace E_a := E_a.wr W16
    replace F_pairs_a := F_pairs_a.other W16 (Or.inl ne_a_sl)
    replace F_starts_a := F_starts_a.other W16 (Or.inl ne_a_sl)
    replace F_hashes_a := F_hashes_a.other W16 (Or.inl ne_a_sl)
    replace F_slots_a := F_slots_a.other W16 (Or.inl ne_a_sl)
    replace F_places_a := F_places_a.other W16 (Or.inl ne_a_sl)
    replace IL_pr := IL_pr.keep (Keep.of_wr W16) ⟨(ninS ne_pr_sl nin0), (ninS ne_prb_sl nin0)⟩
    replace IL_ss := IL_ss.keep (Keep.of_wr W16) ⟨(ninS ne_ss_sl nin0), (ninS ne_ssb_sl nin0)⟩
    replace IL_hs := IL_hs.keep (Keep.of_wr W16) ⟨(ninS ne_hs_sl nin0), (ninS ne_hsb_sl nin0)⟩
    replace Z0 := Nat.le_trans Z0 (Keep.of_wr W16).1
    replace K0 := K0.wr W16 (Or.inl (by simp))
    have N16 := Fr.snoc X16 N12 g_sl
    refine Go.st (S' := T16.setTop (mkF m 50 #[.val (.ref a), .val (.int k.toInt32), .val (.int s0)] [])) (st16) ?_
    exact Go.retV X16 hx hret hlk (hb hby d12_50) (by decide) (by decide) (by rw [e16]; exact ⟨rfl, N16, K0, _, own_one.set hz.1, by rw [List.length_set]; exact hz.1, ⟨E_a, F_pairs_a, F_starts_a, F_hashes_a, F_slots_a, F_places_a, IL_pr, IL_ss, IL_hs, A_sl⟩⟩)
  · skip
    refine Go.st (S' := T14.setTop (mkF m 26 #[.val (.ref a), .val (.int k.toInt32), .val (.int s0)] [])) (fun _ k_ => XS.ifNo X14.here hx rfl (hb hby d12_23) rfl ((if0 _ _).trans (feq hc23).1) k_) ?_
    refine Go.st (S' := T14.setTop (mkF m 27 #[.val (.ref a), .val (.int k.toInt32), .val (.int s0)] [(.int s0)])) (fun _ k_ => XS.iloadN X14.here hx rfl (hb hby d12_26) rfl k_) ?_
    refine Go.st (S' := T14.setTop (mkF m 28 #[.val (.ref a), .val (.int k.toInt32), .val (.int s0)] [(.int (1 : Int32)), (.int s0)])) (fun _ k_ => XS.iconst X14.here hx rfl (hb hby d12_27) k_) ?_
    refine Go.st (S' := T14.setTop (mkF m 29 #[.val (.ref a), .val (.int k.toInt32), .val (.int s0)] [(.int (s0 + (1 : Int32)))])) (fun _ k_ => XS.iadd X14.here hx rfl (hb hby d12_28) rfl k_) ?_
    refine Go.st (S' := T14.setTop (mkF m 30 #[.val (.ref a), .val (.int k.toInt32), .val (.int s0)] [(.ref a), (.int (s0 + (1 : Int32)))])) (fun _ k_ => XS.aloadN X14.here hx rfl (hb hby d12_29) rfl rfl k_) ?_
    obtain ⟨T17, X17, e17, st17⟩ := getF X14 hx hZ hown (host := "") (Or.inl (w25 hw)) Via.refl e14 F_slots_a (g := (mkF m 30 #[.val (.ref a), .val (.int k.toInt32), .val (.int s0)] [(.ref a), (.int (s0 + (1 : Int32)))])) rfl rfl (hb hby d12_30)
    refine Go.st (S' := T17.setTop (mkF m 33 #[.val (.ref a), .val (.int k.toInt32), .val (.int s0)] [(.ref sl), (.int (s0 + (1 : Int32)))])) (st17) ?_
    refine Go.st (S' := T17.setTop (mkF m 34 #[.val (.ref a), .val (.int k.toInt32), .val (.int s0)] [(.int (16 : Int32)), (.int (s0 + (1 : Int32)))])) (A_sl.length X17 hx hZ e17 (n := (16 : Int32)) (by rw [hz.1]; rfl) (g := (mkF m 33 #[.val (.ref a), .val (.int k.toInt32), .val (.int s0)] [(.ref sl), (.int (s0 + (1 : Int32)))])) rfl rfl (hb hby d12_33)) ?_
    refine Go.st (S' := T17.setTop (mkF m 35 #[.val (.ref a), .val (.int k.toInt32), .val (.int s0)] [(.int (1 : Int32)), (.int (16 : Int32)), (.int (s0 + (1 : Int32)))])) (fun _ k_ => XS.iconst X17.here hx rfl (hb hby d12_34) k_) ?_
    refine Go.st (S' := T17.setTop (mkF m 36 #[.val (.ref a), .val (.int k.toInt32), .val (.int s0)] [(.int ((16 : Int32) - (1 : Int32))), (.int (s0 + (1 : Int32)))])) (fun _ k_ => XS.isub X17.here hx rfl (hb hby d12_35) rfl k_) ?_
    rw [show ((16 : Int32) - (1 : Int32)) = (15 : Int32) from (by decide)]
    refine Go.st (S' := T17.setTop (mkF m 37 #[.val (.ref a), .val (.int k.toInt32), .val (.int s0)] [(.int ((s0 + (1 : Int32)) &&& (15 : Int32)))])) (fun _ k_ => XS.iand X17.here hx rfl (hb hby d12_36) rfl k_) ?_
    have r1 := c_and (s0 + (1 : Int32)) 15 (by decide)
    rw [show (15 : Int32).toInt = 15 from rfl] at r1
    have ne1 := own_nexts s0 r0
    obtain ⟨s1, q_s1⟩ : ∃ z : Int32, z = ((s0 + (1 : Int32)) &&& (15 : Int32)) := ⟨_, rfl⟩
    rw [← q_s1]
    rw [← q_s1] at r1 ne1
    have n1s : s1.toNatClampNeg < 16 := own_nat r1.1 (by omega)
    refine Go.st (S' := T17.setTop (mkF m 38 #[.val (.ref a), .val (.int k.toInt32), .val (.int s1)] [])) (fun _ k_ => XS.istoreN X17.here hx rfl (hb hby d12_37) rfl (l' := #[.val (.ref a), .val (.int k.toInt32), .val (.int s1)]) rfl k_) ?_
    refine Go.st (S' := T17.setTop (mkF m 17 #[.val (.ref a), .val (.int k.toInt32), .val (.int s1)] [])) (fun _ k_ => XS.goto X17.here hx rfl (pc0 := 38) (pc' := 17) rfl (hb hby d12_38) (by decide) (by decide) k_) ?_
    refine Go.st (S' := T17.setTop (mkF m 18 #[.val (.ref a), .val (.int k.toInt32), .val (.int s1)] [(.ref a)])) (fun _ k_ => XS.aloadN X17.here hx rfl (hb hby d12_17) rfl rfl k_) ?_
    obtain ⟨T18, X18, e18, st18⟩ := getF X17 hx hZ hown (host := "") (Or.inl (w25 hw)) Via.refl e17 F_slots_a (g := (mkF m 18 #[.val (.ref a), .val (.int k.toInt32), .val (.int s1)] [(.ref a)])) rfl rfl (hb hby d12_18)
    refine Go.st (S' := T18.setTop (mkF m 21 #[.val (.ref a), .val (.int k.toInt32), .val (.int s1)] [(.ref sl)])) (st18) ?_
    refine Go.st (S' := T18.setTop (mkF m 22 #[.val (.ref a), .val (.int k.toInt32), .val (.int s1)] [(.int s1), (.ref sl)])) (fun _ k_ => XS.iloadN X18.here hx rfl (hb hby d12_21) rfl k_) ?_
    refine Go.st (S' := T18.setTop (mkF m 23 #[.val (.ref a), .val (.int k.toInt32), .val (.int s1)] [(.int (zs.getD s1.toNatClampNeg 0))])) (A_sl.load X18 hx hZ e18 (j := s1) (v := (zs.getD s1.toNatClampNeg 0)) (own_nn r1.1) (own_gd0 (by rw [hz.1]; exact n1s)) (g := (mkF m 22 #[.val (.ref a), .val (.int k.toInt32), .val (.int s1)] [(.int s1), (.ref sl)])) rfl rfl (hb hby d12_22)) ?_
    refine Go.st (S' := T18.setTop (mkF m 41 #[.val (.ref a), .val (.int k.toInt32), .val (.int s1)] [])) (fun _ k_ => XS.ifYes X18.here hx rfl (pc0 := 23) (pc' := 41) rfl (hb hby d12_23) rfl ((if0 _ _).trans (teq (Decidable.byContradiction fun q => ne1 (hz.2 _ _ n0s n1s hc23 q))).1) (by decide) (by decide) k_) ?_
    refine Go.st (S' := T18.setTop (mkF m 42 #[.val (.ref a), .val (.int k.toInt32), .val (.int s1)] [(.ref a)])) (fun _ k_ => XS.aloadN X18.here hx rfl (hb hby d12_41) rfl rfl k_) ?_
    obtain ⟨T19, X19, e19, st19⟩ := getF X18 hx hZ hown (host := "") (Or.inl (w25 hw)) Via.refl e18 F_slots_a (g := (mkF m 42 #[.val (.ref a), .val (.int k.toInt32), .val (.int s1)] [(.ref a)])) rfl rfl (hb hby d12_42)
    refine Go.st (S' := T19.setTop (mkF m 45 #[.val (.ref a), .val (.int k.toInt32), .val (.int s1)] [(.ref sl)])) (st19) ?_
    refine Go.st (S' := T19.setTop (mkF m 46 #[.val (.ref a), .val (.int k.toInt32), .val (.int s1)] [(.int s1), (.ref sl)])) (fun _ k_ => XS.iloadN X19.here hx rfl (hb hby d12_45) rfl k_) ?_
    refine Go.st (S' := T19.setTop (mkF m 47 #[.val (.ref a), .val (.int k.toInt32), .val (.int s1)] [(.int k.toInt32), (.int s1), (.ref sl)])) (fun _ k_ => XS.iloadN X19.here hx rfl (hb hby d12_46) rfl k_) ?_
    refine Go.st (S' := T19.setTop (mkF m 48 #[.val (.ref a), .val (.int k.toInt32), .val (.int s1)] [(.int (1 : Int32)), (.int k.toInt32), (.int s1), (.ref sl)])) (fun _ k_ => XS.iconst X19.here hx rfl (hb hby d12_47) k_) ?_
    refine Go.st (S' := T19.setTop (mkF m 49 #[.val (.ref a), .val (.int k.toInt32), .val (.int s1)] [(.int (k.toInt32 + (1 : Int32))), (.int s1), (.ref sl)])) (fun _ k_ => XS.iadd X19.here hx rfl (hb hby d12_48) rfl k_) ?_
    obtain ⟨T20, h20, X20, e20, W20, A20, st20⟩ := A_sl.store X19 hx hZ e19 (j := s1) (own_nn r1.1) (by rw [hz.1]; exact n1s) (g := (mkF m 49 #[.val (.ref a), .val (.int k.toInt32), .val (.int s1)] [(.int (k.toInt32 + (1 : Int32))), (.int s1), (.ref sl)])) rfl rfl (hb hby d12_49)
    replace A_sl : Ai Z h20 sl .int (zs.set s1.toNatClampNeg (k.toInt32 + (1 : Int32))) := A20
    replace E_a := E_a.wr W20
    replace F_pairs_a := F_pairs_a.other W20 (Or.inl ne_a_sl)
    replace F_starts_a := F_starts_a.other W20 (Or.inl ne_a_sl)
    replace F_hashes_a := F_hashes_a.other W20 (Or.inl ne_a_sl)
    replace F_slots_a := F_slots_a.other W20 (Or.inl ne_a_sl)
    replace F_places_a := F_places_a.other W20 (Or.inl ne_a_sl)
    replace IL_pr := IL_pr.keep (Keep.of_wr W20) ⟨(ninS ne_pr_sl nin0), (ninS ne_prb_sl nin0)⟩
    replace IL_ss := IL_ss.keep (Keep.of_wr W20) ⟨(ninS ne_ss_sl nin0), (ninS ne_ssb_sl nin0)⟩
    replace IL_hs := IL_hs.keep (Keep.of_wr W20) ⟨(ninS ne_hs_sl nin0), (ninS ne_hsb_sl nin0)⟩
    replace Z0 := Nat.le_trans Z0 (Keep.of_wr W20).1
    replace K0 := K0.wr W20 (Or.inl (by simp))
    have N20 := Fr.snoc X20 N12 g_sl
    refine Go.st (S' := T20.setTop (mkF m 50 #[.val (.ref a), .val (.int k.toInt32), .val (.int s1)] [])) (st20) ?_
    exact Go.retV X20 hx hret hlk (hb hby d12_50) (by decide) (by decide) (by rw [e20]; exact ⟨rfl, N20, K0, _, own_one.set hz.1, by rw [List.length_set]; exact hz.1, ⟨E_a, F_pairs_a, F_starts_a, F_hashes_a, F_slots_a, F_places_a, IL_pr, IL_ss, IL_hs, A_sl⟩⟩)
theorem ef_mt_add (m : MethodId) (x0 : Addr) (x1 : Addr) : entryFrame m #[(.ref x0), (.ref x1)] 4 = mkF m 0 #[.val (.ref x0), .val (.ref x1), .unset, .unset] [] := by first | (simp [entryFrame, mkF, argsToLocals, Value.category]; done) | rfl
set_option maxRecDepth 65536 in
set_option maxHeartbeats 40000000 in
theorem mt_add (l : Launch) (Z : State) (a0 : Array Value) (hw : ∀ d ∈ tables_1, d.before a0 Z = true) (a pr prb ss ssb hs hsb sl : Addr) (P S H1 zs : List Int32) (t : Addr) (x0 x1 x2 : Int32) (h0 : Heap) (n0 : Nat) (Z0 : n0 ≤ h0.size) (H : MT Z h0 a pr prb ss ssb hs hsb sl P S H1 zs) (hd : own_dis n0 a pr prb ss ssb hs hsb sl) (A_t : Ai Z h0 t .int [x0, x1, x2]) (E_t : Exa Z h0 t "[I") (ho : own_off t a pr prb ss ssb hs hsb sl) (lP : P.length ≤ 10) (lS : S.length ≤ 4) (lH : H1.length ≤ 4) (hz : own_one zs) :
    Con l Z (⟨"com/example/caseweave/caseweave/core/MarkingTable", "add", "([I)I"⟩ : MethodName) prog_9_method_4_code 4 (some .int) [] ({ frames := 4, cells := 0, slots := 0, locals := 75 } : Room) #[(.ref a), (.ref t)] h0 (fun v h L => v = some (.int H1.length.toInt32) ∧ Fr n0 L ∧ Keep h0 h [pr, prb, ss, ssb, hs, hsb, sl] ∧ ∃ hv zt, ((∀ i, zs.getD i 0 = 0) → own_one zt) ∧ zt.length = 16 ∧ MT Z h a pr prb ss ssb hs hsb sl (P ++ own_flat (own_ps x0 x1 x2)) (S ++ [(P ++ own_flat (own_ps x0 x1 x2)).length.toInt32]) (H1 ++ [hv]) zt) := by
  refine Con.mk (plainFor_of_name pn3) ?_
  intro p e s m below meth c T0 hx hby hml hown hnm hret hlk hZ X0 e0
  have hown : s.vm.findClass "com/example/caseweave/caseweave/core/MarkingTable" = some m.cls := hown
  have hnm : meth.name = "add" := hnm
  have N0 := Fr.nil n0
  have K0 := Keep.refl h0 [pr, prb, ss, ssb, hs, hsb, sl]
  obtain ⟨E_a, F_pairs_a, F_starts_a, F_hashes_a, F_slots_a, F_places_a, IL_pr, IL_ss, IL_hs, A_sl⟩ := H
  obtain ⟨ne_a_pr, ne_a_prb, ne_a_ss, ne_a_ssb, ne_a_hs, ne_a_hsb, ne_a_sl, ne_pr_prb, ne_pr_ss, ne_pr_ssb, ne_pr_hs, ne_pr_hsb, ne_pr_sl, ne_prb_ss, ne_prb_ssb, ne_prb_hs, ne_prb_hsb, ne_prb_sl, ne_ss_ssb, ne_ss_hs, ne_ss_hsb, ne_ss_sl, ne_ssb_hs, ne_ssb_hsb, ne_ssb_sl, ne_hs_hsb, ne_hs_sl, ne_hsb_sl, g_a, g_pr, g_prb, g_ss, g_ssb, g_hs, g_hsb, g_sl⟩ := hd
  obtain ⟨ne_t_a, ne_t_pr, ne_t_prb, ne_t_ss, ne_t_ssb, ne_t_hs, ne_t_hsb, ne_t_sl⟩ := ho
  have J64 : ∀ (T : State) (locs : List Loc) (h1 : Heap) (X : Stand p l e ({ frames := 4, cells := 0, slots := 0, locals := 75 } : Room) s m #[(.ref a), (.ref t)] below meth c T locs 0 0) (e1 : T.heap = h1) (N1 : Fr n0 locs) (Z0 : n0 ≤ h1.size) (K0 : Keep h0 h1 [pr, prb, ss, ssb, hs, hsb, sl]) (E_a : Exa Z h1 a "com/example/caseweave/caseweave/core/MarkingTable") (F_pairs_a : Fld Z h1 a "com/example/caseweave/caseweave/core/MarkingTable" "pairs" "Lcom/example/caseweave/caseweave/core/IntList;" (.ref pr)) (F_starts_a : Fld Z h1 a "com/example/caseweave/caseweave/core/MarkingTable" "starts" "Lcom/example/caseweave/caseweave/core/IntList;" (.ref ss)) (F_hashes_a : Fld Z h1 a "com/example/caseweave/caseweave/core/MarkingTable" "hashes" "Lcom/example/caseweave/caseweave/core/IntList;" (.ref hs)) (F_slots_a : Fld Z h1 a "com/example/caseweave/caseweave/core/MarkingTable" "slots" "[I" (.ref sl)) (F_places_a : Fld Z h1 a "com/example/caseweave/caseweave/core/MarkingTable" "places" "I" (.int 3)) (IL_pr : IL Z h1 pr prb (P ++ own_flat (own_ps x0 x1 x2))) (IL_ss : IL Z h1 ss ssb S) (IL_hs : IL Z h1 hs hsb H1) (A_sl : Ai Z h1 sl .int zs) (A_t : Ai Z h1 t .int [x0, x1, x2]) (E_t : Exa Z h1 t "[I"), Go p e below s ({ frames := 4, cells := 0, slots := 0, locals := 75 } : Room) (fun v h L => v = some (.int H1.length.toInt32) ∧ Fr n0 L ∧ Keep h0 h [pr, prb, ss, ssb, hs, hsb, sl] ∧ ∃ hv zt, ((∀ i, zs.getD i 0 = 0) → own_one zt) ∧ zt.length = 16 ∧ MT Z h a pr prb ss ssb hs hsb sl (P ++ own_flat (own_ps x0 x1 x2)) (S ++ [(P ++ own_flat (own_ps x0 x1 x2)).length.toInt32]) (H1 ++ [hv]) zt) (T.setTop (mkF m 64 #[.val (.ref a), .val (.ref t), .val (.int H1.length.toInt32), .val (.int (3 : Int32))] [])) := by
    intro T locs h1 X e1 N1 Z0 K0 E_a F_pairs_a F_starts_a F_hashes_a F_slots_a F_places_a IL_pr IL_ss IL_hs A_sl A_t E_t
    have lps := own_plen x0 x1 x2
    have lfl := own_flen (own_ps x0 x1 x2)
    refine Go.st (S' := T.setTop (mkF m 65 #[.val (.ref a), .val (.ref t), .val (.int H1.length.toInt32), .val (.int (3 : Int32))] [(.ref a)])) (fun _ k_ => XS.aloadN X.here hx rfl (hb hby d5_64) rfl rfl k_) ?_
    obtain ⟨T11, X11, e11, st11⟩ := getF X hx hZ hown (host := "") (Or.inl (w21 hw)) Via.refl e1 F_starts_a (g := (mkF m 65 #[.val (.ref a), .val (.ref t), .val (.int H1.length.toInt32), .val (.int (3 : Int32))] [(.ref a)])) rfl rfl (hb hby d5_65)
    refine Go.st (S' := T11.setTop (mkF m 68 #[.val (.ref a), .val (.ref t), .val (.int H1.length.toInt32), .val (.int (3 : Int32))] [(.ref ss)])) (st11) ?_
    refine Go.st (S' := T11.setTop (mkF m 69 #[.val (.ref a), .val (.ref t), .val (.int H1.length.toInt32), .val (.int (3 : Int32))] [(.ref a), (.ref ss)])) (fun _ k_ => XS.aloadN X11.here hx rfl (hb hby d5_68) rfl rfl k_) ?_
    obtain ⟨T12, X12, e12, st12⟩ := getF X11 hx hZ hown (host := "") (Or.inl (w19 hw)) Via.refl e11 F_pairs_a (g := (mkF m 69 #[.val (.ref a), .val (.ref t), .val (.int H1.length.toInt32), .val (.int (3 : Int32))] [(.ref a), (.ref ss)])) rfl rfl (hb hby d5_69)
    refine Go.st (S' := T12.setTop (mkF m 72 #[.val (.ref a), .val (.ref t), .val (.int H1.length.toInt32), .val (.int (3 : Int32))] [(.ref pr), (.ref ss)])) (st12) ?_
    obtain ⟨v13, T13, h13, L13, X13, e13, hQ13, st13⟩ := callVi X12 hx hZ hown (w48 hw) (w49 hw) (w51 hw) (w50 hw) (w12 hw) (w52 hw) (by decide) (W := 1) (argsL := []) (rest := [(.ref ss)]) e12 IL_pr.1 (il_size l Z a0 hw pr prb (P ++ own_flat (own_ps x0 x1 x2)) h1 n0 Z0 IL_pr) (by decide) (by decide) pd5 rfl (g := (mkF m 72 #[.val (.ref a), .val (.ref t), .val (.int H1.length.toInt32), .val (.int (3 : Int32))] [(.ref pr), (.ref ss)])) rfl (by rw [hml]; rfl) rfl (by show 2 * 0 + _ ≤ _; exact Nat.le_of_eq rfl) (hb hby d5_72) (by decide) (by decide)
    obtain ⟨rfl, Nq13, hh13⟩ := hQ13
    rw [hh13] at e13
    have N13 := Fr.app N1 Nq13
    refine Go.st (S' := T13.setTop (mkF m 75 #[.val (.ref a), .val (.ref t), .val (.int H1.length.toInt32), .val (.int (3 : Int32))] [(.int (P ++ own_flat (own_ps x0 x1 x2)).length.toInt32), (.ref ss)])) (st13) ?_
    obtain ⟨v14, T14, h14, L14, X14, e14, hQ14, st14⟩ := callVi X13 hx hZ hown (w31 hw) (w32 hw) (w34 hw) (w33 hw) (w12 hw) (w35 hw) (by decide) (W := 0) (argsL := [(.int (P ++ own_flat (own_ps x0 x1 x2)).length.toInt32)]) (rest := []) e13 IL_ss.1 (il_add l Z a0 hw ss ssb (P ++ own_flat (own_ps x0 x1 x2)).length.toInt32 S h1 n0 Z0 IL_ss (by first | decide | (simp; omega) | omega) g_ss g_ssb ne_ss_ssb) (by decide) (by decide) pd4 rfl (g := (mkF m 75 #[.val (.ref a), .val (.ref t), .val (.int H1.length.toInt32), .val (.int (3 : Int32))] [(.int (P ++ own_flat (own_ps x0 x1 x2)).length.toInt32), (.ref ss)])) rfl (by rw [hml]; rfl) rfl (by show 2 * 0 + _ ≤ _; exact Nat.le_of_eq rfl) (hb hby d5_75) (by decide) (by decide)
    obtain ⟨rfl, Nq14, Kq14, IL_ss⟩ := hQ14
    have N14 := Fr.app N13 Nq14
    replace E_a := E_a.keep Kq14
    replace F_pairs_a := F_pairs_a.keep Kq14 (ninS ne_a_ss (ninS ne_a_ssb nin0))
    replace F_starts_a := F_starts_a.keep Kq14 (ninS ne_a_ss (ninS ne_a_ssb nin0))
    replace F_hashes_a := F_hashes_a.keep Kq14 (ninS ne_a_ss (ninS ne_a_ssb nin0))
    replace F_slots_a := F_slots_a.keep Kq14 (ninS ne_a_ss (ninS ne_a_ssb nin0))
    replace F_places_a := F_places_a.keep Kq14 (ninS ne_a_ss (ninS ne_a_ssb nin0))
    replace IL_pr := IL_pr.keep Kq14 ⟨(ninS ne_pr_ss (ninS ne_pr_ssb nin0)), (ninS ne_prb_ss (ninS ne_prb_ssb nin0))⟩
    replace IL_hs := IL_hs.keep Kq14 ⟨(ninS (Ne.symm ne_ss_hs) (ninS (Ne.symm ne_ssb_hs) nin0)), (ninS (Ne.symm ne_ss_hsb) (ninS (Ne.symm ne_ssb_hsb) nin0))⟩
    replace A_sl := A_sl.keep Kq14 (ninS (Ne.symm ne_ss_sl) (ninS (Ne.symm ne_ssb_sl) nin0))
    replace A_t := A_t.keep Kq14 (ninS ne_t_ss (ninS ne_t_ssb nin0))
    replace E_t := E_t.keep Kq14
    replace Z0 := Nat.le_trans Z0 Kq14.1
    replace K0 := K0.trans Kq14 (allS (Or.inl (by simp)) (allS (Or.inl (by simp)) all0))
    refine Go.st (S' := T14.setTop (mkF m 78 #[.val (.ref a), .val (.ref t), .val (.int H1.length.toInt32), .val (.int (3 : Int32))] [])) (st14) ?_
    refine Go.st (S' := T14.setTop (mkF m 79 #[.val (.ref a), .val (.ref t), .val (.int H1.length.toInt32), .val (.int (3 : Int32))] [(.ref a)])) (fun _ k_ => XS.aloadN X14.here hx rfl (hb hby d5_78) rfl rfl k_) ?_
    obtain ⟨T15, X15, e15, st15⟩ := getF X14 hx hZ hown (host := "") (Or.inl (w23 hw)) Via.refl e14 F_hashes_a (g := (mkF m 79 #[.val (.ref a), .val (.ref t), .val (.int H1.length.toInt32), .val (.int (3 : Int32))] [(.ref a)])) rfl rfl (hb hby d5_79)
    refine Go.st (S' := T15.setTop (mkF m 82 #[.val (.ref a), .val (.ref t), .val (.int H1.length.toInt32), .val (.int (3 : Int32))] [(.ref hs)])) (st15) ?_
    refine Go.st (S' := T15.setTop (mkF m 83 #[.val (.ref a), .val (.ref t), .val (.int H1.length.toInt32), .val (.int (3 : Int32))] [(.ref t), (.ref hs)])) (fun _ k_ => XS.aloadN X15.here hx rfl (hb hby d5_82) rfl rfl k_) ?_
    obtain ⟨v16, T16, h16, L16, X16, e16, hQ16, st16⟩ := callSt X15 hx hZ hown (w54 hw) (w55 hw) (w3 hw) (w56 hw) (by decide) (W := 1) (argsL := [(.ref t)]) (rest := [(.ref hs)]) e15 (mt_hash l Z a0 hw t x0 x1 x2 h14 n0 Z0 A_t E_t) (by decide) (by decide) pd2 rfl (g := (mkF m 83 #[.val (.ref a), .val (.ref t), .val (.int H1.length.toInt32), .val (.int (3 : Int32))] [(.ref t), (.ref hs)])) rfl (by rw [hml]; rfl) rfl (by show 2 * 0 + _ ≤ _; exact Nat.le_of_eq rfl) (hb hby d5_83) (by decide) (by decide)
    obtain ⟨⟨x16, rfl⟩, Nq16, hh16⟩ := hQ16
    rw [hh16] at e16
    have N16 := Fr.app N14 Nq16
    refine Go.st (S' := T16.setTop (mkF m 86 #[.val (.ref a), .val (.ref t), .val (.int H1.length.toInt32), .val (.int (3 : Int32))] [(.int x16), (.ref hs)])) (st16) ?_
    obtain ⟨v17, T17, h17, L17, X17, e17, hQ17, st17⟩ := callVi X16 hx hZ hown (w31 hw) (w32 hw) (w34 hw) (w33 hw) (w12 hw) (w35 hw) (by decide) (W := 0) (argsL := [(.int x16)]) (rest := []) e16 IL_hs.1 (il_add l Z a0 hw hs hsb x16 H1 h14 n0 Z0 IL_hs (by first | decide | (simp; omega) | omega) g_hs g_hsb ne_hs_hsb) (by decide) (by decide) pd4 rfl (g := (mkF m 86 #[.val (.ref a), .val (.ref t), .val (.int H1.length.toInt32), .val (.int (3 : Int32))] [(.int x16), (.ref hs)])) rfl (by rw [hml]; rfl) rfl (by show 2 * 0 + _ ≤ _; exact Nat.le_of_eq rfl) (hb hby d5_86) (by decide) (by decide)
    obtain ⟨rfl, Nq17, Kq17, IL_hs⟩ := hQ17
    have N17 := Fr.app N16 Nq17
    replace E_a := E_a.keep Kq17
    replace F_pairs_a := F_pairs_a.keep Kq17 (ninS ne_a_hs (ninS ne_a_hsb nin0))
    replace F_starts_a := F_starts_a.keep Kq17 (ninS ne_a_hs (ninS ne_a_hsb nin0))
    replace F_hashes_a := F_hashes_a.keep Kq17 (ninS ne_a_hs (ninS ne_a_hsb nin0))
    replace F_slots_a := F_slots_a.keep Kq17 (ninS ne_a_hs (ninS ne_a_hsb nin0))
    replace F_places_a := F_places_a.keep Kq17 (ninS ne_a_hs (ninS ne_a_hsb nin0))
    replace IL_pr := IL_pr.keep Kq17 ⟨(ninS ne_pr_hs (ninS ne_pr_hsb nin0)), (ninS ne_prb_hs (ninS ne_prb_hsb nin0))⟩
    replace A_sl := A_sl.keep Kq17 (ninS (Ne.symm ne_hs_sl) (ninS (Ne.symm ne_hsb_sl) nin0))
    replace A_t := A_t.keep Kq17 (ninS ne_t_hs (ninS ne_t_hsb nin0))
    replace E_t := E_t.keep Kq17
    replace IL_ss := IL_ss.keep Kq17 ⟨(ninS ne_ss_hs (ninS ne_ss_hsb nin0)), (ninS ne_ssb_hs (ninS ne_ssb_hsb nin0))⟩
    replace Z0 := Nat.le_trans Z0 Kq17.1
    replace K0 := K0.trans Kq17 (allS (Or.inl (by simp)) (allS (Or.inl (by simp)) all0))
    refine Go.st (S' := T17.setTop (mkF m 89 #[.val (.ref a), .val (.ref t), .val (.int H1.length.toInt32), .val (.int (3 : Int32))] [])) (st17) ?_
    refine Go.st (S' := T17.setTop (mkF m 90 #[.val (.ref a), .val (.ref t), .val (.int H1.length.toInt32), .val (.int (3 : Int32))] [(.ref a)])) (fun _ k_ => XS.aloadN X17.here hx rfl (hb hby d5_89) rfl rfl k_) ?_
    obtain ⟨v18, T18, h18, L18, X18, e18, hQ18, st18⟩ := callVi X17 hx hZ hown (w43 hw) (w44 hw) (w46 hw) (w45 hw) (w3 hw) (w47 hw) (by decide) (W := 0) (argsL := []) (rest := []) e17 E_a (mt_size l Z a0 hw a pr prb ss ssb hs hsb sl (P ++ own_flat (own_ps x0 x1 x2)) (S ++ [(P ++ own_flat (own_ps x0 x1 x2)).length.toInt32]) (H1 ++ [x16]) zs h17 n0 Z0 ⟨E_a, F_pairs_a, F_starts_a, F_hashes_a, F_slots_a, F_places_a, IL_pr, IL_ss, IL_hs, A_sl⟩ ⟨ne_a_pr, ne_a_prb, ne_a_ss, ne_a_ssb, ne_a_hs, ne_a_hsb, ne_a_sl, ne_pr_prb, ne_pr_ss, ne_pr_ssb, ne_pr_hs, ne_pr_hsb, ne_pr_sl, ne_prb_ss, ne_prb_ssb, ne_prb_hs, ne_prb_hsb, ne_prb_sl, ne_ss_ssb, ne_ss_hs, ne_ss_hsb, ne_ss_sl, ne_ssb_hs, ne_ssb_hsb, ne_ssb_sl, ne_hs_hsb, ne_hs_sl, ne_hsb_sl, g_a, g_pr, g_prb, g_ss, g_ssb, g_hs, g_hsb, g_sl⟩) (by decide) (by decide) pd5 rfl (g := (mkF m 90 #[.val (.ref a), .val (.ref t), .val (.int H1.length.toInt32), .val (.int (3 : Int32))] [(.ref a)])) rfl (by rw [hml]; rfl) rfl (by show 2 * 0 + _ ≤ _; exact Nat.le_of_eq rfl) (hb hby d5_90) (by decide) (by decide)
    obtain ⟨rfl, Nq18, hh18⟩ := hQ18
    rw [hh18] at e18
    have N18 := Fr.app N17 Nq18
    refine Go.st (S' := T18.setTop (mkF m 93 #[.val (.ref a), .val (.ref t), .val (.int H1.length.toInt32), .val (.int (3 : Int32))] [(.int (H1 ++ [x16]).length.toInt32)])) (st18) ?_
    refine Go.st (S' := T18.setTop (mkF m 94 #[.val (.ref a), .val (.ref t), .val (.int H1.length.toInt32), .val (.int (3 : Int32))] [(.ref a), (.int (H1 ++ [x16]).length.toInt32)])) (fun _ k_ => XS.aloadN X18.here hx rfl (hb hby d5_93) rfl rfl k_) ?_
    obtain ⟨T19, X19, e19, st19⟩ := getF X18 hx hZ hown (host := "") (Or.inl (w25 hw)) Via.refl e18 F_slots_a (g := (mkF m 94 #[.val (.ref a), .val (.ref t), .val (.int H1.length.toInt32), .val (.int (3 : Int32))] [(.ref a), (.int (H1 ++ [x16]).length.toInt32)])) rfl rfl (hb hby d5_94)
    refine Go.st (S' := T19.setTop (mkF m 97 #[.val (.ref a), .val (.ref t), .val (.int H1.length.toInt32), .val (.int (3 : Int32))] [(.ref sl), (.int (H1 ++ [x16]).length.toInt32)])) (st19) ?_
    refine Go.st (S' := T19.setTop (mkF m 98 #[.val (.ref a), .val (.ref t), .val (.int H1.length.toInt32), .val (.int (3 : Int32))] [(.int (16 : Int32)), (.int (H1 ++ [x16]).length.toInt32)])) (A_sl.length X19 hx hZ e19 (n := (16 : Int32)) (by rw [hz.1]; rfl) (g := (mkF m 97 #[.val (.ref a), .val (.ref t), .val (.int H1.length.toInt32), .val (.int (3 : Int32))] [(.ref sl), (.int (H1 ++ [x16]).length.toInt32)])) rfl rfl (hb hby d5_97)) ?_
    refine Go.st (S' := T19.setTop (mkF m 99 #[.val (.ref a), .val (.ref t), .val (.int H1.length.toInt32), .val (.int (3 : Int32))] [(.int (2 : Int32)), (.int (16 : Int32)), (.int (H1 ++ [x16]).length.toInt32)])) (fun _ k_ => XS.iconst X19.here hx rfl (hb hby d5_98) k_) ?_
    refine Go.st (S' := T19.setTop (mkF m 100 #[.val (.ref a), .val (.ref t), .val (.int H1.length.toInt32), .val (.int (3 : Int32))] [(.int ((16 : Int32) / (2 : Int32))), (.int (H1 ++ [x16]).length.toInt32)])) (fun _ k_ => XS.idiv X19.here hx rfl (hb hby d5_99) rfl (by decide) k_) ?_
    rw [show ((16 : Int32) / (2 : Int32)) = (8 : Int32) from (by decide)]
    refine Go.st (S' := T19.setTop (mkF m 140 #[.val (.ref a), .val (.ref t), .val (.int H1.length.toInt32), .val (.int (3 : Int32))] [])) (fun _ k_ => XS.icmpYes X19.here hx rfl (pc0 := 100) (pc' := 140) rfl (hb hby d5_100) rfl (flt (own_small (by rw [List.length_append]; show _ + 1 ≤ 8; omega))).2.2.2 (by decide) (by decide) k_) ?_
    refine Go.st (S' := T19.setTop (mkF m 141 #[.val (.ref a), .val (.ref t), .val (.int H1.length.toInt32), .val (.int (3 : Int32))] [(.ref a)])) (fun _ k_ => XS.aloadN X19.here hx rfl (hb hby d5_140) rfl rfl k_) ?_
    refine Go.st (S' := T19.setTop (mkF m 142 #[.val (.ref a), .val (.ref t), .val (.int H1.length.toInt32), .val (.int (3 : Int32))] [(.int H1.length.toInt32), (.ref a)])) (fun _ k_ => XS.iloadN X19.here hx rfl (hb hby d5_141) rfl k_) ?_
    obtain ⟨v20, T20, h20, L20, X20, e20, hQ20, st20⟩ := callPr X19 hx hZ hown (w71 hw) (w72 hw) (w2 hw) (w73 hw) (w3 hw) (w74 hw) (by decide) (W := 0) (argsL := [(.int H1.length.toInt32)]) (rest := []) e19 E_a (mt_insert l Z a0 hw a pr prb ss ssb hs hsb sl (P ++ own_flat (own_ps x0 x1 x2)) (S ++ [(P ++ own_flat (own_ps x0 x1 x2)).length.toInt32]) (H1 ++ [x16]) zs H1.length x16 h17 n0 Z0 ⟨E_a, F_pairs_a, F_starts_a, F_hashes_a, F_slots_a, F_places_a, IL_pr, IL_ss, IL_hs, A_sl⟩ ⟨ne_a_pr, ne_a_prb, ne_a_ss, ne_a_ssb, ne_a_hs, ne_a_hsb, ne_a_sl, ne_pr_prb, ne_pr_ss, ne_pr_ssb, ne_pr_hs, ne_pr_hsb, ne_pr_sl, ne_prb_ss, ne_prb_ssb, ne_prb_hs, ne_prb_hsb, ne_prb_sl, ne_ss_ssb, ne_ss_hs, ne_ss_hsb, ne_ss_sl, ne_ssb_hs, ne_ssb_hsb, ne_ssb_sl, ne_hs_hsb, ne_hs_sl, ne_hsb_sl, g_a, g_pr, g_prb, g_ss, g_ssb, g_hs, g_hsb, g_sl⟩ (by omega) (by simp) hz) (by decide) (by decide) pd4 rfl (g := (mkF m 142 #[.val (.ref a), .val (.ref t), .val (.int H1.length.toInt32), .val (.int (3 : Int32))] [(.int H1.length.toInt32), (.ref a)])) rfl (by rw [hml]; rfl) rfl (by show 2 * 0 + _ ≤ _; exact Nat.le_of_eq rfl) (hb hby d5_142) (by decide) (by decide)
    obtain ⟨rfl, Nq20, Kq20, zt20, ho20, hl20, HM20⟩ := hQ20
    have N20 := Fr.app N18 Nq20
    replace A_t := A_t.keep Kq20 (ninS ne_t_sl nin0)
    replace E_t := E_t.keep Kq20
    replace Z0 := Nat.le_trans Z0 Kq20.1
    replace K0 := K0.trans Kq20 (allS (Or.inl (by simp)) all0)
    refine Go.st (S' := T20.setTop (mkF m 145 #[.val (.ref a), .val (.ref t), .val (.int H1.length.toInt32), .val (.int (3 : Int32))] [])) (st20) ?_
    refine Go.st (S' := T20.setTop (mkF m 146 #[.val (.ref a), .val (.ref t), .val (.int H1.length.toInt32), .val (.int (3 : Int32))] [(.int H1.length.toInt32)])) (fun _ k_ => XS.iloadN X20.here hx rfl (hb hby d5_145) rfl k_) ?_
    exact Go.retI X20 hx hret hlk (hb hby d5_146) (by decide) (by decide) (by rw [e20]; exact ⟨rfl, N20, K0, _, zt20, ho20, hl20, HM20⟩)
  refine Go.cast (ef_mt_add m a t) ?_
  refine Go.st (S' := T0.setTop (mkF m 1 #[.val (.ref a), .val (.ref t), .unset, .unset] [(.ref a)])) (fun _ k_ => XS.aloadN X0.here hx rfl (hb hby d5_0) rfl rfl k_) ?_
  obtain ⟨v21, T21, h21, L21, X21, e21, hQ21, st21⟩ := callVi X0 hx hZ hown (w43 hw) (w44 hw) (w46 hw) (w45 hw) (w3 hw) (w47 hw) (by decide) (W := 0) (argsL := []) (rest := []) e0 E_a (mt_size l Z a0 hw a pr prb ss ssb hs hsb sl P S H1 zs h0 n0 Z0 ⟨E_a, F_pairs_a, F_starts_a, F_hashes_a, F_slots_a, F_places_a, IL_pr, IL_ss, IL_hs, A_sl⟩ ⟨ne_a_pr, ne_a_prb, ne_a_ss, ne_a_ssb, ne_a_hs, ne_a_hsb, ne_a_sl, ne_pr_prb, ne_pr_ss, ne_pr_ssb, ne_pr_hs, ne_pr_hsb, ne_pr_sl, ne_prb_ss, ne_prb_ssb, ne_prb_hs, ne_prb_hsb, ne_prb_sl, ne_ss_ssb, ne_ss_hs, ne_ss_hsb, ne_ss_sl, ne_ssb_hs, ne_ssb_hsb, ne_ssb_sl, ne_hs_hsb, ne_hs_sl, ne_hsb_sl, g_a, g_pr, g_prb, g_ss, g_ssb, g_hs, g_hsb, g_sl⟩) (by decide) (by decide) pd5 rfl (g := (mkF m 1 #[.val (.ref a), .val (.ref t), .unset, .unset] [(.ref a)])) rfl (by rw [hml]; rfl) rfl (by show 2 * 0 + _ ≤ _; exact Nat.le_of_eq rfl) (hb hby d5_1) (by decide) (by decide)
  obtain ⟨rfl, Nq21, hh21⟩ := hQ21
  rw [hh21] at e21
  have N21 := Fr.app N0 Nq21
  refine Go.st (S' := T21.setTop (mkF m 4 #[.val (.ref a), .val (.ref t), .unset, .unset] [(.int H1.length.toInt32)])) (st21) ?_
  refine Go.st (S' := T21.setTop (mkF m 6 #[.val (.ref a), .val (.ref t), .unset, .unset] [(.int (536870912 : Int32)), (.int H1.length.toInt32)])) (X21.ldcInt hx hown (mvT hZ (w53 hw)) (g := (mkF m 4 #[.val (.ref a), .val (.ref t), .unset, .unset] [(.int H1.length.toInt32)])) rfl (hb hby d5_4)) ?_
  refine Go.st (S' := T21.setTop (mkF m 19 #[.val (.ref a), .val (.ref t), .unset, .unset] [])) (fun _ k_ => XS.icmpYes X21.here hx rfl (pc0 := 6) (pc' := 19) rfl (hb hby d5_6) rfl (feq (own_big (by omega))).2 (by decide) (by decide) k_) ?_
  refine Go.st (S' := T21.setTop (mkF m 20 #[.val (.ref a), .val (.ref t), .unset, .unset] [(.ref a)])) (fun _ k_ => XS.aloadN X21.here hx rfl (hb hby d5_19) rfl rfl k_) ?_
  obtain ⟨v22, T22, h22, L22, X22, e22, hQ22, st22⟩ := callVi X21 hx hZ hown (w43 hw) (w44 hw) (w46 hw) (w45 hw) (w3 hw) (w47 hw) (by decide) (W := 0) (argsL := []) (rest := []) e21 E_a (mt_size l Z a0 hw a pr prb ss ssb hs hsb sl P S H1 zs h0 n0 Z0 ⟨E_a, F_pairs_a, F_starts_a, F_hashes_a, F_slots_a, F_places_a, IL_pr, IL_ss, IL_hs, A_sl⟩ ⟨ne_a_pr, ne_a_prb, ne_a_ss, ne_a_ssb, ne_a_hs, ne_a_hsb, ne_a_sl, ne_pr_prb, ne_pr_ss, ne_pr_ssb, ne_pr_hs, ne_pr_hsb, ne_pr_sl, ne_prb_ss, ne_prb_ssb, ne_prb_hs, ne_prb_hsb, ne_prb_sl, ne_ss_ssb, ne_ss_hs, ne_ss_hsb, ne_ss_sl, ne_ssb_hs, ne_ssb_hsb, ne_ssb_sl, ne_hs_hsb, ne_hs_sl, ne_hsb_sl, g_a, g_pr, g_prb, g_ss, g_ssb, g_hs, g_hsb, g_sl⟩) (by decide) (by decide) pd5 rfl (g := (mkF m 20 #[.val (.ref a), .val (.ref t), .unset, .unset] [(.ref a)])) rfl (by rw [hml]; rfl) rfl (by show 2 * 0 + _ ≤ _; exact Nat.le_of_eq rfl) (hb hby d5_20) (by decide) (by decide)
  obtain ⟨rfl, Nq22, hh22⟩ := hQ22
  rw [hh22] at e22
  have N22 := Fr.app N21 Nq22
  refine Go.st (S' := T22.setTop (mkF m 23 #[.val (.ref a), .val (.ref t), .unset, .unset] [(.int H1.length.toInt32)])) (st22) ?_
  refine Go.st (S' := T22.setTop (mkF m 24 #[.val (.ref a), .val (.ref t), .val (.int H1.length.toInt32), .unset] [])) (fun _ k_ => XS.istoreN X22.here hx rfl (hb hby d5_23) rfl (l' := #[.val (.ref a), .val (.ref t), .val (.int H1.length.toInt32), .unset]) rfl k_) ?_
  refine Go.st (S' := T22.setTop (mkF m 25 #[.val (.ref a), .val (.ref t), .val (.int H1.length.toInt32), .unset] [(.int (0 : Int32))])) (fun _ k_ => XS.iconst X22.here hx rfl (hb hby d5_24) k_) ?_
  refine Go.st (S' := T22.setTop (mkF m 26 #[.val (.ref a), .val (.ref t), .val (.int H1.length.toInt32), .val (.int (0 : Int32))] [])) (fun _ k_ => XS.istoreN X22.here hx rfl (hb hby d5_25) rfl (l' := #[.val (.ref a), .val (.ref t), .val (.int H1.length.toInt32), .val (.int (0 : Int32))]) rfl k_) ?_
  refine Go.st (S' := T22.setTop (mkF m 27 #[.val (.ref a), .val (.ref t), .val (.int H1.length.toInt32), .val (.int (0 : Int32))] [(.int (0 : Int32))])) (fun _ k_ => XS.iloadN X22.here hx rfl (hb hby d5_26) rfl k_) ?_
  refine Go.st (S' := T22.setTop (mkF m 28 #[.val (.ref a), .val (.ref t), .val (.int H1.length.toInt32), .val (.int (0 : Int32))] [(.ref a), (.int (0 : Int32))])) (fun _ k_ => XS.aloadN X22.here hx rfl (hb hby d5_27) rfl rfl k_) ?_
  obtain ⟨T23, X23, e23, st23⟩ := getF X22 hx hZ hown (host := "") (Or.inl (w27 hw)) Via.refl e22 F_places_a (g := (mkF m 28 #[.val (.ref a), .val (.ref t), .val (.int H1.length.toInt32), .val (.int (0 : Int32))] [(.ref a), (.int (0 : Int32))])) rfl rfl (hb hby d5_28)
  refine Go.st (S' := T23.setTop (mkF m 31 #[.val (.ref a), .val (.ref t), .val (.int H1.length.toInt32), .val (.int (0 : Int32))] [(.int (3 : Int32)), (.int (0 : Int32))])) (st23) ?_
  refine Go.st (S' := T23.setTop (mkF m 34 #[.val (.ref a), .val (.ref t), .val (.int H1.length.toInt32), .val (.int (0 : Int32))] [])) (fun _ k_ => XS.icmpNo X23.here hx rfl (hb hby d5_31) rfl (tlt (by decide)).2.1 k_) ?_
  refine Go.st (S' := T23.setTop (mkF m 35 #[.val (.ref a), .val (.ref t), .val (.int H1.length.toInt32), .val (.int (0 : Int32))] [(.ref t)])) (fun _ k_ => XS.aloadN X23.here hx rfl (hb hby d5_34) rfl rfl k_) ?_
  refine Go.st (S' := T23.setTop (mkF m 36 #[.val (.ref a), .val (.ref t), .val (.int H1.length.toInt32), .val (.int (0 : Int32))] [(.int (0 : Int32)), (.ref t)])) (fun _ k_ => XS.iloadN X23.here hx rfl (hb hby d5_35) rfl k_) ?_
  refine Go.st (S' := T23.setTop (mkF m 37 #[.val (.ref a), .val (.ref t), .val (.int H1.length.toInt32), .val (.int (0 : Int32))] [(.int x0)])) (A_t.load X23 hx hZ e23 (j := (0 : Int32)) (v := x0) (by decide) rfl (g := (mkF m 36 #[.val (.ref a), .val (.ref t), .val (.int H1.length.toInt32), .val (.int (0 : Int32))] [(.int (0 : Int32)), (.ref t)])) rfl rfl (hb hby d5_36)) ?_
  by_cases hx0 : x0 = (0 : Int32)
  · skip
    refine Go.st (S' := T23.setTop (mkF m 58 #[.val (.ref a), .val (.ref t), .val (.int H1.length.toInt32), .val (.int (0 : Int32))] [])) (fun _ k_ => XS.ifYes X23.here hx rfl (pc0 := 37) (pc' := 58) rfl (hb hby d5_37) rfl ((if0 _ _).trans (teq hx0).1) (by decide) (by decide) k_) ?_
    refine Go.st (S' := T23.setTop (mkF m 61 #[.val (.ref a), .val (.ref t), .val (.int H1.length.toInt32), .val (.int ((0 : Int32) + (1 : Int32)))] [])) (fun _ k_ => XS.iinc X23.here hx rfl (hb hby d5_58) rfl (l' := #[.val (.ref a), .val (.ref t), .val (.int H1.length.toInt32), .val (.int ((0 : Int32) + (1 : Int32)))]) rfl k_) ?_
    rw [show ((0 : Int32) + (1 : Int32)) = (1 : Int32) from rfl]
    refine Go.st (S' := T23.setTop (mkF m 26 #[.val (.ref a), .val (.ref t), .val (.int H1.length.toInt32), .val (.int (1 : Int32))] [])) (fun _ k_ => XS.goto X23.here hx rfl (pc0 := 61) (pc' := 26) rfl (hb hby d5_61) (by decide) (by decide) k_) ?_
    refine Go.st (S' := T23.setTop (mkF m 27 #[.val (.ref a), .val (.ref t), .val (.int H1.length.toInt32), .val (.int (1 : Int32))] [(.int (1 : Int32))])) (fun _ k_ => XS.iloadN X23.here hx rfl (hb hby d5_26) rfl k_) ?_
    refine Go.st (S' := T23.setTop (mkF m 28 #[.val (.ref a), .val (.ref t), .val (.int H1.length.toInt32), .val (.int (1 : Int32))] [(.ref a), (.int (1 : Int32))])) (fun _ k_ => XS.aloadN X23.here hx rfl (hb hby d5_27) rfl rfl k_) ?_
    obtain ⟨T24, X24, e24, st24⟩ := getF X23 hx hZ hown (host := "") (Or.inl (w27 hw)) Via.refl e23 F_places_a (g := (mkF m 28 #[.val (.ref a), .val (.ref t), .val (.int H1.length.toInt32), .val (.int (1 : Int32))] [(.ref a), (.int (1 : Int32))])) rfl rfl (hb hby d5_28)
    refine Go.st (S' := T24.setTop (mkF m 31 #[.val (.ref a), .val (.ref t), .val (.int H1.length.toInt32), .val (.int (1 : Int32))] [(.int (3 : Int32)), (.int (1 : Int32))])) (st24) ?_
    refine Go.st (S' := T24.setTop (mkF m 34 #[.val (.ref a), .val (.ref t), .val (.int H1.length.toInt32), .val (.int (1 : Int32))] [])) (fun _ k_ => XS.icmpNo X24.here hx rfl (hb hby d5_31) rfl (tlt (by decide)).2.1 k_) ?_
    refine Go.st (S' := T24.setTop (mkF m 35 #[.val (.ref a), .val (.ref t), .val (.int H1.length.toInt32), .val (.int (1 : Int32))] [(.ref t)])) (fun _ k_ => XS.aloadN X24.here hx rfl (hb hby d5_34) rfl rfl k_) ?_
    refine Go.st (S' := T24.setTop (mkF m 36 #[.val (.ref a), .val (.ref t), .val (.int H1.length.toInt32), .val (.int (1 : Int32))] [(.int (1 : Int32)), (.ref t)])) (fun _ k_ => XS.iloadN X24.here hx rfl (hb hby d5_35) rfl k_) ?_
    refine Go.st (S' := T24.setTop (mkF m 37 #[.val (.ref a), .val (.ref t), .val (.int H1.length.toInt32), .val (.int (1 : Int32))] [(.int x1)])) (A_t.load X24 hx hZ e24 (j := (1 : Int32)) (v := x1) (by decide) rfl (g := (mkF m 36 #[.val (.ref a), .val (.ref t), .val (.int H1.length.toInt32), .val (.int (1 : Int32))] [(.int (1 : Int32)), (.ref t)])) rfl rfl (hb hby d5_36)) ?_
    by_cases hx1 : x1 = (0 : Int32)
    · skip
      refine Go.st (S' := T24.setTop (mkF m 58 #[.val (.ref a), .val (.ref t), .val (.int H1.length.toInt32), .val (.int (1 : Int32))] [])) (fun _ k_ => XS.ifYes X24.here hx rfl (pc0 := 37) (pc' := 58) rfl (hb hby d5_37) rfl ((if0 _ _).trans (teq hx1).1) (by decide) (by decide) k_) ?_
      refine Go.st (S' := T24.setTop (mkF m 61 #[.val (.ref a), .val (.ref t), .val (.int H1.length.toInt32), .val (.int ((1 : Int32) + (1 : Int32)))] [])) (fun _ k_ => XS.iinc X24.here hx rfl (hb hby d5_58) rfl (l' := #[.val (.ref a), .val (.ref t), .val (.int H1.length.toInt32), .val (.int ((1 : Int32) + (1 : Int32)))]) rfl k_) ?_
      rw [show ((1 : Int32) + (1 : Int32)) = (2 : Int32) from rfl]
      refine Go.st (S' := T24.setTop (mkF m 26 #[.val (.ref a), .val (.ref t), .val (.int H1.length.toInt32), .val (.int (2 : Int32))] [])) (fun _ k_ => XS.goto X24.here hx rfl (pc0 := 61) (pc' := 26) rfl (hb hby d5_61) (by decide) (by decide) k_) ?_
      refine Go.st (S' := T24.setTop (mkF m 27 #[.val (.ref a), .val (.ref t), .val (.int H1.length.toInt32), .val (.int (2 : Int32))] [(.int (2 : Int32))])) (fun _ k_ => XS.iloadN X24.here hx rfl (hb hby d5_26) rfl k_) ?_
      refine Go.st (S' := T24.setTop (mkF m 28 #[.val (.ref a), .val (.ref t), .val (.int H1.length.toInt32), .val (.int (2 : Int32))] [(.ref a), (.int (2 : Int32))])) (fun _ k_ => XS.aloadN X24.here hx rfl (hb hby d5_27) rfl rfl k_) ?_
      obtain ⟨T25, X25, e25, st25⟩ := getF X24 hx hZ hown (host := "") (Or.inl (w27 hw)) Via.refl e24 F_places_a (g := (mkF m 28 #[.val (.ref a), .val (.ref t), .val (.int H1.length.toInt32), .val (.int (2 : Int32))] [(.ref a), (.int (2 : Int32))])) rfl rfl (hb hby d5_28)
      refine Go.st (S' := T25.setTop (mkF m 31 #[.val (.ref a), .val (.ref t), .val (.int H1.length.toInt32), .val (.int (2 : Int32))] [(.int (3 : Int32)), (.int (2 : Int32))])) (st25) ?_
      refine Go.st (S' := T25.setTop (mkF m 34 #[.val (.ref a), .val (.ref t), .val (.int H1.length.toInt32), .val (.int (2 : Int32))] [])) (fun _ k_ => XS.icmpNo X25.here hx rfl (hb hby d5_31) rfl (tlt (by decide)).2.1 k_) ?_
      refine Go.st (S' := T25.setTop (mkF m 35 #[.val (.ref a), .val (.ref t), .val (.int H1.length.toInt32), .val (.int (2 : Int32))] [(.ref t)])) (fun _ k_ => XS.aloadN X25.here hx rfl (hb hby d5_34) rfl rfl k_) ?_
      refine Go.st (S' := T25.setTop (mkF m 36 #[.val (.ref a), .val (.ref t), .val (.int H1.length.toInt32), .val (.int (2 : Int32))] [(.int (2 : Int32)), (.ref t)])) (fun _ k_ => XS.iloadN X25.here hx rfl (hb hby d5_35) rfl k_) ?_
      refine Go.st (S' := T25.setTop (mkF m 37 #[.val (.ref a), .val (.ref t), .val (.int H1.length.toInt32), .val (.int (2 : Int32))] [(.int x2)])) (A_t.load X25 hx hZ e25 (j := (2 : Int32)) (v := x2) (by decide) rfl (g := (mkF m 36 #[.val (.ref a), .val (.ref t), .val (.int H1.length.toInt32), .val (.int (2 : Int32))] [(.int (2 : Int32)), (.ref t)])) rfl rfl (hb hby d5_36)) ?_
      by_cases hx2 : x2 = (0 : Int32)
      · skip
        refine Go.st (S' := T25.setTop (mkF m 58 #[.val (.ref a), .val (.ref t), .val (.int H1.length.toInt32), .val (.int (2 : Int32))] [])) (fun _ k_ => XS.ifYes X25.here hx rfl (pc0 := 37) (pc' := 58) rfl (hb hby d5_37) rfl ((if0 _ _).trans (teq hx2).1) (by decide) (by decide) k_) ?_
        refine Go.st (S' := T25.setTop (mkF m 61 #[.val (.ref a), .val (.ref t), .val (.int H1.length.toInt32), .val (.int ((2 : Int32) + (1 : Int32)))] [])) (fun _ k_ => XS.iinc X25.here hx rfl (hb hby d5_58) rfl (l' := #[.val (.ref a), .val (.ref t), .val (.int H1.length.toInt32), .val (.int ((2 : Int32) + (1 : Int32)))]) rfl k_) ?_
        rw [show ((2 : Int32) + (1 : Int32)) = (3 : Int32) from rfl]
        refine Go.st (S' := T25.setTop (mkF m 26 #[.val (.ref a), .val (.ref t), .val (.int H1.length.toInt32), .val (.int (3 : Int32))] [])) (fun _ k_ => XS.goto X25.here hx rfl (pc0 := 61) (pc' := 26) rfl (hb hby d5_61) (by decide) (by decide) k_) ?_
        refine Go.st (S' := T25.setTop (mkF m 27 #[.val (.ref a), .val (.ref t), .val (.int H1.length.toInt32), .val (.int (3 : Int32))] [(.int (3 : Int32))])) (fun _ k_ => XS.iloadN X25.here hx rfl (hb hby d5_26) rfl k_) ?_
        refine Go.st (S' := T25.setTop (mkF m 28 #[.val (.ref a), .val (.ref t), .val (.int H1.length.toInt32), .val (.int (3 : Int32))] [(.ref a), (.int (3 : Int32))])) (fun _ k_ => XS.aloadN X25.here hx rfl (hb hby d5_27) rfl rfl k_) ?_
        obtain ⟨T26, X26, e26, st26⟩ := getF X25 hx hZ hown (host := "") (Or.inl (w27 hw)) Via.refl e25 F_places_a (g := (mkF m 28 #[.val (.ref a), .val (.ref t), .val (.int H1.length.toInt32), .val (.int (3 : Int32))] [(.ref a), (.int (3 : Int32))])) rfl rfl (hb hby d5_28)
        refine Go.st (S' := T26.setTop (mkF m 31 #[.val (.ref a), .val (.ref t), .val (.int H1.length.toInt32), .val (.int (3 : Int32))] [(.int (3 : Int32)), (.int (3 : Int32))])) (st26) ?_
        refine Go.st (S' := T26.setTop (mkF m 64 #[.val (.ref a), .val (.ref t), .val (.int H1.length.toInt32), .val (.int (3 : Int32))] [])) (fun _ k_ => XS.icmpYes X26.here hx rfl (pc0 := 31) (pc' := 64) rfl (hb hby d5_31) rfl (flt (by decide)).2.1 (by decide) (by decide) k_) ?_
        have hPe : P = (P ++ own_flat (own_ps x0 x1 x2)) := by simp [own_ps, own_flat, hx0, hx1, hx2, List.filter]
        rw [hPe] at IL_pr
        exact J64 _ _ _ X26 e26 N22 Z0 K0 E_a F_pairs_a F_starts_a F_hashes_a F_slots_a F_places_a IL_pr IL_ss IL_hs A_sl A_t E_t
      · skip
        refine Go.st (S' := T25.setTop (mkF m 40 #[.val (.ref a), .val (.ref t), .val (.int H1.length.toInt32), .val (.int (2 : Int32))] [])) (fun _ k_ => XS.ifNo X25.here hx rfl (hb hby d5_37) rfl ((if0 _ _).trans (feq hx2).1) k_) ?_
        refine Go.st (S' := T25.setTop (mkF m 41 #[.val (.ref a), .val (.ref t), .val (.int H1.length.toInt32), .val (.int (2 : Int32))] [(.ref a)])) (fun _ k_ => XS.aloadN X25.here hx rfl (hb hby d5_40) rfl rfl k_) ?_
        obtain ⟨T27, X27, e27, st27⟩ := getF X25 hx hZ hown (host := "") (Or.inl (w19 hw)) Via.refl e25 F_pairs_a (g := (mkF m 41 #[.val (.ref a), .val (.ref t), .val (.int H1.length.toInt32), .val (.int (2 : Int32))] [(.ref a)])) rfl rfl (hb hby d5_41)
        refine Go.st (S' := T27.setTop (mkF m 44 #[.val (.ref a), .val (.ref t), .val (.int H1.length.toInt32), .val (.int (2 : Int32))] [(.ref pr)])) (st27) ?_
        refine Go.st (S' := T27.setTop (mkF m 45 #[.val (.ref a), .val (.ref t), .val (.int H1.length.toInt32), .val (.int (2 : Int32))] [(.int (2 : Int32)), (.ref pr)])) (fun _ k_ => XS.iloadN X27.here hx rfl (hb hby d5_44) rfl k_) ?_
        obtain ⟨v28, T28, h28, L28, X28, e28, hQ28, st28⟩ := callVi X27 hx hZ hown (w31 hw) (w32 hw) (w34 hw) (w33 hw) (w12 hw) (w35 hw) (by decide) (W := 0) (argsL := [(.int (2 : Int32))]) (rest := []) e27 IL_pr.1 (il_add l Z a0 hw pr prb (2 : Int32) P h0 n0 Z0 IL_pr (by first | decide | (simp; omega) | omega) g_pr g_prb ne_pr_prb) (by decide) (by decide) pd4 rfl (g := (mkF m 45 #[.val (.ref a), .val (.ref t), .val (.int H1.length.toInt32), .val (.int (2 : Int32))] [(.int (2 : Int32)), (.ref pr)])) rfl (by rw [hml]; rfl) rfl (by show 2 * 0 + _ ≤ _; exact Nat.le_of_eq rfl) (hb hby d5_45) (by decide) (by decide)
        obtain ⟨rfl, Nq28, Kq28, IL_pr⟩ := hQ28
        have N28 := Fr.app N22 Nq28
        replace E_a := E_a.keep Kq28
        replace F_pairs_a := F_pairs_a.keep Kq28 (ninS ne_a_pr (ninS ne_a_prb nin0))
        replace F_starts_a := F_starts_a.keep Kq28 (ninS ne_a_pr (ninS ne_a_prb nin0))
        replace F_hashes_a := F_hashes_a.keep Kq28 (ninS ne_a_pr (ninS ne_a_prb nin0))
        replace F_slots_a := F_slots_a.keep Kq28 (ninS ne_a_pr (ninS ne_a_prb nin0))
        replace F_places_a := F_places_a.keep Kq28 (ninS ne_a_pr (ninS ne_a_prb nin0))
        replace IL_ss := IL_ss.keep Kq28 ⟨(ninS (Ne.symm ne_pr_ss) (ninS (Ne.symm ne_prb_ss) nin0)), (ninS (Ne.symm ne_pr_ssb) (ninS (Ne.symm ne_prb_ssb) nin0))⟩
        replace IL_hs := IL_hs.keep Kq28 ⟨(ninS (Ne.symm ne_pr_hs) (ninS (Ne.symm ne_prb_hs) nin0)), (ninS (Ne.symm ne_pr_hsb) (ninS (Ne.symm ne_prb_hsb) nin0))⟩
        replace A_sl := A_sl.keep Kq28 (ninS (Ne.symm ne_pr_sl) (ninS (Ne.symm ne_prb_sl) nin0))
        replace A_t := A_t.keep Kq28 (ninS ne_t_pr (ninS ne_t_prb nin0))
        replace E_t := E_t.keep Kq28
        replace Z0 := Nat.le_trans Z0 Kq28.1
        replace K0 := K0.trans Kq28 (allS (Or.inl (by simp)) (allS (Or.inl (by simp)) all0))
        refine Go.st (S' := T28.setTop (mkF m 48 #[.val (.ref a), .val (.ref t), .val (.int H1.length.toInt32), .val (.int (2 : Int32))] [])) (st28) ?_
        refine Go.st (S' := T28.setTop (mkF m 49 #[.val (.ref a), .val (.ref t), .val (.int H1.length.toInt32), .val (.int (2 : Int32))] [(.ref a)])) (fun _ k_ => XS.aloadN X28.here hx rfl (hb hby d5_48) rfl rfl k_) ?_
        obtain ⟨T29, X29, e29, st29⟩ := getF X28 hx hZ hown (host := "") (Or.inl (w19 hw)) Via.refl e28 F_pairs_a (g := (mkF m 49 #[.val (.ref a), .val (.ref t), .val (.int H1.length.toInt32), .val (.int (2 : Int32))] [(.ref a)])) rfl rfl (hb hby d5_49)
        refine Go.st (S' := T29.setTop (mkF m 52 #[.val (.ref a), .val (.ref t), .val (.int H1.length.toInt32), .val (.int (2 : Int32))] [(.ref pr)])) (st29) ?_
        refine Go.st (S' := T29.setTop (mkF m 53 #[.val (.ref a), .val (.ref t), .val (.int H1.length.toInt32), .val (.int (2 : Int32))] [(.ref t), (.ref pr)])) (fun _ k_ => XS.aloadN X29.here hx rfl (hb hby d5_52) rfl rfl k_) ?_
        refine Go.st (S' := T29.setTop (mkF m 54 #[.val (.ref a), .val (.ref t), .val (.int H1.length.toInt32), .val (.int (2 : Int32))] [(.int (2 : Int32)), (.ref t), (.ref pr)])) (fun _ k_ => XS.iloadN X29.here hx rfl (hb hby d5_53) rfl k_) ?_
        refine Go.st (S' := T29.setTop (mkF m 55 #[.val (.ref a), .val (.ref t), .val (.int H1.length.toInt32), .val (.int (2 : Int32))] [(.int x2), (.ref pr)])) (A_t.load X29 hx hZ e29 (j := (2 : Int32)) (v := x2) (by decide) rfl (g := (mkF m 54 #[.val (.ref a), .val (.ref t), .val (.int H1.length.toInt32), .val (.int (2 : Int32))] [(.int (2 : Int32)), (.ref t), (.ref pr)])) rfl rfl (hb hby d5_54)) ?_
        obtain ⟨v30, T30, h30, L30, X30, e30, hQ30, st30⟩ := callVi X29 hx hZ hown (w31 hw) (w32 hw) (w34 hw) (w33 hw) (w12 hw) (w35 hw) (by decide) (W := 0) (argsL := [(.int x2)]) (rest := []) e29 IL_pr.1 (il_add l Z a0 hw pr prb x2 (P ++ [(2 : Int32)]) h28 n0 Z0 IL_pr (by first | decide | (simp; omega) | omega) g_pr g_prb ne_pr_prb) (by decide) (by decide) pd4 rfl (g := (mkF m 55 #[.val (.ref a), .val (.ref t), .val (.int H1.length.toInt32), .val (.int (2 : Int32))] [(.int x2), (.ref pr)])) rfl (by rw [hml]; rfl) rfl (by show 2 * 0 + _ ≤ _; exact Nat.le_of_eq rfl) (hb hby d5_55) (by decide) (by decide)
        obtain ⟨rfl, Nq30, Kq30, IL_pr⟩ := hQ30
        have N30 := Fr.app N28 Nq30
        replace E_a := E_a.keep Kq30
        replace F_pairs_a := F_pairs_a.keep Kq30 (ninS ne_a_pr (ninS ne_a_prb nin0))
        replace F_starts_a := F_starts_a.keep Kq30 (ninS ne_a_pr (ninS ne_a_prb nin0))
        replace F_hashes_a := F_hashes_a.keep Kq30 (ninS ne_a_pr (ninS ne_a_prb nin0))
        replace F_slots_a := F_slots_a.keep Kq30 (ninS ne_a_pr (ninS ne_a_prb nin0))
        replace F_places_a := F_places_a.keep Kq30 (ninS ne_a_pr (ninS ne_a_prb nin0))
        replace IL_ss := IL_ss.keep Kq30 ⟨(ninS (Ne.symm ne_pr_ss) (ninS (Ne.symm ne_prb_ss) nin0)), (ninS (Ne.symm ne_pr_ssb) (ninS (Ne.symm ne_prb_ssb) nin0))⟩
        replace IL_hs := IL_hs.keep Kq30 ⟨(ninS (Ne.symm ne_pr_hs) (ninS (Ne.symm ne_prb_hs) nin0)), (ninS (Ne.symm ne_pr_hsb) (ninS (Ne.symm ne_prb_hsb) nin0))⟩
        replace A_sl := A_sl.keep Kq30 (ninS (Ne.symm ne_pr_sl) (ninS (Ne.symm ne_prb_sl) nin0))
        replace A_t := A_t.keep Kq30 (ninS ne_t_pr (ninS ne_t_prb nin0))
        replace E_t := E_t.keep Kq30
        replace Z0 := Nat.le_trans Z0 Kq30.1
        replace K0 := K0.trans Kq30 (allS (Or.inl (by simp)) (allS (Or.inl (by simp)) all0))
        refine Go.st (S' := T30.setTop (mkF m 58 #[.val (.ref a), .val (.ref t), .val (.int H1.length.toInt32), .val (.int (2 : Int32))] [])) (st30) ?_
        refine Go.st (S' := T30.setTop (mkF m 61 #[.val (.ref a), .val (.ref t), .val (.int H1.length.toInt32), .val (.int ((2 : Int32) + (1 : Int32)))] [])) (fun _ k_ => XS.iinc X30.here hx rfl (hb hby d5_58) rfl (l' := #[.val (.ref a), .val (.ref t), .val (.int H1.length.toInt32), .val (.int ((2 : Int32) + (1 : Int32)))]) rfl k_) ?_
        rw [show ((2 : Int32) + (1 : Int32)) = (3 : Int32) from rfl]
        refine Go.st (S' := T30.setTop (mkF m 26 #[.val (.ref a), .val (.ref t), .val (.int H1.length.toInt32), .val (.int (3 : Int32))] [])) (fun _ k_ => XS.goto X30.here hx rfl (pc0 := 61) (pc' := 26) rfl (hb hby d5_61) (by decide) (by decide) k_) ?_
        refine Go.st (S' := T30.setTop (mkF m 27 #[.val (.ref a), .val (.ref t), .val (.int H1.length.toInt32), .val (.int (3 : Int32))] [(.int (3 : Int32))])) (fun _ k_ => XS.iloadN X30.here hx rfl (hb hby d5_26) rfl k_) ?_
        refine Go.st (S' := T30.setTop (mkF m 28 #[.val (.ref a), .val (.ref t), .val (.int H1.length.toInt32), .val (.int (3 : Int32))] [(.ref a), (.int (3 : Int32))])) (fun _ k_ => XS.aloadN X30.here hx rfl (hb hby d5_27) rfl rfl k_) ?_
        obtain ⟨T31, X31, e31, st31⟩ := getF X30 hx hZ hown (host := "") (Or.inl (w27 hw)) Via.refl e30 F_places_a (g := (mkF m 28 #[.val (.ref a), .val (.ref t), .val (.int H1.length.toInt32), .val (.int (3 : Int32))] [(.ref a), (.int (3 : Int32))])) rfl rfl (hb hby d5_28)
        refine Go.st (S' := T31.setTop (mkF m 31 #[.val (.ref a), .val (.ref t), .val (.int H1.length.toInt32), .val (.int (3 : Int32))] [(.int (3 : Int32)), (.int (3 : Int32))])) (st31) ?_
        refine Go.st (S' := T31.setTop (mkF m 64 #[.val (.ref a), .val (.ref t), .val (.int H1.length.toInt32), .val (.int (3 : Int32))] [])) (fun _ k_ => XS.icmpYes X31.here hx rfl (pc0 := 31) (pc' := 64) rfl (hb hby d5_31) rfl (flt (by decide)).2.1 (by decide) (by decide) k_) ?_
        have hPe : ((P ++ [(2 : Int32)]) ++ [x2]) = (P ++ own_flat (own_ps x0 x1 x2)) := by simp [own_ps, own_flat, hx0, hx1, hx2, List.filter]
        rw [hPe] at IL_pr
        exact J64 _ _ _ X31 e31 N30 Z0 K0 E_a F_pairs_a F_starts_a F_hashes_a F_slots_a F_places_a IL_pr IL_ss IL_hs A_sl A_t E_t
    · skip
      refine Go.st (S' := T24.setTop (mkF m 40 #[.val (.ref a), .val (.ref t), .val (.int H1.length.toInt32), .val (.int (1 : Int32))] [])) (fun _ k_ => XS.ifNo X24.here hx rfl (hb hby d5_37) rfl ((if0 _ _).trans (feq hx1).1) k_) ?_
      refine Go.st (S' := T24.setTop (mkF m 41 #[.val (.ref a), .val (.ref t), .val (.int H1.length.toInt32), .val (.int (1 : Int32))] [(.ref a)])) (fun _ k_ => XS.aloadN X24.here hx rfl (hb hby d5_40) rfl rfl k_) ?_
      obtain ⟨T32, X32, e32, st32⟩ := getF X24 hx hZ hown (host := "") (Or.inl (w19 hw)) Via.refl e24 F_pairs_a (g := (mkF m 41 #[.val (.ref a), .val (.ref t), .val (.int H1.length.toInt32), .val (.int (1 : Int32))] [(.ref a)])) rfl rfl (hb hby d5_41)
      refine Go.st (S' := T32.setTop (mkF m 44 #[.val (.ref a), .val (.ref t), .val (.int H1.length.toInt32), .val (.int (1 : Int32))] [(.ref pr)])) (st32) ?_
      refine Go.st (S' := T32.setTop (mkF m 45 #[.val (.ref a), .val (.ref t), .val (.int H1.length.toInt32), .val (.int (1 : Int32))] [(.int (1 : Int32)), (.ref pr)])) (fun _ k_ => XS.iloadN X32.here hx rfl (hb hby d5_44) rfl k_) ?_
      obtain ⟨v33, T33, h33, L33, X33, e33, hQ33, st33⟩ := callVi X32 hx hZ hown (w31 hw) (w32 hw) (w34 hw) (w33 hw) (w12 hw) (w35 hw) (by decide) (W := 0) (argsL := [(.int (1 : Int32))]) (rest := []) e32 IL_pr.1 (il_add l Z a0 hw pr prb (1 : Int32) P h0 n0 Z0 IL_pr (by first | decide | (simp; omega) | omega) g_pr g_prb ne_pr_prb) (by decide) (by decide) pd4 rfl (g := (mkF m 45 #[.val (.ref a), .val (.ref t), .val (.int H1.length.toInt32), .val (.int (1 : Int32))] [(.int (1 : Int32)), (.ref pr)])) rfl (by rw [hml]; rfl) rfl (by show 2 * 0 + _ ≤ _; exact Nat.le_of_eq rfl) (hb hby d5_45) (by decide) (by decide)
      obtain ⟨rfl, Nq33, Kq33, IL_pr⟩ := hQ33
      have N33 := Fr.app N22 Nq33
      replace E_a := E_a.keep Kq33
      replace F_pairs_a := F_pairs_a.keep Kq33 (ninS ne_a_pr (ninS ne_a_prb nin0))
      replace F_starts_a := F_starts_a.keep Kq33 (ninS ne_a_pr (ninS ne_a_prb nin0))
      replace F_hashes_a := F_hashes_a.keep Kq33 (ninS ne_a_pr (ninS ne_a_prb nin0))
      replace F_slots_a := F_slots_a.keep Kq33 (ninS ne_a_pr (ninS ne_a_prb nin0))
      replace F_places_a := F_places_a.keep Kq33 (ninS ne_a_pr (ninS ne_a_prb nin0))
      replace IL_ss := IL_ss.keep Kq33 ⟨(ninS (Ne.symm ne_pr_ss) (ninS (Ne.symm ne_prb_ss) nin0)), (ninS (Ne.symm ne_pr_ssb) (ninS (Ne.symm ne_prb_ssb) nin0))⟩
      replace IL_hs := IL_hs.keep Kq33 ⟨(ninS (Ne.symm ne_pr_hs) (ninS (Ne.symm ne_prb_hs) nin0)), (ninS (Ne.symm ne_pr_hsb) (ninS (Ne.symm ne_prb_hsb) nin0))⟩
      replace A_sl := A_sl.keep Kq33 (ninS (Ne.symm ne_pr_sl) (ninS (Ne.symm ne_prb_sl) nin0))
      replace A_t := A_t.keep Kq33 (ninS ne_t_pr (ninS ne_t_prb nin0))
      replace E_t := E_t.keep Kq33
      replace Z0 := Nat.le_trans Z0 Kq33.1
      replace K0 := K0.trans Kq33 (allS (Or.inl (by simp)) (allS (Or.inl (by simp)) all0))
      refine Go.st (S' := T33.setTop (mkF m 48 #[.val (.ref a), .val (.ref t), .val (.int H1.length.toInt32), .val (.int (1 : Int32))] [])) (st33) ?_
      refine Go.st (S' := T33.setTop (mkF m 49 #[.val (.ref a), .val (.ref t), .val (.int H1.length.toInt32), .val (.int (1 : Int32))] [(.ref a)])) (fun _ k_ => XS.aloadN X33.here hx rfl (hb hby d5_48) rfl rfl k_) ?_
      obtain ⟨T34, X34, e34, st34⟩ := getF X33 hx hZ hown (host := "") (Or.inl (w19 hw)) Via.refl e33 F_pairs_a (g := (mkF m 49 #[.val (.ref a), .val (.ref t), .val (.int H1.length.toInt32), .val (.int (1 : Int32))] [(.ref a)])) rfl rfl (hb hby d5_49)
      refine Go.st (S' := T34.setTop (mkF m 52 #[.val (.ref a), .val (.ref t), .val (.int H1.length.toInt32), .val (.int (1 : Int32))] [(.ref pr)])) (st34) ?_
      refine Go.st (S' := T34.setTop (mkF m 53 #[.val (.ref a), .val (.ref t), .val (.int H1.length.toInt32), .val (.int (1 : Int32))] [(.ref t), (.ref pr)])) (fun _ k_ => XS.aloadN X34.here hx rfl (hb hby d5_52) rfl rfl k_) ?_
      refine Go.st (S' := T34.setTop (mkF m 54 #[.val (.ref a), .val (.ref t), .val (.int H1.length.toInt32), .val (.int (1 : Int32))] [(.int (1 : Int32)), (.ref t), (.ref pr)])) (fun _ k_ => XS.iloadN X34.here hx rfl (hb hby d5_53) rfl k_) ?_
      refine Go.st (S' := T34.setTop (mkF m 55 #[.val (.ref a), .val (.ref t), .val (.int H1.length.toInt32), .val (.int (1 : Int32))] [(.int x1), (.ref pr)])) (A_t.load X34 hx hZ e34 (j := (1 : Int32)) (v := x1) (by decide) rfl (g := (mkF m 54 #[.val (.ref a), .val (.ref t), .val (.int H1.length.toInt32), .val (.int (1 : Int32))] [(.int (1 : Int32)), (.ref t), (.ref pr)])) rfl rfl (hb hby d5_54)) ?_
      obtain ⟨v35, T35, h35, L35, X35, e35, hQ35, st35⟩ := callVi X34 hx hZ hown (w31 hw) (w32 hw) (w34 hw) (w33 hw) (w12 hw) (w35 hw) (by decide) (W := 0) (argsL := [(.int x1)]) (rest := []) e34 IL_pr.1 (il_add l Z a0 hw pr prb x1 (P ++ [(1 : Int32)]) h33 n0 Z0 IL_pr (by first | decide | (simp; omega) | omega) g_pr g_prb ne_pr_prb) (by decide) (by decide) pd4 rfl (g := (mkF m 55 #[.val (.ref a), .val (.ref t), .val (.int H1.length.toInt32), .val (.int (1 : Int32))] [(.int x1), (.ref pr)])) rfl (by rw [hml]; rfl) rfl (by show 2 * 0 + _ ≤ _; exact Nat.le_of_eq rfl) (hb hby d5_55) (by decide) (by decide)
      obtain ⟨rfl, Nq35, Kq35, IL_pr⟩ := hQ35
      have N35 := Fr.app N33 Nq35
      replace E_a := E_a.keep Kq35
      replace F_pairs_a := F_pairs_a.keep Kq35 (ninS ne_a_pr (ninS ne_a_prb nin0))
      replace F_starts_a := F_starts_a.keep Kq35 (ninS ne_a_pr (ninS ne_a_prb nin0))
      replace F_hashes_a := F_hashes_a.keep Kq35 (ninS ne_a_pr (ninS ne_a_prb nin0))
      replace F_slots_a := F_slots_a.keep Kq35 (ninS ne_a_pr (ninS ne_a_prb nin0))
      replace F_places_a := F_places_a.keep Kq35 (ninS ne_a_pr (ninS ne_a_prb nin0))
      replace IL_ss := IL_ss.keep Kq35 ⟨(ninS (Ne.symm ne_pr_ss) (ninS (Ne.symm ne_prb_ss) nin0)), (ninS (Ne.symm ne_pr_ssb) (ninS (Ne.symm ne_prb_ssb) nin0))⟩
      replace IL_hs := IL_hs.keep Kq35 ⟨(ninS (Ne.symm ne_pr_hs) (ninS (Ne.symm ne_prb_hs) nin0)), (ninS (Ne.symm ne_pr_hsb) (ninS (Ne.symm ne_prb_hsb) nin0))⟩
      replace A_sl := A_sl.keep Kq35 (ninS (Ne.symm ne_pr_sl) (ninS (Ne.symm ne_prb_sl) nin0))
      replace A_t := A_t.keep Kq35 (ninS ne_t_pr (ninS ne_t_prb nin0))
      replace E_t := E_t.keep Kq35
      replace Z0 := Nat.le_trans Z0 Kq35.1
      replace K0 := K0.trans Kq35 (allS (Or.inl (by simp)) (allS (Or.inl (by simp)) all0))
      refine Go.st (S' := T35.setTop (mkF m 58 #[.val (.ref a), .val (.ref t), .val (.int H1.length.toInt32), .val (.int (1 : Int32))] [])) (st35) ?_
      refine Go.st (S' := T35.setTop (mkF m 61 #[.val (.ref a), .val (.ref t), .val (.int H1.length.toInt32), .val (.int ((1 : Int32) + (1 : Int32)))] [])) (fun _ k_ => XS.iinc X35.here hx rfl (hb hby d5_58) rfl (l' := #[.val (.ref a), .val (.ref t), .val (.int H1.length.toInt32), .val (.int ((1 : Int32) + (1 : Int32)))]) rfl k_) ?_
      rw [show ((1 : Int32) + (1 : Int32)) = (2 : Int32) from rfl]
      refine Go.st (S' := T35.setTop (mkF m 26 #[.val (.ref a), .val (.ref t), .val (.int H1.length.toInt32), .val (.int (2 : Int32))] [])) (fun _ k_ => XS.goto X35.here hx rfl (pc0 := 61) (pc' := 26) rfl (hb hby d5_61) (by decide) (by decide) k_) ?_
      refine Go.st (S' := T35.setTop (mkF m 27 #[.val (.ref a), .val (.ref t), .val (.int H1.length.toInt32), .val (.int (2 : Int32))] [(.int (2 : Int32))])) (fun _ k_ => XS.iloadN X35.here hx rfl (hb hby d5_26) rfl k_) ?_
      refine Go.st (S' := T35.setTop (mkF m 28 #[.val (.ref a), .val (.ref t), .val (.int H1.length.toInt32), .val (.int (2 : Int32))] [(.ref a), (.int (2 : Int32))])) (fun _ k_ => XS.aloadN X35.here hx rfl (hb hby d5_27) rfl rfl k_) ?_
      obtain ⟨T36, X36, e36, st36⟩ := getF X35 hx hZ hown (host := "") (Or.inl (w27 hw)) Via.refl e35 F_places_a (g := (mkF m 28 #[.val (.ref a), .val (.ref t), .val (.int H1.length.toInt32), .val (.int (2 : Int32))] [(.ref a), (.int (2 : Int32))])) rfl rfl (hb hby d5_28)
      refine Go.st (S' := T36.setTop (mkF m 31 #[.val (.ref a), .val (.ref t), .val (.int H1.length.toInt32), .val (.int (2 : Int32))] [(.int (3 : Int32)), (.int (2 : Int32))])) (st36) ?_
      refine Go.st (S' := T36.setTop (mkF m 34 #[.val (.ref a), .val (.ref t), .val (.int H1.length.toInt32), .val (.int (2 : Int32))] [])) (fun _ k_ => XS.icmpNo X36.here hx rfl (hb hby d5_31) rfl (tlt (by decide)).2.1 k_) ?_
      refine Go.st (S' := T36.setTop (mkF m 35 #[.val (.ref a), .val (.ref t), .val (.int H1.length.toInt32), .val (.int (2 : Int32))] [(.ref t)])) (fun _ k_ => XS.aloadN X36.here hx rfl (hb hby d5_34) rfl rfl k_) ?_
      refine Go.st (S' := T36.setTop (mkF m 36 #[.val (.ref a), .val (.ref t), .val (.int H1.length.toInt32), .val (.int (2 : Int32))] [(.int (2 : Int32)), (.ref t)])) (fun _ k_ => XS.iloadN X36.here hx rfl (hb hby d5_35) rfl k_) ?_
      refine Go.st (S' := T36.setTop (mkF m 37 #[.val (.ref a), .val (.ref t), .val (.int H1.length.toInt32), .val (.int (2 : Int32))] [(.int x2)])) (A_t.load X36 hx hZ e36 (j := (2 : Int32)) (v := x2) (by decide) rfl (g := (mkF m 36 #[.val (.ref a), .val (.ref t), .val (.int H1.length.toInt32), .val (.int (2 : Int32))] [(.int (2 : Int32)), (.ref t)])) rfl rfl (hb hby d5_36)) ?_
      by_cases hx2 : x2 = (0 : Int32)
      · skip
        refine Go.st (S' := T36.setTop (mkF m 58 #[.val (.ref a), .val (.ref t), .val (.int H1.length.toInt32), .val (.int (2 : Int32))] [])) (fun _ k_ => XS.ifYes X36.here hx rfl (pc0 := 37) (pc' := 58) rfl (hb hby d5_37) rfl ((if0 _ _).trans (teq hx2).1) (by decide) (by decide) k_) ?_
        refine Go.st (S' := T36.setTop (mkF m 61 #[.val (.ref a), .val (.ref t), .val (.int H1.length.toInt32), .val (.int ((2 : Int32) + (1 : Int32)))] [])) (fun _ k_ => XS.iinc X36.here hx rfl (hb hby d5_58) rfl (l' := #[.val (.ref a), .val (.ref t), .val (.int H1.length.toInt32), .val (.int ((2 : Int32) + (1 : Int32)))]) rfl k_) ?_
        rw [show ((2 : Int32) + (1 : Int32)) = (3 : Int32) from rfl]
        refine Go.st (S' := T36.setTop (mkF m 26 #[.val (.ref a), .val (.ref t), .val (.int H1.length.toInt32), .val (.int (3 : Int32))] [])) (fun _ k_ => XS.goto X36.here hx rfl (pc0 := 61) (pc' := 26) rfl (hb hby d5_61) (by decide) (by decide) k_) ?_
        refine Go.st (S' := T36.setTop (mkF m 27 #[.val (.ref a), .val (.ref t), .val (.int H1.length.toInt32), .val (.int (3 : Int32))] [(.int (3 : Int32))])) (fun _ k_ => XS.iloadN X36.here hx rfl (hb hby d5_26) rfl k_) ?_
        refine Go.st (S' := T36.setTop (mkF m 28 #[.val (.ref a), .val (.ref t), .val (.int H1.length.toInt32), .val (.int (3 : Int32))] [(.ref a), (.int (3 : Int32))])) (fun _ k_ => XS.aloadN X36.here hx rfl (hb hby d5_27) rfl rfl k_) ?_
        obtain ⟨T37, X37, e37, st37⟩ := getF X36 hx hZ hown (host := "") (Or.inl (w27 hw)) Via.refl e36 F_places_a (g := (mkF m 28 #[.val (.ref a), .val (.ref t), .val (.int H1.length.toInt32), .val (.int (3 : Int32))] [(.ref a), (.int (3 : Int32))])) rfl rfl (hb hby d5_28)
        refine Go.st (S' := T37.setTop (mkF m 31 #[.val (.ref a), .val (.ref t), .val (.int H1.length.toInt32), .val (.int (3 : Int32))] [(.int (3 : Int32)), (.int (3 : Int32))])) (st37) ?_
        refine Go.st (S' := T37.setTop (mkF m 64 #[.val (.ref a), .val (.ref t), .val (.int H1.length.toInt32), .val (.int (3 : Int32))] [])) (fun _ k_ => XS.icmpYes X37.here hx rfl (pc0 := 31) (pc' := 64) rfl (hb hby d5_31) rfl (flt (by decide)).2.1 (by decide) (by decide) k_) ?_
        have hPe : ((P ++ [(1 : Int32)]) ++ [x1]) = (P ++ own_flat (own_ps x0 x1 x2)) := by simp [own_ps, own_flat, hx0, hx1, hx2, List.filter]
        rw [hPe] at IL_pr
        exact J64 _ _ _ X37 e37 N35 Z0 K0 E_a F_pairs_a F_starts_a F_hashes_a F_slots_a F_places_a IL_pr IL_ss IL_hs A_sl A_t E_t
      · skip
        refine Go.st (S' := T36.setTop (mkF m 40 #[.val (.ref a), .val (.ref t), .val (.int H1.length.toInt32), .val (.int (2 : Int32))] [])) (fun _ k_ => XS.ifNo X36.here hx rfl (hb hby d5_37) rfl ((if0 _ _).trans (feq hx2).1) k_) ?_
        refine Go.st (S' := T36.setTop (mkF m 41 #[.val (.ref a), .val (.ref t), .val (.int H1.length.toInt32), .val (.int (2 : Int32))] [(.ref a)])) (fun _ k_ => XS.aloadN X36.here hx rfl (hb hby d5_40) rfl rfl k_) ?_
        obtain ⟨T38, X38, e38, st38⟩ := getF X36 hx hZ hown (host := "") (Or.inl (w19 hw)) Via.refl e36 F_pairs_a (g := (mkF m 41 #[.val (.ref a), .val (.ref t), .val (.int H1.length.toInt32), .val (.int (2 : Int32))] [(.ref a)])) rfl rfl (hb hby d5_41)
        refine Go.st (S' := T38.setTop (mkF m 44 #[.val (.ref a), .val (.ref t), .val (.int H1.length.toInt32), .val (.int (2 : Int32))] [(.ref pr)])) (st38) ?_
        refine Go.st (S' := T38.setTop (mkF m 45 #[.val (.ref a), .val (.ref t), .val (.int H1.length.toInt32), .val (.int (2 : Int32))] [(.int (2 : Int32)), (.ref pr)])) (fun _ k_ => XS.iloadN X38.here hx rfl (hb hby d5_44) rfl k_) ?_
        obtain ⟨v39, T39, h39, L39, X39, e39, hQ39, st39⟩ := callVi X38 hx hZ hown (w31 hw) (w32 hw) (w34 hw) (w33 hw) (w12 hw) (w35 hw) (by decide) (W := 0) (argsL := [(.int (2 : Int32))]) (rest := []) e38 IL_pr.1 (il_add l Z a0 hw pr prb (2 : Int32) ((P ++ [(1 : Int32)]) ++ [x1]) h35 n0 Z0 IL_pr (by first | decide | (simp; omega) | omega) g_pr g_prb ne_pr_prb) (by decide) (by decide) pd4 rfl (g := (mkF m 45 #[.val (.ref a), .val (.ref t), .val (.int H1.length.toInt32), .val (.int (2 : Int32))] [(.int (2 : Int32)), (.ref pr)])) rfl (by rw [hml]; rfl) rfl (by show 2 * 0 + _ ≤ _; exact Nat.le_of_eq rfl) (hb hby d5_45) (by decide) (by decide)
        obtain ⟨rfl, Nq39, Kq39, IL_pr⟩ := hQ39
        have N39 := Fr.app N35 Nq39
        replace E_a := E_a.keep Kq39
        replace F_pairs_a := F_pairs_a.keep Kq39 (ninS ne_a_pr (ninS ne_a_prb nin0))
        replace F_starts_a := F_starts_a.keep Kq39 (ninS ne_a_pr (ninS ne_a_prb nin0))
        replace F_hashes_a := F_hashes_a.keep Kq39 (ninS ne_a_pr (ninS ne_a_prb nin0))
        replace F_slots_a := F_slots_a.keep Kq39 (ninS ne_a_pr (ninS ne_a_prb nin0))
        replace F_places_a := F_places_a.keep Kq39 (ninS ne_a_pr (ninS ne_a_prb nin0))
        replace IL_ss := IL_ss.keep Kq39 ⟨(ninS (Ne.symm ne_pr_ss) (ninS (Ne.symm ne_prb_ss) nin0)), (ninS (Ne.symm ne_pr_ssb) (ninS (Ne.symm ne_prb_ssb) nin0))⟩
        replace IL_hs := IL_hs.keep Kq39 ⟨(ninS (Ne.symm ne_pr_hs) (ninS (Ne.symm ne_prb_hs) nin0)), (ninS (Ne.symm ne_pr_hsb) (ninS (Ne.symm ne_prb_hsb) nin0))⟩
        replace A_sl := A_sl.keep Kq39 (ninS (Ne.symm ne_pr_sl) (ninS (Ne.symm ne_prb_sl) nin0))
        replace A_t := A_t.keep Kq39 (ninS ne_t_pr (ninS ne_t_prb nin0))
        replace E_t := E_t.keep Kq39
        replace Z0 := Nat.le_trans Z0 Kq39.1
        replace K0 := K0.trans Kq39 (allS (Or.inl (by simp)) (allS (Or.inl (by simp)) all0))
        refine Go.st (S' := T39.setTop (mkF m 48 #[.val (.ref a), .val (.ref t), .val (.int H1.length.toInt32), .val (.int (2 : Int32))] [])) (st39) ?_
        refine Go.st (S' := T39.setTop (mkF m 49 #[.val (.ref a), .val (.ref t), .val (.int H1.length.toInt32), .val (.int (2 : Int32))] [(.ref a)])) (fun _ k_ => XS.aloadN X39.here hx rfl (hb hby d5_48) rfl rfl k_) ?_
        obtain ⟨T40, X40, e40, st40⟩ := getF X39 hx hZ hown (host := "") (Or.inl (w19 hw)) Via.refl e39 F_pairs_a (g := (mkF m 49 #[.val (.ref a), .val (.ref t), .val (.int H1.length.toInt32), .val (.int (2 : Int32))] [(.ref a)])) rfl rfl (hb hby d5_49)
        refine Go.st (S' := T40.setTop (mkF m 52 #[.val (.ref a), .val (.ref t), .val (.int H1.length.toInt32), .val (.int (2 : Int32))] [(.ref pr)])) (st40) ?_
        refine Go.st (S' := T40.setTop (mkF m 53 #[.val (.ref a), .val (.ref t), .val (.int H1.length.toInt32), .val (.int (2 : Int32))] [(.ref t), (.ref pr)])) (fun _ k_ => XS.aloadN X40.here hx rfl (hb hby d5_52) rfl rfl k_) ?_
        refine Go.st (S' := T40.setTop (mkF m 54 #[.val (.ref a), .val (.ref t), .val (.int H1.length.toInt32), .val (.int (2 : Int32))] [(.int (2 : Int32)), (.ref t), (.ref pr)])) (fun _ k_ => XS.iloadN X40.here hx rfl (hb hby d5_53) rfl k_) ?_
        refine Go.st (S' := T40.setTop (mkF m 55 #[.val (.ref a), .val (.ref t), .val (.int H1.length.toInt32), .val (.int (2 : Int32))] [(.int x2), (.ref pr)])) (A_t.load X40 hx hZ e40 (j := (2 : Int32)) (v := x2) (by decide) rfl (g := (mkF m 54 #[.val (.ref a), .val (.ref t), .val (.int H1.length.toInt32), .val (.int (2 : Int32))] [(.int (2 : Int32)), (.ref t), (.ref pr)])) rfl rfl (hb hby d5_54)) ?_
        obtain ⟨v41, T41, h41, L41, X41, e41, hQ41, st41⟩ := callVi X40 hx hZ hown (w31 hw) (w32 hw) (w34 hw) (w33 hw) (w12 hw) (w35 hw) (by decide) (W := 0) (argsL := [(.int x2)]) (rest := []) e40 IL_pr.1 (il_add l Z a0 hw pr prb x2 (((P ++ [(1 : Int32)]) ++ [x1]) ++ [(2 : Int32)]) h39 n0 Z0 IL_pr (by first | decide | (simp; omega) | omega) g_pr g_prb ne_pr_prb) (by decide) (by decide) pd4 rfl (g := (mkF m 55 #[.val (.ref a), .val (.ref t), .val (.int H1.length.toInt32), .val (.int (2 : Int32))] [(.int x2), (.ref pr)])) rfl (by rw [hml]; rfl) rfl (by show 2 * 0 + _ ≤ _; exact Nat.le_of_eq rfl) (hb hby d5_55) (by decide) (by decide)
        obtain ⟨rfl, Nq41, Kq41, IL_pr⟩ := hQ41
        have N41 := Fr.app N39 Nq41
        replace E_a := E_a.keep Kq41
        replace F_pairs_a := F_pairs_a.keep Kq41 (ninS ne_a_pr (ninS ne_a_prb nin0))
        replace F_starts_a := F_starts_a.keep Kq41 (ninS ne_a_pr (ninS ne_a_prb nin0))
        replace F_hashes_a := F_hashes_a.keep Kq41 (ninS ne_a_pr (ninS ne_a_prb nin0))
        replace F_slots_a := F_slots_a.keep Kq41 (ninS ne_a_pr (ninS ne_a_prb nin0))
        replace F_places_a := F_places_a.keep Kq41 (ninS ne_a_pr (ninS ne_a_prb nin0))
        replace IL_ss := IL_ss.keep Kq41 ⟨(ninS (Ne.symm ne_pr_ss) (ninS (Ne.symm ne_prb_ss) nin0)), (ninS (Ne.symm ne_pr_ssb) (ninS (Ne.symm ne_prb_ssb) nin0))⟩
        replace IL_hs := IL_hs.keep Kq41 ⟨(ninS (Ne.symm ne_pr_hs) (ninS (Ne.symm ne_prb_hs) nin0)), (ninS (Ne.symm ne_pr_hsb) (ninS (Ne.symm ne_prb_hsb) nin0))⟩
        replace A_sl := A_sl.keep Kq41 (ninS (Ne.symm ne_pr_sl) (ninS (Ne.symm ne_prb_sl) nin0))
        replace A_t := A_t.keep Kq41 (ninS ne_t_pr (ninS ne_t_prb nin0))
        replace E_t := E_t.keep Kq41
        replace Z0 := Nat.le_trans Z0 Kq41.1
        replace K0 := K0.trans Kq41 (allS (Or.inl (by simp)) (allS (Or.inl (by simp)) all0))
        refine Go.st (S' := T41.setTop (mkF m 58 #[.val (.ref a), .val (.ref t), .val (.int H1.length.toInt32), .val (.int (2 : Int32))] [])) (st41) ?_
        refine Go.st (S' := T41.setTop (mkF m 61 #[.val (.ref a), .val (.ref t), .val (.int H1.length.toInt32), .val (.int ((2 : Int32) + (1 : Int32)))] [])) (fun _ k_ => XS.iinc X41.here hx rfl (hb hby d5_58) rfl (l' := #[.val (.ref a), .val (.ref t), .val (.int H1.length.toInt32), .val (.int ((2 : Int32) + (1 : Int32)))]) rfl k_) ?_
        rw [show ((2 : Int32) + (1 : Int32)) = (3 : Int32) from rfl]
        refine Go.st (S' := T41.setTop (mkF m 26 #[.val (.ref a), .val (.ref t), .val (.int H1.length.toInt32), .val (.int (3 : Int32))] [])) (fun _ k_ => XS.goto X41.here hx rfl (pc0 := 61) (pc' := 26) rfl (hb hby d5_61) (by decide) (by decide) k_) ?_
        refine Go.st (S' := T41.setTop (mkF m 27 #[.val (.ref a), .val (.ref t), .val (.int H1.length.toInt32), .val (.int (3 : Int32))] [(.int (3 : Int32))])) (fun _ k_ => XS.iloadN X41.here hx rfl (hb hby d5_26) rfl k_) ?_
        refine Go.st (S' := T41.setTop (mkF m 28 #[.val (.ref a), .val (.ref t), .val (.int H1.length.toInt32), .val (.int (3 : Int32))] [(.ref a), (.int (3 : Int32))])) (fun _ k_ => XS.aloadN X41.here hx rfl (hb hby d5_27) rfl rfl k_) ?_
        obtain ⟨T42, X42, e42, st42⟩ := getF X41 hx hZ hown (host := "") (Or.inl (w27 hw)) Via.refl e41 F_places_a (g := (mkF m 28 #[.val (.ref a), .val (.ref t), .val (.int H1.length.toInt32), .val (.int (3 : Int32))] [(.ref a), (.int (3 : Int32))])) rfl rfl (hb hby d5_28)
        refine Go.st (S' := T42.setTop (mkF m 31 #[.val (.ref a), .val (.ref t), .val (.int H1.length.toInt32), .val (.int (3 : Int32))] [(.int (3 : Int32)), (.int (3 : Int32))])) (st42) ?_
        refine Go.st (S' := T42.setTop (mkF m 64 #[.val (.ref a), .val (.ref t), .val (.int H1.length.toInt32), .val (.int (3 : Int32))] [])) (fun _ k_ => XS.icmpYes X42.here hx rfl (pc0 := 31) (pc' := 64) rfl (hb hby d5_31) rfl (flt (by decide)).2.1 (by decide) (by decide) k_) ?_
        have hPe : ((((P ++ [(1 : Int32)]) ++ [x1]) ++ [(2 : Int32)]) ++ [x2]) = (P ++ own_flat (own_ps x0 x1 x2)) := by simp [own_ps, own_flat, hx0, hx1, hx2, List.filter]
        rw [hPe] at IL_pr
        exact J64 _ _ _ X42 e42 N41 Z0 K0 E_a F_pairs_a F_starts_a F_hashes_a F_slots_a F_places_a IL_pr IL_ss IL_hs A_sl A_t E_t
  · skip
    refine Go.st (S' := T23.setTop (mkF m 40 #[.val (.ref a), .val (.ref t), .val (.int H1.length.toInt32), .val (.int (0 : Int32))] [])) (fun _ k_ => XS.ifNo X23.here hx rfl (hb hby d5_37) rfl ((if0 _ _).trans (feq hx0).1) k_) ?_
    refine Go.st (S' := T23.setTop (mkF m 41 #[.val (.ref a), .val (.ref t), .val (.int H1.length.toInt32), .val (.int (0 : Int32))] [(.ref a)])) (fun _ k_ => XS.aloadN X23.here hx rfl (hb hby d5_40) rfl rfl k_) ?_
    obtain ⟨T43, X43, e43, st43⟩ := getF X23 hx hZ hown (host := "") (Or.inl (w19 hw)) Via.refl e23 F_pairs_a (g := (mkF m 41 #[.val (.ref a), .val (.ref t), .val (.int H1.length.toInt32), .val (.int (0 : Int32))] [(.ref a)])) rfl rfl (hb hby d5_41)
    refine Go.st (S' := T43.setTop (mkF m 44 #[.val (.ref a), .val (.ref t), .val (.int H1.length.toInt32), .val (.int (0 : Int32))] [(.ref pr)])) (st43) ?_
    refine Go.st (S' := T43.setTop (mkF m 45 #[.val (.ref a), .val (.ref t), .val (.int H1.length.toInt32), .val (.int (0 : Int32))] [(.int (0 : Int32)), (.ref pr)])) (fun _ k_ => XS.iloadN X43.here hx rfl (hb hby d5_44) rfl k_) ?_
    obtain ⟨v44, T44, h44, L44, X44, e44, hQ44, st44⟩ := callVi X43 hx hZ hown (w31 hw) (w32 hw) (w34 hw) (w33 hw) (w12 hw) (w35 hw) (by decide) (W := 0) (argsL := [(.int (0 : Int32))]) (rest := []) e43 IL_pr.1 (il_add l Z a0 hw pr prb (0 : Int32) P h0 n0 Z0 IL_pr (by first | decide | (simp; omega) | omega) g_pr g_prb ne_pr_prb) (by decide) (by decide) pd4 rfl (g := (mkF m 45 #[.val (.ref a), .val (.ref t), .val (.int H1.length.toInt32), .val (.int (0 : Int32))] [(.int (0 : Int32)), (.ref pr)])) rfl (by rw [hml]; rfl) rfl (by show 2 * 0 + _ ≤ _; exact Nat.le_of_eq rfl) (hb hby d5_45) (by decide) (by decide)
    obtain ⟨rfl, Nq44, Kq44, IL_pr⟩ := hQ44
    have N44 := Fr.app N22 Nq44
    replace E_a := E_a.keep Kq44
    replace F_pairs_a := F_pairs_a.keep Kq44 (ninS ne_a_pr (ninS ne_a_prb nin0))
    replace F_starts_a := F_starts_a.keep Kq44 (ninS ne_a_pr (ninS ne_a_prb nin0))
    replace F_hashes_a := F_hashes_a.keep Kq44 (ninS ne_a_pr (ninS ne_a_prb nin0))
    replace F_slots_a := F_slots_a.keep Kq44 (ninS ne_a_pr (ninS ne_a_prb nin0))
    replace F_places_a := F_places_a.keep Kq44 (ninS ne_a_pr (ninS ne_a_prb nin0))
    replace IL_ss := IL_ss.keep Kq44 ⟨(ninS (Ne.symm ne_pr_ss) (ninS (Ne.symm ne_prb_ss) nin0)), (ninS (Ne.symm ne_pr_ssb) (ninS (Ne.symm ne_prb_ssb) nin0))⟩
    replace IL_hs := IL_hs.keep Kq44 ⟨(ninS (Ne.symm ne_pr_hs) (ninS (Ne.symm ne_prb_hs) nin0)), (ninS (Ne.symm ne_pr_hsb) (ninS (Ne.symm ne_prb_hsb) nin0))⟩
    replace A_sl := A_sl.keep Kq44 (ninS (Ne.symm ne_pr_sl) (ninS (Ne.symm ne_prb_sl) nin0))
    replace A_t := A_t.keep Kq44 (ninS ne_t_pr (ninS ne_t_prb nin0))
    replace E_t := E_t.keep Kq44
    replace Z0 := Nat.le_trans Z0 Kq44.1
    replace K0 := K0.trans Kq44 (allS (Or.inl (by simp)) (allS (Or.inl (by simp)) all0))
    refine Go.st (S' := T44.setTop (mkF m 48 #[.val (.ref a), .val (.ref t), .val (.int H1.length.toInt32), .val (.int (0 : Int32))] [])) (st44) ?_
    refine Go.st (S' := T44.setTop (mkF m 49 #[.val (.ref a), .val (.ref t), .val (.int H1.length.toInt32), .val (.int (0 : Int32))] [(.ref a)])) (fun _ k_ => XS.aloadN X44.here hx rfl (hb hby d5_48) rfl rfl k_) ?_
    obtain ⟨T45, X45, e45, st45⟩ := getF X44 hx hZ hown (host := "") (Or.inl (w19 hw)) Via.refl e44 F_pairs_a (g := (mkF m 49 #[.val (.ref a), .val (.ref t), .val (.int H1.length.toInt32), .val (.int (0 : Int32))] [(.ref a)])) rfl rfl (hb hby d5_49)
    refine Go.st (S' := T45.setTop (mkF m 52 #[.val (.ref a), .val (.ref t), .val (.int H1.length.toInt32), .val (.int (0 : Int32))] [(.ref pr)])) (st45) ?_
    refine Go.st (S' := T45.setTop (mkF m 53 #[.val (.ref a), .val (.ref t), .val (.int H1.length.toInt32), .val (.int (0 : Int32))] [(.ref t), (.ref pr)])) (fun _ k_ => XS.aloadN X45.here hx rfl (hb hby d5_52) rfl rfl k_) ?_
    refine Go.st (S' := T45.setTop (mkF m 54 #[.val (.ref a), .val (.ref t), .val (.int H1.length.toInt32), .val (.int (0 : Int32))] [(.int (0 : Int32)), (.ref t), (.ref pr)])) (fun _ k_ => XS.iloadN X45.here hx rfl (hb hby d5_53) rfl k_) ?_
    refine Go.st (S' := T45.setTop (mkF m 55 #[.val (.ref a), .val (.ref t), .val (.int H1.length.toInt32), .val (.int (0 : Int32))] [(.int x0), (.ref pr)])) (A_t.load X45 hx hZ e45 (j := (0 : Int32)) (v := x0) (by decide) rfl (g := (mkF m 54 #[.val (.ref a), .val (.ref t), .val (.int H1.length.toInt32), .val (.int (0 : Int32))] [(.int (0 : Int32)), (.ref t), (.ref pr)])) rfl rfl (hb hby d5_54)) ?_
    obtain ⟨v46, T46, h46, L46, X46, e46, hQ46, st46⟩ := callVi X45 hx hZ hown (w31 hw) (w32 hw) (w34 hw) (w33 hw) (w12 hw) (w35 hw) (by decide) (W := 0) (argsL := [(.int x0)]) (rest := []) e45 IL_pr.1 (il_add l Z a0 hw pr prb x0 (P ++ [(0 : Int32)]) h44 n0 Z0 IL_pr (by first | decide | (simp; omega) | omega) g_pr g_prb ne_pr_prb) (by decide) (by decide) pd4 rfl (g := (mkF m 55 #[.val (.ref a), .val (.ref t), .val (.int H1.length.toInt32), .val (.int (0 : Int32))] [(.int x0), (.ref pr)])) rfl (by rw [hml]; rfl) rfl (by show 2 * 0 + _ ≤ _; exact Nat.le_of_eq rfl) (hb hby d5_55) (by decide) (by decide)
    obtain ⟨rfl, Nq46, Kq46, IL_pr⟩ := hQ46
    have N46 := Fr.app N44 Nq46
    replace E_a := E_a.keep Kq46
    replace F_pairs_a := F_pairs_a.keep Kq46 (ninS ne_a_pr (ninS ne_a_prb nin0))
    replace F_starts_a := F_starts_a.keep Kq46 (ninS ne_a_pr (ninS ne_a_prb nin0))
    replace F_hashes_a := F_hashes_a.keep Kq46 (ninS ne_a_pr (ninS ne_a_prb nin0))
    replace F_slots_a := F_slots_a.keep Kq46 (ninS ne_a_pr (ninS ne_a_prb nin0))
    replace F_places_a := F_places_a.keep Kq46 (ninS ne_a_pr (ninS ne_a_prb nin0))
    replace IL_ss := IL_ss.keep Kq46 ⟨(ninS (Ne.symm ne_pr_ss) (ninS (Ne.symm ne_prb_ss) nin0)), (ninS (Ne.symm ne_pr_ssb) (ninS (Ne.symm ne_prb_ssb) nin0))⟩
    replace IL_hs := IL_hs.keep Kq46 ⟨(ninS (Ne.symm ne_pr_hs) (ninS (Ne.symm ne_prb_hs) nin0)), (ninS (Ne.symm ne_pr_hsb) (ninS (Ne.symm ne_prb_hsb) nin0))⟩
    replace A_sl := A_sl.keep Kq46 (ninS (Ne.symm ne_pr_sl) (ninS (Ne.symm ne_prb_sl) nin0))
    replace A_t := A_t.keep Kq46 (ninS ne_t_pr (ninS ne_t_prb nin0))
    replace E_t := E_t.keep Kq46
    replace Z0 := Nat.le_trans Z0 Kq46.1
    replace K0 := K0.trans Kq46 (allS (Or.inl (by simp)) (allS (Or.inl (by simp)) all0))
    refine Go.st (S' := T46.setTop (mkF m 58 #[.val (.ref a), .val (.ref t), .val (.int H1.length.toInt32), .val (.int (0 : Int32))] [])) (st46) ?_
    refine Go.st (S' := T46.setTop (mkF m 61 #[.val (.ref a), .val (.ref t), .val (.int H1.length.toInt32), .val (.int ((0 : Int32) + (1 : Int32)))] [])) (fun _ k_ => XS.iinc X46.here hx rfl (hb hby d5_58) rfl (l' := #[.val (.ref a), .val (.ref t), .val (.int H1.length.toInt32), .val (.int ((0 : Int32) + (1 : Int32)))]) rfl k_) ?_
    rw [show ((0 : Int32) + (1 : Int32)) = (1 : Int32) from rfl]
    refine Go.st (S' := T46.setTop (mkF m 26 #[.val (.ref a), .val (.ref t), .val (.int H1.length.toInt32), .val (.int (1 : Int32))] [])) (fun _ k_ => XS.goto X46.here hx rfl (pc0 := 61) (pc' := 26) rfl (hb hby d5_61) (by decide) (by decide) k_) ?_
    refine Go.st (S' := T46.setTop (mkF m 27 #[.val (.ref a), .val (.ref t), .val (.int H1.length.toInt32), .val (.int (1 : Int32))] [(.int (1 : Int32))])) (fun _ k_ => XS.iloadN X46.here hx rfl (hb hby d5_26) rfl k_) ?_
    refine Go.st (S' := T46.setTop (mkF m 28 #[.val (.ref a), .val (.ref t), .val (.int H1.length.toInt32), .val (.int (1 : Int32))] [(.ref a), (.int (1 : Int32))])) (fun _ k_ => XS.aloadN X46.here hx rfl (hb hby d5_27) rfl rfl k_) ?_
    obtain ⟨T47, X47, e47, st47⟩ := getF X46 hx hZ hown (host := "") (Or.inl (w27 hw)) Via.refl e46 F_places_a (g := (mkF m 28 #[.val (.ref a), .val (.ref t), .val (.int H1.length.toInt32), .val (.int (1 : Int32))] [(.ref a), (.int (1 : Int32))])) rfl rfl (hb hby d5_28)
    refine Go.st (S' := T47.setTop (mkF m 31 #[.val (.ref a), .val (.ref t), .val (.int H1.length.toInt32), .val (.int (1 : Int32))] [(.int (3 : Int32)), (.int (1 : Int32))])) (st47) ?_
    refine Go.st (S' := T47.setTop (mkF m 34 #[.val (.ref a), .val (.ref t), .val (.int H1.length.toInt32), .val (.int (1 : Int32))] [])) (fun _ k_ => XS.icmpNo X47.here hx rfl (hb hby d5_31) rfl (tlt (by decide)).2.1 k_) ?_
    refine Go.st (S' := T47.setTop (mkF m 35 #[.val (.ref a), .val (.ref t), .val (.int H1.length.toInt32), .val (.int (1 : Int32))] [(.ref t)])) (fun _ k_ => XS.aloadN X47.here hx rfl (hb hby d5_34) rfl rfl k_) ?_
    refine Go.st (S' := T47.setTop (mkF m 36 #[.val (.ref a), .val (.ref t), .val (.int H1.length.toInt32), .val (.int (1 : Int32))] [(.int (1 : Int32)), (.ref t)])) (fun _ k_ => XS.iloadN X47.here hx rfl (hb hby d5_35) rfl k_) ?_
    refine Go.st (S' := T47.setTop (mkF m 37 #[.val (.ref a), .val (.ref t), .val (.int H1.length.toInt32), .val (.int (1 : Int32))] [(.int x1)])) (A_t.load X47 hx hZ e47 (j := (1 : Int32)) (v := x1) (by decide) rfl (g := (mkF m 36 #[.val (.ref a), .val (.ref t), .val (.int H1.length.toInt32), .val (.int (1 : Int32))] [(.int (1 : Int32)), (.ref t)])) rfl rfl (hb hby d5_36)) ?_
    by_cases hx1 : x1 = (0 : Int32)
    · skip
      refine Go.st (S' := T47.setTop (mkF m 58 #[.val (.ref a), .val (.ref t), .val (.int H1.length.toInt32), .val (.int (1 : Int32))] [])) (fun _ k_ => XS.ifYes X47.here hx rfl (pc0 := 37) (pc' := 58) rfl (hb hby d5_37) rfl ((if0 _ _).trans (teq hx1).1) (by decide) (by decide) k_) ?_
      refine Go.st (S' := T47.setTop (mkF m 61 #[.val (.ref a), .val (.ref t), .val (.int H1.length.toInt32), .val (.int ((1 : Int32) + (1 : Int32)))] [])) (fun _ k_ => XS.iinc X47.here hx rfl (hb hby d5_58) rfl (l' := #[.val (.ref a), .val (.ref t), .val (.int H1.length.toInt32), .val (.int ((1 : Int32) + (1 : Int32)))]) rfl k_) ?_
      rw [show ((1 : Int32) + (1 : Int32)) = (2 : Int32) from rfl]
      refine Go.st (S' := T47.setTop (mkF m 26 #[.val (.ref a), .val (.ref t), .val (.int H1.length.toInt32), .val (.int (2 : Int32))] [])) (fun _ k_ => XS.goto X47.here hx rfl (pc0 := 61) (pc' := 26) rfl (hb hby d5_61) (by decide) (by decide) k_) ?_
      refine Go.st (S' := T47.setTop (mkF m 27 #[.val (.ref a), .val (.ref t), .val (.int H1.length.toInt32), .val (.int (2 : Int32))] [(.int (2 : Int32))])) (fun _ k_ => XS.iloadN X47.here hx rfl (hb hby d5_26) rfl k_) ?_
      refine Go.st (S' := T47.setTop (mkF m 28 #[.val (.ref a), .val (.ref t), .val (.int H1.length.toInt32), .val (.int (2 : Int32))] [(.ref a), (.int (2 : Int32))])) (fun _ k_ => XS.aloadN X47.here hx rfl (hb hby d5_27) rfl rfl k_) ?_
      obtain ⟨T48, X48, e48, st48⟩ := getF X47 hx hZ hown (host := "") (Or.inl (w27 hw)) Via.refl e47 F_places_a (g := (mkF m 28 #[.val (.ref a), .val (.ref t), .val (.int H1.length.toInt32), .val (.int (2 : Int32))] [(.ref a), (.int (2 : Int32))])) rfl rfl (hb hby d5_28)
      refine Go.st (S' := T48.setTop (mkF m 31 #[.val (.ref a), .val (.ref t), .val (.int H1.length.toInt32), .val (.int (2 : Int32))] [(.int (3 : Int32)), (.int (2 : Int32))])) (st48) ?_
      refine Go.st (S' := T48.setTop (mkF m 34 #[.val (.ref a), .val (.ref t), .val (.int H1.length.toInt32), .val (.int (2 : Int32))] [])) (fun _ k_ => XS.icmpNo X48.here hx rfl (hb hby d5_31) rfl (tlt (by decide)).2.1 k_) ?_
      refine Go.st (S' := T48.setTop (mkF m 35 #[.val (.ref a), .val (.ref t), .val (.int H1.length.toInt32), .val (.int (2 : Int32))] [(.ref t)])) (fun _ k_ => XS.aloadN X48.here hx rfl (hb hby d5_34) rfl rfl k_) ?_
      refine Go.st (S' := T48.setTop (mkF m 36 #[.val (.ref a), .val (.ref t), .val (.int H1.length.toInt32), .val (.int (2 : Int32))] [(.int (2 : Int32)), (.ref t)])) (fun _ k_ => XS.iloadN X48.here hx rfl (hb hby d5_35) rfl k_) ?_
      refine Go.st (S' := T48.setTop (mkF m 37 #[.val (.ref a), .val (.ref t), .val (.int H1.length.toInt32), .val (.int (2 : Int32))] [(.int x2)])) (A_t.load X48 hx hZ e48 (j := (2 : Int32)) (v := x2) (by decide) rfl (g := (mkF m 36 #[.val (.ref a), .val (.ref t), .val (.int H1.length.toInt32), .val (.int (2 : Int32))] [(.int (2 : Int32)), (.ref t)])) rfl rfl (hb hby d5_36)) ?_
      by_cases hx2 : x2 = (0 : Int32)
      · skip
        refine Go.st (S' := T48.setTop (mkF m 58 #[.val (.ref a), .val (.ref t), .val (.int H1.length.toInt32), .val (.int (2 : Int32))] [])) (fun _ k_ => XS.ifYes X48.here hx rfl (pc0 := 37) (pc' := 58) rfl (hb hby d5_37) rfl ((if0 _ _).trans (teq hx2).1) (by decide) (by decide) k_) ?_
        refine Go.st (S' := T48.setTop (mkF m 61 #[.val (.ref a), .val (.ref t), .val (.int H1.length.toInt32), .val (.int ((2 : Int32) + (1 : Int32)))] [])) (fun _ k_ => XS.iinc X48.here hx rfl (hb hby d5_58) rfl (l' := #[.val (.ref a), .val (.ref t), .val (.int H1.length.toInt32), .val (.int ((2 : Int32) + (1 : Int32)))]) rfl k_) ?_
        rw [show ((2 : Int32) + (1 : Int32)) = (3 : Int32) from rfl]
        refine Go.st (S' := T48.setTop (mkF m 26 #[.val (.ref a), .val (.ref t), .val (.int H1.length.toInt32), .val (.int (3 : Int32))] [])) (fun _ k_ => XS.goto X48.here hx rfl (pc0 := 61) (pc' := 26) rfl (hb hby d5_61) (by decide) (by decide) k_) ?_
        refine Go.st (S' := T48.setTop (mkF m 27 #[.val (.ref a), .val (.ref t), .val (.int H1.length.toInt32), .val (.int (3 : Int32))] [(.int (3 : Int32))])) (fun _ k_ => XS.iloadN X48.here hx rfl (hb hby d5_26) rfl k_) ?_
        refine Go.st (S' := T48.setTop (mkF m 28 #[.val (.ref a), .val (.ref t), .val (.int H1.length.toInt32), .val (.int (3 : Int32))] [(.ref a), (.int (3 : Int32))])) (fun _ k_ => XS.aloadN X48.here hx rfl (hb hby d5_27) rfl rfl k_) ?_
        obtain ⟨T49, X49, e49, st49⟩ := getF X48 hx hZ hown (host := "") (Or.inl (w27 hw)) Via.refl e48 F_places_a (g := (mkF m 28 #[.val (.ref a), .val (.ref t), .val (.int H1.length.toInt32), .val (.int (3 : Int32))] [(.ref a), (.int (3 : Int32))])) rfl rfl (hb hby d5_28)
        refine Go.st (S' := T49.setTop (mkF m 31 #[.val (.ref a), .val (.ref t), .val (.int H1.length.toInt32), .val (.int (3 : Int32))] [(.int (3 : Int32)), (.int (3 : Int32))])) (st49) ?_
        refine Go.st (S' := T49.setTop (mkF m 64 #[.val (.ref a), .val (.ref t), .val (.int H1.length.toInt32), .val (.int (3 : Int32))] [])) (fun _ k_ => XS.icmpYes X49.here hx rfl (pc0 := 31) (pc' := 64) rfl (hb hby d5_31) rfl (flt (by decide)).2.1 (by decide) (by decide) k_) ?_
        have hPe : ((P ++ [(0 : Int32)]) ++ [x0]) = (P ++ own_flat (own_ps x0 x1 x2)) := by simp [own_ps, own_flat, hx0, hx1, hx2, List.filter]
        rw [hPe] at IL_pr
        exact J64 _ _ _ X49 e49 N46 Z0 K0 E_a F_pairs_a F_starts_a F_hashes_a F_slots_a F_places_a IL_pr IL_ss IL_hs A_sl A_t E_t
      · skip
        refine Go.st (S' := T48.setTop (mkF m 40 #[.val (.ref a), .val (.ref t), .val (.int H1.length.toInt32), .val (.int (2 : Int32))] [])) (fun _ k_ => XS.ifNo X48.here hx rfl (hb hby d5_37) rfl ((if0 _ _).trans (feq hx2).1) k_) ?_
        refine Go.st (S' := T48.setTop (mkF m 41 #[.val (.ref a), .val (.ref t), .val (.int H1.length.toInt32), .val (.int (2 : Int32))] [(.ref a)])) (fun _ k_ => XS.aloadN X48.here hx rfl (hb hby d5_40) rfl rfl k_) ?_
        obtain ⟨T50, X50, e50, st50⟩ := getF X48 hx hZ hown (host := "") (Or.inl (w19 hw)) Via.refl e48 F_pairs_a (g := (mkF m 41 #[.val (.ref a), .val (.ref t), .val (.int H1.length.toInt32), .val (.int (2 : Int32))] [(.ref a)])) rfl rfl (hb hby d5_41)
        refine Go.st (S' := T50.setTop (mkF m 44 #[.val (.ref a), .val (.ref t), .val (.int H1.length.toInt32), .val (.int (2 : Int32))] [(.ref pr)])) (st50) ?_
        refine Go.st (S' := T50.setTop (mkF m 45 #[.val (.ref a), .val (.ref t), .val (.int H1.length.toInt32), .val (.int (2 : Int32))] [(.int (2 : Int32)), (.ref pr)])) (fun _ k_ => XS.iloadN X50.here hx rfl (hb hby d5_44) rfl k_) ?_
        obtain ⟨v51, T51, h51, L51, X51, e51, hQ51, st51⟩ := callVi X50 hx hZ hown (w31 hw) (w32 hw) (w34 hw) (w33 hw) (w12 hw) (w35 hw) (by decide) (W := 0) (argsL := [(.int (2 : Int32))]) (rest := []) e50 IL_pr.1 (il_add l Z a0 hw pr prb (2 : Int32) ((P ++ [(0 : Int32)]) ++ [x0]) h46 n0 Z0 IL_pr (by first | decide | (simp; omega) | omega) g_pr g_prb ne_pr_prb) (by decide) (by decide) pd4 rfl (g := (mkF m 45 #[.val (.ref a), .val (.ref t), .val (.int H1.length.toInt32), .val (.int (2 : Int32))] [(.int (2 : Int32)), (.ref pr)])) rfl (by rw [hml]; rfl) rfl (by show 2 * 0 + _ ≤ _; exact Nat.le_of_eq rfl) (hb hby d5_45) (by decide) (by decide)
        obtain ⟨rfl, Nq51, Kq51, IL_pr⟩ := hQ51
        have N51 := Fr.app N46 Nq51
        replace E_a := E_a.keep Kq51
        replace F_pairs_a := F_pairs_a.keep Kq51 (ninS ne_a_pr (ninS ne_a_prb nin0))
        replace F_starts_a := F_starts_a.keep Kq51 (ninS ne_a_pr (ninS ne_a_prb nin0))
        replace F_hashes_a := F_hashes_a.keep Kq51 (ninS ne_a_pr (ninS ne_a_prb nin0))
        replace F_slots_a := F_slots_a.keep Kq51 (ninS ne_a_pr (ninS ne_a_prb nin0))
        replace F_places_a := F_places_a.keep Kq51 (ninS ne_a_pr (ninS ne_a_prb nin0))
        replace IL_ss := IL_ss.keep Kq51 ⟨(ninS (Ne.symm ne_pr_ss) (ninS (Ne.symm ne_prb_ss) nin0)), (ninS (Ne.symm ne_pr_ssb) (ninS (Ne.symm ne_prb_ssb) nin0))⟩
        replace IL_hs := IL_hs.keep Kq51 ⟨(ninS (Ne.symm ne_pr_hs) (ninS (Ne.symm ne_prb_hs) nin0)), (ninS (Ne.symm ne_pr_hsb) (ninS (Ne.symm ne_prb_hsb) nin0))⟩
        replace A_sl := A_sl.keep Kq51 (ninS (Ne.symm ne_pr_sl) (ninS (Ne.symm ne_prb_sl) nin0))
        replace A_t := A_t.keep Kq51 (ninS ne_t_pr (ninS ne_t_prb nin0))
        replace E_t := E_t.keep Kq51
        replace Z0 := Nat.le_trans Z0 Kq51.1
        replace K0 := K0.trans Kq51 (allS (Or.inl (by simp)) (allS (Or.inl (by simp)) all0))
        refine Go.st (S' := T51.setTop (mkF m 48 #[.val (.ref a), .val (.ref t), .val (.int H1.length.toInt32), .val (.int (2 : Int32))] [])) (st51) ?_
        refine Go.st (S' := T51.setTop (mkF m 49 #[.val (.ref a), .val (.ref t), .val (.int H1.length.toInt32), .val (.int (2 : Int32))] [(.ref a)])) (fun _ k_ => XS.aloadN X51.here hx rfl (hb hby d5_48) rfl rfl k_) ?_
        obtain ⟨T52, X52, e52, st52⟩ := getF X51 hx hZ hown (host := "") (Or.inl (w19 hw)) Via.refl e51 F_pairs_a (g := (mkF m 49 #[.val (.ref a), .val (.ref t), .val (.int H1.length.toInt32), .val (.int (2 : Int32))] [(.ref a)])) rfl rfl (hb hby d5_49)
        refine Go.st (S' := T52.setTop (mkF m 52 #[.val (.ref a), .val (.ref t), .val (.int H1.length.toInt32), .val (.int (2 : Int32))] [(.ref pr)])) (st52) ?_
        refine Go.st (S' := T52.setTop (mkF m 53 #[.val (.ref a), .val (.ref t), .val (.int H1.length.toInt32), .val (.int (2 : Int32))] [(.ref t), (.ref pr)])) (fun _ k_ => XS.aloadN X52.here hx rfl (hb hby d5_52) rfl rfl k_) ?_
        refine Go.st (S' := T52.setTop (mkF m 54 #[.val (.ref a), .val (.ref t), .val (.int H1.length.toInt32), .val (.int (2 : Int32))] [(.int (2 : Int32)), (.ref t), (.ref pr)])) (fun _ k_ => XS.iloadN X52.here hx rfl (hb hby d5_53) rfl k_) ?_
        refine Go.st (S' := T52.setTop (mkF m 55 #[.val (.ref a), .val (.ref t), .val (.int H1.length.toInt32), .val (.int (2 : Int32))] [(.int x2), (.ref pr)])) (A_t.load X52 hx hZ e52 (j := (2 : Int32)) (v := x2) (by decide) rfl (g := (mkF m 54 #[.val (.ref a), .val (.ref t), .val (.int H1.length.toInt32), .val (.int (2 : Int32))] [(.int (2 : Int32)), (.ref t), (.ref pr)])) rfl rfl (hb hby d5_54)) ?_
        obtain ⟨v53, T53, h53, L53, X53, e53, hQ53, st53⟩ := callVi X52 hx hZ hown (w31 hw) (w32 hw) (w34 hw) (w33 hw) (w12 hw) (w35 hw) (by decide) (W := 0) (argsL := [(.int x2)]) (rest := []) e52 IL_pr.1 (il_add l Z a0 hw pr prb x2 (((P ++ [(0 : Int32)]) ++ [x0]) ++ [(2 : Int32)]) h51 n0 Z0 IL_pr (by first | decide | (simp; omega) | omega) g_pr g_prb ne_pr_prb) (by decide) (by decide) pd4 rfl (g := (mkF m 55 #[.val (.ref a), .val (.ref t), .val (.int H1.length.toInt32), .val (.int (2 : Int32))] [(.int x2), (.ref pr)])) rfl (by rw [hml]; rfl) rfl (by show 2 * 0 + _ ≤ _; exact Nat.le_of_eq rfl) (hb hby d5_55) (by decide) (by decide)
        obtain ⟨rfl, Nq53, Kq53, IL_pr⟩ := hQ53
        have N53 := Fr.app N51 Nq53
        replace E_a := E_a.keep Kq53
        replace F_pairs_a := F_pairs_a.keep Kq53 (ninS ne_a_pr (ninS ne_a_prb nin0))
        replace F_starts_a := F_starts_a.keep Kq53 (ninS ne_a_pr (ninS ne_a_prb nin0))
        replace F_hashes_a := F_hashes_a.keep Kq53 (ninS ne_a_pr (ninS ne_a_prb nin0))
        replace F_slots_a := F_slots_a.keep Kq53 (ninS ne_a_pr (ninS ne_a_prb nin0))
        replace F_places_a := F_places_a.keep Kq53 (ninS ne_a_pr (ninS ne_a_prb nin0))
        replace IL_ss := IL_ss.keep Kq53 ⟨(ninS (Ne.symm ne_pr_ss) (ninS (Ne.symm ne_prb_ss) nin0)), (ninS (Ne.symm ne_pr_ssb) (ninS (Ne.symm ne_prb_ssb) nin0))⟩
        replace IL_hs := IL_hs.keep Kq53 ⟨(ninS (Ne.symm ne_pr_hs) (ninS (Ne.symm ne_prb_hs) nin0)), (ninS (Ne.symm ne_pr_hsb) (ninS (Ne.symm ne_prb_hsb) nin0))⟩
        replace A_sl := A_sl.keep Kq53 (ninS (Ne.symm ne_pr_sl) (ninS (Ne.symm ne_prb_sl) nin0))
        replace A_t := A_t.keep Kq53 (ninS ne_t_pr (ninS ne_t_prb nin0))
        replace E_t := E_t.keep Kq53
        replace Z0 := Nat.le_trans Z0 Kq53.1
        replace K0 := K0.trans Kq53 (allS (Or.inl (by simp)) (allS (Or.inl (by simp)) all0))
        refine Go.st (S' := T53.setTop (mkF m 58 #[.val (.ref a), .val (.ref t), .val (.int H1.length.toInt32), .val (.int (2 : Int32))] [])) (st53) ?_
        refine Go.st (S' := T53.setTop (mkF m 61 #[.val (.ref a), .val (.ref t), .val (.int H1.length.toInt32), .val (.int ((2 : Int32) + (1 : Int32)))] [])) (fun _ k_ => XS.iinc X53.here hx rfl (hb hby d5_58) rfl (l' := #[.val (.ref a), .val (.ref t), .val (.int H1.length.toInt32), .val (.int ((2 : Int32) + (1 : Int32)))]) rfl k_) ?_
        rw [show ((2 : Int32) + (1 : Int32)) = (3 : Int32) from rfl]
        refine Go.st (S' := T53.setTop (mkF m 26 #[.val (.ref a), .val (.ref t), .val (.int H1.length.toInt32), .val (.int (3 : Int32))] [])) (fun _ k_ => XS.goto X53.here hx rfl (pc0 := 61) (pc' := 26) rfl (hb hby d5_61) (by decide) (by decide) k_) ?_
        refine Go.st (S' := T53.setTop (mkF m 27 #[.val (.ref a), .val (.ref t), .val (.int H1.length.toInt32), .val (.int (3 : Int32))] [(.int (3 : Int32))])) (fun _ k_ => XS.iloadN X53.here hx rfl (hb hby d5_26) rfl k_) ?_
        refine Go.st (S' := T53.setTop (mkF m 28 #[.val (.ref a), .val (.ref t), .val (.int H1.length.toInt32), .val (.int (3 : Int32))] [(.ref a), (.int (3 : Int32))])) (fun _ k_ => XS.aloadN X53.here hx rfl (hb hby d5_27) rfl rfl k_) ?_
        obtain ⟨T54, X54, e54, st54⟩ := getF X53 hx hZ hown (host := "") (Or.inl (w27 hw)) Via.refl e53 F_places_a (g := (mkF m 28 #[.val (.ref a), .val (.ref t), .val (.int H1.length.toInt32), .val (.int (3 : Int32))] [(.ref a), (.int (3 : Int32))])) rfl rfl (hb hby d5_28)
        refine Go.st (S' := T54.setTop (mkF m 31 #[.val (.ref a), .val (.ref t), .val (.int H1.length.toInt32), .val (.int (3 : Int32))] [(.int (3 : Int32)), (.int (3 : Int32))])) (st54) ?_
        refine Go.st (S' := T54.setTop (mkF m 64 #[.val (.ref a), .val (.ref t), .val (.int H1.length.toInt32), .val (.int (3 : Int32))] [])) (fun _ k_ => XS.icmpYes X54.here hx rfl (pc0 := 31) (pc' := 64) rfl (hb hby d5_31) rfl (flt (by decide)).2.1 (by decide) (by decide) k_) ?_
        have hPe : ((((P ++ [(0 : Int32)]) ++ [x0]) ++ [(2 : Int32)]) ++ [x2]) = (P ++ own_flat (own_ps x0 x1 x2)) := by simp [own_ps, own_flat, hx0, hx1, hx2, List.filter]
        rw [hPe] at IL_pr
        exact J64 _ _ _ X54 e54 N53 Z0 K0 E_a F_pairs_a F_starts_a F_hashes_a F_slots_a F_places_a IL_pr IL_ss IL_hs A_sl A_t E_t
    · skip
      refine Go.st (S' := T47.setTop (mkF m 40 #[.val (.ref a), .val (.ref t), .val (.int H1.length.toInt32), .val (.int (1 : Int32))] [])) (fun _ k_ => XS.ifNo X47.here hx rfl (hb hby d5_37) rfl ((if0 _ _).trans (feq hx1).1) k_) ?_
      refine Go.st (S' := T47.setTop (mkF m 41 #[.val (.ref a), .val (.ref t), .val (.int H1.length.toInt32), .val (.int (1 : Int32))] [(.ref a)])) (fun _ k_ => XS.aloadN X47.here hx rfl (hb hby d5_40) rfl rfl k_) ?_
      obtain ⟨T55, X55, e55, st55⟩ := getF X47 hx hZ hown (host := "") (Or.inl (w19 hw)) Via.refl e47 F_pairs_a (g := (mkF m 41 #[.val (.ref a), .val (.ref t), .val (.int H1.length.toInt32), .val (.int (1 : Int32))] [(.ref a)])) rfl rfl (hb hby d5_41)
      refine Go.st (S' := T55.setTop (mkF m 44 #[.val (.ref a), .val (.ref t), .val (.int H1.length.toInt32), .val (.int (1 : Int32))] [(.ref pr)])) (st55) ?_
      refine Go.st (S' := T55.setTop (mkF m 45 #[.val (.ref a), .val (.ref t), .val (.int H1.length.toInt32), .val (.int (1 : Int32))] [(.int (1 : Int32)), (.ref pr)])) (fun _ k_ => XS.iloadN X55.here hx rfl (hb hby d5_44) rfl k_) ?_
      obtain ⟨v56, T56, h56, L56, X56, e56, hQ56, st56⟩ := callVi X55 hx hZ hown (w31 hw) (w32 hw) (w34 hw) (w33 hw) (w12 hw) (w35 hw) (by decide) (W := 0) (argsL := [(.int (1 : Int32))]) (rest := []) e55 IL_pr.1 (il_add l Z a0 hw pr prb (1 : Int32) ((P ++ [(0 : Int32)]) ++ [x0]) h46 n0 Z0 IL_pr (by first | decide | (simp; omega) | omega) g_pr g_prb ne_pr_prb) (by decide) (by decide) pd4 rfl (g := (mkF m 45 #[.val (.ref a), .val (.ref t), .val (.int H1.length.toInt32), .val (.int (1 : Int32))] [(.int (1 : Int32)), (.ref pr)])) rfl (by rw [hml]; rfl) rfl (by show 2 * 0 + _ ≤ _; exact Nat.le_of_eq rfl) (hb hby d5_45) (by decide) (by decide)
      obtain ⟨rfl, Nq56, Kq56, IL_pr⟩ := hQ56
      have N56 := Fr.app N46 Nq56
      replace E_a := E_a.keep Kq56
      replace F_pairs_a := F_pairs_a.keep Kq56 (ninS ne_a_pr (ninS ne_a_prb nin0))
      replace F_starts_a := F_starts_a.keep Kq56 (ninS ne_a_pr (ninS ne_a_prb nin0))
      replace F_hashes_a := F_hashes_a.keep Kq56 (ninS ne_a_pr (ninS ne_a_prb nin0))
      replace F_slots_a := F_slots_a.keep Kq56 (ninS ne_a_pr (ninS ne_a_prb nin0))
      replace F_places_a := F_places_a.keep Kq56 (ninS ne_a_pr (ninS ne_a_prb nin0))
      replace IL_ss := IL_ss.keep Kq56 ⟨(ninS (Ne.symm ne_pr_ss) (ninS (Ne.symm ne_prb_ss) nin0)), (ninS (Ne.symm ne_pr_ssb) (ninS (Ne.symm ne_prb_ssb) nin0))⟩
      replace IL_hs := IL_hs.keep Kq56 ⟨(ninS (Ne.symm ne_pr_hs) (ninS (Ne.symm ne_prb_hs) nin0)), (ninS (Ne.symm ne_pr_hsb) (ninS (Ne.symm ne_prb_hsb) nin0))⟩
      replace A_sl := A_sl.keep Kq56 (ninS (Ne.symm ne_pr_sl) (ninS (Ne.symm ne_prb_sl) nin0))
      replace A_t := A_t.keep Kq56 (ninS ne_t_pr (ninS ne_t_prb nin0))
      replace E_t := E_t.keep Kq56
      replace Z0 := Nat.le_trans Z0 Kq56.1
      replace K0 := K0.trans Kq56 (allS (Or.inl (by simp)) (allS (Or.inl (by simp)) all0))
      refine Go.st (S' := T56.setTop (mkF m 48 #[.val (.ref a), .val (.ref t), .val (.int H1.length.toInt32), .val (.int (1 : Int32))] [])) (st56) ?_
      refine Go.st (S' := T56.setTop (mkF m 49 #[.val (.ref a), .val (.ref t), .val (.int H1.length.toInt32), .val (.int (1 : Int32))] [(.ref a)])) (fun _ k_ => XS.aloadN X56.here hx rfl (hb hby d5_48) rfl rfl k_) ?_
      obtain ⟨T57, X57, e57, st57⟩ := getF X56 hx hZ hown (host := "") (Or.inl (w19 hw)) Via.refl e56 F_pairs_a (g := (mkF m 49 #[.val (.ref a), .val (.ref t), .val (.int H1.length.toInt32), .val (.int (1 : Int32))] [(.ref a)])) rfl rfl (hb hby d5_49)
      refine Go.st (S' := T57.setTop (mkF m 52 #[.val (.ref a), .val (.ref t), .val (.int H1.length.toInt32), .val (.int (1 : Int32))] [(.ref pr)])) (st57) ?_
      refine Go.st (S' := T57.setTop (mkF m 53 #[.val (.ref a), .val (.ref t), .val (.int H1.length.toInt32), .val (.int (1 : Int32))] [(.ref t), (.ref pr)])) (fun _ k_ => XS.aloadN X57.here hx rfl (hb hby d5_52) rfl rfl k_) ?_
      refine Go.st (S' := T57.setTop (mkF m 54 #[.val (.ref a), .val (.ref t), .val (.int H1.length.toInt32), .val (.int (1 : Int32))] [(.int (1 : Int32)), (.ref t), (.ref pr)])) (fun _ k_ => XS.iloadN X57.here hx rfl (hb hby d5_53) rfl k_) ?_
      refine Go.st (S' := T57.setTop (mkF m 55 #[.val (.ref a), .val (.ref t), .val (.int H1.length.toInt32), .val (.int (1 : Int32))] [(.int x1), (.ref pr)])) (A_t.load X57 hx hZ e57 (j := (1 : Int32)) (v := x1) (by decide) rfl (g := (mkF m 54 #[.val (.ref a), .val (.ref t), .val (.int H1.length.toInt32), .val (.int (1 : Int32))] [(.int (1 : Int32)), (.ref t), (.ref pr)])) rfl rfl (hb hby d5_54)) ?_
      obtain ⟨v58, T58, h58, L58, X58, e58, hQ58, st58⟩ := callVi X57 hx hZ hown (w31 hw) (w32 hw) (w34 hw) (w33 hw) (w12 hw) (w35 hw) (by decide) (W := 0) (argsL := [(.int x1)]) (rest := []) e57 IL_pr.1 (il_add l Z a0 hw pr prb x1 (((P ++ [(0 : Int32)]) ++ [x0]) ++ [(1 : Int32)]) h56 n0 Z0 IL_pr (by first | decide | (simp; omega) | omega) g_pr g_prb ne_pr_prb) (by decide) (by decide) pd4 rfl (g := (mkF m 55 #[.val (.ref a), .val (.ref t), .val (.int H1.length.toInt32), .val (.int (1 : Int32))] [(.int x1), (.ref pr)])) rfl (by rw [hml]; rfl) rfl (by show 2 * 0 + _ ≤ _; exact Nat.le_of_eq rfl) (hb hby d5_55) (by decide) (by decide)
      obtain ⟨rfl, Nq58, Kq58, IL_pr⟩ := hQ58
      have N58 := Fr.app N56 Nq58
      replace E_a := E_a.keep Kq58
      replace F_pairs_a := F_pairs_a.keep Kq58 (ninS ne_a_pr (ninS ne_a_prb nin0))
      replace F_starts_a := F_starts_a.keep Kq58 (ninS ne_a_pr (ninS ne_a_prb nin0))
      replace F_hashes_a := F_hashes_a.keep Kq58 (ninS ne_a_pr (ninS ne_a_prb nin0))
      replace F_slots_a := F_slots_a.keep Kq58 (ninS ne_a_pr (ninS ne_a_prb nin0))
      replace F_places_a := F_places_a.keep Kq58 (ninS ne_a_pr (ninS ne_a_prb nin0))
      replace IL_ss := IL_ss.keep Kq58 ⟨(ninS (Ne.symm ne_pr_ss) (ninS (Ne.symm ne_prb_ss) nin0)), (ninS (Ne.symm ne_pr_ssb) (ninS (Ne.symm ne_prb_ssb) nin0))⟩
      replace IL_hs := IL_hs.keep Kq58 ⟨(ninS (Ne.symm ne_pr_hs) (ninS (Ne.symm ne_prb_hs) nin0)), (ninS (Ne.symm ne_pr_hsb) (ninS (Ne.symm ne_prb_hsb) nin0))⟩
      replace A_sl := A_sl.keep Kq58 (ninS (Ne.symm ne_pr_sl) (ninS (Ne.symm ne_prb_sl) nin0))
      replace A_t := A_t.keep Kq58 (ninS ne_t_pr (ninS ne_t_prb nin0))
      replace E_t := E_t.keep Kq58
      replace Z0 := Nat.le_trans Z0 Kq58.1
      replace K0 := K0.trans Kq58 (allS (Or.inl (by simp)) (allS (Or.inl (by simp)) all0))
      refine Go.st (S' := T58.setTop (mkF m 58 #[.val (.ref a), .val (.ref t), .val (.int H1.length.toInt32), .val (.int (1 : Int32))] [])) (st58) ?_
      refine Go.st (S' := T58.setTop (mkF m 61 #[.val (.ref a), .val (.ref t), .val (.int H1.length.toInt32), .val (.int ((1 : Int32) + (1 : Int32)))] [])) (fun _ k_ => XS.iinc X58.here hx rfl (hb hby d5_58) rfl (l' := #[.val (.ref a), .val (.ref t), .val (.int H1.length.toInt32), .val (.int ((1 : Int32) + (1 : Int32)))]) rfl k_) ?_
      rw [show ((1 : Int32) + (1 : Int32)) = (2 : Int32) from rfl]
      refine Go.st (S' := T58.setTop (mkF m 26 #[.val (.ref a), .val (.ref t), .val (.int H1.length.toInt32), .val (.int (2 : Int32))] [])) (fun _ k_ => XS.goto X58.here hx rfl (pc0 := 61) (pc' := 26) rfl (hb hby d5_61) (by decide) (by decide) k_) ?_
      refine Go.st (S' := T58.setTop (mkF m 27 #[.val (.ref a), .val (.ref t), .val (.int H1.length.toInt32), .val (.int (2 : Int32))] [(.int (2 : Int32))])) (fun _ k_ => XS.iloadN X58.here hx rfl (hb hby d5_26) rfl k_) ?_
      refine Go.st (S' := T58.setTop (mkF m 28 #[.val (.ref a), .val (.ref t), .val (.int H1.length.toInt32), .val (.int (2 : Int32))] [(.ref a), (.int (2 : Int32))])) (fun _ k_ => XS.aloadN X58.here hx rfl (hb hby d5_27) rfl rfl k_) ?_
      obtain ⟨T59, X59, e59, st59⟩ := getF X58 hx hZ hown (host := "") (Or.inl (w27 hw)) Via.refl e58 F_places_a (g := (mkF m 28 #[.val (.ref a), .val (.ref t), .val (.int H1.length.toInt32), .val (.int (2 : Int32))] [(.ref a), (.int (2 : Int32))])) rfl rfl (hb hby d5_28)
      refine Go.st (S' := T59.setTop (mkF m 31 #[.val (.ref a), .val (.ref t), .val (.int H1.length.toInt32), .val (.int (2 : Int32))] [(.int (3 : Int32)), (.int (2 : Int32))])) (st59) ?_
      refine Go.st (S' := T59.setTop (mkF m 34 #[.val (.ref a), .val (.ref t), .val (.int H1.length.toInt32), .val (.int (2 : Int32))] [])) (fun _ k_ => XS.icmpNo X59.here hx rfl (hb hby d5_31) rfl (tlt (by decide)).2.1 k_) ?_
      refine Go.st (S' := T59.setTop (mkF m 35 #[.val (.ref a), .val (.ref t), .val (.int H1.length.toInt32), .val (.int (2 : Int32))] [(.ref t)])) (fun _ k_ => XS.aloadN X59.here hx rfl (hb hby d5_34) rfl rfl k_) ?_
      refine Go.st (S' := T59.setTop (mkF m 36 #[.val (.ref a), .val (.ref t), .val (.int H1.length.toInt32), .val (.int (2 : Int32))] [(.int (2 : Int32)), (.ref t)])) (fun _ k_ => XS.iloadN X59.here hx rfl (hb hby d5_35) rfl k_) ?_
      refine Go.st (S' := T59.setTop (mkF m 37 #[.val (.ref a), .val (.ref t), .val (.int H1.length.toInt32), .val (.int (2 : Int32))] [(.int x2)])) (A_t.load X59 hx hZ e59 (j := (2 : Int32)) (v := x2) (by decide) rfl (g := (mkF m 36 #[.val (.ref a), .val (.ref t), .val (.int H1.length.toInt32), .val (.int (2 : Int32))] [(.int (2 : Int32)), (.ref t)])) rfl rfl (hb hby d5_36)) ?_
      by_cases hx2 : x2 = (0 : Int32)
      · skip
        refine Go.st (S' := T59.setTop (mkF m 58 #[.val (.ref a), .val (.ref t), .val (.int H1.length.toInt32), .val (.int (2 : Int32))] [])) (fun _ k_ => XS.ifYes X59.here hx rfl (pc0 := 37) (pc' := 58) rfl (hb hby d5_37) rfl ((if0 _ _).trans (teq hx2).1) (by decide) (by decide) k_) ?_
        refine Go.st (S' := T59.setTop (mkF m 61 #[.val (.ref a), .val (.ref t), .val (.int H1.length.toInt32), .val (.int ((2 : Int32) + (1 : Int32)))] [])) (fun _ k_ => XS.iinc X59.here hx rfl (hb hby d5_58) rfl (l' := #[.val (.ref a), .val (.ref t), .val (.int H1.length.toInt32), .val (.int ((2 : Int32) + (1 : Int32)))]) rfl k_) ?_
        rw [show ((2 : Int32) + (1 : Int32)) = (3 : Int32) from rfl]
        refine Go.st (S' := T59.setTop (mkF m 26 #[.val (.ref a), .val (.ref t), .val (.int H1.length.toInt32), .val (.int (3 : Int32))] [])) (fun _ k_ => XS.goto X59.here hx rfl (pc0 := 61) (pc' := 26) rfl (hb hby d5_61) (by decide) (by decide) k_) ?_
        refine Go.st (S' := T59.setTop (mkF m 27 #[.val (.ref a), .val (.ref t), .val (.int H1.length.toInt32), .val (.int (3 : Int32))] [(.int (3 : Int32))])) (fun _ k_ => XS.iloadN X59.here hx rfl (hb hby d5_26) rfl k_) ?_
        refine Go.st (S' := T59.setTop (mkF m 28 #[.val (.ref a), .val (.ref t), .val (.int H1.length.toInt32), .val (.int (3 : Int32))] [(.ref a), (.int (3 : Int32))])) (fun _ k_ => XS.aloadN X59.here hx rfl (hb hby d5_27) rfl rfl k_) ?_
        obtain ⟨T60, X60, e60, st60⟩ := getF X59 hx hZ hown (host := "") (Or.inl (w27 hw)) Via.refl e59 F_places_a (g := (mkF m 28 #[.val (.ref a), .val (.ref t), .val (.int H1.length.toInt32), .val (.int (3 : Int32))] [(.ref a), (.int (3 : Int32))])) rfl rfl (hb hby d5_28)
        refine Go.st (S' := T60.setTop (mkF m 31 #[.val (.ref a), .val (.ref t), .val (.int H1.length.toInt32), .val (.int (3 : Int32))] [(.int (3 : Int32)), (.int (3 : Int32))])) (st60) ?_
        refine Go.st (S' := T60.setTop (mkF m 64 #[.val (.ref a), .val (.ref t), .val (.int H1.length.toInt32), .val (.int (3 : Int32))] [])) (fun _ k_ => XS.icmpYes X60.here hx rfl (pc0 := 31) (pc' := 64) rfl (hb hby d5_31) rfl (flt (by decide)).2.1 (by decide) (by decide) k_) ?_
        have hPe : ((((P ++ [(0 : Int32)]) ++ [x0]) ++ [(1 : Int32)]) ++ [x1]) = (P ++ own_flat (own_ps x0 x1 x2)) := by simp [own_ps, own_flat, hx0, hx1, hx2, List.filter]
        rw [hPe] at IL_pr
        exact J64 _ _ _ X60 e60 N58 Z0 K0 E_a F_pairs_a F_starts_a F_hashes_a F_slots_a F_places_a IL_pr IL_ss IL_hs A_sl A_t E_t
      · skip
        refine Go.st (S' := T59.setTop (mkF m 40 #[.val (.ref a), .val (.ref t), .val (.int H1.length.toInt32), .val (.int (2 : Int32))] [])) (fun _ k_ => XS.ifNo X59.here hx rfl (hb hby d5_37) rfl ((if0 _ _).trans (feq hx2).1) k_) ?_
        refine Go.st (S' := T59.setTop (mkF m 41 #[.val (.ref a), .val (.ref t), .val (.int H1.length.toInt32), .val (.int (2 : Int32))] [(.ref a)])) (fun _ k_ => XS.aloadN X59.here hx rfl (hb hby d5_40) rfl rfl k_) ?_
        obtain ⟨T61, X61, e61, st61⟩ := getF X59 hx hZ hown (host := "") (Or.inl (w19 hw)) Via.refl e59 F_pairs_a (g := (mkF m 41 #[.val (.ref a), .val (.ref t), .val (.int H1.length.toInt32), .val (.int (2 : Int32))] [(.ref a)])) rfl rfl (hb hby d5_41)
        refine Go.st (S' := T61.setTop (mkF m 44 #[.val (.ref a), .val (.ref t), .val (.int H1.length.toInt32), .val (.int (2 : Int32))] [(.ref pr)])) (st61) ?_
        refine Go.st (S' := T61.setTop (mkF m 45 #[.val (.ref a), .val (.ref t), .val (.int H1.length.toInt32), .val (.int (2 : Int32))] [(.int (2 : Int32)), (.ref pr)])) (fun _ k_ => XS.iloadN X61.here hx rfl (hb hby d5_44) rfl k_) ?_
        obtain ⟨v62, T62, h62, L62, X62, e62, hQ62, st62⟩ := callVi X61 hx hZ hown (w31 hw) (w32 hw) (w34 hw) (w33 hw) (w12 hw) (w35 hw) (by decide) (W := 0) (argsL := [(.int (2 : Int32))]) (rest := []) e61 IL_pr.1 (il_add l Z a0 hw pr prb (2 : Int32) ((((P ++ [(0 : Int32)]) ++ [x0]) ++ [(1 : Int32)]) ++ [x1]) h58 n0 Z0 IL_pr (by first | decide | (simp; omega) | omega) g_pr g_prb ne_pr_prb) (by decide) (by decide) pd4 rfl (g := (mkF m 45 #[.val (.ref a), .val (.ref t), .val (.int H1.length.toInt32), .val (.int (2 : Int32))] [(.int (2 : Int32)), (.ref pr)])) rfl (by rw [hml]; rfl) rfl (by show 2 * 0 + _ ≤ _; exact Nat.le_of_eq rfl) (hb hby d5_45) (by decide) (by decide)
        obtain ⟨rfl, Nq62, Kq62, IL_pr⟩ := hQ62
        have N62 := Fr.app N58 Nq62
        replace E_a := E_a.keep Kq62
        replace F_pairs_a := F_pairs_a.keep Kq62 (ninS ne_a_pr (ninS ne_a_prb nin0))
        replace F_starts_a := F_starts_a.keep Kq62 (ninS ne_a_pr (ninS ne_a_prb nin0))
        replace F_hashes_a := F_hashes_a.keep Kq62 (ninS ne_a_pr (ninS ne_a_prb nin0))
        replace F_slots_a := F_slots_a.keep Kq62 (ninS ne_a_pr (ninS ne_a_prb nin0))
        replace F_places_a := F_places_a.keep Kq62 (ninS ne_a_pr (ninS ne_a_prb nin0))
        replace IL_ss := IL_ss.keep Kq62 ⟨(ninS (Ne.symm ne_pr_ss) (ninS (Ne.symm ne_prb_ss) nin0)), (ninS (Ne.symm ne_pr_ssb) (ninS (Ne.symm ne_prb_ssb) nin0))⟩
        replace IL_hs := IL_hs.keep Kq62 ⟨(ninS (Ne.symm ne_pr_hs) (ninS (Ne.symm ne_prb_hs) nin0)), (ninS (Ne.symm ne_pr_hsb) (ninS (Ne.symm ne_prb_hsb) nin0))⟩
        replace A_sl := A_sl.keep Kq62 (ninS (Ne.symm ne_pr_sl) (ninS (Ne.symm ne_prb_sl) nin0))
        replace A_t := A_t.keep Kq62 (ninS ne_t_pr (ninS ne_t_prb nin0))
        replace E_t := E_t.keep Kq62
        replace Z0 := Nat.le_trans Z0 Kq62.1
        replace K0 := K0.trans Kq62 (allS (Or.inl (by simp)) (allS (Or.inl (by simp)) all0))
        refine Go.st (S' := T62.setTop (mkF m 48 #[.val (.ref a), .val (.ref t), .val (.int H1.length.toInt32), .val (.int (2 : Int32))] [])) (st62) ?_
        refine Go.st (S' := T62.setTop (mkF m 49 #[.val (.ref a), .val (.ref t), .val (.int H1.length.toInt32), .val (.int (2 : Int32))] [(.ref a)])) (fun _ k_ => XS.aloadN X62.here hx rfl (hb hby d5_48) rfl rfl k_) ?_
        obtain ⟨T63, X63, e63, st63⟩ := getF X62 hx hZ hown (host := "") (Or.inl (w19 hw)) Via.refl e62 F_pairs_a (g := (mkF m 49 #[.val (.ref a), .val (.ref t), .val (.int H1.length.toInt32), .val (.int (2 : Int32))] [(.ref a)])) rfl rfl (hb hby d5_49)
        refine Go.st (S' := T63.setTop (mkF m 52 #[.val (.ref a), .val (.ref t), .val (.int H1.length.toInt32), .val (.int (2 : Int32))] [(.ref pr)])) (st63) ?_
        refine Go.st (S' := T63.setTop (mkF m 53 #[.val (.ref a), .val (.ref t), .val (.int H1.length.toInt32), .val (.int (2 : Int32))] [(.ref t), (.ref pr)])) (fun _ k_ => XS.aloadN X63.here hx rfl (hb hby d5_52) rfl rfl k_) ?_
        refine Go.st (S' := T63.setTop (mkF m 54 #[.val (.ref a), .val (.ref t), .val (.int H1.length.toInt32), .val (.int (2 : Int32))] [(.int (2 : Int32)), (.ref t), (.ref pr)])) (fun _ k_ => XS.iloadN X63.here hx rfl (hb hby d5_53) rfl k_) ?_
        refine Go.st (S' := T63.setTop (mkF m 55 #[.val (.ref a), .val (.ref t), .val (.int H1.length.toInt32), .val (.int (2 : Int32))] [(.int x2), (.ref pr)])) (A_t.load X63 hx hZ e63 (j := (2 : Int32)) (v := x2) (by decide) rfl (g := (mkF m 54 #[.val (.ref a), .val (.ref t), .val (.int H1.length.toInt32), .val (.int (2 : Int32))] [(.int (2 : Int32)), (.ref t), (.ref pr)])) rfl rfl (hb hby d5_54)) ?_
        obtain ⟨v64, T64, h64, L64, X64, e64, hQ64, st64⟩ := callVi X63 hx hZ hown (w31 hw) (w32 hw) (w34 hw) (w33 hw) (w12 hw) (w35 hw) (by decide) (W := 0) (argsL := [(.int x2)]) (rest := []) e63 IL_pr.1 (il_add l Z a0 hw pr prb x2 (((((P ++ [(0 : Int32)]) ++ [x0]) ++ [(1 : Int32)]) ++ [x1]) ++ [(2 : Int32)]) h62 n0 Z0 IL_pr (by first | decide | (simp; omega) | omega) g_pr g_prb ne_pr_prb) (by decide) (by decide) pd4 rfl (g := (mkF m 55 #[.val (.ref a), .val (.ref t), .val (.int H1.length.toInt32), .val (.int (2 : Int32))] [(.int x2), (.ref pr)])) rfl (by rw [hml]; rfl) rfl (by show 2 * 0 + _ ≤ _; exact Nat.le_of_eq rfl) (hb hby d5_55) (by decide) (by decide)
        obtain ⟨rfl, Nq64, Kq64, IL_pr⟩ := hQ64
        have N64 := Fr.app N62 Nq64
        replace E_a := E_a.keep Kq64
        replace F_pairs_a := F_pairs_a.keep Kq64 (ninS ne_a_pr (ninS ne_a_prb nin0))
        replace F_starts_a := F_starts_a.keep Kq64 (ninS ne_a_pr (ninS ne_a_prb nin0))
        replace F_hashes_a := F_hashes_a.keep Kq64 (ninS ne_a_pr (ninS ne_a_prb nin0))
        replace F_slots_a := F_slots_a.keep Kq64 (ninS ne_a_pr (ninS ne_a_prb nin0))
        replace F_places_a := F_places_a.keep Kq64 (ninS ne_a_pr (ninS ne_a_prb nin0))
        replace IL_ss := IL_ss.keep Kq64 ⟨(ninS (Ne.symm ne_pr_ss) (ninS (Ne.symm ne_prb_ss) nin0)), (ninS (Ne.symm ne_pr_ssb) (ninS (Ne.symm ne_prb_ssb) nin0))⟩
        replace IL_hs := IL_hs.keep Kq64 ⟨(ninS (Ne.symm ne_pr_hs) (ninS (Ne.symm ne_prb_hs) nin0)), (ninS (Ne.symm ne_pr_hsb) (ninS (Ne.symm ne_prb_hsb) nin0))⟩
        replace A_sl := A_sl.keep Kq64 (ninS (Ne.symm ne_pr_sl) (ninS (Ne.symm ne_prb_sl) nin0))
        replace A_t := A_t.keep Kq64 (ninS ne_t_pr (ninS ne_t_prb nin0))
        replace E_t := E_t.keep Kq64
        replace Z0 := Nat.le_trans Z0 Kq64.1
        replace K0 := K0.trans Kq64 (allS (Or.inl (by simp)) (allS (Or.inl (by simp)) all0))
        refine Go.st (S' := T64.setTop (mkF m 58 #[.val (.ref a), .val (.ref t), .val (.int H1.length.toInt32), .val (.int (2 : Int32))] [])) (st64) ?_
        refine Go.st (S' := T64.setTop (mkF m 61 #[.val (.ref a), .val (.ref t), .val (.int H1.length.toInt32), .val (.int ((2 : Int32) + (1 : Int32)))] [])) (fun _ k_ => XS.iinc X64.here hx rfl (hb hby d5_58) rfl (l' := #[.val (.ref a), .val (.ref t), .val (.int H1.length.toInt32), .val (.int ((2 : Int32) + (1 : Int32)))]) rfl k_) ?_
        rw [show ((2 : Int32) + (1 : Int32)) = (3 : Int32) from rfl]
        refine Go.st (S' := T64.setTop (mkF m 26 #[.val (.ref a), .val (.ref t), .val (.int H1.length.toInt32), .val (.int (3 : Int32))] [])) (fun _ k_ => XS.goto X64.here hx rfl (pc0 := 61) (pc' := 26) rfl (hb hby d5_61) (by decide) (by decide) k_) ?_
        refine Go.st (S' := T64.setTop (mkF m 27 #[.val (.ref a), .val (.ref t), .val (.int H1.length.toInt32), .val (.int (3 : Int32))] [(.int (3 : Int32))])) (fun _ k_ => XS.iloadN X64.here hx rfl (hb hby d5_26) rfl k_) ?_
        refine Go.st (S' := T64.setTop (mkF m 28 #[.val (.ref a), .val (.ref t), .val (.int H1.length.toInt32), .val (.int (3 : Int32))] [(.ref a), (.int (3 : Int32))])) (fun _ k_ => XS.aloadN X64.here hx rfl (hb hby d5_27) rfl rfl k_) ?_
        obtain ⟨T65, X65, e65, st65⟩ := getF X64 hx hZ hown (host := "") (Or.inl (w27 hw)) Via.refl e64 F_places_a (g := (mkF m 28 #[.val (.ref a), .val (.ref t), .val (.int H1.length.toInt32), .val (.int (3 : Int32))] [(.ref a), (.int (3 : Int32))])) rfl rfl (hb hby d5_28)
        refine Go.st (S' := T65.setTop (mkF m 31 #[.val (.ref a), .val (.ref t), .val (.int H1.length.toInt32), .val (.int (3 : Int32))] [(.int (3 : Int32)), (.int (3 : Int32))])) (st65) ?_
        refine Go.st (S' := T65.setTop (mkF m 64 #[.val (.ref a), .val (.ref t), .val (.int H1.length.toInt32), .val (.int (3 : Int32))] [])) (fun _ k_ => XS.icmpYes X65.here hx rfl (pc0 := 31) (pc' := 64) rfl (hb hby d5_31) rfl (flt (by decide)).2.1 (by decide) (by decide) k_) ?_
        have hPe : ((((((P ++ [(0 : Int32)]) ++ [x0]) ++ [(1 : Int32)]) ++ [x1]) ++ [(2 : Int32)]) ++ [x2]) = (P ++ own_flat (own_ps x0 x1 x2)) := by simp [own_ps, own_flat, hx0, hx1, hx2, List.filter]
        rw [hPe] at IL_pr
        exact J64 _ _ _ X65 e65 N64 Z0 K0 E_a F_pairs_a F_starts_a F_hashes_a F_slots_a F_places_a IL_pr IL_ss IL_hs A_sl A_t E_t
def own_find : List (Int32 × Int32) → Int32 → Int32
  | [], _ => 0
  | p :: ps, k => if p.1 = k then p.2 else own_find ps k
def own_all : List (Int32 × Int32) → List Int32 → Bool
  | [], _ => true
  | p :: ps, ys => if ys.getD p.1.toNatClampNeg 0 < p.2 then false else own_all ps ys
theorem own_at0 (pre post : List Int32) (p : Int32 × Int32) (qs : List (Int32 × Int32)) : (pre ++ own_flat (p :: qs) ++ post)[pre.length]? = some p.1 := by simp [own_flat]
theorem own_at1 (pre post : List Int32) (p : Int32 × Int32) (qs : List (Int32 × Int32)) : (pre ++ own_flat (p :: qs) ++ post)[pre.length + 1]? = some p.2 := by simp [own_flat]
theorem own_shift (pre post : List Int32) (p : Int32 × Int32) (qs : List (Int32 × Int32)) : pre ++ own_flat (p :: qs) ++ post = (pre ++ [p.1, p.2]) ++ own_flat qs ++ post := by simp [own_flat]
theorem own_tlt {n m : Nat} (hn : n < 2147483648) (hm : m < 2147483648) : n.toInt32 < m.toInt32 ↔ n < m := by rw [Int32.lt_iff_toInt_lt, own_ti hn, own_ti hm]; omega
theorem own_t2 (pre : List Int32) (x y : Int32) : pre.length.toInt32 + (2 : Int32) = (pre ++ [x, y]).length.toInt32 := by rw [List.length_append]; exact (Int32.ofNat_add _ 2).symm
theorem own_find0 (x y z : Int32) : own_find (own_ps x y z) 0 = x := by
  by_cases h0 : x = 0 <;> by_cases h1 : y = 0 <;> by_cases h2 : z = 0 <;> simp [own_ps, own_find, List.filter, h0, h1, h2]
theorem own_find1 (x y z : Int32) : own_find (own_ps x y z) 1 = y := by
  by_cases h0 : x = 0 <;> by_cases h1 : y = 0 <;> by_cases h2 : z = 0 <;> simp [own_ps, own_find, List.filter, h0, h1, h2]
theorem own_find2 (x y z : Int32) : own_find (own_ps x y z) 2 = z := by
  by_cases h0 : x = 0 <;> by_cases h1 : y = 0 <;> by_cases h2 : z = 0 <;> simp [own_ps, own_find, List.filter, h0, h1, h2]
theorem own_psin (x y z : Int32) : ∀ p ∈ own_ps x y z, ¬ p.1 < 0 ∧ p.1.toNatClampNeg < 3 := by
  intro p hp
  have hp := (List.mem_filter.mp hp).1
  simp only [List.mem_cons, List.not_mem_nil, or_false] at hp
  rcases hp with rfl | rfl | rfl <;> (dsimp only; decide)
theorem own_allf (x y z t0 t1 t2 : Int32) : own_all (own_ps x y z) [t0, t1, t2] = true ↔ ((x = 0 ∨ ¬ t0 < x) ∧ (y = 0 ∨ ¬ t1 < y) ∧ (z = 0 ∨ ¬ t2 < z)) := by
  have e0 : (0 : Int32).toNatClampNeg = 0 := rfl
  have e1 : (1 : Int32).toNatClampNeg = 1 := rfl
  have e2 : (2 : Int32).toNatClampNeg = 2 := rfl
  by_cases h0 : x = 0 <;> by_cases h1 : y = 0 <;> by_cases h2 : z = 0 <;> by_cases k0 : t0 < x <;> by_cases k1 : t1 < y <;> by_cases k2 : t2 < z <;> simp [own_ps, own_all, List.filter, h0, h1, h2, k0, k1, k2, e0, e1, e2]

theorem ef_mt_most (m : MethodId) (x0 : Addr) (x1 : Int32) (x2 : Addr) : entryFrame m #[(.ref x0), (.int x1), (.ref x2)] 4 = mkF m 0 #[.val (.ref x0), .val (.int x1), .val (.ref x2), .unset] [] := by first | (simp [entryFrame, mkF, argsToLocals, Value.category]; done) | rfl
set_option maxRecDepth 65536 in
set_option maxHeartbeats 40000000 in
theorem mt_most (l : Launch) (Z : State) (a0 : Array Value) (hw : ∀ d ∈ tables_1, d.before a0 Z = true) (a pr prb ss ssb hs hsb sl : Addr) (P S H1 zs : List Int32) (num E : Nat) (pre post : List Int32) (ps : List (Int32 × Int32)) (t : Addr) (y0 y1 y2 : Int32) (h0 : Heap) (n0 : Nat) (Z0 : n0 ≤ h0.size) (H : MT Z h0 a pr prb ss ssb hs hsb sl P S H1 zs) (hd : own_dis n0 a pr prb ss ssb hs hsb sl) (hP : P = pre ++ own_flat ps ++ post) (hE : (pre ++ own_flat ps).length = E) (hS0 : S[num]? = some pre.length.toInt32) (hS1 : S[num + 1]? = some E.toInt32) (hnum : num ≤ 4) (A_t : Ai Z h0 t .int [y0, y1, y2]) (hin : ∀ p ∈ ps, ¬ p.1 < 0 ∧ p.1.toNatClampNeg < 3) :
    Con l Z (⟨"com/example/caseweave/caseweave/core/MarkingTable", "isAtMost", "(I[I)Z"⟩ : MethodName) prog_9_method_7_code 4 (some .boolean) [] ({ frames := 1, cells := 0, slots := 0, locals := 20 } : Room) #[(.ref a), (.int num.toInt32), (.ref t)] h0 (fun v h L => v = some (.int (if own_all ps [y0, y1, y2] = true then (1 : Int32) else (0 : Int32))) ∧ Fr n0 L ∧ h = h0) := by
  refine Con.mk (plainFor_of_name pn3) ?_
  intro p e s m below meth c T0 hx hby hml hown hnm hret hlk hZ X0 e0
  have hown : s.vm.findClass "com/example/caseweave/caseweave/core/MarkingTable" = some m.cls := hown
  have hnm : meth.name = "isAtMost" := hnm
  have N0 := Fr.nil n0
  obtain ⟨E_a, F_pairs_a, F_starts_a, F_hashes_a, F_slots_a, F_places_a, IL_pr, IL_ss, IL_hs, A_sl⟩ := H
  obtain ⟨ne_a_pr, ne_a_prb, ne_a_ss, ne_a_ssb, ne_a_hs, ne_a_hsb, ne_a_sl, ne_pr_prb, ne_pr_ss, ne_pr_ssb, ne_pr_hs, ne_pr_hsb, ne_pr_sl, ne_prb_ss, ne_prb_ssb, ne_prb_hs, ne_prb_hsb, ne_prb_sl, ne_ss_ssb, ne_ss_hs, ne_ss_hsb, ne_ss_sl, ne_ssb_hs, ne_ssb_hsb, ne_ssb_sl, ne_hs_hsb, ne_hs_sl, ne_hsb_sl, g_a, g_pr, g_prb, g_ss, g_ssb, g_hs, g_hsb, g_sl⟩ := hd
  have hP16 : P.length ≤ 16 := IL_pr.2.2.2.2
  have hE16 : E ≤ 16 := by rw [hP] at hP16; simp only [List.length_append] at hP16 hE; omega
  have loop : ∀ (qs : List (Int32 × Int32)) (pr2 : List Int32) (T : State) (locs : List Loc) (X : Stand p l e ({ frames := 1, cells := 0, slots := 0, locals := 20 } : Room) s m #[(.ref a), (.int num.toInt32), (.ref t)] below meth c T locs 0 0) (e1 : T.heap = h0) (N1 : Fr n0 locs) (hPP : P = pr2 ++ own_flat qs ++ post) (hEE : (pr2 ++ own_flat qs).length = E) (hf : own_all qs [y0, y1, y2] = own_all ps [y0, y1, y2]) (hqi : ∀ p ∈ qs, ¬ p.1 < 0 ∧ p.1.toNatClampNeg < 3), Go p e below s ({ frames := 1, cells := 0, slots := 0, locals := 20 } : Room) (fun v h L => v = some (.int (if own_all ps [y0, y1, y2] = true then (1 : Int32) else (0 : Int32))) ∧ Fr n0 L ∧ h = h0) (T.setTop (mkF m 9 #[.val (.ref a), .val (.int num.toInt32), .val (.ref t), .val (.int pr2.length.toInt32)] [])) := by
    intro qs
    induction qs with
    | nil =>
      intro pr2 T locs X e1 N1 hPP hEE hf hqi
      have hlt : pr2.length ≤ E := by rw [← hEE]; simp only [List.length_append]; omega
      refine Go.st (S' := T.setTop (mkF m 10 #[.val (.ref a), .val (.int num.toInt32), .val (.ref t), .val (.int pr2.length.toInt32)] [(.int pr2.length.toInt32)])) (fun _ k_ => XS.iloadN X.here hx rfl (hb hby d15_9) rfl k_) ?_
      refine Go.st (S' := T.setTop (mkF m 11 #[.val (.ref a), .val (.int num.toInt32), .val (.ref t), .val (.int pr2.length.toInt32)] [(.ref a), (.int pr2.length.toInt32)])) (fun _ k_ => XS.aloadN X.here hx rfl (hb hby d15_10) rfl rfl k_) ?_
      obtain ⟨T11, X11, e11, st11⟩ := getF X hx hZ hown (host := "") (Or.inl (w21 hw)) Via.refl e1 F_starts_a (g := (mkF m 11 #[.val (.ref a), .val (.int num.toInt32), .val (.ref t), .val (.int pr2.length.toInt32)] [(.ref a), (.int pr2.length.toInt32)])) rfl rfl (hb hby d15_11)
      refine Go.st (S' := T11.setTop (mkF m 14 #[.val (.ref a), .val (.int num.toInt32), .val (.ref t), .val (.int pr2.length.toInt32)] [(.ref ss), (.int pr2.length.toInt32)])) (st11) ?_
      refine Go.st (S' := T11.setTop (mkF m 15 #[.val (.ref a), .val (.int num.toInt32), .val (.ref t), .val (.int pr2.length.toInt32)] [(.int num.toInt32), (.ref ss), (.int pr2.length.toInt32)])) (fun _ k_ => XS.iloadN X11.here hx rfl (hb hby d15_14) rfl k_) ?_
      refine Go.st (S' := T11.setTop (mkF m 16 #[.val (.ref a), .val (.int num.toInt32), .val (.ref t), .val (.int pr2.length.toInt32)] [(.int (1 : Int32)), (.int num.toInt32), (.ref ss), (.int pr2.length.toInt32)])) (fun _ k_ => XS.iconst X11.here hx rfl (hb hby d15_15) k_) ?_
      refine Go.st (S' := T11.setTop (mkF m 17 #[.val (.ref a), .val (.int num.toInt32), .val (.ref t), .val (.int pr2.length.toInt32)] [(.int (num.toInt32 + (1 : Int32))), (.ref ss), (.int pr2.length.toInt32)])) (fun _ k_ => XS.iadd X11.here hx rfl (hb hby d15_16) rfl k_) ?_
      obtain ⟨v12, T12, h12, L12, X12, e12, hQ12, st12⟩ := callVi X11 hx hZ hown (w75 hw) (w76 hw) (w78 hw) (w77 hw) (w12 hw) (w79 hw) (by decide) (W := 1) (argsL := [(.int (num.toInt32 + (1 : Int32)))]) (rest := [(.int pr2.length.toInt32)]) e11 IL_ss.1 (il_get l Z a0 hw ss ssb (num.toInt32 + (1 : Int32)) E.toInt32 S h0 n0 Z0 IL_ss (by rw [own_t1]; exact own_tpos (by omega)) (by rw [own_t1, own_tn (by omega)]; exact hS1)) (by decide) (by decide) pd6 rfl (g := (mkF m 17 #[.val (.ref a), .val (.int num.toInt32), .val (.ref t), .val (.int pr2.length.toInt32)] [(.int (num.toInt32 + (1 : Int32))), (.ref ss), (.int pr2.length.toInt32)])) rfl (by rw [hml]; rfl) rfl (by show 2 * 0 + _ ≤ _; exact Nat.le_of_eq rfl) (hb hby d15_17) (by decide) (by decide)
      obtain ⟨rfl, Nq12, hh12⟩ := hQ12
      rw [hh12] at e12
      have N12 := Fr.app N1 Nq12
      refine Go.st (S' := T12.setTop (mkF m 20 #[.val (.ref a), .val (.int num.toInt32), .val (.ref t), .val (.int pr2.length.toInt32)] [(.int E.toInt32), (.int pr2.length.toInt32)])) (st12) ?_
      refine Go.st (S' := T12.setTop (mkF m 54 #[.val (.ref a), .val (.int num.toInt32), .val (.ref t), .val (.int pr2.length.toInt32)] [])) (fun _ k_ => XS.icmpYes X12.here hx rfl (pc0 := 20) (pc' := 54) rfl (hb hby d15_20) rfl (flt ((by rw [show pr2.length = E by rw [← hEE]; simp [own_flat]]; exact Int32.lt_irrefl))).2.1 (by decide) (by decide) k_) ?_
      refine Go.st (S' := T12.setTop (mkF m 55 #[.val (.ref a), .val (.int num.toInt32), .val (.ref t), .val (.int pr2.length.toInt32)] [(.int (1 : Int32))])) (fun _ k_ => XS.iconst X12.here hx rfl (hb hby d15_54) k_) ?_
      exact Go.retN X12 hx (t := .boolean) hret (by simp) hlk (hb hby d15_55) (by decide) (by decide) (by rw [e12]; exact ⟨by rw [← hf]; try rfl, N12, rfl⟩)
    | cons hd1 qs ih =>
      intro pr2 T locs X e1 N1 hPP hEE hf hqi
      have hlt : pr2.length + 2 ≤ E := by rw [← hEE]; simp only [List.length_append, own_flat, List.length_cons]; omega
      refine Go.st (S' := T.setTop (mkF m 10 #[.val (.ref a), .val (.int num.toInt32), .val (.ref t), .val (.int pr2.length.toInt32)] [(.int pr2.length.toInt32)])) (fun _ k_ => XS.iloadN X.here hx rfl (hb hby d15_9) rfl k_) ?_
      refine Go.st (S' := T.setTop (mkF m 11 #[.val (.ref a), .val (.int num.toInt32), .val (.ref t), .val (.int pr2.length.toInt32)] [(.ref a), (.int pr2.length.toInt32)])) (fun _ k_ => XS.aloadN X.here hx rfl (hb hby d15_10) rfl rfl k_) ?_
      obtain ⟨T13, X13, e13, st13⟩ := getF X hx hZ hown (host := "") (Or.inl (w21 hw)) Via.refl e1 F_starts_a (g := (mkF m 11 #[.val (.ref a), .val (.int num.toInt32), .val (.ref t), .val (.int pr2.length.toInt32)] [(.ref a), (.int pr2.length.toInt32)])) rfl rfl (hb hby d15_11)
      refine Go.st (S' := T13.setTop (mkF m 14 #[.val (.ref a), .val (.int num.toInt32), .val (.ref t), .val (.int pr2.length.toInt32)] [(.ref ss), (.int pr2.length.toInt32)])) (st13) ?_
      refine Go.st (S' := T13.setTop (mkF m 15 #[.val (.ref a), .val (.int num.toInt32), .val (.ref t), .val (.int pr2.length.toInt32)] [(.int num.toInt32), (.ref ss), (.int pr2.length.toInt32)])) (fun _ k_ => XS.iloadN X13.here hx rfl (hb hby d15_14) rfl k_) ?_
      refine Go.st (S' := T13.setTop (mkF m 16 #[.val (.ref a), .val (.int num.toInt32), .val (.ref t), .val (.int pr2.length.toInt32)] [(.int (1 : Int32)), (.int num.toInt32), (.ref ss), (.int pr2.length.toInt32)])) (fun _ k_ => XS.iconst X13.here hx rfl (hb hby d15_15) k_) ?_
      refine Go.st (S' := T13.setTop (mkF m 17 #[.val (.ref a), .val (.int num.toInt32), .val (.ref t), .val (.int pr2.length.toInt32)] [(.int (num.toInt32 + (1 : Int32))), (.ref ss), (.int pr2.length.toInt32)])) (fun _ k_ => XS.iadd X13.here hx rfl (hb hby d15_16) rfl k_) ?_
      obtain ⟨v14, T14, h14, L14, X14, e14, hQ14, st14⟩ := callVi X13 hx hZ hown (w75 hw) (w76 hw) (w78 hw) (w77 hw) (w12 hw) (w79 hw) (by decide) (W := 1) (argsL := [(.int (num.toInt32 + (1 : Int32)))]) (rest := [(.int pr2.length.toInt32)]) e13 IL_ss.1 (il_get l Z a0 hw ss ssb (num.toInt32 + (1 : Int32)) E.toInt32 S h0 n0 Z0 IL_ss (by rw [own_t1]; exact own_tpos (by omega)) (by rw [own_t1, own_tn (by omega)]; exact hS1)) (by decide) (by decide) pd6 rfl (g := (mkF m 17 #[.val (.ref a), .val (.int num.toInt32), .val (.ref t), .val (.int pr2.length.toInt32)] [(.int (num.toInt32 + (1 : Int32))), (.ref ss), (.int pr2.length.toInt32)])) rfl (by rw [hml]; rfl) rfl (by show 2 * 0 + _ ≤ _; exact Nat.le_of_eq rfl) (hb hby d15_17) (by decide) (by decide)
      obtain ⟨rfl, Nq14, hh14⟩ := hQ14
      rw [hh14] at e14
      have N14 := Fr.app N1 Nq14
      refine Go.st (S' := T14.setTop (mkF m 20 #[.val (.ref a), .val (.int num.toInt32), .val (.ref t), .val (.int pr2.length.toInt32)] [(.int E.toInt32), (.int pr2.length.toInt32)])) (st14) ?_
      refine Go.st (S' := T14.setTop (mkF m 23 #[.val (.ref a), .val (.int num.toInt32), .val (.ref t), .val (.int pr2.length.toInt32)] [])) (fun _ k_ => XS.icmpNo X14.here hx rfl (hb hby d15_20) rfl (tlt ((own_tlt (by omega) (by omega)).mpr (by omega))).2.1 k_) ?_
      refine Go.st (S' := T14.setTop (mkF m 24 #[.val (.ref a), .val (.int num.toInt32), .val (.ref t), .val (.int pr2.length.toInt32)] [(.ref a)])) (fun _ k_ => XS.aloadN X14.here hx rfl (hb hby d15_23) rfl rfl k_) ?_
      obtain ⟨T15, X15, e15, st15⟩ := getF X14 hx hZ hown (host := "") (Or.inl (w19 hw)) Via.refl e14 F_pairs_a (g := (mkF m 24 #[.val (.ref a), .val (.int num.toInt32), .val (.ref t), .val (.int pr2.length.toInt32)] [(.ref a)])) rfl rfl (hb hby d15_24)
      refine Go.st (S' := T15.setTop (mkF m 27 #[.val (.ref a), .val (.int num.toInt32), .val (.ref t), .val (.int pr2.length.toInt32)] [(.ref pr)])) (st15) ?_
      refine Go.st (S' := T15.setTop (mkF m 28 #[.val (.ref a), .val (.int num.toInt32), .val (.ref t), .val (.int pr2.length.toInt32)] [(.int pr2.length.toInt32), (.ref pr)])) (fun _ k_ => XS.iloadN X15.here hx rfl (hb hby d15_27) rfl k_) ?_
      refine Go.st (S' := T15.setTop (mkF m 29 #[.val (.ref a), .val (.int num.toInt32), .val (.ref t), .val (.int pr2.length.toInt32)] [(.int (1 : Int32)), (.int pr2.length.toInt32), (.ref pr)])) (fun _ k_ => XS.iconst X15.here hx rfl (hb hby d15_28) k_) ?_
      refine Go.st (S' := T15.setTop (mkF m 30 #[.val (.ref a), .val (.int num.toInt32), .val (.ref t), .val (.int pr2.length.toInt32)] [(.int (pr2.length.toInt32 + (1 : Int32))), (.ref pr)])) (fun _ k_ => XS.iadd X15.here hx rfl (hb hby d15_29) rfl k_) ?_
      obtain ⟨v16, T16, h16, L16, X16, e16, hQ16, st16⟩ := callVi X15 hx hZ hown (w75 hw) (w76 hw) (w78 hw) (w77 hw) (w12 hw) (w79 hw) (by decide) (W := 0) (argsL := [(.int (pr2.length.toInt32 + (1 : Int32)))]) (rest := []) e15 IL_pr.1 (il_get l Z a0 hw pr prb (pr2.length.toInt32 + (1 : Int32)) hd1.2 P h0 n0 Z0 IL_pr (by rw [own_t1]; exact own_tpos (by omega)) (by rw [own_t1, own_tn (by omega), hPP]; exact own_at1 _ _ _ _)) (by decide) (by decide) pd6 rfl (g := (mkF m 30 #[.val (.ref a), .val (.int num.toInt32), .val (.ref t), .val (.int pr2.length.toInt32)] [(.int (pr2.length.toInt32 + (1 : Int32))), (.ref pr)])) rfl (by rw [hml]; rfl) rfl (by show 2 * 0 + _ ≤ _; exact Nat.le_of_eq rfl) (hb hby d15_30) (by decide) (by decide)
      obtain ⟨rfl, Nq16, hh16⟩ := hQ16
      rw [hh16] at e16
      have N16 := Fr.app N14 Nq16
      refine Go.st (S' := T16.setTop (mkF m 33 #[.val (.ref a), .val (.int num.toInt32), .val (.ref t), .val (.int pr2.length.toInt32)] [(.int hd1.2)])) (st16) ?_
      refine Go.st (S' := T16.setTop (mkF m 34 #[.val (.ref a), .val (.int num.toInt32), .val (.ref t), .val (.int pr2.length.toInt32)] [(.ref t), (.int hd1.2)])) (fun _ k_ => XS.aloadN X16.here hx rfl (hb hby d15_33) rfl rfl k_) ?_
      refine Go.st (S' := T16.setTop (mkF m 35 #[.val (.ref a), .val (.int num.toInt32), .val (.ref t), .val (.int pr2.length.toInt32)] [(.ref a), (.ref t), (.int hd1.2)])) (fun _ k_ => XS.aloadN X16.here hx rfl (hb hby d15_34) rfl rfl k_) ?_
      obtain ⟨T17, X17, e17, st17⟩ := getF X16 hx hZ hown (host := "") (Or.inl (w19 hw)) Via.refl e16 F_pairs_a (g := (mkF m 35 #[.val (.ref a), .val (.int num.toInt32), .val (.ref t), .val (.int pr2.length.toInt32)] [(.ref a), (.ref t), (.int hd1.2)])) rfl rfl (hb hby d15_35)
      refine Go.st (S' := T17.setTop (mkF m 38 #[.val (.ref a), .val (.int num.toInt32), .val (.ref t), .val (.int pr2.length.toInt32)] [(.ref pr), (.ref t), (.int hd1.2)])) (st17) ?_
      refine Go.st (S' := T17.setTop (mkF m 39 #[.val (.ref a), .val (.int num.toInt32), .val (.ref t), .val (.int pr2.length.toInt32)] [(.int pr2.length.toInt32), (.ref pr), (.ref t), (.int hd1.2)])) (fun _ k_ => XS.iloadN X17.here hx rfl (hb hby d15_38) rfl k_) ?_
      obtain ⟨v18, T18, h18, L18, X18, e18, hQ18, st18⟩ := callVi X17 hx hZ hown (w75 hw) (w76 hw) (w78 hw) (w77 hw) (w12 hw) (w79 hw) (by decide) (W := 2) (argsL := [(.int pr2.length.toInt32)]) (rest := [(.ref t), (.int hd1.2)]) e17 IL_pr.1 (il_get l Z a0 hw pr prb pr2.length.toInt32 hd1.1 P h0 n0 Z0 IL_pr (own_tpos (by omega)) (by rw [own_tn (by omega), hPP]; exact own_at0 _ _ _ _)) (by decide) (by decide) pd6 rfl (g := (mkF m 39 #[.val (.ref a), .val (.int num.toInt32), .val (.ref t), .val (.int pr2.length.toInt32)] [(.int pr2.length.toInt32), (.ref pr), (.ref t), (.int hd1.2)])) rfl (by rw [hml]; rfl) rfl (by show 2 * 0 + _ ≤ _; exact Nat.le_of_eq rfl) (hb hby d15_39) (by decide) (by decide)
      obtain ⟨rfl, Nq18, hh18⟩ := hQ18
      rw [hh18] at e18
      have N18 := Fr.app N16 Nq18
      refine Go.st (S' := T18.setTop (mkF m 42 #[.val (.ref a), .val (.int num.toInt32), .val (.ref t), .val (.int pr2.length.toInt32)] [(.int hd1.1), (.ref t), (.int hd1.2)])) (st18) ?_
      refine Go.st (S' := T18.setTop (mkF m 43 #[.val (.ref a), .val (.int num.toInt32), .val (.ref t), .val (.int pr2.length.toInt32)] [(.int ([y0, y1, y2].getD hd1.1.toNatClampNeg 0)), (.int hd1.2)])) (A_t.load X18 hx hZ e18 (j := hd1.1) (v := ([y0, y1, y2].getD hd1.1.toNatClampNeg 0)) (hqi hd1 (List.mem_cons_self)).1 (own_gd0 (hqi hd1 (List.mem_cons_self)).2) (g := (mkF m 42 #[.val (.ref a), .val (.int num.toInt32), .val (.ref t), .val (.int pr2.length.toInt32)] [(.int hd1.1), (.ref t), (.int hd1.2)])) rfl rfl (hb hby d15_42)) ?_
      by_cases hc43 : ([y0, y1, y2].getD hd1.1.toNatClampNeg 0) < hd1.2
      · skip
        refine Go.st (S' := T18.setTop (mkF m 46 #[.val (.ref a), .val (.int num.toInt32), .val (.ref t), .val (.int pr2.length.toInt32)] [])) (fun _ k_ => XS.icmpNo X18.here hx rfl (hb hby d15_43) rfl (tlt hc43).2.2.2 k_) ?_
        refine Go.st (S' := T18.setTop (mkF m 47 #[.val (.ref a), .val (.int num.toInt32), .val (.ref t), .val (.int pr2.length.toInt32)] [(.int (0 : Int32))])) (fun _ k_ => XS.iconst X18.here hx rfl (hb hby d15_46) k_) ?_
        exact Go.retN X18 hx (t := .boolean) hret (by simp) hlk (hb hby d15_47) (by decide) (by decide) (by rw [e18]; exact ⟨by rw [← hf, own_all, if_pos hc43]; try rfl, N18, rfl⟩)
      · skip
        refine Go.st (S' := T18.setTop (mkF m 48 #[.val (.ref a), .val (.int num.toInt32), .val (.ref t), .val (.int pr2.length.toInt32)] [])) (fun _ k_ => XS.icmpYes X18.here hx rfl (pc0 := 43) (pc' := 48) rfl (hb hby d15_43) rfl (flt hc43).2.2.2 (by decide) (by decide) k_) ?_
        refine Go.st (S' := T18.setTop (mkF m 51 #[.val (.ref a), .val (.int num.toInt32), .val (.ref t), .val (.int (pr2.length.toInt32 + (2 : Int32)))] [])) (fun _ k_ => XS.iinc X18.here hx rfl (hb hby d15_48) rfl (l' := #[.val (.ref a), .val (.int num.toInt32), .val (.ref t), .val (.int (pr2.length.toInt32 + (2 : Int32)))]) rfl k_) ?_
        rw [show (pr2.length.toInt32 + (2 : Int32)) = (pr2 ++ [hd1.1, hd1.2]).length.toInt32 from own_t2 _ _ _]
        refine Go.st (S' := T18.setTop (mkF m 9 #[.val (.ref a), .val (.int num.toInt32), .val (.ref t), .val (.int (pr2 ++ [hd1.1, hd1.2]).length.toInt32)] [])) (fun _ k_ => XS.goto X18.here hx rfl (pc0 := 51) (pc' := 9) rfl (hb hby d15_51) (by decide) (by decide) k_) ?_
        exact ih (pr2 ++ [hd1.1, hd1.2]) _ _ X18 e18 N18 (by rw [hPP]; exact own_shift _ _ _ _) (by rw [← hEE]; simp [own_flat]) (by rw [← hf, own_all, if_neg hc43]) (fun p hp => hqi p (List.mem_cons_of_mem _ hp))
  refine Go.cast (ef_mt_most m a num.toInt32 t) ?_
  refine Go.st (S' := T0.setTop (mkF m 1 #[.val (.ref a), .val (.int num.toInt32), .val (.ref t), .unset] [(.ref a)])) (fun _ k_ => XS.aloadN X0.here hx rfl (hb hby d15_0) rfl rfl k_) ?_
  obtain ⟨T19, X19, e19, st19⟩ := getF X0 hx hZ hown (host := "") (Or.inl (w21 hw)) Via.refl e0 F_starts_a (g := (mkF m 1 #[.val (.ref a), .val (.int num.toInt32), .val (.ref t), .unset] [(.ref a)])) rfl rfl (hb hby d15_1)
  refine Go.st (S' := T19.setTop (mkF m 4 #[.val (.ref a), .val (.int num.toInt32), .val (.ref t), .unset] [(.ref ss)])) (st19) ?_
  refine Go.st (S' := T19.setTop (mkF m 5 #[.val (.ref a), .val (.int num.toInt32), .val (.ref t), .unset] [(.int num.toInt32), (.ref ss)])) (fun _ k_ => XS.iloadN X19.here hx rfl (hb hby d15_4) rfl k_) ?_
  obtain ⟨v20, T20, h20, L20, X20, e20, hQ20, st20⟩ := callVi X19 hx hZ hown (w75 hw) (w76 hw) (w78 hw) (w77 hw) (w12 hw) (w79 hw) (by decide) (W := 0) (argsL := [(.int num.toInt32)]) (rest := []) e19 IL_ss.1 (il_get l Z a0 hw ss ssb num.toInt32 pre.length.toInt32 S h0 n0 Z0 IL_ss (own_tpos (by omega)) (by rw [own_tn (by omega)]; exact hS0)) (by decide) (by decide) pd6 rfl (g := (mkF m 5 #[.val (.ref a), .val (.int num.toInt32), .val (.ref t), .unset] [(.int num.toInt32), (.ref ss)])) rfl (by rw [hml]; rfl) rfl (by show 2 * 0 + _ ≤ _; exact Nat.le_of_eq rfl) (hb hby d15_5) (by decide) (by decide)
  obtain ⟨rfl, Nq20, hh20⟩ := hQ20
  rw [hh20] at e20
  have N20 := Fr.app N0 Nq20
  refine Go.st (S' := T20.setTop (mkF m 8 #[.val (.ref a), .val (.int num.toInt32), .val (.ref t), .unset] [(.int pre.length.toInt32)])) (st20) ?_
  refine Go.st (S' := T20.setTop (mkF m 9 #[.val (.ref a), .val (.int num.toInt32), .val (.ref t), .val (.int pre.length.toInt32)] [])) (fun _ k_ => XS.istoreN X20.here hx rfl (hb hby d15_8) rfl (l' := #[.val (.ref a), .val (.int num.toInt32), .val (.ref t), .val (.int pre.length.toInt32)]) rfl k_) ?_
  exact loop ps pre _ _ X20 e20 N20 hP hE rfl hin
theorem ef_rm_fits (m : MethodId) (x0 : Int32) (x1 : Int32) : entryFrame m #[(.int x0), (.int x1)] 2 = mkF m 0 #[.val (.int x0), .val (.int x1)] [] := by first | (simp [entryFrame, mkF, argsToLocals, Value.category]; done) | rfl
set_option maxRecDepth 65536 in
set_option maxHeartbeats 40000000 in
theorem rm_fits (l : Launch) (Z : State) (a0 : Array Value) (hw : ∀ d ∈ tables_1, d.before a0 Z = true) (p0 : Int32) (p1 : Int32) (h0 : Heap) (n0 : Nat) (Z0 : n0 ≤ h0.size) :
    Con l Z (⟨"com/example/caseweave/caseweave/core/MarkingTableIsAtMostPinLaw", "fits", "(II)Z"⟩ : MethodName) method_2_code 2 (some .boolean) [] ({ frames := 0, cells := 0, slots := 0, locals := 0 } : Room) #[(.int p0), (.int p1)] h0 (fun v h L => v = some (.int (if (p0 = 0 ∨ ¬ p1 < p0) then (1 : Int32) else (0 : Int32))) ∧ Fr n0 L ∧ h = h0) := by
  refine Con.mk (plainFor_of_name pn4) ?_
  intro p e s m below meth c T0 hx hby hml hown hnm hret hlk hZ X0 e0
  have hown : s.vm.findClass "com/example/caseweave/caseweave/core/MarkingTableIsAtMostPinLaw" = some m.cls := hown
  have hnm : meth.name = "fits" := hnm
  have N0 := Fr.nil n0
  refine Go.cast (ef_rm_fits m p0 p1) ?_
  refine Go.st (S' := T0.setTop (mkF m 1 #[.val (.int p0), .val (.int p1)] [(.int p0)])) (fun _ k_ => XS.iloadN X0.here hx rfl (hb hby d14_0) rfl k_) ?_
  by_cases hc1 : p0 = (0 : Int32)
  · skip
    refine Go.st (S' := T0.setTop (mkF m 9 #[.val (.int p0), .val (.int p1)] [])) (fun _ k_ => XS.ifYes X0.here hx rfl (pc0 := 1) (pc' := 9) rfl (hb hby d14_1) rfl ((if0 _ _).trans (teq hc1).1) (by decide) (by decide) k_) ?_
    refine Go.st (S' := T0.setTop (mkF m 10 #[.val (.int p0), .val (.int p1)] [(.int (1 : Int32))])) (fun _ k_ => XS.iconst X0.here hx rfl (hb hby d14_9) k_) ?_
    refine Go.st (S' := T0.setTop (mkF m 14 #[.val (.int p0), .val (.int p1)] [(.int (1 : Int32))])) (fun _ k_ => XS.goto X0.here hx rfl (pc0 := 10) (pc' := 14) rfl (hb hby d14_10) (by decide) (by decide) k_) ?_
    exact Go.retN X0 hx (t := .boolean) hret (by simp) hlk (hb hby d14_14) (by decide) (by decide) (by rw [e0]; exact ⟨by rw [if_pos (Or.inl hc1)]; try rfl, N0, rfl⟩)
  · skip
    refine Go.st (S' := T0.setTop (mkF m 4 #[.val (.int p0), .val (.int p1)] [])) (fun _ k_ => XS.ifNo X0.here hx rfl (hb hby d14_1) rfl ((if0 _ _).trans (feq hc1).1) k_) ?_
    refine Go.st (S' := T0.setTop (mkF m 5 #[.val (.int p0), .val (.int p1)] [(.int p0)])) (fun _ k_ => XS.iloadN X0.here hx rfl (hb hby d14_4) rfl k_) ?_
    refine Go.st (S' := T0.setTop (mkF m 6 #[.val (.int p0), .val (.int p1)] [(.int p1), (.int p0)])) (fun _ k_ => XS.iloadN X0.here hx rfl (hb hby d14_5) rfl k_) ?_
    by_cases hc6 : p1 < p0
    · skip
      refine Go.st (S' := T0.setTop (mkF m 13 #[.val (.int p0), .val (.int p1)] [])) (fun _ k_ => XS.icmpYes X0.here hx rfl (pc0 := 6) (pc' := 13) rfl (hb hby d14_6) rfl (tlt hc6).2.2.1 (by decide) (by decide) k_) ?_
      refine Go.st (S' := T0.setTop (mkF m 14 #[.val (.int p0), .val (.int p1)] [(.int (0 : Int32))])) (fun _ k_ => XS.iconst X0.here hx rfl (hb hby d14_13) k_) ?_
      exact Go.retN X0 hx (t := .boolean) hret (by simp) hlk (hb hby d14_14) (by decide) (by decide) (by rw [e0]; exact ⟨by rw [if_neg (fun z => z.elim hc1 (fun q => q hc6))]; try rfl, N0, rfl⟩)
    · skip
      refine Go.st (S' := T0.setTop (mkF m 9 #[.val (.int p0), .val (.int p1)] [])) (fun _ k_ => XS.icmpNo X0.here hx rfl (hb hby d14_6) rfl (flt hc6).2.2.1 k_) ?_
      refine Go.st (S' := T0.setTop (mkF m 10 #[.val (.int p0), .val (.int p1)] [(.int (1 : Int32))])) (fun _ k_ => XS.iconst X0.here hx rfl (hb hby d14_9) k_) ?_
      refine Go.st (S' := T0.setTop (mkF m 14 #[.val (.int p0), .val (.int p1)] [(.int (1 : Int32))])) (fun _ k_ => XS.goto X0.here hx rfl (pc0 := 10) (pc' := 14) rfl (hb hby d14_10) (by decide) (by decide) k_) ?_
      exact Go.retN X0 hx (t := .boolean) hret (by simp) hlk (hb hby d14_14) (by decide) (by decide) (by rw [e0]; exact ⟨by rw [if_pos (Or.inr hc6)]; try rfl, N0, rfl⟩)
theorem ef_rm0 (m : MethodId) (x0 : Int32) (x1 : Int32) (x2 : Int32) (x3 : Int64) (x4 : Int32) (x5 : Int32) : entryFrame m #[(.int x0), (.int x1), (.int x2), (.long x3), (.int x4), (.int x5)] maxLocals = mkF m 0 #[.val (.int x0), .val (.int x1), .val (.int x2), .val (.long x3), .second, .val (.int x4), .val (.int x5), .unset, .unset, .unset, .unset, .unset, .unset, .unset, .unset, .unset] [] := by first | (simp [entryFrame, mkF, argsToLocals, Value.category, maxLocals]; done) | rfl
set_option maxRecDepth 65536 in
set_option maxHeartbeats 40000000 in
theorem rm0 (l : Launch) (Z : State) (a0 : Array Value) (hw : ∀ d ∈ tables_1, d.before a0 Z = true) (ws : List Jvm.Cond) (p0 : Int32) (p1 : Int32) (p2 : Int32) (q3 : Int64) (p4 : Int32) (p5 : Int32) (h0 : Heap) (n0 : Nat) (Z0 : n0 ≤ h0.size) :
    Con l Z x code maxLocals ret ws room_1 #[(.int p0), (.int p1), (.int p2), (.long q3), (.int p4), (.int p5)] h0 (fun v h L => v = some (.int 1) ∧ Fr n0 L) := by
  refine Con.mk (plainFor_of_name pn4) ?_
  intro p e s m below meth c T0 hx hby hml hown hnm hret hlk hZ X0 e0
  have hret : meth.sig.returnType = some .boolean := hret
  have hml : c.maxLocals = 16 := hml
  have hown : s.vm.findClass "com/example/caseweave/caseweave/core/MarkingTableIsAtMostPinLaw" = some m.cls := hown
  have hby : c.code = code := hby
  have N0 := Fr.nil n0
  refine Go.cast (ef_rm0 m p0 p1 p2 q3 p4 p5) ?_
  refine Go.st (S' := T0.setTop (mkF m 1 #[.val (.int p0), .val (.int p1), .val (.int p2), .val (.long q3), .second, .val (.int p4), .val (.int p5), .unset, .unset, .unset, .unset, .unset, .unset, .unset, .unset, .unset] [(.int (3 : Int32))])) (fun _ k_ => XS.iconst X0.here hx rfl (hb hby at_0) k_) ?_
  obtain ⟨T11, h11, b11, X11, e11, q11, E11, A11, E_b11, st11⟩ := Ai.newE X0 hx hZ (aty := .int) (w0 hw) rfl e0 (n := (3 : Int32)) (by decide) 3 (by decide) (by decide) (by decide) (by decide) (ad := "[I") rfl (g := (mkF m 1 #[.val (.int p0), .val (.int p1), .val (.int p2), .val (.long q3), .second, .val (.int p4), .val (.int p5), .unset, .unset, .unset, .unset, .unset, .unset, .unset, .unset, .unset] [(.int (3 : Int32))])) rfl rfl (hb hby at_1)
  have g_b11 : n0 ≤ b11 := Nat.le_trans Z0 (Nat.le_of_eq q11.symm)
  replace Z0 := Nat.le_trans Z0 E11.1
  have A_b11 : Ai Z h11 b11 .int [(0 : Int32), (0 : Int32), (0 : Int32)] := A11
  refine Go.st (S' := T11.setTop (mkF m 3 #[.val (.int p0), .val (.int p1), .val (.int p2), .val (.long q3), .second, .val (.int p4), .val (.int p5), .unset, .unset, .unset, .unset, .unset, .unset, .unset, .unset, .unset] [(.ref b11)])) (st11) ?_
  refine Go.st (S' := T11.setTop (mkF m 4 #[.val (.int p0), .val (.int p1), .val (.int p2), .val (.long q3), .second, .val (.int p4), .val (.int p5), .unset, .unset, .unset, .unset, .unset, .unset, .unset, .unset, .unset] [(.ref b11), (.ref b11)])) (fun _ k_ => XS.dup X11.here hx rfl (hb hby at_3) rfl rfl k_) ?_
  refine Go.st (S' := T11.setTop (mkF m 5 #[.val (.int p0), .val (.int p1), .val (.int p2), .val (.long q3), .second, .val (.int p4), .val (.int p5), .unset, .unset, .unset, .unset, .unset, .unset, .unset, .unset, .unset] [(.int (0 : Int32)), (.ref b11), (.ref b11)])) (fun _ k_ => XS.iconst X11.here hx rfl (hb hby at_4) k_) ?_
  refine Go.st (S' := T11.setTop (mkF m 6 #[.val (.int p0), .val (.int p1), .val (.int p2), .val (.long q3), .second, .val (.int p4), .val (.int p5), .unset, .unset, .unset, .unset, .unset, .unset, .unset, .unset, .unset] [(.int p0), (.int (0 : Int32)), (.ref b11), (.ref b11)])) (fun _ k_ => XS.iloadN X11.here hx rfl (hb hby at_5) rfl k_) ?_
  obtain ⟨T12, h12, X12, e12, W12, A12, st12⟩ := A_b11.store X11 hx hZ e11 (j := (0 : Int32)) (by decide) (Nat.le_of_ble_eq_true rfl) (g := (mkF m 6 #[.val (.int p0), .val (.int p1), .val (.int p2), .val (.long q3), .second, .val (.int p4), .val (.int p5), .unset, .unset, .unset, .unset, .unset, .unset, .unset, .unset, .unset] [(.int p0), (.int (0 : Int32)), (.ref b11), (.ref b11)])) rfl rfl (hb hby at_6)
  replace A_b11 : Ai Z h12 b11 .int [p0, (0 : Int32), (0 : Int32)] := A12
  replace E_b11 := E_b11.wr W12
  replace Z0 := Nat.le_trans Z0 (Keep.of_wr W12).1
  have N12 := Fr.snoc X12 N0 g_b11
  refine Go.st (S' := T12.setTop (mkF m 7 #[.val (.int p0), .val (.int p1), .val (.int p2), .val (.long q3), .second, .val (.int p4), .val (.int p5), .unset, .unset, .unset, .unset, .unset, .unset, .unset, .unset, .unset] [(.ref b11)])) (st12) ?_
  refine Go.st (S' := T12.setTop (mkF m 8 #[.val (.int p0), .val (.int p1), .val (.int p2), .val (.long q3), .second, .val (.int p4), .val (.int p5), .unset, .unset, .unset, .unset, .unset, .unset, .unset, .unset, .unset] [(.ref b11), (.ref b11)])) (fun _ k_ => XS.dup X12.here hx rfl (hb hby at_7) rfl rfl k_) ?_
  refine Go.st (S' := T12.setTop (mkF m 9 #[.val (.int p0), .val (.int p1), .val (.int p2), .val (.long q3), .second, .val (.int p4), .val (.int p5), .unset, .unset, .unset, .unset, .unset, .unset, .unset, .unset, .unset] [(.int (1 : Int32)), (.ref b11), (.ref b11)])) (fun _ k_ => XS.iconst X12.here hx rfl (hb hby at_8) k_) ?_
  refine Go.st (S' := T12.setTop (mkF m 10 #[.val (.int p0), .val (.int p1), .val (.int p2), .val (.long q3), .second, .val (.int p4), .val (.int p5), .unset, .unset, .unset, .unset, .unset, .unset, .unset, .unset, .unset] [(.int p1), (.int (1 : Int32)), (.ref b11), (.ref b11)])) (fun _ k_ => XS.iloadN X12.here hx rfl (hb hby at_9) rfl k_) ?_
  obtain ⟨T13, h13, X13, e13, W13, A13, st13⟩ := A_b11.store X12 hx hZ e12 (j := (1 : Int32)) (by decide) (Nat.le_of_ble_eq_true rfl) (g := (mkF m 10 #[.val (.int p0), .val (.int p1), .val (.int p2), .val (.long q3), .second, .val (.int p4), .val (.int p5), .unset, .unset, .unset, .unset, .unset, .unset, .unset, .unset, .unset] [(.int p1), (.int (1 : Int32)), (.ref b11), (.ref b11)])) rfl rfl (hb hby at_10)
  replace A_b11 : Ai Z h13 b11 .int [p0, p1, (0 : Int32)] := A13
  replace E_b11 := E_b11.wr W13
  replace Z0 := Nat.le_trans Z0 (Keep.of_wr W13).1
  have N13 := Fr.snoc X13 N12 g_b11
  refine Go.st (S' := T13.setTop (mkF m 11 #[.val (.int p0), .val (.int p1), .val (.int p2), .val (.long q3), .second, .val (.int p4), .val (.int p5), .unset, .unset, .unset, .unset, .unset, .unset, .unset, .unset, .unset] [(.ref b11)])) (st13) ?_
  refine Go.st (S' := T13.setTop (mkF m 12 #[.val (.int p0), .val (.int p1), .val (.int p2), .val (.long q3), .second, .val (.int p4), .val (.int p5), .unset, .unset, .unset, .unset, .unset, .unset, .unset, .unset, .unset] [(.ref b11), (.ref b11)])) (fun _ k_ => XS.dup X13.here hx rfl (hb hby at_11) rfl rfl k_) ?_
  refine Go.st (S' := T13.setTop (mkF m 13 #[.val (.int p0), .val (.int p1), .val (.int p2), .val (.long q3), .second, .val (.int p4), .val (.int p5), .unset, .unset, .unset, .unset, .unset, .unset, .unset, .unset, .unset] [(.int (2 : Int32)), (.ref b11), (.ref b11)])) (fun _ k_ => XS.iconst X13.here hx rfl (hb hby at_12) k_) ?_
  refine Go.st (S' := T13.setTop (mkF m 14 #[.val (.int p0), .val (.int p1), .val (.int p2), .val (.long q3), .second, .val (.int p4), .val (.int p5), .unset, .unset, .unset, .unset, .unset, .unset, .unset, .unset, .unset] [(.int p2), (.int (2 : Int32)), (.ref b11), (.ref b11)])) (fun _ k_ => XS.iloadN X13.here hx rfl (hb hby at_13) rfl k_) ?_
  obtain ⟨T14, h14, X14, e14, W14, A14, st14⟩ := A_b11.store X13 hx hZ e13 (j := (2 : Int32)) (by decide) (Nat.le_of_ble_eq_true rfl) (g := (mkF m 14 #[.val (.int p0), .val (.int p1), .val (.int p2), .val (.long q3), .second, .val (.int p4), .val (.int p5), .unset, .unset, .unset, .unset, .unset, .unset, .unset, .unset, .unset] [(.int p2), (.int (2 : Int32)), (.ref b11), (.ref b11)])) rfl rfl (hb hby at_14)
  replace A_b11 : Ai Z h14 b11 .int [p0, p1, p2] := A14
  replace E_b11 := E_b11.wr W14
  replace Z0 := Nat.le_trans Z0 (Keep.of_wr W14).1
  have N14 := Fr.snoc X14 N13 g_b11
  refine Go.st (S' := T14.setTop (mkF m 15 #[.val (.int p0), .val (.int p1), .val (.int p2), .val (.long q3), .second, .val (.int p4), .val (.int p5), .unset, .unset, .unset, .unset, .unset, .unset, .unset, .unset, .unset] [(.ref b11)])) (st14) ?_
  refine Go.st (S' := T14.setTop (mkF m 17 #[.val (.int p0), .val (.int p1), .val (.int p2), .val (.long q3), .second, .val (.int p4), .val (.int p5), .val (.ref b11), .unset, .unset, .unset, .unset, .unset, .unset, .unset, .unset] [])) (fun _ k_ => XS.astore X14.here hx rfl (hb hby at_15) rfl rfl (l' := #[.val (.int p0), .val (.int p1), .val (.int p2), .val (.long q3), .second, .val (.int p4), .val (.int p5), .val (.ref b11), .unset, .unset, .unset, .unset, .unset, .unset, .unset, .unset]) rfl k_) ?_
  refine Go.st (S' := T14.setTop (mkF m 18 #[.val (.int p0), .val (.int p1), .val (.int p2), .val (.long q3), .second, .val (.int p4), .val (.int p5), .val (.ref b11), .unset, .unset, .unset, .unset, .unset, .unset, .unset, .unset] [(.int (3 : Int32))])) (fun _ k_ => XS.iconst X14.here hx rfl (hb hby at_17) k_) ?_
  obtain ⟨T15, h15, b15, X15, e15, q15, E15, A15, E_b15, st15⟩ := Ai.newE X14 hx hZ (aty := .int) (w0 hw) rfl e14 (n := (3 : Int32)) (by decide) 3 (by decide) (by decide) (by decide) (by decide) (ad := "[I") rfl (g := (mkF m 18 #[.val (.int p0), .val (.int p1), .val (.int p2), .val (.long q3), .second, .val (.int p4), .val (.int p5), .val (.ref b11), .unset, .unset, .unset, .unset, .unset, .unset, .unset, .unset] [(.int (3 : Int32))])) rfl rfl (hb hby at_18)
  have ne_b11_b15 : b11 ≠ b15 := Nat.ne_of_lt (Nat.lt_of_lt_of_le E_b11.lt (Nat.le_of_eq q15.symm))
  have g_b15 : n0 ≤ b15 := Nat.le_trans Z0 (Nat.le_of_eq q15.symm)
  replace E_b11 := E_b11.ext E15
  replace A_b11 := A_b11.ext E15
  replace Z0 := Nat.le_trans Z0 E15.1
  have A_b15 : Ai Z h15 b15 .int [(0 : Int32), (0 : Int32), (0 : Int32)] := A15
  refine Go.st (S' := T15.setTop (mkF m 20 #[.val (.int p0), .val (.int p1), .val (.int p2), .val (.long q3), .second, .val (.int p4), .val (.int p5), .val (.ref b11), .unset, .unset, .unset, .unset, .unset, .unset, .unset, .unset] [(.ref b15)])) (st15) ?_
  refine Go.st (S' := T15.setTop (mkF m 21 #[.val (.int p0), .val (.int p1), .val (.int p2), .val (.long q3), .second, .val (.int p4), .val (.int p5), .val (.ref b11), .unset, .unset, .unset, .unset, .unset, .unset, .unset, .unset] [(.ref b15), (.ref b15)])) (fun _ k_ => XS.dup X15.here hx rfl (hb hby at_20) rfl rfl k_) ?_
  refine Go.st (S' := T15.setTop (mkF m 22 #[.val (.int p0), .val (.int p1), .val (.int p2), .val (.long q3), .second, .val (.int p4), .val (.int p5), .val (.ref b11), .unset, .unset, .unset, .unset, .unset, .unset, .unset, .unset] [(.int (0 : Int32)), (.ref b15), (.ref b15)])) (fun _ k_ => XS.iconst X15.here hx rfl (hb hby at_21) k_) ?_
  refine Go.st (S' := T15.setTop (mkF m 23 #[.val (.int p0), .val (.int p1), .val (.int p2), .val (.long q3), .second, .val (.int p4), .val (.int p5), .val (.ref b11), .unset, .unset, .unset, .unset, .unset, .unset, .unset, .unset] [(.int p2), (.int (0 : Int32)), (.ref b15), (.ref b15)])) (fun _ k_ => XS.iloadN X15.here hx rfl (hb hby at_22) rfl k_) ?_
  obtain ⟨T16, h16, X16, e16, W16, A16, st16⟩ := A_b15.store X15 hx hZ e15 (j := (0 : Int32)) (by decide) (Nat.le_of_ble_eq_true rfl) (g := (mkF m 23 #[.val (.int p0), .val (.int p1), .val (.int p2), .val (.long q3), .second, .val (.int p4), .val (.int p5), .val (.ref b11), .unset, .unset, .unset, .unset, .unset, .unset, .unset, .unset] [(.int p2), (.int (0 : Int32)), (.ref b15), (.ref b15)])) rfl rfl (hb hby at_23)
  replace A_b15 : Ai Z h16 b15 .int [p2, (0 : Int32), (0 : Int32)] := A16
  replace E_b11 := E_b11.wr W16
  replace A_b11 := A_b11.other W16 ne_b11_b15
  replace E_b15 := E_b15.wr W16
  replace Z0 := Nat.le_trans Z0 (Keep.of_wr W16).1
  have N16 := Fr.snoc X16 N14 g_b15
  refine Go.st (S' := T16.setTop (mkF m 24 #[.val (.int p0), .val (.int p1), .val (.int p2), .val (.long q3), .second, .val (.int p4), .val (.int p5), .val (.ref b11), .unset, .unset, .unset, .unset, .unset, .unset, .unset, .unset] [(.ref b15)])) (st16) ?_
  refine Go.st (S' := T16.setTop (mkF m 25 #[.val (.int p0), .val (.int p1), .val (.int p2), .val (.long q3), .second, .val (.int p4), .val (.int p5), .val (.ref b11), .unset, .unset, .unset, .unset, .unset, .unset, .unset, .unset] [(.ref b15), (.ref b15)])) (fun _ k_ => XS.dup X16.here hx rfl (hb hby at_24) rfl rfl k_) ?_
  refine Go.st (S' := T16.setTop (mkF m 26 #[.val (.int p0), .val (.int p1), .val (.int p2), .val (.long q3), .second, .val (.int p4), .val (.int p5), .val (.ref b11), .unset, .unset, .unset, .unset, .unset, .unset, .unset, .unset] [(.int (1 : Int32)), (.ref b15), (.ref b15)])) (fun _ k_ => XS.iconst X16.here hx rfl (hb hby at_25) k_) ?_
  refine Go.st (S' := T16.setTop (mkF m 27 #[.val (.int p0), .val (.int p1), .val (.int p2), .val (.long q3), .second, .val (.int p4), .val (.int p5), .val (.ref b11), .unset, .unset, .unset, .unset, .unset, .unset, .unset, .unset] [(.int p0), (.int (1 : Int32)), (.ref b15), (.ref b15)])) (fun _ k_ => XS.iloadN X16.here hx rfl (hb hby at_26) rfl k_) ?_
  obtain ⟨T17, h17, X17, e17, W17, A17, st17⟩ := A_b15.store X16 hx hZ e16 (j := (1 : Int32)) (by decide) (Nat.le_of_ble_eq_true rfl) (g := (mkF m 27 #[.val (.int p0), .val (.int p1), .val (.int p2), .val (.long q3), .second, .val (.int p4), .val (.int p5), .val (.ref b11), .unset, .unset, .unset, .unset, .unset, .unset, .unset, .unset] [(.int p0), (.int (1 : Int32)), (.ref b15), (.ref b15)])) rfl rfl (hb hby at_27)
  replace A_b15 : Ai Z h17 b15 .int [p2, p0, (0 : Int32)] := A17
  replace E_b11 := E_b11.wr W17
  replace A_b11 := A_b11.other W17 ne_b11_b15
  replace E_b15 := E_b15.wr W17
  replace Z0 := Nat.le_trans Z0 (Keep.of_wr W17).1
  have N17 := Fr.snoc X17 N16 g_b15
  refine Go.st (S' := T17.setTop (mkF m 28 #[.val (.int p0), .val (.int p1), .val (.int p2), .val (.long q3), .second, .val (.int p4), .val (.int p5), .val (.ref b11), .unset, .unset, .unset, .unset, .unset, .unset, .unset, .unset] [(.ref b15)])) (st17) ?_
  refine Go.st (S' := T17.setTop (mkF m 29 #[.val (.int p0), .val (.int p1), .val (.int p2), .val (.long q3), .second, .val (.int p4), .val (.int p5), .val (.ref b11), .unset, .unset, .unset, .unset, .unset, .unset, .unset, .unset] [(.ref b15), (.ref b15)])) (fun _ k_ => XS.dup X17.here hx rfl (hb hby at_28) rfl rfl k_) ?_
  refine Go.st (S' := T17.setTop (mkF m 30 #[.val (.int p0), .val (.int p1), .val (.int p2), .val (.long q3), .second, .val (.int p4), .val (.int p5), .val (.ref b11), .unset, .unset, .unset, .unset, .unset, .unset, .unset, .unset] [(.int (2 : Int32)), (.ref b15), (.ref b15)])) (fun _ k_ => XS.iconst X17.here hx rfl (hb hby at_29) k_) ?_
  refine Go.st (S' := T17.setTop (mkF m 31 #[.val (.int p0), .val (.int p1), .val (.int p2), .val (.long q3), .second, .val (.int p4), .val (.int p5), .val (.ref b11), .unset, .unset, .unset, .unset, .unset, .unset, .unset, .unset] [(.int p1), (.int (2 : Int32)), (.ref b15), (.ref b15)])) (fun _ k_ => XS.iloadN X17.here hx rfl (hb hby at_30) rfl k_) ?_
  refine Go.st (S' := T17.setTop (mkF m 32 #[.val (.int p0), .val (.int p1), .val (.int p2), .val (.long q3), .second, .val (.int p4), .val (.int p5), .val (.ref b11), .unset, .unset, .unset, .unset, .unset, .unset, .unset, .unset] [(.int (-1 : Int32)), (.int p1), (.int (2 : Int32)), (.ref b15), (.ref b15)])) (fun _ k_ => XS.iconst X17.here hx rfl (hb hby at_31) k_) ?_
  refine Go.st (S' := T17.setTop (mkF m 33 #[.val (.int p0), .val (.int p1), .val (.int p2), .val (.long q3), .second, .val (.int p4), .val (.int p5), .val (.ref b11), .unset, .unset, .unset, .unset, .unset, .unset, .unset, .unset] [(.int (p1 ^^^ (-1 : Int32))), (.int (2 : Int32)), (.ref b15), (.ref b15)])) (fun _ k_ => XS.ixor X17.here hx rfl (hb hby at_32) rfl k_) ?_
  obtain ⟨nt2, q_nt2⟩ : ∃ z : Int32, z = (p1 ^^^ (-1 : Int32)) := ⟨_, rfl⟩
  rw [← q_nt2]
  obtain ⟨T18, h18, X18, e18, W18, A18, st18⟩ := A_b15.store X17 hx hZ e17 (j := (2 : Int32)) (by decide) (Nat.le_of_ble_eq_true rfl) (g := (mkF m 33 #[.val (.int p0), .val (.int p1), .val (.int p2), .val (.long q3), .second, .val (.int p4), .val (.int p5), .val (.ref b11), .unset, .unset, .unset, .unset, .unset, .unset, .unset, .unset] [(.int nt2), (.int (2 : Int32)), (.ref b15), (.ref b15)])) rfl rfl (hb hby at_33)
  replace A_b15 : Ai Z h18 b15 .int [p2, p0, nt2] := A18
  replace E_b11 := E_b11.wr W18
  replace A_b11 := A_b11.other W18 ne_b11_b15
  replace E_b15 := E_b15.wr W18
  replace Z0 := Nat.le_trans Z0 (Keep.of_wr W18).1
  have N18 := Fr.snoc X18 N17 g_b15
  refine Go.st (S' := T18.setTop (mkF m 34 #[.val (.int p0), .val (.int p1), .val (.int p2), .val (.long q3), .second, .val (.int p4), .val (.int p5), .val (.ref b11), .unset, .unset, .unset, .unset, .unset, .unset, .unset, .unset] [(.ref b15)])) (st18) ?_
  refine Go.st (S' := T18.setTop (mkF m 36 #[.val (.int p0), .val (.int p1), .val (.int p2), .val (.long q3), .second, .val (.int p4), .val (.int p5), .val (.ref b11), .val (.ref b15), .unset, .unset, .unset, .unset, .unset, .unset, .unset] [])) (fun _ k_ => XS.astore X18.here hx rfl (hb hby at_34) rfl rfl (l' := #[.val (.int p0), .val (.int p1), .val (.int p2), .val (.long q3), .second, .val (.int p4), .val (.int p5), .val (.ref b11), .val (.ref b15), .unset, .unset, .unset, .unset, .unset, .unset, .unset]) rfl k_) ?_
  refine Go.st (S' := T18.setTop (mkF m 37 #[.val (.int p0), .val (.int p1), .val (.int p2), .val (.long q3), .second, .val (.int p4), .val (.int p5), .val (.ref b11), .val (.ref b15), .unset, .unset, .unset, .unset, .unset, .unset, .unset] [(.int (3 : Int32))])) (fun _ k_ => XS.iconst X18.here hx rfl (hb hby at_36) k_) ?_
  obtain ⟨T19, h19, b19, X19, e19, q19, E19, A19, E_b19, st19⟩ := Ai.newE X18 hx hZ (aty := .int) (w0 hw) rfl e18 (n := (3 : Int32)) (by decide) 3 (by decide) (by decide) (by decide) (by decide) (ad := "[I") rfl (g := (mkF m 37 #[.val (.int p0), .val (.int p1), .val (.int p2), .val (.long q3), .second, .val (.int p4), .val (.int p5), .val (.ref b11), .val (.ref b15), .unset, .unset, .unset, .unset, .unset, .unset, .unset] [(.int (3 : Int32))])) rfl rfl (hb hby at_37)
  have ne_b11_b19 : b11 ≠ b19 := Nat.ne_of_lt (Nat.lt_of_lt_of_le E_b11.lt (Nat.le_of_eq q19.symm))
  have ne_b15_b19 : b15 ≠ b19 := Nat.ne_of_lt (Nat.lt_of_lt_of_le E_b15.lt (Nat.le_of_eq q19.symm))
  have g_b19 : n0 ≤ b19 := Nat.le_trans Z0 (Nat.le_of_eq q19.symm)
  replace E_b11 := E_b11.ext E19
  replace A_b11 := A_b11.ext E19
  replace E_b15 := E_b15.ext E19
  replace A_b15 := A_b15.ext E19
  replace Z0 := Nat.le_trans Z0 E19.1
  have A_b19 : Ai Z h19 b19 .int [(0 : Int32), (0 : Int32), (0 : Int32)] := A19
  refine Go.st (S' := T19.setTop (mkF m 39 #[.val (.int p0), .val (.int p1), .val (.int p2), .val (.long q3), .second, .val (.int p4), .val (.int p5), .val (.ref b11), .val (.ref b15), .unset, .unset, .unset, .unset, .unset, .unset, .unset] [(.ref b19)])) (st19) ?_
  refine Go.st (S' := T19.setTop (mkF m 40 #[.val (.int p0), .val (.int p1), .val (.int p2), .val (.long q3), .second, .val (.int p4), .val (.int p5), .val (.ref b11), .val (.ref b15), .unset, .unset, .unset, .unset, .unset, .unset, .unset] [(.ref b19), (.ref b19)])) (fun _ k_ => XS.dup X19.here hx rfl (hb hby at_39) rfl rfl k_) ?_
  refine Go.st (S' := T19.setTop (mkF m 41 #[.val (.int p0), .val (.int p1), .val (.int p2), .val (.long q3), .second, .val (.int p4), .val (.int p5), .val (.ref b11), .val (.ref b15), .unset, .unset, .unset, .unset, .unset, .unset, .unset] [(.int (0 : Int32)), (.ref b19), (.ref b19)])) (fun _ k_ => XS.iconst X19.here hx rfl (hb hby at_40) k_) ?_
  refine Go.st (S' := T19.setTop (mkF m 42 #[.val (.int p0), .val (.int p1), .val (.int p2), .val (.long q3), .second, .val (.int p4), .val (.int p5), .val (.ref b11), .val (.ref b15), .unset, .unset, .unset, .unset, .unset, .unset, .unset] [(.long q3), (.int (0 : Int32)), (.ref b19), (.ref b19)])) (fun _ k_ => XS.lloadN X19.here hx rfl (hb hby at_41) rfl k_) ?_
  refine Go.st (S' := T19.setTop (mkF m 44 #[.val (.int p0), .val (.int p1), .val (.int p2), .val (.long q3), .second, .val (.int p4), .val (.int p5), .val (.ref b11), .val (.ref b15), .unset, .unset, .unset, .unset, .unset, .unset, .unset] [(.int (32 : Int32)), (.long q3), (.int (0 : Int32)), (.ref b19), (.ref b19)])) (fun _ k_ => XS.bipush X19.here hx rfl (hb hby at_42) k_) ?_
  refine Go.st (S' := T19.setTop (mkF m 45 #[.val (.int p0), .val (.int p1), .val (.int p2), .val (.long q3), .second, .val (.int p4), .val (.int p5), .val (.ref b11), .val (.ref b15), .unset, .unset, .unset, .unset, .unset, .unset, .unset] [(.long ((q3.toUInt64 >>> ((32 : Int32) &&& 0x3f).toInt64.toUInt64).toInt64)), (.int (0 : Int32)), (.ref b19), (.ref b19)])) (fun _ k_ => XS.lushr X19.here hx rfl (hb hby at_44) rfl k_) ?_
  refine Go.st (S' := T19.setTop (mkF m 46 #[.val (.int p0), .val (.int p1), .val (.int p2), .val (.long q3), .second, .val (.int p4), .val (.int p5), .val (.ref b11), .val (.ref b15), .unset, .unset, .unset, .unset, .unset, .unset, .unset] [(.int (((q3.toUInt64 >>> ((32 : Int32) &&& 0x3f).toInt64.toUInt64).toInt64).toInt32)), (.int (0 : Int32)), (.ref b19), (.ref b19)])) (fun _ k_ => XS.l2i X19.here hx rfl (hb hby at_45) rfl k_) ?_
  obtain ⟨nq0, q_nq0⟩ : ∃ z : Int32, z = (((q3.toUInt64 >>> ((32 : Int32) &&& 0x3f).toInt64.toUInt64).toInt64).toInt32) := ⟨_, rfl⟩
  rw [← q_nq0]
  obtain ⟨T20, h20, X20, e20, W20, A20, st20⟩ := A_b19.store X19 hx hZ e19 (j := (0 : Int32)) (by decide) (Nat.le_of_ble_eq_true rfl) (g := (mkF m 46 #[.val (.int p0), .val (.int p1), .val (.int p2), .val (.long q3), .second, .val (.int p4), .val (.int p5), .val (.ref b11), .val (.ref b15), .unset, .unset, .unset, .unset, .unset, .unset, .unset] [(.int nq0), (.int (0 : Int32)), (.ref b19), (.ref b19)])) rfl rfl (hb hby at_46)
  replace A_b19 : Ai Z h20 b19 .int [nq0, (0 : Int32), (0 : Int32)] := A20
  replace E_b11 := E_b11.wr W20
  replace A_b11 := A_b11.other W20 ne_b11_b19
  replace E_b15 := E_b15.wr W20
  replace A_b15 := A_b15.other W20 ne_b15_b19
  replace E_b19 := E_b19.wr W20
  replace Z0 := Nat.le_trans Z0 (Keep.of_wr W20).1
  have N20 := Fr.snoc X20 N18 g_b19
  refine Go.st (S' := T20.setTop (mkF m 47 #[.val (.int p0), .val (.int p1), .val (.int p2), .val (.long q3), .second, .val (.int p4), .val (.int p5), .val (.ref b11), .val (.ref b15), .unset, .unset, .unset, .unset, .unset, .unset, .unset] [(.ref b19)])) (st20) ?_
  refine Go.st (S' := T20.setTop (mkF m 48 #[.val (.int p0), .val (.int p1), .val (.int p2), .val (.long q3), .second, .val (.int p4), .val (.int p5), .val (.ref b11), .val (.ref b15), .unset, .unset, .unset, .unset, .unset, .unset, .unset] [(.ref b19), (.ref b19)])) (fun _ k_ => XS.dup X20.here hx rfl (hb hby at_47) rfl rfl k_) ?_
  refine Go.st (S' := T20.setTop (mkF m 49 #[.val (.int p0), .val (.int p1), .val (.int p2), .val (.long q3), .second, .val (.int p4), .val (.int p5), .val (.ref b11), .val (.ref b15), .unset, .unset, .unset, .unset, .unset, .unset, .unset] [(.int (1 : Int32)), (.ref b19), (.ref b19)])) (fun _ k_ => XS.iconst X20.here hx rfl (hb hby at_48) k_) ?_
  refine Go.st (S' := T20.setTop (mkF m 50 #[.val (.int p0), .val (.int p1), .val (.int p2), .val (.long q3), .second, .val (.int p4), .val (.int p5), .val (.ref b11), .val (.ref b15), .unset, .unset, .unset, .unset, .unset, .unset, .unset] [(.long q3), (.int (1 : Int32)), (.ref b19), (.ref b19)])) (fun _ k_ => XS.lloadN X20.here hx rfl (hb hby at_49) rfl k_) ?_
  refine Go.st (S' := T20.setTop (mkF m 51 #[.val (.int p0), .val (.int p1), .val (.int p2), .val (.long q3), .second, .val (.int p4), .val (.int p5), .val (.ref b11), .val (.ref b15), .unset, .unset, .unset, .unset, .unset, .unset, .unset] [(.int (q3.toInt32)), (.int (1 : Int32)), (.ref b19), (.ref b19)])) (fun _ k_ => XS.l2i X20.here hx rfl (hb hby at_50) rfl k_) ?_
  obtain ⟨nq1, q_nq1⟩ : ∃ z : Int32, z = (q3.toInt32) := ⟨_, rfl⟩
  rw [← q_nq1]
  obtain ⟨T21, h21, X21, e21, W21, A21, st21⟩ := A_b19.store X20 hx hZ e20 (j := (1 : Int32)) (by decide) (Nat.le_of_ble_eq_true rfl) (g := (mkF m 51 #[.val (.int p0), .val (.int p1), .val (.int p2), .val (.long q3), .second, .val (.int p4), .val (.int p5), .val (.ref b11), .val (.ref b15), .unset, .unset, .unset, .unset, .unset, .unset, .unset] [(.int nq1), (.int (1 : Int32)), (.ref b19), (.ref b19)])) rfl rfl (hb hby at_51)
  replace A_b19 : Ai Z h21 b19 .int [nq0, nq1, (0 : Int32)] := A21
  replace E_b11 := E_b11.wr W21
  replace A_b11 := A_b11.other W21 ne_b11_b19
  replace E_b15 := E_b15.wr W21
  replace A_b15 := A_b15.other W21 ne_b15_b19
  replace E_b19 := E_b19.wr W21
  replace Z0 := Nat.le_trans Z0 (Keep.of_wr W21).1
  have N21 := Fr.snoc X21 N20 g_b19
  refine Go.st (S' := T21.setTop (mkF m 52 #[.val (.int p0), .val (.int p1), .val (.int p2), .val (.long q3), .second, .val (.int p4), .val (.int p5), .val (.ref b11), .val (.ref b15), .unset, .unset, .unset, .unset, .unset, .unset, .unset] [(.ref b19)])) (st21) ?_
  refine Go.st (S' := T21.setTop (mkF m 53 #[.val (.int p0), .val (.int p1), .val (.int p2), .val (.long q3), .second, .val (.int p4), .val (.int p5), .val (.ref b11), .val (.ref b15), .unset, .unset, .unset, .unset, .unset, .unset, .unset] [(.ref b19), (.ref b19)])) (fun _ k_ => XS.dup X21.here hx rfl (hb hby at_52) rfl rfl k_) ?_
  refine Go.st (S' := T21.setTop (mkF m 54 #[.val (.int p0), .val (.int p1), .val (.int p2), .val (.long q3), .second, .val (.int p4), .val (.int p5), .val (.ref b11), .val (.ref b15), .unset, .unset, .unset, .unset, .unset, .unset, .unset] [(.int (2 : Int32)), (.ref b19), (.ref b19)])) (fun _ k_ => XS.iconst X21.here hx rfl (hb hby at_53) k_) ?_
  refine Go.st (S' := T21.setTop (mkF m 56 #[.val (.int p0), .val (.int p1), .val (.int p2), .val (.long q3), .second, .val (.int p4), .val (.int p5), .val (.ref b11), .val (.ref b15), .unset, .unset, .unset, .unset, .unset, .unset, .unset] [(.int p4), (.int (2 : Int32)), (.ref b19), (.ref b19)])) (fun _ k_ => XS.iload X21.here hx rfl (hb hby at_54) rfl k_) ?_
  obtain ⟨T22, h22, X22, e22, W22, A22, st22⟩ := A_b19.store X21 hx hZ e21 (j := (2 : Int32)) (by decide) (Nat.le_of_ble_eq_true rfl) (g := (mkF m 56 #[.val (.int p0), .val (.int p1), .val (.int p2), .val (.long q3), .second, .val (.int p4), .val (.int p5), .val (.ref b11), .val (.ref b15), .unset, .unset, .unset, .unset, .unset, .unset, .unset] [(.int p4), (.int (2 : Int32)), (.ref b19), (.ref b19)])) rfl rfl (hb hby at_56)
  replace A_b19 : Ai Z h22 b19 .int [nq0, nq1, p4] := A22
  replace E_b11 := E_b11.wr W22
  replace A_b11 := A_b11.other W22 ne_b11_b19
  replace E_b15 := E_b15.wr W22
  replace A_b15 := A_b15.other W22 ne_b15_b19
  replace E_b19 := E_b19.wr W22
  replace Z0 := Nat.le_trans Z0 (Keep.of_wr W22).1
  have N22 := Fr.snoc X22 N21 g_b19
  refine Go.st (S' := T22.setTop (mkF m 57 #[.val (.int p0), .val (.int p1), .val (.int p2), .val (.long q3), .second, .val (.int p4), .val (.int p5), .val (.ref b11), .val (.ref b15), .unset, .unset, .unset, .unset, .unset, .unset, .unset] [(.ref b19)])) (st22) ?_
  refine Go.st (S' := T22.setTop (mkF m 59 #[.val (.int p0), .val (.int p1), .val (.int p2), .val (.long q3), .second, .val (.int p4), .val (.int p5), .val (.ref b11), .val (.ref b15), .val (.ref b19), .unset, .unset, .unset, .unset, .unset, .unset] [])) (fun _ k_ => XS.astore X22.here hx rfl (hb hby at_57) rfl rfl (l' := #[.val (.int p0), .val (.int p1), .val (.int p2), .val (.long q3), .second, .val (.int p4), .val (.int p5), .val (.ref b11), .val (.ref b15), .val (.ref b19), .unset, .unset, .unset, .unset, .unset, .unset]) rfl k_) ?_
  refine Go.st (S' := T22.setTop (mkF m 61 #[.val (.int p0), .val (.int p1), .val (.int p2), .val (.long q3), .second, .val (.int p4), .val (.int p5), .val (.ref b11), .val (.ref b15), .val (.ref b19), .unset, .unset, .unset, .unset, .unset, .unset] [(.int p5)])) (fun _ k_ => XS.iload X22.here hx rfl (hb hby at_59) rfl k_) ?_
  refine Go.st (S' := T22.setTop (mkF m 62 #[.val (.int p0), .val (.int p1), .val (.int p2), .val (.long q3), .second, .val (.int p4), .val (.int p5), .val (.ref b11), .val (.ref b15), .val (.ref b19), .unset, .unset, .unset, .unset, .unset, .unset] [(.int (1 : Int32)), (.int p5)])) (fun _ k_ => XS.iconst X22.here hx rfl (hb hby at_61) k_) ?_
  refine Go.st (S' := T22.setTop (mkF m 63 #[.val (.int p0), .val (.int p1), .val (.int p2), .val (.long q3), .second, .val (.int p4), .val (.int p5), .val (.ref b11), .val (.ref b15), .val (.ref b19), .unset, .unset, .unset, .unset, .unset, .unset] [(.int (p5 &&& (1 : Int32)))])) (fun _ k_ => XS.iand X22.here hx rfl (hb hby at_62) rfl k_) ?_
  by_cases hc63 : (p5 &&& (1 : Int32)) = (0 : Int32)
  · skip
    refine Go.st (S' := T22.setTop (mkF m 70 #[.val (.int p0), .val (.int p1), .val (.int p2), .val (.long q3), .second, .val (.int p4), .val (.int p5), .val (.ref b11), .val (.ref b15), .val (.ref b19), .unset, .unset, .unset, .unset, .unset, .unset] [])) (fun _ k_ => XS.ifYes X22.here hx rfl (pc0 := 63) (pc' := 70) rfl (hb hby at_63) rfl ((if0 _ _).trans (teq hc63).1) (by decide) (by decide) k_) ?_
    refine Go.st (S' := T22.setTop (mkF m 71 #[.val (.int p0), .val (.int p1), .val (.int p2), .val (.long q3), .second, .val (.int p4), .val (.int p5), .val (.ref b11), .val (.ref b15), .val (.ref b19), .unset, .unset, .unset, .unset, .unset, .unset] [(.int (0 : Int32))])) (fun _ k_ => XS.iconst X22.here hx rfl (hb hby at_70) k_) ?_
    refine Go.st (S' := T22.setTop (mkF m 73 #[.val (.int p0), .val (.int p1), .val (.int p2), .val (.long q3), .second, .val (.int p4), .val (.int p5), .val (.ref b11), .val (.ref b15), .val (.ref b19), .val (.int (0 : Int32)), .unset, .unset, .unset, .unset, .unset] [])) (fun _ k_ => XS.istore X22.here hx rfl (hb hby at_71) rfl (l' := #[.val (.int p0), .val (.int p1), .val (.int p2), .val (.long q3), .second, .val (.int p4), .val (.int p5), .val (.ref b11), .val (.ref b15), .val (.ref b19), .val (.int (0 : Int32)), .unset, .unset, .unset, .unset, .unset]) rfl k_) ?_
    refine Go.st (S' := T22.setTop (mkF m 75 #[.val (.int p0), .val (.int p1), .val (.int p2), .val (.long q3), .second, .val (.int p4), .val (.int p5), .val (.ref b11), .val (.ref b15), .val (.ref b19), .val (.int (0 : Int32)), .unset, .unset, .unset, .unset, .unset] [(.int p5)])) (fun _ k_ => XS.iload X22.here hx rfl (hb hby at_73) rfl k_) ?_
    refine Go.st (S' := T22.setTop (mkF m 76 #[.val (.int p0), .val (.int p1), .val (.int p2), .val (.long q3), .second, .val (.int p4), .val (.int p5), .val (.ref b11), .val (.ref b15), .val (.ref b19), .val (.int (0 : Int32)), .unset, .unset, .unset, .unset, .unset] [(.int (2 : Int32)), (.int p5)])) (fun _ k_ => XS.iconst X22.here hx rfl (hb hby at_75) k_) ?_
    refine Go.st (S' := T22.setTop (mkF m 77 #[.val (.int p0), .val (.int p1), .val (.int p2), .val (.long q3), .second, .val (.int p4), .val (.int p5), .val (.ref b11), .val (.ref b15), .val (.ref b19), .val (.int (0 : Int32)), .unset, .unset, .unset, .unset, .unset] [(.int (p5 &&& (2 : Int32)))])) (fun _ k_ => XS.iand X22.here hx rfl (hb hby at_76) rfl k_) ?_
    by_cases hc77 : (p5 &&& (2 : Int32)) = (0 : Int32)
    · skip
      refine Go.st (S' := T22.setTop (mkF m 84 #[.val (.int p0), .val (.int p1), .val (.int p2), .val (.long q3), .second, .val (.int p4), .val (.int p5), .val (.ref b11), .val (.ref b15), .val (.ref b19), .val (.int (0 : Int32)), .unset, .unset, .unset, .unset, .unset] [])) (fun _ k_ => XS.ifYes X22.here hx rfl (pc0 := 77) (pc' := 84) rfl (hb hby at_77) rfl ((if0 _ _).trans (teq hc77).1) (by decide) (by decide) k_) ?_
      refine Go.st (S' := T22.setTop (mkF m 85 #[.val (.int p0), .val (.int p1), .val (.int p2), .val (.long q3), .second, .val (.int p4), .val (.int p5), .val (.ref b11), .val (.ref b15), .val (.ref b19), .val (.int (0 : Int32)), .unset, .unset, .unset, .unset, .unset] [(.int (0 : Int32))])) (fun _ k_ => XS.iconst X22.here hx rfl (hb hby at_84) k_) ?_
      refine Go.st (S' := T22.setTop (mkF m 87 #[.val (.int p0), .val (.int p1), .val (.int p2), .val (.long q3), .second, .val (.int p4), .val (.int p5), .val (.ref b11), .val (.ref b15), .val (.ref b19), .val (.int (0 : Int32)), .val (.int (0 : Int32)), .unset, .unset, .unset, .unset] [])) (fun _ k_ => XS.istore X22.here hx rfl (hb hby at_85) rfl (l' := #[.val (.int p0), .val (.int p1), .val (.int p2), .val (.long q3), .second, .val (.int p4), .val (.int p5), .val (.ref b11), .val (.ref b15), .val (.ref b19), .val (.int (0 : Int32)), .val (.int (0 : Int32)), .unset, .unset, .unset, .unset]) rfl k_) ?_
      obtain ⟨T23, h23, X23, e23, E23, A23, D23, -, st23⟩ := newO X22 hx hZ hown (w1 hw) (w2 hw) (w3 hw) e22 (g := (mkF m 87 #[.val (.int p0), .val (.int p1), .val (.int p2), .val (.long q3), .second, .val (.int p4), .val (.int p5), .val (.ref b11), .val (.ref b15), .val (.ref b19), .val (.int (0 : Int32)), .val (.int (0 : Int32)), .unset, .unset, .unset, .unset] [])) rfl (hb hby at_87) (by decide) (by decide)
      obtain ⟨b23, q23⟩ : ∃ z, z = h22.size := ⟨_, rfl⟩
      rw [← q23] at A23 D23 st23
      have ne_b11_b23 : b11 ≠ b23 := Nat.ne_of_lt (Nat.lt_of_lt_of_le E_b11.lt (Nat.le_of_eq q23.symm))
      have ne_b15_b23 : b15 ≠ b23 := Nat.ne_of_lt (Nat.lt_of_lt_of_le E_b15.lt (Nat.le_of_eq q23.symm))
      have ne_b19_b23 : b19 ≠ b23 := Nat.ne_of_lt (Nat.lt_of_lt_of_le E_b19.lt (Nat.le_of_eq q23.symm))
      have g_b23 : n0 ≤ b23 := Nat.le_trans Z0 (Nat.le_of_eq q23.symm)
      replace E_b11 := E_b11.ext E23
      replace A_b11 := A_b11.ext E23
      replace E_b15 := E_b15.ext E23
      replace A_b15 := A_b15.ext E23
      replace E_b19 := E_b19.ext E23
      replace A_b19 := A_b19.ext E23
      replace Z0 := Nat.le_trans Z0 E23.1
      have E_b23 := A23
      have F_pairs_b23 : Fld Z h23 b23 "com/example/caseweave/caseweave/core/MarkingTable" "pairs" "Lcom/example/caseweave/caseweave/core/IntList;" .null := D23 (Or.inr (w20 hw)) (ty := (.object "com/example/caseweave/caseweave/core/IntList")) (by decide)
      have F_starts_b23 : Fld Z h23 b23 "com/example/caseweave/caseweave/core/MarkingTable" "starts" "Lcom/example/caseweave/caseweave/core/IntList;" .null := D23 (Or.inr (w22 hw)) (ty := (.object "com/example/caseweave/caseweave/core/IntList")) (by decide)
      have F_hashes_b23 : Fld Z h23 b23 "com/example/caseweave/caseweave/core/MarkingTable" "hashes" "Lcom/example/caseweave/caseweave/core/IntList;" .null := D23 (Or.inr (w24 hw)) (ty := (.object "com/example/caseweave/caseweave/core/IntList")) (by decide)
      have F_slots_b23 : Fld Z h23 b23 "com/example/caseweave/caseweave/core/MarkingTable" "slots" "[I" .null := D23 (Or.inl (w26 hw)) (ty := (.array .int)) (by decide)
      have F_places_b23 : Fld Z h23 b23 "com/example/caseweave/caseweave/core/MarkingTable" "places" "I" (.int (0 : Int32)) := D23 (Or.inr (w28 hw)) (ty := .int) (by decide)
      have F_stored_b23 : Fld Z h23 b23 "com/example/caseweave/caseweave/core/MarkingTable" "stored" "[I" .null := D23 (Or.inr (w30 hw)) (ty := (.array .int)) (by decide)
      refine Go.st (S' := T23.setTop (mkF m 90 #[.val (.int p0), .val (.int p1), .val (.int p2), .val (.long q3), .second, .val (.int p4), .val (.int p5), .val (.ref b11), .val (.ref b15), .val (.ref b19), .val (.int (0 : Int32)), .val (.int (0 : Int32)), .unset, .unset, .unset, .unset] [(.ref b23)])) (st23) ?_
      refine Go.st (S' := T23.setTop (mkF m 91 #[.val (.int p0), .val (.int p1), .val (.int p2), .val (.long q3), .second, .val (.int p4), .val (.int p5), .val (.ref b11), .val (.ref b15), .val (.ref b19), .val (.int (0 : Int32)), .val (.int (0 : Int32)), .unset, .unset, .unset, .unset] [(.ref b23), (.ref b23)])) (fun _ k_ => XS.dup X23.here hx rfl (hb hby at_90) rfl rfl k_) ?_
      refine Go.st (S' := T23.setTop (mkF m 92 #[.val (.int p0), .val (.int p1), .val (.int p2), .val (.long q3), .second, .val (.int p4), .val (.int p5), .val (.ref b11), .val (.ref b15), .val (.ref b19), .val (.int (0 : Int32)), .val (.int (0 : Int32)), .unset, .unset, .unset, .unset] [(.int (3 : Int32)), (.ref b23), (.ref b23)])) (fun _ k_ => XS.iconst X23.here hx rfl (hb hby at_91) k_) ?_
      obtain ⟨v24, T24, h24, L24, X24, e24, hQ24, st24⟩ := callIn X23 hx hZ rfl hown (w4 hw) (w5 hw) (w3 hw) (w6 hw) (by decide) (W := 1) (argsL := [(.int (3 : Int32))]) (rest := [(.ref b23)]) e23 (mt_init l Z a0 hw b23 h23 n0 Z0 E_b23 F_pairs_b23 F_starts_b23 F_hashes_b23 F_slots_b23 F_stored_b23 F_places_b23 g_b23) (by decide) (by decide) pd4 rfl (g := (mkF m 92 #[.val (.int p0), .val (.int p1), .val (.int p2), .val (.long q3), .second, .val (.int p4), .val (.int p5), .val (.ref b11), .val (.ref b15), .val (.ref b19), .val (.int (0 : Int32)), .val (.int (0 : Int32)), .unset, .unset, .unset, .unset] [(.int (3 : Int32)), (.ref b23), (.ref b23)])) rfl (by rw [hml]; rfl) rfl (by show 2 * 0 + _ ≤ _; exact Nat.le_of_eq rfl) (hb hby at_92) (by decide) (by decide)
      obtain ⟨rfl, Nq24, Kq24, pr24, prb24, ss24, ssb24, hs24, hsb24, sl24, hd, hsz24, HM⟩ := hQ24
      have N24 := Fr.app N22 Nq24
      obtain ⟨hs_pr24, hs_prb24, hs_ss24, hs_ssb24, hs_hs24, hs_hsb24, hs_sl24⟩ := hsz24
      have ne_b11_pr24 : b11 ≠ pr24 := Nat.ne_of_lt (Nat.lt_of_lt_of_le E_b11.lt hs_pr24)
      have ne_b15_pr24 : b15 ≠ pr24 := Nat.ne_of_lt (Nat.lt_of_lt_of_le E_b15.lt hs_pr24)
      have ne_b19_pr24 : b19 ≠ pr24 := Nat.ne_of_lt (Nat.lt_of_lt_of_le E_b19.lt hs_pr24)
      have g_pr24 : n0 ≤ pr24 := Nat.le_trans Z0 hs_pr24
      have ne_b11_prb24 : b11 ≠ prb24 := Nat.ne_of_lt (Nat.lt_of_lt_of_le E_b11.lt hs_prb24)
      have ne_b15_prb24 : b15 ≠ prb24 := Nat.ne_of_lt (Nat.lt_of_lt_of_le E_b15.lt hs_prb24)
      have ne_b19_prb24 : b19 ≠ prb24 := Nat.ne_of_lt (Nat.lt_of_lt_of_le E_b19.lt hs_prb24)
      have g_prb24 : n0 ≤ prb24 := Nat.le_trans Z0 hs_prb24
      have ne_b11_ss24 : b11 ≠ ss24 := Nat.ne_of_lt (Nat.lt_of_lt_of_le E_b11.lt hs_ss24)
      have ne_b15_ss24 : b15 ≠ ss24 := Nat.ne_of_lt (Nat.lt_of_lt_of_le E_b15.lt hs_ss24)
      have ne_b19_ss24 : b19 ≠ ss24 := Nat.ne_of_lt (Nat.lt_of_lt_of_le E_b19.lt hs_ss24)
      have g_ss24 : n0 ≤ ss24 := Nat.le_trans Z0 hs_ss24
      have ne_b11_ssb24 : b11 ≠ ssb24 := Nat.ne_of_lt (Nat.lt_of_lt_of_le E_b11.lt hs_ssb24)
      have ne_b15_ssb24 : b15 ≠ ssb24 := Nat.ne_of_lt (Nat.lt_of_lt_of_le E_b15.lt hs_ssb24)
      have ne_b19_ssb24 : b19 ≠ ssb24 := Nat.ne_of_lt (Nat.lt_of_lt_of_le E_b19.lt hs_ssb24)
      have g_ssb24 : n0 ≤ ssb24 := Nat.le_trans Z0 hs_ssb24
      have ne_b11_hs24 : b11 ≠ hs24 := Nat.ne_of_lt (Nat.lt_of_lt_of_le E_b11.lt hs_hs24)
      have ne_b15_hs24 : b15 ≠ hs24 := Nat.ne_of_lt (Nat.lt_of_lt_of_le E_b15.lt hs_hs24)
      have ne_b19_hs24 : b19 ≠ hs24 := Nat.ne_of_lt (Nat.lt_of_lt_of_le E_b19.lt hs_hs24)
      have g_hs24 : n0 ≤ hs24 := Nat.le_trans Z0 hs_hs24
      have ne_b11_hsb24 : b11 ≠ hsb24 := Nat.ne_of_lt (Nat.lt_of_lt_of_le E_b11.lt hs_hsb24)
      have ne_b15_hsb24 : b15 ≠ hsb24 := Nat.ne_of_lt (Nat.lt_of_lt_of_le E_b15.lt hs_hsb24)
      have ne_b19_hsb24 : b19 ≠ hsb24 := Nat.ne_of_lt (Nat.lt_of_lt_of_le E_b19.lt hs_hsb24)
      have g_hsb24 : n0 ≤ hsb24 := Nat.le_trans Z0 hs_hsb24
      have ne_b11_sl24 : b11 ≠ sl24 := Nat.ne_of_lt (Nat.lt_of_lt_of_le E_b11.lt hs_sl24)
      have ne_b15_sl24 : b15 ≠ sl24 := Nat.ne_of_lt (Nat.lt_of_lt_of_le E_b15.lt hs_sl24)
      have ne_b19_sl24 : b19 ≠ sl24 := Nat.ne_of_lt (Nat.lt_of_lt_of_le E_b19.lt hs_sl24)
      have g_sl24 : n0 ≤ sl24 := Nat.le_trans Z0 hs_sl24
      replace E_b11 := E_b11.keep Kq24
      replace A_b11 := A_b11.keep Kq24 (ninS ne_b11_b23 nin0)
      replace E_b15 := E_b15.keep Kq24
      replace A_b15 := A_b15.keep Kq24 (ninS ne_b15_b23 nin0)
      replace E_b19 := E_b19.keep Kq24
      replace A_b19 := A_b19.keep Kq24 (ninS ne_b19_b23 nin0)
      replace Z0 := Nat.le_trans Z0 Kq24.1
      refine Go.st (S' := T24.setTop (mkF m 95 #[.val (.int p0), .val (.int p1), .val (.int p2), .val (.long q3), .second, .val (.int p4), .val (.int p5), .val (.ref b11), .val (.ref b15), .val (.ref b19), .val (.int (0 : Int32)), .val (.int (0 : Int32)), .unset, .unset, .unset, .unset] [(.ref b23)])) (st24) ?_
      refine Go.st (S' := T24.setTop (mkF m 97 #[.val (.int p0), .val (.int p1), .val (.int p2), .val (.long q3), .second, .val (.int p4), .val (.int p5), .val (.ref b11), .val (.ref b15), .val (.ref b19), .val (.int (0 : Int32)), .val (.int (0 : Int32)), .val (.ref b23), .unset, .unset, .unset] [])) (fun _ k_ => XS.astore X24.here hx rfl (hb hby at_95) rfl rfl (l' := #[.val (.int p0), .val (.int p1), .val (.int p2), .val (.long q3), .second, .val (.int p4), .val (.int p5), .val (.ref b11), .val (.ref b15), .val (.ref b19), .val (.int (0 : Int32)), .val (.int (0 : Int32)), .val (.ref b23), .unset, .unset, .unset]) rfl k_) ?_
      refine Go.st (S' := T24.setTop (mkF m 99 #[.val (.int p0), .val (.int p1), .val (.int p2), .val (.long q3), .second, .val (.int p4), .val (.int p5), .val (.ref b11), .val (.ref b15), .val (.ref b19), .val (.int (0 : Int32)), .val (.int (0 : Int32)), .val (.ref b23), .unset, .unset, .unset] [(.int (0 : Int32))])) (fun _ k_ => XS.iload X24.here hx rfl (hb hby at_97) rfl k_) ?_
      refine Go.st (S' := T24.setTop (mkF m 121 #[.val (.int p0), .val (.int p1), .val (.int p2), .val (.long q3), .second, .val (.int p4), .val (.int p5), .val (.ref b11), .val (.ref b15), .val (.ref b19), .val (.int (0 : Int32)), .val (.int (0 : Int32)), .val (.ref b23), .unset, .unset, .unset] [])) (fun _ k_ => XS.ifYes X24.here hx rfl (pc0 := 99) (pc' := 121) rfl (hb hby at_99) rfl ((if0 _ _).trans (teq (by decide)).1) (by decide) (by decide) k_) ?_
      refine Go.st (S' := T24.setTop (mkF m 123 #[.val (.int p0), .val (.int p1), .val (.int p2), .val (.long q3), .second, .val (.int p4), .val (.int p5), .val (.ref b11), .val (.ref b15), .val (.ref b19), .val (.int (0 : Int32)), .val (.int (0 : Int32)), .val (.ref b23), .unset, .unset, .unset] [(.ref b23)])) (fun _ k_ => XS.aload X24.here hx rfl (hb hby at_121) rfl rfl k_) ?_
      refine Go.st (S' := T24.setTop (mkF m 125 #[.val (.int p0), .val (.int p1), .val (.int p2), .val (.long q3), .second, .val (.int p4), .val (.int p5), .val (.ref b11), .val (.ref b15), .val (.ref b19), .val (.int (0 : Int32)), .val (.int (0 : Int32)), .val (.ref b23), .unset, .unset, .unset] [(.ref b15), (.ref b23)])) (fun _ k_ => XS.aload X24.here hx rfl (hb hby at_123) rfl rfl k_) ?_
      have off25 : own_off b15 b23 pr24 prb24 ss24 ssb24 hs24 hsb24 sl24 := ⟨ne_b15_b23, ne_b15_pr24, ne_b15_prb24, ne_b15_ss24, ne_b15_ssb24, ne_b15_hs24, ne_b15_hsb24, ne_b15_sl24⟩
      obtain ⟨v25, T25, h25, L25, X25, e25, hQ25, st25⟩ := callVi X24 hx hZ hown (w38 hw) (w39 hw) (w41 hw) (w40 hw) (w3 hw) (w42 hw) (by decide) (W := 0) (argsL := [(.ref b15)]) (rest := []) e24 HM.1 (mt_add l Z a0 hw b23 pr24 prb24 ss24 ssb24 hs24 hsb24 sl24 [] [0] [] (List.replicate 16 0) b15 (p2) (p0) (nt2) h24 n0 Z0 HM hd A_b15 E_b15 off25 (by decide) (by simp) (by simp) ⟨rfl, fun i j hi hj q => absurd (own_z0 i) q⟩) (by decide) (by decide) pd2 rfl (g := (mkF m 125 #[.val (.int p0), .val (.int p1), .val (.int p2), .val (.long q3), .second, .val (.int p4), .val (.int p5), .val (.ref b11), .val (.ref b15), .val (.ref b19), .val (.int (0 : Int32)), .val (.int (0 : Int32)), .val (.ref b23), .unset, .unset, .unset] [(.ref b15), (.ref b23)])) rfl (by rw [hml]; rfl) rfl (by show 2 * 0 + _ ≤ _; exact Nat.le_of_eq rfl) (hb hby at_125) (by decide) (by decide)
      obtain ⟨rfl, Nq25, Kq25, hv25, zt25, ho25, hl25, HM⟩ := hQ25
      have N25 := Fr.app N24 Nq25
      replace E_b11 := E_b11.keep Kq25
      replace A_b11 := A_b11.keep Kq25 (ninS ne_b11_pr24 (ninS ne_b11_prb24 (ninS ne_b11_ss24 (ninS ne_b11_ssb24 (ninS ne_b11_hs24 (ninS ne_b11_hsb24 (ninS ne_b11_sl24 nin0)))))))
      replace E_b15 := E_b15.keep Kq25
      replace A_b15 := A_b15.keep Kq25 (ninS ne_b15_pr24 (ninS ne_b15_prb24 (ninS ne_b15_ss24 (ninS ne_b15_ssb24 (ninS ne_b15_hs24 (ninS ne_b15_hsb24 (ninS ne_b15_sl24 nin0)))))))
      replace E_b19 := E_b19.keep Kq25
      replace A_b19 := A_b19.keep Kq25 (ninS ne_b19_pr24 (ninS ne_b19_prb24 (ninS ne_b19_ss24 (ninS ne_b19_ssb24 (ninS ne_b19_hs24 (ninS ne_b19_hsb24 (ninS ne_b19_sl24 nin0)))))))
      replace Z0 := Nat.le_trans Z0 Kq25.1
      refine Go.st (S' := T25.setTop (mkF m 128 #[.val (.int p0), .val (.int p1), .val (.int p2), .val (.long q3), .second, .val (.int p4), .val (.int p5), .val (.ref b11), .val (.ref b15), .val (.ref b19), .val (.int (0 : Int32)), .val (.int (0 : Int32)), .val (.ref b23), .unset, .unset, .unset] [(.int ([] : List Int32).length.toInt32)])) (st25) ?_
      refine Go.st (S' := T25.setTop (mkF m 129 #[.val (.int p0), .val (.int p1), .val (.int p2), .val (.long q3), .second, .val (.int p4), .val (.int p5), .val (.ref b11), .val (.ref b15), .val (.ref b19), .val (.int (0 : Int32)), .val (.int (0 : Int32)), .val (.ref b23), .unset, .unset, .unset] [])) (fun _ k_ => XS.pop X25.here hx rfl (hb hby at_128) rfl rfl k_) ?_
      refine Go.st (S' := T25.setTop (mkF m 131 #[.val (.int p0), .val (.int p1), .val (.int p2), .val (.long q3), .second, .val (.int p4), .val (.int p5), .val (.ref b11), .val (.ref b15), .val (.ref b19), .val (.int (0 : Int32)), .val (.int (0 : Int32)), .val (.ref b23), .unset, .unset, .unset] [(.ref b23)])) (fun _ k_ => XS.aload X25.here hx rfl (hb hby at_129) rfl rfl k_) ?_
      refine Go.st (S' := T25.setTop (mkF m 133 #[.val (.int p0), .val (.int p1), .val (.int p2), .val (.long q3), .second, .val (.int p4), .val (.int p5), .val (.ref b11), .val (.ref b15), .val (.ref b19), .val (.int (0 : Int32)), .val (.int (0 : Int32)), .val (.ref b23), .unset, .unset, .unset] [(.ref b11), (.ref b23)])) (fun _ k_ => XS.aload X25.here hx rfl (hb hby at_131) rfl rfl k_) ?_
      have off26 : own_off b11 b23 pr24 prb24 ss24 ssb24 hs24 hsb24 sl24 := ⟨ne_b11_b23, ne_b11_pr24, ne_b11_prb24, ne_b11_ss24, ne_b11_ssb24, ne_b11_hs24, ne_b11_hsb24, ne_b11_sl24⟩
      obtain ⟨v26, T26, h26, L26, X26, e26, hQ26, st26⟩ := callVi X25 hx hZ hown (w38 hw) (w39 hw) (w41 hw) (w40 hw) (w3 hw) (w42 hw) (by decide) (W := 0) (argsL := [(.ref b11)]) (rest := []) e25 HM.1 (mt_add l Z a0 hw b23 pr24 prb24 ss24 ssb24 hs24 hsb24 sl24 ([] ++ own_flat (own_ps (p2) (p0) (nt2))) ([0] ++ [([] ++ own_flat (own_ps (p2) (p0) (nt2))).length.toInt32]) ([] ++ [hv25]) zt25 b11 (p0) (p1) (p2) h25 n0 Z0 HM hd A_b11 E_b11 off26 (by rw [List.nil_append, own_flen]; have := own_plen (p2) (p0) (nt2); omega) (by simp) (by simp) (ho25 own_z0)) (by decide) (by decide) pd2 rfl (g := (mkF m 133 #[.val (.int p0), .val (.int p1), .val (.int p2), .val (.long q3), .second, .val (.int p4), .val (.int p5), .val (.ref b11), .val (.ref b15), .val (.ref b19), .val (.int (0 : Int32)), .val (.int (0 : Int32)), .val (.ref b23), .unset, .unset, .unset] [(.ref b11), (.ref b23)])) rfl (by rw [hml]; rfl) rfl (by show 2 * 0 + _ ≤ _; exact Nat.le_of_eq rfl) (hb hby at_133) (by decide) (by decide)
      obtain ⟨rfl, Nq26, Kq26, hv26, zt26, ho26, hl26, HM⟩ := hQ26
      have N26 := Fr.app N25 Nq26
      replace E_b11 := E_b11.keep Kq26
      replace A_b11 := A_b11.keep Kq26 (ninS ne_b11_pr24 (ninS ne_b11_prb24 (ninS ne_b11_ss24 (ninS ne_b11_ssb24 (ninS ne_b11_hs24 (ninS ne_b11_hsb24 (ninS ne_b11_sl24 nin0)))))))
      replace E_b15 := E_b15.keep Kq26
      replace A_b15 := A_b15.keep Kq26 (ninS ne_b15_pr24 (ninS ne_b15_prb24 (ninS ne_b15_ss24 (ninS ne_b15_ssb24 (ninS ne_b15_hs24 (ninS ne_b15_hsb24 (ninS ne_b15_sl24 nin0)))))))
      replace E_b19 := E_b19.keep Kq26
      replace A_b19 := A_b19.keep Kq26 (ninS ne_b19_pr24 (ninS ne_b19_prb24 (ninS ne_b19_ss24 (ninS ne_b19_ssb24 (ninS ne_b19_hs24 (ninS ne_b19_hsb24 (ninS ne_b19_sl24 nin0)))))))
      replace Z0 := Nat.le_trans Z0 Kq26.1
      refine Go.st (S' := T26.setTop (mkF m 136 #[.val (.int p0), .val (.int p1), .val (.int p2), .val (.long q3), .second, .val (.int p4), .val (.int p5), .val (.ref b11), .val (.ref b15), .val (.ref b19), .val (.int (0 : Int32)), .val (.int (0 : Int32)), .val (.ref b23), .unset, .unset, .unset] [(.int (([] : List Int32) ++ [hv25]).length.toInt32)])) (st26) ?_
      refine Go.st (S' := T26.setTop (mkF m 137 #[.val (.int p0), .val (.int p1), .val (.int p2), .val (.long q3), .second, .val (.int p4), .val (.int p5), .val (.ref b11), .val (.ref b15), .val (.ref b19), .val (.int (0 : Int32)), .val (.int (0 : Int32)), .val (.ref b23), .unset, .unset, .unset] [])) (fun _ k_ => XS.pop X26.here hx rfl (hb hby at_136) rfl rfl k_) ?_
      refine Go.st (S' := T26.setTop (mkF m 139 #[.val (.int p0), .val (.int p1), .val (.int p2), .val (.long q3), .second, .val (.int p4), .val (.int p5), .val (.ref b11), .val (.ref b15), .val (.ref b19), .val (.int (0 : Int32)), .val (.int (0 : Int32)), .val (.ref b23), .unset, .unset, .unset] [(.int (0 : Int32))])) (fun _ k_ => XS.iload X26.here hx rfl (hb hby at_137) rfl k_) ?_
      refine Go.st (S' := T26.setTop (mkF m 141 #[.val (.int p0), .val (.int p1), .val (.int p2), .val (.long q3), .second, .val (.int p4), .val (.int p5), .val (.ref b11), .val (.ref b15), .val (.ref b19), .val (.int (0 : Int32)), .val (.int (0 : Int32)), .val (.ref b23), .unset, .unset, .unset] [(.int (0 : Int32)), (.int (0 : Int32))])) (fun _ k_ => XS.iload X26.here hx rfl (hb hby at_139) rfl k_) ?_
      refine Go.st (S' := T26.setTop (mkF m 144 #[.val (.int p0), .val (.int p1), .val (.int p2), .val (.long q3), .second, .val (.int p4), .val (.int p5), .val (.ref b11), .val (.ref b15), .val (.ref b19), .val (.int (0 : Int32)), .val (.int (0 : Int32)), .val (.ref b23), .unset, .unset, .unset] [])) (fun _ k_ => XS.icmpNo X26.here hx rfl (hb hby at_141) rfl (teq (by decide)).2 k_) ?_
      refine Go.st (S' := T26.setTop (mkF m 145 #[.val (.int p0), .val (.int p1), .val (.int p2), .val (.long q3), .second, .val (.int p4), .val (.int p5), .val (.ref b11), .val (.ref b15), .val (.ref b19), .val (.int (0 : Int32)), .val (.int (0 : Int32)), .val (.ref b23), .unset, .unset, .unset] [(.int (0 : Int32))])) (fun _ k_ => XS.iconst X26.here hx rfl (hb hby at_144) k_) ?_
      refine Go.st (S' := T26.setTop (mkF m 149 #[.val (.int p0), .val (.int p1), .val (.int p2), .val (.long q3), .second, .val (.int p4), .val (.int p5), .val (.ref b11), .val (.ref b15), .val (.ref b19), .val (.int (0 : Int32)), .val (.int (0 : Int32)), .val (.ref b23), .unset, .unset, .unset] [(.int (0 : Int32))])) (fun _ k_ => XS.goto X26.here hx rfl (pc0 := 145) (pc' := 149) rfl (hb hby at_145) (by decide) (by decide) k_) ?_
      refine Go.st (S' := T26.setTop (mkF m 151 #[.val (.int p0), .val (.int p1), .val (.int p2), .val (.long q3), .second, .val (.int p4), .val (.int p5), .val (.ref b11), .val (.ref b15), .val (.ref b19), .val (.int (0 : Int32)), .val (.int (0 : Int32)), .val (.ref b23), .val (.int (0 : Int32)), .unset, .unset] [])) (fun _ k_ => XS.istore X26.here hx rfl (hb hby at_149) rfl (l' := #[.val (.int p0), .val (.int p1), .val (.int p2), .val (.long q3), .second, .val (.int p4), .val (.int p5), .val (.ref b11), .val (.ref b15), .val (.ref b19), .val (.int (0 : Int32)), .val (.int (0 : Int32)), .val (.ref b23), .val (.int (0 : Int32)), .unset, .unset]) rfl k_) ?_
      refine Go.st (S' := T26.setTop (mkF m 153 #[.val (.int p0), .val (.int p1), .val (.int p2), .val (.long q3), .second, .val (.int p4), .val (.int p5), .val (.ref b11), .val (.ref b15), .val (.ref b19), .val (.int (0 : Int32)), .val (.int (0 : Int32)), .val (.ref b23), .val (.int (0 : Int32)), .unset, .unset] [(.int (0 : Int32))])) (fun _ k_ => XS.iload X26.here hx rfl (hb hby at_151) rfl k_) ?_
      refine Go.st (S' := T26.setTop (mkF m 161 #[.val (.int p0), .val (.int p1), .val (.int p2), .val (.long q3), .second, .val (.int p4), .val (.int p5), .val (.ref b11), .val (.ref b15), .val (.ref b19), .val (.int (0 : Int32)), .val (.int (0 : Int32)), .val (.ref b23), .val (.int (0 : Int32)), .unset, .unset] [])) (fun _ k_ => XS.ifYes X26.here hx rfl (pc0 := 153) (pc' := 161) rfl (hb hby at_153) rfl ((if0 _ _).trans (teq (by decide)).1) (by decide) (by decide) k_) ?_
      refine Go.st (S' := T26.setTop (mkF m 163 #[.val (.int p0), .val (.int p1), .val (.int p2), .val (.long q3), .second, .val (.int p4), .val (.int p5), .val (.ref b11), .val (.ref b15), .val (.ref b19), .val (.int (0 : Int32)), .val (.int (0 : Int32)), .val (.ref b23), .val (.int (0 : Int32)), .unset, .unset] [(.ref b15)])) (fun _ k_ => XS.aload X26.here hx rfl (hb hby at_161) rfl rfl k_) ?_
      refine Go.st (S' := T26.setTop (mkF m 165 #[.val (.int p0), .val (.int p1), .val (.int p2), .val (.long q3), .second, .val (.int p4), .val (.int p5), .val (.ref b11), .val (.ref b15), .val (.ref b19), .val (.int (0 : Int32)), .val (.int (0 : Int32)), .val (.ref b23), .val (.int (0 : Int32)), .val (.ref b15), .unset] [])) (fun _ k_ => XS.astore X26.here hx rfl (hb hby at_163) rfl rfl (l' := #[.val (.int p0), .val (.int p1), .val (.int p2), .val (.long q3), .second, .val (.int p4), .val (.int p5), .val (.ref b11), .val (.ref b15), .val (.ref b19), .val (.int (0 : Int32)), .val (.int (0 : Int32)), .val (.ref b23), .val (.int (0 : Int32)), .val (.ref b15), .unset]) rfl k_) ?_
      refine Go.st (S' := T26.setTop (mkF m 167 #[.val (.int p0), .val (.int p1), .val (.int p2), .val (.long q3), .second, .val (.int p4), .val (.int p5), .val (.ref b11), .val (.ref b15), .val (.ref b19), .val (.int (0 : Int32)), .val (.int (0 : Int32)), .val (.ref b23), .val (.int (0 : Int32)), .val (.ref b15), .unset] [(.ref b15)])) (fun _ k_ => XS.aload X26.here hx rfl (hb hby at_165) rfl rfl k_) ?_
      refine Go.st (S' := T26.setTop (mkF m 168 #[.val (.int p0), .val (.int p1), .val (.int p2), .val (.long q3), .second, .val (.int p4), .val (.int p5), .val (.ref b11), .val (.ref b15), .val (.ref b19), .val (.int (0 : Int32)), .val (.int (0 : Int32)), .val (.ref b23), .val (.int (0 : Int32)), .val (.ref b15), .unset] [(.int (0 : Int32)), (.ref b15)])) (fun _ k_ => XS.iconst X26.here hx rfl (hb hby at_167) k_) ?_
      refine Go.st (S' := T26.setTop (mkF m 169 #[.val (.int p0), .val (.int p1), .val (.int p2), .val (.long q3), .second, .val (.int p4), .val (.int p5), .val (.ref b11), .val (.ref b15), .val (.ref b19), .val (.int (0 : Int32)), .val (.int (0 : Int32)), .val (.ref b23), .val (.int (0 : Int32)), .val (.ref b15), .unset] [(.int p2)])) (A_b15.load X26 hx hZ e26 (j := (0 : Int32)) (v := p2) (by decide) rfl (g := (mkF m 168 #[.val (.int p0), .val (.int p1), .val (.int p2), .val (.long q3), .second, .val (.int p4), .val (.int p5), .val (.ref b11), .val (.ref b15), .val (.ref b19), .val (.int (0 : Int32)), .val (.int (0 : Int32)), .val (.ref b23), .val (.int (0 : Int32)), .val (.ref b15), .unset] [(.int (0 : Int32)), (.ref b15)])) rfl rfl (hb hby at_168)) ?_
      refine Go.st (S' := T26.setTop (mkF m 171 #[.val (.int p0), .val (.int p1), .val (.int p2), .val (.long q3), .second, .val (.int p4), .val (.int p5), .val (.ref b11), .val (.ref b15), .val (.ref b19), .val (.int (0 : Int32)), .val (.int (0 : Int32)), .val (.ref b23), .val (.int (0 : Int32)), .val (.ref b15), .unset] [(.ref b19), (.int p2)])) (fun _ k_ => XS.aload X26.here hx rfl (hb hby at_169) rfl rfl k_) ?_
      refine Go.st (S' := T26.setTop (mkF m 172 #[.val (.int p0), .val (.int p1), .val (.int p2), .val (.long q3), .second, .val (.int p4), .val (.int p5), .val (.ref b11), .val (.ref b15), .val (.ref b19), .val (.int (0 : Int32)), .val (.int (0 : Int32)), .val (.ref b23), .val (.int (0 : Int32)), .val (.ref b15), .unset] [(.int (0 : Int32)), (.ref b19), (.int p2)])) (fun _ k_ => XS.iconst X26.here hx rfl (hb hby at_171) k_) ?_
      refine Go.st (S' := T26.setTop (mkF m 173 #[.val (.int p0), .val (.int p1), .val (.int p2), .val (.long q3), .second, .val (.int p4), .val (.int p5), .val (.ref b11), .val (.ref b15), .val (.ref b19), .val (.int (0 : Int32)), .val (.int (0 : Int32)), .val (.ref b23), .val (.int (0 : Int32)), .val (.ref b15), .unset] [(.int nq0), (.int p2)])) (A_b19.load X26 hx hZ e26 (j := (0 : Int32)) (v := nq0) (by decide) rfl (g := (mkF m 172 #[.val (.int p0), .val (.int p1), .val (.int p2), .val (.long q3), .second, .val (.int p4), .val (.int p5), .val (.ref b11), .val (.ref b15), .val (.ref b19), .val (.int (0 : Int32)), .val (.int (0 : Int32)), .val (.ref b23), .val (.int (0 : Int32)), .val (.ref b15), .unset] [(.int (0 : Int32)), (.ref b19), (.int p2)])) rfl rfl (hb hby at_172)) ?_
      obtain ⟨v27, T27, h27, L27, X27, e27, hQ27, st27⟩ := callSt X26 hx hZ hown (w80 hw) (w81 hw) (w82 hw) (w83 hw) (by decide) (W := 0) (argsL := [(.int p2), (.int nq0)]) (rest := []) e26 (rm_fits l Z a0 hw p2 nq0 h26 n0 Z0) (by decide) (by decide) pd7 rfl (g := (mkF m 173 #[.val (.int p0), .val (.int p1), .val (.int p2), .val (.long q3), .second, .val (.int p4), .val (.int p5), .val (.ref b11), .val (.ref b15), .val (.ref b19), .val (.int (0 : Int32)), .val (.int (0 : Int32)), .val (.ref b23), .val (.int (0 : Int32)), .val (.ref b15), .unset] [(.int nq0), (.int p2)])) rfl (by rw [hml]; rfl) rfl (by show 2 * 0 + _ ≤ _; exact Nat.le_of_eq rfl) (hb hby at_173) (by decide) (by decide)
      obtain ⟨rfl, Nq27, hh27⟩ := hQ27
      rw [hh27] at e27
      have N27 := Fr.app N26 Nq27
      refine Go.st (S' := T27.setTop (mkF m 176 #[.val (.int p0), .val (.int p1), .val (.int p2), .val (.long q3), .second, .val (.int p4), .val (.int p5), .val (.ref b11), .val (.ref b15), .val (.ref b19), .val (.int (0 : Int32)), .val (.int (0 : Int32)), .val (.ref b23), .val (.int (0 : Int32)), .val (.ref b15), .unset] [(.int (if (p2 = 0 ∨ ¬ nq0 < p2) then (1 : Int32) else (0 : Int32)))])) (st27) ?_
      by_cases hc176 : (p2 = 0 ∨ ¬ nq0 < p2)
      · skip
        refine Go.st (S' := T27.setTop (mkF m 179 #[.val (.int p0), .val (.int p1), .val (.int p2), .val (.long q3), .second, .val (.int p4), .val (.int p5), .val (.ref b11), .val (.ref b15), .val (.ref b19), .val (.int (0 : Int32)), .val (.int (0 : Int32)), .val (.ref b23), .val (.int (0 : Int32)), .val (.ref b15), .unset] [])) (fun _ k_ => XS.ifNo X27.here hx rfl (hb hby at_176) rfl ((if0 _ _).trans (feq (own_if1 hc176)).1) k_) ?_
        refine Go.st (S' := T27.setTop (mkF m 181 #[.val (.int p0), .val (.int p1), .val (.int p2), .val (.long q3), .second, .val (.int p4), .val (.int p5), .val (.ref b11), .val (.ref b15), .val (.ref b19), .val (.int (0 : Int32)), .val (.int (0 : Int32)), .val (.ref b23), .val (.int (0 : Int32)), .val (.ref b15), .unset] [(.ref b15)])) (fun _ k_ => XS.aload X27.here hx rfl (hb hby at_179) rfl rfl k_) ?_
        refine Go.st (S' := T27.setTop (mkF m 182 #[.val (.int p0), .val (.int p1), .val (.int p2), .val (.long q3), .second, .val (.int p4), .val (.int p5), .val (.ref b11), .val (.ref b15), .val (.ref b19), .val (.int (0 : Int32)), .val (.int (0 : Int32)), .val (.ref b23), .val (.int (0 : Int32)), .val (.ref b15), .unset] [(.int (1 : Int32)), (.ref b15)])) (fun _ k_ => XS.iconst X27.here hx rfl (hb hby at_181) k_) ?_
        refine Go.st (S' := T27.setTop (mkF m 183 #[.val (.int p0), .val (.int p1), .val (.int p2), .val (.long q3), .second, .val (.int p4), .val (.int p5), .val (.ref b11), .val (.ref b15), .val (.ref b19), .val (.int (0 : Int32)), .val (.int (0 : Int32)), .val (.ref b23), .val (.int (0 : Int32)), .val (.ref b15), .unset] [(.int p0)])) (A_b15.load X27 hx hZ e27 (j := (1 : Int32)) (v := p0) (by decide) rfl (g := (mkF m 182 #[.val (.int p0), .val (.int p1), .val (.int p2), .val (.long q3), .second, .val (.int p4), .val (.int p5), .val (.ref b11), .val (.ref b15), .val (.ref b19), .val (.int (0 : Int32)), .val (.int (0 : Int32)), .val (.ref b23), .val (.int (0 : Int32)), .val (.ref b15), .unset] [(.int (1 : Int32)), (.ref b15)])) rfl rfl (hb hby at_182)) ?_
        refine Go.st (S' := T27.setTop (mkF m 185 #[.val (.int p0), .val (.int p1), .val (.int p2), .val (.long q3), .second, .val (.int p4), .val (.int p5), .val (.ref b11), .val (.ref b15), .val (.ref b19), .val (.int (0 : Int32)), .val (.int (0 : Int32)), .val (.ref b23), .val (.int (0 : Int32)), .val (.ref b15), .unset] [(.ref b19), (.int p0)])) (fun _ k_ => XS.aload X27.here hx rfl (hb hby at_183) rfl rfl k_) ?_
        refine Go.st (S' := T27.setTop (mkF m 186 #[.val (.int p0), .val (.int p1), .val (.int p2), .val (.long q3), .second, .val (.int p4), .val (.int p5), .val (.ref b11), .val (.ref b15), .val (.ref b19), .val (.int (0 : Int32)), .val (.int (0 : Int32)), .val (.ref b23), .val (.int (0 : Int32)), .val (.ref b15), .unset] [(.int (1 : Int32)), (.ref b19), (.int p0)])) (fun _ k_ => XS.iconst X27.here hx rfl (hb hby at_185) k_) ?_
        refine Go.st (S' := T27.setTop (mkF m 187 #[.val (.int p0), .val (.int p1), .val (.int p2), .val (.long q3), .second, .val (.int p4), .val (.int p5), .val (.ref b11), .val (.ref b15), .val (.ref b19), .val (.int (0 : Int32)), .val (.int (0 : Int32)), .val (.ref b23), .val (.int (0 : Int32)), .val (.ref b15), .unset] [(.int nq1), (.int p0)])) (A_b19.load X27 hx hZ e27 (j := (1 : Int32)) (v := nq1) (by decide) rfl (g := (mkF m 186 #[.val (.int p0), .val (.int p1), .val (.int p2), .val (.long q3), .second, .val (.int p4), .val (.int p5), .val (.ref b11), .val (.ref b15), .val (.ref b19), .val (.int (0 : Int32)), .val (.int (0 : Int32)), .val (.ref b23), .val (.int (0 : Int32)), .val (.ref b15), .unset] [(.int (1 : Int32)), (.ref b19), (.int p0)])) rfl rfl (hb hby at_186)) ?_
        obtain ⟨v28, T28, h28, L28, X28, e28, hQ28, st28⟩ := callSt X27 hx hZ hown (w80 hw) (w81 hw) (w82 hw) (w83 hw) (by decide) (W := 0) (argsL := [(.int p0), (.int nq1)]) (rest := []) e27 (rm_fits l Z a0 hw p0 nq1 h26 n0 Z0) (by decide) (by decide) pd7 rfl (g := (mkF m 187 #[.val (.int p0), .val (.int p1), .val (.int p2), .val (.long q3), .second, .val (.int p4), .val (.int p5), .val (.ref b11), .val (.ref b15), .val (.ref b19), .val (.int (0 : Int32)), .val (.int (0 : Int32)), .val (.ref b23), .val (.int (0 : Int32)), .val (.ref b15), .unset] [(.int nq1), (.int p0)])) rfl (by rw [hml]; rfl) rfl (by show 2 * 0 + _ ≤ _; exact Nat.le_of_eq rfl) (hb hby at_187) (by decide) (by decide)
        obtain ⟨rfl, Nq28, hh28⟩ := hQ28
        rw [hh28] at e28
        have N28 := Fr.app N27 Nq28
        refine Go.st (S' := T28.setTop (mkF m 190 #[.val (.int p0), .val (.int p1), .val (.int p2), .val (.long q3), .second, .val (.int p4), .val (.int p5), .val (.ref b11), .val (.ref b15), .val (.ref b19), .val (.int (0 : Int32)), .val (.int (0 : Int32)), .val (.ref b23), .val (.int (0 : Int32)), .val (.ref b15), .unset] [(.int (if (p0 = 0 ∨ ¬ nq1 < p0) then (1 : Int32) else (0 : Int32)))])) (st28) ?_
        by_cases hc190 : (p0 = 0 ∨ ¬ nq1 < p0)
        · skip
          refine Go.st (S' := T28.setTop (mkF m 193 #[.val (.int p0), .val (.int p1), .val (.int p2), .val (.long q3), .second, .val (.int p4), .val (.int p5), .val (.ref b11), .val (.ref b15), .val (.ref b19), .val (.int (0 : Int32)), .val (.int (0 : Int32)), .val (.ref b23), .val (.int (0 : Int32)), .val (.ref b15), .unset] [])) (fun _ k_ => XS.ifNo X28.here hx rfl (hb hby at_190) rfl ((if0 _ _).trans (feq (own_if1 hc190)).1) k_) ?_
          refine Go.st (S' := T28.setTop (mkF m 195 #[.val (.int p0), .val (.int p1), .val (.int p2), .val (.long q3), .second, .val (.int p4), .val (.int p5), .val (.ref b11), .val (.ref b15), .val (.ref b19), .val (.int (0 : Int32)), .val (.int (0 : Int32)), .val (.ref b23), .val (.int (0 : Int32)), .val (.ref b15), .unset] [(.ref b15)])) (fun _ k_ => XS.aload X28.here hx rfl (hb hby at_193) rfl rfl k_) ?_
          refine Go.st (S' := T28.setTop (mkF m 196 #[.val (.int p0), .val (.int p1), .val (.int p2), .val (.long q3), .second, .val (.int p4), .val (.int p5), .val (.ref b11), .val (.ref b15), .val (.ref b19), .val (.int (0 : Int32)), .val (.int (0 : Int32)), .val (.ref b23), .val (.int (0 : Int32)), .val (.ref b15), .unset] [(.int (2 : Int32)), (.ref b15)])) (fun _ k_ => XS.iconst X28.here hx rfl (hb hby at_195) k_) ?_
          refine Go.st (S' := T28.setTop (mkF m 197 #[.val (.int p0), .val (.int p1), .val (.int p2), .val (.long q3), .second, .val (.int p4), .val (.int p5), .val (.ref b11), .val (.ref b15), .val (.ref b19), .val (.int (0 : Int32)), .val (.int (0 : Int32)), .val (.ref b23), .val (.int (0 : Int32)), .val (.ref b15), .unset] [(.int nt2)])) (A_b15.load X28 hx hZ e28 (j := (2 : Int32)) (v := nt2) (by decide) rfl (g := (mkF m 196 #[.val (.int p0), .val (.int p1), .val (.int p2), .val (.long q3), .second, .val (.int p4), .val (.int p5), .val (.ref b11), .val (.ref b15), .val (.ref b19), .val (.int (0 : Int32)), .val (.int (0 : Int32)), .val (.ref b23), .val (.int (0 : Int32)), .val (.ref b15), .unset] [(.int (2 : Int32)), (.ref b15)])) rfl rfl (hb hby at_196)) ?_
          refine Go.st (S' := T28.setTop (mkF m 199 #[.val (.int p0), .val (.int p1), .val (.int p2), .val (.long q3), .second, .val (.int p4), .val (.int p5), .val (.ref b11), .val (.ref b15), .val (.ref b19), .val (.int (0 : Int32)), .val (.int (0 : Int32)), .val (.ref b23), .val (.int (0 : Int32)), .val (.ref b15), .unset] [(.ref b19), (.int nt2)])) (fun _ k_ => XS.aload X28.here hx rfl (hb hby at_197) rfl rfl k_) ?_
          refine Go.st (S' := T28.setTop (mkF m 200 #[.val (.int p0), .val (.int p1), .val (.int p2), .val (.long q3), .second, .val (.int p4), .val (.int p5), .val (.ref b11), .val (.ref b15), .val (.ref b19), .val (.int (0 : Int32)), .val (.int (0 : Int32)), .val (.ref b23), .val (.int (0 : Int32)), .val (.ref b15), .unset] [(.int (2 : Int32)), (.ref b19), (.int nt2)])) (fun _ k_ => XS.iconst X28.here hx rfl (hb hby at_199) k_) ?_
          refine Go.st (S' := T28.setTop (mkF m 201 #[.val (.int p0), .val (.int p1), .val (.int p2), .val (.long q3), .second, .val (.int p4), .val (.int p5), .val (.ref b11), .val (.ref b15), .val (.ref b19), .val (.int (0 : Int32)), .val (.int (0 : Int32)), .val (.ref b23), .val (.int (0 : Int32)), .val (.ref b15), .unset] [(.int p4), (.int nt2)])) (A_b19.load X28 hx hZ e28 (j := (2 : Int32)) (v := p4) (by decide) rfl (g := (mkF m 200 #[.val (.int p0), .val (.int p1), .val (.int p2), .val (.long q3), .second, .val (.int p4), .val (.int p5), .val (.ref b11), .val (.ref b15), .val (.ref b19), .val (.int (0 : Int32)), .val (.int (0 : Int32)), .val (.ref b23), .val (.int (0 : Int32)), .val (.ref b15), .unset] [(.int (2 : Int32)), (.ref b19), (.int nt2)])) rfl rfl (hb hby at_200)) ?_
          obtain ⟨v29, T29, h29, L29, X29, e29, hQ29, st29⟩ := callSt X28 hx hZ hown (w80 hw) (w81 hw) (w82 hw) (w83 hw) (by decide) (W := 0) (argsL := [(.int nt2), (.int p4)]) (rest := []) e28 (rm_fits l Z a0 hw nt2 p4 h26 n0 Z0) (by decide) (by decide) pd7 rfl (g := (mkF m 201 #[.val (.int p0), .val (.int p1), .val (.int p2), .val (.long q3), .second, .val (.int p4), .val (.int p5), .val (.ref b11), .val (.ref b15), .val (.ref b19), .val (.int (0 : Int32)), .val (.int (0 : Int32)), .val (.ref b23), .val (.int (0 : Int32)), .val (.ref b15), .unset] [(.int p4), (.int nt2)])) rfl (by rw [hml]; rfl) rfl (by show 2 * 0 + _ ≤ _; exact Nat.le_of_eq rfl) (hb hby at_201) (by decide) (by decide)
          obtain ⟨rfl, Nq29, hh29⟩ := hQ29
          rw [hh29] at e29
          have N29 := Fr.app N28 Nq29
          refine Go.st (S' := T29.setTop (mkF m 204 #[.val (.int p0), .val (.int p1), .val (.int p2), .val (.long q3), .second, .val (.int p4), .val (.int p5), .val (.ref b11), .val (.ref b15), .val (.ref b19), .val (.int (0 : Int32)), .val (.int (0 : Int32)), .val (.ref b23), .val (.int (0 : Int32)), .val (.ref b15), .unset] [(.int (if (nt2 = 0 ∨ ¬ p4 < nt2) then (1 : Int32) else (0 : Int32)))])) (st29) ?_
          by_cases hc204 : (nt2 = 0 ∨ ¬ p4 < nt2)
          · skip
            refine Go.st (S' := T29.setTop (mkF m 207 #[.val (.int p0), .val (.int p1), .val (.int p2), .val (.long q3), .second, .val (.int p4), .val (.int p5), .val (.ref b11), .val (.ref b15), .val (.ref b19), .val (.int (0 : Int32)), .val (.int (0 : Int32)), .val (.ref b23), .val (.int (0 : Int32)), .val (.ref b15), .unset] [])) (fun _ k_ => XS.ifNo X29.here hx rfl (hb hby at_204) rfl ((if0 _ _).trans (feq (own_if1 hc204)).1) k_) ?_
            refine Go.st (S' := T29.setTop (mkF m 208 #[.val (.int p0), .val (.int p1), .val (.int p2), .val (.long q3), .second, .val (.int p4), .val (.int p5), .val (.ref b11), .val (.ref b15), .val (.ref b19), .val (.int (0 : Int32)), .val (.int (0 : Int32)), .val (.ref b23), .val (.int (0 : Int32)), .val (.ref b15), .unset] [(.int (1 : Int32))])) (fun _ k_ => XS.iconst X29.here hx rfl (hb hby at_207) k_) ?_
            refine Go.st (S' := T29.setTop (mkF m 212 #[.val (.int p0), .val (.int p1), .val (.int p2), .val (.long q3), .second, .val (.int p4), .val (.int p5), .val (.ref b11), .val (.ref b15), .val (.ref b19), .val (.int (0 : Int32)), .val (.int (0 : Int32)), .val (.ref b23), .val (.int (0 : Int32)), .val (.ref b15), .unset] [(.int (1 : Int32))])) (fun _ k_ => XS.goto X29.here hx rfl (pc0 := 208) (pc' := 212) rfl (hb hby at_208) (by decide) (by decide) k_) ?_
            refine Go.st (S' := T29.setTop (mkF m 214 #[.val (.int p0), .val (.int p1), .val (.int p2), .val (.long q3), .second, .val (.int p4), .val (.int p5), .val (.ref b11), .val (.ref b15), .val (.ref b19), .val (.int (0 : Int32)), .val (.int (0 : Int32)), .val (.ref b23), .val (.int (0 : Int32)), .val (.ref b15), .val (.int (1 : Int32))] [])) (fun _ k_ => XS.istore X29.here hx rfl (hb hby at_212) rfl (l' := #[.val (.int p0), .val (.int p1), .val (.int p2), .val (.long q3), .second, .val (.int p4), .val (.int p5), .val (.ref b11), .val (.ref b15), .val (.ref b19), .val (.int (0 : Int32)), .val (.int (0 : Int32)), .val (.ref b23), .val (.int (0 : Int32)), .val (.ref b15), .val (.int (1 : Int32))]) rfl k_) ?_
            refine Go.st (S' := T29.setTop (mkF m 216 #[.val (.int p0), .val (.int p1), .val (.int p2), .val (.long q3), .second, .val (.int p4), .val (.int p5), .val (.ref b11), .val (.ref b15), .val (.ref b19), .val (.int (0 : Int32)), .val (.int (0 : Int32)), .val (.ref b23), .val (.int (0 : Int32)), .val (.ref b15), .val (.int (1 : Int32))] [(.ref b23)])) (fun _ k_ => XS.aload X29.here hx rfl (hb hby at_214) rfl rfl k_) ?_
            refine Go.st (S' := T29.setTop (mkF m 218 #[.val (.int p0), .val (.int p1), .val (.int p2), .val (.long q3), .second, .val (.int p4), .val (.int p5), .val (.ref b11), .val (.ref b15), .val (.ref b19), .val (.int (0 : Int32)), .val (.int (0 : Int32)), .val (.ref b23), .val (.int (0 : Int32)), .val (.ref b15), .val (.int (1 : Int32))] [(.int (0 : Int32)), (.ref b23)])) (fun _ k_ => XS.iload X29.here hx rfl (hb hby at_216) rfl k_) ?_
            refine Go.st (S' := T29.setTop (mkF m 220 #[.val (.int p0), .val (.int p1), .val (.int p2), .val (.long q3), .second, .val (.int p4), .val (.int p5), .val (.ref b11), .val (.ref b15), .val (.ref b19), .val (.int (0 : Int32)), .val (.int (0 : Int32)), .val (.ref b23), .val (.int (0 : Int32)), .val (.ref b15), .val (.int (1 : Int32))] [(.ref b19), (.int (0 : Int32)), (.ref b23)])) (fun _ k_ => XS.aload X29.here hx rfl (hb hby at_218) rfl rfl k_) ?_
            obtain ⟨v30, T30, h30, L30, X30, e30, hQ30, st30⟩ := callVi X29 hx hZ hown (w84 hw) (w85 hw) (w87 hw) (w86 hw) (w3 hw) (w88 hw) (by decide) (W := 0) (argsL := [(.int (0 : Int32)), (.ref b19)]) (rest := []) e29 HM.1 (mt_most l Z a0 hw b23 pr24 prb24 ss24 ssb24 hs24 hsb24 sl24 (([] ++ own_flat (own_ps (p2) (p0) (nt2))) ++ own_flat (own_ps (p0) (p1) (p2))) (([0] ++ [([] ++ own_flat (own_ps (p2) (p0) (nt2))).length.toInt32]) ++ [(([] ++ own_flat (own_ps (p2) (p0) (nt2))) ++ own_flat (own_ps (p0) (p1) (p2))).length.toInt32]) (([] ++ [hv25]) ++ [hv26]) zt26 0 ([] ++ own_flat (own_ps (p2) (p0) (nt2))).length [] (own_flat (own_ps (p0) (p1) (p2))) (own_ps (p2) (p0) (nt2)) b19 (nq0) (nq1) (p4) h26 n0 Z0 HM hd rfl rfl rfl rfl (by decide) A_b19 (own_psin _ _ _)) (by decide) (by decide) pd8 rfl (g := (mkF m 220 #[.val (.int p0), .val (.int p1), .val (.int p2), .val (.long q3), .second, .val (.int p4), .val (.int p5), .val (.ref b11), .val (.ref b15), .val (.ref b19), .val (.int (0 : Int32)), .val (.int (0 : Int32)), .val (.ref b23), .val (.int (0 : Int32)), .val (.ref b15), .val (.int (1 : Int32))] [(.ref b19), (.int (0 : Int32)), (.ref b23)])) rfl (by rw [hml]; rfl) rfl (by show 2 * 0 + _ ≤ _; exact Nat.le_of_eq rfl) (hb hby at_220) (by decide) (by decide)
            obtain ⟨rfl, Nq30, hh30⟩ := hQ30
            rw [hh30] at e30
            have N30 := Fr.app N29 Nq30
            refine Go.st (S' := T30.setTop (mkF m 223 #[.val (.int p0), .val (.int p1), .val (.int p2), .val (.long q3), .second, .val (.int p4), .val (.int p5), .val (.ref b11), .val (.ref b15), .val (.ref b19), .val (.int (0 : Int32)), .val (.int (0 : Int32)), .val (.ref b23), .val (.int (0 : Int32)), .val (.ref b15), .val (.int (1 : Int32))] [(.int (if own_all (own_ps (p2) (p0) (nt2)) [nq0, nq1, p4] = true then (1 : Int32) else (0 : Int32)))])) (st30) ?_
            refine Go.st (S' := T30.setTop (mkF m 225 #[.val (.int p0), .val (.int p1), .val (.int p2), .val (.long q3), .second, .val (.int p4), .val (.int p5), .val (.ref b11), .val (.ref b15), .val (.ref b19), .val (.int (0 : Int32)), .val (.int (0 : Int32)), .val (.ref b23), .val (.int (0 : Int32)), .val (.ref b15), .val (.int (1 : Int32))] [(.int (1 : Int32)), (.int (if own_all (own_ps (p2) (p0) (nt2)) [nq0, nq1, p4] = true then (1 : Int32) else (0 : Int32)))])) (fun _ k_ => XS.iload X30.here hx rfl (hb hby at_223) rfl k_) ?_
            refine Go.st (S' := T30.setTop (mkF m 228 #[.val (.int p0), .val (.int p1), .val (.int p2), .val (.long q3), .second, .val (.int p4), .val (.int p5), .val (.ref b11), .val (.ref b15), .val (.ref b19), .val (.int (0 : Int32)), .val (.int (0 : Int32)), .val (.ref b23), .val (.int (0 : Int32)), .val (.ref b15), .val (.int (1 : Int32))] [])) (fun _ k_ => XS.icmpNo X30.here hx rfl (hb hby at_225) rfl (teq (if_pos ((own_allf _ _ _ _ _ _).mpr ⟨hc176, hc190, hc204⟩))).2 k_) ?_
            refine Go.st (S' := T30.setTop (mkF m 229 #[.val (.int p0), .val (.int p1), .val (.int p2), .val (.long q3), .second, .val (.int p4), .val (.int p5), .val (.ref b11), .val (.ref b15), .val (.ref b19), .val (.int (0 : Int32)), .val (.int (0 : Int32)), .val (.ref b23), .val (.int (0 : Int32)), .val (.ref b15), .val (.int (1 : Int32))] [(.int (1 : Int32))])) (fun _ k_ => XS.iconst X30.here hx rfl (hb hby at_228) k_) ?_
            refine Go.st (S' := T30.setTop (mkF m 233 #[.val (.int p0), .val (.int p1), .val (.int p2), .val (.long q3), .second, .val (.int p4), .val (.int p5), .val (.ref b11), .val (.ref b15), .val (.ref b19), .val (.int (0 : Int32)), .val (.int (0 : Int32)), .val (.ref b23), .val (.int (0 : Int32)), .val (.ref b15), .val (.int (1 : Int32))] [(.int (1 : Int32))])) (fun _ k_ => XS.goto X30.here hx rfl (pc0 := 229) (pc' := 233) rfl (hb hby at_229) (by decide) (by decide) k_) ?_
            exact Go.retN X30 hx (t := .boolean) hret (by simp) hlk (hb hby at_233) (by decide) (by decide) ⟨rfl, N30⟩
          · skip
            refine Go.st (S' := T29.setTop (mkF m 211 #[.val (.int p0), .val (.int p1), .val (.int p2), .val (.long q3), .second, .val (.int p4), .val (.int p5), .val (.ref b11), .val (.ref b15), .val (.ref b19), .val (.int (0 : Int32)), .val (.int (0 : Int32)), .val (.ref b23), .val (.int (0 : Int32)), .val (.ref b15), .unset] [])) (fun _ k_ => XS.ifYes X29.here hx rfl (pc0 := 204) (pc' := 211) rfl (hb hby at_204) rfl ((if0 _ _).trans (teq (own_if0 hc204)).1) (by decide) (by decide) k_) ?_
            refine Go.st (S' := T29.setTop (mkF m 212 #[.val (.int p0), .val (.int p1), .val (.int p2), .val (.long q3), .second, .val (.int p4), .val (.int p5), .val (.ref b11), .val (.ref b15), .val (.ref b19), .val (.int (0 : Int32)), .val (.int (0 : Int32)), .val (.ref b23), .val (.int (0 : Int32)), .val (.ref b15), .unset] [(.int (0 : Int32))])) (fun _ k_ => XS.iconst X29.here hx rfl (hb hby at_211) k_) ?_
            refine Go.st (S' := T29.setTop (mkF m 214 #[.val (.int p0), .val (.int p1), .val (.int p2), .val (.long q3), .second, .val (.int p4), .val (.int p5), .val (.ref b11), .val (.ref b15), .val (.ref b19), .val (.int (0 : Int32)), .val (.int (0 : Int32)), .val (.ref b23), .val (.int (0 : Int32)), .val (.ref b15), .val (.int (0 : Int32))] [])) (fun _ k_ => XS.istore X29.here hx rfl (hb hby at_212) rfl (l' := #[.val (.int p0), .val (.int p1), .val (.int p2), .val (.long q3), .second, .val (.int p4), .val (.int p5), .val (.ref b11), .val (.ref b15), .val (.ref b19), .val (.int (0 : Int32)), .val (.int (0 : Int32)), .val (.ref b23), .val (.int (0 : Int32)), .val (.ref b15), .val (.int (0 : Int32))]) rfl k_) ?_
            refine Go.st (S' := T29.setTop (mkF m 216 #[.val (.int p0), .val (.int p1), .val (.int p2), .val (.long q3), .second, .val (.int p4), .val (.int p5), .val (.ref b11), .val (.ref b15), .val (.ref b19), .val (.int (0 : Int32)), .val (.int (0 : Int32)), .val (.ref b23), .val (.int (0 : Int32)), .val (.ref b15), .val (.int (0 : Int32))] [(.ref b23)])) (fun _ k_ => XS.aload X29.here hx rfl (hb hby at_214) rfl rfl k_) ?_
            refine Go.st (S' := T29.setTop (mkF m 218 #[.val (.int p0), .val (.int p1), .val (.int p2), .val (.long q3), .second, .val (.int p4), .val (.int p5), .val (.ref b11), .val (.ref b15), .val (.ref b19), .val (.int (0 : Int32)), .val (.int (0 : Int32)), .val (.ref b23), .val (.int (0 : Int32)), .val (.ref b15), .val (.int (0 : Int32))] [(.int (0 : Int32)), (.ref b23)])) (fun _ k_ => XS.iload X29.here hx rfl (hb hby at_216) rfl k_) ?_
            refine Go.st (S' := T29.setTop (mkF m 220 #[.val (.int p0), .val (.int p1), .val (.int p2), .val (.long q3), .second, .val (.int p4), .val (.int p5), .val (.ref b11), .val (.ref b15), .val (.ref b19), .val (.int (0 : Int32)), .val (.int (0 : Int32)), .val (.ref b23), .val (.int (0 : Int32)), .val (.ref b15), .val (.int (0 : Int32))] [(.ref b19), (.int (0 : Int32)), (.ref b23)])) (fun _ k_ => XS.aload X29.here hx rfl (hb hby at_218) rfl rfl k_) ?_
            obtain ⟨v31, T31, h31, L31, X31, e31, hQ31, st31⟩ := callVi X29 hx hZ hown (w84 hw) (w85 hw) (w87 hw) (w86 hw) (w3 hw) (w88 hw) (by decide) (W := 0) (argsL := [(.int (0 : Int32)), (.ref b19)]) (rest := []) e29 HM.1 (mt_most l Z a0 hw b23 pr24 prb24 ss24 ssb24 hs24 hsb24 sl24 (([] ++ own_flat (own_ps (p2) (p0) (nt2))) ++ own_flat (own_ps (p0) (p1) (p2))) (([0] ++ [([] ++ own_flat (own_ps (p2) (p0) (nt2))).length.toInt32]) ++ [(([] ++ own_flat (own_ps (p2) (p0) (nt2))) ++ own_flat (own_ps (p0) (p1) (p2))).length.toInt32]) (([] ++ [hv25]) ++ [hv26]) zt26 0 ([] ++ own_flat (own_ps (p2) (p0) (nt2))).length [] (own_flat (own_ps (p0) (p1) (p2))) (own_ps (p2) (p0) (nt2)) b19 (nq0) (nq1) (p4) h26 n0 Z0 HM hd rfl rfl rfl rfl (by decide) A_b19 (own_psin _ _ _)) (by decide) (by decide) pd8 rfl (g := (mkF m 220 #[.val (.int p0), .val (.int p1), .val (.int p2), .val (.long q3), .second, .val (.int p4), .val (.int p5), .val (.ref b11), .val (.ref b15), .val (.ref b19), .val (.int (0 : Int32)), .val (.int (0 : Int32)), .val (.ref b23), .val (.int (0 : Int32)), .val (.ref b15), .val (.int (0 : Int32))] [(.ref b19), (.int (0 : Int32)), (.ref b23)])) rfl (by rw [hml]; rfl) rfl (by show 2 * 0 + _ ≤ _; exact Nat.le_of_eq rfl) (hb hby at_220) (by decide) (by decide)
            obtain ⟨rfl, Nq31, hh31⟩ := hQ31
            rw [hh31] at e31
            have N31 := Fr.app N29 Nq31
            refine Go.st (S' := T31.setTop (mkF m 223 #[.val (.int p0), .val (.int p1), .val (.int p2), .val (.long q3), .second, .val (.int p4), .val (.int p5), .val (.ref b11), .val (.ref b15), .val (.ref b19), .val (.int (0 : Int32)), .val (.int (0 : Int32)), .val (.ref b23), .val (.int (0 : Int32)), .val (.ref b15), .val (.int (0 : Int32))] [(.int (if own_all (own_ps (p2) (p0) (nt2)) [nq0, nq1, p4] = true then (1 : Int32) else (0 : Int32)))])) (st31) ?_
            refine Go.st (S' := T31.setTop (mkF m 225 #[.val (.int p0), .val (.int p1), .val (.int p2), .val (.long q3), .second, .val (.int p4), .val (.int p5), .val (.ref b11), .val (.ref b15), .val (.ref b19), .val (.int (0 : Int32)), .val (.int (0 : Int32)), .val (.ref b23), .val (.int (0 : Int32)), .val (.ref b15), .val (.int (0 : Int32))] [(.int (0 : Int32)), (.int (if own_all (own_ps (p2) (p0) (nt2)) [nq0, nq1, p4] = true then (1 : Int32) else (0 : Int32)))])) (fun _ k_ => XS.iload X31.here hx rfl (hb hby at_223) rfl k_) ?_
            refine Go.st (S' := T31.setTop (mkF m 228 #[.val (.int p0), .val (.int p1), .val (.int p2), .val (.long q3), .second, .val (.int p4), .val (.int p5), .val (.ref b11), .val (.ref b15), .val (.ref b19), .val (.int (0 : Int32)), .val (.int (0 : Int32)), .val (.ref b23), .val (.int (0 : Int32)), .val (.ref b15), .val (.int (0 : Int32))] [])) (fun _ k_ => XS.icmpNo X31.here hx rfl (hb hby at_225) rfl (teq (if_neg (fun z => hc204 ((own_allf _ _ _ _ _ _).mp z).2.2))).2 k_) ?_
            refine Go.st (S' := T31.setTop (mkF m 229 #[.val (.int p0), .val (.int p1), .val (.int p2), .val (.long q3), .second, .val (.int p4), .val (.int p5), .val (.ref b11), .val (.ref b15), .val (.ref b19), .val (.int (0 : Int32)), .val (.int (0 : Int32)), .val (.ref b23), .val (.int (0 : Int32)), .val (.ref b15), .val (.int (0 : Int32))] [(.int (1 : Int32))])) (fun _ k_ => XS.iconst X31.here hx rfl (hb hby at_228) k_) ?_
            refine Go.st (S' := T31.setTop (mkF m 233 #[.val (.int p0), .val (.int p1), .val (.int p2), .val (.long q3), .second, .val (.int p4), .val (.int p5), .val (.ref b11), .val (.ref b15), .val (.ref b19), .val (.int (0 : Int32)), .val (.int (0 : Int32)), .val (.ref b23), .val (.int (0 : Int32)), .val (.ref b15), .val (.int (0 : Int32))] [(.int (1 : Int32))])) (fun _ k_ => XS.goto X31.here hx rfl (pc0 := 229) (pc' := 233) rfl (hb hby at_229) (by decide) (by decide) k_) ?_
            exact Go.retN X31 hx (t := .boolean) hret (by simp) hlk (hb hby at_233) (by decide) (by decide) ⟨rfl, N31⟩
        · skip
          refine Go.st (S' := T28.setTop (mkF m 211 #[.val (.int p0), .val (.int p1), .val (.int p2), .val (.long q3), .second, .val (.int p4), .val (.int p5), .val (.ref b11), .val (.ref b15), .val (.ref b19), .val (.int (0 : Int32)), .val (.int (0 : Int32)), .val (.ref b23), .val (.int (0 : Int32)), .val (.ref b15), .unset] [])) (fun _ k_ => XS.ifYes X28.here hx rfl (pc0 := 190) (pc' := 211) rfl (hb hby at_190) rfl ((if0 _ _).trans (teq (own_if0 hc190)).1) (by decide) (by decide) k_) ?_
          refine Go.st (S' := T28.setTop (mkF m 212 #[.val (.int p0), .val (.int p1), .val (.int p2), .val (.long q3), .second, .val (.int p4), .val (.int p5), .val (.ref b11), .val (.ref b15), .val (.ref b19), .val (.int (0 : Int32)), .val (.int (0 : Int32)), .val (.ref b23), .val (.int (0 : Int32)), .val (.ref b15), .unset] [(.int (0 : Int32))])) (fun _ k_ => XS.iconst X28.here hx rfl (hb hby at_211) k_) ?_
          refine Go.st (S' := T28.setTop (mkF m 214 #[.val (.int p0), .val (.int p1), .val (.int p2), .val (.long q3), .second, .val (.int p4), .val (.int p5), .val (.ref b11), .val (.ref b15), .val (.ref b19), .val (.int (0 : Int32)), .val (.int (0 : Int32)), .val (.ref b23), .val (.int (0 : Int32)), .val (.ref b15), .val (.int (0 : Int32))] [])) (fun _ k_ => XS.istore X28.here hx rfl (hb hby at_212) rfl (l' := #[.val (.int p0), .val (.int p1), .val (.int p2), .val (.long q3), .second, .val (.int p4), .val (.int p5), .val (.ref b11), .val (.ref b15), .val (.ref b19), .val (.int (0 : Int32)), .val (.int (0 : Int32)), .val (.ref b23), .val (.int (0 : Int32)), .val (.ref b15), .val (.int (0 : Int32))]) rfl k_) ?_
          refine Go.st (S' := T28.setTop (mkF m 216 #[.val (.int p0), .val (.int p1), .val (.int p2), .val (.long q3), .second, .val (.int p4), .val (.int p5), .val (.ref b11), .val (.ref b15), .val (.ref b19), .val (.int (0 : Int32)), .val (.int (0 : Int32)), .val (.ref b23), .val (.int (0 : Int32)), .val (.ref b15), .val (.int (0 : Int32))] [(.ref b23)])) (fun _ k_ => XS.aload X28.here hx rfl (hb hby at_214) rfl rfl k_) ?_
          refine Go.st (S' := T28.setTop (mkF m 218 #[.val (.int p0), .val (.int p1), .val (.int p2), .val (.long q3), .second, .val (.int p4), .val (.int p5), .val (.ref b11), .val (.ref b15), .val (.ref b19), .val (.int (0 : Int32)), .val (.int (0 : Int32)), .val (.ref b23), .val (.int (0 : Int32)), .val (.ref b15), .val (.int (0 : Int32))] [(.int (0 : Int32)), (.ref b23)])) (fun _ k_ => XS.iload X28.here hx rfl (hb hby at_216) rfl k_) ?_
          refine Go.st (S' := T28.setTop (mkF m 220 #[.val (.int p0), .val (.int p1), .val (.int p2), .val (.long q3), .second, .val (.int p4), .val (.int p5), .val (.ref b11), .val (.ref b15), .val (.ref b19), .val (.int (0 : Int32)), .val (.int (0 : Int32)), .val (.ref b23), .val (.int (0 : Int32)), .val (.ref b15), .val (.int (0 : Int32))] [(.ref b19), (.int (0 : Int32)), (.ref b23)])) (fun _ k_ => XS.aload X28.here hx rfl (hb hby at_218) rfl rfl k_) ?_
          obtain ⟨v32, T32, h32, L32, X32, e32, hQ32, st32⟩ := callVi X28 hx hZ hown (w84 hw) (w85 hw) (w87 hw) (w86 hw) (w3 hw) (w88 hw) (by decide) (W := 0) (argsL := [(.int (0 : Int32)), (.ref b19)]) (rest := []) e28 HM.1 (mt_most l Z a0 hw b23 pr24 prb24 ss24 ssb24 hs24 hsb24 sl24 (([] ++ own_flat (own_ps (p2) (p0) (nt2))) ++ own_flat (own_ps (p0) (p1) (p2))) (([0] ++ [([] ++ own_flat (own_ps (p2) (p0) (nt2))).length.toInt32]) ++ [(([] ++ own_flat (own_ps (p2) (p0) (nt2))) ++ own_flat (own_ps (p0) (p1) (p2))).length.toInt32]) (([] ++ [hv25]) ++ [hv26]) zt26 0 ([] ++ own_flat (own_ps (p2) (p0) (nt2))).length [] (own_flat (own_ps (p0) (p1) (p2))) (own_ps (p2) (p0) (nt2)) b19 (nq0) (nq1) (p4) h26 n0 Z0 HM hd rfl rfl rfl rfl (by decide) A_b19 (own_psin _ _ _)) (by decide) (by decide) pd8 rfl (g := (mkF m 220 #[.val (.int p0), .val (.int p1), .val (.int p2), .val (.long q3), .second, .val (.int p4), .val (.int p5), .val (.ref b11), .val (.ref b15), .val (.ref b19), .val (.int (0 : Int32)), .val (.int (0 : Int32)), .val (.ref b23), .val (.int (0 : Int32)), .val (.ref b15), .val (.int (0 : Int32))] [(.ref b19), (.int (0 : Int32)), (.ref b23)])) rfl (by rw [hml]; rfl) rfl (by show 2 * 0 + _ ≤ _; exact Nat.le_of_eq rfl) (hb hby at_220) (by decide) (by decide)
          obtain ⟨rfl, Nq32, hh32⟩ := hQ32
          rw [hh32] at e32
          have N32 := Fr.app N28 Nq32
          refine Go.st (S' := T32.setTop (mkF m 223 #[.val (.int p0), .val (.int p1), .val (.int p2), .val (.long q3), .second, .val (.int p4), .val (.int p5), .val (.ref b11), .val (.ref b15), .val (.ref b19), .val (.int (0 : Int32)), .val (.int (0 : Int32)), .val (.ref b23), .val (.int (0 : Int32)), .val (.ref b15), .val (.int (0 : Int32))] [(.int (if own_all (own_ps (p2) (p0) (nt2)) [nq0, nq1, p4] = true then (1 : Int32) else (0 : Int32)))])) (st32) ?_
          refine Go.st (S' := T32.setTop (mkF m 225 #[.val (.int p0), .val (.int p1), .val (.int p2), .val (.long q3), .second, .val (.int p4), .val (.int p5), .val (.ref b11), .val (.ref b15), .val (.ref b19), .val (.int (0 : Int32)), .val (.int (0 : Int32)), .val (.ref b23), .val (.int (0 : Int32)), .val (.ref b15), .val (.int (0 : Int32))] [(.int (0 : Int32)), (.int (if own_all (own_ps (p2) (p0) (nt2)) [nq0, nq1, p4] = true then (1 : Int32) else (0 : Int32)))])) (fun _ k_ => XS.iload X32.here hx rfl (hb hby at_223) rfl k_) ?_
          refine Go.st (S' := T32.setTop (mkF m 228 #[.val (.int p0), .val (.int p1), .val (.int p2), .val (.long q3), .second, .val (.int p4), .val (.int p5), .val (.ref b11), .val (.ref b15), .val (.ref b19), .val (.int (0 : Int32)), .val (.int (0 : Int32)), .val (.ref b23), .val (.int (0 : Int32)), .val (.ref b15), .val (.int (0 : Int32))] [])) (fun _ k_ => XS.icmpNo X32.here hx rfl (hb hby at_225) rfl (teq (if_neg (fun z => hc190 ((own_allf _ _ _ _ _ _).mp z).2.1))).2 k_) ?_
          refine Go.st (S' := T32.setTop (mkF m 229 #[.val (.int p0), .val (.int p1), .val (.int p2), .val (.long q3), .second, .val (.int p4), .val (.int p5), .val (.ref b11), .val (.ref b15), .val (.ref b19), .val (.int (0 : Int32)), .val (.int (0 : Int32)), .val (.ref b23), .val (.int (0 : Int32)), .val (.ref b15), .val (.int (0 : Int32))] [(.int (1 : Int32))])) (fun _ k_ => XS.iconst X32.here hx rfl (hb hby at_228) k_) ?_
          refine Go.st (S' := T32.setTop (mkF m 233 #[.val (.int p0), .val (.int p1), .val (.int p2), .val (.long q3), .second, .val (.int p4), .val (.int p5), .val (.ref b11), .val (.ref b15), .val (.ref b19), .val (.int (0 : Int32)), .val (.int (0 : Int32)), .val (.ref b23), .val (.int (0 : Int32)), .val (.ref b15), .val (.int (0 : Int32))] [(.int (1 : Int32))])) (fun _ k_ => XS.goto X32.here hx rfl (pc0 := 229) (pc' := 233) rfl (hb hby at_229) (by decide) (by decide) k_) ?_
          exact Go.retN X32 hx (t := .boolean) hret (by simp) hlk (hb hby at_233) (by decide) (by decide) ⟨rfl, N32⟩
      · skip
        refine Go.st (S' := T27.setTop (mkF m 211 #[.val (.int p0), .val (.int p1), .val (.int p2), .val (.long q3), .second, .val (.int p4), .val (.int p5), .val (.ref b11), .val (.ref b15), .val (.ref b19), .val (.int (0 : Int32)), .val (.int (0 : Int32)), .val (.ref b23), .val (.int (0 : Int32)), .val (.ref b15), .unset] [])) (fun _ k_ => XS.ifYes X27.here hx rfl (pc0 := 176) (pc' := 211) rfl (hb hby at_176) rfl ((if0 _ _).trans (teq (own_if0 hc176)).1) (by decide) (by decide) k_) ?_
        refine Go.st (S' := T27.setTop (mkF m 212 #[.val (.int p0), .val (.int p1), .val (.int p2), .val (.long q3), .second, .val (.int p4), .val (.int p5), .val (.ref b11), .val (.ref b15), .val (.ref b19), .val (.int (0 : Int32)), .val (.int (0 : Int32)), .val (.ref b23), .val (.int (0 : Int32)), .val (.ref b15), .unset] [(.int (0 : Int32))])) (fun _ k_ => XS.iconst X27.here hx rfl (hb hby at_211) k_) ?_
        refine Go.st (S' := T27.setTop (mkF m 214 #[.val (.int p0), .val (.int p1), .val (.int p2), .val (.long q3), .second, .val (.int p4), .val (.int p5), .val (.ref b11), .val (.ref b15), .val (.ref b19), .val (.int (0 : Int32)), .val (.int (0 : Int32)), .val (.ref b23), .val (.int (0 : Int32)), .val (.ref b15), .val (.int (0 : Int32))] [])) (fun _ k_ => XS.istore X27.here hx rfl (hb hby at_212) rfl (l' := #[.val (.int p0), .val (.int p1), .val (.int p2), .val (.long q3), .second, .val (.int p4), .val (.int p5), .val (.ref b11), .val (.ref b15), .val (.ref b19), .val (.int (0 : Int32)), .val (.int (0 : Int32)), .val (.ref b23), .val (.int (0 : Int32)), .val (.ref b15), .val (.int (0 : Int32))]) rfl k_) ?_
        refine Go.st (S' := T27.setTop (mkF m 216 #[.val (.int p0), .val (.int p1), .val (.int p2), .val (.long q3), .second, .val (.int p4), .val (.int p5), .val (.ref b11), .val (.ref b15), .val (.ref b19), .val (.int (0 : Int32)), .val (.int (0 : Int32)), .val (.ref b23), .val (.int (0 : Int32)), .val (.ref b15), .val (.int (0 : Int32))] [(.ref b23)])) (fun _ k_ => XS.aload X27.here hx rfl (hb hby at_214) rfl rfl k_) ?_
        refine Go.st (S' := T27.setTop (mkF m 218 #[.val (.int p0), .val (.int p1), .val (.int p2), .val (.long q3), .second, .val (.int p4), .val (.int p5), .val (.ref b11), .val (.ref b15), .val (.ref b19), .val (.int (0 : Int32)), .val (.int (0 : Int32)), .val (.ref b23), .val (.int (0 : Int32)), .val (.ref b15), .val (.int (0 : Int32))] [(.int (0 : Int32)), (.ref b23)])) (fun _ k_ => XS.iload X27.here hx rfl (hb hby at_216) rfl k_) ?_
        refine Go.st (S' := T27.setTop (mkF m 220 #[.val (.int p0), .val (.int p1), .val (.int p2), .val (.long q3), .second, .val (.int p4), .val (.int p5), .val (.ref b11), .val (.ref b15), .val (.ref b19), .val (.int (0 : Int32)), .val (.int (0 : Int32)), .val (.ref b23), .val (.int (0 : Int32)), .val (.ref b15), .val (.int (0 : Int32))] [(.ref b19), (.int (0 : Int32)), (.ref b23)])) (fun _ k_ => XS.aload X27.here hx rfl (hb hby at_218) rfl rfl k_) ?_
        obtain ⟨v33, T33, h33, L33, X33, e33, hQ33, st33⟩ := callVi X27 hx hZ hown (w84 hw) (w85 hw) (w87 hw) (w86 hw) (w3 hw) (w88 hw) (by decide) (W := 0) (argsL := [(.int (0 : Int32)), (.ref b19)]) (rest := []) e27 HM.1 (mt_most l Z a0 hw b23 pr24 prb24 ss24 ssb24 hs24 hsb24 sl24 (([] ++ own_flat (own_ps (p2) (p0) (nt2))) ++ own_flat (own_ps (p0) (p1) (p2))) (([0] ++ [([] ++ own_flat (own_ps (p2) (p0) (nt2))).length.toInt32]) ++ [(([] ++ own_flat (own_ps (p2) (p0) (nt2))) ++ own_flat (own_ps (p0) (p1) (p2))).length.toInt32]) (([] ++ [hv25]) ++ [hv26]) zt26 0 ([] ++ own_flat (own_ps (p2) (p0) (nt2))).length [] (own_flat (own_ps (p0) (p1) (p2))) (own_ps (p2) (p0) (nt2)) b19 (nq0) (nq1) (p4) h26 n0 Z0 HM hd rfl rfl rfl rfl (by decide) A_b19 (own_psin _ _ _)) (by decide) (by decide) pd8 rfl (g := (mkF m 220 #[.val (.int p0), .val (.int p1), .val (.int p2), .val (.long q3), .second, .val (.int p4), .val (.int p5), .val (.ref b11), .val (.ref b15), .val (.ref b19), .val (.int (0 : Int32)), .val (.int (0 : Int32)), .val (.ref b23), .val (.int (0 : Int32)), .val (.ref b15), .val (.int (0 : Int32))] [(.ref b19), (.int (0 : Int32)), (.ref b23)])) rfl (by rw [hml]; rfl) rfl (by show 2 * 0 + _ ≤ _; exact Nat.le_of_eq rfl) (hb hby at_220) (by decide) (by decide)
        obtain ⟨rfl, Nq33, hh33⟩ := hQ33
        rw [hh33] at e33
        have N33 := Fr.app N27 Nq33
        refine Go.st (S' := T33.setTop (mkF m 223 #[.val (.int p0), .val (.int p1), .val (.int p2), .val (.long q3), .second, .val (.int p4), .val (.int p5), .val (.ref b11), .val (.ref b15), .val (.ref b19), .val (.int (0 : Int32)), .val (.int (0 : Int32)), .val (.ref b23), .val (.int (0 : Int32)), .val (.ref b15), .val (.int (0 : Int32))] [(.int (if own_all (own_ps (p2) (p0) (nt2)) [nq0, nq1, p4] = true then (1 : Int32) else (0 : Int32)))])) (st33) ?_
        refine Go.st (S' := T33.setTop (mkF m 225 #[.val (.int p0), .val (.int p1), .val (.int p2), .val (.long q3), .second, .val (.int p4), .val (.int p5), .val (.ref b11), .val (.ref b15), .val (.ref b19), .val (.int (0 : Int32)), .val (.int (0 : Int32)), .val (.ref b23), .val (.int (0 : Int32)), .val (.ref b15), .val (.int (0 : Int32))] [(.int (0 : Int32)), (.int (if own_all (own_ps (p2) (p0) (nt2)) [nq0, nq1, p4] = true then (1 : Int32) else (0 : Int32)))])) (fun _ k_ => XS.iload X33.here hx rfl (hb hby at_223) rfl k_) ?_
        refine Go.st (S' := T33.setTop (mkF m 228 #[.val (.int p0), .val (.int p1), .val (.int p2), .val (.long q3), .second, .val (.int p4), .val (.int p5), .val (.ref b11), .val (.ref b15), .val (.ref b19), .val (.int (0 : Int32)), .val (.int (0 : Int32)), .val (.ref b23), .val (.int (0 : Int32)), .val (.ref b15), .val (.int (0 : Int32))] [])) (fun _ k_ => XS.icmpNo X33.here hx rfl (hb hby at_225) rfl (teq (if_neg (fun z => hc176 ((own_allf _ _ _ _ _ _).mp z).1))).2 k_) ?_
        refine Go.st (S' := T33.setTop (mkF m 229 #[.val (.int p0), .val (.int p1), .val (.int p2), .val (.long q3), .second, .val (.int p4), .val (.int p5), .val (.ref b11), .val (.ref b15), .val (.ref b19), .val (.int (0 : Int32)), .val (.int (0 : Int32)), .val (.ref b23), .val (.int (0 : Int32)), .val (.ref b15), .val (.int (0 : Int32))] [(.int (1 : Int32))])) (fun _ k_ => XS.iconst X33.here hx rfl (hb hby at_228) k_) ?_
        refine Go.st (S' := T33.setTop (mkF m 233 #[.val (.int p0), .val (.int p1), .val (.int p2), .val (.long q3), .second, .val (.int p4), .val (.int p5), .val (.ref b11), .val (.ref b15), .val (.ref b19), .val (.int (0 : Int32)), .val (.int (0 : Int32)), .val (.ref b23), .val (.int (0 : Int32)), .val (.ref b15), .val (.int (0 : Int32))] [(.int (1 : Int32))])) (fun _ k_ => XS.goto X33.here hx rfl (pc0 := 229) (pc' := 233) rfl (hb hby at_229) (by decide) (by decide) k_) ?_
        exact Go.retN X33 hx (t := .boolean) hret (by simp) hlk (hb hby at_233) (by decide) (by decide) ⟨rfl, N33⟩
    · skip
      refine Go.st (S' := T22.setTop (mkF m 80 #[.val (.int p0), .val (.int p1), .val (.int p2), .val (.long q3), .second, .val (.int p4), .val (.int p5), .val (.ref b11), .val (.ref b15), .val (.ref b19), .val (.int (0 : Int32)), .unset, .unset, .unset, .unset, .unset] [])) (fun _ k_ => XS.ifNo X22.here hx rfl (hb hby at_77) rfl ((if0 _ _).trans (feq hc77).1) k_) ?_
      refine Go.st (S' := T22.setTop (mkF m 81 #[.val (.int p0), .val (.int p1), .val (.int p2), .val (.long q3), .second, .val (.int p4), .val (.int p5), .val (.ref b11), .val (.ref b15), .val (.ref b19), .val (.int (0 : Int32)), .unset, .unset, .unset, .unset, .unset] [(.int (1 : Int32))])) (fun _ k_ => XS.iconst X22.here hx rfl (hb hby at_80) k_) ?_
      refine Go.st (S' := T22.setTop (mkF m 85 #[.val (.int p0), .val (.int p1), .val (.int p2), .val (.long q3), .second, .val (.int p4), .val (.int p5), .val (.ref b11), .val (.ref b15), .val (.ref b19), .val (.int (0 : Int32)), .unset, .unset, .unset, .unset, .unset] [(.int (1 : Int32))])) (fun _ k_ => XS.goto X22.here hx rfl (pc0 := 81) (pc' := 85) rfl (hb hby at_81) (by decide) (by decide) k_) ?_
      refine Go.st (S' := T22.setTop (mkF m 87 #[.val (.int p0), .val (.int p1), .val (.int p2), .val (.long q3), .second, .val (.int p4), .val (.int p5), .val (.ref b11), .val (.ref b15), .val (.ref b19), .val (.int (0 : Int32)), .val (.int (1 : Int32)), .unset, .unset, .unset, .unset] [])) (fun _ k_ => XS.istore X22.here hx rfl (hb hby at_85) rfl (l' := #[.val (.int p0), .val (.int p1), .val (.int p2), .val (.long q3), .second, .val (.int p4), .val (.int p5), .val (.ref b11), .val (.ref b15), .val (.ref b19), .val (.int (0 : Int32)), .val (.int (1 : Int32)), .unset, .unset, .unset, .unset]) rfl k_) ?_
      obtain ⟨T34, h34, X34, e34, E34, A34, D34, -, st34⟩ := newO X22 hx hZ hown (w1 hw) (w2 hw) (w3 hw) e22 (g := (mkF m 87 #[.val (.int p0), .val (.int p1), .val (.int p2), .val (.long q3), .second, .val (.int p4), .val (.int p5), .val (.ref b11), .val (.ref b15), .val (.ref b19), .val (.int (0 : Int32)), .val (.int (1 : Int32)), .unset, .unset, .unset, .unset] [])) rfl (hb hby at_87) (by decide) (by decide)
      obtain ⟨b34, q34⟩ : ∃ z, z = h22.size := ⟨_, rfl⟩
      rw [← q34] at A34 D34 st34
      have ne_b11_b34 : b11 ≠ b34 := Nat.ne_of_lt (Nat.lt_of_lt_of_le E_b11.lt (Nat.le_of_eq q34.symm))
      have ne_b15_b34 : b15 ≠ b34 := Nat.ne_of_lt (Nat.lt_of_lt_of_le E_b15.lt (Nat.le_of_eq q34.symm))
      have ne_b19_b34 : b19 ≠ b34 := Nat.ne_of_lt (Nat.lt_of_lt_of_le E_b19.lt (Nat.le_of_eq q34.symm))
      have g_b34 : n0 ≤ b34 := Nat.le_trans Z0 (Nat.le_of_eq q34.symm)
      replace E_b11 := E_b11.ext E34
      replace A_b11 := A_b11.ext E34
      replace E_b15 := E_b15.ext E34
      replace A_b15 := A_b15.ext E34
      replace E_b19 := E_b19.ext E34
      replace A_b19 := A_b19.ext E34
      replace Z0 := Nat.le_trans Z0 E34.1
      have E_b34 := A34
      have F_pairs_b34 : Fld Z h34 b34 "com/example/caseweave/caseweave/core/MarkingTable" "pairs" "Lcom/example/caseweave/caseweave/core/IntList;" .null := D34 (Or.inr (w20 hw)) (ty := (.object "com/example/caseweave/caseweave/core/IntList")) (by decide)
      have F_starts_b34 : Fld Z h34 b34 "com/example/caseweave/caseweave/core/MarkingTable" "starts" "Lcom/example/caseweave/caseweave/core/IntList;" .null := D34 (Or.inr (w22 hw)) (ty := (.object "com/example/caseweave/caseweave/core/IntList")) (by decide)
      have F_hashes_b34 : Fld Z h34 b34 "com/example/caseweave/caseweave/core/MarkingTable" "hashes" "Lcom/example/caseweave/caseweave/core/IntList;" .null := D34 (Or.inr (w24 hw)) (ty := (.object "com/example/caseweave/caseweave/core/IntList")) (by decide)
      have F_slots_b34 : Fld Z h34 b34 "com/example/caseweave/caseweave/core/MarkingTable" "slots" "[I" .null := D34 (Or.inl (w26 hw)) (ty := (.array .int)) (by decide)
      have F_places_b34 : Fld Z h34 b34 "com/example/caseweave/caseweave/core/MarkingTable" "places" "I" (.int (0 : Int32)) := D34 (Or.inr (w28 hw)) (ty := .int) (by decide)
      have F_stored_b34 : Fld Z h34 b34 "com/example/caseweave/caseweave/core/MarkingTable" "stored" "[I" .null := D34 (Or.inr (w30 hw)) (ty := (.array .int)) (by decide)
      refine Go.st (S' := T34.setTop (mkF m 90 #[.val (.int p0), .val (.int p1), .val (.int p2), .val (.long q3), .second, .val (.int p4), .val (.int p5), .val (.ref b11), .val (.ref b15), .val (.ref b19), .val (.int (0 : Int32)), .val (.int (1 : Int32)), .unset, .unset, .unset, .unset] [(.ref b34)])) (st34) ?_
      refine Go.st (S' := T34.setTop (mkF m 91 #[.val (.int p0), .val (.int p1), .val (.int p2), .val (.long q3), .second, .val (.int p4), .val (.int p5), .val (.ref b11), .val (.ref b15), .val (.ref b19), .val (.int (0 : Int32)), .val (.int (1 : Int32)), .unset, .unset, .unset, .unset] [(.ref b34), (.ref b34)])) (fun _ k_ => XS.dup X34.here hx rfl (hb hby at_90) rfl rfl k_) ?_
      refine Go.st (S' := T34.setTop (mkF m 92 #[.val (.int p0), .val (.int p1), .val (.int p2), .val (.long q3), .second, .val (.int p4), .val (.int p5), .val (.ref b11), .val (.ref b15), .val (.ref b19), .val (.int (0 : Int32)), .val (.int (1 : Int32)), .unset, .unset, .unset, .unset] [(.int (3 : Int32)), (.ref b34), (.ref b34)])) (fun _ k_ => XS.iconst X34.here hx rfl (hb hby at_91) k_) ?_
      obtain ⟨v35, T35, h35, L35, X35, e35, hQ35, st35⟩ := callIn X34 hx hZ rfl hown (w4 hw) (w5 hw) (w3 hw) (w6 hw) (by decide) (W := 1) (argsL := [(.int (3 : Int32))]) (rest := [(.ref b34)]) e34 (mt_init l Z a0 hw b34 h34 n0 Z0 E_b34 F_pairs_b34 F_starts_b34 F_hashes_b34 F_slots_b34 F_stored_b34 F_places_b34 g_b34) (by decide) (by decide) pd4 rfl (g := (mkF m 92 #[.val (.int p0), .val (.int p1), .val (.int p2), .val (.long q3), .second, .val (.int p4), .val (.int p5), .val (.ref b11), .val (.ref b15), .val (.ref b19), .val (.int (0 : Int32)), .val (.int (1 : Int32)), .unset, .unset, .unset, .unset] [(.int (3 : Int32)), (.ref b34), (.ref b34)])) rfl (by rw [hml]; rfl) rfl (by show 2 * 0 + _ ≤ _; exact Nat.le_of_eq rfl) (hb hby at_92) (by decide) (by decide)
      obtain ⟨rfl, Nq35, Kq35, pr35, prb35, ss35, ssb35, hs35, hsb35, sl35, hd, hsz35, HM⟩ := hQ35
      have N35 := Fr.app N22 Nq35
      obtain ⟨hs_pr35, hs_prb35, hs_ss35, hs_ssb35, hs_hs35, hs_hsb35, hs_sl35⟩ := hsz35
      have ne_b11_pr35 : b11 ≠ pr35 := Nat.ne_of_lt (Nat.lt_of_lt_of_le E_b11.lt hs_pr35)
      have ne_b15_pr35 : b15 ≠ pr35 := Nat.ne_of_lt (Nat.lt_of_lt_of_le E_b15.lt hs_pr35)
      have ne_b19_pr35 : b19 ≠ pr35 := Nat.ne_of_lt (Nat.lt_of_lt_of_le E_b19.lt hs_pr35)
      have g_pr35 : n0 ≤ pr35 := Nat.le_trans Z0 hs_pr35
      have ne_b11_prb35 : b11 ≠ prb35 := Nat.ne_of_lt (Nat.lt_of_lt_of_le E_b11.lt hs_prb35)
      have ne_b15_prb35 : b15 ≠ prb35 := Nat.ne_of_lt (Nat.lt_of_lt_of_le E_b15.lt hs_prb35)
      have ne_b19_prb35 : b19 ≠ prb35 := Nat.ne_of_lt (Nat.lt_of_lt_of_le E_b19.lt hs_prb35)
      have g_prb35 : n0 ≤ prb35 := Nat.le_trans Z0 hs_prb35
      have ne_b11_ss35 : b11 ≠ ss35 := Nat.ne_of_lt (Nat.lt_of_lt_of_le E_b11.lt hs_ss35)
      have ne_b15_ss35 : b15 ≠ ss35 := Nat.ne_of_lt (Nat.lt_of_lt_of_le E_b15.lt hs_ss35)
      have ne_b19_ss35 : b19 ≠ ss35 := Nat.ne_of_lt (Nat.lt_of_lt_of_le E_b19.lt hs_ss35)
      have g_ss35 : n0 ≤ ss35 := Nat.le_trans Z0 hs_ss35
      have ne_b11_ssb35 : b11 ≠ ssb35 := Nat.ne_of_lt (Nat.lt_of_lt_of_le E_b11.lt hs_ssb35)
      have ne_b15_ssb35 : b15 ≠ ssb35 := Nat.ne_of_lt (Nat.lt_of_lt_of_le E_b15.lt hs_ssb35)
      have ne_b19_ssb35 : b19 ≠ ssb35 := Nat.ne_of_lt (Nat.lt_of_lt_of_le E_b19.lt hs_ssb35)
      have g_ssb35 : n0 ≤ ssb35 := Nat.le_trans Z0 hs_ssb35
      have ne_b11_hs35 : b11 ≠ hs35 := Nat.ne_of_lt (Nat.lt_of_lt_of_le E_b11.lt hs_hs35)
      have ne_b15_hs35 : b15 ≠ hs35 := Nat.ne_of_lt (Nat.lt_of_lt_of_le E_b15.lt hs_hs35)
      have ne_b19_hs35 : b19 ≠ hs35 := Nat.ne_of_lt (Nat.lt_of_lt_of_le E_b19.lt hs_hs35)
      have g_hs35 : n0 ≤ hs35 := Nat.le_trans Z0 hs_hs35
      have ne_b11_hsb35 : b11 ≠ hsb35 := Nat.ne_of_lt (Nat.lt_of_lt_of_le E_b11.lt hs_hsb35)
      have ne_b15_hsb35 : b15 ≠ hsb35 := Nat.ne_of_lt (Nat.lt_of_lt_of_le E_b15.lt hs_hsb35)
      have ne_b19_hsb35 : b19 ≠ hsb35 := Nat.ne_of_lt (Nat.lt_of_lt_of_le E_b19.lt hs_hsb35)
      have g_hsb35 : n0 ≤ hsb35 := Nat.le_trans Z0 hs_hsb35
      have ne_b11_sl35 : b11 ≠ sl35 := Nat.ne_of_lt (Nat.lt_of_lt_of_le E_b11.lt hs_sl35)
      have ne_b15_sl35 : b15 ≠ sl35 := Nat.ne_of_lt (Nat.lt_of_lt_of_le E_b15.lt hs_sl35)
      have ne_b19_sl35 : b19 ≠ sl35 := Nat.ne_of_lt (Nat.lt_of_lt_of_le E_b19.lt hs_sl35)
      have g_sl35 : n0 ≤ sl35 := Nat.le_trans Z0 hs_sl35
      replace E_b11 := E_b11.keep Kq35
      replace A_b11 := A_b11.keep Kq35 (ninS ne_b11_b34 nin0)
      replace E_b15 := E_b15.keep Kq35
      replace A_b15 := A_b15.keep Kq35 (ninS ne_b15_b34 nin0)
      replace E_b19 := E_b19.keep Kq35
      replace A_b19 := A_b19.keep Kq35 (ninS ne_b19_b34 nin0)
      replace Z0 := Nat.le_trans Z0 Kq35.1
      refine Go.st (S' := T35.setTop (mkF m 95 #[.val (.int p0), .val (.int p1), .val (.int p2), .val (.long q3), .second, .val (.int p4), .val (.int p5), .val (.ref b11), .val (.ref b15), .val (.ref b19), .val (.int (0 : Int32)), .val (.int (1 : Int32)), .unset, .unset, .unset, .unset] [(.ref b34)])) (st35) ?_
      refine Go.st (S' := T35.setTop (mkF m 97 #[.val (.int p0), .val (.int p1), .val (.int p2), .val (.long q3), .second, .val (.int p4), .val (.int p5), .val (.ref b11), .val (.ref b15), .val (.ref b19), .val (.int (0 : Int32)), .val (.int (1 : Int32)), .val (.ref b34), .unset, .unset, .unset] [])) (fun _ k_ => XS.astore X35.here hx rfl (hb hby at_95) rfl rfl (l' := #[.val (.int p0), .val (.int p1), .val (.int p2), .val (.long q3), .second, .val (.int p4), .val (.int p5), .val (.ref b11), .val (.ref b15), .val (.ref b19), .val (.int (0 : Int32)), .val (.int (1 : Int32)), .val (.ref b34), .unset, .unset, .unset]) rfl k_) ?_
      refine Go.st (S' := T35.setTop (mkF m 99 #[.val (.int p0), .val (.int p1), .val (.int p2), .val (.long q3), .second, .val (.int p4), .val (.int p5), .val (.ref b11), .val (.ref b15), .val (.ref b19), .val (.int (0 : Int32)), .val (.int (1 : Int32)), .val (.ref b34), .unset, .unset, .unset] [(.int (0 : Int32))])) (fun _ k_ => XS.iload X35.here hx rfl (hb hby at_97) rfl k_) ?_
      refine Go.st (S' := T35.setTop (mkF m 121 #[.val (.int p0), .val (.int p1), .val (.int p2), .val (.long q3), .second, .val (.int p4), .val (.int p5), .val (.ref b11), .val (.ref b15), .val (.ref b19), .val (.int (0 : Int32)), .val (.int (1 : Int32)), .val (.ref b34), .unset, .unset, .unset] [])) (fun _ k_ => XS.ifYes X35.here hx rfl (pc0 := 99) (pc' := 121) rfl (hb hby at_99) rfl ((if0 _ _).trans (teq (by decide)).1) (by decide) (by decide) k_) ?_
      refine Go.st (S' := T35.setTop (mkF m 123 #[.val (.int p0), .val (.int p1), .val (.int p2), .val (.long q3), .second, .val (.int p4), .val (.int p5), .val (.ref b11), .val (.ref b15), .val (.ref b19), .val (.int (0 : Int32)), .val (.int (1 : Int32)), .val (.ref b34), .unset, .unset, .unset] [(.ref b34)])) (fun _ k_ => XS.aload X35.here hx rfl (hb hby at_121) rfl rfl k_) ?_
      refine Go.st (S' := T35.setTop (mkF m 125 #[.val (.int p0), .val (.int p1), .val (.int p2), .val (.long q3), .second, .val (.int p4), .val (.int p5), .val (.ref b11), .val (.ref b15), .val (.ref b19), .val (.int (0 : Int32)), .val (.int (1 : Int32)), .val (.ref b34), .unset, .unset, .unset] [(.ref b15), (.ref b34)])) (fun _ k_ => XS.aload X35.here hx rfl (hb hby at_123) rfl rfl k_) ?_
      have off36 : own_off b15 b34 pr35 prb35 ss35 ssb35 hs35 hsb35 sl35 := ⟨ne_b15_b34, ne_b15_pr35, ne_b15_prb35, ne_b15_ss35, ne_b15_ssb35, ne_b15_hs35, ne_b15_hsb35, ne_b15_sl35⟩
      obtain ⟨v36, T36, h36, L36, X36, e36, hQ36, st36⟩ := callVi X35 hx hZ hown (w38 hw) (w39 hw) (w41 hw) (w40 hw) (w3 hw) (w42 hw) (by decide) (W := 0) (argsL := [(.ref b15)]) (rest := []) e35 HM.1 (mt_add l Z a0 hw b34 pr35 prb35 ss35 ssb35 hs35 hsb35 sl35 [] [0] [] (List.replicate 16 0) b15 (p2) (p0) (nt2) h35 n0 Z0 HM hd A_b15 E_b15 off36 (by decide) (by simp) (by simp) ⟨rfl, fun i j hi hj q => absurd (own_z0 i) q⟩) (by decide) (by decide) pd2 rfl (g := (mkF m 125 #[.val (.int p0), .val (.int p1), .val (.int p2), .val (.long q3), .second, .val (.int p4), .val (.int p5), .val (.ref b11), .val (.ref b15), .val (.ref b19), .val (.int (0 : Int32)), .val (.int (1 : Int32)), .val (.ref b34), .unset, .unset, .unset] [(.ref b15), (.ref b34)])) rfl (by rw [hml]; rfl) rfl (by show 2 * 0 + _ ≤ _; exact Nat.le_of_eq rfl) (hb hby at_125) (by decide) (by decide)
      obtain ⟨rfl, Nq36, Kq36, hv36, zt36, ho36, hl36, HM⟩ := hQ36
      have N36 := Fr.app N35 Nq36
      replace E_b11 := E_b11.keep Kq36
      replace A_b11 := A_b11.keep Kq36 (ninS ne_b11_pr35 (ninS ne_b11_prb35 (ninS ne_b11_ss35 (ninS ne_b11_ssb35 (ninS ne_b11_hs35 (ninS ne_b11_hsb35 (ninS ne_b11_sl35 nin0)))))))
      replace E_b15 := E_b15.keep Kq36
      replace A_b15 := A_b15.keep Kq36 (ninS ne_b15_pr35 (ninS ne_b15_prb35 (ninS ne_b15_ss35 (ninS ne_b15_ssb35 (ninS ne_b15_hs35 (ninS ne_b15_hsb35 (ninS ne_b15_sl35 nin0)))))))
      replace E_b19 := E_b19.keep Kq36
      replace A_b19 := A_b19.keep Kq36 (ninS ne_b19_pr35 (ninS ne_b19_prb35 (ninS ne_b19_ss35 (ninS ne_b19_ssb35 (ninS ne_b19_hs35 (ninS ne_b19_hsb35 (ninS ne_b19_sl35 nin0)))))))
      replace Z0 := Nat.le_trans Z0 Kq36.1
      refine Go.st (S' := T36.setTop (mkF m 128 #[.val (.int p0), .val (.int p1), .val (.int p2), .val (.long q3), .second, .val (.int p4), .val (.int p5), .val (.ref b11), .val (.ref b15), .val (.ref b19), .val (.int (0 : Int32)), .val (.int (1 : Int32)), .val (.ref b34), .unset, .unset, .unset] [(.int ([] : List Int32).length.toInt32)])) (st36) ?_
      refine Go.st (S' := T36.setTop (mkF m 129 #[.val (.int p0), .val (.int p1), .val (.int p2), .val (.long q3), .second, .val (.int p4), .val (.int p5), .val (.ref b11), .val (.ref b15), .val (.ref b19), .val (.int (0 : Int32)), .val (.int (1 : Int32)), .val (.ref b34), .unset, .unset, .unset] [])) (fun _ k_ => XS.pop X36.here hx rfl (hb hby at_128) rfl rfl k_) ?_
      refine Go.st (S' := T36.setTop (mkF m 131 #[.val (.int p0), .val (.int p1), .val (.int p2), .val (.long q3), .second, .val (.int p4), .val (.int p5), .val (.ref b11), .val (.ref b15), .val (.ref b19), .val (.int (0 : Int32)), .val (.int (1 : Int32)), .val (.ref b34), .unset, .unset, .unset] [(.ref b34)])) (fun _ k_ => XS.aload X36.here hx rfl (hb hby at_129) rfl rfl k_) ?_
      refine Go.st (S' := T36.setTop (mkF m 133 #[.val (.int p0), .val (.int p1), .val (.int p2), .val (.long q3), .second, .val (.int p4), .val (.int p5), .val (.ref b11), .val (.ref b15), .val (.ref b19), .val (.int (0 : Int32)), .val (.int (1 : Int32)), .val (.ref b34), .unset, .unset, .unset] [(.ref b11), (.ref b34)])) (fun _ k_ => XS.aload X36.here hx rfl (hb hby at_131) rfl rfl k_) ?_
      have off37 : own_off b11 b34 pr35 prb35 ss35 ssb35 hs35 hsb35 sl35 := ⟨ne_b11_b34, ne_b11_pr35, ne_b11_prb35, ne_b11_ss35, ne_b11_ssb35, ne_b11_hs35, ne_b11_hsb35, ne_b11_sl35⟩
      obtain ⟨v37, T37, h37, L37, X37, e37, hQ37, st37⟩ := callVi X36 hx hZ hown (w38 hw) (w39 hw) (w41 hw) (w40 hw) (w3 hw) (w42 hw) (by decide) (W := 0) (argsL := [(.ref b11)]) (rest := []) e36 HM.1 (mt_add l Z a0 hw b34 pr35 prb35 ss35 ssb35 hs35 hsb35 sl35 ([] ++ own_flat (own_ps (p2) (p0) (nt2))) ([0] ++ [([] ++ own_flat (own_ps (p2) (p0) (nt2))).length.toInt32]) ([] ++ [hv36]) zt36 b11 (p0) (p1) (p2) h36 n0 Z0 HM hd A_b11 E_b11 off37 (by rw [List.nil_append, own_flen]; have := own_plen (p2) (p0) (nt2); omega) (by simp) (by simp) (ho36 own_z0)) (by decide) (by decide) pd2 rfl (g := (mkF m 133 #[.val (.int p0), .val (.int p1), .val (.int p2), .val (.long q3), .second, .val (.int p4), .val (.int p5), .val (.ref b11), .val (.ref b15), .val (.ref b19), .val (.int (0 : Int32)), .val (.int (1 : Int32)), .val (.ref b34), .unset, .unset, .unset] [(.ref b11), (.ref b34)])) rfl (by rw [hml]; rfl) rfl (by show 2 * 0 + _ ≤ _; exact Nat.le_of_eq rfl) (hb hby at_133) (by decide) (by decide)
      obtain ⟨rfl, Nq37, Kq37, hv37, zt37, ho37, hl37, HM⟩ := hQ37
      have N37 := Fr.app N36 Nq37
      replace E_b11 := E_b11.keep Kq37
      replace A_b11 := A_b11.keep Kq37 (ninS ne_b11_pr35 (ninS ne_b11_prb35 (ninS ne_b11_ss35 (ninS ne_b11_ssb35 (ninS ne_b11_hs35 (ninS ne_b11_hsb35 (ninS ne_b11_sl35 nin0)))))))
      replace E_b15 := E_b15.keep Kq37
      replace A_b15 := A_b15.keep Kq37 (ninS ne_b15_pr35 (ninS ne_b15_prb35 (ninS ne_b15_ss35 (ninS ne_b15_ssb35 (ninS ne_b15_hs35 (ninS ne_b15_hsb35 (ninS ne_b15_sl35 nin0)))))))
      replace E_b19 := E_b19.keep Kq37
      replace A_b19 := A_b19.keep Kq37 (ninS ne_b19_pr35 (ninS ne_b19_prb35 (ninS ne_b19_ss35 (ninS ne_b19_ssb35 (ninS ne_b19_hs35 (ninS ne_b19_hsb35 (ninS ne_b19_sl35 nin0)))))))
      replace Z0 := Nat.le_trans Z0 Kq37.1
      refine Go.st (S' := T37.setTop (mkF m 136 #[.val (.int p0), .val (.int p1), .val (.int p2), .val (.long q3), .second, .val (.int p4), .val (.int p5), .val (.ref b11), .val (.ref b15), .val (.ref b19), .val (.int (0 : Int32)), .val (.int (1 : Int32)), .val (.ref b34), .unset, .unset, .unset] [(.int (([] : List Int32) ++ [hv36]).length.toInt32)])) (st37) ?_
      refine Go.st (S' := T37.setTop (mkF m 137 #[.val (.int p0), .val (.int p1), .val (.int p2), .val (.long q3), .second, .val (.int p4), .val (.int p5), .val (.ref b11), .val (.ref b15), .val (.ref b19), .val (.int (0 : Int32)), .val (.int (1 : Int32)), .val (.ref b34), .unset, .unset, .unset] [])) (fun _ k_ => XS.pop X37.here hx rfl (hb hby at_136) rfl rfl k_) ?_
      refine Go.st (S' := T37.setTop (mkF m 139 #[.val (.int p0), .val (.int p1), .val (.int p2), .val (.long q3), .second, .val (.int p4), .val (.int p5), .val (.ref b11), .val (.ref b15), .val (.ref b19), .val (.int (0 : Int32)), .val (.int (1 : Int32)), .val (.ref b34), .unset, .unset, .unset] [(.int (1 : Int32))])) (fun _ k_ => XS.iload X37.here hx rfl (hb hby at_137) rfl k_) ?_
      refine Go.st (S' := T37.setTop (mkF m 141 #[.val (.int p0), .val (.int p1), .val (.int p2), .val (.long q3), .second, .val (.int p4), .val (.int p5), .val (.ref b11), .val (.ref b15), .val (.ref b19), .val (.int (0 : Int32)), .val (.int (1 : Int32)), .val (.ref b34), .unset, .unset, .unset] [(.int (0 : Int32)), (.int (1 : Int32))])) (fun _ k_ => XS.iload X37.here hx rfl (hb hby at_139) rfl k_) ?_
      refine Go.st (S' := T37.setTop (mkF m 148 #[.val (.int p0), .val (.int p1), .val (.int p2), .val (.long q3), .second, .val (.int p4), .val (.int p5), .val (.ref b11), .val (.ref b15), .val (.ref b19), .val (.int (0 : Int32)), .val (.int (1 : Int32)), .val (.ref b34), .unset, .unset, .unset] [])) (fun _ k_ => XS.icmpYes X37.here hx rfl (pc0 := 141) (pc' := 148) rfl (hb hby at_141) rfl (feq (by decide)).2 (by decide) (by decide) k_) ?_
      refine Go.st (S' := T37.setTop (mkF m 149 #[.val (.int p0), .val (.int p1), .val (.int p2), .val (.long q3), .second, .val (.int p4), .val (.int p5), .val (.ref b11), .val (.ref b15), .val (.ref b19), .val (.int (0 : Int32)), .val (.int (1 : Int32)), .val (.ref b34), .unset, .unset, .unset] [(.int (1 : Int32))])) (fun _ k_ => XS.iconst X37.here hx rfl (hb hby at_148) k_) ?_
      refine Go.st (S' := T37.setTop (mkF m 151 #[.val (.int p0), .val (.int p1), .val (.int p2), .val (.long q3), .second, .val (.int p4), .val (.int p5), .val (.ref b11), .val (.ref b15), .val (.ref b19), .val (.int (0 : Int32)), .val (.int (1 : Int32)), .val (.ref b34), .val (.int (1 : Int32)), .unset, .unset] [])) (fun _ k_ => XS.istore X37.here hx rfl (hb hby at_149) rfl (l' := #[.val (.int p0), .val (.int p1), .val (.int p2), .val (.long q3), .second, .val (.int p4), .val (.int p5), .val (.ref b11), .val (.ref b15), .val (.ref b19), .val (.int (0 : Int32)), .val (.int (1 : Int32)), .val (.ref b34), .val (.int (1 : Int32)), .unset, .unset]) rfl k_) ?_
      refine Go.st (S' := T37.setTop (mkF m 153 #[.val (.int p0), .val (.int p1), .val (.int p2), .val (.long q3), .second, .val (.int p4), .val (.int p5), .val (.ref b11), .val (.ref b15), .val (.ref b19), .val (.int (0 : Int32)), .val (.int (1 : Int32)), .val (.ref b34), .val (.int (1 : Int32)), .unset, .unset] [(.int (1 : Int32))])) (fun _ k_ => XS.iload X37.here hx rfl (hb hby at_151) rfl k_) ?_
      refine Go.st (S' := T37.setTop (mkF m 156 #[.val (.int p0), .val (.int p1), .val (.int p2), .val (.long q3), .second, .val (.int p4), .val (.int p5), .val (.ref b11), .val (.ref b15), .val (.ref b19), .val (.int (0 : Int32)), .val (.int (1 : Int32)), .val (.ref b34), .val (.int (1 : Int32)), .unset, .unset] [])) (fun _ k_ => XS.ifNo X37.here hx rfl (hb hby at_153) rfl ((if0 _ _).trans (feq (by decide)).1) k_) ?_
      refine Go.st (S' := T37.setTop (mkF m 158 #[.val (.int p0), .val (.int p1), .val (.int p2), .val (.long q3), .second, .val (.int p4), .val (.int p5), .val (.ref b11), .val (.ref b15), .val (.ref b19), .val (.int (0 : Int32)), .val (.int (1 : Int32)), .val (.ref b34), .val (.int (1 : Int32)), .unset, .unset] [(.ref b11)])) (fun _ k_ => XS.aload X37.here hx rfl (hb hby at_156) rfl rfl k_) ?_
      refine Go.st (S' := T37.setTop (mkF m 163 #[.val (.int p0), .val (.int p1), .val (.int p2), .val (.long q3), .second, .val (.int p4), .val (.int p5), .val (.ref b11), .val (.ref b15), .val (.ref b19), .val (.int (0 : Int32)), .val (.int (1 : Int32)), .val (.ref b34), .val (.int (1 : Int32)), .unset, .unset] [(.ref b11)])) (fun _ k_ => XS.goto X37.here hx rfl (pc0 := 158) (pc' := 163) rfl (hb hby at_158) (by decide) (by decide) k_) ?_
      refine Go.st (S' := T37.setTop (mkF m 165 #[.val (.int p0), .val (.int p1), .val (.int p2), .val (.long q3), .second, .val (.int p4), .val (.int p5), .val (.ref b11), .val (.ref b15), .val (.ref b19), .val (.int (0 : Int32)), .val (.int (1 : Int32)), .val (.ref b34), .val (.int (1 : Int32)), .val (.ref b11), .unset] [])) (fun _ k_ => XS.astore X37.here hx rfl (hb hby at_163) rfl rfl (l' := #[.val (.int p0), .val (.int p1), .val (.int p2), .val (.long q3), .second, .val (.int p4), .val (.int p5), .val (.ref b11), .val (.ref b15), .val (.ref b19), .val (.int (0 : Int32)), .val (.int (1 : Int32)), .val (.ref b34), .val (.int (1 : Int32)), .val (.ref b11), .unset]) rfl k_) ?_
      refine Go.st (S' := T37.setTop (mkF m 167 #[.val (.int p0), .val (.int p1), .val (.int p2), .val (.long q3), .second, .val (.int p4), .val (.int p5), .val (.ref b11), .val (.ref b15), .val (.ref b19), .val (.int (0 : Int32)), .val (.int (1 : Int32)), .val (.ref b34), .val (.int (1 : Int32)), .val (.ref b11), .unset] [(.ref b11)])) (fun _ k_ => XS.aload X37.here hx rfl (hb hby at_165) rfl rfl k_) ?_
      refine Go.st (S' := T37.setTop (mkF m 168 #[.val (.int p0), .val (.int p1), .val (.int p2), .val (.long q3), .second, .val (.int p4), .val (.int p5), .val (.ref b11), .val (.ref b15), .val (.ref b19), .val (.int (0 : Int32)), .val (.int (1 : Int32)), .val (.ref b34), .val (.int (1 : Int32)), .val (.ref b11), .unset] [(.int (0 : Int32)), (.ref b11)])) (fun _ k_ => XS.iconst X37.here hx rfl (hb hby at_167) k_) ?_
      refine Go.st (S' := T37.setTop (mkF m 169 #[.val (.int p0), .val (.int p1), .val (.int p2), .val (.long q3), .second, .val (.int p4), .val (.int p5), .val (.ref b11), .val (.ref b15), .val (.ref b19), .val (.int (0 : Int32)), .val (.int (1 : Int32)), .val (.ref b34), .val (.int (1 : Int32)), .val (.ref b11), .unset] [(.int p0)])) (A_b11.load X37 hx hZ e37 (j := (0 : Int32)) (v := p0) (by decide) rfl (g := (mkF m 168 #[.val (.int p0), .val (.int p1), .val (.int p2), .val (.long q3), .second, .val (.int p4), .val (.int p5), .val (.ref b11), .val (.ref b15), .val (.ref b19), .val (.int (0 : Int32)), .val (.int (1 : Int32)), .val (.ref b34), .val (.int (1 : Int32)), .val (.ref b11), .unset] [(.int (0 : Int32)), (.ref b11)])) rfl rfl (hb hby at_168)) ?_
      refine Go.st (S' := T37.setTop (mkF m 171 #[.val (.int p0), .val (.int p1), .val (.int p2), .val (.long q3), .second, .val (.int p4), .val (.int p5), .val (.ref b11), .val (.ref b15), .val (.ref b19), .val (.int (0 : Int32)), .val (.int (1 : Int32)), .val (.ref b34), .val (.int (1 : Int32)), .val (.ref b11), .unset] [(.ref b19), (.int p0)])) (fun _ k_ => XS.aload X37.here hx rfl (hb hby at_169) rfl rfl k_) ?_
      refine Go.st (S' := T37.setTop (mkF m 172 #[.val (.int p0), .val (.int p1), .val (.int p2), .val (.long q3), .second, .val (.int p4), .val (.int p5), .val (.ref b11), .val (.ref b15), .val (.ref b19), .val (.int (0 : Int32)), .val (.int (1 : Int32)), .val (.ref b34), .val (.int (1 : Int32)), .val (.ref b11), .unset] [(.int (0 : Int32)), (.ref b19), (.int p0)])) (fun _ k_ => XS.iconst X37.here hx rfl (hb hby at_171) k_) ?_
      refine Go.st (S' := T37.setTop (mkF m 173 #[.val (.int p0), .val (.int p1), .val (.int p2), .val (.long q3), .second, .val (.int p4), .val (.int p5), .val (.ref b11), .val (.ref b15), .val (.ref b19), .val (.int (0 : Int32)), .val (.int (1 : Int32)), .val (.ref b34), .val (.int (1 : Int32)), .val (.ref b11), .unset] [(.int nq0), (.int p0)])) (A_b19.load X37 hx hZ e37 (j := (0 : Int32)) (v := nq0) (by decide) rfl (g := (mkF m 172 #[.val (.int p0), .val (.int p1), .val (.int p2), .val (.long q3), .second, .val (.int p4), .val (.int p5), .val (.ref b11), .val (.ref b15), .val (.ref b19), .val (.int (0 : Int32)), .val (.int (1 : Int32)), .val (.ref b34), .val (.int (1 : Int32)), .val (.ref b11), .unset] [(.int (0 : Int32)), (.ref b19), (.int p0)])) rfl rfl (hb hby at_172)) ?_
      obtain ⟨v38, T38, h38, L38, X38, e38, hQ38, st38⟩ := callSt X37 hx hZ hown (w80 hw) (w81 hw) (w82 hw) (w83 hw) (by decide) (W := 0) (argsL := [(.int p0), (.int nq0)]) (rest := []) e37 (rm_fits l Z a0 hw p0 nq0 h37 n0 Z0) (by decide) (by decide) pd7 rfl (g := (mkF m 173 #[.val (.int p0), .val (.int p1), .val (.int p2), .val (.long q3), .second, .val (.int p4), .val (.int p5), .val (.ref b11), .val (.ref b15), .val (.ref b19), .val (.int (0 : Int32)), .val (.int (1 : Int32)), .val (.ref b34), .val (.int (1 : Int32)), .val (.ref b11), .unset] [(.int nq0), (.int p0)])) rfl (by rw [hml]; rfl) rfl (by show 2 * 0 + _ ≤ _; exact Nat.le_of_eq rfl) (hb hby at_173) (by decide) (by decide)
      obtain ⟨rfl, Nq38, hh38⟩ := hQ38
      rw [hh38] at e38
      have N38 := Fr.app N37 Nq38
      refine Go.st (S' := T38.setTop (mkF m 176 #[.val (.int p0), .val (.int p1), .val (.int p2), .val (.long q3), .second, .val (.int p4), .val (.int p5), .val (.ref b11), .val (.ref b15), .val (.ref b19), .val (.int (0 : Int32)), .val (.int (1 : Int32)), .val (.ref b34), .val (.int (1 : Int32)), .val (.ref b11), .unset] [(.int (if (p0 = 0 ∨ ¬ nq0 < p0) then (1 : Int32) else (0 : Int32)))])) (st38) ?_
      by_cases hc176 : (p0 = 0 ∨ ¬ nq0 < p0)
      · skip
        refine Go.st (S' := T38.setTop (mkF m 179 #[.val (.int p0), .val (.int p1), .val (.int p2), .val (.long q3), .second, .val (.int p4), .val (.int p5), .val (.ref b11), .val (.ref b15), .val (.ref b19), .val (.int (0 : Int32)), .val (.int (1 : Int32)), .val (.ref b34), .val (.int (1 : Int32)), .val (.ref b11), .unset] [])) (fun _ k_ => XS.ifNo X38.here hx rfl (hb hby at_176) rfl ((if0 _ _).trans (feq (own_if1 hc176)).1) k_) ?_
        refine Go.st (S' := T38.setTop (mkF m 181 #[.val (.int p0), .val (.int p1), .val (.int p2), .val (.long q3), .second, .val (.int p4), .val (.int p5), .val (.ref b11), .val (.ref b15), .val (.ref b19), .val (.int (0 : Int32)), .val (.int (1 : Int32)), .val (.ref b34), .val (.int (1 : Int32)), .val (.ref b11), .unset] [(.ref b11)])) (fun _ k_ => XS.aload X38.here hx rfl (hb hby at_179) rfl rfl k_) ?_
        refine Go.st (S' := T38.setTop (mkF m 182 #[.val (.int p0), .val (.int p1), .val (.int p2), .val (.long q3), .second, .val (.int p4), .val (.int p5), .val (.ref b11), .val (.ref b15), .val (.ref b19), .val (.int (0 : Int32)), .val (.int (1 : Int32)), .val (.ref b34), .val (.int (1 : Int32)), .val (.ref b11), .unset] [(.int (1 : Int32)), (.ref b11)])) (fun _ k_ => XS.iconst X38.here hx rfl (hb hby at_181) k_) ?_
        refine Go.st (S' := T38.setTop (mkF m 183 #[.val (.int p0), .val (.int p1), .val (.int p2), .val (.long q3), .second, .val (.int p4), .val (.int p5), .val (.ref b11), .val (.ref b15), .val (.ref b19), .val (.int (0 : Int32)), .val (.int (1 : Int32)), .val (.ref b34), .val (.int (1 : Int32)), .val (.ref b11), .unset] [(.int p1)])) (A_b11.load X38 hx hZ e38 (j := (1 : Int32)) (v := p1) (by decide) rfl (g := (mkF m 182 #[.val (.int p0), .val (.int p1), .val (.int p2), .val (.long q3), .second, .val (.int p4), .val (.int p5), .val (.ref b11), .val (.ref b15), .val (.ref b19), .val (.int (0 : Int32)), .val (.int (1 : Int32)), .val (.ref b34), .val (.int (1 : Int32)), .val (.ref b11), .unset] [(.int (1 : Int32)), (.ref b11)])) rfl rfl (hb hby at_182)) ?_
        refine Go.st (S' := T38.setTop (mkF m 185 #[.val (.int p0), .val (.int p1), .val (.int p2), .val (.long q3), .second, .val (.int p4), .val (.int p5), .val (.ref b11), .val (.ref b15), .val (.ref b19), .val (.int (0 : Int32)), .val (.int (1 : Int32)), .val (.ref b34), .val (.int (1 : Int32)), .val (.ref b11), .unset] [(.ref b19), (.int p1)])) (fun _ k_ => XS.aload X38.here hx rfl (hb hby at_183) rfl rfl k_) ?_
        refine Go.st (S' := T38.setTop (mkF m 186 #[.val (.int p0), .val (.int p1), .val (.int p2), .val (.long q3), .second, .val (.int p4), .val (.int p5), .val (.ref b11), .val (.ref b15), .val (.ref b19), .val (.int (0 : Int32)), .val (.int (1 : Int32)), .val (.ref b34), .val (.int (1 : Int32)), .val (.ref b11), .unset] [(.int (1 : Int32)), (.ref b19), (.int p1)])) (fun _ k_ => XS.iconst X38.here hx rfl (hb hby at_185) k_) ?_
        refine Go.st (S' := T38.setTop (mkF m 187 #[.val (.int p0), .val (.int p1), .val (.int p2), .val (.long q3), .second, .val (.int p4), .val (.int p5), .val (.ref b11), .val (.ref b15), .val (.ref b19), .val (.int (0 : Int32)), .val (.int (1 : Int32)), .val (.ref b34), .val (.int (1 : Int32)), .val (.ref b11), .unset] [(.int nq1), (.int p1)])) (A_b19.load X38 hx hZ e38 (j := (1 : Int32)) (v := nq1) (by decide) rfl (g := (mkF m 186 #[.val (.int p0), .val (.int p1), .val (.int p2), .val (.long q3), .second, .val (.int p4), .val (.int p5), .val (.ref b11), .val (.ref b15), .val (.ref b19), .val (.int (0 : Int32)), .val (.int (1 : Int32)), .val (.ref b34), .val (.int (1 : Int32)), .val (.ref b11), .unset] [(.int (1 : Int32)), (.ref b19), (.int p1)])) rfl rfl (hb hby at_186)) ?_
        obtain ⟨v39, T39, h39, L39, X39, e39, hQ39, st39⟩ := callSt X38 hx hZ hown (w80 hw) (w81 hw) (w82 hw) (w83 hw) (by decide) (W := 0) (argsL := [(.int p1), (.int nq1)]) (rest := []) e38 (rm_fits l Z a0 hw p1 nq1 h37 n0 Z0) (by decide) (by decide) pd7 rfl (g := (mkF m 187 #[.val (.int p0), .val (.int p1), .val (.int p2), .val (.long q3), .second, .val (.int p4), .val (.int p5), .val (.ref b11), .val (.ref b15), .val (.ref b19), .val (.int (0 : Int32)), .val (.int (1 : Int32)), .val (.ref b34), .val (.int (1 : Int32)), .val (.ref b11), .unset] [(.int nq1), (.int p1)])) rfl (by rw [hml]; rfl) rfl (by show 2 * 0 + _ ≤ _; exact Nat.le_of_eq rfl) (hb hby at_187) (by decide) (by decide)
        obtain ⟨rfl, Nq39, hh39⟩ := hQ39
        rw [hh39] at e39
        have N39 := Fr.app N38 Nq39
        refine Go.st (S' := T39.setTop (mkF m 190 #[.val (.int p0), .val (.int p1), .val (.int p2), .val (.long q3), .second, .val (.int p4), .val (.int p5), .val (.ref b11), .val (.ref b15), .val (.ref b19), .val (.int (0 : Int32)), .val (.int (1 : Int32)), .val (.ref b34), .val (.int (1 : Int32)), .val (.ref b11), .unset] [(.int (if (p1 = 0 ∨ ¬ nq1 < p1) then (1 : Int32) else (0 : Int32)))])) (st39) ?_
        by_cases hc190 : (p1 = 0 ∨ ¬ nq1 < p1)
        · skip
          refine Go.st (S' := T39.setTop (mkF m 193 #[.val (.int p0), .val (.int p1), .val (.int p2), .val (.long q3), .second, .val (.int p4), .val (.int p5), .val (.ref b11), .val (.ref b15), .val (.ref b19), .val (.int (0 : Int32)), .val (.int (1 : Int32)), .val (.ref b34), .val (.int (1 : Int32)), .val (.ref b11), .unset] [])) (fun _ k_ => XS.ifNo X39.here hx rfl (hb hby at_190) rfl ((if0 _ _).trans (feq (own_if1 hc190)).1) k_) ?_
          refine Go.st (S' := T39.setTop (mkF m 195 #[.val (.int p0), .val (.int p1), .val (.int p2), .val (.long q3), .second, .val (.int p4), .val (.int p5), .val (.ref b11), .val (.ref b15), .val (.ref b19), .val (.int (0 : Int32)), .val (.int (1 : Int32)), .val (.ref b34), .val (.int (1 : Int32)), .val (.ref b11), .unset] [(.ref b11)])) (fun _ k_ => XS.aload X39.here hx rfl (hb hby at_193) rfl rfl k_) ?_
          refine Go.st (S' := T39.setTop (mkF m 196 #[.val (.int p0), .val (.int p1), .val (.int p2), .val (.long q3), .second, .val (.int p4), .val (.int p5), .val (.ref b11), .val (.ref b15), .val (.ref b19), .val (.int (0 : Int32)), .val (.int (1 : Int32)), .val (.ref b34), .val (.int (1 : Int32)), .val (.ref b11), .unset] [(.int (2 : Int32)), (.ref b11)])) (fun _ k_ => XS.iconst X39.here hx rfl (hb hby at_195) k_) ?_
          refine Go.st (S' := T39.setTop (mkF m 197 #[.val (.int p0), .val (.int p1), .val (.int p2), .val (.long q3), .second, .val (.int p4), .val (.int p5), .val (.ref b11), .val (.ref b15), .val (.ref b19), .val (.int (0 : Int32)), .val (.int (1 : Int32)), .val (.ref b34), .val (.int (1 : Int32)), .val (.ref b11), .unset] [(.int p2)])) (A_b11.load X39 hx hZ e39 (j := (2 : Int32)) (v := p2) (by decide) rfl (g := (mkF m 196 #[.val (.int p0), .val (.int p1), .val (.int p2), .val (.long q3), .second, .val (.int p4), .val (.int p5), .val (.ref b11), .val (.ref b15), .val (.ref b19), .val (.int (0 : Int32)), .val (.int (1 : Int32)), .val (.ref b34), .val (.int (1 : Int32)), .val (.ref b11), .unset] [(.int (2 : Int32)), (.ref b11)])) rfl rfl (hb hby at_196)) ?_
          refine Go.st (S' := T39.setTop (mkF m 199 #[.val (.int p0), .val (.int p1), .val (.int p2), .val (.long q3), .second, .val (.int p4), .val (.int p5), .val (.ref b11), .val (.ref b15), .val (.ref b19), .val (.int (0 : Int32)), .val (.int (1 : Int32)), .val (.ref b34), .val (.int (1 : Int32)), .val (.ref b11), .unset] [(.ref b19), (.int p2)])) (fun _ k_ => XS.aload X39.here hx rfl (hb hby at_197) rfl rfl k_) ?_
          refine Go.st (S' := T39.setTop (mkF m 200 #[.val (.int p0), .val (.int p1), .val (.int p2), .val (.long q3), .second, .val (.int p4), .val (.int p5), .val (.ref b11), .val (.ref b15), .val (.ref b19), .val (.int (0 : Int32)), .val (.int (1 : Int32)), .val (.ref b34), .val (.int (1 : Int32)), .val (.ref b11), .unset] [(.int (2 : Int32)), (.ref b19), (.int p2)])) (fun _ k_ => XS.iconst X39.here hx rfl (hb hby at_199) k_) ?_
          refine Go.st (S' := T39.setTop (mkF m 201 #[.val (.int p0), .val (.int p1), .val (.int p2), .val (.long q3), .second, .val (.int p4), .val (.int p5), .val (.ref b11), .val (.ref b15), .val (.ref b19), .val (.int (0 : Int32)), .val (.int (1 : Int32)), .val (.ref b34), .val (.int (1 : Int32)), .val (.ref b11), .unset] [(.int p4), (.int p2)])) (A_b19.load X39 hx hZ e39 (j := (2 : Int32)) (v := p4) (by decide) rfl (g := (mkF m 200 #[.val (.int p0), .val (.int p1), .val (.int p2), .val (.long q3), .second, .val (.int p4), .val (.int p5), .val (.ref b11), .val (.ref b15), .val (.ref b19), .val (.int (0 : Int32)), .val (.int (1 : Int32)), .val (.ref b34), .val (.int (1 : Int32)), .val (.ref b11), .unset] [(.int (2 : Int32)), (.ref b19), (.int p2)])) rfl rfl (hb hby at_200)) ?_
          obtain ⟨v40, T40, h40, L40, X40, e40, hQ40, st40⟩ := callSt X39 hx hZ hown (w80 hw) (w81 hw) (w82 hw) (w83 hw) (by decide) (W := 0) (argsL := [(.int p2), (.int p4)]) (rest := []) e39 (rm_fits l Z a0 hw p2 p4 h37 n0 Z0) (by decide) (by decide) pd7 rfl (g := (mkF m 201 #[.val (.int p0), .val (.int p1), .val (.int p2), .val (.long q3), .second, .val (.int p4), .val (.int p5), .val (.ref b11), .val (.ref b15), .val (.ref b19), .val (.int (0 : Int32)), .val (.int (1 : Int32)), .val (.ref b34), .val (.int (1 : Int32)), .val (.ref b11), .unset] [(.int p4), (.int p2)])) rfl (by rw [hml]; rfl) rfl (by show 2 * 0 + _ ≤ _; exact Nat.le_of_eq rfl) (hb hby at_201) (by decide) (by decide)
          obtain ⟨rfl, Nq40, hh40⟩ := hQ40
          rw [hh40] at e40
          have N40 := Fr.app N39 Nq40
          refine Go.st (S' := T40.setTop (mkF m 204 #[.val (.int p0), .val (.int p1), .val (.int p2), .val (.long q3), .second, .val (.int p4), .val (.int p5), .val (.ref b11), .val (.ref b15), .val (.ref b19), .val (.int (0 : Int32)), .val (.int (1 : Int32)), .val (.ref b34), .val (.int (1 : Int32)), .val (.ref b11), .unset] [(.int (if (p2 = 0 ∨ ¬ p4 < p2) then (1 : Int32) else (0 : Int32)))])) (st40) ?_
          by_cases hc204 : (p2 = 0 ∨ ¬ p4 < p2)
          · skip
            refine Go.st (S' := T40.setTop (mkF m 207 #[.val (.int p0), .val (.int p1), .val (.int p2), .val (.long q3), .second, .val (.int p4), .val (.int p5), .val (.ref b11), .val (.ref b15), .val (.ref b19), .val (.int (0 : Int32)), .val (.int (1 : Int32)), .val (.ref b34), .val (.int (1 : Int32)), .val (.ref b11), .unset] [])) (fun _ k_ => XS.ifNo X40.here hx rfl (hb hby at_204) rfl ((if0 _ _).trans (feq (own_if1 hc204)).1) k_) ?_
            refine Go.st (S' := T40.setTop (mkF m 208 #[.val (.int p0), .val (.int p1), .val (.int p2), .val (.long q3), .second, .val (.int p4), .val (.int p5), .val (.ref b11), .val (.ref b15), .val (.ref b19), .val (.int (0 : Int32)), .val (.int (1 : Int32)), .val (.ref b34), .val (.int (1 : Int32)), .val (.ref b11), .unset] [(.int (1 : Int32))])) (fun _ k_ => XS.iconst X40.here hx rfl (hb hby at_207) k_) ?_
            refine Go.st (S' := T40.setTop (mkF m 212 #[.val (.int p0), .val (.int p1), .val (.int p2), .val (.long q3), .second, .val (.int p4), .val (.int p5), .val (.ref b11), .val (.ref b15), .val (.ref b19), .val (.int (0 : Int32)), .val (.int (1 : Int32)), .val (.ref b34), .val (.int (1 : Int32)), .val (.ref b11), .unset] [(.int (1 : Int32))])) (fun _ k_ => XS.goto X40.here hx rfl (pc0 := 208) (pc' := 212) rfl (hb hby at_208) (by decide) (by decide) k_) ?_
            refine Go.st (S' := T40.setTop (mkF m 214 #[.val (.int p0), .val (.int p1), .val (.int p2), .val (.long q3), .second, .val (.int p4), .val (.int p5), .val (.ref b11), .val (.ref b15), .val (.ref b19), .val (.int (0 : Int32)), .val (.int (1 : Int32)), .val (.ref b34), .val (.int (1 : Int32)), .val (.ref b11), .val (.int (1 : Int32))] [])) (fun _ k_ => XS.istore X40.here hx rfl (hb hby at_212) rfl (l' := #[.val (.int p0), .val (.int p1), .val (.int p2), .val (.long q3), .second, .val (.int p4), .val (.int p5), .val (.ref b11), .val (.ref b15), .val (.ref b19), .val (.int (0 : Int32)), .val (.int (1 : Int32)), .val (.ref b34), .val (.int (1 : Int32)), .val (.ref b11), .val (.int (1 : Int32))]) rfl k_) ?_
            refine Go.st (S' := T40.setTop (mkF m 216 #[.val (.int p0), .val (.int p1), .val (.int p2), .val (.long q3), .second, .val (.int p4), .val (.int p5), .val (.ref b11), .val (.ref b15), .val (.ref b19), .val (.int (0 : Int32)), .val (.int (1 : Int32)), .val (.ref b34), .val (.int (1 : Int32)), .val (.ref b11), .val (.int (1 : Int32))] [(.ref b34)])) (fun _ k_ => XS.aload X40.here hx rfl (hb hby at_214) rfl rfl k_) ?_
            refine Go.st (S' := T40.setTop (mkF m 218 #[.val (.int p0), .val (.int p1), .val (.int p2), .val (.long q3), .second, .val (.int p4), .val (.int p5), .val (.ref b11), .val (.ref b15), .val (.ref b19), .val (.int (0 : Int32)), .val (.int (1 : Int32)), .val (.ref b34), .val (.int (1 : Int32)), .val (.ref b11), .val (.int (1 : Int32))] [(.int (1 : Int32)), (.ref b34)])) (fun _ k_ => XS.iload X40.here hx rfl (hb hby at_216) rfl k_) ?_
            refine Go.st (S' := T40.setTop (mkF m 220 #[.val (.int p0), .val (.int p1), .val (.int p2), .val (.long q3), .second, .val (.int p4), .val (.int p5), .val (.ref b11), .val (.ref b15), .val (.ref b19), .val (.int (0 : Int32)), .val (.int (1 : Int32)), .val (.ref b34), .val (.int (1 : Int32)), .val (.ref b11), .val (.int (1 : Int32))] [(.ref b19), (.int (1 : Int32)), (.ref b34)])) (fun _ k_ => XS.aload X40.here hx rfl (hb hby at_218) rfl rfl k_) ?_
            obtain ⟨v41, T41, h41, L41, X41, e41, hQ41, st41⟩ := callVi X40 hx hZ hown (w84 hw) (w85 hw) (w87 hw) (w86 hw) (w3 hw) (w88 hw) (by decide) (W := 0) (argsL := [(.int (1 : Int32)), (.ref b19)]) (rest := []) e40 HM.1 (mt_most l Z a0 hw b34 pr35 prb35 ss35 ssb35 hs35 hsb35 sl35 (([] ++ own_flat (own_ps (p2) (p0) (nt2))) ++ own_flat (own_ps (p0) (p1) (p2))) (([0] ++ [([] ++ own_flat (own_ps (p2) (p0) (nt2))).length.toInt32]) ++ [(([] ++ own_flat (own_ps (p2) (p0) (nt2))) ++ own_flat (own_ps (p0) (p1) (p2))).length.toInt32]) (([] ++ [hv36]) ++ [hv37]) zt37 1 (([] ++ own_flat (own_ps (p2) (p0) (nt2))) ++ own_flat (own_ps (p0) (p1) (p2))).length ([] ++ own_flat (own_ps (p2) (p0) (nt2))) [] (own_ps (p0) (p1) (p2)) b19 (nq0) (nq1) (p4) h37 n0 Z0 HM hd (by simp) rfl rfl rfl (by decide) A_b19 (own_psin _ _ _)) (by decide) (by decide) pd8 rfl (g := (mkF m 220 #[.val (.int p0), .val (.int p1), .val (.int p2), .val (.long q3), .second, .val (.int p4), .val (.int p5), .val (.ref b11), .val (.ref b15), .val (.ref b19), .val (.int (0 : Int32)), .val (.int (1 : Int32)), .val (.ref b34), .val (.int (1 : Int32)), .val (.ref b11), .val (.int (1 : Int32))] [(.ref b19), (.int (1 : Int32)), (.ref b34)])) rfl (by rw [hml]; rfl) rfl (by show 2 * 0 + _ ≤ _; exact Nat.le_of_eq rfl) (hb hby at_220) (by decide) (by decide)
            obtain ⟨rfl, Nq41, hh41⟩ := hQ41
            rw [hh41] at e41
            have N41 := Fr.app N40 Nq41
            refine Go.st (S' := T41.setTop (mkF m 223 #[.val (.int p0), .val (.int p1), .val (.int p2), .val (.long q3), .second, .val (.int p4), .val (.int p5), .val (.ref b11), .val (.ref b15), .val (.ref b19), .val (.int (0 : Int32)), .val (.int (1 : Int32)), .val (.ref b34), .val (.int (1 : Int32)), .val (.ref b11), .val (.int (1 : Int32))] [(.int (if own_all (own_ps (p0) (p1) (p2)) [nq0, nq1, p4] = true then (1 : Int32) else (0 : Int32)))])) (st41) ?_
            refine Go.st (S' := T41.setTop (mkF m 225 #[.val (.int p0), .val (.int p1), .val (.int p2), .val (.long q3), .second, .val (.int p4), .val (.int p5), .val (.ref b11), .val (.ref b15), .val (.ref b19), .val (.int (0 : Int32)), .val (.int (1 : Int32)), .val (.ref b34), .val (.int (1 : Int32)), .val (.ref b11), .val (.int (1 : Int32))] [(.int (1 : Int32)), (.int (if own_all (own_ps (p0) (p1) (p2)) [nq0, nq1, p4] = true then (1 : Int32) else (0 : Int32)))])) (fun _ k_ => XS.iload X41.here hx rfl (hb hby at_223) rfl k_) ?_
            refine Go.st (S' := T41.setTop (mkF m 228 #[.val (.int p0), .val (.int p1), .val (.int p2), .val (.long q3), .second, .val (.int p4), .val (.int p5), .val (.ref b11), .val (.ref b15), .val (.ref b19), .val (.int (0 : Int32)), .val (.int (1 : Int32)), .val (.ref b34), .val (.int (1 : Int32)), .val (.ref b11), .val (.int (1 : Int32))] [])) (fun _ k_ => XS.icmpNo X41.here hx rfl (hb hby at_225) rfl (teq (if_pos ((own_allf _ _ _ _ _ _).mpr ⟨hc176, hc190, hc204⟩))).2 k_) ?_
            refine Go.st (S' := T41.setTop (mkF m 229 #[.val (.int p0), .val (.int p1), .val (.int p2), .val (.long q3), .second, .val (.int p4), .val (.int p5), .val (.ref b11), .val (.ref b15), .val (.ref b19), .val (.int (0 : Int32)), .val (.int (1 : Int32)), .val (.ref b34), .val (.int (1 : Int32)), .val (.ref b11), .val (.int (1 : Int32))] [(.int (1 : Int32))])) (fun _ k_ => XS.iconst X41.here hx rfl (hb hby at_228) k_) ?_
            refine Go.st (S' := T41.setTop (mkF m 233 #[.val (.int p0), .val (.int p1), .val (.int p2), .val (.long q3), .second, .val (.int p4), .val (.int p5), .val (.ref b11), .val (.ref b15), .val (.ref b19), .val (.int (0 : Int32)), .val (.int (1 : Int32)), .val (.ref b34), .val (.int (1 : Int32)), .val (.ref b11), .val (.int (1 : Int32))] [(.int (1 : Int32))])) (fun _ k_ => XS.goto X41.here hx rfl (pc0 := 229) (pc' := 233) rfl (hb hby at_229) (by decide) (by decide) k_) ?_
            exact Go.retN X41 hx (t := .boolean) hret (by simp) hlk (hb hby at_233) (by decide) (by decide) ⟨rfl, N41⟩
          · skip
            refine Go.st (S' := T40.setTop (mkF m 211 #[.val (.int p0), .val (.int p1), .val (.int p2), .val (.long q3), .second, .val (.int p4), .val (.int p5), .val (.ref b11), .val (.ref b15), .val (.ref b19), .val (.int (0 : Int32)), .val (.int (1 : Int32)), .val (.ref b34), .val (.int (1 : Int32)), .val (.ref b11), .unset] [])) (fun _ k_ => XS.ifYes X40.here hx rfl (pc0 := 204) (pc' := 211) rfl (hb hby at_204) rfl ((if0 _ _).trans (teq (own_if0 hc204)).1) (by decide) (by decide) k_) ?_
            refine Go.st (S' := T40.setTop (mkF m 212 #[.val (.int p0), .val (.int p1), .val (.int p2), .val (.long q3), .second, .val (.int p4), .val (.int p5), .val (.ref b11), .val (.ref b15), .val (.ref b19), .val (.int (0 : Int32)), .val (.int (1 : Int32)), .val (.ref b34), .val (.int (1 : Int32)), .val (.ref b11), .unset] [(.int (0 : Int32))])) (fun _ k_ => XS.iconst X40.here hx rfl (hb hby at_211) k_) ?_
            refine Go.st (S' := T40.setTop (mkF m 214 #[.val (.int p0), .val (.int p1), .val (.int p2), .val (.long q3), .second, .val (.int p4), .val (.int p5), .val (.ref b11), .val (.ref b15), .val (.ref b19), .val (.int (0 : Int32)), .val (.int (1 : Int32)), .val (.ref b34), .val (.int (1 : Int32)), .val (.ref b11), .val (.int (0 : Int32))] [])) (fun _ k_ => XS.istore X40.here hx rfl (hb hby at_212) rfl (l' := #[.val (.int p0), .val (.int p1), .val (.int p2), .val (.long q3), .second, .val (.int p4), .val (.int p5), .val (.ref b11), .val (.ref b15), .val (.ref b19), .val (.int (0 : Int32)), .val (.int (1 : Int32)), .val (.ref b34), .val (.int (1 : Int32)), .val (.ref b11), .val (.int (0 : Int32))]) rfl k_) ?_
            refine Go.st (S' := T40.setTop (mkF m 216 #[.val (.int p0), .val (.int p1), .val (.int p2), .val (.long q3), .second, .val (.int p4), .val (.int p5), .val (.ref b11), .val (.ref b15), .val (.ref b19), .val (.int (0 : Int32)), .val (.int (1 : Int32)), .val (.ref b34), .val (.int (1 : Int32)), .val (.ref b11), .val (.int (0 : Int32))] [(.ref b34)])) (fun _ k_ => XS.aload X40.here hx rfl (hb hby at_214) rfl rfl k_) ?_
            refine Go.st (S' := T40.setTop (mkF m 218 #[.val (.int p0), .val (.int p1), .val (.int p2), .val (.long q3), .second, .val (.int p4), .val (.int p5), .val (.ref b11), .val (.ref b15), .val (.ref b19), .val (.int (0 : Int32)), .val (.int (1 : Int32)), .val (.ref b34), .val (.int (1 : Int32)), .val (.ref b11), .val (.int (0 : Int32))] [(.int (1 : Int32)), (.ref b34)])) (fun _ k_ => XS.iload X40.here hx rfl (hb hby at_216) rfl k_) ?_
            refine Go.st (S' := T40.setTop (mkF m 220 #[.val (.int p0), .val (.int p1), .val (.int p2), .val (.long q3), .second, .val (.int p4), .val (.int p5), .val (.ref b11), .val (.ref b15), .val (.ref b19), .val (.int (0 : Int32)), .val (.int (1 : Int32)), .val (.ref b34), .val (.int (1 : Int32)), .val (.ref b11), .val (.int (0 : Int32))] [(.ref b19), (.int (1 : Int32)), (.ref b34)])) (fun _ k_ => XS.aload X40.here hx rfl (hb hby at_218) rfl rfl k_) ?_
            obtain ⟨v42, T42, h42, L42, X42, e42, hQ42, st42⟩ := callVi X40 hx hZ hown (w84 hw) (w85 hw) (w87 hw) (w86 hw) (w3 hw) (w88 hw) (by decide) (W := 0) (argsL := [(.int (1 : Int32)), (.ref b19)]) (rest := []) e40 HM.1 (mt_most l Z a0 hw b34 pr35 prb35 ss35 ssb35 hs35 hsb35 sl35 (([] ++ own_flat (own_ps (p2) (p0) (nt2))) ++ own_flat (own_ps (p0) (p1) (p2))) (([0] ++ [([] ++ own_flat (own_ps (p2) (p0) (nt2))).length.toInt32]) ++ [(([] ++ own_flat (own_ps (p2) (p0) (nt2))) ++ own_flat (own_ps (p0) (p1) (p2))).length.toInt32]) (([] ++ [hv36]) ++ [hv37]) zt37 1 (([] ++ own_flat (own_ps (p2) (p0) (nt2))) ++ own_flat (own_ps (p0) (p1) (p2))).length ([] ++ own_flat (own_ps (p2) (p0) (nt2))) [] (own_ps (p0) (p1) (p2)) b19 (nq0) (nq1) (p4) h37 n0 Z0 HM hd (by simp) rfl rfl rfl (by decide) A_b19 (own_psin _ _ _)) (by decide) (by decide) pd8 rfl (g := (mkF m 220 #[.val (.int p0), .val (.int p1), .val (.int p2), .val (.long q3), .second, .val (.int p4), .val (.int p5), .val (.ref b11), .val (.ref b15), .val (.ref b19), .val (.int (0 : Int32)), .val (.int (1 : Int32)), .val (.ref b34), .val (.int (1 : Int32)), .val (.ref b11), .val (.int (0 : Int32))] [(.ref b19), (.int (1 : Int32)), (.ref b34)])) rfl (by rw [hml]; rfl) rfl (by show 2 * 0 + _ ≤ _; exact Nat.le_of_eq rfl) (hb hby at_220) (by decide) (by decide)
            obtain ⟨rfl, Nq42, hh42⟩ := hQ42
            rw [hh42] at e42
            have N42 := Fr.app N40 Nq42
            refine Go.st (S' := T42.setTop (mkF m 223 #[.val (.int p0), .val (.int p1), .val (.int p2), .val (.long q3), .second, .val (.int p4), .val (.int p5), .val (.ref b11), .val (.ref b15), .val (.ref b19), .val (.int (0 : Int32)), .val (.int (1 : Int32)), .val (.ref b34), .val (.int (1 : Int32)), .val (.ref b11), .val (.int (0 : Int32))] [(.int (if own_all (own_ps (p0) (p1) (p2)) [nq0, nq1, p4] = true then (1 : Int32) else (0 : Int32)))])) (st42) ?_
            refine Go.st (S' := T42.setTop (mkF m 225 #[.val (.int p0), .val (.int p1), .val (.int p2), .val (.long q3), .second, .val (.int p4), .val (.int p5), .val (.ref b11), .val (.ref b15), .val (.ref b19), .val (.int (0 : Int32)), .val (.int (1 : Int32)), .val (.ref b34), .val (.int (1 : Int32)), .val (.ref b11), .val (.int (0 : Int32))] [(.int (0 : Int32)), (.int (if own_all (own_ps (p0) (p1) (p2)) [nq0, nq1, p4] = true then (1 : Int32) else (0 : Int32)))])) (fun _ k_ => XS.iload X42.here hx rfl (hb hby at_223) rfl k_) ?_
            refine Go.st (S' := T42.setTop (mkF m 228 #[.val (.int p0), .val (.int p1), .val (.int p2), .val (.long q3), .second, .val (.int p4), .val (.int p5), .val (.ref b11), .val (.ref b15), .val (.ref b19), .val (.int (0 : Int32)), .val (.int (1 : Int32)), .val (.ref b34), .val (.int (1 : Int32)), .val (.ref b11), .val (.int (0 : Int32))] [])) (fun _ k_ => XS.icmpNo X42.here hx rfl (hb hby at_225) rfl (teq (if_neg (fun z => hc204 ((own_allf _ _ _ _ _ _).mp z).2.2))).2 k_) ?_
            refine Go.st (S' := T42.setTop (mkF m 229 #[.val (.int p0), .val (.int p1), .val (.int p2), .val (.long q3), .second, .val (.int p4), .val (.int p5), .val (.ref b11), .val (.ref b15), .val (.ref b19), .val (.int (0 : Int32)), .val (.int (1 : Int32)), .val (.ref b34), .val (.int (1 : Int32)), .val (.ref b11), .val (.int (0 : Int32))] [(.int (1 : Int32))])) (fun _ k_ => XS.iconst X42.here hx rfl (hb hby at_228) k_) ?_
            refine Go.st (S' := T42.setTop (mkF m 233 #[.val (.int p0), .val (.int p1), .val (.int p2), .val (.long q3), .second, .val (.int p4), .val (.int p5), .val (.ref b11), .val (.ref b15), .val (.ref b19), .val (.int (0 : Int32)), .val (.int (1 : Int32)), .val (.ref b34), .val (.int (1 : Int32)), .val (.ref b11), .val (.int (0 : Int32))] [(.int (1 : Int32))])) (fun _ k_ => XS.goto X42.here hx rfl (pc0 := 229) (pc' := 233) rfl (hb hby at_229) (by decide) (by decide) k_) ?_
            exact Go.retN X42 hx (t := .boolean) hret (by simp) hlk (hb hby at_233) (by decide) (by decide) ⟨rfl, N42⟩
        · skip
          refine Go.st (S' := T39.setTop (mkF m 211 #[.val (.int p0), .val (.int p1), .val (.int p2), .val (.long q3), .second, .val (.int p4), .val (.int p5), .val (.ref b11), .val (.ref b15), .val (.ref b19), .val (.int (0 : Int32)), .val (.int (1 : Int32)), .val (.ref b34), .val (.int (1 : Int32)), .val (.ref b11), .unset] [])) (fun _ k_ => XS.ifYes X39.here hx rfl (pc0 := 190) (pc' := 211) rfl (hb hby at_190) rfl ((if0 _ _).trans (teq (own_if0 hc190)).1) (by decide) (by decide) k_) ?_
          refine Go.st (S' := T39.setTop (mkF m 212 #[.val (.int p0), .val (.int p1), .val (.int p2), .val (.long q3), .second, .val (.int p4), .val (.int p5), .val (.ref b11), .val (.ref b15), .val (.ref b19), .val (.int (0 : Int32)), .val (.int (1 : Int32)), .val (.ref b34), .val (.int (1 : Int32)), .val (.ref b11), .unset] [(.int (0 : Int32))])) (fun _ k_ => XS.iconst X39.here hx rfl (hb hby at_211) k_) ?_
          refine Go.st (S' := T39.setTop (mkF m 214 #[.val (.int p0), .val (.int p1), .val (.int p2), .val (.long q3), .second, .val (.int p4), .val (.int p5), .val (.ref b11), .val (.ref b15), .val (.ref b19), .val (.int (0 : Int32)), .val (.int (1 : Int32)), .val (.ref b34), .val (.int (1 : Int32)), .val (.ref b11), .val (.int (0 : Int32))] [])) (fun _ k_ => XS.istore X39.here hx rfl (hb hby at_212) rfl (l' := #[.val (.int p0), .val (.int p1), .val (.int p2), .val (.long q3), .second, .val (.int p4), .val (.int p5), .val (.ref b11), .val (.ref b15), .val (.ref b19), .val (.int (0 : Int32)), .val (.int (1 : Int32)), .val (.ref b34), .val (.int (1 : Int32)), .val (.ref b11), .val (.int (0 : Int32))]) rfl k_) ?_
          refine Go.st (S' := T39.setTop (mkF m 216 #[.val (.int p0), .val (.int p1), .val (.int p2), .val (.long q3), .second, .val (.int p4), .val (.int p5), .val (.ref b11), .val (.ref b15), .val (.ref b19), .val (.int (0 : Int32)), .val (.int (1 : Int32)), .val (.ref b34), .val (.int (1 : Int32)), .val (.ref b11), .val (.int (0 : Int32))] [(.ref b34)])) (fun _ k_ => XS.aload X39.here hx rfl (hb hby at_214) rfl rfl k_) ?_
          refine Go.st (S' := T39.setTop (mkF m 218 #[.val (.int p0), .val (.int p1), .val (.int p2), .val (.long q3), .second, .val (.int p4), .val (.int p5), .val (.ref b11), .val (.ref b15), .val (.ref b19), .val (.int (0 : Int32)), .val (.int (1 : Int32)), .val (.ref b34), .val (.int (1 : Int32)), .val (.ref b11), .val (.int (0 : Int32))] [(.int (1 : Int32)), (.ref b34)])) (fun _ k_ => XS.iload X39.here hx rfl (hb hby at_216) rfl k_) ?_
          refine Go.st (S' := T39.setTop (mkF m 220 #[.val (.int p0), .val (.int p1), .val (.int p2), .val (.long q3), .second, .val (.int p4), .val (.int p5), .val (.ref b11), .val (.ref b15), .val (.ref b19), .val (.int (0 : Int32)), .val (.int (1 : Int32)), .val (.ref b34), .val (.int (1 : Int32)), .val (.ref b11), .val (.int (0 : Int32))] [(.ref b19), (.int (1 : Int32)), (.ref b34)])) (fun _ k_ => XS.aload X39.here hx rfl (hb hby at_218) rfl rfl k_) ?_
          obtain ⟨v43, T43, h43, L43, X43, e43, hQ43, st43⟩ := callVi X39 hx hZ hown (w84 hw) (w85 hw) (w87 hw) (w86 hw) (w3 hw) (w88 hw) (by decide) (W := 0) (argsL := [(.int (1 : Int32)), (.ref b19)]) (rest := []) e39 HM.1 (mt_most l Z a0 hw b34 pr35 prb35 ss35 ssb35 hs35 hsb35 sl35 (([] ++ own_flat (own_ps (p2) (p0) (nt2))) ++ own_flat (own_ps (p0) (p1) (p2))) (([0] ++ [([] ++ own_flat (own_ps (p2) (p0) (nt2))).length.toInt32]) ++ [(([] ++ own_flat (own_ps (p2) (p0) (nt2))) ++ own_flat (own_ps (p0) (p1) (p2))).length.toInt32]) (([] ++ [hv36]) ++ [hv37]) zt37 1 (([] ++ own_flat (own_ps (p2) (p0) (nt2))) ++ own_flat (own_ps (p0) (p1) (p2))).length ([] ++ own_flat (own_ps (p2) (p0) (nt2))) [] (own_ps (p0) (p1) (p2)) b19 (nq0) (nq1) (p4) h37 n0 Z0 HM hd (by simp) rfl rfl rfl (by decide) A_b19 (own_psin _ _ _)) (by decide) (by decide) pd8 rfl (g := (mkF m 220 #[.val (.int p0), .val (.int p1), .val (.int p2), .val (.long q3), .second, .val (.int p4), .val (.int p5), .val (.ref b11), .val (.ref b15), .val (.ref b19), .val (.int (0 : Int32)), .val (.int (1 : Int32)), .val (.ref b34), .val (.int (1 : Int32)), .val (.ref b11), .val (.int (0 : Int32))] [(.ref b19), (.int (1 : Int32)), (.ref b34)])) rfl (by rw [hml]; rfl) rfl (by show 2 * 0 + _ ≤ _; exact Nat.le_of_eq rfl) (hb hby at_220) (by decide) (by decide)
          obtain ⟨rfl, Nq43, hh43⟩ := hQ43
          rw [hh43] at e43
          have N43 := Fr.app N39 Nq43
          refine Go.st (S' := T43.setTop (mkF m 223 #[.val (.int p0), .val (.int p1), .val (.int p2), .val (.long q3), .second, .val (.int p4), .val (.int p5), .val (.ref b11), .val (.ref b15), .val (.ref b19), .val (.int (0 : Int32)), .val (.int (1 : Int32)), .val (.ref b34), .val (.int (1 : Int32)), .val (.ref b11), .val (.int (0 : Int32))] [(.int (if own_all (own_ps (p0) (p1) (p2)) [nq0, nq1, p4] = true then (1 : Int32) else (0 : Int32)))])) (st43) ?_
          refine Go.st (S' := T43.setTop (mkF m 225 #[.val (.int p0), .val (.int p1), .val (.int p2), .val (.long q3), .second, .val (.int p4), .val (.int p5), .val (.ref b11), .val (.ref b15), .val (.ref b19), .val (.int (0 : Int32)), .val (.int (1 : Int32)), .val (.ref b34), .val (.int (1 : Int32)), .val (.ref b11), .val (.int (0 : Int32))] [(.int (0 : Int32)), (.int (if own_all (own_ps (p0) (p1) (p2)) [nq0, nq1, p4] = true then (1 : Int32) else (0 : Int32)))])) (fun _ k_ => XS.iload X43.here hx rfl (hb hby at_223) rfl k_) ?_
          refine Go.st (S' := T43.setTop (mkF m 228 #[.val (.int p0), .val (.int p1), .val (.int p2), .val (.long q3), .second, .val (.int p4), .val (.int p5), .val (.ref b11), .val (.ref b15), .val (.ref b19), .val (.int (0 : Int32)), .val (.int (1 : Int32)), .val (.ref b34), .val (.int (1 : Int32)), .val (.ref b11), .val (.int (0 : Int32))] [])) (fun _ k_ => XS.icmpNo X43.here hx rfl (hb hby at_225) rfl (teq (if_neg (fun z => hc190 ((own_allf _ _ _ _ _ _).mp z).2.1))).2 k_) ?_
          refine Go.st (S' := T43.setTop (mkF m 229 #[.val (.int p0), .val (.int p1), .val (.int p2), .val (.long q3), .second, .val (.int p4), .val (.int p5), .val (.ref b11), .val (.ref b15), .val (.ref b19), .val (.int (0 : Int32)), .val (.int (1 : Int32)), .val (.ref b34), .val (.int (1 : Int32)), .val (.ref b11), .val (.int (0 : Int32))] [(.int (1 : Int32))])) (fun _ k_ => XS.iconst X43.here hx rfl (hb hby at_228) k_) ?_
          refine Go.st (S' := T43.setTop (mkF m 233 #[.val (.int p0), .val (.int p1), .val (.int p2), .val (.long q3), .second, .val (.int p4), .val (.int p5), .val (.ref b11), .val (.ref b15), .val (.ref b19), .val (.int (0 : Int32)), .val (.int (1 : Int32)), .val (.ref b34), .val (.int (1 : Int32)), .val (.ref b11), .val (.int (0 : Int32))] [(.int (1 : Int32))])) (fun _ k_ => XS.goto X43.here hx rfl (pc0 := 229) (pc' := 233) rfl (hb hby at_229) (by decide) (by decide) k_) ?_
          exact Go.retN X43 hx (t := .boolean) hret (by simp) hlk (hb hby at_233) (by decide) (by decide) ⟨rfl, N43⟩
      · skip
        refine Go.st (S' := T38.setTop (mkF m 211 #[.val (.int p0), .val (.int p1), .val (.int p2), .val (.long q3), .second, .val (.int p4), .val (.int p5), .val (.ref b11), .val (.ref b15), .val (.ref b19), .val (.int (0 : Int32)), .val (.int (1 : Int32)), .val (.ref b34), .val (.int (1 : Int32)), .val (.ref b11), .unset] [])) (fun _ k_ => XS.ifYes X38.here hx rfl (pc0 := 176) (pc' := 211) rfl (hb hby at_176) rfl ((if0 _ _).trans (teq (own_if0 hc176)).1) (by decide) (by decide) k_) ?_
        refine Go.st (S' := T38.setTop (mkF m 212 #[.val (.int p0), .val (.int p1), .val (.int p2), .val (.long q3), .second, .val (.int p4), .val (.int p5), .val (.ref b11), .val (.ref b15), .val (.ref b19), .val (.int (0 : Int32)), .val (.int (1 : Int32)), .val (.ref b34), .val (.int (1 : Int32)), .val (.ref b11), .unset] [(.int (0 : Int32))])) (fun _ k_ => XS.iconst X38.here hx rfl (hb hby at_211) k_) ?_
        refine Go.st (S' := T38.setTop (mkF m 214 #[.val (.int p0), .val (.int p1), .val (.int p2), .val (.long q3), .second, .val (.int p4), .val (.int p5), .val (.ref b11), .val (.ref b15), .val (.ref b19), .val (.int (0 : Int32)), .val (.int (1 : Int32)), .val (.ref b34), .val (.int (1 : Int32)), .val (.ref b11), .val (.int (0 : Int32))] [])) (fun _ k_ => XS.istore X38.here hx rfl (hb hby at_212) rfl (l' := #[.val (.int p0), .val (.int p1), .val (.int p2), .val (.long q3), .second, .val (.int p4), .val (.int p5), .val (.ref b11), .val (.ref b15), .val (.ref b19), .val (.int (0 : Int32)), .val (.int (1 : Int32)), .val (.ref b34), .val (.int (1 : Int32)), .val (.ref b11), .val (.int (0 : Int32))]) rfl k_) ?_
        refine Go.st (S' := T38.setTop (mkF m 216 #[.val (.int p0), .val (.int p1), .val (.int p2), .val (.long q3), .second, .val (.int p4), .val (.int p5), .val (.ref b11), .val (.ref b15), .val (.ref b19), .val (.int (0 : Int32)), .val (.int (1 : Int32)), .val (.ref b34), .val (.int (1 : Int32)), .val (.ref b11), .val (.int (0 : Int32))] [(.ref b34)])) (fun _ k_ => XS.aload X38.here hx rfl (hb hby at_214) rfl rfl k_) ?_
        refine Go.st (S' := T38.setTop (mkF m 218 #[.val (.int p0), .val (.int p1), .val (.int p2), .val (.long q3), .second, .val (.int p4), .val (.int p5), .val (.ref b11), .val (.ref b15), .val (.ref b19), .val (.int (0 : Int32)), .val (.int (1 : Int32)), .val (.ref b34), .val (.int (1 : Int32)), .val (.ref b11), .val (.int (0 : Int32))] [(.int (1 : Int32)), (.ref b34)])) (fun _ k_ => XS.iload X38.here hx rfl (hb hby at_216) rfl k_) ?_
        refine Go.st (S' := T38.setTop (mkF m 220 #[.val (.int p0), .val (.int p1), .val (.int p2), .val (.long q3), .second, .val (.int p4), .val (.int p5), .val (.ref b11), .val (.ref b15), .val (.ref b19), .val (.int (0 : Int32)), .val (.int (1 : Int32)), .val (.ref b34), .val (.int (1 : Int32)), .val (.ref b11), .val (.int (0 : Int32))] [(.ref b19), (.int (1 : Int32)), (.ref b34)])) (fun _ k_ => XS.aload X38.here hx rfl (hb hby at_218) rfl rfl k_) ?_
        obtain ⟨v44, T44, h44, L44, X44, e44, hQ44, st44⟩ := callVi X38 hx hZ hown (w84 hw) (w85 hw) (w87 hw) (w86 hw) (w3 hw) (w88 hw) (by decide) (W := 0) (argsL := [(.int (1 : Int32)), (.ref b19)]) (rest := []) e38 HM.1 (mt_most l Z a0 hw b34 pr35 prb35 ss35 ssb35 hs35 hsb35 sl35 (([] ++ own_flat (own_ps (p2) (p0) (nt2))) ++ own_flat (own_ps (p0) (p1) (p2))) (([0] ++ [([] ++ own_flat (own_ps (p2) (p0) (nt2))).length.toInt32]) ++ [(([] ++ own_flat (own_ps (p2) (p0) (nt2))) ++ own_flat (own_ps (p0) (p1) (p2))).length.toInt32]) (([] ++ [hv36]) ++ [hv37]) zt37 1 (([] ++ own_flat (own_ps (p2) (p0) (nt2))) ++ own_flat (own_ps (p0) (p1) (p2))).length ([] ++ own_flat (own_ps (p2) (p0) (nt2))) [] (own_ps (p0) (p1) (p2)) b19 (nq0) (nq1) (p4) h37 n0 Z0 HM hd (by simp) rfl rfl rfl (by decide) A_b19 (own_psin _ _ _)) (by decide) (by decide) pd8 rfl (g := (mkF m 220 #[.val (.int p0), .val (.int p1), .val (.int p2), .val (.long q3), .second, .val (.int p4), .val (.int p5), .val (.ref b11), .val (.ref b15), .val (.ref b19), .val (.int (0 : Int32)), .val (.int (1 : Int32)), .val (.ref b34), .val (.int (1 : Int32)), .val (.ref b11), .val (.int (0 : Int32))] [(.ref b19), (.int (1 : Int32)), (.ref b34)])) rfl (by rw [hml]; rfl) rfl (by show 2 * 0 + _ ≤ _; exact Nat.le_of_eq rfl) (hb hby at_220) (by decide) (by decide)
        obtain ⟨rfl, Nq44, hh44⟩ := hQ44
        rw [hh44] at e44
        have N44 := Fr.app N38 Nq44
        refine Go.st (S' := T44.setTop (mkF m 223 #[.val (.int p0), .val (.int p1), .val (.int p2), .val (.long q3), .second, .val (.int p4), .val (.int p5), .val (.ref b11), .val (.ref b15), .val (.ref b19), .val (.int (0 : Int32)), .val (.int (1 : Int32)), .val (.ref b34), .val (.int (1 : Int32)), .val (.ref b11), .val (.int (0 : Int32))] [(.int (if own_all (own_ps (p0) (p1) (p2)) [nq0, nq1, p4] = true then (1 : Int32) else (0 : Int32)))])) (st44) ?_
        refine Go.st (S' := T44.setTop (mkF m 225 #[.val (.int p0), .val (.int p1), .val (.int p2), .val (.long q3), .second, .val (.int p4), .val (.int p5), .val (.ref b11), .val (.ref b15), .val (.ref b19), .val (.int (0 : Int32)), .val (.int (1 : Int32)), .val (.ref b34), .val (.int (1 : Int32)), .val (.ref b11), .val (.int (0 : Int32))] [(.int (0 : Int32)), (.int (if own_all (own_ps (p0) (p1) (p2)) [nq0, nq1, p4] = true then (1 : Int32) else (0 : Int32)))])) (fun _ k_ => XS.iload X44.here hx rfl (hb hby at_223) rfl k_) ?_
        refine Go.st (S' := T44.setTop (mkF m 228 #[.val (.int p0), .val (.int p1), .val (.int p2), .val (.long q3), .second, .val (.int p4), .val (.int p5), .val (.ref b11), .val (.ref b15), .val (.ref b19), .val (.int (0 : Int32)), .val (.int (1 : Int32)), .val (.ref b34), .val (.int (1 : Int32)), .val (.ref b11), .val (.int (0 : Int32))] [])) (fun _ k_ => XS.icmpNo X44.here hx rfl (hb hby at_225) rfl (teq (if_neg (fun z => hc176 ((own_allf _ _ _ _ _ _).mp z).1))).2 k_) ?_
        refine Go.st (S' := T44.setTop (mkF m 229 #[.val (.int p0), .val (.int p1), .val (.int p2), .val (.long q3), .second, .val (.int p4), .val (.int p5), .val (.ref b11), .val (.ref b15), .val (.ref b19), .val (.int (0 : Int32)), .val (.int (1 : Int32)), .val (.ref b34), .val (.int (1 : Int32)), .val (.ref b11), .val (.int (0 : Int32))] [(.int (1 : Int32))])) (fun _ k_ => XS.iconst X44.here hx rfl (hb hby at_228) k_) ?_
        refine Go.st (S' := T44.setTop (mkF m 233 #[.val (.int p0), .val (.int p1), .val (.int p2), .val (.long q3), .second, .val (.int p4), .val (.int p5), .val (.ref b11), .val (.ref b15), .val (.ref b19), .val (.int (0 : Int32)), .val (.int (1 : Int32)), .val (.ref b34), .val (.int (1 : Int32)), .val (.ref b11), .val (.int (0 : Int32))] [(.int (1 : Int32))])) (fun _ k_ => XS.goto X44.here hx rfl (pc0 := 229) (pc' := 233) rfl (hb hby at_229) (by decide) (by decide) k_) ?_
        exact Go.retN X44 hx (t := .boolean) hret (by simp) hlk (hb hby at_233) (by decide) (by decide) ⟨rfl, N44⟩
  · skip
    refine Go.st (S' := T22.setTop (mkF m 66 #[.val (.int p0), .val (.int p1), .val (.int p2), .val (.long q3), .second, .val (.int p4), .val (.int p5), .val (.ref b11), .val (.ref b15), .val (.ref b19), .unset, .unset, .unset, .unset, .unset, .unset] [])) (fun _ k_ => XS.ifNo X22.here hx rfl (hb hby at_63) rfl ((if0 _ _).trans (feq hc63).1) k_) ?_
    refine Go.st (S' := T22.setTop (mkF m 67 #[.val (.int p0), .val (.int p1), .val (.int p2), .val (.long q3), .second, .val (.int p4), .val (.int p5), .val (.ref b11), .val (.ref b15), .val (.ref b19), .unset, .unset, .unset, .unset, .unset, .unset] [(.int (1 : Int32))])) (fun _ k_ => XS.iconst X22.here hx rfl (hb hby at_66) k_) ?_
    refine Go.st (S' := T22.setTop (mkF m 71 #[.val (.int p0), .val (.int p1), .val (.int p2), .val (.long q3), .second, .val (.int p4), .val (.int p5), .val (.ref b11), .val (.ref b15), .val (.ref b19), .unset, .unset, .unset, .unset, .unset, .unset] [(.int (1 : Int32))])) (fun _ k_ => XS.goto X22.here hx rfl (pc0 := 67) (pc' := 71) rfl (hb hby at_67) (by decide) (by decide) k_) ?_
    refine Go.st (S' := T22.setTop (mkF m 73 #[.val (.int p0), .val (.int p1), .val (.int p2), .val (.long q3), .second, .val (.int p4), .val (.int p5), .val (.ref b11), .val (.ref b15), .val (.ref b19), .val (.int (1 : Int32)), .unset, .unset, .unset, .unset, .unset] [])) (fun _ k_ => XS.istore X22.here hx rfl (hb hby at_71) rfl (l' := #[.val (.int p0), .val (.int p1), .val (.int p2), .val (.long q3), .second, .val (.int p4), .val (.int p5), .val (.ref b11), .val (.ref b15), .val (.ref b19), .val (.int (1 : Int32)), .unset, .unset, .unset, .unset, .unset]) rfl k_) ?_
    refine Go.st (S' := T22.setTop (mkF m 75 #[.val (.int p0), .val (.int p1), .val (.int p2), .val (.long q3), .second, .val (.int p4), .val (.int p5), .val (.ref b11), .val (.ref b15), .val (.ref b19), .val (.int (1 : Int32)), .unset, .unset, .unset, .unset, .unset] [(.int p5)])) (fun _ k_ => XS.iload X22.here hx rfl (hb hby at_73) rfl k_) ?_
    refine Go.st (S' := T22.setTop (mkF m 76 #[.val (.int p0), .val (.int p1), .val (.int p2), .val (.long q3), .second, .val (.int p4), .val (.int p5), .val (.ref b11), .val (.ref b15), .val (.ref b19), .val (.int (1 : Int32)), .unset, .unset, .unset, .unset, .unset] [(.int (2 : Int32)), (.int p5)])) (fun _ k_ => XS.iconst X22.here hx rfl (hb hby at_75) k_) ?_
    refine Go.st (S' := T22.setTop (mkF m 77 #[.val (.int p0), .val (.int p1), .val (.int p2), .val (.long q3), .second, .val (.int p4), .val (.int p5), .val (.ref b11), .val (.ref b15), .val (.ref b19), .val (.int (1 : Int32)), .unset, .unset, .unset, .unset, .unset] [(.int (p5 &&& (2 : Int32)))])) (fun _ k_ => XS.iand X22.here hx rfl (hb hby at_76) rfl k_) ?_
    by_cases hc77 : (p5 &&& (2 : Int32)) = (0 : Int32)
    · skip
      refine Go.st (S' := T22.setTop (mkF m 84 #[.val (.int p0), .val (.int p1), .val (.int p2), .val (.long q3), .second, .val (.int p4), .val (.int p5), .val (.ref b11), .val (.ref b15), .val (.ref b19), .val (.int (1 : Int32)), .unset, .unset, .unset, .unset, .unset] [])) (fun _ k_ => XS.ifYes X22.here hx rfl (pc0 := 77) (pc' := 84) rfl (hb hby at_77) rfl ((if0 _ _).trans (teq hc77).1) (by decide) (by decide) k_) ?_
      refine Go.st (S' := T22.setTop (mkF m 85 #[.val (.int p0), .val (.int p1), .val (.int p2), .val (.long q3), .second, .val (.int p4), .val (.int p5), .val (.ref b11), .val (.ref b15), .val (.ref b19), .val (.int (1 : Int32)), .unset, .unset, .unset, .unset, .unset] [(.int (0 : Int32))])) (fun _ k_ => XS.iconst X22.here hx rfl (hb hby at_84) k_) ?_
      refine Go.st (S' := T22.setTop (mkF m 87 #[.val (.int p0), .val (.int p1), .val (.int p2), .val (.long q3), .second, .val (.int p4), .val (.int p5), .val (.ref b11), .val (.ref b15), .val (.ref b19), .val (.int (1 : Int32)), .val (.int (0 : Int32)), .unset, .unset, .unset, .unset] [])) (fun _ k_ => XS.istore X22.here hx rfl (hb hby at_85) rfl (l' := #[.val (.int p0), .val (.int p1), .val (.int p2), .val (.long q3), .second, .val (.int p4), .val (.int p5), .val (.ref b11), .val (.ref b15), .val (.ref b19), .val (.int (1 : Int32)), .val (.int (0 : Int32)), .unset, .unset, .unset, .unset]) rfl k_) ?_
      obtain ⟨T45, h45, X45, e45, E45, A45, D45, -, st45⟩ := newO X22 hx hZ hown (w1 hw) (w2 hw) (w3 hw) e22 (g := (mkF m 87 #[.val (.int p0), .val (.int p1), .val (.int p2), .val (.long q3), .second, .val (.int p4), .val (.int p5), .val (.ref b11), .val (.ref b15), .val (.ref b19), .val (.int (1 : Int32)), .val (.int (0 : Int32)), .unset, .unset, .unset, .unset] [])) rfl (hb hby at_87) (by decide) (by decide)
      obtain ⟨b45, q45⟩ : ∃ z, z = h22.size := ⟨_, rfl⟩
      rw [← q45] at A45 D45 st45
      have ne_b11_b45 : b11 ≠ b45 := Nat.ne_of_lt (Nat.lt_of_lt_of_le E_b11.lt (Nat.le_of_eq q45.symm))
      have ne_b15_b45 : b15 ≠ b45 := Nat.ne_of_lt (Nat.lt_of_lt_of_le E_b15.lt (Nat.le_of_eq q45.symm))
      have ne_b19_b45 : b19 ≠ b45 := Nat.ne_of_lt (Nat.lt_of_lt_of_le E_b19.lt (Nat.le_of_eq q45.symm))
      have g_b45 : n0 ≤ b45 := Nat.le_trans Z0 (Nat.le_of_eq q45.symm)
      replace E_b11 := E_b11.ext E45
      replace A_b11 := A_b11.ext E45
      replace E_b15 := E_b15.ext E45
      replace A_b15 := A_b15.ext E45
      replace E_b19 := E_b19.ext E45
      replace A_b19 := A_b19.ext E45
      replace Z0 := Nat.le_trans Z0 E45.1
      have E_b45 := A45
      have F_pairs_b45 : Fld Z h45 b45 "com/example/caseweave/caseweave/core/MarkingTable" "pairs" "Lcom/example/caseweave/caseweave/core/IntList;" .null := D45 (Or.inr (w20 hw)) (ty := (.object "com/example/caseweave/caseweave/core/IntList")) (by decide)
      have F_starts_b45 : Fld Z h45 b45 "com/example/caseweave/caseweave/core/MarkingTable" "starts" "Lcom/example/caseweave/caseweave/core/IntList;" .null := D45 (Or.inr (w22 hw)) (ty := (.object "com/example/caseweave/caseweave/core/IntList")) (by decide)
      have F_hashes_b45 : Fld Z h45 b45 "com/example/caseweave/caseweave/core/MarkingTable" "hashes" "Lcom/example/caseweave/caseweave/core/IntList;" .null := D45 (Or.inr (w24 hw)) (ty := (.object "com/example/caseweave/caseweave/core/IntList")) (by decide)
      have F_slots_b45 : Fld Z h45 b45 "com/example/caseweave/caseweave/core/MarkingTable" "slots" "[I" .null := D45 (Or.inl (w26 hw)) (ty := (.array .int)) (by decide)
      have F_places_b45 : Fld Z h45 b45 "com/example/caseweave/caseweave/core/MarkingTable" "places" "I" (.int (0 : Int32)) := D45 (Or.inr (w28 hw)) (ty := .int) (by decide)
      have F_stored_b45 : Fld Z h45 b45 "com/example/caseweave/caseweave/core/MarkingTable" "stored" "[I" .null := D45 (Or.inr (w30 hw)) (ty := (.array .int)) (by decide)
      refine Go.st (S' := T45.setTop (mkF m 90 #[.val (.int p0), .val (.int p1), .val (.int p2), .val (.long q3), .second, .val (.int p4), .val (.int p5), .val (.ref b11), .val (.ref b15), .val (.ref b19), .val (.int (1 : Int32)), .val (.int (0 : Int32)), .unset, .unset, .unset, .unset] [(.ref b45)])) (st45) ?_
      refine Go.st (S' := T45.setTop (mkF m 91 #[.val (.int p0), .val (.int p1), .val (.int p2), .val (.long q3), .second, .val (.int p4), .val (.int p5), .val (.ref b11), .val (.ref b15), .val (.ref b19), .val (.int (1 : Int32)), .val (.int (0 : Int32)), .unset, .unset, .unset, .unset] [(.ref b45), (.ref b45)])) (fun _ k_ => XS.dup X45.here hx rfl (hb hby at_90) rfl rfl k_) ?_
      refine Go.st (S' := T45.setTop (mkF m 92 #[.val (.int p0), .val (.int p1), .val (.int p2), .val (.long q3), .second, .val (.int p4), .val (.int p5), .val (.ref b11), .val (.ref b15), .val (.ref b19), .val (.int (1 : Int32)), .val (.int (0 : Int32)), .unset, .unset, .unset, .unset] [(.int (3 : Int32)), (.ref b45), (.ref b45)])) (fun _ k_ => XS.iconst X45.here hx rfl (hb hby at_91) k_) ?_
      obtain ⟨v46, T46, h46, L46, X46, e46, hQ46, st46⟩ := callIn X45 hx hZ rfl hown (w4 hw) (w5 hw) (w3 hw) (w6 hw) (by decide) (W := 1) (argsL := [(.int (3 : Int32))]) (rest := [(.ref b45)]) e45 (mt_init l Z a0 hw b45 h45 n0 Z0 E_b45 F_pairs_b45 F_starts_b45 F_hashes_b45 F_slots_b45 F_stored_b45 F_places_b45 g_b45) (by decide) (by decide) pd4 rfl (g := (mkF m 92 #[.val (.int p0), .val (.int p1), .val (.int p2), .val (.long q3), .second, .val (.int p4), .val (.int p5), .val (.ref b11), .val (.ref b15), .val (.ref b19), .val (.int (1 : Int32)), .val (.int (0 : Int32)), .unset, .unset, .unset, .unset] [(.int (3 : Int32)), (.ref b45), (.ref b45)])) rfl (by rw [hml]; rfl) rfl (by show 2 * 0 + _ ≤ _; exact Nat.le_of_eq rfl) (hb hby at_92) (by decide) (by decide)
      obtain ⟨rfl, Nq46, Kq46, pr46, prb46, ss46, ssb46, hs46, hsb46, sl46, hd, hsz46, HM⟩ := hQ46
      have N46 := Fr.app N22 Nq46
      obtain ⟨hs_pr46, hs_prb46, hs_ss46, hs_ssb46, hs_hs46, hs_hsb46, hs_sl46⟩ := hsz46
      have ne_b11_pr46 : b11 ≠ pr46 := Nat.ne_of_lt (Nat.lt_of_lt_of_le E_b11.lt hs_pr46)
      have ne_b15_pr46 : b15 ≠ pr46 := Nat.ne_of_lt (Nat.lt_of_lt_of_le E_b15.lt hs_pr46)
      have ne_b19_pr46 : b19 ≠ pr46 := Nat.ne_of_lt (Nat.lt_of_lt_of_le E_b19.lt hs_pr46)
      have g_pr46 : n0 ≤ pr46 := Nat.le_trans Z0 hs_pr46
      have ne_b11_prb46 : b11 ≠ prb46 := Nat.ne_of_lt (Nat.lt_of_lt_of_le E_b11.lt hs_prb46)
      have ne_b15_prb46 : b15 ≠ prb46 := Nat.ne_of_lt (Nat.lt_of_lt_of_le E_b15.lt hs_prb46)
      have ne_b19_prb46 : b19 ≠ prb46 := Nat.ne_of_lt (Nat.lt_of_lt_of_le E_b19.lt hs_prb46)
      have g_prb46 : n0 ≤ prb46 := Nat.le_trans Z0 hs_prb46
      have ne_b11_ss46 : b11 ≠ ss46 := Nat.ne_of_lt (Nat.lt_of_lt_of_le E_b11.lt hs_ss46)
      have ne_b15_ss46 : b15 ≠ ss46 := Nat.ne_of_lt (Nat.lt_of_lt_of_le E_b15.lt hs_ss46)
      have ne_b19_ss46 : b19 ≠ ss46 := Nat.ne_of_lt (Nat.lt_of_lt_of_le E_b19.lt hs_ss46)
      have g_ss46 : n0 ≤ ss46 := Nat.le_trans Z0 hs_ss46
      have ne_b11_ssb46 : b11 ≠ ssb46 := Nat.ne_of_lt (Nat.lt_of_lt_of_le E_b11.lt hs_ssb46)
      have ne_b15_ssb46 : b15 ≠ ssb46 := Nat.ne_of_lt (Nat.lt_of_lt_of_le E_b15.lt hs_ssb46)
      have ne_b19_ssb46 : b19 ≠ ssb46 := Nat.ne_of_lt (Nat.lt_of_lt_of_le E_b19.lt hs_ssb46)
      have g_ssb46 : n0 ≤ ssb46 := Nat.le_trans Z0 hs_ssb46
      have ne_b11_hs46 : b11 ≠ hs46 := Nat.ne_of_lt (Nat.lt_of_lt_of_le E_b11.lt hs_hs46)
      have ne_b15_hs46 : b15 ≠ hs46 := Nat.ne_of_lt (Nat.lt_of_lt_of_le E_b15.lt hs_hs46)
      have ne_b19_hs46 : b19 ≠ hs46 := Nat.ne_of_lt (Nat.lt_of_lt_of_le E_b19.lt hs_hs46)
      have g_hs46 : n0 ≤ hs46 := Nat.le_trans Z0 hs_hs46
      have ne_b11_hsb46 : b11 ≠ hsb46 := Nat.ne_of_lt (Nat.lt_of_lt_of_le E_b11.lt hs_hsb46)
      have ne_b15_hsb46 : b15 ≠ hsb46 := Nat.ne_of_lt (Nat.lt_of_lt_of_le E_b15.lt hs_hsb46)
      have ne_b19_hsb46 : b19 ≠ hsb46 := Nat.ne_of_lt (Nat.lt_of_lt_of_le E_b19.lt hs_hsb46)
      have g_hsb46 : n0 ≤ hsb46 := Nat.le_trans Z0 hs_hsb46
      have ne_b11_sl46 : b11 ≠ sl46 := Nat.ne_of_lt (Nat.lt_of_lt_of_le E_b11.lt hs_sl46)
      have ne_b15_sl46 : b15 ≠ sl46 := Nat.ne_of_lt (Nat.lt_of_lt_of_le E_b15.lt hs_sl46)
      have ne_b19_sl46 : b19 ≠ sl46 := Nat.ne_of_lt (Nat.lt_of_lt_of_le E_b19.lt hs_sl46)
      have g_sl46 : n0 ≤ sl46 := Nat.le_trans Z0 hs_sl46
      replace E_b11 := E_b11.keep Kq46
      replace A_b11 := A_b11.keep Kq46 (ninS ne_b11_b45 nin0)
      replace E_b15 := E_b15.keep Kq46
      replace A_b15 := A_b15.keep Kq46 (ninS ne_b15_b45 nin0)
      replace E_b19 := E_b19.keep Kq46
      replace A_b19 := A_b19.keep Kq46 (ninS ne_b19_b45 nin0)
      replace Z0 := Nat.le_trans Z0 Kq46.1
      refine Go.st (S' := T46.setTop (mkF m 95 #[.val (.int p0), .val (.int p1), .val (.int p2), .val (.long q3), .second, .val (.int p4), .val (.int p5), .val (.ref b11), .val (.ref b15), .val (.ref b19), .val (.int (1 : Int32)), .val (.int (0 : Int32)), .unset, .unset, .unset, .unset] [(.ref b45)])) (st46) ?_
      refine Go.st (S' := T46.setTop (mkF m 97 #[.val (.int p0), .val (.int p1), .val (.int p2), .val (.long q3), .second, .val (.int p4), .val (.int p5), .val (.ref b11), .val (.ref b15), .val (.ref b19), .val (.int (1 : Int32)), .val (.int (0 : Int32)), .val (.ref b45), .unset, .unset, .unset] [])) (fun _ k_ => XS.astore X46.here hx rfl (hb hby at_95) rfl rfl (l' := #[.val (.int p0), .val (.int p1), .val (.int p2), .val (.long q3), .second, .val (.int p4), .val (.int p5), .val (.ref b11), .val (.ref b15), .val (.ref b19), .val (.int (1 : Int32)), .val (.int (0 : Int32)), .val (.ref b45), .unset, .unset, .unset]) rfl k_) ?_
      refine Go.st (S' := T46.setTop (mkF m 99 #[.val (.int p0), .val (.int p1), .val (.int p2), .val (.long q3), .second, .val (.int p4), .val (.int p5), .val (.ref b11), .val (.ref b15), .val (.ref b19), .val (.int (1 : Int32)), .val (.int (0 : Int32)), .val (.ref b45), .unset, .unset, .unset] [(.int (1 : Int32))])) (fun _ k_ => XS.iload X46.here hx rfl (hb hby at_97) rfl k_) ?_
      refine Go.st (S' := T46.setTop (mkF m 102 #[.val (.int p0), .val (.int p1), .val (.int p2), .val (.long q3), .second, .val (.int p4), .val (.int p5), .val (.ref b11), .val (.ref b15), .val (.ref b19), .val (.int (1 : Int32)), .val (.int (0 : Int32)), .val (.ref b45), .unset, .unset, .unset] [])) (fun _ k_ => XS.ifNo X46.here hx rfl (hb hby at_99) rfl ((if0 _ _).trans (feq (by decide)).1) k_) ?_
      refine Go.st (S' := T46.setTop (mkF m 104 #[.val (.int p0), .val (.int p1), .val (.int p2), .val (.long q3), .second, .val (.int p4), .val (.int p5), .val (.ref b11), .val (.ref b15), .val (.ref b19), .val (.int (1 : Int32)), .val (.int (0 : Int32)), .val (.ref b45), .unset, .unset, .unset] [(.ref b45)])) (fun _ k_ => XS.aload X46.here hx rfl (hb hby at_102) rfl rfl k_) ?_
      refine Go.st (S' := T46.setTop (mkF m 106 #[.val (.int p0), .val (.int p1), .val (.int p2), .val (.long q3), .second, .val (.int p4), .val (.int p5), .val (.ref b11), .val (.ref b15), .val (.ref b19), .val (.int (1 : Int32)), .val (.int (0 : Int32)), .val (.ref b45), .unset, .unset, .unset] [(.ref b11), (.ref b45)])) (fun _ k_ => XS.aload X46.here hx rfl (hb hby at_104) rfl rfl k_) ?_
      have off47 : own_off b11 b45 pr46 prb46 ss46 ssb46 hs46 hsb46 sl46 := ⟨ne_b11_b45, ne_b11_pr46, ne_b11_prb46, ne_b11_ss46, ne_b11_ssb46, ne_b11_hs46, ne_b11_hsb46, ne_b11_sl46⟩
      obtain ⟨v47, T47, h47, L47, X47, e47, hQ47, st47⟩ := callVi X46 hx hZ hown (w38 hw) (w39 hw) (w41 hw) (w40 hw) (w3 hw) (w42 hw) (by decide) (W := 0) (argsL := [(.ref b11)]) (rest := []) e46 HM.1 (mt_add l Z a0 hw b45 pr46 prb46 ss46 ssb46 hs46 hsb46 sl46 [] [0] [] (List.replicate 16 0) b11 (p0) (p1) (p2) h46 n0 Z0 HM hd A_b11 E_b11 off47 (by decide) (by simp) (by simp) ⟨rfl, fun i j hi hj q => absurd (own_z0 i) q⟩) (by decide) (by decide) pd2 rfl (g := (mkF m 106 #[.val (.int p0), .val (.int p1), .val (.int p2), .val (.long q3), .second, .val (.int p4), .val (.int p5), .val (.ref b11), .val (.ref b15), .val (.ref b19), .val (.int (1 : Int32)), .val (.int (0 : Int32)), .val (.ref b45), .unset, .unset, .unset] [(.ref b11), (.ref b45)])) rfl (by rw [hml]; rfl) rfl (by show 2 * 0 + _ ≤ _; exact Nat.le_of_eq rfl) (hb hby at_106) (by decide) (by decide)
      obtain ⟨rfl, Nq47, Kq47, hv47, zt47, ho47, hl47, HM⟩ := hQ47
      have N47 := Fr.app N46 Nq47
      replace E_b11 := E_b11.keep Kq47
      replace A_b11 := A_b11.keep Kq47 (ninS ne_b11_pr46 (ninS ne_b11_prb46 (ninS ne_b11_ss46 (ninS ne_b11_ssb46 (ninS ne_b11_hs46 (ninS ne_b11_hsb46 (ninS ne_b11_sl46 nin0)))))))
      replace E_b15 := E_b15.keep Kq47
      replace A_b15 := A_b15.keep Kq47 (ninS ne_b15_pr46 (ninS ne_b15_prb46 (ninS ne_b15_ss46 (ninS ne_b15_ssb46 (ninS ne_b15_hs46 (ninS ne_b15_hsb46 (ninS ne_b15_sl46 nin0)))))))
      replace E_b19 := E_b19.keep Kq47
      replace A_b19 := A_b19.keep Kq47 (ninS ne_b19_pr46 (ninS ne_b19_prb46 (ninS ne_b19_ss46 (ninS ne_b19_ssb46 (ninS ne_b19_hs46 (ninS ne_b19_hsb46 (ninS ne_b19_sl46 nin0)))))))
      replace Z0 := Nat.le_trans Z0 Kq47.1
      refine Go.st (S' := T47.setTop (mkF m 109 #[.val (.int p0), .val (.int p1), .val (.int p2), .val (.long q3), .second, .val (.int p4), .val (.int p5), .val (.ref b11), .val (.ref b15), .val (.ref b19), .val (.int (1 : Int32)), .val (.int (0 : Int32)), .val (.ref b45), .unset, .unset, .unset] [(.int ([] : List Int32).length.toInt32)])) (st47) ?_
      refine Go.st (S' := T47.setTop (mkF m 110 #[.val (.int p0), .val (.int p1), .val (.int p2), .val (.long q3), .second, .val (.int p4), .val (.int p5), .val (.ref b11), .val (.ref b15), .val (.ref b19), .val (.int (1 : Int32)), .val (.int (0 : Int32)), .val (.ref b45), .unset, .unset, .unset] [])) (fun _ k_ => XS.pop X47.here hx rfl (hb hby at_109) rfl rfl k_) ?_
      refine Go.st (S' := T47.setTop (mkF m 112 #[.val (.int p0), .val (.int p1), .val (.int p2), .val (.long q3), .second, .val (.int p4), .val (.int p5), .val (.ref b11), .val (.ref b15), .val (.ref b19), .val (.int (1 : Int32)), .val (.int (0 : Int32)), .val (.ref b45), .unset, .unset, .unset] [(.ref b45)])) (fun _ k_ => XS.aload X47.here hx rfl (hb hby at_110) rfl rfl k_) ?_
      refine Go.st (S' := T47.setTop (mkF m 114 #[.val (.int p0), .val (.int p1), .val (.int p2), .val (.long q3), .second, .val (.int p4), .val (.int p5), .val (.ref b11), .val (.ref b15), .val (.ref b19), .val (.int (1 : Int32)), .val (.int (0 : Int32)), .val (.ref b45), .unset, .unset, .unset] [(.ref b15), (.ref b45)])) (fun _ k_ => XS.aload X47.here hx rfl (hb hby at_112) rfl rfl k_) ?_
      have off48 : own_off b15 b45 pr46 prb46 ss46 ssb46 hs46 hsb46 sl46 := ⟨ne_b15_b45, ne_b15_pr46, ne_b15_prb46, ne_b15_ss46, ne_b15_ssb46, ne_b15_hs46, ne_b15_hsb46, ne_b15_sl46⟩
      obtain ⟨v48, T48, h48, L48, X48, e48, hQ48, st48⟩ := callVi X47 hx hZ hown (w38 hw) (w39 hw) (w41 hw) (w40 hw) (w3 hw) (w42 hw) (by decide) (W := 0) (argsL := [(.ref b15)]) (rest := []) e47 HM.1 (mt_add l Z a0 hw b45 pr46 prb46 ss46 ssb46 hs46 hsb46 sl46 ([] ++ own_flat (own_ps (p0) (p1) (p2))) ([0] ++ [([] ++ own_flat (own_ps (p0) (p1) (p2))).length.toInt32]) ([] ++ [hv47]) zt47 b15 (p2) (p0) (nt2) h47 n0 Z0 HM hd A_b15 E_b15 off48 (by rw [List.nil_append, own_flen]; have := own_plen (p0) (p1) (p2); omega) (by simp) (by simp) (ho47 own_z0)) (by decide) (by decide) pd2 rfl (g := (mkF m 114 #[.val (.int p0), .val (.int p1), .val (.int p2), .val (.long q3), .second, .val (.int p4), .val (.int p5), .val (.ref b11), .val (.ref b15), .val (.ref b19), .val (.int (1 : Int32)), .val (.int (0 : Int32)), .val (.ref b45), .unset, .unset, .unset] [(.ref b15), (.ref b45)])) rfl (by rw [hml]; rfl) rfl (by show 2 * 0 + _ ≤ _; exact Nat.le_of_eq rfl) (hb hby at_114) (by decide) (by decide)
      obtain ⟨rfl, Nq48, Kq48, hv48, zt48, ho48, hl48, HM⟩ := hQ48
      have N48 := Fr.app N47 Nq48
      replace E_b11 := E_b11.keep Kq48
      replace A_b11 := A_b11.keep Kq48 (ninS ne_b11_pr46 (ninS ne_b11_prb46 (ninS ne_b11_ss46 (ninS ne_b11_ssb46 (ninS ne_b11_hs46 (ninS ne_b11_hsb46 (ninS ne_b11_sl46 nin0)))))))
      replace E_b15 := E_b15.keep Kq48
      replace A_b15 := A_b15.keep Kq48 (ninS ne_b15_pr46 (ninS ne_b15_prb46 (ninS ne_b15_ss46 (ninS ne_b15_ssb46 (ninS ne_b15_hs46 (ninS ne_b15_hsb46 (ninS ne_b15_sl46 nin0)))))))
      replace E_b19 := E_b19.keep Kq48
      replace A_b19 := A_b19.keep Kq48 (ninS ne_b19_pr46 (ninS ne_b19_prb46 (ninS ne_b19_ss46 (ninS ne_b19_ssb46 (ninS ne_b19_hs46 (ninS ne_b19_hsb46 (ninS ne_b19_sl46 nin0)))))))
      replace Z0 := Nat.le_trans Z0 Kq48.1
      refine Go.st (S' := T48.setTop (mkF m 117 #[.val (.int p0), .val (.int p1), .val (.int p2), .val (.long q3), .second, .val (.int p4), .val (.int p5), .val (.ref b11), .val (.ref b15), .val (.ref b19), .val (.int (1 : Int32)), .val (.int (0 : Int32)), .val (.ref b45), .unset, .unset, .unset] [(.int (([] : List Int32) ++ [hv47]).length.toInt32)])) (st48) ?_
      refine Go.st (S' := T48.setTop (mkF m 118 #[.val (.int p0), .val (.int p1), .val (.int p2), .val (.long q3), .second, .val (.int p4), .val (.int p5), .val (.ref b11), .val (.ref b15), .val (.ref b19), .val (.int (1 : Int32)), .val (.int (0 : Int32)), .val (.ref b45), .unset, .unset, .unset] [])) (fun _ k_ => XS.pop X48.here hx rfl (hb hby at_117) rfl rfl k_) ?_
      refine Go.st (S' := T48.setTop (mkF m 137 #[.val (.int p0), .val (.int p1), .val (.int p2), .val (.long q3), .second, .val (.int p4), .val (.int p5), .val (.ref b11), .val (.ref b15), .val (.ref b19), .val (.int (1 : Int32)), .val (.int (0 : Int32)), .val (.ref b45), .unset, .unset, .unset] [])) (fun _ k_ => XS.goto X48.here hx rfl (pc0 := 118) (pc' := 137) rfl (hb hby at_118) (by decide) (by decide) k_) ?_
      refine Go.st (S' := T48.setTop (mkF m 139 #[.val (.int p0), .val (.int p1), .val (.int p2), .val (.long q3), .second, .val (.int p4), .val (.int p5), .val (.ref b11), .val (.ref b15), .val (.ref b19), .val (.int (1 : Int32)), .val (.int (0 : Int32)), .val (.ref b45), .unset, .unset, .unset] [(.int (0 : Int32))])) (fun _ k_ => XS.iload X48.here hx rfl (hb hby at_137) rfl k_) ?_
      refine Go.st (S' := T48.setTop (mkF m 141 #[.val (.int p0), .val (.int p1), .val (.int p2), .val (.long q3), .second, .val (.int p4), .val (.int p5), .val (.ref b11), .val (.ref b15), .val (.ref b19), .val (.int (1 : Int32)), .val (.int (0 : Int32)), .val (.ref b45), .unset, .unset, .unset] [(.int (1 : Int32)), (.int (0 : Int32))])) (fun _ k_ => XS.iload X48.here hx rfl (hb hby at_139) rfl k_) ?_
      refine Go.st (S' := T48.setTop (mkF m 148 #[.val (.int p0), .val (.int p1), .val (.int p2), .val (.long q3), .second, .val (.int p4), .val (.int p5), .val (.ref b11), .val (.ref b15), .val (.ref b19), .val (.int (1 : Int32)), .val (.int (0 : Int32)), .val (.ref b45), .unset, .unset, .unset] [])) (fun _ k_ => XS.icmpYes X48.here hx rfl (pc0 := 141) (pc' := 148) rfl (hb hby at_141) rfl (feq (by decide)).2 (by decide) (by decide) k_) ?_
      refine Go.st (S' := T48.setTop (mkF m 149 #[.val (.int p0), .val (.int p1), .val (.int p2), .val (.long q3), .second, .val (.int p4), .val (.int p5), .val (.ref b11), .val (.ref b15), .val (.ref b19), .val (.int (1 : Int32)), .val (.int (0 : Int32)), .val (.ref b45), .unset, .unset, .unset] [(.int (1 : Int32))])) (fun _ k_ => XS.iconst X48.here hx rfl (hb hby at_148) k_) ?_
      refine Go.st (S' := T48.setTop (mkF m 151 #[.val (.int p0), .val (.int p1), .val (.int p2), .val (.long q3), .second, .val (.int p4), .val (.int p5), .val (.ref b11), .val (.ref b15), .val (.ref b19), .val (.int (1 : Int32)), .val (.int (0 : Int32)), .val (.ref b45), .val (.int (1 : Int32)), .unset, .unset] [])) (fun _ k_ => XS.istore X48.here hx rfl (hb hby at_149) rfl (l' := #[.val (.int p0), .val (.int p1), .val (.int p2), .val (.long q3), .second, .val (.int p4), .val (.int p5), .val (.ref b11), .val (.ref b15), .val (.ref b19), .val (.int (1 : Int32)), .val (.int (0 : Int32)), .val (.ref b45), .val (.int (1 : Int32)), .unset, .unset]) rfl k_) ?_
      refine Go.st (S' := T48.setTop (mkF m 153 #[.val (.int p0), .val (.int p1), .val (.int p2), .val (.long q3), .second, .val (.int p4), .val (.int p5), .val (.ref b11), .val (.ref b15), .val (.ref b19), .val (.int (1 : Int32)), .val (.int (0 : Int32)), .val (.ref b45), .val (.int (1 : Int32)), .unset, .unset] [(.int (0 : Int32))])) (fun _ k_ => XS.iload X48.here hx rfl (hb hby at_151) rfl k_) ?_
      refine Go.st (S' := T48.setTop (mkF m 161 #[.val (.int p0), .val (.int p1), .val (.int p2), .val (.long q3), .second, .val (.int p4), .val (.int p5), .val (.ref b11), .val (.ref b15), .val (.ref b19), .val (.int (1 : Int32)), .val (.int (0 : Int32)), .val (.ref b45), .val (.int (1 : Int32)), .unset, .unset] [])) (fun _ k_ => XS.ifYes X48.here hx rfl (pc0 := 153) (pc' := 161) rfl (hb hby at_153) rfl ((if0 _ _).trans (teq (by decide)).1) (by decide) (by decide) k_) ?_
      refine Go.st (S' := T48.setTop (mkF m 163 #[.val (.int p0), .val (.int p1), .val (.int p2), .val (.long q3), .second, .val (.int p4), .val (.int p5), .val (.ref b11), .val (.ref b15), .val (.ref b19), .val (.int (1 : Int32)), .val (.int (0 : Int32)), .val (.ref b45), .val (.int (1 : Int32)), .unset, .unset] [(.ref b15)])) (fun _ k_ => XS.aload X48.here hx rfl (hb hby at_161) rfl rfl k_) ?_
      refine Go.st (S' := T48.setTop (mkF m 165 #[.val (.int p0), .val (.int p1), .val (.int p2), .val (.long q3), .second, .val (.int p4), .val (.int p5), .val (.ref b11), .val (.ref b15), .val (.ref b19), .val (.int (1 : Int32)), .val (.int (0 : Int32)), .val (.ref b45), .val (.int (1 : Int32)), .val (.ref b15), .unset] [])) (fun _ k_ => XS.astore X48.here hx rfl (hb hby at_163) rfl rfl (l' := #[.val (.int p0), .val (.int p1), .val (.int p2), .val (.long q3), .second, .val (.int p4), .val (.int p5), .val (.ref b11), .val (.ref b15), .val (.ref b19), .val (.int (1 : Int32)), .val (.int (0 : Int32)), .val (.ref b45), .val (.int (1 : Int32)), .val (.ref b15), .unset]) rfl k_) ?_
      refine Go.st (S' := T48.setTop (mkF m 167 #[.val (.int p0), .val (.int p1), .val (.int p2), .val (.long q3), .second, .val (.int p4), .val (.int p5), .val (.ref b11), .val (.ref b15), .val (.ref b19), .val (.int (1 : Int32)), .val (.int (0 : Int32)), .val (.ref b45), .val (.int (1 : Int32)), .val (.ref b15), .unset] [(.ref b15)])) (fun _ k_ => XS.aload X48.here hx rfl (hb hby at_165) rfl rfl k_) ?_
      refine Go.st (S' := T48.setTop (mkF m 168 #[.val (.int p0), .val (.int p1), .val (.int p2), .val (.long q3), .second, .val (.int p4), .val (.int p5), .val (.ref b11), .val (.ref b15), .val (.ref b19), .val (.int (1 : Int32)), .val (.int (0 : Int32)), .val (.ref b45), .val (.int (1 : Int32)), .val (.ref b15), .unset] [(.int (0 : Int32)), (.ref b15)])) (fun _ k_ => XS.iconst X48.here hx rfl (hb hby at_167) k_) ?_
      refine Go.st (S' := T48.setTop (mkF m 169 #[.val (.int p0), .val (.int p1), .val (.int p2), .val (.long q3), .second, .val (.int p4), .val (.int p5), .val (.ref b11), .val (.ref b15), .val (.ref b19), .val (.int (1 : Int32)), .val (.int (0 : Int32)), .val (.ref b45), .val (.int (1 : Int32)), .val (.ref b15), .unset] [(.int p2)])) (A_b15.load X48 hx hZ e48 (j := (0 : Int32)) (v := p2) (by decide) rfl (g := (mkF m 168 #[.val (.int p0), .val (.int p1), .val (.int p2), .val (.long q3), .second, .val (.int p4), .val (.int p5), .val (.ref b11), .val (.ref b15), .val (.ref b19), .val (.int (1 : Int32)), .val (.int (0 : Int32)), .val (.ref b45), .val (.int (1 : Int32)), .val (.ref b15), .unset] [(.int (0 : Int32)), (.ref b15)])) rfl rfl (hb hby at_168)) ?_
      refine Go.st (S' := T48.setTop (mkF m 171 #[.val (.int p0), .val (.int p1), .val (.int p2), .val (.long q3), .second, .val (.int p4), .val (.int p5), .val (.ref b11), .val (.ref b15), .val (.ref b19), .val (.int (1 : Int32)), .val (.int (0 : Int32)), .val (.ref b45), .val (.int (1 : Int32)), .val (.ref b15), .unset] [(.ref b19), (.int p2)])) (fun _ k_ => XS.aload X48.here hx rfl (hb hby at_169) rfl rfl k_) ?_
      refine Go.st (S' := T48.setTop (mkF m 172 #[.val (.int p0), .val (.int p1), .val (.int p2), .val (.long q3), .second, .val (.int p4), .val (.int p5), .val (.ref b11), .val (.ref b15), .val (.ref b19), .val (.int (1 : Int32)), .val (.int (0 : Int32)), .val (.ref b45), .val (.int (1 : Int32)), .val (.ref b15), .unset] [(.int (0 : Int32)), (.ref b19), (.int p2)])) (fun _ k_ => XS.iconst X48.here hx rfl (hb hby at_171) k_) ?_
      refine Go.st (S' := T48.setTop (mkF m 173 #[.val (.int p0), .val (.int p1), .val (.int p2), .val (.long q3), .second, .val (.int p4), .val (.int p5), .val (.ref b11), .val (.ref b15), .val (.ref b19), .val (.int (1 : Int32)), .val (.int (0 : Int32)), .val (.ref b45), .val (.int (1 : Int32)), .val (.ref b15), .unset] [(.int nq0), (.int p2)])) (A_b19.load X48 hx hZ e48 (j := (0 : Int32)) (v := nq0) (by decide) rfl (g := (mkF m 172 #[.val (.int p0), .val (.int p1), .val (.int p2), .val (.long q3), .second, .val (.int p4), .val (.int p5), .val (.ref b11), .val (.ref b15), .val (.ref b19), .val (.int (1 : Int32)), .val (.int (0 : Int32)), .val (.ref b45), .val (.int (1 : Int32)), .val (.ref b15), .unset] [(.int (0 : Int32)), (.ref b19), (.int p2)])) rfl rfl (hb hby at_172)) ?_
      obtain ⟨v49, T49, h49, L49, X49, e49, hQ49, st49⟩ := callSt X48 hx hZ hown (w80 hw) (w81 hw) (w82 hw) (w83 hw) (by decide) (W := 0) (argsL := [(.int p2), (.int nq0)]) (rest := []) e48 (rm_fits l Z a0 hw p2 nq0 h48 n0 Z0) (by decide) (by decide) pd7 rfl (g := (mkF m 173 #[.val (.int p0), .val (.int p1), .val (.int p2), .val (.long q3), .second, .val (.int p4), .val (.int p5), .val (.ref b11), .val (.ref b15), .val (.ref b19), .val (.int (1 : Int32)), .val (.int (0 : Int32)), .val (.ref b45), .val (.int (1 : Int32)), .val (.ref b15), .unset] [(.int nq0), (.int p2)])) rfl (by rw [hml]; rfl) rfl (by show 2 * 0 + _ ≤ _; exact Nat.le_of_eq rfl) (hb hby at_173) (by decide) (by decide)
      obtain ⟨rfl, Nq49, hh49⟩ := hQ49
      rw [hh49] at e49
      have N49 := Fr.app N48 Nq49
      refine Go.st (S' := T49.setTop (mkF m 176 #[.val (.int p0), .val (.int p1), .val (.int p2), .val (.long q3), .second, .val (.int p4), .val (.int p5), .val (.ref b11), .val (.ref b15), .val (.ref b19), .val (.int (1 : Int32)), .val (.int (0 : Int32)), .val (.ref b45), .val (.int (1 : Int32)), .val (.ref b15), .unset] [(.int (if (p2 = 0 ∨ ¬ nq0 < p2) then (1 : Int32) else (0 : Int32)))])) (st49) ?_
      by_cases hc176 : (p2 = 0 ∨ ¬ nq0 < p2)
      · skip
        refine Go.st (S' := T49.setTop (mkF m 179 #[.val (.int p0), .val (.int p1), .val (.int p2), .val (.long q3), .second, .val (.int p4), .val (.int p5), .val (.ref b11), .val (.ref b15), .val (.ref b19), .val (.int (1 : Int32)), .val (.int (0 : Int32)), .val (.ref b45), .val (.int (1 : Int32)), .val (.ref b15), .unset] [])) (fun _ k_ => XS.ifNo X49.here hx rfl (hb hby at_176) rfl ((if0 _ _).trans (feq (own_if1 hc176)).1) k_) ?_
        refine Go.st (S' := T49.setTop (mkF m 181 #[.val (.int p0), .val (.int p1), .val (.int p2), .val (.long q3), .second, .val (.int p4), .val (.int p5), .val (.ref b11), .val (.ref b15), .val (.ref b19), .val (.int (1 : Int32)), .val (.int (0 : Int32)), .val (.ref b45), .val (.int (1 : Int32)), .val (.ref b15), .unset] [(.ref b15)])) (fun _ k_ => XS.aload X49.here hx rfl (hb hby at_179) rfl rfl k_) ?_
        refine Go.st (S' := T49.setTop (mkF m 182 #[.val (.int p0), .val (.int p1), .val (.int p2), .val (.long q3), .second, .val (.int p4), .val (.int p5), .val (.ref b11), .val (.ref b15), .val (.ref b19), .val (.int (1 : Int32)), .val (.int (0 : Int32)), .val (.ref b45), .val (.int (1 : Int32)), .val (.ref b15), .unset] [(.int (1 : Int32)), (.ref b15)])) (fun _ k_ => XS.iconst X49.here hx rfl (hb hby at_181) k_) ?_
        refine Go.st (S' := T49.setTop (mkF m 183 #[.val (.int p0), .val (.int p1), .val (.int p2), .val (.long q3), .second, .val (.int p4), .val (.int p5), .val (.ref b11), .val (.ref b15), .val (.ref b19), .val (.int (1 : Int32)), .val (.int (0 : Int32)), .val (.ref b45), .val (.int (1 : Int32)), .val (.ref b15), .unset] [(.int p0)])) (A_b15.load X49 hx hZ e49 (j := (1 : Int32)) (v := p0) (by decide) rfl (g := (mkF m 182 #[.val (.int p0), .val (.int p1), .val (.int p2), .val (.long q3), .second, .val (.int p4), .val (.int p5), .val (.ref b11), .val (.ref b15), .val (.ref b19), .val (.int (1 : Int32)), .val (.int (0 : Int32)), .val (.ref b45), .val (.int (1 : Int32)), .val (.ref b15), .unset] [(.int (1 : Int32)), (.ref b15)])) rfl rfl (hb hby at_182)) ?_
        refine Go.st (S' := T49.setTop (mkF m 185 #[.val (.int p0), .val (.int p1), .val (.int p2), .val (.long q3), .second, .val (.int p4), .val (.int p5), .val (.ref b11), .val (.ref b15), .val (.ref b19), .val (.int (1 : Int32)), .val (.int (0 : Int32)), .val (.ref b45), .val (.int (1 : Int32)), .val (.ref b15), .unset] [(.ref b19), (.int p0)])) (fun _ k_ => XS.aload X49.here hx rfl (hb hby at_183) rfl rfl k_) ?_
        refine Go.st (S' := T49.setTop (mkF m 186 #[.val (.int p0), .val (.int p1), .val (.int p2), .val (.long q3), .second, .val (.int p4), .val (.int p5), .val (.ref b11), .val (.ref b15), .val (.ref b19), .val (.int (1 : Int32)), .val (.int (0 : Int32)), .val (.ref b45), .val (.int (1 : Int32)), .val (.ref b15), .unset] [(.int (1 : Int32)), (.ref b19), (.int p0)])) (fun _ k_ => XS.iconst X49.here hx rfl (hb hby at_185) k_) ?_
        refine Go.st (S' := T49.setTop (mkF m 187 #[.val (.int p0), .val (.int p1), .val (.int p2), .val (.long q3), .second, .val (.int p4), .val (.int p5), .val (.ref b11), .val (.ref b15), .val (.ref b19), .val (.int (1 : Int32)), .val (.int (0 : Int32)), .val (.ref b45), .val (.int (1 : Int32)), .val (.ref b15), .unset] [(.int nq1), (.int p0)])) (A_b19.load X49 hx hZ e49 (j := (1 : Int32)) (v := nq1) (by decide) rfl (g := (mkF m 186 #[.val (.int p0), .val (.int p1), .val (.int p2), .val (.long q3), .second, .val (.int p4), .val (.int p5), .val (.ref b11), .val (.ref b15), .val (.ref b19), .val (.int (1 : Int32)), .val (.int (0 : Int32)), .val (.ref b45), .val (.int (1 : Int32)), .val (.ref b15), .unset] [(.int (1 : Int32)), (.ref b19), (.int p0)])) rfl rfl (hb hby at_186)) ?_
        obtain ⟨v50, T50, h50, L50, X50, e50, hQ50, st50⟩ := callSt X49 hx hZ hown (w80 hw) (w81 hw) (w82 hw) (w83 hw) (by decide) (W := 0) (argsL := [(.int p0), (.int nq1)]) (rest := []) e49 (rm_fits l Z a0 hw p0 nq1 h48 n0 Z0) (by decide) (by decide) pd7 rfl (g := (mkF m 187 #[.val (.int p0), .val (.int p1), .val (.int p2), .val (.long q3), .second, .val (.int p4), .val (.int p5), .val (.ref b11), .val (.ref b15), .val (.ref b19), .val (.int (1 : Int32)), .val (.int (0 : Int32)), .val (.ref b45), .val (.int (1 : Int32)), .val (.ref b15), .unset] [(.int nq1), (.int p0)])) rfl (by rw [hml]; rfl) rfl (by show 2 * 0 + _ ≤ _; exact Nat.le_of_eq rfl) (hb hby at_187) (by decide) (by decide)
        obtain ⟨rfl, Nq50, hh50⟩ := hQ50
        rw [hh50] at e50
        have N50 := Fr.app N49 Nq50
        refine Go.st (S' := T50.setTop (mkF m 190 #[.val (.int p0), .val (.int p1), .val (.int p2), .val (.long q3), .second, .val (.int p4), .val (.int p5), .val (.ref b11), .val (.ref b15), .val (.ref b19), .val (.int (1 : Int32)), .val (.int (0 : Int32)), .val (.ref b45), .val (.int (1 : Int32)), .val (.ref b15), .unset] [(.int (if (p0 = 0 ∨ ¬ nq1 < p0) then (1 : Int32) else (0 : Int32)))])) (st50) ?_
        by_cases hc190 : (p0 = 0 ∨ ¬ nq1 < p0)
        · skip
          refine Go.st (S' := T50.setTop (mkF m 193 #[.val (.int p0), .val (.int p1), .val (.int p2), .val (.long q3), .second, .val (.int p4), .val (.int p5), .val (.ref b11), .val (.ref b15), .val (.ref b19), .val (.int (1 : Int32)), .val (.int (0 : Int32)), .val (.ref b45), .val (.int (1 : Int32)), .val (.ref b15), .unset] [])) (fun _ k_ => XS.ifNo X50.here hx rfl (hb hby at_190) rfl ((if0 _ _).trans (feq (own_if1 hc190)).1) k_) ?_
          refine Go.st (S' := T50.setTop (mkF m 195 #[.val (.int p0), .val (.int p1), .val (.int p2), .val (.long q3), .second, .val (.int p4), .val (.int p5), .val (.ref b11), .val (.ref b15), .val (.ref b19), .val (.int (1 : Int32)), .val (.int (0 : Int32)), .val (.ref b45), .val (.int (1 : Int32)), .val (.ref b15), .unset] [(.ref b15)])) (fun _ k_ => XS.aload X50.here hx rfl (hb hby at_193) rfl rfl k_) ?_
          refine Go.st (S' := T50.setTop (mkF m 196 #[.val (.int p0), .val (.int p1), .val (.int p2), .val (.long q3), .second, .val (.int p4), .val (.int p5), .val (.ref b11), .val (.ref b15), .val (.ref b19), .val (.int (1 : Int32)), .val (.int (0 : Int32)), .val (.ref b45), .val (.int (1 : Int32)), .val (.ref b15), .unset] [(.int (2 : Int32)), (.ref b15)])) (fun _ k_ => XS.iconst X50.here hx rfl (hb hby at_195) k_) ?_
          refine Go.st (S' := T50.setTop (mkF m 197 #[.val (.int p0), .val (.int p1), .val (.int p2), .val (.long q3), .second, .val (.int p4), .val (.int p5), .val (.ref b11), .val (.ref b15), .val (.ref b19), .val (.int (1 : Int32)), .val (.int (0 : Int32)), .val (.ref b45), .val (.int (1 : Int32)), .val (.ref b15), .unset] [(.int nt2)])) (A_b15.load X50 hx hZ e50 (j := (2 : Int32)) (v := nt2) (by decide) rfl (g := (mkF m 196 #[.val (.int p0), .val (.int p1), .val (.int p2), .val (.long q3), .second, .val (.int p4), .val (.int p5), .val (.ref b11), .val (.ref b15), .val (.ref b19), .val (.int (1 : Int32)), .val (.int (0 : Int32)), .val (.ref b45), .val (.int (1 : Int32)), .val (.ref b15), .unset] [(.int (2 : Int32)), (.ref b15)])) rfl rfl (hb hby at_196)) ?_
          refine Go.st (S' := T50.setTop (mkF m 199 #[.val (.int p0), .val (.int p1), .val (.int p2), .val (.long q3), .second, .val (.int p4), .val (.int p5), .val (.ref b11), .val (.ref b15), .val (.ref b19), .val (.int (1 : Int32)), .val (.int (0 : Int32)), .val (.ref b45), .val (.int (1 : Int32)), .val (.ref b15), .unset] [(.ref b19), (.int nt2)])) (fun _ k_ => XS.aload X50.here hx rfl (hb hby at_197) rfl rfl k_) ?_
          refine Go.st (S' := T50.setTop (mkF m 200 #[.val (.int p0), .val (.int p1), .val (.int p2), .val (.long q3), .second, .val (.int p4), .val (.int p5), .val (.ref b11), .val (.ref b15), .val (.ref b19), .val (.int (1 : Int32)), .val (.int (0 : Int32)), .val (.ref b45), .val (.int (1 : Int32)), .val (.ref b15), .unset] [(.int (2 : Int32)), (.ref b19), (.int nt2)])) (fun _ k_ => XS.iconst X50.here hx rfl (hb hby at_199) k_) ?_
          refine Go.st (S' := T50.setTop (mkF m 201 #[.val (.int p0), .val (.int p1), .val (.int p2), .val (.long q3), .second, .val (.int p4), .val (.int p5), .val (.ref b11), .val (.ref b15), .val (.ref b19), .val (.int (1 : Int32)), .val (.int (0 : Int32)), .val (.ref b45), .val (.int (1 : Int32)), .val (.ref b15), .unset] [(.int p4), (.int nt2)])) (A_b19.load X50 hx hZ e50 (j := (2 : Int32)) (v := p4) (by decide) rfl (g := (mkF m 200 #[.val (.int p0), .val (.int p1), .val (.int p2), .val (.long q3), .second, .val (.int p4), .val (.int p5), .val (.ref b11), .val (.ref b15), .val (.ref b19), .val (.int (1 : Int32)), .val (.int (0 : Int32)), .val (.ref b45), .val (.int (1 : Int32)), .val (.ref b15), .unset] [(.int (2 : Int32)), (.ref b19), (.int nt2)])) rfl rfl (hb hby at_200)) ?_
          obtain ⟨v51, T51, h51, L51, X51, e51, hQ51, st51⟩ := callSt X50 hx hZ hown (w80 hw) (w81 hw) (w82 hw) (w83 hw) (by decide) (W := 0) (argsL := [(.int nt2), (.int p4)]) (rest := []) e50 (rm_fits l Z a0 hw nt2 p4 h48 n0 Z0) (by decide) (by decide) pd7 rfl (g := (mkF m 201 #[.val (.int p0), .val (.int p1), .val (.int p2), .val (.long q3), .second, .val (.int p4), .val (.int p5), .val (.ref b11), .val (.ref b15), .val (.ref b19), .val (.int (1 : Int32)), .val (.int (0 : Int32)), .val (.ref b45), .val (.int (1 : Int32)), .val (.ref b15), .unset] [(.int p4), (.int nt2)])) rfl (by rw [hml]; rfl) rfl (by show 2 * 0 + _ ≤ _; exact Nat.le_of_eq rfl) (hb hby at_201) (by decide) (by decide)
          obtain ⟨rfl, Nq51, hh51⟩ := hQ51
          rw [hh51] at e51
          have N51 := Fr.app N50 Nq51
          refine Go.st (S' := T51.setTop (mkF m 204 #[.val (.int p0), .val (.int p1), .val (.int p2), .val (.long q3), .second, .val (.int p4), .val (.int p5), .val (.ref b11), .val (.ref b15), .val (.ref b19), .val (.int (1 : Int32)), .val (.int (0 : Int32)), .val (.ref b45), .val (.int (1 : Int32)), .val (.ref b15), .unset] [(.int (if (nt2 = 0 ∨ ¬ p4 < nt2) then (1 : Int32) else (0 : Int32)))])) (st51) ?_
          by_cases hc204 : (nt2 = 0 ∨ ¬ p4 < nt2)
          · skip
            refine Go.st (S' := T51.setTop (mkF m 207 #[.val (.int p0), .val (.int p1), .val (.int p2), .val (.long q3), .second, .val (.int p4), .val (.int p5), .val (.ref b11), .val (.ref b15), .val (.ref b19), .val (.int (1 : Int32)), .val (.int (0 : Int32)), .val (.ref b45), .val (.int (1 : Int32)), .val (.ref b15), .unset] [])) (fun _ k_ => XS.ifNo X51.here hx rfl (hb hby at_204) rfl ((if0 _ _).trans (feq (own_if1 hc204)).1) k_) ?_
            refine Go.st (S' := T51.setTop (mkF m 208 #[.val (.int p0), .val (.int p1), .val (.int p2), .val (.long q3), .second, .val (.int p4), .val (.int p5), .val (.ref b11), .val (.ref b15), .val (.ref b19), .val (.int (1 : Int32)), .val (.int (0 : Int32)), .val (.ref b45), .val (.int (1 : Int32)), .val (.ref b15), .unset] [(.int (1 : Int32))])) (fun _ k_ => XS.iconst X51.here hx rfl (hb hby at_207) k_) ?_
            refine Go.st (S' := T51.setTop (mkF m 212 #[.val (.int p0), .val (.int p1), .val (.int p2), .val (.long q3), .second, .val (.int p4), .val (.int p5), .val (.ref b11), .val (.ref b15), .val (.ref b19), .val (.int (1 : Int32)), .val (.int (0 : Int32)), .val (.ref b45), .val (.int (1 : Int32)), .val (.ref b15), .unset] [(.int (1 : Int32))])) (fun _ k_ => XS.goto X51.here hx rfl (pc0 := 208) (pc' := 212) rfl (hb hby at_208) (by decide) (by decide) k_) ?_
            refine Go.st (S' := T51.setTop (mkF m 214 #[.val (.int p0), .val (.int p1), .val (.int p2), .val (.long q3), .second, .val (.int p4), .val (.int p5), .val (.ref b11), .val (.ref b15), .val (.ref b19), .val (.int (1 : Int32)), .val (.int (0 : Int32)), .val (.ref b45), .val (.int (1 : Int32)), .val (.ref b15), .val (.int (1 : Int32))] [])) (fun _ k_ => XS.istore X51.here hx rfl (hb hby at_212) rfl (l' := #[.val (.int p0), .val (.int p1), .val (.int p2), .val (.long q3), .second, .val (.int p4), .val (.int p5), .val (.ref b11), .val (.ref b15), .val (.ref b19), .val (.int (1 : Int32)), .val (.int (0 : Int32)), .val (.ref b45), .val (.int (1 : Int32)), .val (.ref b15), .val (.int (1 : Int32))]) rfl k_) ?_
            refine Go.st (S' := T51.setTop (mkF m 216 #[.val (.int p0), .val (.int p1), .val (.int p2), .val (.long q3), .second, .val (.int p4), .val (.int p5), .val (.ref b11), .val (.ref b15), .val (.ref b19), .val (.int (1 : Int32)), .val (.int (0 : Int32)), .val (.ref b45), .val (.int (1 : Int32)), .val (.ref b15), .val (.int (1 : Int32))] [(.ref b45)])) (fun _ k_ => XS.aload X51.here hx rfl (hb hby at_214) rfl rfl k_) ?_
            refine Go.st (S' := T51.setTop (mkF m 218 #[.val (.int p0), .val (.int p1), .val (.int p2), .val (.long q3), .second, .val (.int p4), .val (.int p5), .val (.ref b11), .val (.ref b15), .val (.ref b19), .val (.int (1 : Int32)), .val (.int (0 : Int32)), .val (.ref b45), .val (.int (1 : Int32)), .val (.ref b15), .val (.int (1 : Int32))] [(.int (1 : Int32)), (.ref b45)])) (fun _ k_ => XS.iload X51.here hx rfl (hb hby at_216) rfl k_) ?_
            refine Go.st (S' := T51.setTop (mkF m 220 #[.val (.int p0), .val (.int p1), .val (.int p2), .val (.long q3), .second, .val (.int p4), .val (.int p5), .val (.ref b11), .val (.ref b15), .val (.ref b19), .val (.int (1 : Int32)), .val (.int (0 : Int32)), .val (.ref b45), .val (.int (1 : Int32)), .val (.ref b15), .val (.int (1 : Int32))] [(.ref b19), (.int (1 : Int32)), (.ref b45)])) (fun _ k_ => XS.aload X51.here hx rfl (hb hby at_218) rfl rfl k_) ?_
            obtain ⟨v52, T52, h52, L52, X52, e52, hQ52, st52⟩ := callVi X51 hx hZ hown (w84 hw) (w85 hw) (w87 hw) (w86 hw) (w3 hw) (w88 hw) (by decide) (W := 0) (argsL := [(.int (1 : Int32)), (.ref b19)]) (rest := []) e51 HM.1 (mt_most l Z a0 hw b45 pr46 prb46 ss46 ssb46 hs46 hsb46 sl46 (([] ++ own_flat (own_ps (p0) (p1) (p2))) ++ own_flat (own_ps (p2) (p0) (nt2))) (([0] ++ [([] ++ own_flat (own_ps (p0) (p1) (p2))).length.toInt32]) ++ [(([] ++ own_flat (own_ps (p0) (p1) (p2))) ++ own_flat (own_ps (p2) (p0) (nt2))).length.toInt32]) (([] ++ [hv47]) ++ [hv48]) zt48 1 (([] ++ own_flat (own_ps (p0) (p1) (p2))) ++ own_flat (own_ps (p2) (p0) (nt2))).length ([] ++ own_flat (own_ps (p0) (p1) (p2))) [] (own_ps (p2) (p0) (nt2)) b19 (nq0) (nq1) (p4) h48 n0 Z0 HM hd (by simp) rfl rfl rfl (by decide) A_b19 (own_psin _ _ _)) (by decide) (by decide) pd8 rfl (g := (mkF m 220 #[.val (.int p0), .val (.int p1), .val (.int p2), .val (.long q3), .second, .val (.int p4), .val (.int p5), .val (.ref b11), .val (.ref b15), .val (.ref b19), .val (.int (1 : Int32)), .val (.int (0 : Int32)), .val (.ref b45), .val (.int (1 : Int32)), .val (.ref b15), .val (.int (1 : Int32))] [(.ref b19), (.int (1 : Int32)), (.ref b45)])) rfl (by rw [hml]; rfl) rfl (by show 2 * 0 + _ ≤ _; exact Nat.le_of_eq rfl) (hb hby at_220) (by decide) (by decide)
            obtain ⟨rfl, Nq52, hh52⟩ := hQ52
            rw [hh52] at e52
            have N52 := Fr.app N51 Nq52
            refine Go.st (S' := T52.setTop (mkF m 223 #[.val (.int p0), .val (.int p1), .val (.int p2), .val (.long q3), .second, .val (.int p4), .val (.int p5), .val (.ref b11), .val (.ref b15), .val (.ref b19), .val (.int (1 : Int32)), .val (.int (0 : Int32)), .val (.ref b45), .val (.int (1 : Int32)), .val (.ref b15), .val (.int (1 : Int32))] [(.int (if own_all (own_ps (p2) (p0) (nt2)) [nq0, nq1, p4] = true then (1 : Int32) else (0 : Int32)))])) (st52) ?_
            refine Go.st (S' := T52.setTop (mkF m 225 #[.val (.int p0), .val (.int p1), .val (.int p2), .val (.long q3), .second, .val (.int p4), .val (.int p5), .val (.ref b11), .val (.ref b15), .val (.ref b19), .val (.int (1 : Int32)), .val (.int (0 : Int32)), .val (.ref b45), .val (.int (1 : Int32)), .val (.ref b15), .val (.int (1 : Int32))] [(.int (1 : Int32)), (.int (if own_all (own_ps (p2) (p0) (nt2)) [nq0, nq1, p4] = true then (1 : Int32) else (0 : Int32)))])) (fun _ k_ => XS.iload X52.here hx rfl (hb hby at_223) rfl k_) ?_
            refine Go.st (S' := T52.setTop (mkF m 228 #[.val (.int p0), .val (.int p1), .val (.int p2), .val (.long q3), .second, .val (.int p4), .val (.int p5), .val (.ref b11), .val (.ref b15), .val (.ref b19), .val (.int (1 : Int32)), .val (.int (0 : Int32)), .val (.ref b45), .val (.int (1 : Int32)), .val (.ref b15), .val (.int (1 : Int32))] [])) (fun _ k_ => XS.icmpNo X52.here hx rfl (hb hby at_225) rfl (teq (if_pos ((own_allf _ _ _ _ _ _).mpr ⟨hc176, hc190, hc204⟩))).2 k_) ?_
            refine Go.st (S' := T52.setTop (mkF m 229 #[.val (.int p0), .val (.int p1), .val (.int p2), .val (.long q3), .second, .val (.int p4), .val (.int p5), .val (.ref b11), .val (.ref b15), .val (.ref b19), .val (.int (1 : Int32)), .val (.int (0 : Int32)), .val (.ref b45), .val (.int (1 : Int32)), .val (.ref b15), .val (.int (1 : Int32))] [(.int (1 : Int32))])) (fun _ k_ => XS.iconst X52.here hx rfl (hb hby at_228) k_) ?_
            refine Go.st (S' := T52.setTop (mkF m 233 #[.val (.int p0), .val (.int p1), .val (.int p2), .val (.long q3), .second, .val (.int p4), .val (.int p5), .val (.ref b11), .val (.ref b15), .val (.ref b19), .val (.int (1 : Int32)), .val (.int (0 : Int32)), .val (.ref b45), .val (.int (1 : Int32)), .val (.ref b15), .val (.int (1 : Int32))] [(.int (1 : Int32))])) (fun _ k_ => XS.goto X52.here hx rfl (pc0 := 229) (pc' := 233) rfl (hb hby at_229) (by decide) (by decide) k_) ?_
            exact Go.retN X52 hx (t := .boolean) hret (by simp) hlk (hb hby at_233) (by decide) (by decide) ⟨rfl, N52⟩
          · skip
            refine Go.st (S' := T51.setTop (mkF m 211 #[.val (.int p0), .val (.int p1), .val (.int p2), .val (.long q3), .second, .val (.int p4), .val (.int p5), .val (.ref b11), .val (.ref b15), .val (.ref b19), .val (.int (1 : Int32)), .val (.int (0 : Int32)), .val (.ref b45), .val (.int (1 : Int32)), .val (.ref b15), .unset] [])) (fun _ k_ => XS.ifYes X51.here hx rfl (pc0 := 204) (pc' := 211) rfl (hb hby at_204) rfl ((if0 _ _).trans (teq (own_if0 hc204)).1) (by decide) (by decide) k_) ?_
            refine Go.st (S' := T51.setTop (mkF m 212 #[.val (.int p0), .val (.int p1), .val (.int p2), .val (.long q3), .second, .val (.int p4), .val (.int p5), .val (.ref b11), .val (.ref b15), .val (.ref b19), .val (.int (1 : Int32)), .val (.int (0 : Int32)), .val (.ref b45), .val (.int (1 : Int32)), .val (.ref b15), .unset] [(.int (0 : Int32))])) (fun _ k_ => XS.iconst X51.here hx rfl (hb hby at_211) k_) ?_
            refine Go.st (S' := T51.setTop (mkF m 214 #[.val (.int p0), .val (.int p1), .val (.int p2), .val (.long q3), .second, .val (.int p4), .val (.int p5), .val (.ref b11), .val (.ref b15), .val (.ref b19), .val (.int (1 : Int32)), .val (.int (0 : Int32)), .val (.ref b45), .val (.int (1 : Int32)), .val (.ref b15), .val (.int (0 : Int32))] [])) (fun _ k_ => XS.istore X51.here hx rfl (hb hby at_212) rfl (l' := #[.val (.int p0), .val (.int p1), .val (.int p2), .val (.long q3), .second, .val (.int p4), .val (.int p5), .val (.ref b11), .val (.ref b15), .val (.ref b19), .val (.int (1 : Int32)), .val (.int (0 : Int32)), .val (.ref b45), .val (.int (1 : Int32)), .val (.ref b15), .val (.int (0 : Int32))]) rfl k_) ?_
            refine Go.st (S' := T51.setTop (mkF m 216 #[.val (.int p0), .val (.int p1), .val (.int p2), .val (.long q3), .second, .val (.int p4), .val (.int p5), .val (.ref b11), .val (.ref b15), .val (.ref b19), .val (.int (1 : Int32)), .val (.int (0 : Int32)), .val (.ref b45), .val (.int (1 : Int32)), .val (.ref b15), .val (.int (0 : Int32))] [(.ref b45)])) (fun _ k_ => XS.aload X51.here hx rfl (hb hby at_214) rfl rfl k_) ?_
            refine Go.st (S' := T51.setTop (mkF m 218 #[.val (.int p0), .val (.int p1), .val (.int p2), .val (.long q3), .second, .val (.int p4), .val (.int p5), .val (.ref b11), .val (.ref b15), .val (.ref b19), .val (.int (1 : Int32)), .val (.int (0 : Int32)), .val (.ref b45), .val (.int (1 : Int32)), .val (.ref b15), .val (.int (0 : Int32))] [(.int (1 : Int32)), (.ref b45)])) (fun _ k_ => XS.iload X51.here hx rfl (hb hby at_216) rfl k_) ?_
            refine Go.st (S' := T51.setTop (mkF m 220 #[.val (.int p0), .val (.int p1), .val (.int p2), .val (.long q3), .second, .val (.int p4), .val (.int p5), .val (.ref b11), .val (.ref b15), .val (.ref b19), .val (.int (1 : Int32)), .val (.int (0 : Int32)), .val (.ref b45), .val (.int (1 : Int32)), .val (.ref b15), .val (.int (0 : Int32))] [(.ref b19), (.int (1 : Int32)), (.ref b45)])) (fun _ k_ => XS.aload X51.here hx rfl (hb hby at_218) rfl rfl k_) ?_
            obtain ⟨v53, T53, h53, L53, X53, e53, hQ53, st53⟩ := callVi X51 hx hZ hown (w84 hw) (w85 hw) (w87 hw) (w86 hw) (w3 hw) (w88 hw) (by decide) (W := 0) (argsL := [(.int (1 : Int32)), (.ref b19)]) (rest := []) e51 HM.1 (mt_most l Z a0 hw b45 pr46 prb46 ss46 ssb46 hs46 hsb46 sl46 (([] ++ own_flat (own_ps (p0) (p1) (p2))) ++ own_flat (own_ps (p2) (p0) (nt2))) (([0] ++ [([] ++ own_flat (own_ps (p0) (p1) (p2))).length.toInt32]) ++ [(([] ++ own_flat (own_ps (p0) (p1) (p2))) ++ own_flat (own_ps (p2) (p0) (nt2))).length.toInt32]) (([] ++ [hv47]) ++ [hv48]) zt48 1 (([] ++ own_flat (own_ps (p0) (p1) (p2))) ++ own_flat (own_ps (p2) (p0) (nt2))).length ([] ++ own_flat (own_ps (p0) (p1) (p2))) [] (own_ps (p2) (p0) (nt2)) b19 (nq0) (nq1) (p4) h48 n0 Z0 HM hd (by simp) rfl rfl rfl (by decide) A_b19 (own_psin _ _ _)) (by decide) (by decide) pd8 rfl (g := (mkF m 220 #[.val (.int p0), .val (.int p1), .val (.int p2), .val (.long q3), .second, .val (.int p4), .val (.int p5), .val (.ref b11), .val (.ref b15), .val (.ref b19), .val (.int (1 : Int32)), .val (.int (0 : Int32)), .val (.ref b45), .val (.int (1 : Int32)), .val (.ref b15), .val (.int (0 : Int32))] [(.ref b19), (.int (1 : Int32)), (.ref b45)])) rfl (by rw [hml]; rfl) rfl (by show 2 * 0 + _ ≤ _; exact Nat.le_of_eq rfl) (hb hby at_220) (by decide) (by decide)
            obtain ⟨rfl, Nq53, hh53⟩ := hQ53
            rw [hh53] at e53
            have N53 := Fr.app N51 Nq53
            refine Go.st (S' := T53.setTop (mkF m 223 #[.val (.int p0), .val (.int p1), .val (.int p2), .val (.long q3), .second, .val (.int p4), .val (.int p5), .val (.ref b11), .val (.ref b15), .val (.ref b19), .val (.int (1 : Int32)), .val (.int (0 : Int32)), .val (.ref b45), .val (.int (1 : Int32)), .val (.ref b15), .val (.int (0 : Int32))] [(.int (if own_all (own_ps (p2) (p0) (nt2)) [nq0, nq1, p4] = true then (1 : Int32) else (0 : Int32)))])) (st53) ?_
            refine Go.st (S' := T53.setTop (mkF m 225 #[.val (.int p0), .val (.int p1), .val (.int p2), .val (.long q3), .second, .val (.int p4), .val (.int p5), .val (.ref b11), .val (.ref b15), .val (.ref b19), .val (.int (1 : Int32)), .val (.int (0 : Int32)), .val (.ref b45), .val (.int (1 : Int32)), .val (.ref b15), .val (.int (0 : Int32))] [(.int (0 : Int32)), (.int (if own_all (own_ps (p2) (p0) (nt2)) [nq0, nq1, p4] = true then (1 : Int32) else (0 : Int32)))])) (fun _ k_ => XS.iload X53.here hx rfl (hb hby at_223) rfl k_) ?_
            refine Go.st (S' := T53.setTop (mkF m 228 #[.val (.int p0), .val (.int p1), .val (.int p2), .val (.long q3), .second, .val (.int p4), .val (.int p5), .val (.ref b11), .val (.ref b15), .val (.ref b19), .val (.int (1 : Int32)), .val (.int (0 : Int32)), .val (.ref b45), .val (.int (1 : Int32)), .val (.ref b15), .val (.int (0 : Int32))] [])) (fun _ k_ => XS.icmpNo X53.here hx rfl (hb hby at_225) rfl (teq (if_neg (fun z => hc204 ((own_allf _ _ _ _ _ _).mp z).2.2))).2 k_) ?_
            refine Go.st (S' := T53.setTop (mkF m 229 #[.val (.int p0), .val (.int p1), .val (.int p2), .val (.long q3), .second, .val (.int p4), .val (.int p5), .val (.ref b11), .val (.ref b15), .val (.ref b19), .val (.int (1 : Int32)), .val (.int (0 : Int32)), .val (.ref b45), .val (.int (1 : Int32)), .val (.ref b15), .val (.int (0 : Int32))] [(.int (1 : Int32))])) (fun _ k_ => XS.iconst X53.here hx rfl (hb hby at_228) k_) ?_
            refine Go.st (S' := T53.setTop (mkF m 233 #[.val (.int p0), .val (.int p1), .val (.int p2), .val (.long q3), .second, .val (.int p4), .val (.int p5), .val (.ref b11), .val (.ref b15), .val (.ref b19), .val (.int (1 : Int32)), .val (.int (0 : Int32)), .val (.ref b45), .val (.int (1 : Int32)), .val (.ref b15), .val (.int (0 : Int32))] [(.int (1 : Int32))])) (fun _ k_ => XS.goto X53.here hx rfl (pc0 := 229) (pc' := 233) rfl (hb hby at_229) (by decide) (by decide) k_) ?_
            exact Go.retN X53 hx (t := .boolean) hret (by simp) hlk (hb hby at_233) (by decide) (by decide) ⟨rfl, N53⟩
        · skip
          refine Go.st (S' := T50.setTop (mkF m 211 #[.val (.int p0), .val (.int p1), .val (.int p2), .val (.long q3), .second, .val (.int p4), .val (.int p5), .val (.ref b11), .val (.ref b15), .val (.ref b19), .val (.int (1 : Int32)), .val (.int (0 : Int32)), .val (.ref b45), .val (.int (1 : Int32)), .val (.ref b15), .unset] [])) (fun _ k_ => XS.ifYes X50.here hx rfl (pc0 := 190) (pc' := 211) rfl (hb hby at_190) rfl ((if0 _ _).trans (teq (own_if0 hc190)).1) (by decide) (by decide) k_) ?_
          refine Go.st (S' := T50.setTop (mkF m 212 #[.val (.int p0), .val (.int p1), .val (.int p2), .val (.long q3), .second, .val (.int p4), .val (.int p5), .val (.ref b11), .val (.ref b15), .val (.ref b19), .val (.int (1 : Int32)), .val (.int (0 : Int32)), .val (.ref b45), .val (.int (1 : Int32)), .val (.ref b15), .unset] [(.int (0 : Int32))])) (fun _ k_ => XS.iconst X50.here hx rfl (hb hby at_211) k_) ?_
          refine Go.st (S' := T50.setTop (mkF m 214 #[.val (.int p0), .val (.int p1), .val (.int p2), .val (.long q3), .second, .val (.int p4), .val (.int p5), .val (.ref b11), .val (.ref b15), .val (.ref b19), .val (.int (1 : Int32)), .val (.int (0 : Int32)), .val (.ref b45), .val (.int (1 : Int32)), .val (.ref b15), .val (.int (0 : Int32))] [])) (fun _ k_ => XS.istore X50.here hx rfl (hb hby at_212) rfl (l' := #[.val (.int p0), .val (.int p1), .val (.int p2), .val (.long q3), .second, .val (.int p4), .val (.int p5), .val (.ref b11), .val (.ref b15), .val (.ref b19), .val (.int (1 : Int32)), .val (.int (0 : Int32)), .val (.ref b45), .val (.int (1 : Int32)), .val (.ref b15), .val (.int (0 : Int32))]) rfl k_) ?_
          refine Go.st (S' := T50.setTop (mkF m 216 #[.val (.int p0), .val (.int p1), .val (.int p2), .val (.long q3), .second, .val (.int p4), .val (.int p5), .val (.ref b11), .val (.ref b15), .val (.ref b19), .val (.int (1 : Int32)), .val (.int (0 : Int32)), .val (.ref b45), .val (.int (1 : Int32)), .val (.ref b15), .val (.int (0 : Int32))] [(.ref b45)])) (fun _ k_ => XS.aload X50.here hx rfl (hb hby at_214) rfl rfl k_) ?_
          refine Go.st (S' := T50.setTop (mkF m 218 #[.val (.int p0), .val (.int p1), .val (.int p2), .val (.long q3), .second, .val (.int p4), .val (.int p5), .val (.ref b11), .val (.ref b15), .val (.ref b19), .val (.int (1 : Int32)), .val (.int (0 : Int32)), .val (.ref b45), .val (.int (1 : Int32)), .val (.ref b15), .val (.int (0 : Int32))] [(.int (1 : Int32)), (.ref b45)])) (fun _ k_ => XS.iload X50.here hx rfl (hb hby at_216) rfl k_) ?_
          refine Go.st (S' := T50.setTop (mkF m 220 #[.val (.int p0), .val (.int p1), .val (.int p2), .val (.long q3), .second, .val (.int p4), .val (.int p5), .val (.ref b11), .val (.ref b15), .val (.ref b19), .val (.int (1 : Int32)), .val (.int (0 : Int32)), .val (.ref b45), .val (.int (1 : Int32)), .val (.ref b15), .val (.int (0 : Int32))] [(.ref b19), (.int (1 : Int32)), (.ref b45)])) (fun _ k_ => XS.aload X50.here hx rfl (hb hby at_218) rfl rfl k_) ?_
          obtain ⟨v54, T54, h54, L54, X54, e54, hQ54, st54⟩ := callVi X50 hx hZ hown (w84 hw) (w85 hw) (w87 hw) (w86 hw) (w3 hw) (w88 hw) (by decide) (W := 0) (argsL := [(.int (1 : Int32)), (.ref b19)]) (rest := []) e50 HM.1 (mt_most l Z a0 hw b45 pr46 prb46 ss46 ssb46 hs46 hsb46 sl46 (([] ++ own_flat (own_ps (p0) (p1) (p2))) ++ own_flat (own_ps (p2) (p0) (nt2))) (([0] ++ [([] ++ own_flat (own_ps (p0) (p1) (p2))).length.toInt32]) ++ [(([] ++ own_flat (own_ps (p0) (p1) (p2))) ++ own_flat (own_ps (p2) (p0) (nt2))).length.toInt32]) (([] ++ [hv47]) ++ [hv48]) zt48 1 (([] ++ own_flat (own_ps (p0) (p1) (p2))) ++ own_flat (own_ps (p2) (p0) (nt2))).length ([] ++ own_flat (own_ps (p0) (p1) (p2))) [] (own_ps (p2) (p0) (nt2)) b19 (nq0) (nq1) (p4) h48 n0 Z0 HM hd (by simp) rfl rfl rfl (by decide) A_b19 (own_psin _ _ _)) (by decide) (by decide) pd8 rfl (g := (mkF m 220 #[.val (.int p0), .val (.int p1), .val (.int p2), .val (.long q3), .second, .val (.int p4), .val (.int p5), .val (.ref b11), .val (.ref b15), .val (.ref b19), .val (.int (1 : Int32)), .val (.int (0 : Int32)), .val (.ref b45), .val (.int (1 : Int32)), .val (.ref b15), .val (.int (0 : Int32))] [(.ref b19), (.int (1 : Int32)), (.ref b45)])) rfl (by rw [hml]; rfl) rfl (by show 2 * 0 + _ ≤ _; exact Nat.le_of_eq rfl) (hb hby at_220) (by decide) (by decide)
          obtain ⟨rfl, Nq54, hh54⟩ := hQ54
          rw [hh54] at e54
          have N54 := Fr.app N50 Nq54
          refine Go.st (S' := T54.setTop (mkF m 223 #[.val (.int p0), .val (.int p1), .val (.int p2), .val (.long q3), .second, .val (.int p4), .val (.int p5), .val (.ref b11), .val (.ref b15), .val (.ref b19), .val (.int (1 : Int32)), .val (.int (0 : Int32)), .val (.ref b45), .val (.int (1 : Int32)), .val (.ref b15), .val (.int (0 : Int32))] [(.int (if own_all (own_ps (p2) (p0) (nt2)) [nq0, nq1, p4] = true then (1 : Int32) else (0 : Int32)))])) (st54) ?_
          refine Go.st (S' := T54.setTop (mkF m 225 #[.val (.int p0), .val (.int p1), .val (.int p2), .val (.long q3), .second, .val (.int p4), .val (.int p5), .val (.ref b11), .val (.ref b15), .val (.ref b19), .val (.int (1 : Int32)), .val (.int (0 : Int32)), .val (.ref b45), .val (.int (1 : Int32)), .val (.ref b15), .val (.int (0 : Int32))] [(.int (0 : Int32)), (.int (if own_all (own_ps (p2) (p0) (nt2)) [nq0, nq1, p4] = true then (1 : Int32) else (0 : Int32)))])) (fun _ k_ => XS.iload X54.here hx rfl (hb hby at_223) rfl k_) ?_
          refine Go.st (S' := T54.setTop (mkF m 228 #[.val (.int p0), .val (.int p1), .val (.int p2), .val (.long q3), .second, .val (.int p4), .val (.int p5), .val (.ref b11), .val (.ref b15), .val (.ref b19), .val (.int (1 : Int32)), .val (.int (0 : Int32)), .val (.ref b45), .val (.int (1 : Int32)), .val (.ref b15), .val (.int (0 : Int32))] [])) (fun _ k_ => XS.icmpNo X54.here hx rfl (hb hby at_225) rfl (teq (if_neg (fun z => hc190 ((own_allf _ _ _ _ _ _).mp z).2.1))).2 k_) ?_
          refine Go.st (S' := T54.setTop (mkF m 229 #[.val (.int p0), .val (.int p1), .val (.int p2), .val (.long q3), .second, .val (.int p4), .val (.int p5), .val (.ref b11), .val (.ref b15), .val (.ref b19), .val (.int (1 : Int32)), .val (.int (0 : Int32)), .val (.ref b45), .val (.int (1 : Int32)), .val (.ref b15), .val (.int (0 : Int32))] [(.int (1 : Int32))])) (fun _ k_ => XS.iconst X54.here hx rfl (hb hby at_228) k_) ?_
          refine Go.st (S' := T54.setTop (mkF m 233 #[.val (.int p0), .val (.int p1), .val (.int p2), .val (.long q3), .second, .val (.int p4), .val (.int p5), .val (.ref b11), .val (.ref b15), .val (.ref b19), .val (.int (1 : Int32)), .val (.int (0 : Int32)), .val (.ref b45), .val (.int (1 : Int32)), .val (.ref b15), .val (.int (0 : Int32))] [(.int (1 : Int32))])) (fun _ k_ => XS.goto X54.here hx rfl (pc0 := 229) (pc' := 233) rfl (hb hby at_229) (by decide) (by decide) k_) ?_
          exact Go.retN X54 hx (t := .boolean) hret (by simp) hlk (hb hby at_233) (by decide) (by decide) ⟨rfl, N54⟩
      · skip
        refine Go.st (S' := T49.setTop (mkF m 211 #[.val (.int p0), .val (.int p1), .val (.int p2), .val (.long q3), .second, .val (.int p4), .val (.int p5), .val (.ref b11), .val (.ref b15), .val (.ref b19), .val (.int (1 : Int32)), .val (.int (0 : Int32)), .val (.ref b45), .val (.int (1 : Int32)), .val (.ref b15), .unset] [])) (fun _ k_ => XS.ifYes X49.here hx rfl (pc0 := 176) (pc' := 211) rfl (hb hby at_176) rfl ((if0 _ _).trans (teq (own_if0 hc176)).1) (by decide) (by decide) k_) ?_
        refine Go.st (S' := T49.setTop (mkF m 212 #[.val (.int p0), .val (.int p1), .val (.int p2), .val (.long q3), .second, .val (.int p4), .val (.int p5), .val (.ref b11), .val (.ref b15), .val (.ref b19), .val (.int (1 : Int32)), .val (.int (0 : Int32)), .val (.ref b45), .val (.int (1 : Int32)), .val (.ref b15), .unset] [(.int (0 : Int32))])) (fun _ k_ => XS.iconst X49.here hx rfl (hb hby at_211) k_) ?_
        refine Go.st (S' := T49.setTop (mkF m 214 #[.val (.int p0), .val (.int p1), .val (.int p2), .val (.long q3), .second, .val (.int p4), .val (.int p5), .val (.ref b11), .val (.ref b15), .val (.ref b19), .val (.int (1 : Int32)), .val (.int (0 : Int32)), .val (.ref b45), .val (.int (1 : Int32)), .val (.ref b15), .val (.int (0 : Int32))] [])) (fun _ k_ => XS.istore X49.here hx rfl (hb hby at_212) rfl (l' := #[.val (.int p0), .val (.int p1), .val (.int p2), .val (.long q3), .second, .val (.int p4), .val (.int p5), .val (.ref b11), .val (.ref b15), .val (.ref b19), .val (.int (1 : Int32)), .val (.int (0 : Int32)), .val (.ref b45), .val (.int (1 : Int32)), .val (.ref b15), .val (.int (0 : Int32))]) rfl k_) ?_
        refine Go.st (S' := T49.setTop (mkF m 216 #[.val (.int p0), .val (.int p1), .val (.int p2), .val (.long q3), .second, .val (.int p4), .val (.int p5), .val (.ref b11), .val (.ref b15), .val (.ref b19), .val (.int (1 : Int32)), .val (.int (0 : Int32)), .val (.ref b45), .val (.int (1 : Int32)), .val (.ref b15), .val (.int (0 : Int32))] [(.ref b45)])) (fun _ k_ => XS.aload X49.here hx rfl (hb hby at_214) rfl rfl k_) ?_
        refine Go.st (S' := T49.setTop (mkF m 218 #[.val (.int p0), .val (.int p1), .val (.int p2), .val (.long q3), .second, .val (.int p4), .val (.int p5), .val (.ref b11), .val (.ref b15), .val (.ref b19), .val (.int (1 : Int32)), .val (.int (0 : Int32)), .val (.ref b45), .val (.int (1 : Int32)), .val (.ref b15), .val (.int (0 : Int32))] [(.int (1 : Int32)), (.ref b45)])) (fun _ k_ => XS.iload X49.here hx rfl (hb hby at_216) rfl k_) ?_
        refine Go.st (S' := T49.setTop (mkF m 220 #[.val (.int p0), .val (.int p1), .val (.int p2), .val (.long q3), .second, .val (.int p4), .val (.int p5), .val (.ref b11), .val (.ref b15), .val (.ref b19), .val (.int (1 : Int32)), .val (.int (0 : Int32)), .val (.ref b45), .val (.int (1 : Int32)), .val (.ref b15), .val (.int (0 : Int32))] [(.ref b19), (.int (1 : Int32)), (.ref b45)])) (fun _ k_ => XS.aload X49.here hx rfl (hb hby at_218) rfl rfl k_) ?_
        obtain ⟨v55, T55, h55, L55, X55, e55, hQ55, st55⟩ := callVi X49 hx hZ hown (w84 hw) (w85 hw) (w87 hw) (w86 hw) (w3 hw) (w88 hw) (by decide) (W := 0) (argsL := [(.int (1 : Int32)), (.ref b19)]) (rest := []) e49 HM.1 (mt_most l Z a0 hw b45 pr46 prb46 ss46 ssb46 hs46 hsb46 sl46 (([] ++ own_flat (own_ps (p0) (p1) (p2))) ++ own_flat (own_ps (p2) (p0) (nt2))) (([0] ++ [([] ++ own_flat (own_ps (p0) (p1) (p2))).length.toInt32]) ++ [(([] ++ own_flat (own_ps (p0) (p1) (p2))) ++ own_flat (own_ps (p2) (p0) (nt2))).length.toInt32]) (([] ++ [hv47]) ++ [hv48]) zt48 1 (([] ++ own_flat (own_ps (p0) (p1) (p2))) ++ own_flat (own_ps (p2) (p0) (nt2))).length ([] ++ own_flat (own_ps (p0) (p1) (p2))) [] (own_ps (p2) (p0) (nt2)) b19 (nq0) (nq1) (p4) h48 n0 Z0 HM hd (by simp) rfl rfl rfl (by decide) A_b19 (own_psin _ _ _)) (by decide) (by decide) pd8 rfl (g := (mkF m 220 #[.val (.int p0), .val (.int p1), .val (.int p2), .val (.long q3), .second, .val (.int p4), .val (.int p5), .val (.ref b11), .val (.ref b15), .val (.ref b19), .val (.int (1 : Int32)), .val (.int (0 : Int32)), .val (.ref b45), .val (.int (1 : Int32)), .val (.ref b15), .val (.int (0 : Int32))] [(.ref b19), (.int (1 : Int32)), (.ref b45)])) rfl (by rw [hml]; rfl) rfl (by show 2 * 0 + _ ≤ _; exact Nat.le_of_eq rfl) (hb hby at_220) (by decide) (by decide)
        obtain ⟨rfl, Nq55, hh55⟩ := hQ55
        rw [hh55] at e55
        have N55 := Fr.app N49 Nq55
        refine Go.st (S' := T55.setTop (mkF m 223 #[.val (.int p0), .val (.int p1), .val (.int p2), .val (.long q3), .second, .val (.int p4), .val (.int p5), .val (.ref b11), .val (.ref b15), .val (.ref b19), .val (.int (1 : Int32)), .val (.int (0 : Int32)), .val (.ref b45), .val (.int (1 : Int32)), .val (.ref b15), .val (.int (0 : Int32))] [(.int (if own_all (own_ps (p2) (p0) (nt2)) [nq0, nq1, p4] = true then (1 : Int32) else (0 : Int32)))])) (st55) ?_
        refine Go.st (S' := T55.setTop (mkF m 225 #[.val (.int p0), .val (.int p1), .val (.int p2), .val (.long q3), .second, .val (.int p4), .val (.int p5), .val (.ref b11), .val (.ref b15), .val (.ref b19), .val (.int (1 : Int32)), .val (.int (0 : Int32)), .val (.ref b45), .val (.int (1 : Int32)), .val (.ref b15), .val (.int (0 : Int32))] [(.int (0 : Int32)), (.int (if own_all (own_ps (p2) (p0) (nt2)) [nq0, nq1, p4] = true then (1 : Int32) else (0 : Int32)))])) (fun _ k_ => XS.iload X55.here hx rfl (hb hby at_223) rfl k_) ?_
        refine Go.st (S' := T55.setTop (mkF m 228 #[.val (.int p0), .val (.int p1), .val (.int p2), .val (.long q3), .second, .val (.int p4), .val (.int p5), .val (.ref b11), .val (.ref b15), .val (.ref b19), .val (.int (1 : Int32)), .val (.int (0 : Int32)), .val (.ref b45), .val (.int (1 : Int32)), .val (.ref b15), .val (.int (0 : Int32))] [])) (fun _ k_ => XS.icmpNo X55.here hx rfl (hb hby at_225) rfl (teq (if_neg (fun z => hc176 ((own_allf _ _ _ _ _ _).mp z).1))).2 k_) ?_
        refine Go.st (S' := T55.setTop (mkF m 229 #[.val (.int p0), .val (.int p1), .val (.int p2), .val (.long q3), .second, .val (.int p4), .val (.int p5), .val (.ref b11), .val (.ref b15), .val (.ref b19), .val (.int (1 : Int32)), .val (.int (0 : Int32)), .val (.ref b45), .val (.int (1 : Int32)), .val (.ref b15), .val (.int (0 : Int32))] [(.int (1 : Int32))])) (fun _ k_ => XS.iconst X55.here hx rfl (hb hby at_228) k_) ?_
        refine Go.st (S' := T55.setTop (mkF m 233 #[.val (.int p0), .val (.int p1), .val (.int p2), .val (.long q3), .second, .val (.int p4), .val (.int p5), .val (.ref b11), .val (.ref b15), .val (.ref b19), .val (.int (1 : Int32)), .val (.int (0 : Int32)), .val (.ref b45), .val (.int (1 : Int32)), .val (.ref b15), .val (.int (0 : Int32))] [(.int (1 : Int32))])) (fun _ k_ => XS.goto X55.here hx rfl (pc0 := 229) (pc' := 233) rfl (hb hby at_229) (by decide) (by decide) k_) ?_
        exact Go.retN X55 hx (t := .boolean) hret (by simp) hlk (hb hby at_233) (by decide) (by decide) ⟨rfl, N55⟩
    · skip
      refine Go.st (S' := T22.setTop (mkF m 80 #[.val (.int p0), .val (.int p1), .val (.int p2), .val (.long q3), .second, .val (.int p4), .val (.int p5), .val (.ref b11), .val (.ref b15), .val (.ref b19), .val (.int (1 : Int32)), .unset, .unset, .unset, .unset, .unset] [])) (fun _ k_ => XS.ifNo X22.here hx rfl (hb hby at_77) rfl ((if0 _ _).trans (feq hc77).1) k_) ?_
      refine Go.st (S' := T22.setTop (mkF m 81 #[.val (.int p0), .val (.int p1), .val (.int p2), .val (.long q3), .second, .val (.int p4), .val (.int p5), .val (.ref b11), .val (.ref b15), .val (.ref b19), .val (.int (1 : Int32)), .unset, .unset, .unset, .unset, .unset] [(.int (1 : Int32))])) (fun _ k_ => XS.iconst X22.here hx rfl (hb hby at_80) k_) ?_
      refine Go.st (S' := T22.setTop (mkF m 85 #[.val (.int p0), .val (.int p1), .val (.int p2), .val (.long q3), .second, .val (.int p4), .val (.int p5), .val (.ref b11), .val (.ref b15), .val (.ref b19), .val (.int (1 : Int32)), .unset, .unset, .unset, .unset, .unset] [(.int (1 : Int32))])) (fun _ k_ => XS.goto X22.here hx rfl (pc0 := 81) (pc' := 85) rfl (hb hby at_81) (by decide) (by decide) k_) ?_
      refine Go.st (S' := T22.setTop (mkF m 87 #[.val (.int p0), .val (.int p1), .val (.int p2), .val (.long q3), .second, .val (.int p4), .val (.int p5), .val (.ref b11), .val (.ref b15), .val (.ref b19), .val (.int (1 : Int32)), .val (.int (1 : Int32)), .unset, .unset, .unset, .unset] [])) (fun _ k_ => XS.istore X22.here hx rfl (hb hby at_85) rfl (l' := #[.val (.int p0), .val (.int p1), .val (.int p2), .val (.long q3), .second, .val (.int p4), .val (.int p5), .val (.ref b11), .val (.ref b15), .val (.ref b19), .val (.int (1 : Int32)), .val (.int (1 : Int32)), .unset, .unset, .unset, .unset]) rfl k_) ?_
      obtain ⟨T56, h56, X56, e56, E56, A56, D56, -, st56⟩ := newO X22 hx hZ hown (w1 hw) (w2 hw) (w3 hw) e22 (g := (mkF m 87 #[.val (.int p0), .val (.int p1), .val (.int p2), .val (.long q3), .second, .val (.int p4), .val (.int p5), .val (.ref b11), .val (.ref b15), .val (.ref b19), .val (.int (1 : Int32)), .val (.int (1 : Int32)), .unset, .unset, .unset, .unset] [])) rfl (hb hby at_87) (by decide) (by decide)
      obtain ⟨b56, q56⟩ : ∃ z, z = h22.size := ⟨_, rfl⟩
      rw [← q56] at A56 D56 st56
      have ne_b11_b56 : b11 ≠ b56 := Nat.ne_of_lt (Nat.lt_of_lt_of_le E_b11.lt (Nat.le_of_eq q56.symm))
      have ne_b15_b56 : b15 ≠ b56 := Nat.ne_of_lt (Nat.lt_of_lt_of_le E_b15.lt (Nat.le_of_eq q56.symm))
      have ne_b19_b56 : b19 ≠ b56 := Nat.ne_of_lt (Nat.lt_of_lt_of_le E_b19.lt (Nat.le_of_eq q56.symm))
      have g_b56 : n0 ≤ b56 := Nat.le_trans Z0 (Nat.le_of_eq q56.symm)
      replace E_b11 := E_b11.ext E56
      replace A_b11 := A_b11.ext E56
      replace E_b15 := E_b15.ext E56
      replace A_b15 := A_b15.ext E56
      replace E_b19 := E_b19.ext E56
      replace A_b19 := A_b19.ext E56
      replace Z0 := Nat.le_trans Z0 E56.1
      have E_b56 := A56
      have F_pairs_b56 : Fld Z h56 b56 "com/example/caseweave/caseweave/core/MarkingTable" "pairs" "Lcom/example/caseweave/caseweave/core/IntList;" .null := D56 (Or.inr (w20 hw)) (ty := (.object "com/example/caseweave/caseweave/core/IntList")) (by decide)
      have F_starts_b56 : Fld Z h56 b56 "com/example/caseweave/caseweave/core/MarkingTable" "starts" "Lcom/example/caseweave/caseweave/core/IntList;" .null := D56 (Or.inr (w22 hw)) (ty := (.object "com/example/caseweave/caseweave/core/IntList")) (by decide)
      have F_hashes_b56 : Fld Z h56 b56 "com/example/caseweave/caseweave/core/MarkingTable" "hashes" "Lcom/example/caseweave/caseweave/core/IntList;" .null := D56 (Or.inr (w24 hw)) (ty := (.object "com/example/caseweave/caseweave/core/IntList")) (by decide)
      have F_slots_b56 : Fld Z h56 b56 "com/example/caseweave/caseweave/core/MarkingTable" "slots" "[I" .null := D56 (Or.inl (w26 hw)) (ty := (.array .int)) (by decide)
      have F_places_b56 : Fld Z h56 b56 "com/example/caseweave/caseweave/core/MarkingTable" "places" "I" (.int (0 : Int32)) := D56 (Or.inr (w28 hw)) (ty := .int) (by decide)
      have F_stored_b56 : Fld Z h56 b56 "com/example/caseweave/caseweave/core/MarkingTable" "stored" "[I" .null := D56 (Or.inr (w30 hw)) (ty := (.array .int)) (by decide)
      refine Go.st (S' := T56.setTop (mkF m 90 #[.val (.int p0), .val (.int p1), .val (.int p2), .val (.long q3), .second, .val (.int p4), .val (.int p5), .val (.ref b11), .val (.ref b15), .val (.ref b19), .val (.int (1 : Int32)), .val (.int (1 : Int32)), .unset, .unset, .unset, .unset] [(.ref b56)])) (st56) ?_
      refine Go.st (S' := T56.setTop (mkF m 91 #[.val (.int p0), .val (.int p1), .val (.int p2), .val (.long q3), .second, .val (.int p4), .val (.int p5), .val (.ref b11), .val (.ref b15), .val (.ref b19), .val (.int (1 : Int32)), .val (.int (1 : Int32)), .unset, .unset, .unset, .unset] [(.ref b56), (.ref b56)])) (fun _ k_ => XS.dup X56.here hx rfl (hb hby at_90) rfl rfl k_) ?_
      refine Go.st (S' := T56.setTop (mkF m 92 #[.val (.int p0), .val (.int p1), .val (.int p2), .val (.long q3), .second, .val (.int p4), .val (.int p5), .val (.ref b11), .val (.ref b15), .val (.ref b19), .val (.int (1 : Int32)), .val (.int (1 : Int32)), .unset, .unset, .unset, .unset] [(.int (3 : Int32)), (.ref b56), (.ref b56)])) (fun _ k_ => XS.iconst X56.here hx rfl (hb hby at_91) k_) ?_
      obtain ⟨v57, T57, h57, L57, X57, e57, hQ57, st57⟩ := callIn X56 hx hZ rfl hown (w4 hw) (w5 hw) (w3 hw) (w6 hw) (by decide) (W := 1) (argsL := [(.int (3 : Int32))]) (rest := [(.ref b56)]) e56 (mt_init l Z a0 hw b56 h56 n0 Z0 E_b56 F_pairs_b56 F_starts_b56 F_hashes_b56 F_slots_b56 F_stored_b56 F_places_b56 g_b56) (by decide) (by decide) pd4 rfl (g := (mkF m 92 #[.val (.int p0), .val (.int p1), .val (.int p2), .val (.long q3), .second, .val (.int p4), .val (.int p5), .val (.ref b11), .val (.ref b15), .val (.ref b19), .val (.int (1 : Int32)), .val (.int (1 : Int32)), .unset, .unset, .unset, .unset] [(.int (3 : Int32)), (.ref b56), (.ref b56)])) rfl (by rw [hml]; rfl) rfl (by show 2 * 0 + _ ≤ _; exact Nat.le_of_eq rfl) (hb hby at_92) (by decide) (by decide)
      obtain ⟨rfl, Nq57, Kq57, pr57, prb57, ss57, ssb57, hs57, hsb57, sl57, hd, hsz57, HM⟩ := hQ57
      have N57 := Fr.app N22 Nq57
      obtain ⟨hs_pr57, hs_prb57, hs_ss57, hs_ssb57, hs_hs57, hs_hsb57, hs_sl57⟩ := hsz57
      have ne_b11_pr57 : b11 ≠ pr57 := Nat.ne_of_lt (Nat.lt_of_lt_of_le E_b11.lt hs_pr57)
      have ne_b15_pr57 : b15 ≠ pr57 := Nat.ne_of_lt (Nat.lt_of_lt_of_le E_b15.lt hs_pr57)
      have ne_b19_pr57 : b19 ≠ pr57 := Nat.ne_of_lt (Nat.lt_of_lt_of_le E_b19.lt hs_pr57)
      have g_pr57 : n0 ≤ pr57 := Nat.le_trans Z0 hs_pr57
      have ne_b11_prb57 : b11 ≠ prb57 := Nat.ne_of_lt (Nat.lt_of_lt_of_le E_b11.lt hs_prb57)
      have ne_b15_prb57 : b15 ≠ prb57 := Nat.ne_of_lt (Nat.lt_of_lt_of_le E_b15.lt hs_prb57)
      have ne_b19_prb57 : b19 ≠ prb57 := Nat.ne_of_lt (Nat.lt_of_lt_of_le E_b19.lt hs_prb57)
      have g_prb57 : n0 ≤ prb57 := Nat.le_trans Z0 hs_prb57
      have ne_b11_ss57 : b11 ≠ ss57 := Nat.ne_of_lt (Nat.lt_of_lt_of_le E_b11.lt hs_ss57)
      have ne_b15_ss57 : b15 ≠ ss57 := Nat.ne_of_lt (Nat.lt_of_lt_of_le E_b15.lt hs_ss57)
      have ne_b19_ss57 : b19 ≠ ss57 := Nat.ne_of_lt (Nat.lt_of_lt_of_le E_b19.lt hs_ss57)
      have g_ss57 : n0 ≤ ss57 := Nat.le_trans Z0 hs_ss57
      have ne_b11_ssb57 : b11 ≠ ssb57 := Nat.ne_of_lt (Nat.lt_of_lt_of_le E_b11.lt hs_ssb57)
      have ne_b15_ssb57 : b15 ≠ ssb57 := Nat.ne_of_lt (Nat.lt_of_lt_of_le E_b15.lt hs_ssb57)
      have ne_b19_ssb57 : b19 ≠ ssb57 := Nat.ne_of_lt (Nat.lt_of_lt_of_le E_b19.lt hs_ssb57)
      have g_ssb57 : n0 ≤ ssb57 := Nat.le_trans Z0 hs_ssb57
      have ne_b11_hs57 : b11 ≠ hs57 := Nat.ne_of_lt (Nat.lt_of_lt_of_le E_b11.lt hs_hs57)
      have ne_b15_hs57 : b15 ≠ hs57 := Nat.ne_of_lt (Nat.lt_of_lt_of_le E_b15.lt hs_hs57)
      have ne_b19_hs57 : b19 ≠ hs57 := Nat.ne_of_lt (Nat.lt_of_lt_of_le E_b19.lt hs_hs57)
      have g_hs57 : n0 ≤ hs57 := Nat.le_trans Z0 hs_hs57
      have ne_b11_hsb57 : b11 ≠ hsb57 := Nat.ne_of_lt (Nat.lt_of_lt_of_le E_b11.lt hs_hsb57)
      have ne_b15_hsb57 : b15 ≠ hsb57 := Nat.ne_of_lt (Nat.lt_of_lt_of_le E_b15.lt hs_hsb57)
      have ne_b19_hsb57 : b19 ≠ hsb57 := Nat.ne_of_lt (Nat.lt_of_lt_of_le E_b19.lt hs_hsb57)
      have g_hsb57 : n0 ≤ hsb57 := Nat.le_trans Z0 hs_hsb57
      have ne_b11_sl57 : b11 ≠ sl57 := Nat.ne_of_lt (Nat.lt_of_lt_of_le E_b11.lt hs_sl57)
      have ne_b15_sl57 : b15 ≠ sl57 := Nat.ne_of_lt (Nat.lt_of_lt_of_le E_b15.lt hs_sl57)
      have ne_b19_sl57 : b19 ≠ sl57 := Nat.ne_of_lt (Nat.lt_of_lt_of_le E_b19.lt hs_sl57)
      have g_sl57 : n0 ≤ sl57 := Nat.le_trans Z0 hs_sl57
      replace E_b11 := E_b11.keep Kq57
      replace A_b11 := A_b11.keep Kq57 (ninS ne_b11_b56 nin0)
      replace E_b15 := E_b15.keep Kq57
      replace A_b15 := A_b15.keep Kq57 (ninS ne_b15_b56 nin0)
      replace E_b19 := E_b19.keep Kq57
      replace A_b19 := A_b19.keep Kq57 (ninS ne_b19_b56 nin0)
      replace Z0 := Nat.le_trans Z0 Kq57.1
      refine Go.st (S' := T57.setTop (mkF m 95 #[.val (.int p0), .val (.int p1), .val (.int p2), .val (.long q3), .second, .val (.int p4), .val (.int p5), .val (.ref b11), .val (.ref b15), .val (.ref b19), .val (.int (1 : Int32)), .val (.int (1 : Int32)), .unset, .unset, .unset, .unset] [(.ref b56)])) (st57) ?_
      refine Go.st (S' := T57.setTop (mkF m 97 #[.val (.int p0), .val (.int p1), .val (.int p2), .val (.long q3), .second, .val (.int p4), .val (.int p5), .val (.ref b11), .val (.ref b15), .val (.ref b19), .val (.int (1 : Int32)), .val (.int (1 : Int32)), .val (.ref b56), .unset, .unset, .unset] [])) (fun _ k_ => XS.astore X57.here hx rfl (hb hby at_95) rfl rfl (l' := #[.val (.int p0), .val (.int p1), .val (.int p2), .val (.long q3), .second, .val (.int p4), .val (.int p5), .val (.ref b11), .val (.ref b15), .val (.ref b19), .val (.int (1 : Int32)), .val (.int (1 : Int32)), .val (.ref b56), .unset, .unset, .unset]) rfl k_) ?_
      refine Go.st (S' := T57.setTop (mkF m 99 #[.val (.int p0), .val (.int p1), .val (.int p2), .val (.long q3), .second, .val (.int p4), .val (.int p5), .val (.ref b11), .val (.ref b15), .val (.ref b19), .val (.int (1 : Int32)), .val (.int (1 : Int32)), .val (.ref b56), .unset, .unset, .unset] [(.int (1 : Int32))])) (fun _ k_ => XS.iload X57.here hx rfl (hb hby at_97) rfl k_) ?_
      refine Go.st (S' := T57.setTop (mkF m 102 #[.val (.int p0), .val (.int p1), .val (.int p2), .val (.long q3), .second, .val (.int p4), .val (.int p5), .val (.ref b11), .val (.ref b15), .val (.ref b19), .val (.int (1 : Int32)), .val (.int (1 : Int32)), .val (.ref b56), .unset, .unset, .unset] [])) (fun _ k_ => XS.ifNo X57.here hx rfl (hb hby at_99) rfl ((if0 _ _).trans (feq (by decide)).1) k_) ?_
      refine Go.st (S' := T57.setTop (mkF m 104 #[.val (.int p0), .val (.int p1), .val (.int p2), .val (.long q3), .second, .val (.int p4), .val (.int p5), .val (.ref b11), .val (.ref b15), .val (.ref b19), .val (.int (1 : Int32)), .val (.int (1 : Int32)), .val (.ref b56), .unset, .unset, .unset] [(.ref b56)])) (fun _ k_ => XS.aload X57.here hx rfl (hb hby at_102) rfl rfl k_) ?_
      refine Go.st (S' := T57.setTop (mkF m 106 #[.val (.int p0), .val (.int p1), .val (.int p2), .val (.long q3), .second, .val (.int p4), .val (.int p5), .val (.ref b11), .val (.ref b15), .val (.ref b19), .val (.int (1 : Int32)), .val (.int (1 : Int32)), .val (.ref b56), .unset, .unset, .unset] [(.ref b11), (.ref b56)])) (fun _ k_ => XS.aload X57.here hx rfl (hb hby at_104) rfl rfl k_) ?_
      have off58 : own_off b11 b56 pr57 prb57 ss57 ssb57 hs57 hsb57 sl57 := ⟨ne_b11_b56, ne_b11_pr57, ne_b11_prb57, ne_b11_ss57, ne_b11_ssb57, ne_b11_hs57, ne_b11_hsb57, ne_b11_sl57⟩
      obtain ⟨v58, T58, h58, L58, X58, e58, hQ58, st58⟩ := callVi X57 hx hZ hown (w38 hw) (w39 hw) (w41 hw) (w40 hw) (w3 hw) (w42 hw) (by decide) (W := 0) (argsL := [(.ref b11)]) (rest := []) e57 HM.1 (mt_add l Z a0 hw b56 pr57 prb57 ss57 ssb57 hs57 hsb57 sl57 [] [0] [] (List.replicate 16 0) b11 (p0) (p1) (p2) h57 n0 Z0 HM hd A_b11 E_b11 off58 (by decide) (by simp) (by simp) ⟨rfl, fun i j hi hj q => absurd (own_z0 i) q⟩) (by decide) (by decide) pd2 rfl (g := (mkF m 106 #[.val (.int p0), .val (.int p1), .val (.int p2), .val (.long q3), .second, .val (.int p4), .val (.int p5), .val (.ref b11), .val (.ref b15), .val (.ref b19), .val (.int (1 : Int32)), .val (.int (1 : Int32)), .val (.ref b56), .unset, .unset, .unset] [(.ref b11), (.ref b56)])) rfl (by rw [hml]; rfl) rfl (by show 2 * 0 + _ ≤ _; exact Nat.le_of_eq rfl) (hb hby at_106) (by decide) (by decide)
      obtain ⟨rfl, Nq58, Kq58, hv58, zt58, ho58, hl58, HM⟩ := hQ58
      have N58 := Fr.app N57 Nq58
      replace E_b11 := E_b11.keep Kq58
      replace A_b11 := A_b11.keep Kq58 (ninS ne_b11_pr57 (ninS ne_b11_prb57 (ninS ne_b11_ss57 (ninS ne_b11_ssb57 (ninS ne_b11_hs57 (ninS ne_b11_hsb57 (ninS ne_b11_sl57 nin0)))))))
      replace E_b15 := E_b15.keep Kq58
      replace A_b15 := A_b15.keep Kq58 (ninS ne_b15_pr57 (ninS ne_b15_prb57 (ninS ne_b15_ss57 (ninS ne_b15_ssb57 (ninS ne_b15_hs57 (ninS ne_b15_hsb57 (ninS ne_b15_sl57 nin0)))))))
      replace E_b19 := E_b19.keep Kq58
      replace A_b19 := A_b19.keep Kq58 (ninS ne_b19_pr57 (ninS ne_b19_prb57 (ninS ne_b19_ss57 (ninS ne_b19_ssb57 (ninS ne_b19_hs57 (ninS ne_b19_hsb57 (ninS ne_b19_sl57 nin0)))))))
      replace Z0 := Nat.le_trans Z0 Kq58.1
      refine Go.st (S' := T58.setTop (mkF m 109 #[.val (.int p0), .val (.int p1), .val (.int p2), .val (.long q3), .second, .val (.int p4), .val (.int p5), .val (.ref b11), .val (.ref b15), .val (.ref b19), .val (.int (1 : Int32)), .val (.int (1 : Int32)), .val (.ref b56), .unset, .unset, .unset] [(.int ([] : List Int32).length.toInt32)])) (st58) ?_
      refine Go.st (S' := T58.setTop (mkF m 110 #[.val (.int p0), .val (.int p1), .val (.int p2), .val (.long q3), .second, .val (.int p4), .val (.int p5), .val (.ref b11), .val (.ref b15), .val (.ref b19), .val (.int (1 : Int32)), .val (.int (1 : Int32)), .val (.ref b56), .unset, .unset, .unset] [])) (fun _ k_ => XS.pop X58.here hx rfl (hb hby at_109) rfl rfl k_) ?_
      refine Go.st (S' := T58.setTop (mkF m 112 #[.val (.int p0), .val (.int p1), .val (.int p2), .val (.long q3), .second, .val (.int p4), .val (.int p5), .val (.ref b11), .val (.ref b15), .val (.ref b19), .val (.int (1 : Int32)), .val (.int (1 : Int32)), .val (.ref b56), .unset, .unset, .unset] [(.ref b56)])) (fun _ k_ => XS.aload X58.here hx rfl (hb hby at_110) rfl rfl k_) ?_
      refine Go.st (S' := T58.setTop (mkF m 114 #[.val (.int p0), .val (.int p1), .val (.int p2), .val (.long q3), .second, .val (.int p4), .val (.int p5), .val (.ref b11), .val (.ref b15), .val (.ref b19), .val (.int (1 : Int32)), .val (.int (1 : Int32)), .val (.ref b56), .unset, .unset, .unset] [(.ref b15), (.ref b56)])) (fun _ k_ => XS.aload X58.here hx rfl (hb hby at_112) rfl rfl k_) ?_
      have off59 : own_off b15 b56 pr57 prb57 ss57 ssb57 hs57 hsb57 sl57 := ⟨ne_b15_b56, ne_b15_pr57, ne_b15_prb57, ne_b15_ss57, ne_b15_ssb57, ne_b15_hs57, ne_b15_hsb57, ne_b15_sl57⟩
      obtain ⟨v59, T59, h59, L59, X59, e59, hQ59, st59⟩ := callVi X58 hx hZ hown (w38 hw) (w39 hw) (w41 hw) (w40 hw) (w3 hw) (w42 hw) (by decide) (W := 0) (argsL := [(.ref b15)]) (rest := []) e58 HM.1 (mt_add l Z a0 hw b56 pr57 prb57 ss57 ssb57 hs57 hsb57 sl57 ([] ++ own_flat (own_ps (p0) (p1) (p2))) ([0] ++ [([] ++ own_flat (own_ps (p0) (p1) (p2))).length.toInt32]) ([] ++ [hv58]) zt58 b15 (p2) (p0) (nt2) h58 n0 Z0 HM hd A_b15 E_b15 off59 (by rw [List.nil_append, own_flen]; have := own_plen (p0) (p1) (p2); omega) (by simp) (by simp) (ho58 own_z0)) (by decide) (by decide) pd2 rfl (g := (mkF m 114 #[.val (.int p0), .val (.int p1), .val (.int p2), .val (.long q3), .second, .val (.int p4), .val (.int p5), .val (.ref b11), .val (.ref b15), .val (.ref b19), .val (.int (1 : Int32)), .val (.int (1 : Int32)), .val (.ref b56), .unset, .unset, .unset] [(.ref b15), (.ref b56)])) rfl (by rw [hml]; rfl) rfl (by show 2 * 0 + _ ≤ _; exact Nat.le_of_eq rfl) (hb hby at_114) (by decide) (by decide)
      obtain ⟨rfl, Nq59, Kq59, hv59, zt59, ho59, hl59, HM⟩ := hQ59
      have N59 := Fr.app N58 Nq59
      replace E_b11 := E_b11.keep Kq59
      replace A_b11 := A_b11.keep Kq59 (ninS ne_b11_pr57 (ninS ne_b11_prb57 (ninS ne_b11_ss57 (ninS ne_b11_ssb57 (ninS ne_b11_hs57 (ninS ne_b11_hsb57 (ninS ne_b11_sl57 nin0)))))))
      replace E_b15 := E_b15.keep Kq59
      replace A_b15 := A_b15.keep Kq59 (ninS ne_b15_pr57 (ninS ne_b15_prb57 (ninS ne_b15_ss57 (ninS ne_b15_ssb57 (ninS ne_b15_hs57 (ninS ne_b15_hsb57 (ninS ne_b15_sl57 nin0)))))))
      replace E_b19 := E_b19.keep Kq59
      replace A_b19 := A_b19.keep Kq59 (ninS ne_b19_pr57 (ninS ne_b19_prb57 (ninS ne_b19_ss57 (ninS ne_b19_ssb57 (ninS ne_b19_hs57 (ninS ne_b19_hsb57 (ninS ne_b19_sl57 nin0)))))))
      replace Z0 := Nat.le_trans Z0 Kq59.1
      refine Go.st (S' := T59.setTop (mkF m 117 #[.val (.int p0), .val (.int p1), .val (.int p2), .val (.long q3), .second, .val (.int p4), .val (.int p5), .val (.ref b11), .val (.ref b15), .val (.ref b19), .val (.int (1 : Int32)), .val (.int (1 : Int32)), .val (.ref b56), .unset, .unset, .unset] [(.int (([] : List Int32) ++ [hv58]).length.toInt32)])) (st59) ?_
      refine Go.st (S' := T59.setTop (mkF m 118 #[.val (.int p0), .val (.int p1), .val (.int p2), .val (.long q3), .second, .val (.int p4), .val (.int p5), .val (.ref b11), .val (.ref b15), .val (.ref b19), .val (.int (1 : Int32)), .val (.int (1 : Int32)), .val (.ref b56), .unset, .unset, .unset] [])) (fun _ k_ => XS.pop X59.here hx rfl (hb hby at_117) rfl rfl k_) ?_
      refine Go.st (S' := T59.setTop (mkF m 137 #[.val (.int p0), .val (.int p1), .val (.int p2), .val (.long q3), .second, .val (.int p4), .val (.int p5), .val (.ref b11), .val (.ref b15), .val (.ref b19), .val (.int (1 : Int32)), .val (.int (1 : Int32)), .val (.ref b56), .unset, .unset, .unset] [])) (fun _ k_ => XS.goto X59.here hx rfl (pc0 := 118) (pc' := 137) rfl (hb hby at_118) (by decide) (by decide) k_) ?_
      refine Go.st (S' := T59.setTop (mkF m 139 #[.val (.int p0), .val (.int p1), .val (.int p2), .val (.long q3), .second, .val (.int p4), .val (.int p5), .val (.ref b11), .val (.ref b15), .val (.ref b19), .val (.int (1 : Int32)), .val (.int (1 : Int32)), .val (.ref b56), .unset, .unset, .unset] [(.int (1 : Int32))])) (fun _ k_ => XS.iload X59.here hx rfl (hb hby at_137) rfl k_) ?_
      refine Go.st (S' := T59.setTop (mkF m 141 #[.val (.int p0), .val (.int p1), .val (.int p2), .val (.long q3), .second, .val (.int p4), .val (.int p5), .val (.ref b11), .val (.ref b15), .val (.ref b19), .val (.int (1 : Int32)), .val (.int (1 : Int32)), .val (.ref b56), .unset, .unset, .unset] [(.int (1 : Int32)), (.int (1 : Int32))])) (fun _ k_ => XS.iload X59.here hx rfl (hb hby at_139) rfl k_) ?_
      refine Go.st (S' := T59.setTop (mkF m 144 #[.val (.int p0), .val (.int p1), .val (.int p2), .val (.long q3), .second, .val (.int p4), .val (.int p5), .val (.ref b11), .val (.ref b15), .val (.ref b19), .val (.int (1 : Int32)), .val (.int (1 : Int32)), .val (.ref b56), .unset, .unset, .unset] [])) (fun _ k_ => XS.icmpNo X59.here hx rfl (hb hby at_141) rfl (teq (by decide)).2 k_) ?_
      refine Go.st (S' := T59.setTop (mkF m 145 #[.val (.int p0), .val (.int p1), .val (.int p2), .val (.long q3), .second, .val (.int p4), .val (.int p5), .val (.ref b11), .val (.ref b15), .val (.ref b19), .val (.int (1 : Int32)), .val (.int (1 : Int32)), .val (.ref b56), .unset, .unset, .unset] [(.int (0 : Int32))])) (fun _ k_ => XS.iconst X59.here hx rfl (hb hby at_144) k_) ?_
      refine Go.st (S' := T59.setTop (mkF m 149 #[.val (.int p0), .val (.int p1), .val (.int p2), .val (.long q3), .second, .val (.int p4), .val (.int p5), .val (.ref b11), .val (.ref b15), .val (.ref b19), .val (.int (1 : Int32)), .val (.int (1 : Int32)), .val (.ref b56), .unset, .unset, .unset] [(.int (0 : Int32))])) (fun _ k_ => XS.goto X59.here hx rfl (pc0 := 145) (pc' := 149) rfl (hb hby at_145) (by decide) (by decide) k_) ?_
      refine Go.st (S' := T59.setTop (mkF m 151 #[.val (.int p0), .val (.int p1), .val (.int p2), .val (.long q3), .second, .val (.int p4), .val (.int p5), .val (.ref b11), .val (.ref b15), .val (.ref b19), .val (.int (1 : Int32)), .val (.int (1 : Int32)), .val (.ref b56), .val (.int (0 : Int32)), .unset, .unset] [])) (fun _ k_ => XS.istore X59.here hx rfl (hb hby at_149) rfl (l' := #[.val (.int p0), .val (.int p1), .val (.int p2), .val (.long q3), .second, .val (.int p4), .val (.int p5), .val (.ref b11), .val (.ref b15), .val (.ref b19), .val (.int (1 : Int32)), .val (.int (1 : Int32)), .val (.ref b56), .val (.int (0 : Int32)), .unset, .unset]) rfl k_) ?_
      refine Go.st (S' := T59.setTop (mkF m 153 #[.val (.int p0), .val (.int p1), .val (.int p2), .val (.long q3), .second, .val (.int p4), .val (.int p5), .val (.ref b11), .val (.ref b15), .val (.ref b19), .val (.int (1 : Int32)), .val (.int (1 : Int32)), .val (.ref b56), .val (.int (0 : Int32)), .unset, .unset] [(.int (1 : Int32))])) (fun _ k_ => XS.iload X59.here hx rfl (hb hby at_151) rfl k_) ?_
      refine Go.st (S' := T59.setTop (mkF m 156 #[.val (.int p0), .val (.int p1), .val (.int p2), .val (.long q3), .second, .val (.int p4), .val (.int p5), .val (.ref b11), .val (.ref b15), .val (.ref b19), .val (.int (1 : Int32)), .val (.int (1 : Int32)), .val (.ref b56), .val (.int (0 : Int32)), .unset, .unset] [])) (fun _ k_ => XS.ifNo X59.here hx rfl (hb hby at_153) rfl ((if0 _ _).trans (feq (by decide)).1) k_) ?_
      refine Go.st (S' := T59.setTop (mkF m 158 #[.val (.int p0), .val (.int p1), .val (.int p2), .val (.long q3), .second, .val (.int p4), .val (.int p5), .val (.ref b11), .val (.ref b15), .val (.ref b19), .val (.int (1 : Int32)), .val (.int (1 : Int32)), .val (.ref b56), .val (.int (0 : Int32)), .unset, .unset] [(.ref b11)])) (fun _ k_ => XS.aload X59.here hx rfl (hb hby at_156) rfl rfl k_) ?_
      refine Go.st (S' := T59.setTop (mkF m 163 #[.val (.int p0), .val (.int p1), .val (.int p2), .val (.long q3), .second, .val (.int p4), .val (.int p5), .val (.ref b11), .val (.ref b15), .val (.ref b19), .val (.int (1 : Int32)), .val (.int (1 : Int32)), .val (.ref b56), .val (.int (0 : Int32)), .unset, .unset] [(.ref b11)])) (fun _ k_ => XS.goto X59.here hx rfl (pc0 := 158) (pc' := 163) rfl (hb hby at_158) (by decide) (by decide) k_) ?_
      refine Go.st (S' := T59.setTop (mkF m 165 #[.val (.int p0), .val (.int p1), .val (.int p2), .val (.long q3), .second, .val (.int p4), .val (.int p5), .val (.ref b11), .val (.ref b15), .val (.ref b19), .val (.int (1 : Int32)), .val (.int (1 : Int32)), .val (.ref b56), .val (.int (0 : Int32)), .val (.ref b11), .unset] [])) (fun _ k_ => XS.astore X59.here hx rfl (hb hby at_163) rfl rfl (l' := #[.val (.int p0), .val (.int p1), .val (.int p2), .val (.long q3), .second, .val (.int p4), .val (.int p5), .val (.ref b11), .val (.ref b15), .val (.ref b19), .val (.int (1 : Int32)), .val (.int (1 : Int32)), .val (.ref b56), .val (.int (0 : Int32)), .val (.ref b11), .unset]) rfl k_) ?_
      refine Go.st (S' := T59.setTop (mkF m 167 #[.val (.int p0), .val (.int p1), .val (.int p2), .val (.long q3), .second, .val (.int p4), .val (.int p5), .val (.ref b11), .val (.ref b15), .val (.ref b19), .val (.int (1 : Int32)), .val (.int (1 : Int32)), .val (.ref b56), .val (.int (0 : Int32)), .val (.ref b11), .unset] [(.ref b11)])) (fun _ k_ => XS.aload X59.here hx rfl (hb hby at_165) rfl rfl k_) ?_
      refine Go.st (S' := T59.setTop (mkF m 168 #[.val (.int p0), .val (.int p1), .val (.int p2), .val (.long q3), .second, .val (.int p4), .val (.int p5), .val (.ref b11), .val (.ref b15), .val (.ref b19), .val (.int (1 : Int32)), .val (.int (1 : Int32)), .val (.ref b56), .val (.int (0 : Int32)), .val (.ref b11), .unset] [(.int (0 : Int32)), (.ref b11)])) (fun _ k_ => XS.iconst X59.here hx rfl (hb hby at_167) k_) ?_
      refine Go.st (S' := T59.setTop (mkF m 169 #[.val (.int p0), .val (.int p1), .val (.int p2), .val (.long q3), .second, .val (.int p4), .val (.int p5), .val (.ref b11), .val (.ref b15), .val (.ref b19), .val (.int (1 : Int32)), .val (.int (1 : Int32)), .val (.ref b56), .val (.int (0 : Int32)), .val (.ref b11), .unset] [(.int p0)])) (A_b11.load X59 hx hZ e59 (j := (0 : Int32)) (v := p0) (by decide) rfl (g := (mkF m 168 #[.val (.int p0), .val (.int p1), .val (.int p2), .val (.long q3), .second, .val (.int p4), .val (.int p5), .val (.ref b11), .val (.ref b15), .val (.ref b19), .val (.int (1 : Int32)), .val (.int (1 : Int32)), .val (.ref b56), .val (.int (0 : Int32)), .val (.ref b11), .unset] [(.int (0 : Int32)), (.ref b11)])) rfl rfl (hb hby at_168)) ?_
      refine Go.st (S' := T59.setTop (mkF m 171 #[.val (.int p0), .val (.int p1), .val (.int p2), .val (.long q3), .second, .val (.int p4), .val (.int p5), .val (.ref b11), .val (.ref b15), .val (.ref b19), .val (.int (1 : Int32)), .val (.int (1 : Int32)), .val (.ref b56), .val (.int (0 : Int32)), .val (.ref b11), .unset] [(.ref b19), (.int p0)])) (fun _ k_ => XS.aload X59.here hx rfl (hb hby at_169) rfl rfl k_) ?_
      refine Go.st (S' := T59.setTop (mkF m 172 #[.val (.int p0), .val (.int p1), .val (.int p2), .val (.long q3), .second, .val (.int p4), .val (.int p5), .val (.ref b11), .val (.ref b15), .val (.ref b19), .val (.int (1 : Int32)), .val (.int (1 : Int32)), .val (.ref b56), .val (.int (0 : Int32)), .val (.ref b11), .unset] [(.int (0 : Int32)), (.ref b19), (.int p0)])) (fun _ k_ => XS.iconst X59.here hx rfl (hb hby at_171) k_) ?_
      refine Go.st (S' := T59.setTop (mkF m 173 #[.val (.int p0), .val (.int p1), .val (.int p2), .val (.long q3), .second, .val (.int p4), .val (.int p5), .val (.ref b11), .val (.ref b15), .val (.ref b19), .val (.int (1 : Int32)), .val (.int (1 : Int32)), .val (.ref b56), .val (.int (0 : Int32)), .val (.ref b11), .unset] [(.int nq0), (.int p0)])) (A_b19.load X59 hx hZ e59 (j := (0 : Int32)) (v := nq0) (by decide) rfl (g := (mkF m 172 #[.val (.int p0), .val (.int p1), .val (.int p2), .val (.long q3), .second, .val (.int p4), .val (.int p5), .val (.ref b11), .val (.ref b15), .val (.ref b19), .val (.int (1 : Int32)), .val (.int (1 : Int32)), .val (.ref b56), .val (.int (0 : Int32)), .val (.ref b11), .unset] [(.int (0 : Int32)), (.ref b19), (.int p0)])) rfl rfl (hb hby at_172)) ?_
      obtain ⟨v60, T60, h60, L60, X60, e60, hQ60, st60⟩ := callSt X59 hx hZ hown (w80 hw) (w81 hw) (w82 hw) (w83 hw) (by decide) (W := 0) (argsL := [(.int p0), (.int nq0)]) (rest := []) e59 (rm_fits l Z a0 hw p0 nq0 h59 n0 Z0) (by decide) (by decide) pd7 rfl (g := (mkF m 173 #[.val (.int p0), .val (.int p1), .val (.int p2), .val (.long q3), .second, .val (.int p4), .val (.int p5), .val (.ref b11), .val (.ref b15), .val (.ref b19), .val (.int (1 : Int32)), .val (.int (1 : Int32)), .val (.ref b56), .val (.int (0 : Int32)), .val (.ref b11), .unset] [(.int nq0), (.int p0)])) rfl (by rw [hml]; rfl) rfl (by show 2 * 0 + _ ≤ _; exact Nat.le_of_eq rfl) (hb hby at_173) (by decide) (by decide)
      obtain ⟨rfl, Nq60, hh60⟩ := hQ60
      rw [hh60] at e60
      have N60 := Fr.app N59 Nq60
      refine Go.st (S' := T60.setTop (mkF m 176 #[.val (.int p0), .val (.int p1), .val (.int p2), .val (.long q3), .second, .val (.int p4), .val (.int p5), .val (.ref b11), .val (.ref b15), .val (.ref b19), .val (.int (1 : Int32)), .val (.int (1 : Int32)), .val (.ref b56), .val (.int (0 : Int32)), .val (.ref b11), .unset] [(.int (if (p0 = 0 ∨ ¬ nq0 < p0) then (1 : Int32) else (0 : Int32)))])) (st60) ?_
      by_cases hc176 : (p0 = 0 ∨ ¬ nq0 < p0)
      · skip
        refine Go.st (S' := T60.setTop (mkF m 179 #[.val (.int p0), .val (.int p1), .val (.int p2), .val (.long q3), .second, .val (.int p4), .val (.int p5), .val (.ref b11), .val (.ref b15), .val (.ref b19), .val (.int (1 : Int32)), .val (.int (1 : Int32)), .val (.ref b56), .val (.int (0 : Int32)), .val (.ref b11), .unset] [])) (fun _ k_ => XS.ifNo X60.here hx rfl (hb hby at_176) rfl ((if0 _ _).trans (feq (own_if1 hc176)).1) k_) ?_
        refine Go.st (S' := T60.setTop (mkF m 181 #[.val (.int p0), .val (.int p1), .val (.int p2), .val (.long q3), .second, .val (.int p4), .val (.int p5), .val (.ref b11), .val (.ref b15), .val (.ref b19), .val (.int (1 : Int32)), .val (.int (1 : Int32)), .val (.ref b56), .val (.int (0 : Int32)), .val (.ref b11), .unset] [(.ref b11)])) (fun _ k_ => XS.aload X60.here hx rfl (hb hby at_179) rfl rfl k_) ?_
        refine Go.st (S' := T60.setTop (mkF m 182 #[.val (.int p0), .val (.int p1), .val (.int p2), .val (.long q3), .second, .val (.int p4), .val (.int p5), .val (.ref b11), .val (.ref b15), .val (.ref b19), .val (.int (1 : Int32)), .val (.int (1 : Int32)), .val (.ref b56), .val (.int (0 : Int32)), .val (.ref b11), .unset] [(.int (1 : Int32)), (.ref b11)])) (fun _ k_ => XS.iconst X60.here hx rfl (hb hby at_181) k_) ?_
        refine Go.st (S' := T60.setTop (mkF m 183 #[.val (.int p0), .val (.int p1), .val (.int p2), .val (.long q3), .second, .val (.int p4), .val (.int p5), .val (.ref b11), .val (.ref b15), .val (.ref b19), .val (.int (1 : Int32)), .val (.int (1 : Int32)), .val (.ref b56), .val (.int (0 : Int32)), .val (.ref b11), .unset] [(.int p1)])) (A_b11.load X60 hx hZ e60 (j := (1 : Int32)) (v := p1) (by decide) rfl (g := (mkF m 182 #[.val (.int p0), .val (.int p1), .val (.int p2), .val (.long q3), .second, .val (.int p4), .val (.int p5), .val (.ref b11), .val (.ref b15), .val (.ref b19), .val (.int (1 : Int32)), .val (.int (1 : Int32)), .val (.ref b56), .val (.int (0 : Int32)), .val (.ref b11), .unset] [(.int (1 : Int32)), (.ref b11)])) rfl rfl (hb hby at_182)) ?_
        refine Go.st (S' := T60.setTop (mkF m 185 #[.val (.int p0), .val (.int p1), .val (.int p2), .val (.long q3), .second, .val (.int p4), .val (.int p5), .val (.ref b11), .val (.ref b15), .val (.ref b19), .val (.int (1 : Int32)), .val (.int (1 : Int32)), .val (.ref b56), .val (.int (0 : Int32)), .val (.ref b11), .unset] [(.ref b19), (.int p1)])) (fun _ k_ => XS.aload X60.here hx rfl (hb hby at_183) rfl rfl k_) ?_
        refine Go.st (S' := T60.setTop (mkF m 186 #[.val (.int p0), .val (.int p1), .val (.int p2), .val (.long q3), .second, .val (.int p4), .val (.int p5), .val (.ref b11), .val (.ref b15), .val (.ref b19), .val (.int (1 : Int32)), .val (.int (1 : Int32)), .val (.ref b56), .val (.int (0 : Int32)), .val (.ref b11), .unset] [(.int (1 : Int32)), (.ref b19), (.int p1)])) (fun _ k_ => XS.iconst X60.here hx rfl (hb hby at_185) k_) ?_
        refine Go.st (S' := T60.setTop (mkF m 187 #[.val (.int p0), .val (.int p1), .val (.int p2), .val (.long q3), .second, .val (.int p4), .val (.int p5), .val (.ref b11), .val (.ref b15), .val (.ref b19), .val (.int (1 : Int32)), .val (.int (1 : Int32)), .val (.ref b56), .val (.int (0 : Int32)), .val (.ref b11), .unset] [(.int nq1), (.int p1)])) (A_b19.load X60 hx hZ e60 (j := (1 : Int32)) (v := nq1) (by decide) rfl (g := (mkF m 186 #[.val (.int p0), .val (.int p1), .val (.int p2), .val (.long q3), .second, .val (.int p4), .val (.int p5), .val (.ref b11), .val (.ref b15), .val (.ref b19), .val (.int (1 : Int32)), .val (.int (1 : Int32)), .val (.ref b56), .val (.int (0 : Int32)), .val (.ref b11), .unset] [(.int (1 : Int32)), (.ref b19), (.int p1)])) rfl rfl (hb hby at_186)) ?_
        obtain ⟨v61, T61, h61, L61, X61, e61, hQ61, st61⟩ := callSt X60 hx hZ hown (w80 hw) (w81 hw) (w82 hw) (w83 hw) (by decide) (W := 0) (argsL := [(.int p1), (.int nq1)]) (rest := []) e60 (rm_fits l Z a0 hw p1 nq1 h59 n0 Z0) (by decide) (by decide) pd7 rfl (g := (mkF m 187 #[.val (.int p0), .val (.int p1), .val (.int p2), .val (.long q3), .second, .val (.int p4), .val (.int p5), .val (.ref b11), .val (.ref b15), .val (.ref b19), .val (.int (1 : Int32)), .val (.int (1 : Int32)), .val (.ref b56), .val (.int (0 : Int32)), .val (.ref b11), .unset] [(.int nq1), (.int p1)])) rfl (by rw [hml]; rfl) rfl (by show 2 * 0 + _ ≤ _; exact Nat.le_of_eq rfl) (hb hby at_187) (by decide) (by decide)
        obtain ⟨rfl, Nq61, hh61⟩ := hQ61
        rw [hh61] at e61
        have N61 := Fr.app N60 Nq61
        refine Go.st (S' := T61.setTop (mkF m 190 #[.val (.int p0), .val (.int p1), .val (.int p2), .val (.long q3), .second, .val (.int p4), .val (.int p5), .val (.ref b11), .val (.ref b15), .val (.ref b19), .val (.int (1 : Int32)), .val (.int (1 : Int32)), .val (.ref b56), .val (.int (0 : Int32)), .val (.ref b11), .unset] [(.int (if (p1 = 0 ∨ ¬ nq1 < p1) then (1 : Int32) else (0 : Int32)))])) (st61) ?_
        by_cases hc190 : (p1 = 0 ∨ ¬ nq1 < p1)
        · skip
          refine Go.st (S' := T61.setTop (mkF m 193 #[.val (.int p0), .val (.int p1), .val (.int p2), .val (.long q3), .second, .val (.int p4), .val (.int p5), .val (.ref b11), .val (.ref b15), .val (.ref b19), .val (.int (1 : Int32)), .val (.int (1 : Int32)), .val (.ref b56), .val (.int (0 : Int32)), .val (.ref b11), .unset] [])) (fun _ k_ => XS.ifNo X61.here hx rfl (hb hby at_190) rfl ((if0 _ _).trans (feq (own_if1 hc190)).1) k_) ?_
          refine Go.st (S' := T61.setTop (mkF m 195 #[.val (.int p0), .val (.int p1), .val (.int p2), .val (.long q3), .second, .val (.int p4), .val (.int p5), .val (.ref b11), .val (.ref b15), .val (.ref b19), .val (.int (1 : Int32)), .val (.int (1 : Int32)), .val (.ref b56), .val (.int (0 : Int32)), .val (.ref b11), .unset] [(.ref b11)])) (fun _ k_ => XS.aload X61.here hx rfl (hb hby at_193) rfl rfl k_) ?_
          refine Go.st (S' := T61.setTop (mkF m 196 #[.val (.int p0), .val (.int p1), .val (.int p2), .val (.long q3), .second, .val (.int p4), .val (.int p5), .val (.ref b11), .val (.ref b15), .val (.ref b19), .val (.int (1 : Int32)), .val (.int (1 : Int32)), .val (.ref b56), .val (.int (0 : Int32)), .val (.ref b11), .unset] [(.int (2 : Int32)), (.ref b11)])) (fun _ k_ => XS.iconst X61.here hx rfl (hb hby at_195) k_) ?_
          refine Go.st (S' := T61.setTop (mkF m 197 #[.val (.int p0), .val (.int p1), .val (.int p2), .val (.long q3), .second, .val (.int p4), .val (.int p5), .val (.ref b11), .val (.ref b15), .val (.ref b19), .val (.int (1 : Int32)), .val (.int (1 : Int32)), .val (.ref b56), .val (.int (0 : Int32)), .val (.ref b11), .unset] [(.int p2)])) (A_b11.load X61 hx hZ e61 (j := (2 : Int32)) (v := p2) (by decide) rfl (g := (mkF m 196 #[.val (.int p0), .val (.int p1), .val (.int p2), .val (.long q3), .second, .val (.int p4), .val (.int p5), .val (.ref b11), .val (.ref b15), .val (.ref b19), .val (.int (1 : Int32)), .val (.int (1 : Int32)), .val (.ref b56), .val (.int (0 : Int32)), .val (.ref b11), .unset] [(.int (2 : Int32)), (.ref b11)])) rfl rfl (hb hby at_196)) ?_
          refine Go.st (S' := T61.setTop (mkF m 199 #[.val (.int p0), .val (.int p1), .val (.int p2), .val (.long q3), .second, .val (.int p4), .val (.int p5), .val (.ref b11), .val (.ref b15), .val (.ref b19), .val (.int (1 : Int32)), .val (.int (1 : Int32)), .val (.ref b56), .val (.int (0 : Int32)), .val (.ref b11), .unset] [(.ref b19), (.int p2)])) (fun _ k_ => XS.aload X61.here hx rfl (hb hby at_197) rfl rfl k_) ?_
          refine Go.st (S' := T61.setTop (mkF m 200 #[.val (.int p0), .val (.int p1), .val (.int p2), .val (.long q3), .second, .val (.int p4), .val (.int p5), .val (.ref b11), .val (.ref b15), .val (.ref b19), .val (.int (1 : Int32)), .val (.int (1 : Int32)), .val (.ref b56), .val (.int (0 : Int32)), .val (.ref b11), .unset] [(.int (2 : Int32)), (.ref b19), (.int p2)])) (fun _ k_ => XS.iconst X61.here hx rfl (hb hby at_199) k_) ?_
          refine Go.st (S' := T61.setTop (mkF m 201 #[.val (.int p0), .val (.int p1), .val (.int p2), .val (.long q3), .second, .val (.int p4), .val (.int p5), .val (.ref b11), .val (.ref b15), .val (.ref b19), .val (.int (1 : Int32)), .val (.int (1 : Int32)), .val (.ref b56), .val (.int (0 : Int32)), .val (.ref b11), .unset] [(.int p4), (.int p2)])) (A_b19.load X61 hx hZ e61 (j := (2 : Int32)) (v := p4) (by decide) rfl (g := (mkF m 200 #[.val (.int p0), .val (.int p1), .val (.int p2), .val (.long q3), .second, .val (.int p4), .val (.int p5), .val (.ref b11), .val (.ref b15), .val (.ref b19), .val (.int (1 : Int32)), .val (.int (1 : Int32)), .val (.ref b56), .val (.int (0 : Int32)), .val (.ref b11), .unset] [(.int (2 : Int32)), (.ref b19), (.int p2)])) rfl rfl (hb hby at_200)) ?_
          obtain ⟨v62, T62, h62, L62, X62, e62, hQ62, st62⟩ := callSt X61 hx hZ hown (w80 hw) (w81 hw) (w82 hw) (w83 hw) (by decide) (W := 0) (argsL := [(.int p2), (.int p4)]) (rest := []) e61 (rm_fits l Z a0 hw p2 p4 h59 n0 Z0) (by decide) (by decide) pd7 rfl (g := (mkF m 201 #[.val (.int p0), .val (.int p1), .val (.int p2), .val (.long q3), .second, .val (.int p4), .val (.int p5), .val (.ref b11), .val (.ref b15), .val (.ref b19), .val (.int (1 : Int32)), .val (.int (1 : Int32)), .val (.ref b56), .val (.int (0 : Int32)), .val (.ref b11), .unset] [(.int p4), (.int p2)])) rfl (by rw [hml]; rfl) rfl (by show 2 * 0 + _ ≤ _; exact Nat.le_of_eq rfl) (hb hby at_201) (by decide) (by decide)
          obtain ⟨rfl, Nq62, hh62⟩ := hQ62
          rw [hh62] at e62
          have N62 := Fr.app N61 Nq62
          refine Go.st (S' := T62.setTop (mkF m 204 #[.val (.int p0), .val (.int p1), .val (.int p2), .val (.long q3), .second, .val (.int p4), .val (.int p5), .val (.ref b11), .val (.ref b15), .val (.ref b19), .val (.int (1 : Int32)), .val (.int (1 : Int32)), .val (.ref b56), .val (.int (0 : Int32)), .val (.ref b11), .unset] [(.int (if (p2 = 0 ∨ ¬ p4 < p2) then (1 : Int32) else (0 : Int32)))])) (st62) ?_
          by_cases hc204 : (p2 = 0 ∨ ¬ p4 < p2)
          · skip
            refine Go.st (S' := T62.setTop (mkF m 207 #[.val (.int p0), .val (.int p1), .val (.int p2), .val (.long q3), .second, .val (.int p4), .val (.int p5), .val (.ref b11), .val (.ref b15), .val (.ref b19), .val (.int (1 : Int32)), .val (.int (1 : Int32)), .val (.ref b56), .val (.int (0 : Int32)), .val (.ref b11), .unset] [])) (fun _ k_ => XS.ifNo X62.here hx rfl (hb hby at_204) rfl ((if0 _ _).trans (feq (own_if1 hc204)).1) k_) ?_
            refine Go.st (S' := T62.setTop (mkF m 208 #[.val (.int p0), .val (.int p1), .val (.int p2), .val (.long q3), .second, .val (.int p4), .val (.int p5), .val (.ref b11), .val (.ref b15), .val (.ref b19), .val (.int (1 : Int32)), .val (.int (1 : Int32)), .val (.ref b56), .val (.int (0 : Int32)), .val (.ref b11), .unset] [(.int (1 : Int32))])) (fun _ k_ => XS.iconst X62.here hx rfl (hb hby at_207) k_) ?_
            refine Go.st (S' := T62.setTop (mkF m 212 #[.val (.int p0), .val (.int p1), .val (.int p2), .val (.long q3), .second, .val (.int p4), .val (.int p5), .val (.ref b11), .val (.ref b15), .val (.ref b19), .val (.int (1 : Int32)), .val (.int (1 : Int32)), .val (.ref b56), .val (.int (0 : Int32)), .val (.ref b11), .unset] [(.int (1 : Int32))])) (fun _ k_ => XS.goto X62.here hx rfl (pc0 := 208) (pc' := 212) rfl (hb hby at_208) (by decide) (by decide) k_) ?_
            refine Go.st (S' := T62.setTop (mkF m 214 #[.val (.int p0), .val (.int p1), .val (.int p2), .val (.long q3), .second, .val (.int p4), .val (.int p5), .val (.ref b11), .val (.ref b15), .val (.ref b19), .val (.int (1 : Int32)), .val (.int (1 : Int32)), .val (.ref b56), .val (.int (0 : Int32)), .val (.ref b11), .val (.int (1 : Int32))] [])) (fun _ k_ => XS.istore X62.here hx rfl (hb hby at_212) rfl (l' := #[.val (.int p0), .val (.int p1), .val (.int p2), .val (.long q3), .second, .val (.int p4), .val (.int p5), .val (.ref b11), .val (.ref b15), .val (.ref b19), .val (.int (1 : Int32)), .val (.int (1 : Int32)), .val (.ref b56), .val (.int (0 : Int32)), .val (.ref b11), .val (.int (1 : Int32))]) rfl k_) ?_
            refine Go.st (S' := T62.setTop (mkF m 216 #[.val (.int p0), .val (.int p1), .val (.int p2), .val (.long q3), .second, .val (.int p4), .val (.int p5), .val (.ref b11), .val (.ref b15), .val (.ref b19), .val (.int (1 : Int32)), .val (.int (1 : Int32)), .val (.ref b56), .val (.int (0 : Int32)), .val (.ref b11), .val (.int (1 : Int32))] [(.ref b56)])) (fun _ k_ => XS.aload X62.here hx rfl (hb hby at_214) rfl rfl k_) ?_
            refine Go.st (S' := T62.setTop (mkF m 218 #[.val (.int p0), .val (.int p1), .val (.int p2), .val (.long q3), .second, .val (.int p4), .val (.int p5), .val (.ref b11), .val (.ref b15), .val (.ref b19), .val (.int (1 : Int32)), .val (.int (1 : Int32)), .val (.ref b56), .val (.int (0 : Int32)), .val (.ref b11), .val (.int (1 : Int32))] [(.int (0 : Int32)), (.ref b56)])) (fun _ k_ => XS.iload X62.here hx rfl (hb hby at_216) rfl k_) ?_
            refine Go.st (S' := T62.setTop (mkF m 220 #[.val (.int p0), .val (.int p1), .val (.int p2), .val (.long q3), .second, .val (.int p4), .val (.int p5), .val (.ref b11), .val (.ref b15), .val (.ref b19), .val (.int (1 : Int32)), .val (.int (1 : Int32)), .val (.ref b56), .val (.int (0 : Int32)), .val (.ref b11), .val (.int (1 : Int32))] [(.ref b19), (.int (0 : Int32)), (.ref b56)])) (fun _ k_ => XS.aload X62.here hx rfl (hb hby at_218) rfl rfl k_) ?_
            obtain ⟨v63, T63, h63, L63, X63, e63, hQ63, st63⟩ := callVi X62 hx hZ hown (w84 hw) (w85 hw) (w87 hw) (w86 hw) (w3 hw) (w88 hw) (by decide) (W := 0) (argsL := [(.int (0 : Int32)), (.ref b19)]) (rest := []) e62 HM.1 (mt_most l Z a0 hw b56 pr57 prb57 ss57 ssb57 hs57 hsb57 sl57 (([] ++ own_flat (own_ps (p0) (p1) (p2))) ++ own_flat (own_ps (p2) (p0) (nt2))) (([0] ++ [([] ++ own_flat (own_ps (p0) (p1) (p2))).length.toInt32]) ++ [(([] ++ own_flat (own_ps (p0) (p1) (p2))) ++ own_flat (own_ps (p2) (p0) (nt2))).length.toInt32]) (([] ++ [hv58]) ++ [hv59]) zt59 0 ([] ++ own_flat (own_ps (p0) (p1) (p2))).length [] (own_flat (own_ps (p2) (p0) (nt2))) (own_ps (p0) (p1) (p2)) b19 (nq0) (nq1) (p4) h59 n0 Z0 HM hd rfl rfl rfl rfl (by decide) A_b19 (own_psin _ _ _)) (by decide) (by decide) pd8 rfl (g := (mkF m 220 #[.val (.int p0), .val (.int p1), .val (.int p2), .val (.long q3), .second, .val (.int p4), .val (.int p5), .val (.ref b11), .val (.ref b15), .val (.ref b19), .val (.int (1 : Int32)), .val (.int (1 : Int32)), .val (.ref b56), .val (.int (0 : Int32)), .val (.ref b11), .val (.int (1 : Int32))] [(.ref b19), (.int (0 : Int32)), (.ref b56)])) rfl (by rw [hml]; rfl) rfl (by show 2 * 0 + _ ≤ _; exact Nat.le_of_eq rfl) (hb hby at_220) (by decide) (by decide)
            obtain ⟨rfl, Nq63, hh63⟩ := hQ63
            rw [hh63] at e63
            have N63 := Fr.app N62 Nq63
            refine Go.st (S' := T63.setTop (mkF m 223 #[.val (.int p0), .val (.int p1), .val (.int p2), .val (.long q3), .second, .val (.int p4), .val (.int p5), .val (.ref b11), .val (.ref b15), .val (.ref b19), .val (.int (1 : Int32)), .val (.int (1 : Int32)), .val (.ref b56), .val (.int (0 : Int32)), .val (.ref b11), .val (.int (1 : Int32))] [(.int (if own_all (own_ps (p0) (p1) (p2)) [nq0, nq1, p4] = true then (1 : Int32) else (0 : Int32)))])) (st63) ?_
            refine Go.st (S' := T63.setTop (mkF m 225 #[.val (.int p0), .val (.int p1), .val (.int p2), .val (.long q3), .second, .val (.int p4), .val (.int p5), .val (.ref b11), .val (.ref b15), .val (.ref b19), .val (.int (1 : Int32)), .val (.int (1 : Int32)), .val (.ref b56), .val (.int (0 : Int32)), .val (.ref b11), .val (.int (1 : Int32))] [(.int (1 : Int32)), (.int (if own_all (own_ps (p0) (p1) (p2)) [nq0, nq1, p4] = true then (1 : Int32) else (0 : Int32)))])) (fun _ k_ => XS.iload X63.here hx rfl (hb hby at_223) rfl k_) ?_
            refine Go.st (S' := T63.setTop (mkF m 228 #[.val (.int p0), .val (.int p1), .val (.int p2), .val (.long q3), .second, .val (.int p4), .val (.int p5), .val (.ref b11), .val (.ref b15), .val (.ref b19), .val (.int (1 : Int32)), .val (.int (1 : Int32)), .val (.ref b56), .val (.int (0 : Int32)), .val (.ref b11), .val (.int (1 : Int32))] [])) (fun _ k_ => XS.icmpNo X63.here hx rfl (hb hby at_225) rfl (teq (if_pos ((own_allf _ _ _ _ _ _).mpr ⟨hc176, hc190, hc204⟩))).2 k_) ?_
            refine Go.st (S' := T63.setTop (mkF m 229 #[.val (.int p0), .val (.int p1), .val (.int p2), .val (.long q3), .second, .val (.int p4), .val (.int p5), .val (.ref b11), .val (.ref b15), .val (.ref b19), .val (.int (1 : Int32)), .val (.int (1 : Int32)), .val (.ref b56), .val (.int (0 : Int32)), .val (.ref b11), .val (.int (1 : Int32))] [(.int (1 : Int32))])) (fun _ k_ => XS.iconst X63.here hx rfl (hb hby at_228) k_) ?_
            refine Go.st (S' := T63.setTop (mkF m 233 #[.val (.int p0), .val (.int p1), .val (.int p2), .val (.long q3), .second, .val (.int p4), .val (.int p5), .val (.ref b11), .val (.ref b15), .val (.ref b19), .val (.int (1 : Int32)), .val (.int (1 : Int32)), .val (.ref b56), .val (.int (0 : Int32)), .val (.ref b11), .val (.int (1 : Int32))] [(.int (1 : Int32))])) (fun _ k_ => XS.goto X63.here hx rfl (pc0 := 229) (pc' := 233) rfl (hb hby at_229) (by decide) (by decide) k_) ?_
            exact Go.retN X63 hx (t := .boolean) hret (by simp) hlk (hb hby at_233) (by decide) (by decide) ⟨rfl, N63⟩
          · skip
            refine Go.st (S' := T62.setTop (mkF m 211 #[.val (.int p0), .val (.int p1), .val (.int p2), .val (.long q3), .second, .val (.int p4), .val (.int p5), .val (.ref b11), .val (.ref b15), .val (.ref b19), .val (.int (1 : Int32)), .val (.int (1 : Int32)), .val (.ref b56), .val (.int (0 : Int32)), .val (.ref b11), .unset] [])) (fun _ k_ => XS.ifYes X62.here hx rfl (pc0 := 204) (pc' := 211) rfl (hb hby at_204) rfl ((if0 _ _).trans (teq (own_if0 hc204)).1) (by decide) (by decide) k_) ?_
            refine Go.st (S' := T62.setTop (mkF m 212 #[.val (.int p0), .val (.int p1), .val (.int p2), .val (.long q3), .second, .val (.int p4), .val (.int p5), .val (.ref b11), .val (.ref b15), .val (.ref b19), .val (.int (1 : Int32)), .val (.int (1 : Int32)), .val (.ref b56), .val (.int (0 : Int32)), .val (.ref b11), .unset] [(.int (0 : Int32))])) (fun _ k_ => XS.iconst X62.here hx rfl (hb hby at_211) k_) ?_
            refine Go.st (S' := T62.setTop (mkF m 214 #[.val (.int p0), .val (.int p1), .val (.int p2), .val (.long q3), .second, .val (.int p4), .val (.int p5), .val (.ref b11), .val (.ref b15), .val (.ref b19), .val (.int (1 : Int32)), .val (.int (1 : Int32)), .val (.ref b56), .val (.int (0 : Int32)), .val (.ref b11), .val (.int (0 : Int32))] [])) (fun _ k_ => XS.istore X62.here hx rfl (hb hby at_212) rfl (l' := #[.val (.int p0), .val (.int p1), .val (.int p2), .val (.long q3), .second, .val (.int p4), .val (.int p5), .val (.ref b11), .val (.ref b15), .val (.ref b19), .val (.int (1 : Int32)), .val (.int (1 : Int32)), .val (.ref b56), .val (.int (0 : Int32)), .val (.ref b11), .val (.int (0 : Int32))]) rfl k_) ?_
            refine Go.st (S' := T62.setTop (mkF m 216 #[.val (.int p0), .val (.int p1), .val (.int p2), .val (.long q3), .second, .val (.int p4), .val (.int p5), .val (.ref b11), .val (.ref b15), .val (.ref b19), .val (.int (1 : Int32)), .val (.int (1 : Int32)), .val (.ref b56), .val (.int (0 : Int32)), .val (.ref b11), .val (.int (0 : Int32))] [(.ref b56)])) (fun _ k_ => XS.aload X62.here hx rfl (hb hby at_214) rfl rfl k_) ?_
            refine Go.st (S' := T62.setTop (mkF m 218 #[.val (.int p0), .val (.int p1), .val (.int p2), .val (.long q3), .second, .val (.int p4), .val (.int p5), .val (.ref b11), .val (.ref b15), .val (.ref b19), .val (.int (1 : Int32)), .val (.int (1 : Int32)), .val (.ref b56), .val (.int (0 : Int32)), .val (.ref b11), .val (.int (0 : Int32))] [(.int (0 : Int32)), (.ref b56)])) (fun _ k_ => XS.iload X62.here hx rfl (hb hby at_216) rfl k_) ?_
            refine Go.st (S' := T62.setTop (mkF m 220 #[.val (.int p0), .val (.int p1), .val (.int p2), .val (.long q3), .second, .val (.int p4), .val (.int p5), .val (.ref b11), .val (.ref b15), .val (.ref b19), .val (.int (1 : Int32)), .val (.int (1 : Int32)), .val (.ref b56), .val (.int (0 : Int32)), .val (.ref b11), .val (.int (0 : Int32))] [(.ref b19), (.int (0 : Int32)), (.ref b56)])) (fun _ k_ => XS.aload X62.here hx rfl (hb hby at_218) rfl rfl k_) ?_
            obtain ⟨v64, T64, h64, L64, X64, e64, hQ64, st64⟩ := callVi X62 hx hZ hown (w84 hw) (w85 hw) (w87 hw) (w86 hw) (w3 hw) (w88 hw) (by decide) (W := 0) (argsL := [(.int (0 : Int32)), (.ref b19)]) (rest := []) e62 HM.1 (mt_most l Z a0 hw b56 pr57 prb57 ss57 ssb57 hs57 hsb57 sl57 (([] ++ own_flat (own_ps (p0) (p1) (p2))) ++ own_flat (own_ps (p2) (p0) (nt2))) (([0] ++ [([] ++ own_flat (own_ps (p0) (p1) (p2))).length.toInt32]) ++ [(([] ++ own_flat (own_ps (p0) (p1) (p2))) ++ own_flat (own_ps (p2) (p0) (nt2))).length.toInt32]) (([] ++ [hv58]) ++ [hv59]) zt59 0 ([] ++ own_flat (own_ps (p0) (p1) (p2))).length [] (own_flat (own_ps (p2) (p0) (nt2))) (own_ps (p0) (p1) (p2)) b19 (nq0) (nq1) (p4) h59 n0 Z0 HM hd rfl rfl rfl rfl (by decide) A_b19 (own_psin _ _ _)) (by decide) (by decide) pd8 rfl (g := (mkF m 220 #[.val (.int p0), .val (.int p1), .val (.int p2), .val (.long q3), .second, .val (.int p4), .val (.int p5), .val (.ref b11), .val (.ref b15), .val (.ref b19), .val (.int (1 : Int32)), .val (.int (1 : Int32)), .val (.ref b56), .val (.int (0 : Int32)), .val (.ref b11), .val (.int (0 : Int32))] [(.ref b19), (.int (0 : Int32)), (.ref b56)])) rfl (by rw [hml]; rfl) rfl (by show 2 * 0 + _ ≤ _; exact Nat.le_of_eq rfl) (hb hby at_220) (by decide) (by decide)
            obtain ⟨rfl, Nq64, hh64⟩ := hQ64
            rw [hh64] at e64
            have N64 := Fr.app N62 Nq64
            refine Go.st (S' := T64.setTop (mkF m 223 #[.val (.int p0), .val (.int p1), .val (.int p2), .val (.long q3), .second, .val (.int p4), .val (.int p5), .val (.ref b11), .val (.ref b15), .val (.ref b19), .val (.int (1 : Int32)), .val (.int (1 : Int32)), .val (.ref b56), .val (.int (0 : Int32)), .val (.ref b11), .val (.int (0 : Int32))] [(.int (if own_all (own_ps (p0) (p1) (p2)) [nq0, nq1, p4] = true then (1 : Int32) else (0 : Int32)))])) (st64) ?_
            refine Go.st (S' := T64.setTop (mkF m 225 #[.val (.int p0), .val (.int p1), .val (.int p2), .val (.long q3), .second, .val (.int p4), .val (.int p5), .val (.ref b11), .val (.ref b15), .val (.ref b19), .val (.int (1 : Int32)), .val (.int (1 : Int32)), .val (.ref b56), .val (.int (0 : Int32)), .val (.ref b11), .val (.int (0 : Int32))] [(.int (0 : Int32)), (.int (if own_all (own_ps (p0) (p1) (p2)) [nq0, nq1, p4] = true then (1 : Int32) else (0 : Int32)))])) (fun _ k_ => XS.iload X64.here hx rfl (hb hby at_223) rfl k_) ?_
            refine Go.st (S' := T64.setTop (mkF m 228 #[.val (.int p0), .val (.int p1), .val (.int p2), .val (.long q3), .second, .val (.int p4), .val (.int p5), .val (.ref b11), .val (.ref b15), .val (.ref b19), .val (.int (1 : Int32)), .val (.int (1 : Int32)), .val (.ref b56), .val (.int (0 : Int32)), .val (.ref b11), .val (.int (0 : Int32))] [])) (fun _ k_ => XS.icmpNo X64.here hx rfl (hb hby at_225) rfl (teq (if_neg (fun z => hc204 ((own_allf _ _ _ _ _ _).mp z).2.2))).2 k_) ?_
            refine Go.st (S' := T64.setTop (mkF m 229 #[.val (.int p0), .val (.int p1), .val (.int p2), .val (.long q3), .second, .val (.int p4), .val (.int p5), .val (.ref b11), .val (.ref b15), .val (.ref b19), .val (.int (1 : Int32)), .val (.int (1 : Int32)), .val (.ref b56), .val (.int (0 : Int32)), .val (.ref b11), .val (.int (0 : Int32))] [(.int (1 : Int32))])) (fun _ k_ => XS.iconst X64.here hx rfl (hb hby at_228) k_) ?_
            refine Go.st (S' := T64.setTop (mkF m 233 #[.val (.int p0), .val (.int p1), .val (.int p2), .val (.long q3), .second, .val (.int p4), .val (.int p5), .val (.ref b11), .val (.ref b15), .val (.ref b19), .val (.int (1 : Int32)), .val (.int (1 : Int32)), .val (.ref b56), .val (.int (0 : Int32)), .val (.ref b11), .val (.int (0 : Int32))] [(.int (1 : Int32))])) (fun _ k_ => XS.goto X64.here hx rfl (pc0 := 229) (pc' := 233) rfl (hb hby at_229) (by decide) (by decide) k_) ?_
            exact Go.retN X64 hx (t := .boolean) hret (by simp) hlk (hb hby at_233) (by decide) (by decide) ⟨rfl, N64⟩
        · skip
          refine Go.st (S' := T61.setTop (mkF m 211 #[.val (.int p0), .val (.int p1), .val (.int p2), .val (.long q3), .second, .val (.int p4), .val (.int p5), .val (.ref b11), .val (.ref b15), .val (.ref b19), .val (.int (1 : Int32)), .val (.int (1 : Int32)), .val (.ref b56), .val (.int (0 : Int32)), .val (.ref b11), .unset] [])) (fun _ k_ => XS.ifYes X61.here hx rfl (pc0 := 190) (pc' := 211) rfl (hb hby at_190) rfl ((if0 _ _).trans (teq (own_if0 hc190)).1) (by decide) (by decide) k_) ?_
          refine Go.st (S' := T61.setTop (mkF m 212 #[.val (.int p0), .val (.int p1), .val (.int p2), .val (.long q3), .second, .val (.int p4), .val (.int p5), .val (.ref b11), .val (.ref b15), .val (.ref b19), .val (.int (1 : Int32)), .val (.int (1 : Int32)), .val (.ref b56), .val (.int (0 : Int32)), .val (.ref b11), .unset] [(.int (0 : Int32))])) (fun _ k_ => XS.iconst X61.here hx rfl (hb hby at_211) k_) ?_
          refine Go.st (S' := T61.setTop (mkF m 214 #[.val (.int p0), .val (.int p1), .val (.int p2), .val (.long q3), .second, .val (.int p4), .val (.int p5), .val (.ref b11), .val (.ref b15), .val (.ref b19), .val (.int (1 : Int32)), .val (.int (1 : Int32)), .val (.ref b56), .val (.int (0 : Int32)), .val (.ref b11), .val (.int (0 : Int32))] [])) (fun _ k_ => XS.istore X61.here hx rfl (hb hby at_212) rfl (l' := #[.val (.int p0), .val (.int p1), .val (.int p2), .val (.long q3), .second, .val (.int p4), .val (.int p5), .val (.ref b11), .val (.ref b15), .val (.ref b19), .val (.int (1 : Int32)), .val (.int (1 : Int32)), .val (.ref b56), .val (.int (0 : Int32)), .val (.ref b11), .val (.int (0 : Int32))]) rfl k_) ?_
          refine Go.st (S' := T61.setTop (mkF m 216 #[.val (.int p0), .val (.int p1), .val (.int p2), .val (.long q3), .second, .val (.int p4), .val (.int p5), .val (.ref b11), .val (.ref b15), .val (.ref b19), .val (.int (1 : Int32)), .val (.int (1 : Int32)), .val (.ref b56), .val (.int (0 : Int32)), .val (.ref b11), .val (.int (0 : Int32))] [(.ref b56)])) (fun _ k_ => XS.aload X61.here hx rfl (hb hby at_214) rfl rfl k_) ?_
          refine Go.st (S' := T61.setTop (mkF m 218 #[.val (.int p0), .val (.int p1), .val (.int p2), .val (.long q3), .second, .val (.int p4), .val (.int p5), .val (.ref b11), .val (.ref b15), .val (.ref b19), .val (.int (1 : Int32)), .val (.int (1 : Int32)), .val (.ref b56), .val (.int (0 : Int32)), .val (.ref b11), .val (.int (0 : Int32))] [(.int (0 : Int32)), (.ref b56)])) (fun _ k_ => XS.iload X61.here hx rfl (hb hby at_216) rfl k_) ?_
          refine Go.st (S' := T61.setTop (mkF m 220 #[.val (.int p0), .val (.int p1), .val (.int p2), .val (.long q3), .second, .val (.int p4), .val (.int p5), .val (.ref b11), .val (.ref b15), .val (.ref b19), .val (.int (1 : Int32)), .val (.int (1 : Int32)), .val (.ref b56), .val (.int (0 : Int32)), .val (.ref b11), .val (.int (0 : Int32))] [(.ref b19), (.int (0 : Int32)), (.ref b56)])) (fun _ k_ => XS.aload X61.here hx rfl (hb hby at_218) rfl rfl k_) ?_
          obtain ⟨v65, T65, h65, L65, X65, e65, hQ65, st65⟩ := callVi X61 hx hZ hown (w84 hw) (w85 hw) (w87 hw) (w86 hw) (w3 hw) (w88 hw) (by decide) (W := 0) (argsL := [(.int (0 : Int32)), (.ref b19)]) (rest := []) e61 HM.1 (mt_most l Z a0 hw b56 pr57 prb57 ss57 ssb57 hs57 hsb57 sl57 (([] ++ own_flat (own_ps (p0) (p1) (p2))) ++ own_flat (own_ps (p2) (p0) (nt2))) (([0] ++ [([] ++ own_flat (own_ps (p0) (p1) (p2))).length.toInt32]) ++ [(([] ++ own_flat (own_ps (p0) (p1) (p2))) ++ own_flat (own_ps (p2) (p0) (nt2))).length.toInt32]) (([] ++ [hv58]) ++ [hv59]) zt59 0 ([] ++ own_flat (own_ps (p0) (p1) (p2))).length [] (own_flat (own_ps (p2) (p0) (nt2))) (own_ps (p0) (p1) (p2)) b19 (nq0) (nq1) (p4) h59 n0 Z0 HM hd rfl rfl rfl rfl (by decide) A_b19 (own_psin _ _ _)) (by decide) (by decide) pd8 rfl (g := (mkF m 220 #[.val (.int p0), .val (.int p1), .val (.int p2), .val (.long q3), .second, .val (.int p4), .val (.int p5), .val (.ref b11), .val (.ref b15), .val (.ref b19), .val (.int (1 : Int32)), .val (.int (1 : Int32)), .val (.ref b56), .val (.int (0 : Int32)), .val (.ref b11), .val (.int (0 : Int32))] [(.ref b19), (.int (0 : Int32)), (.ref b56)])) rfl (by rw [hml]; rfl) rfl (by show 2 * 0 + _ ≤ _; exact Nat.le_of_eq rfl) (hb hby at_220) (by decide) (by decide)
          obtain ⟨rfl, Nq65, hh65⟩ := hQ65
          rw [hh65] at e65
          have N65 := Fr.app N61 Nq65
          refine Go.st (S' := T65.setTop (mkF m 223 #[.val (.int p0), .val (.int p1), .val (.int p2), .val (.long q3), .second, .val (.int p4), .val (.int p5), .val (.ref b11), .val (.ref b15), .val (.ref b19), .val (.int (1 : Int32)), .val (.int (1 : Int32)), .val (.ref b56), .val (.int (0 : Int32)), .val (.ref b11), .val (.int (0 : Int32))] [(.int (if own_all (own_ps (p0) (p1) (p2)) [nq0, nq1, p4] = true then (1 : Int32) else (0 : Int32)))])) (st65) ?_
          refine Go.st (S' := T65.setTop (mkF m 225 #[.val (.int p0), .val (.int p1), .val (.int p2), .val (.long q3), .second, .val (.int p4), .val (.int p5), .val (.ref b11), .val (.ref b15), .val (.ref b19), .val (.int (1 : Int32)), .val (.int (1 : Int32)), .val (.ref b56), .val (.int (0 : Int32)), .val (.ref b11), .val (.int (0 : Int32))] [(.int (0 : Int32)), (.int (if own_all (own_ps (p0) (p1) (p2)) [nq0, nq1, p4] = true then (1 : Int32) else (0 : Int32)))])) (fun _ k_ => XS.iload X65.here hx rfl (hb hby at_223) rfl k_) ?_
          refine Go.st (S' := T65.setTop (mkF m 228 #[.val (.int p0), .val (.int p1), .val (.int p2), .val (.long q3), .second, .val (.int p4), .val (.int p5), .val (.ref b11), .val (.ref b15), .val (.ref b19), .val (.int (1 : Int32)), .val (.int (1 : Int32)), .val (.ref b56), .val (.int (0 : Int32)), .val (.ref b11), .val (.int (0 : Int32))] [])) (fun _ k_ => XS.icmpNo X65.here hx rfl (hb hby at_225) rfl (teq (if_neg (fun z => hc190 ((own_allf _ _ _ _ _ _).mp z).2.1))).2 k_) ?_
          refine Go.st (S' := T65.setTop (mkF m 229 #[.val (.int p0), .val (.int p1), .val (.int p2), .val (.long q3), .second, .val (.int p4), .val (.int p5), .val (.ref b11), .val (.ref b15), .val (.ref b19), .val (.int (1 : Int32)), .val (.int (1 : Int32)), .val (.ref b56), .val (.int (0 : Int32)), .val (.ref b11), .val (.int (0 : Int32))] [(.int (1 : Int32))])) (fun _ k_ => XS.iconst X65.here hx rfl (hb hby at_228) k_) ?_
          refine Go.st (S' := T65.setTop (mkF m 233 #[.val (.int p0), .val (.int p1), .val (.int p2), .val (.long q3), .second, .val (.int p4), .val (.int p5), .val (.ref b11), .val (.ref b15), .val (.ref b19), .val (.int (1 : Int32)), .val (.int (1 : Int32)), .val (.ref b56), .val (.int (0 : Int32)), .val (.ref b11), .val (.int (0 : Int32))] [(.int (1 : Int32))])) (fun _ k_ => XS.goto X65.here hx rfl (pc0 := 229) (pc' := 233) rfl (hb hby at_229) (by decide) (by decide) k_) ?_
          exact Go.retN X65 hx (t := .boolean) hret (by simp) hlk (hb hby at_233) (by decide) (by decide) ⟨rfl, N65⟩
      · skip
        refine Go.st (S' := T60.setTop (mkF m 211 #[.val (.int p0), .val (.int p1), .val (.int p2), .val (.long q3), .second, .val (.int p4), .val (.int p5), .val (.ref b11), .val (.ref b15), .val (.ref b19), .val (.int (1 : Int32)), .val (.int (1 : Int32)), .val (.ref b56), .val (.int (0 : Int32)), .val (.ref b11), .unset] [])) (fun _ k_ => XS.ifYes X60.here hx rfl (pc0 := 176) (pc' := 211) rfl (hb hby at_176) rfl ((if0 _ _).trans (teq (own_if0 hc176)).1) (by decide) (by decide) k_) ?_
        refine Go.st (S' := T60.setTop (mkF m 212 #[.val (.int p0), .val (.int p1), .val (.int p2), .val (.long q3), .second, .val (.int p4), .val (.int p5), .val (.ref b11), .val (.ref b15), .val (.ref b19), .val (.int (1 : Int32)), .val (.int (1 : Int32)), .val (.ref b56), .val (.int (0 : Int32)), .val (.ref b11), .unset] [(.int (0 : Int32))])) (fun _ k_ => XS.iconst X60.here hx rfl (hb hby at_211) k_) ?_
        refine Go.st (S' := T60.setTop (mkF m 214 #[.val (.int p0), .val (.int p1), .val (.int p2), .val (.long q3), .second, .val (.int p4), .val (.int p5), .val (.ref b11), .val (.ref b15), .val (.ref b19), .val (.int (1 : Int32)), .val (.int (1 : Int32)), .val (.ref b56), .val (.int (0 : Int32)), .val (.ref b11), .val (.int (0 : Int32))] [])) (fun _ k_ => XS.istore X60.here hx rfl (hb hby at_212) rfl (l' := #[.val (.int p0), .val (.int p1), .val (.int p2), .val (.long q3), .second, .val (.int p4), .val (.int p5), .val (.ref b11), .val (.ref b15), .val (.ref b19), .val (.int (1 : Int32)), .val (.int (1 : Int32)), .val (.ref b56), .val (.int (0 : Int32)), .val (.ref b11), .val (.int (0 : Int32))]) rfl k_) ?_
        refine Go.st (S' := T60.setTop (mkF m 216 #[.val (.int p0), .val (.int p1), .val (.int p2), .val (.long q3), .second, .val (.int p4), .val (.int p5), .val (.ref b11), .val (.ref b15), .val (.ref b19), .val (.int (1 : Int32)), .val (.int (1 : Int32)), .val (.ref b56), .val (.int (0 : Int32)), .val (.ref b11), .val (.int (0 : Int32))] [(.ref b56)])) (fun _ k_ => XS.aload X60.here hx rfl (hb hby at_214) rfl rfl k_) ?_
        refine Go.st (S' := T60.setTop (mkF m 218 #[.val (.int p0), .val (.int p1), .val (.int p2), .val (.long q3), .second, .val (.int p4), .val (.int p5), .val (.ref b11), .val (.ref b15), .val (.ref b19), .val (.int (1 : Int32)), .val (.int (1 : Int32)), .val (.ref b56), .val (.int (0 : Int32)), .val (.ref b11), .val (.int (0 : Int32))] [(.int (0 : Int32)), (.ref b56)])) (fun _ k_ => XS.iload X60.here hx rfl (hb hby at_216) rfl k_) ?_
        refine Go.st (S' := T60.setTop (mkF m 220 #[.val (.int p0), .val (.int p1), .val (.int p2), .val (.long q3), .second, .val (.int p4), .val (.int p5), .val (.ref b11), .val (.ref b15), .val (.ref b19), .val (.int (1 : Int32)), .val (.int (1 : Int32)), .val (.ref b56), .val (.int (0 : Int32)), .val (.ref b11), .val (.int (0 : Int32))] [(.ref b19), (.int (0 : Int32)), (.ref b56)])) (fun _ k_ => XS.aload X60.here hx rfl (hb hby at_218) rfl rfl k_) ?_
        obtain ⟨v66, T66, h66, L66, X66, e66, hQ66, st66⟩ := callVi X60 hx hZ hown (w84 hw) (w85 hw) (w87 hw) (w86 hw) (w3 hw) (w88 hw) (by decide) (W := 0) (argsL := [(.int (0 : Int32)), (.ref b19)]) (rest := []) e60 HM.1 (mt_most l Z a0 hw b56 pr57 prb57 ss57 ssb57 hs57 hsb57 sl57 (([] ++ own_flat (own_ps (p0) (p1) (p2))) ++ own_flat (own_ps (p2) (p0) (nt2))) (([0] ++ [([] ++ own_flat (own_ps (p0) (p1) (p2))).length.toInt32]) ++ [(([] ++ own_flat (own_ps (p0) (p1) (p2))) ++ own_flat (own_ps (p2) (p0) (nt2))).length.toInt32]) (([] ++ [hv58]) ++ [hv59]) zt59 0 ([] ++ own_flat (own_ps (p0) (p1) (p2))).length [] (own_flat (own_ps (p2) (p0) (nt2))) (own_ps (p0) (p1) (p2)) b19 (nq0) (nq1) (p4) h59 n0 Z0 HM hd rfl rfl rfl rfl (by decide) A_b19 (own_psin _ _ _)) (by decide) (by decide) pd8 rfl (g := (mkF m 220 #[.val (.int p0), .val (.int p1), .val (.int p2), .val (.long q3), .second, .val (.int p4), .val (.int p5), .val (.ref b11), .val (.ref b15), .val (.ref b19), .val (.int (1 : Int32)), .val (.int (1 : Int32)), .val (.ref b56), .val (.int (0 : Int32)), .val (.ref b11), .val (.int (0 : Int32))] [(.ref b19), (.int (0 : Int32)), (.ref b56)])) rfl (by rw [hml]; rfl) rfl (by show 2 * 0 + _ ≤ _; exact Nat.le_of_eq rfl) (hb hby at_220) (by decide) (by decide)
        obtain ⟨rfl, Nq66, hh66⟩ := hQ66
        rw [hh66] at e66
        have N66 := Fr.app N60 Nq66
        refine Go.st (S' := T66.setTop (mkF m 223 #[.val (.int p0), .val (.int p1), .val (.int p2), .val (.long q3), .second, .val (.int p4), .val (.int p5), .val (.ref b11), .val (.ref b15), .val (.ref b19), .val (.int (1 : Int32)), .val (.int (1 : Int32)), .val (.ref b56), .val (.int (0 : Int32)), .val (.ref b11), .val (.int (0 : Int32))] [(.int (if own_all (own_ps (p0) (p1) (p2)) [nq0, nq1, p4] = true then (1 : Int32) else (0 : Int32)))])) (st66) ?_
        refine Go.st (S' := T66.setTop (mkF m 225 #[.val (.int p0), .val (.int p1), .val (.int p2), .val (.long q3), .second, .val (.int p4), .val (.int p5), .val (.ref b11), .val (.ref b15), .val (.ref b19), .val (.int (1 : Int32)), .val (.int (1 : Int32)), .val (.ref b56), .val (.int (0 : Int32)), .val (.ref b11), .val (.int (0 : Int32))] [(.int (0 : Int32)), (.int (if own_all (own_ps (p0) (p1) (p2)) [nq0, nq1, p4] = true then (1 : Int32) else (0 : Int32)))])) (fun _ k_ => XS.iload X66.here hx rfl (hb hby at_223) rfl k_) ?_
        refine Go.st (S' := T66.setTop (mkF m 228 #[.val (.int p0), .val (.int p1), .val (.int p2), .val (.long q3), .second, .val (.int p4), .val (.int p5), .val (.ref b11), .val (.ref b15), .val (.ref b19), .val (.int (1 : Int32)), .val (.int (1 : Int32)), .val (.ref b56), .val (.int (0 : Int32)), .val (.ref b11), .val (.int (0 : Int32))] [])) (fun _ k_ => XS.icmpNo X66.here hx rfl (hb hby at_225) rfl (teq (if_neg (fun z => hc176 ((own_allf _ _ _ _ _ _).mp z).1))).2 k_) ?_
        refine Go.st (S' := T66.setTop (mkF m 229 #[.val (.int p0), .val (.int p1), .val (.int p2), .val (.long q3), .second, .val (.int p4), .val (.int p5), .val (.ref b11), .val (.ref b15), .val (.ref b19), .val (.int (1 : Int32)), .val (.int (1 : Int32)), .val (.ref b56), .val (.int (0 : Int32)), .val (.ref b11), .val (.int (0 : Int32))] [(.int (1 : Int32))])) (fun _ k_ => XS.iconst X66.here hx rfl (hb hby at_228) k_) ?_
        refine Go.st (S' := T66.setTop (mkF m 233 #[.val (.int p0), .val (.int p1), .val (.int p2), .val (.long q3), .second, .val (.int p4), .val (.int p5), .val (.ref b11), .val (.ref b15), .val (.ref b19), .val (.int (1 : Int32)), .val (.int (1 : Int32)), .val (.ref b56), .val (.int (0 : Int32)), .val (.ref b11), .val (.int (0 : Int32))] [(.int (1 : Int32))])) (fun _ k_ => XS.goto X66.here hx rfl (pc0 := 229) (pc' := 233) rfl (hb hby at_229) (by decide) (by decide) k_) ?_
        exact Go.retN X66 hx (t := .boolean) hret (by simp) hlk (hb hby at_233) (by decide) (by decide) ⟨rfl, N66⟩
set_option maxRecDepth 65536 in
set_option maxHeartbeats 40000000 in
theorem comes_1 {Post : Tables → Env → Array Value → State → Outcome → State → Prop} (hpost : ∀ tb e args s v u, (limb_1_1.after args s (.returned v) u = true ∧ limb_1_2.after args s (.returned v) u = true ∧ True) → FrameEnd s (.returned v) u (Jvm.fieldLocs frame_1_writes args s ++ Jvm.arrayLocs frame_1_arrays args s ++ Jvm.staticLocs frame_1_statics s) 32 256 → Post tb e args s (.returned v) u) :
    ArmFor flags0 classFile x code maxLocals ret World_1 tables_1 room_1 Calls_1 rest_1 Pre_1 Post := by
  intro l hfl _ _ p e ha hc hk s m args below hf hA hF happ hP
  obtain ⟨hcalls, hrest, hpre⟩ := hP
  obtain ⟨-, -, -, hnamed, -, -, -, hat⟩ := (Spec.applies_iff hf).mp happ
  obtain ⟨hg, hn⟩ := and_e (Cond.before_iff.mp (show (Jvm.Cond.and given_1 narrow_1).before args s = true from hpre))
  obtain ⟨g1, g2⟩ := and_e hg
  obtain ⟨g3, g4⟩ := and_e g2
  obtain ⟨g5, g6⟩ := and_e g4
  obtain ⟨g7, g8⟩ := and_e g6
  obtain ⟨g9, g10⟩ := and_e g8
  obtain ⟨g11, g12⟩ := and_e g10
  obtain ⟨u0, u1, u2, u3, u4, u5, rfl⟩ : ∃ u0 u1 u2 u3 u4 u5 : Value, args = #[u0, u1, u2, u3, u4, u5] := by
    have hs : args.size = 6 := by simpa [Cond.value, given_1] using g1
    obtain ⟨L⟩ := args
    match L, hs with
    | [u0, u1, u2, u3, u4, u5], _ => exact ⟨u0, u1, u2, u3, u4, u5, rfl⟩
  have hw := fun d (hd : d ∈ tables_1) => atoms_spec (ws := Jvm.Cond.code x code maxLocals ret :: tables_1) hat d (List.mem_cons_of_mem _ hd)
  obtain ⟨i0, ei0⟩ := is_v g3
  obtain rfl : u0 = (.int i0) := Option.some.inj ei0
  obtain ⟨i1, ei1⟩ := is_v g5
  obtain rfl : u1 = (.int i1) := Option.some.inj ei1
  obtain ⟨i2, ei2⟩ := is_v g7
  obtain rfl : u2 = (.int i2) := Option.some.inj ei2
  obtain ⟨i3, ei3⟩ := isL_v g9
  obtain rfl : u3 = (.long i3) := Option.some.inj ei3
  obtain ⟨i4, ei4⟩ := is_v g11
  obtain rfl : u4 = (.int i4) := Option.some.inj ei4
  obtain ⟨i5, ei5⟩ := is_v g12
  obtain rfl : u5 = (.int i5) := Option.some.inj ei5
  obtain ⟨n, o, h1, h2, h3, v, L, rfl, ⟨hv, N⟩, hq⟩ := rm0 l s _ hw tables_1 i0 i1 i2 i3 i4 i5 s.heap s.heap.size (Nat.le_refl _) p e ha hc hk s m _ below hf ((Spec.applies_iff_loose hf).mp happ).1 ⟨rfl, State.Warmed39.refl s, rfl⟩ trivial
  subst hv
  refine ⟨n, _, h1, h2, h3, hpost _ _ _ _ _ _ ⟨Cond.after_iff.mpr rfl, Cond.after_iff.mpr (eq_i res_at (Term.int_eval (1)) rfl), trivial⟩ ⟨hq.1, hq.2.1, (hq.2.2.sift fun y hy => Or.inr (N y hy)).mono (by decide) (by decide)⟩⟩
theorem main_1_1 : Claimed_1_1 := comes_1 fun _ _ _ _ _ _ h hF => ⟨h.1, hF⟩
theorem main_1_2 : Claimed_1_2 := comes_1 fun _ _ _ _ _ _ h hF => ⟨h.2.1, hF⟩
end Jvm.Pilot.@@N@@
namespace Jvm.Pilot.@@N@@
open Jvm Jvm.ClassFile Sem Op Lib Jvm.Free Jvm.Stand Jvm.Pilot.@@N@@.Jvm.D
/-! MADE BY PROGRAM (witnessworld.py) out of the Statement's table words and the real class files: 12 classes; the members and pool entries that the words name. The judged class is class 1, her method 2. -/
namespace start1
open Jvm.ClassFile
def u (s : String) : CpInfo := .utf8 (stringToUtf16 s)
/-- a pool by its gaps: so many unusable entries, then the entry; so many at the end -/
def gap : Nat → List CpInfo → List CpInfo
  | 0, r => r
  | n + 1, r => .unusable :: gap n r
def poolList (es : List (Nat × CpInfo)) (last : Nat) : List CpInfo := es.foldr (fun e r => gap e.1 (e.2 :: r)) (gap last [])
def pool (es : List (Nat × CpInfo)) (last : Nat) : Array CpInfo := ⟨poolList es last⟩
def fileOf (pool : Array CpInfo) (this : Nat) (attrs : Array Attribute := #[]) (ms : Array MethodInfo := #[]) (fl : Nat := 33) (sup : Nat := 0) (ifs : Array Nat := #[]) (fds : Array FieldInfo := #[]) : ClassFile where
  minorVersion := 0
  majorVersion := 65
  constantPool := pool
  accessFlags := fl
  thisClass := this
  superClass := sup
  interfaces := ifs
  fields := fds
  methods := ms
  attributes := attrs
def plain (name : String) (sup : Option ClassId) : Class where
  name := name
  kind := .ordinary
  loader := none
  accessFlags := 33
  super := sup
  interfaces := #[]
  cf := none
  fields := #[]
  methods := #[]
  instanceTypes := #[]
  staticTypes := #[]
  resolved := #[]
  callSites := []
  init := .initialized
  statics := none
  mirror := none

def pool0 : Array CpInfo := pool [(5, u "<init>"), (0, u "()V"), (1, .class_ 10), (1, u "java/lang/Object")] 113

def k0c0 : Code := { maxStack := 0, maxLocals := 1, code := object_method_1_code, exceptionTable := #[], attributes := #[] }
def k0m0 : Method := { name := "<init>", desc := "()V", sig := { parameters := [], returnType := none }, accessFlags := 1, code := some k0c0 }
/-- java/lang/Object -/
def k0 : Class := { plain "java/lang/Object" none with
  accessFlags := 33
  interfaces := #[]
  cf := some (fileOf pool0 8 #[] #[{ accessFlags := 1, nameIndex := 5, descriptorIndex := 6, attributes := #[] }] 33 0 #[] #[])
  fields := #[]
  methods := #[k0m0]
  instanceTypes := #[]
  staticTypes := #[]
  resolved := Array.replicate 124 none
  statics := none }

def pool1 : Array CpInfo := pool [(2, .class_ 4), (1, u "java/lang/Object"), (0, u "<init>"), (0, u "()V"), (0, .class_ 8), (0, u "com/example/caseweave/caseweave/core/MarkingTable"), (0, .methodref 7 10), (0, .nameAndType 5 11), (0, u "(I)V"), (0, .methodref 7 13), (0, .nameAndType 14 15), (0, u "add"), (0, u "([I)I"), (0, .methodref 17 18), (0, .class_ 19), (0, .nameAndType 20 21), (0, u "com/example/caseweave/caseweave/core/MarkingTableIsAtMostPinLaw"), (0, u "fits"), (0, u "(II)Z"), (0, .methodref 7 23), (0, .nameAndType 24 25), (0, u "isAtMost"), (0, u "(I[I)Z"), (3, u "law"), (0, u "(IIIJII)Z")] 4

def k1m0 : Method := { name := "<init>", desc := "()V", sig := { parameters := [], returnType := none }, accessFlags := 1, code := none }
def k1c1 : Code := { maxStack := 2, maxLocals := 2, code := method_2_code, exceptionTable := #[], attributes := #[] }
def k1m1 : Method := { name := "fits", desc := "(II)Z", sig := { parameters := [.int, .int], returnType := some .boolean }, accessFlags := 10, code := some k1c1 }
def k1c2 : Code := { maxStack := 6, maxLocals := 16, code := code, exceptionTable := #[], attributes := #[] }
def k1m2 : Method := { name := "law", desc := "(IIIJII)Z", sig := { parameters := [.int, .int, .int, .long, .int, .int], returnType := some .boolean }, accessFlags := 9, code := some k1c2 }
/-- com/example/caseweave/caseweave/core/MarkingTableIsAtMostPinLaw -/
def k1 : Class := { plain "com/example/caseweave/caseweave/core/MarkingTableIsAtMostPinLaw" (some 0) with
  accessFlags := 49
  interfaces := #[]
  cf := some (fileOf pool1 17 #[] #[{ accessFlags := 1, nameIndex := 5, descriptorIndex := 6, attributes := #[] }, { accessFlags := 10, nameIndex := 20, descriptorIndex := 21, attributes := #[] }, { accessFlags := 9, nameIndex := 29, descriptorIndex := 30, attributes := #[] }] 49 2 #[] #[])
  fields := #[]
  methods := #[k1m0, k1m1, k1m2]
  instanceTypes := #[]
  staticTypes := #[]
  resolved := Array.replicate 35 none
  statics := none }

def pool2 : Array CpInfo := pool [(1, .methodref 2 3), (0, .class_ 4), (0, .nameAndType 5 6), (0, u "java/lang/Object"), (0, u "<init>"), (0, u "()V"), (0, .class_ 8), (0, u "com/example/caseweave/caseweave/core/IntList"), (0, .methodref 7 3), (0, .fieldref 11 12), (0, .class_ 13), (0, .nameAndType 14 15), (0, u "com/example/caseweave/caseweave/core/MarkingTable"), (0, u "pairs"), (0, u "Lcom/example/caseweave/caseweave/core/IntList;"), (0, .fieldref 11 17), (0, .nameAndType 18 15), (0, u "starts"), (0, .fieldref 11 20), (0, .nameAndType 21 15), (0, u "hashes"), (0, .fieldref 11 23), (0, .nameAndType 24 25), (0, u "slots"), (0, u "[I"), (0, .fieldref 11 27), (0, .nameAndType 28 29), (0, u "places"), (0, u "I"), (0, .fieldref 11 31), (0, .nameAndType 32 25), (0, u "stored"), (0, .methodref 7 34), (0, .nameAndType 35 36), (0, u "add"), (0, u "(I)V"), (0, .methodref 7 38), (0, .nameAndType 39 40), (0, u "size"), (0, u "()I"), (0, .methodref 11 42), (0, .nameAndType 43 44), (0, u "hash"), (0, u "([I)I"), (0, .methodref 7 46), (0, .nameAndType 47 48), (0, u "get"), (0, u "(I)I"), (5, .class_ 56), (1, u "java/util/Arrays"), (2, .methodref 11 38), (0, .integer 536870912), (7, .methodref 11 69), (0, .nameAndType 70 36), (0, u "insert"), (4, .methodref 54 76), (0, .nameAndType 77 44), (0, u "hashCode"), (0, .integer 2654435769), (0, u "MAX_SLOTS"), (8, u "isAtMost"), (0, u "(I[I)Z")] 2

def k2c0 : Code := { maxStack := 3, maxLocals := 2, code := prog_9_method_1_code, exceptionTable := #[], attributes := #[] }
def k2m0 : Method := { name := "<init>", desc := "(I)V", sig := { parameters := [.int], returnType := none }, accessFlags := 0, code := some k2c0 }
def k2c1 : Code := { maxStack := 1, maxLocals := 1, code := prog_9_method_2_code, exceptionTable := #[], attributes := #[] }
def k2m1 : Method := { name := "size", desc := "()I", sig := { parameters := [], returnType := some .int }, accessFlags := 0, code := some k2c1 }
def k2c2 : Code := { maxStack := 3, maxLocals := 4, code := prog_9_method_4_code, exceptionTable := #[], attributes := #[] }
def k2m2 : Method := { name := "add", desc := "([I)I", sig := { parameters := [(.array .int)], returnType := some .int }, accessFlags := 0, code := some k2c2 }
def k2c3 : Code := { maxStack := 4, maxLocals := 4, code := prog_9_method_7_code, exceptionTable := #[], attributes := #[] }
def k2m3 : Method := { name := "isAtMost", desc := "(I[I)Z", sig := { parameters := [.int, (.array .int)], returnType := some .boolean }, accessFlags := 0, code := some k2c3 }
def k2c4 : Code := { maxStack := 4, maxLocals := 3, code := prog_9_method_8_code, exceptionTable := #[], attributes := #[] }
def k2m4 : Method := { name := "insert", desc := "(I)V", sig := { parameters := [.int], returnType := none }, accessFlags := 2, code := some k2c4 }
def k2c5 : Code := { maxStack := 3, maxLocals := 2, code := prog_9_method_9_code, exceptionTable := #[], attributes := #[] }
def k2m5 : Method := { name := "hash", desc := "([I)I", sig := { parameters := [(.array .int)], returnType := some .int }, accessFlags := 10, code := some k2c5 }
/-- com/example/caseweave/caseweave/core/MarkingTable -/
def k2 : Class := { plain "com/example/caseweave/caseweave/core/MarkingTable" (some 0) with
  accessFlags := 48
  interfaces := #[]
  cf := some (fileOf pool2 11 #[] #[{ accessFlags := 0, nameIndex := 5, descriptorIndex := 36, attributes := #[] }, { accessFlags := 0, nameIndex := 39, descriptorIndex := 40, attributes := #[] }, { accessFlags := 0, nameIndex := 35, descriptorIndex := 44, attributes := #[] }, { accessFlags := 0, nameIndex := 88, descriptorIndex := 89, attributes := #[] }, { accessFlags := 2, nameIndex := 70, descriptorIndex := 36, attributes := #[] }, { accessFlags := 10, nameIndex := 43, descriptorIndex := 44, attributes := #[] }] 48 2 #[] #[{ accessFlags := 26, nameIndex := 79, descriptorIndex := 29, attributes := #[] }, { accessFlags := 18, nameIndex := 28, descriptorIndex := 29, attributes := #[] }, { accessFlags := 18, nameIndex := 32, descriptorIndex := 25, attributes := #[] }, { accessFlags := 18, nameIndex := 14, descriptorIndex := 15, attributes := #[] }, { accessFlags := 18, nameIndex := 18, descriptorIndex := 15, attributes := #[] }, { accessFlags := 18, nameIndex := 21, descriptorIndex := 15, attributes := #[] }, { accessFlags := 2, nameIndex := 24, descriptorIndex := 25, attributes := #[] }])
  fields := #[{ name := "MAX_SLOTS", type := .int, accessFlags := 26, slot := 0, constantValue := 0 }, { name := "places", type := .int, accessFlags := 18, slot := 0, constantValue := 0 }, { name := "stored", type := (.array .int), accessFlags := 18, slot := 1, constantValue := 0 }, { name := "pairs", type := (.object "com/example/caseweave/caseweave/core/IntList"), accessFlags := 18, slot := 2, constantValue := 0 }, { name := "starts", type := (.object "com/example/caseweave/caseweave/core/IntList"), accessFlags := 18, slot := 3, constantValue := 0 }, { name := "hashes", type := (.object "com/example/caseweave/caseweave/core/IntList"), accessFlags := 18, slot := 4, constantValue := 0 }, { name := "slots", type := (.array .int), accessFlags := 2, slot := 5, constantValue := 0 }]
  methods := #[k2m0, k2m1, k2m2, k2m3, k2m4, k2m5]
  instanceTypes := #[.int, (.array .int), (.object "com/example/caseweave/caseweave/core/IntList"), (.object "com/example/caseweave/caseweave/core/IntList"), (.object "com/example/caseweave/caseweave/core/IntList"), (.array .int)]
  staticTypes := #[.int]
  resolved := Array.replicate 92 none
  statics := none }

def pool3 : Array CpInfo := pool [(3, .methodref 4 5), (0, .class_ 6), (0, .nameAndType 7 8), (0, u "java/lang/Object"), (0, u "<init>"), (0, u "()V"), (0, .fieldref 10 11), (0, .class_ 12), (0, .nameAndType 13 14), (0, u "com/example/caseweave/caseweave/core/IntList"), (0, u "values"), (0, u "[I"), (0, .fieldref 10 16), (0, .nameAndType 17 18), (0, u "size"), (0, u "I"), (9, .integer 2147483639), (5, .long 2147483639), (1, .long 2), (13, u "MAX_LENGTH"), (3, u "()I"), (0, u "get"), (0, u "(I)I"), (1, u "add"), (0, u "(I)V")] 17

def k3c0 : Code := { maxStack := 2, maxLocals := 1, code := prog_6_method_1_code, exceptionTable := #[], attributes := #[] }
def k3m0 : Method := { name := "<init>", desc := "()V", sig := { parameters := [], returnType := none }, accessFlags := 0, code := some k3c0 }
def k3c1 : Code := { maxStack := 1, maxLocals := 1, code := prog_6_method_2_code, exceptionTable := #[], attributes := #[] }
def k3m1 : Method := { name := "size", desc := "()I", sig := { parameters := [], returnType := some .int }, accessFlags := 0, code := some k3c1 }
def k3c2 : Code := { maxStack := 4, maxLocals := 2, code := prog_6_method_3_code, exceptionTable := #[], attributes := #[] }
def k3m2 : Method := { name := "get", desc := "(I)I", sig := { parameters := [.int], returnType := some .int }, accessFlags := 0, code := some k3c2 }
def k3c3 : Code := { maxStack := 8, maxLocals := 2, code := prog_6_method_4_code, exceptionTable := #[], attributes := #[] }
def k3m3 : Method := { name := "add", desc := "(I)V", sig := { parameters := [.int], returnType := none }, accessFlags := 0, code := some k3c3 }
/-- com/example/caseweave/caseweave/core/IntList -/
def k3 : Class := { plain "com/example/caseweave/caseweave/core/IntList" (some 0) with
  accessFlags := 48
  interfaces := #[]
  cf := some (fileOf pool3 10 #[] #[{ accessFlags := 0, nameIndex := 7, descriptorIndex := 8, attributes := #[] }, { accessFlags := 0, nameIndex := 17, descriptorIndex := 54, attributes := #[] }, { accessFlags := 0, nameIndex := 55, descriptorIndex := 56, attributes := #[] }, { accessFlags := 0, nameIndex := 58, descriptorIndex := 59, attributes := #[] }] 48 4 #[] #[{ accessFlags := 26, nameIndex := 50, descriptorIndex := 18, attributes := #[] }, { accessFlags := 2, nameIndex := 13, descriptorIndex := 14, attributes := #[] }, { accessFlags := 2, nameIndex := 17, descriptorIndex := 18, attributes := #[] }])
  fields := #[{ name := "MAX_LENGTH", type := .int, accessFlags := 26, slot := 0, constantValue := 0 }, { name := "values", type := (.array .int), accessFlags := 2, slot := 0, constantValue := 0 }, { name := "size", type := .int, accessFlags := 2, slot := 1, constantValue := 0 }]
  methods := #[k3m0, k3m1, k3m2, k3m3]
  instanceTypes := #[(.array .int), .int]
  staticTypes := #[.int]
  resolved := Array.replicate 77 none
  statics := none }

def pool4 : Array CpInfo := pool [(2, .class_ 4), (1, u "java/lang/Object"), (0, u "<init>"), (0, u "()V"), (7, .class_ 16), (1, u "java/util/Arrays"), (57, .class_ 76), (1, u "java/util/Arrays$NaturalOrder"), (36, .class_ 115), (1, u "java/util/Arrays$LegacyMergeSort"), (1, u "Z"), (128, .class_ 248), (1, u "jdk/internal/util/ArraysSupport"), (126, .class_ 376), (0, u "java/util/Arrays$ArrayList"), (2, .methodref 246 380), (0, .nameAndType 381 382), (0, u "vectorizedHashCode"), (0, u "(Ljava/lang/Object;IIII)I"), (2, u "hashCode"), (22, u "([I)I"), (36, u "$assertionsDisabled"), (269, u "MIN_ARRAY_SORT_GRAN"), (0, u "I"), (2, u "INSERTIONSORT_THRESHOLD"), (255, .class_ 976), (0, u "java/util/Arrays$ArrayItr")] 52

def k4m0 : Method := { name := "<init>", desc := "()V", sig := { parameters := [], returnType := none }, accessFlags := 2, code := none }
def k4c1 : Code := { maxStack := 5, maxLocals := 1, code := jdk_65_method_150_code, exceptionTable := #[], attributes := #[] }
def k4m1 : Method := { name := "hashCode", desc := "([I)I", sig := { parameters := [(.array .int)], returnType := some .int }, accessFlags := 9, code := some k4c1 }
/-- java/util/Arrays -/
def k4 : Class := { plain "java/util/Arrays" (some 0) with
  accessFlags := 49
  interfaces := #[]
  cf := some (fileOf pool4 14 #[.nestMembers #[975, 375, 113, 74]] #[{ accessFlags := 2, nameIndex := 5, descriptorIndex := 6, attributes := #[] }, { accessFlags := 9, nameIndex := 385, descriptorIndex := 408, attributes := #[] }] 49 2 #[] #[{ accessFlags := 26, nameIndex := 715, descriptorIndex := 716, attributes := #[] }, { accessFlags := 26, nameIndex := 719, descriptorIndex := 716, attributes := #[] }, { accessFlags := 4120, nameIndex := 445, descriptorIndex := 117, attributes := #[] }])
  fields := #[{ name := "MIN_ARRAY_SORT_GRAN", type := .int, accessFlags := 26, slot := 0, constantValue := 0 }, { name := "INSERTIONSORT_THRESHOLD", type := .int, accessFlags := 26, slot := 1, constantValue := 0 }, { name := "$assertionsDisabled", type := .boolean, accessFlags := 4120, slot := 2, constantValue := 0 }]
  methods := #[k4m0, k4m1]
  instanceTypes := #[]
  staticTypes := #[.int, .int, .boolean]
  resolved := Array.replicate 1029 none
  statics := none }

def pool5 : Array CpInfo := pool [(9, u "<init>"), (6, .class_ 18), (1, u "java/lang/Object"), (0, u "()V"), (1, .class_ 23), (1, u "jdk/internal/util/ArraysSupport"), (0, u "LOG2_ARRAY_LONG_INDEX_SCALE"), (0, u "I"), (2, u "U"), (0, u "Ljdk/internal/misc/Unsafe;"), (8, u "BIG_ENDIAN"), (0, u "Z"), (8, u "LOG2_BYTE_BIT_SIZE"), (4, u "LOG2_ARRAY_INT_INDEX_SCALE"), (19, u "hashCode"), (8, .class_ 83), (0, u "[I"), (0, .methodref 21 85), (0, .nameAndType 73 86), (0, u "(I[III)I"), (21, u "JLA"), (0, u "Ljdk/internal/access/JavaLangAccess;"), (11, u "LOG2_ARRAY_BOOLEAN_INDEX_SCALE"), (9, u "LOG2_ARRAY_BYTE_INDEX_SCALE"), (5, u "LOG2_ARRAY_CHAR_INDEX_SCALE"), (5, u "LOG2_ARRAY_SHORT_INDEX_SCALE"), (18, u "LOG2_ARRAY_FLOAT_INDEX_SCALE"), (24, u "LOG2_ARRAY_DOUBLE_INDEX_SCALE"), (89, u "T_BOOLEAN"), (2, u "T_CHAR"), (1, u "T_FLOAT"), (1, u "T_DOUBLE"), (1, u "T_BYTE"), (1, u "T_SHORT"), (1, u "T_INT"), (1, u "T_LONG"), (1, u "SOFT_MAX_ARRAY_LENGTH"), (26, u "vectorizedHashCode"), (0, u "(Ljava/lang/Object;IIII)I")] 55

def k5m0 : Method := { name := "<init>", desc := "()V", sig := { parameters := [], returnType := none }, accessFlags := 2, code := none }
def k5c1 : Code := { maxStack := 4, maxLocals := 5, code := jdk_48_method_4_code, exceptionTable := #[], attributes := #[] }
def k5m1 : Method := { name := "vectorizedHashCode", desc := "(Ljava/lang/Object;IIII)I", sig := { parameters := [(.object "java/lang/Object"), .int, .int, .int, .int], returnType := some .int }, accessFlags := 9, code := some k5c1 }
def k5c2 : Code := { maxStack := 3, maxLocals := 6, code := jdk_48_method_9_code, exceptionTable := #[], attributes := #[] }
def k5m2 : Method := { name := "hashCode", desc := "(I[III)I", sig := { parameters := [.int, (.array .int), .int, .int], returnType := some .int }, accessFlags := 10, code := some k5c2 }
/-- jdk/internal/util/ArraysSupport -/
def k5 : Class := { plain "jdk/internal/util/ArraysSupport" (some 0) with
  accessFlags := 33
  interfaces := #[]
  cf := some (fileOf pool5 21 #[] #[{ accessFlags := 2, nameIndex := 9, descriptorIndex := 19, attributes := #[] }, { accessFlags := 9, nameIndex := 321, descriptorIndex := 322, attributes := #[] }, { accessFlags := 10, nameIndex := 73, descriptorIndex := 86, attributes := #[] }] 33 16 #[] #[{ accessFlags := 24, nameIndex := 28, descriptorIndex := 29, attributes := #[] }, { accessFlags := 26, nameIndex := 38, descriptorIndex := 39, attributes := #[] }, { accessFlags := 25, nameIndex := 121, descriptorIndex := 25, attributes := #[] }, { accessFlags := 25, nameIndex := 131, descriptorIndex := 25, attributes := #[] }, { accessFlags := 25, nameIndex := 137, descriptorIndex := 25, attributes := #[] }, { accessFlags := 25, nameIndex := 143, descriptorIndex := 25, attributes := #[] }, { accessFlags := 25, nameIndex := 53, descriptorIndex := 25, attributes := #[] }, { accessFlags := 25, nameIndex := 24, descriptorIndex := 25, attributes := #[] }, { accessFlags := 25, nameIndex := 162, descriptorIndex := 25, attributes := #[] }, { accessFlags := 25, nameIndex := 187, descriptorIndex := 25, attributes := #[] }, { accessFlags := 26, nameIndex := 48, descriptorIndex := 25, attributes := #[] }, { accessFlags := 25, nameIndex := 277, descriptorIndex := 25, attributes := #[] }, { accessFlags := 25, nameIndex := 280, descriptorIndex := 25, attributes := #[] }, { accessFlags := 25, nameIndex := 282, descriptorIndex := 25, attributes := #[] }, { accessFlags := 25, nameIndex := 284, descriptorIndex := 25, attributes := #[] }, { accessFlags := 25, nameIndex := 286, descriptorIndex := 25, attributes := #[] }, { accessFlags := 25, nameIndex := 288, descriptorIndex := 25, attributes := #[] }, { accessFlags := 25, nameIndex := 290, descriptorIndex := 25, attributes := #[] }, { accessFlags := 25, nameIndex := 292, descriptorIndex := 25, attributes := #[] }, { accessFlags := 26, nameIndex := 108, descriptorIndex := 109, attributes := #[] }, { accessFlags := 25, nameIndex := 294, descriptorIndex := 25, attributes := #[] }])
  fields := #[{ name := "U", type := (.object "jdk/internal/misc/Unsafe"), accessFlags := 24, slot := 0, constantValue := 0 }, { name := "BIG_ENDIAN", type := .boolean, accessFlags := 26, slot := 1, constantValue := 0 }, { name := "LOG2_ARRAY_BOOLEAN_INDEX_SCALE", type := .int, accessFlags := 25, slot := 2, constantValue := 0 }, { name := "LOG2_ARRAY_BYTE_INDEX_SCALE", type := .int, accessFlags := 25, slot := 3, constantValue := 0 }, { name := "LOG2_ARRAY_CHAR_INDEX_SCALE", type := .int, accessFlags := 25, slot := 4, constantValue := 0 }, { name := "LOG2_ARRAY_SHORT_INDEX_SCALE", type := .int, accessFlags := 25, slot := 5, constantValue := 0 }, { name := "LOG2_ARRAY_INT_INDEX_SCALE", type := .int, accessFlags := 25, slot := 6, constantValue := 0 }, { name := "LOG2_ARRAY_LONG_INDEX_SCALE", type := .int, accessFlags := 25, slot := 7, constantValue := 0 }, { name := "LOG2_ARRAY_FLOAT_INDEX_SCALE", type := .int, accessFlags := 25, slot := 8, constantValue := 0 }, { name := "LOG2_ARRAY_DOUBLE_INDEX_SCALE", type := .int, accessFlags := 25, slot := 9, constantValue := 0 }, { name := "LOG2_BYTE_BIT_SIZE", type := .int, accessFlags := 26, slot := 10, constantValue := 0 }, { name := "T_BOOLEAN", type := .int, accessFlags := 25, slot := 11, constantValue := 0 }, { name := "T_CHAR", type := .int, accessFlags := 25, slot := 12, constantValue := 0 }, { name := "T_FLOAT", type := .int, accessFlags := 25, slot := 13, constantValue := 0 }, { name := "T_DOUBLE", type := .int, accessFlags := 25, slot := 14, constantValue := 0 }, { name := "T_BYTE", type := .int, accessFlags := 25, slot := 15, constantValue := 0 }, { name := "T_SHORT", type := .int, accessFlags := 25, slot := 16, constantValue := 0 }, { name := "T_INT", type := .int, accessFlags := 25, slot := 17, constantValue := 0 }, { name := "T_LONG", type := .int, accessFlags := 25, slot := 18, constantValue := 0 }, { name := "JLA", type := (.object "jdk/internal/access/JavaLangAccess"), accessFlags := 26, slot := 19, constantValue := 0 }, { name := "SOFT_MAX_ARRAY_LENGTH", type := .int, accessFlags := 25, slot := 20, constantValue := 0 }]
  methods := #[k5m0, k5m1, k5m2]
  instanceTypes := #[]
  staticTypes := #[(.object "jdk/internal/misc/Unsafe"), .boolean, .int, .int, .int, .int, .int, .int, .int, .int, .int, .int, .int, .int, .int, .int, .int, .int, .int, (.object "jdk/internal/access/JavaLangAccess"), .int]
  resolved := Array.replicate 378 none
  statics := none }

def pool6 : Array CpInfo := pool [(1, u "java/lang/Cloneable"), (0, .class_ 1), (0, u "java/lang/Object"), (0, .class_ 3)] 3

/-- java/lang/Cloneable -/
def k6 : Class := { plain "java/lang/Cloneable" (some 0) with
  accessFlags := 1537
  interfaces := #[]
  cf := some (fileOf pool6 2 #[] #[] 1537 4 #[] #[])
  fields := #[]
  methods := #[]
  instanceTypes := #[]
  staticTypes := #[]
  resolved := Array.replicate 8 none
  statics := none }

def pool7 : Array CpInfo := pool [(1, u "java/io/Serializable"), (0, .class_ 1), (0, u "java/lang/Object"), (0, .class_ 3)] 3

/-- java/io/Serializable -/
def k7 : Class := { plain "java/io/Serializable" (some 0) with
  accessFlags := 1537
  interfaces := #[]
  cf := some (fileOf pool7 2 #[] #[] 1537 4 #[] #[])
  fields := #[]
  methods := #[]
  instanceTypes := #[]
  staticTypes := #[]
  resolved := Array.replicate 8 none
  statics := none }

/-- the primitive byte -/
def k8 : Class := { plain "byte" none with kind := .primitive 'B', accessFlags := 0x411 }
/-- [B -/
def k9 : Class := { plain "[B" (some 0) with kind := .array 8 .byte, interfaces := #[6, 7], accessFlags := 1041 }

/-- the primitive int -/
def k10 : Class := { plain "int" none with kind := .primitive 'I', accessFlags := 0x411 }
/-- [I -/
def k11 : Class := { plain "[I" (some 0) with kind := .array 10 .int, interfaces := #[6, 7], accessFlags := 1041 }

def heap : Heap := #[]
def classes : Array Class := #[k0, k1, k2, k3, k4, k5, k6, k7, k8, k9, k10, k11]
def interned : List (Array UInt16 × Addr) := []
def slotsUsed : Nat := 0
def theMethod : MethodId := ⟨1, 2⟩
def args0 : Array Value := #[.int 1, .int 2, .int 3, .long 4, .int 5, .int 6]
def aboutOver (below : List Frame) : State where
  vm := { classes := classes, interned := interned.toArray }
  heap := heap
  slotsUsed := slotsUsed
  threads := #[{ frames := .invoking theMethod args0 :: below }]
def below0 : List Frame := [.native { method := ⟨0, 0⟩, args := #[] }]
def about1 : State := aboutOver below0
def p0 : Program := .bare "" "" ""
def e0 : Env := launch0.env 0 0 0
theorem w_frames : about1.frames = Frame.invoking theMethod args0 :: below0 := rfl
set_option maxRecDepth 65536 in
theorem w_args : argsFit about1.vm theMethod args0 = true := by decide +kernel
set_option maxRecDepth 65536 in
theorem w_heap : heapFits about1 = true := by decide +kernel
set_option maxRecDepth 65536 in
theorem w_runnable : about1.curStatus? = some .runnable := by decide +kernel
set_option maxRecDepth 65536 in
theorem w_alone : about1.alone = true := by decide +kernel
set_option maxRecDepth 65536 in
theorem w_named : about1.methodNamed? x = some theMethod := by decide +kernel
set_option maxRecDepth 65536 in
theorem w_hears : about1.hears theMethod below0 = true := by decide +kernel
set_option maxRecDepth 65536 in
theorem w_ripe : about1.ripe theMethod args0 below0 = true := by decide +kernel
theorem w_running : about1.status = .running := rfl
set_option maxRecDepth 65536 in
theorem w_room : about1.hasRoom e0.platform room_1 = true :=
  launch0.hasRoom_least _ room_1 (by decide +kernel) (by decide +kernel) (by decide +kernel) (by decide +kernel) (by decide +kernel) (by decide +kernel)
theorem allAtoms_all (ts : List Jvm.Cond) (a : Array Jvm.Value) (st : Jvm.State) : (allAtoms ts).before a st = ts.all (fun c => c.before a st) := by
  induction ts with
  | nil => rfl
  | cons c t ih =>
    show (Jvm.Cond.and c (allAtoms t)).before a st = _
    rw [Jvm.Cond.before_and, ih, List.all_cons]
def words1 : List Jvm.Cond := Jvm.Cond.code x code maxLocals ret :: tables_1
/-- a 'code' word, met by the world's own term for the bytes: nothing is compared byte by byte -/
theorem code_word {y : MethodName} {bytes : ByteArray} {mx : Nat} {rt : Option FieldType} {a : Array Value} {s : State} {m : MethodId} {meth : Method} {c : Code} (h1 : s.methodNamed? y = some m) (h2 : s.vm.method? m = some meth) (h3 : meth.code = some c) (h4 : c.code = bytes)
    (h5 : (c.maxLocals == mx && c.exceptionTable.isEmpty && decide (c.maxStack ≤ mostOperands) && decide (meth.sig.returnType = rt) && !meth.locks && decide (parseMethodDescriptor y.desc = some meth.sig)) = true) : (Jvm.Cond.code y bytes mx rt).before a s = true := by
  simp only [Bool.and_eq_true, beq_iff_eq, Bool.not_eq_true', decide_eq_true_eq] at h5
  obtain ⟨⟨⟨⟨⟨g1, g2⟩, g3⟩, g4⟩, g5⟩, g6⟩ := h5
  simp [Cond.before, Cond.holds, Cond.value, h1, h2, h3, h4, g1, g2, g3, g4, g5, g6]
def isCode : Jvm.Cond → Bool
  | .code _ _ _ _ => true
  | _ => false
theorem all_split {L : List Jvm.Cond} {P : Jvm.Cond → Bool} (h1 : L.all (fun c => isCode c || P c) = true) (h2 : ∀ c ∈ L.filter isCode, P c = true) : L.all P = true := by
  refine List.all_eq_true.mpr fun c hc => ?_
  have h := List.all_eq_true.mp h1 c hc
  rcases Bool.eq_false_or_eq_true (isCode c) with hi | hi
  · exact h2 c (List.mem_filter.mpr ⟨hc, hi⟩)
  · simpa [hi] using h
set_option maxRecDepth 65536 in
theorem w_c0 : (Jvm.Cond.code x code maxLocals ret).before args0 about1 = true := code_word (m := ⟨1, 2⟩) (meth := k1m2) (c := k1c2) (by decide +kernel) rfl rfl rfl (by decide +kernel)
set_option maxRecDepth 65536 in
theorem w_c1 : (Jvm.Cond.code ({ cls := "com/example/caseweave/caseweave/core/MarkingTable", name := "<init>", desc := "(I)V" } : Jvm.MethodName) prog_9_method_1_code (2 : Nat) (Option.none : Option Jvm.ClassFile.FieldType)).before args0 about1 = true := code_word (m := ⟨2, 0⟩) (meth := k2m0) (c := k2c0) (by decide +kernel) rfl rfl rfl (by decide +kernel)
set_option maxRecDepth 65536 in
theorem w_c2 : (Jvm.Cond.code ({ cls := "java/lang/Object", name := "<init>", desc := "()V" } : Jvm.MethodName) object_method_1_code (1 : Nat) (Option.none : Option Jvm.ClassFile.FieldType)).before args0 about1 = true := code_word (m := ⟨0, 0⟩) (meth := k0m0) (c := k0c0) (by decide +kernel) rfl rfl rfl (by decide +kernel)
set_option maxRecDepth 65536 in
theorem w_c3 : (Jvm.Cond.code ({ cls := "com/example/caseweave/caseweave/core/IntList", name := "<init>", desc := "()V" } : Jvm.MethodName) prog_6_method_1_code (1 : Nat) (Option.none : Option Jvm.ClassFile.FieldType)).before args0 about1 = true := code_word (m := ⟨3, 0⟩) (meth := k3m0) (c := k3c0) (by decide +kernel) rfl rfl rfl (by decide +kernel)
set_option maxRecDepth 65536 in
theorem w_c4 : (Jvm.Cond.code ({ cls := "com/example/caseweave/caseweave/core/IntList", name := "add", desc := "(I)V" } : Jvm.MethodName) prog_6_method_4_code (2 : Nat) (Option.none : Option Jvm.ClassFile.FieldType)).before args0 about1 = true := code_word (m := ⟨3, 3⟩) (meth := k3m3) (c := k3c3) (by decide +kernel) rfl rfl rfl (by decide +kernel)
set_option maxRecDepth 65536 in
theorem w_c5 : (Jvm.Cond.code ({ cls := "com/example/caseweave/caseweave/core/MarkingTable", name := "add", desc := "([I)I" } : Jvm.MethodName) prog_9_method_4_code (4 : Nat) (Option.some Jvm.ClassFile.FieldType.int)).before args0 about1 = true := code_word (m := ⟨2, 2⟩) (meth := k2m2) (c := k2c2) (by decide +kernel) rfl rfl rfl (by decide +kernel)
set_option maxRecDepth 65536 in
theorem w_c6 : (Jvm.Cond.code ({ cls := "com/example/caseweave/caseweave/core/MarkingTable", name := "size", desc := "()I" } : Jvm.MethodName) prog_9_method_2_code (1 : Nat) (Option.some Jvm.ClassFile.FieldType.int)).before args0 about1 = true := code_word (m := ⟨2, 1⟩) (meth := k2m1) (c := k2c1) (by decide +kernel) rfl rfl rfl (by decide +kernel)
set_option maxRecDepth 65536 in
theorem w_c7 : (Jvm.Cond.code ({ cls := "com/example/caseweave/caseweave/core/IntList", name := "size", desc := "()I" } : Jvm.MethodName) prog_6_method_2_code (1 : Nat) (Option.some Jvm.ClassFile.FieldType.int)).before args0 about1 = true := code_word (m := ⟨3, 1⟩) (meth := k3m1) (c := k3c1) (by decide +kernel) rfl rfl rfl (by decide +kernel)
set_option maxRecDepth 65536 in
theorem w_c8 : (Jvm.Cond.code ({ cls := "com/example/caseweave/caseweave/core/MarkingTable", name := "hash", desc := "([I)I" } : Jvm.MethodName) prog_9_method_9_code (2 : Nat) (Option.some Jvm.ClassFile.FieldType.int)).before args0 about1 = true := code_word (m := ⟨2, 5⟩) (meth := k2m5) (c := k2c5) (by decide +kernel) rfl rfl rfl (by decide +kernel)
set_option maxRecDepth 65536 in
theorem w_c9 : (Jvm.Cond.code ({ cls := "java/util/Arrays", name := "hashCode", desc := "([I)I" } : Jvm.MethodName) jdk_65_method_150_code (1 : Nat) (Option.some Jvm.ClassFile.FieldType.int)).before args0 about1 = true := code_word (m := ⟨4, 1⟩) (meth := k4m1) (c := k4c1) (by decide +kernel) rfl rfl rfl (by decide +kernel)
set_option maxRecDepth 65536 in
theorem w_c10 : (Jvm.Cond.code ({ cls := "jdk/internal/util/ArraysSupport", name := "vectorizedHashCode", desc := "(Ljava/lang/Object;IIII)I" } : Jvm.MethodName) jdk_48_method_4_code (5 : Nat) (Option.some Jvm.ClassFile.FieldType.int)).before args0 about1 = true := code_word (m := ⟨5, 1⟩) (meth := k5m1) (c := k5c1) (by decide +kernel) rfl rfl rfl (by decide +kernel)
set_option maxRecDepth 65536 in
theorem w_c11 : (Jvm.Cond.code ({ cls := "jdk/internal/util/ArraysSupport", name := "hashCode", desc := "(I[III)I" } : Jvm.MethodName) jdk_48_method_9_code (6 : Nat) (Option.some Jvm.ClassFile.FieldType.int)).before args0 about1 = true := code_word (m := ⟨5, 2⟩) (meth := k5m2) (c := k5c2) (by decide +kernel) rfl rfl rfl (by decide +kernel)
set_option maxRecDepth 65536 in
theorem w_c12 : (Jvm.Cond.code ({ cls := "com/example/caseweave/caseweave/core/MarkingTable", name := "insert", desc := "(I)V" } : Jvm.MethodName) prog_9_method_8_code (3 : Nat) (Option.none : Option Jvm.ClassFile.FieldType)).before args0 about1 = true := code_word (m := ⟨2, 4⟩) (meth := k2m4) (c := k2c4) (by decide +kernel) rfl rfl rfl (by decide +kernel)
set_option maxRecDepth 65536 in
theorem w_c13 : (Jvm.Cond.code ({ cls := "com/example/caseweave/caseweave/core/IntList", name := "get", desc := "(I)I" } : Jvm.MethodName) prog_6_method_3_code (2 : Nat) (Option.some Jvm.ClassFile.FieldType.int)).before args0 about1 = true := code_word (m := ⟨3, 2⟩) (meth := k3m2) (c := k3c2) (by decide +kernel) rfl rfl rfl (by decide +kernel)
set_option maxRecDepth 65536 in
theorem w_c14 : (Jvm.Cond.code ({ cls := "com/example/caseweave/caseweave/core/MarkingTableIsAtMostPinLaw", name := "fits", desc := "(II)Z" } : Jvm.MethodName) method_2_code (2 : Nat) (Option.some Jvm.ClassFile.FieldType.boolean)).before args0 about1 = true := code_word (m := ⟨1, 1⟩) (meth := k1m1) (c := k1c1) (by decide +kernel) rfl rfl rfl (by decide +kernel)
set_option maxRecDepth 65536 in
theorem w_c15 : (Jvm.Cond.code ({ cls := "com/example/caseweave/caseweave/core/MarkingTable", name := "isAtMost", desc := "(I[I)Z" } : Jvm.MethodName) prog_9_method_7_code (4 : Nat) (Option.some Jvm.ClassFile.FieldType.boolean)).before args0 about1 = true := code_word (m := ⟨2, 3⟩) (meth := k2m3) (c := k2c3) (by decide +kernel) rfl rfl rfl (by decide +kernel)
def codes1 : List Jvm.Cond := [Jvm.Cond.code x code maxLocals ret, Jvm.Cond.code ({ cls := "com/example/caseweave/caseweave/core/MarkingTable", name := "<init>", desc := "(I)V" } : Jvm.MethodName) prog_9_method_1_code (2 : Nat) (Option.none : Option Jvm.ClassFile.FieldType), Jvm.Cond.code ({ cls := "java/lang/Object", name := "<init>", desc := "()V" } : Jvm.MethodName) object_method_1_code (1 : Nat) (Option.none : Option Jvm.ClassFile.FieldType), Jvm.Cond.code ({ cls := "com/example/caseweave/caseweave/core/IntList", name := "<init>", desc := "()V" } : Jvm.MethodName) prog_6_method_1_code (1 : Nat) (Option.none : Option Jvm.ClassFile.FieldType), Jvm.Cond.code ({ cls := "com/example/caseweave/caseweave/core/IntList", name := "add", desc := "(I)V" } : Jvm.MethodName) prog_6_method_4_code (2 : Nat) (Option.none : Option Jvm.ClassFile.FieldType), Jvm.Cond.code ({ cls := "com/example/caseweave/caseweave/core/MarkingTable", name := "add", desc := "([I)I" } : Jvm.MethodName) prog_9_method_4_code (4 : Nat) (Option.some Jvm.ClassFile.FieldType.int), Jvm.Cond.code ({ cls := "com/example/caseweave/caseweave/core/MarkingTable", name := "size", desc := "()I" } : Jvm.MethodName) prog_9_method_2_code (1 : Nat) (Option.some Jvm.ClassFile.FieldType.int), Jvm.Cond.code ({ cls := "com/example/caseweave/caseweave/core/IntList", name := "size", desc := "()I" } : Jvm.MethodName) prog_6_method_2_code (1 : Nat) (Option.some Jvm.ClassFile.FieldType.int), Jvm.Cond.code ({ cls := "com/example/caseweave/caseweave/core/MarkingTable", name := "hash", desc := "([I)I" } : Jvm.MethodName) prog_9_method_9_code (2 : Nat) (Option.some Jvm.ClassFile.FieldType.int), Jvm.Cond.code ({ cls := "java/util/Arrays", name := "hashCode", desc := "([I)I" } : Jvm.MethodName) jdk_65_method_150_code (1 : Nat) (Option.some Jvm.ClassFile.FieldType.int), Jvm.Cond.code ({ cls := "jdk/internal/util/ArraysSupport", name := "vectorizedHashCode", desc := "(Ljava/lang/Object;IIII)I" } : Jvm.MethodName) jdk_48_method_4_code (5 : Nat) (Option.some Jvm.ClassFile.FieldType.int), Jvm.Cond.code ({ cls := "jdk/internal/util/ArraysSupport", name := "hashCode", desc := "(I[III)I" } : Jvm.MethodName) jdk_48_method_9_code (6 : Nat) (Option.some Jvm.ClassFile.FieldType.int), Jvm.Cond.code ({ cls := "com/example/caseweave/caseweave/core/MarkingTable", name := "insert", desc := "(I)V" } : Jvm.MethodName) prog_9_method_8_code (3 : Nat) (Option.none : Option Jvm.ClassFile.FieldType), Jvm.Cond.code ({ cls := "com/example/caseweave/caseweave/core/IntList", name := "get", desc := "(I)I" } : Jvm.MethodName) prog_6_method_3_code (2 : Nat) (Option.some Jvm.ClassFile.FieldType.int), Jvm.Cond.code ({ cls := "com/example/caseweave/caseweave/core/MarkingTableIsAtMostPinLaw", name := "fits", desc := "(II)Z" } : Jvm.MethodName) method_2_code (2 : Nat) (Option.some Jvm.ClassFile.FieldType.boolean), Jvm.Cond.code ({ cls := "com/example/caseweave/caseweave/core/MarkingTable", name := "isAtMost", desc := "(I[I)Z" } : Jvm.MethodName) prog_9_method_7_code (4 : Nat) (Option.some Jvm.ClassFile.FieldType.boolean)]
set_option maxRecDepth 65536 in
theorem codes_eq : words1.filter isCode = codes1 := rfl
theorem w_codes : ∀ c ∈ words1.filter isCode, c.before args0 about1 = true := by
  rw [codes_eq]
  intro c hc
  simp only [codes1, List.mem_cons, List.not_mem_nil, or_false] at hc
  rcases hc with rfl | rfl | rfl | rfl | rfl | rfl | rfl | rfl | rfl | rfl | rfl | rfl | rfl | rfl | rfl | rfl
  · exact w_c0
  · exact w_c1
  · exact w_c2
  · exact w_c3
  · exact w_c4
  · exact w_c5
  · exact w_c6
  · exact w_c7
  · exact w_c8
  · exact w_c9
  · exact w_c10
  · exact w_c11
  · exact w_c12
  · exact w_c13
  · exact w_c14
  · exact w_c15
set_option maxRecDepth 65536 in
theorem w_t1 : (words1.take 24).all (fun c => isCode c || c.before args0 about1) = true := by decide +kernel
set_option maxRecDepth 65536 in
theorem w_t2 : ((words1.drop 24).take 24).all (fun c => isCode c || c.before args0 about1) = true := by decide +kernel
set_option maxRecDepth 65536 in
theorem w_t3 : (((words1.drop 24).drop 24).take 24).all (fun c => isCode c || c.before args0 about1) = true := by decide +kernel
set_option maxRecDepth 65536 in
theorem w_t4 : (((words1.drop 24).drop 24).drop 24).all (fun c => isCode c || c.before args0 about1) = true := by decide +kernel
theorem w_tables : (allAtoms (Jvm.Cond.code x code maxLocals ret :: tables_1)).before args0 about1 = true := by
  rw [allAtoms_all]
  show words1.all (fun c => c.before args0 about1) = true
  refine all_split ?_ w_codes
  rw [← List.take_append_drop 24 words1, List.all_append, w_t1, ← List.take_append_drop 24 (words1.drop 24), List.all_append, w_t2, ← List.take_append_drop 24 ((words1.drop 24).drop 24), List.all_append, w_t3, w_t4]
  rfl
set_option maxRecDepth 65536 in
theorem w_case : (Jvm.Cond.and given_1 narrow_1).before args0 about1 = true := by decide +kernel
theorem w_applies : (headSpec (Jvm.Cond.code x code maxLocals ret :: tables_1) room_1).applies x e0.platform about1 = true :=
  (Spec.applies_iff w_frames).mpr ⟨w_running, w_runnable, w_alone, w_named, w_hears, w_ripe, w_room, w_tables⟩
theorem atStart : AtStart classFile x code maxLocals ret World_1 tables_1 room_1 Calls_1 rest_1 Pre_1 launch0 p0 e0 about1 theMethod args0 below0 :=
  ⟨lists_1, trivial, launch0.admits_env _ _ _, launch0.least_env, fairChoices_fair.cas, fairChoices_fair.clock, w_frames, w_args, w_heap, w_applies, trivial, trivial, w_case⟩
end start1
theorem witness_1 : WitnessClaimed_1 := ⟨start1.p0, start1.e0, start1.about1, start1.theMethod, start1.args0, start1.below0, start1.atStart⟩
end Jvm.Pilot.@@N@@
