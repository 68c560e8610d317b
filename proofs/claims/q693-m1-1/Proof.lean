import JvmDerived
import JvmDerived.Pilot.@@N@@Statement
import JvmDerived.Pilot.@@N@@Code
set_option linter.unusedVariables false
set_option linter.unusedSimpArgs false
namespace Jvm.Pilot.@@N@@
open Jvm Jvm.ClassFile Sem Op Lib Jvm.Free Jvm.Stand Jvm.LawKit Jvm.RoadKit Bundle Jvm.Pilot.@@N@@.Jvm.D
/-! ## own layer: walks in goal-directed form -/
section Layer
variable {p : Program} {l : Launch} {e : Env} {R : Room} {s : State} {m : MethodId} {args : Array Value} {below : List Frame} {meth : Method} {c : Code} {T : State} {locs : List Loc} {cells slots : Nat} {Z : State} {a0 : Array Value} {h h' : Heap} {a b : Addr} {ty : FieldType} {xs ys : List Int32} {ls : List Int64}
/-- from S the run comes to the invocation's end, with what Q says of the value, the heap and the written places -/
def Go (p : Program) (e : Env) (below : List Frame) (s : State) (rm : Room) (Q : Option Value → Heap → List Loc → Prop) (S : State) : Prop :=
  ∃ t o, Steps p.tables e below S t ∧ t.status = .running ∧ Ended t below o ∧ ∃ v L, o = .returned v ∧ Q v t.heap L ∧ FrameEnd s o t L rm.cells rm.slots
theorem Go.st {rm : Room} {Q : Option Value → Heap → List Loc → Prop} {S S' : State} (k : ∀ t, Steps p.tables e below S' t → Steps p.tables e below S t) (g : Go p e below s rm Q S') : Go p e below s rm Q S := by
  obtain ⟨t, o, h, r⟩ := g; exact ⟨t, o, k t h, r⟩
theorem Go.ret {rm : Room} {Q : Option Value → Heap → List Loc → Prop} {S : State} {v : Option Value} (X : Stand p l e rm s m args below meth c T locs cells slots) (hv : meth.sig.returnType = none → v = none) (hlk : meth.locks = false) (hc : cells ≤ rm.cells) (hs : slots ≤ rm.slots) (hQ : Q v T.heap locs)
    (st : ∀ fs, (∀ (f : JFrame) (acts : List Action), f.method = m → f.locked = none → f.entered = [] → (doReturn e (T.setTop f) acts v).1 = T.setFrames fs) → Steps p.tables e below S (T.setFrames fs)) : Go p e below s rm Q S := by
  obtain ⟨fs, hr, hrun, hended, hW, hsame⟩ := X.leave (v := v) hv hlk
  exact ⟨_, _, st fs hr, hrun, hended, v, locs, rfl, hQ, ⟨v, rfl⟩, hW, hsame.mono hc hs⟩
theorem Go.retI {rm : Room} {Q : Option Value → Heap → List Loc → Prop} (X : Stand p l e rm s m args below meth c T locs cells slots) (hx : p.tables.exec = Jvm.exec) (hret : meth.sig.returnType = some .int) (hlk : meth.locks = false) {pc : Nat} {Ls : Array Slot} {z : Int32} {rest : List Value} (hd : decode c.code pc = .ok (.ireturn, 1)) (hc : cells ≤ rm.cells) (hs : slots ≤ rm.slots)
    (hQ : Q (some (.int z)) T.heap locs) : Go p e below s rm Q (T.setTop (mkF m pc Ls (.int z :: rest))) := by
  refine Go.ret X (v := some (.int z)) (fun q => by rw [hret] at q; cases q) hlk hc hs hQ fun fs hr => ?_
  have hm' : T.vm.method? m = some meth := X.method'
  have hn : narrow .int (.int z) = .int z := rfl
  show Steps p.tables e below (T.setTop { method := m, pc := pc, locals := Ls, stack := _ :: rest, locked := none }) _
  jvm_step X.here [X.here.top, hx, hd, hm', hret, hn]
  first | (intro acts; rw [hr _ acts rfl rfl rfl]) | rw [hr _ _ rfl rfl rfl]
  exact Steps.refl _
theorem Go.retN {rm : Room} {Q : Option Value → Heap → List Loc → Prop} {t : FieldType} (X : Stand p l e rm s m args below meth c T locs cells slots) (hx : p.tables.exec = Jvm.exec) (hret : meth.sig.returnType = some t) (ht : t = .boolean ∨ t = .byte ∨ t = .char ∨ t = .short) (hlk : meth.locks = false) {pc : Nat} {Ls : Array Slot} {z : Int32} {rest : List Value} (hd : decode c.code pc = .ok (.ireturn, 1)) (hc : cells ≤ rm.cells) (hs : slots ≤ rm.slots)
    (hQ : Q (some (.int (nar t z))) T.heap locs) : Go p e below s rm Q (T.setTop (mkF m pc Ls (.int z :: rest))) :=
  Go.ret X (v := some (.int (nar t z))) (fun q => by rw [hret] at q; cases q) hlk hc hs hQ fun fs hr => Jvm.RoadKit.retN X hx hret ht hd hr
theorem Go.retV {rm : Room} {Q : Option Value → Heap → List Loc → Prop} (X : Stand p l e rm s m args below meth c T locs cells slots) (hx : p.tables.exec = Jvm.exec) (hret : meth.sig.returnType = none) (hlk : meth.locks = false) {pc : Nat} {Ls : Array Slot} (hd : decode c.code pc = .ok (.return_, 1)) (hc : cells ≤ rm.cells) (hs : slots ≤ rm.slots)
    (hQ : Q none T.heap locs) : Go p e below s rm Q (T.setTop (mkF m pc Ls [])) :=
  Go.ret X (v := none) (fun _ => rfl) hlk hc hs hQ fun fs hr => X.returnOut hx hret hd hr
theorem Go.retJ {rm : Room} {Q : Option Value → Heap → List Loc → Prop} (X : Stand p l e rm s m args below meth c T locs cells slots) (hx : p.tables.exec = Jvm.exec) (hret : meth.sig.returnType = some .long) (hlk : meth.locks = false) {pc : Nat} {Ls : Array Slot} {z : Int64} {rest : List Value} (hd : decode c.code pc = .ok (.lreturn, 1)) (hc : cells ≤ rm.cells) (hs : slots ≤ rm.slots)
    (hQ : Q (some (.long z)) T.heap locs) : Go p e below s rm Q (T.setTop (mkF m pc Ls (.long z :: rest))) := by
  refine Go.ret X (v := some (.long z)) (fun q => by rw [hret] at q; cases q) hlk hc hs hQ fun fs hr => ?_
  have hm' : T.vm.method? m = some meth := X.method'
  show Steps p.tables e below (T.setTop { method := m, pc := pc, locals := Ls, stack := _ :: rest, locked := none }) _
  jvm_step X.here [X.here.top, hx, hd, hm', hret, narrow]
  first | (intro acts; rw [hr _ acts rfl rfl rfl]) | rw [hr _ _ rfl rfl rfl]
  exact Steps.refl _
theorem Go.retR {rm : Room} {Q : Option Value → Heap → List Loc → Prop} {t : FieldType} (X : Stand p l e rm s m args below meth c T locs cells slots) (hx : p.tables.exec = Jvm.exec) (hret : meth.sig.returnType = some t) (ht : t.isReference = true) (hlk : meth.locks = false) {pc : Nat} {Ls : Array Slot} {z : Addr} (hd : decode c.code pc = .ok (.areturn, 1)) (hc : cells ≤ rm.cells) (hs : slots ≤ rm.slots)
    (hQ : Q (some (.ref z)) T.heap locs) : Go p e below s rm Q (T.setTop (mkF m pc Ls [.ref z])) := by
  refine Go.ret X (v := some (.ref z)) (fun q => by rw [hret] at q; cases q) hlk hc hs hQ fun fs hr => ?_
  exact X.areturnOut hx rfl hret ht hd hr
/-- the contract of a body: called with these arguments over the heap h0 it comes back, and Q -/
abbrev Con (l : Launch) (Z : State) (y : MethodName) (bytes : ByteArray) (maxL : Nat) (ret : Option FieldType) (ws : List Jvm.Cond) (rm : Room) (as : Array Value) (h0 : Heap) (Q : Option Value → Heap → List Loc → Prop) : Prop :=
  MetFree l y (head1 (Jvm.Cond.code y bytes maxL ret :: ws) rm) (fun a U => a = as ∧ Z.Warmed39 U.vm ∧ U.heap = h0) (fun _ _ _ _ _ => True) (fun _ U o U' => ∃ v L, o = .returned v ∧ Q v U'.heap L ∧ FrameEnd U o U' L rm.cells rm.slots)
theorem Con.mk {y : MethodName} {bytes : ByteArray} {maxL : Nat} {ret : Option FieldType} {ws : List Jvm.Cond} {rm : Room} {as : Array Value} {h0 : Heap} {Q : Option Value → Heap → List Loc → Prop} (hp : plainFor y = true)
    (body : ∀ (p : Program) (e : Env) (s : State) (m : MethodId) (below : List Frame) (meth : Method) (c : Code) (T : State), p.tables.exec = Jvm.exec → c.code = bytes → c.maxLocals = maxL → s.vm.findClass y.cls = some m.cls → meth.name = y.name → meth.sig.returnType = ret → meth.locks = false → Z.Warmed39 s.vm →
      Stand p l e rm s m as below meth c T [] 0 0 → T.heap = h0 → Go p e below s rm Q (T.setTop (entryFrame m as maxL))) : Con l Z y bytes maxL ret ws rm as h0 Q := by
  refine MetFree.of_bodySF hp hisR ?_
  intro p e s m args below meth c s₁ Bd hml0 hP hK
  obtain ⟨rfl, hZ, hh⟩ := hP
  exact body p e s m below meth c s₁ Bd.exec Bd.bytes hml0 (findClass_of_methodNamed Bd.named) (name_of_methodNamed Bd.named Bd.method).1 Bd.returns Bd.notSynchronized hZ (Stand.of_body Bd) (by rw [← hh, Bd.state]; rfl)
theorem Go.cast {rm : Room} {Q : Option Value → Heap → List Loc → Prop} {f f' : JFrame} (q : f = f') (g : Go p e below s rm Q (T.setTop f')) : Go p e below s rm Q (T.setTop f) := q ▸ g
/-! calls -/
theorem callSt (X : Stand p l e R s m args below meth c T locs cells slots) (hx : p.tables.exec = Jvm.exec) (hZ : Z.Warmed39 s.vm) {own : String} {index : Nat} {y : MethodName} {bytes : ByteArray} {maxL : Nat} {ret : Option FieldType} {rm : Room} {W : Nat} {Q : Option Value → Heap → List Loc → Prop} {argsL rest : List Value}
    (hown : s.vm.findClass own = some m.cls) (w1 : (Jvm.Cond.methodLink own index y).before a0 Z = true) (w2 : (Jvm.Cond.static y).before a0 Z = true) (w3 : (Jvm.Cond.initialized y.cls).before a0 Z = true) (w4 : (Jvm.Cond.code y bytes maxL ret).before a0 Z = true) (hy : y.cls ≠ "java/lang/invoke/MethodHandle" ∧ y.cls ≠ "java/lang/invoke/VarHandle")
    (eT : T.heap = h) (hM : Con l Z y bytes maxL ret [] rm argsL.toArray h Q) (hf : rm.frames + 1 ≤ R.frames) (hl : W + (maxL + 11) + rm.locals ≤ R.locals) {sig : MethodDescriptor} (hpd : parseMethodDescriptor y.desc = some sig) (hlen : argsL.length = sig.parameters.length)
    {g : JFrame} (hg : g.method = m) (hsize : g.locals.size = c.maxLocals) (hstack : g.stack = argsL.reverse ++ rest) (hW : 2 * g.monitorRoom + (rest.map fun v => v.category).sum ≤ W) (hdg : decode c.code g.pc = .ok (.invokestatic index, 3)) (hc : cells + rm.cells ≤ R.cells) (hs : slots + rm.slots ≤ R.slots) :
    ∃ (v : Option Value) (T' : State) (h' : Heap) (L : List Loc), Stand p l e R s m args below meth c T' (locs ++ L) (cells + rm.cells) (slots + rm.slots) ∧ T'.heap = h' ∧ Q v h' L ∧ ∀ t, Steps p.tables e below (T'.setTop { g with pc := g.pc + 3, stack := v.toList ++ rest }) t → Steps p.tables e below (T.setTop g) t := by
  obtain ⟨v, _, ⟨T1, L1, k1, n1⟩, -, X1, ⟨Lc, hQ, l1, y1, z1⟩, st⟩ := Jvm.LawKit.callS X hx (y := y) hown (mvT hZ w1) (mvT hZ w2) (mvT hZ w3) (mvT hZ w4) hy (backOf (W := W) (Z := Z) (a0 := a0) (h := h) hM hZ w4 w3 hf hl) (g := g) hg hsize (argsL := argsL) (rest := rest) (fun sg q => by rw [hpd] at q; cases q; exact hlen) hstack hW hdg (fun _ _ => ⟨rfl, eT, hc, hs⟩)
  dsimp only [Pt.U, Pt.locs, Pt.cells, Pt.slots] at X1 l1 y1 z1 st hQ
  subst l1 y1 z1
  exact ⟨v, T1, T1.heap, Lc, X1, rfl, hQ, st⟩
theorem callIn (X : Stand p l e R s m args below meth c T locs cells slots) (hx : p.tables.exec = Jvm.exec) (hZ : Z.Warmed39 s.vm) {own : String} {index : Nat} {y : MethodName} {bytes : ByteArray} {maxL : Nat} {rm : Room} {W : Nat} {Q : Option Value → Heap → List Loc → Prop} {argsL rest : List Value} (hi : y.name = "<init>")
    (hown : s.vm.findClass own = some m.cls) (w1 : (Jvm.Cond.methodLink own index y).before a0 Z = true) (w2 : (Jvm.Cond.instanceMethod y).before a0 Z = true) (w3 : (Jvm.Cond.initialized y.cls).before a0 Z = true) (w4 : (Jvm.Cond.code y bytes maxL none).before a0 Z = true) (hy : y.cls ≠ "java/lang/invoke/MethodHandle" ∧ y.cls ≠ "java/lang/invoke/VarHandle")
    (eT : T.heap = h) (hM : Con l Z y bytes maxL none [] rm (.ref a :: argsL).toArray h Q) (hf : rm.frames + 1 ≤ R.frames) (hl : W + (maxL + 11) + rm.locals ≤ R.locals) {sig : MethodDescriptor} (hpd : parseMethodDescriptor y.desc = some sig) (hlen : argsL.length = sig.parameters.length)
    {g : JFrame} (hg : g.method = m) (hsize : g.locals.size = c.maxLocals) (hstack : g.stack = argsL.reverse ++ .ref a :: rest) (hW : 2 * g.monitorRoom + (rest.map fun v => v.category).sum ≤ W) (hdg : decode c.code g.pc = .ok (.invokespecial index, 3)) (hc : cells + rm.cells ≤ R.cells) (hs : slots + rm.slots ≤ R.slots) :
    ∃ (v : Option Value) (T' : State) (h' : Heap) (L : List Loc), Stand p l e R s m args below meth c T' (locs ++ L) (cells + rm.cells) (slots + rm.slots) ∧ T'.heap = h' ∧ Q v h' L ∧ ∀ t, Steps p.tables e below (T'.setTop { g with pc := g.pc + 3, stack := v.toList ++ rest }) t → Steps p.tables e below (T.setTop g) t := by
  obtain ⟨v, _, ⟨T1, L1, k1, n1⟩, -, X1, ⟨Lc, hQ, l1, y1, z1⟩, st⟩ := X.specialBack hx (y := y) hi hown (mvT hZ w1) (mvT hZ w2) (mvT hZ w4) hy (backOf (W := W) (Z := Z) (a0 := a0) (h := h) hM hZ w4 w3 hf hl) (g := g) hg hsize (Steps.refl _) (a := a) (argsL := argsL) (rest := rest) (fun sg q => by rw [hpd] at q; cases q; exact hlen) hstack hW hdg (fun _ _ => ⟨rfl, eT, hc, hs⟩)
  dsimp only [Pt.U, Pt.locs, Pt.cells, Pt.slots] at X1 l1 y1 z1 st hQ
  subst l1 y1 z1
  exact ⟨v, T1, T1.heap, Lc, X1, rfl, hQ, fun t k => st.trans k⟩
theorem callVi (X : Stand p l e R s m args below meth c T locs cells slots) (hx : p.tables.exec = Jvm.exec) (hZ : Z.Warmed39 s.vm) {own C : String} {index : Nat} {y : MethodName} {bytes : ByteArray} {maxL : Nat} {ret : Option FieldType} {rm : Room} {W : Nat} {Q : Option Value → Heap → List Loc → Prop} {argsL rest : List Value}
    (hown : s.vm.findClass own = some m.cls) (w1 : (Jvm.Cond.methodLink own index y).before a0 Z = true) (wd : (Jvm.Cond.declares y).before a0 Z = true) (ws : (Jvm.Cond.selects C y y).before a0 Z = true) (w2 : (Jvm.Cond.instanceMethod y).before a0 Z = true) (w3 : (Jvm.Cond.initialized y.cls).before a0 Z = true) (w4 : (Jvm.Cond.code y bytes maxL ret).before a0 Z = true) (hy : y.cls ≠ "java/lang/invoke/MethodHandle" ∧ y.cls ≠ "java/lang/invoke/VarHandle")
    (eT : T.heap = h) (E : Exa Z h a C) (hM : Con l Z y bytes maxL ret [] rm (.ref a :: argsL).toArray h Q) (hf : rm.frames + 1 ≤ R.frames) (hl : W + (maxL + 11) + rm.locals ≤ R.locals) {sig : MethodDescriptor} (hpd : parseMethodDescriptor y.desc = some sig) (hlen : argsL.length = sig.parameters.length)
    {g : JFrame} (hg : g.method = m) (hsize : g.locals.size = c.maxLocals) (hstack : g.stack = argsL.reverse ++ .ref a :: rest) (hW : 2 * g.monitorRoom + (rest.map fun v => v.category).sum ≤ W) (hdg : decode c.code g.pc = .ok (.invokevirtual index, 3)) (hc : cells + rm.cells ≤ R.cells) (hs : slots + rm.slots ≤ R.slots) :
    ∃ (v : Option Value) (T' : State) (h' : Heap) (L : List Loc), Stand p l e R s m args below meth c T' (locs ++ L) (cells + rm.cells) (slots + rm.slots) ∧ T'.heap = h' ∧ Q v h' L ∧ ∀ t, Steps p.tables e below (T'.setTop { g with pc := g.pc + 3, stack := v.toList ++ rest }) t → Steps p.tables e below (T.setTop g) t := by
  obtain ⟨cB, kB, q1, q2, q3⟩ := isOf hZ eT E
  obtain ⟨v, _, ⟨T1, L1, k1, n1⟩, -, X1, ⟨Lc, hQ, l1, y1, z1⟩, st⟩ := X.virtualBack hx (y := y) (z := y) hown (mvT hZ w1) (mvT hZ wd) (notFace_of_selects (args := #[]) (mvT hZ ws)) (mvT hZ ws) (mvT hZ w2) hy (backOf (W := W) (Z := Z) (a0 := a0) (h := h) hM hZ w4 w3 hf hl) q1 q3 (g := g) hg hsize (Steps.refl _) (argsL := argsL) (rest := rest) (fun sg q => by rw [hpd] at q; cases q; exact hlen) hstack hW hdg (fun _ _ => ⟨rfl, eT, hc, hs⟩)
  dsimp only [Pt.U, Pt.locs, Pt.cells, Pt.slots] at X1 l1 y1 z1 st hQ
  subst l1 y1 z1
  exact ⟨v, T1, T1.heap, Lc, X1, rfl, hQ, fun t k => st.trans k⟩
theorem callPr (X : Stand p l e R s m args below meth c T locs cells slots) (hx : p.tables.exec = Jvm.exec) (hZ : Z.Warmed39 s.vm) {own : String} {index ni : Nat} {y : MethodName} {bytes : ByteArray} {maxL : Nat} {ret : Option FieldType} {rm : Room} {W : Nat} {Q : Option Value → Heap → List Loc → Prop} {argsL rest : List Value}
    (hown : s.vm.findClass own = some m.cls) (w1 : (Jvm.Cond.methodLink own index y).before a0 Z = true) (w2 : (Jvm.Cond.instanceMethod y).before a0 Z = true) (wi : (Jvm.Cond.instantiable y.cls ni).before a0 Z = true) (wp : (Jvm.Cond.privateMethod y).before a0 Z = true) (w3 : (Jvm.Cond.initialized y.cls).before a0 Z = true) (w4 : (Jvm.Cond.code y bytes maxL ret).before a0 Z = true) (hy : y.cls ≠ "java/lang/invoke/MethodHandle" ∧ y.cls ≠ "java/lang/invoke/VarHandle")
    (eT : T.heap = h) {C : String} (E : Exa Z h a C) (hM : Con l Z y bytes maxL ret [] rm (.ref a :: argsL).toArray h Q) (hf : rm.frames + 1 ≤ R.frames) (hl : W + (maxL + 11) + rm.locals ≤ R.locals) {sig : MethodDescriptor} (hpd : parseMethodDescriptor y.desc = some sig) (hlen : argsL.length = sig.parameters.length)
    {g : JFrame} (hg : g.method = m) (hsize : g.locals.size = c.maxLocals) (hstack : g.stack = argsL.reverse ++ .ref a :: rest) (hW : 2 * g.monitorRoom + (rest.map fun v => v.category).sum ≤ W) (hdg : decode c.code g.pc = .ok (.invokevirtual index, 3)) (hc : cells + rm.cells ≤ R.cells) (hs : slots + rm.slots ≤ R.slots) :
    ∃ (v : Option Value) (T' : State) (h' : Heap) (L : List Loc), Stand p l e R s m args below meth c T' (locs ++ L) (cells + rm.cells) (slots + rm.slots) ∧ T'.heap = h' ∧ Q v h' L ∧ ∀ t, Steps p.tables e below (T'.setTop { g with pc := g.pc + 3, stack := v.toList ++ rest }) t → Steps p.tables e below (T.setTop g) t := by
  obtain ⟨cell, q1, q2⟩ := E.cell
  have wi' : (Jvm.Cond.instantiable y.cls ni).before args s = true := mvT hZ wi
  obtain ⟨cI, kI, i1, i2, i3, i4, -⟩ := Cond.instantiable_spec wi'
  have i5 : kI.isInterface = false := by cases hq : kI.isInterface <;> simp [hq] at i4 ⊢
  have hpriv : s.PrivateAt y := Cond.privateMethod_at (mvP hZ wp (args := args))
  have hinst : (Jvm.Cond.instanceMethod y).before args s = true := mvT hZ w2
  obtain ⟨v, _, ⟨T1, L1, k1, n1⟩, -, X1, ⟨Lc, hQ, l1, y1, z1⟩, st⟩ := X.privateBack hx (y := y) hown (mvT hZ w1) hinst (selects_self_of_private i1 i2 i5 hpriv hinst hy) hpriv (mvT hZ w4) hy (backOf (W := W) (Z := Z) (a0 := a0) (h := h) hM hZ w4 w3 hf hl) (g := g) hg hsize (Steps.refl _) (a := a) (cell := cell) (by rw [eT]; exact q1) q2 (argsL := argsL) (rest := rest) (fun sg q => by rw [hpd] at q; cases q; exact hlen) hstack hW hdg (fun _ _ => ⟨rfl, eT, hc, hs⟩)
  dsimp only [Pt.U, Pt.locs, Pt.cells, Pt.slots] at X1 l1 y1 z1 st hQ
  subst l1 y1 z1
  exact ⟨v, T1, T1.heap, Lc, X1, rfl, hQ, fun t k => st.trans k⟩
/-! arrays of ints, bytes, .. by the list of what they hold -/
def Ai (Z : State) (h : Heap) (a : Addr) (ty : FieldType) (xs : List Int32) : Prop := ∃ (k : ClassId) (z : Int32), Arv Z h a k ty z (xs.map Value.int) (.int 0) ∧ z.toNatClampNeg = xs.length
theorem Ai.lt (A : Ai Z h a ty xs) : a < h.size := by obtain ⟨_, _, q, -⟩ := A; exact q.lt
theorem Ai.ext (A : Ai Z h a ty xs) (E : Ext h h') : Ai Z h' a ty xs := by obtain ⟨k, z, q, r⟩ := A; exact ⟨k, z, q.ext E, r⟩
theorem Ai.other {sl : Nat} {v : Value} (A : Ai Z h a ty xs) (W : Wr h h' b sl v) (ne : a ≠ b) : Ai Z h' a ty xs := by obtain ⟨k, z, q, r⟩ := A; exact ⟨k, z, q.other W ne, r⟩
theorem Ai.keep {ws : List Addr} (A : Ai Z h a ty xs) (K : Keep h h' ws) (nin : a ∉ ws) : Ai Z h' a ty xs := by obtain ⟨k, z, q, r⟩ := A; exact ⟨k, z, q.keep K nin, r⟩
theorem Ai.len (A : Ai Z h a ty xs) : xs.length < 2 ^ 31 := by
  obtain ⟨k, z, ⟨c, -, -, -, hz, -⟩, r⟩ := A
  rw [← r]; exact (back32 hz).2
theorem Ai.open (A : Ai Z h a ty xs) : ∃ c : Cell, Arr Z h a c ty ∧ c.slots.size = xs.length ∧ ∀ (i : Nat) (v : Int32), xs[i]? = some v → c.slots[i]? = some (.int v) := by
  obtain ⟨k, z, ⟨c, A, q1, S, q3, H, G⟩, r⟩ := A
  refine ⟨c, A, S.trans r, fun i v hv => ?_⟩
  have hi : i < xs.length := (List.getElem?_eq_some_iff.mp hv).1
  rw [H i (by rw [S, r]; exact hi)]
  simp [List.getD_eq_getElem?_getD, hv]
theorem Ai.fitsOf {i : Nat} {v : Int32} (A : Ai Z h a ty xs) (hv : xs[i]? = some v) : fits ty (.int v) = true := by
  obtain ⟨k, z, ⟨c, A, q1, S, q3, H, G⟩, r⟩ := A
  have hi : i < xs.length := (List.getElem?_eq_some_iff.mp hv).1
  have := G i (by rw [S, r]; exact hi)
  simpa [List.getD_eq_getElem?_getD, hv] using this
theorem own_in {n : Nat} {j : Int32} (hj : ¬ j < 0) (hi : j.toNatClampNeg < n) : ¬ (j < 0 ∨ n ≤ j.toNatClampNeg) := fun q => q.elim hj fun r => absurd hi (Nat.not_lt.mpr r)
theorem Ai.load (A : Ai Z h a .int xs) (X : Stand p l e R s m args below meth c T locs cells slots) (hx : p.tables.exec = Jvm.exec) (hZ : Z.Warmed39 s.vm) (eT : T.heap = h) {j v : Int32} (hj : ¬ j < 0) (hv : xs[j.toNatClampNeg]? = some v) {g : JFrame} (hg : g.method = m) {rest : List Value} (hs : g.stack = .int j :: .ref a :: rest) (hd : decode c.code g.pc = .ok (.iaload, 1)) :
    ∀ t, Steps p.tables e below (T.setTop { g with pc := g.pc + 1, stack := .int v :: rest }) t → Steps p.tables e below (T.setTop g) t := by
  obtain ⟨cl, Ar, S, H⟩ := A.open
  exact fun t k => X.iaload hx (j := j) (v := .int v) (by rw [eT]; exact Ar.1) (State.isArrayOf_alike hZ.alike Ar.2.1) Ar.2.2 (own_in hj (by rw [S]; exact (List.getElem?_eq_some_iff.mp hv).1)) (H _ _ hv) hg hs hd t k
theorem Ai.bload (A : Ai Z h a .byte xs) (X : Stand p l e R s m args below meth c T locs cells slots) (hx : p.tables.exec = Jvm.exec) (hZ : Z.Warmed39 s.vm) (eT : T.heap = h) {j v : Int32} (hj : ¬ j < 0) (hv : xs[j.toNatClampNeg]? = some v) {g : JFrame} (hg : g.method = m) {rest : List Value} (hs : g.stack = .int j :: .ref a :: rest) (hd : decode c.code g.pc = .ok (.baload, 1)) :
    ∀ t, Steps p.tables e below (T.setTop { g with pc := g.pc + 1, stack := .int v :: rest }) t → Steps p.tables e below (T.setTop g) t := by
  obtain ⟨cl, Ar, S, H⟩ := A.open
  exact fun t k => X.baloadBytes hx (j := j) (v := .int v) (by rw [eT]; exact Ar.1) (State.isArrayOf_alike hZ.alike Ar.2.1) Ar.2.2 (own_in hj (by rw [S]; exact (List.getElem?_eq_some_iff.mp hv).1)) (H _ _ hv) hg hs hd t k
theorem Ai.length (A : Ai Z h a ty xs) (X : Stand p l e R s m args below meth c T locs cells slots) (hx : p.tables.exec = Jvm.exec) (hZ : Z.Warmed39 s.vm) (eT : T.heap = h) {n : Int32} (hn : xs.length.toInt32 = n) {g : JFrame} (hg : g.method = m) {rest : List Value} (hs : g.stack = .ref a :: rest) (hd : decode c.code g.pc = .ok (.arraylength, 1)) :
    ∀ t, Steps p.tables e below (T.setTop { g with pc := g.pc + 1, stack := .int n :: rest }) t → Steps p.tables e below (T.setTop g) t := by
  obtain ⟨cl, Ar, S, H⟩ := A.open
  subst hn
  rw [← S]
  exact fun t k => X.arraylength hx (by rw [eT]; exact Ar.1) (State.isArrayOf_alike hZ.alike Ar.2.1) hg hs hd t k
theorem Ai.set {j v : Int32} (A : Ai Z h a ty xs) (hf : fits ty (.int v) = true) (W : Wr h h' a j.toNatClampNeg (.int v)) (hi : j.toNatClampNeg < xs.length) : Ai Z h' a ty (xs.set j.toNatClampNeg v) := by
  obtain ⟨k, z, ⟨c, A, q1, S, q3, H, G⟩, r⟩ := A
  refine ⟨k, z, ?_, by simpa using r⟩
  rw [List.map_set]
  exact Arv.set A q1 S q3 H G hf W j.toNatClampNeg rfl (by simpa using hi)
theorem Ai.store (A : Ai Z h a .int xs) (X : Stand p l e R s m args below meth c T locs cells slots) (hx : p.tables.exec = Jvm.exec) (hZ : Z.Warmed39 s.vm) (eT : T.heap = h) {j v : Int32} (hj : ¬ j < 0) (hi : j.toNatClampNeg < xs.length) {g : JFrame} (hg : g.method = m) {rest : List Value} (hs : g.stack = .int v :: .int j :: .ref a :: rest) (hd : decode c.code g.pc = .ok (.iastore, 1)) :
    ∃ T' h', Stand p l e R s m args below meth c T' (locs ++ [⟨a, j.toNatClampNeg⟩]) cells slots ∧ T'.heap = h' ∧ Wr h h' a j.toNatClampNeg (.int v) ∧ Ai Z h' a .int (xs.set j.toNatClampNeg v) ∧
      ∀ t, Steps p.tables e below (T'.setTop { g with pc := g.pc + 1, stack := rest }) t → Steps p.tables e below (T.setTop g) t := by
  obtain ⟨cl, Ar, S, H⟩ := A.open
  obtain ⟨T', h', X', e', W, st⟩ := stI X hx hZ eT Ar (j := j) (own_in hj (by rw [S]; exact hi)) hg hs hd
  exact ⟨T', h', X', e', W, A.set rfl W hi, st⟩
theorem Ai.bstore (A : Ai Z h a .byte xs) (X : Stand p l e R s m args below meth c T locs cells slots) (hx : p.tables.exec = Jvm.exec) (hZ : Z.Warmed39 s.vm) (eT : T.heap = h) {j v : Int32} (hj : ¬ j < 0) (hi : j.toNatClampNeg < xs.length) {g : JFrame} (hg : g.method = m) {rest : List Value} (hs : g.stack = .int v :: .int j :: .ref a :: rest) (hd : decode c.code g.pc = .ok (.bastore, 1)) :
    ∃ T' h', Stand p l e R s m args below meth c T' (locs ++ [⟨a, j.toNatClampNeg⟩]) cells slots ∧ T'.heap = h' ∧ Wr h h' a j.toNatClampNeg (.int v.toInt8.toInt32) ∧ Ai Z h' a .byte (xs.set j.toNatClampNeg v.toInt8.toInt32) ∧
      ∀ t, Steps p.tables e below (T'.setTop { g with pc := g.pc + 1, stack := rest }) t → Steps p.tables e below (T.setTop g) t := by
  obtain ⟨cl, Ar, S, H⟩ := A.open
  obtain ⟨T', h', X', e', W, st⟩ := stB X hx hZ eT Ar (j := j) (own_in hj (by rw [S]; exact hi)) hg hs hd
  exact ⟨T', h', X', e', W, A.set (fits_nar_byte v) W hi, st⟩
theorem Ai.new (X : Stand p l e R s m args below meth c T locs cells slots) (hx : p.tables.exec = Jvm.exec) (hZ : Z.Warmed39 s.vm) {aty : ArrayType} (w : (Jvm.Cond.arrayClass (newarray.typeOf aty)).before a0 Z = true) (hdef : defaultValue (newarray.typeOf aty) = .int 0) (eT : T.heap = h) {n : Int32} (hn : ¬ n < 0) (cap : Nat) (hcap : n.toNatClampNeg ≤ cap) (hb : cap * 8 ≤ 536870912) (hc : cells + 1 ≤ R.cells) (hl : slots + cap ≤ R.slots)
    {g : JFrame} (hg : g.method = m) {rest : List Value} (hs : g.stack = .int n :: rest) (hd : decode c.code g.pc = .ok (.newarray aty, 2)) :
    ∃ T' h' b, Stand p l e R s m args below meth c T' locs (cells + 1) (slots + cap) ∧ T'.heap = h' ∧ b = h.size ∧ Ext h h' ∧ Ai Z h' b (newarray.typeOf aty) (List.replicate n.toNatClampNeg 0) ∧
      ∀ t, Steps p.tables e below (T'.setTop { g with pc := g.pc + 2, stack := .ref b :: rest }) t → Steps p.tables e below (T.setTop g) t := by
  obtain ⟨T', h', k, X', e', E, A, st⟩ := newP X hx hZ w eT (g := g) hg hd hs hn hcap hb hc hl
  refine ⟨T', h', _, X', e', rfl, E, ⟨k, n, ?_, by simp⟩, st⟩
  have V := Arv.new A hn
  rw [hdef] at V
  rw [List.map_replicate]
  exact V.pad (pad_rep [] (.int 0) n.toNatClampNeg)
theorem Ai.newE (X : Stand p l e R s m args below meth c T locs cells slots) (hx : p.tables.exec = Jvm.exec) (hZ : Z.Warmed39 s.vm) {aty : ArrayType} (w : (Jvm.Cond.arrayClass (newarray.typeOf aty)).before a0 Z = true) (hdef : defaultValue (newarray.typeOf aty) = .int 0) (eT : T.heap = h) {n : Int32} (hn : ¬ n < 0) (cap : Nat) (hcap : n.toNatClampNeg ≤ cap) (hb : cap * 8 ≤ 536870912) (hc : cells + 1 ≤ R.cells) (hl : slots + cap ≤ R.slots) {ad : String} (had : "[" ++ (newarray.typeOf aty).toString = ad)
    {g : JFrame} (hg : g.method = m) {rest : List Value} (hs : g.stack = .int n :: rest) (hd : decode c.code g.pc = .ok (.newarray aty, 2)) :
    ∃ T' h' b, Stand p l e R s m args below meth c T' locs (cells + 1) (slots + cap) ∧ T'.heap = h' ∧ b = h.size ∧ Ext h h' ∧ Ai Z h' b (newarray.typeOf aty) (List.replicate n.toNatClampNeg 0) ∧ Exa Z h' b ad ∧
      ∀ t, Steps p.tables e below (T'.setTop { g with pc := g.pc + 2, stack := .ref b :: rest }) t → Steps p.tables e below (T.setTop g) t := by
  obtain ⟨T', h', k, X', e', E, A, Ex, st⟩ := newPE X hx hZ w eT (g := g) hg hd hs hn hcap hb hc hl had
  refine ⟨T', h', _, X', e', rfl, E, ⟨k, n, ?_, by simp⟩, Ex, st⟩
  have V := Arv.new A hn
  rw [hdef] at V
  rw [List.map_replicate]
  exact V.pad (pad_rep [] (.int 0) n.toNatClampNeg)
theorem Ai.copy (X : Stand p l e R s m args below meth c T locs cells slots) (hx : p.tables.exec = Jvm.exec) (hZ : Z.Warmed39 s.vm) {own : String} {index : Nat} (hown : s.vm.findClass own = some m.cls)
    (w1 : (Jvm.Cond.methodLink own index Jvm.Stand.acN).before a0 Z = true) (w2 : (Jvm.Cond.native Jvm.Stand.acN).before a0 Z = true) (w3 : (Jvm.Cond.static Jvm.Stand.acN).before a0 Z = true) (w4 : (Jvm.Cond.initialized "java/lang/System").before a0 Z = true) (eT : T.heap = h)
    {sp dp nn : Int32} (A : Ai Z h a ty xs) (B : Ai Z h b ty ys) (hty : refKind ty = false) (h1 : ¬ sp < 0) (h2 : ¬ dp < 0) (h3 : ¬ nn < 0) (h4 : sp.toNatClampNeg + nn.toNatClampNeg ≤ xs.length) (h5 : dp.toNatClampNeg + nn.toNatClampNeg ≤ ys.length) {n0 : Nat} (N : Fr n0 locs) (ge : n0 ≤ b)
    {g : JFrame} (hg : g.method = m) (hsize : g.locals.size = c.maxLocals) {rest : List Value} (hs : g.stack = .int nn :: .int dp :: .ref b :: .int sp :: .ref a :: rest) (hd : decode c.code g.pc = .ok (.invokestatic index, 3))
    (hf : 1 ≤ R.frames) {W : Nat} (hW : 2 * g.monitorRoom + (rest.map fun v => v.category).sum ≤ W) (hlo : W + (nativeFrameWords "java/lang/System" "arraycopy" 5 + 11) ≤ R.locals) :
    ∃ T' h' L, Stand p l e R s m args below meth c T' L cells slots ∧ T'.heap = h' ∧ Fr n0 L ∧ Keep h h' [b] ∧ Ai Z h' b ty (ys.take dp.toNatClampNeg ++ (xs.drop sp.toNatClampNeg).take nn.toNatClampNeg ++ ys.drop (dp.toNatClampNeg + nn.toNatClampNeg)) ∧
      ∀ t, Steps p.tables e below (T'.setTop { g with pc := g.pc + 3, stack := rest }) t → Steps p.tables e below (T.setTop g) t := by
  obtain ⟨k, z, A, r⟩ := A
  obtain ⟨k', z', B, r'⟩ := B
  obtain ⟨T', h', L, X', e', N', K, V, st⟩ := cpA X hx hZ hown w1 w2 w3 w4 eT A B (Or.inl ⟨rfl, hty⟩) h1 h2 h3 (by rw [r]; exact h4) (by rw [r']; exact h5) rfl (by simpa using h5) N ge hg hsize hs hd hf hW hlo
  refine ⟨T', h', L, X', e', N', K, ⟨k', z', ?_, ?_⟩, st⟩
  · have q : (List.range nn.toNatClampNeg).map (fun i => (xs.map Value.int).getD (sp.toNatClampNeg + i) (.int 0)) = ((xs.drop sp.toNatClampNeg).take nn.toNatClampNeg).map Value.int := by
      apply List.ext_getElem?
      intro i
      by_cases hi : i < nn.toNatClampNeg
      · have h6 : sp.toNatClampNeg + i < xs.length := by omega
        simp [List.getElem?_take, hi, h6, List.getD_eq_getElem?_getD]
      · simp [List.getElem?_take, hi]
    rw [q] at V
    simpa [List.map_append, List.map_take, List.map_drop] using V
  · rw [r']; simp; omega
/-! arrays of longs -/
def Al (Z : State) (h : Heap) (a : Addr) (ls : List Int64) : Prop := ∃ (k : ClassId) (z : Int32), Arv Z h a k .long z (ls.map Value.long) (.long 0) ∧ z.toNatClampNeg = ls.length
theorem Al.lt (A : Al Z h a ls) : a < h.size := by obtain ⟨_, _, q, -⟩ := A; exact q.lt
theorem Al.ext (A : Al Z h a ls) (E : Ext h h') : Al Z h' a ls := by obtain ⟨k, z, q, r⟩ := A; exact ⟨k, z, q.ext E, r⟩
theorem Al.other {sl : Nat} {v : Value} (A : Al Z h a ls) (W : Wr h h' b sl v) (ne : a ≠ b) : Al Z h' a ls := by obtain ⟨k, z, q, r⟩ := A; exact ⟨k, z, q.other W ne, r⟩
theorem Al.keep {ws : List Addr} (A : Al Z h a ls) (K : Keep h h' ws) (nin : a ∉ ws) : Al Z h' a ls := by obtain ⟨k, z, q, r⟩ := A; exact ⟨k, z, q.keep K nin, r⟩
theorem Al.len (A : Al Z h a ls) : ls.length < 2 ^ 31 := by
  obtain ⟨k, z, ⟨c, -, -, -, hz, -⟩, r⟩ := A
  rw [← r]; exact (back32 hz).2
theorem Al.open (A : Al Z h a ls) : ∃ c : Cell, Arr Z h a c .long ∧ c.slots.size = ls.length ∧ ∀ (i : Nat) (v : Int64), ls[i]? = some v → c.slots[i]? = some (.long v) := by
  obtain ⟨k, z, ⟨c, A, q1, S, q3, H, G⟩, r⟩ := A
  refine ⟨c, A, S.trans r, fun i v hv => ?_⟩
  have hi : i < ls.length := (List.getElem?_eq_some_iff.mp hv).1
  rw [H i (by rw [S, r]; exact hi)]
  simp [List.getD_eq_getElem?_getD, hv]
theorem Al.load (A : Al Z h a ls) (X : Stand p l e R s m args below meth c T locs cells slots) (hx : p.tables.exec = Jvm.exec) (hZ : Z.Warmed39 s.vm) (eT : T.heap = h) {j : Int32} {v : Int64} (hj : ¬ j < 0) (hv : ls[j.toNatClampNeg]? = some v) {g : JFrame} (hg : g.method = m) {rest : List Value} (hs : g.stack = .int j :: .ref a :: rest) (hd : decode c.code g.pc = .ok (.laload, 1)) :
    ∀ t, Steps p.tables e below (T.setTop { g with pc := g.pc + 1, stack := .long v :: rest }) t → Steps p.tables e below (T.setTop g) t := by
  obtain ⟨cl, Ar, S, H⟩ := A.open
  exact fun t k => X.laload hx (j := j) (v := .long v) (by rw [eT]; exact Ar.1) (State.isArrayOf_alike hZ.alike Ar.2.1) Ar.2.2 (own_in hj (by rw [S]; exact (List.getElem?_eq_some_iff.mp hv).1)) (H _ _ hv) hg hs hd t k
theorem Al.length (A : Al Z h a ls) (X : Stand p l e R s m args below meth c T locs cells slots) (hx : p.tables.exec = Jvm.exec) (hZ : Z.Warmed39 s.vm) (eT : T.heap = h) {n : Int32} (hn : ls.length.toInt32 = n) {g : JFrame} (hg : g.method = m) {rest : List Value} (hs : g.stack = .ref a :: rest) (hd : decode c.code g.pc = .ok (.arraylength, 1)) :
    ∀ t, Steps p.tables e below (T.setTop { g with pc := g.pc + 1, stack := .int n :: rest }) t → Steps p.tables e below (T.setTop g) t := by
  obtain ⟨cl, Ar, S, H⟩ := A.open
  subst hn
  rw [← S]
  exact fun t k => X.arraylength hx (by rw [eT]; exact Ar.1) (State.isArrayOf_alike hZ.alike Ar.2.1) hg hs hd t k
theorem Al.store (A : Al Z h a ls) (X : Stand p l e R s m args below meth c T locs cells slots) (hx : p.tables.exec = Jvm.exec) (hZ : Z.Warmed39 s.vm) (eT : T.heap = h) {j : Int32} {v : Int64} (hj : ¬ j < 0) (hi : j.toNatClampNeg < ls.length) {g : JFrame} (hg : g.method = m) {rest : List Value} (hs : g.stack = .long v :: .int j :: .ref a :: rest) (hd : decode c.code g.pc = .ok (.lastore, 1)) :
    ∃ T' h', Stand p l e R s m args below meth c T' (locs ++ [⟨a, j.toNatClampNeg⟩]) cells slots ∧ T'.heap = h' ∧ Wr h h' a j.toNatClampNeg (.long v) ∧ Al Z h' a (ls.set j.toNatClampNeg v) ∧
      ∀ t, Steps p.tables e below (T'.setTop { g with pc := g.pc + 1, stack := rest }) t → Steps p.tables e below (T.setTop g) t := by
  obtain ⟨cl, Ar, S, H⟩ := A.open
  obtain ⟨T', h', X', e', W, st⟩ := stJ X hx hZ eT Ar (j := j) (own_in hj (by rw [S]; exact hi)) hg hs hd
  refine ⟨T', h', X', e', W, ?_, st⟩
  obtain ⟨k, z, ⟨c, A, q1, S, q3, H, G⟩, r⟩ := A
  refine ⟨k, z, ?_, by simpa using r⟩
  rw [List.map_set]
  exact Arv.set A q1 S q3 H G rfl W j.toNatClampNeg rfl (by simpa using hi)
theorem Al.new (X : Stand p l e R s m args below meth c T locs cells slots) (hx : p.tables.exec = Jvm.exec) (hZ : Z.Warmed39 s.vm) {aty : ArrayType} (w : (Jvm.Cond.arrayClass (newarray.typeOf aty)).before a0 Z = true) (hdef : aty = .long) (eT : T.heap = h) {n : Int32} (hn : ¬ n < 0) (cap : Nat) (hcap : n.toNatClampNeg ≤ cap) (hb : cap * 8 ≤ 536870912) (hc : cells + 1 ≤ R.cells) (hl : slots + cap ≤ R.slots)
    {g : JFrame} (hg : g.method = m) {rest : List Value} (hs : g.stack = .int n :: rest) (hd : decode c.code g.pc = .ok (.newarray aty, 2)) :
    ∃ T' h' b, Stand p l e R s m args below meth c T' locs (cells + 1) (slots + cap) ∧ T'.heap = h' ∧ b = h.size ∧ Ext h h' ∧ Al Z h' b (List.replicate n.toNatClampNeg 0) ∧
      ∀ t, Steps p.tables e below (T'.setTop { g with pc := g.pc + 2, stack := .ref b :: rest }) t → Steps p.tables e below (T.setTop g) t := by
  obtain ⟨T', h', k, X', e', E, A, st⟩ := newP X hx hZ w eT (g := g) hg hd hs hn hcap hb hc hl
  subst hdef
  refine ⟨T', h', _, X', e', rfl, E, ⟨k, n, ?_, by simp⟩, st⟩
  have V := Arv.new A hn
  rw [List.map_replicate]
  exact V.pad (pad_rep [] (.long 0) n.toNatClampNeg)
theorem own_if1 {P : Prop} [Decidable P] (h : P) : ¬ ((if P then (1 : Int32) else (0 : Int32)) = 0) := by rw [if_pos h]; decide
theorem own_if0 {P : Prop} [Decidable P] (h : ¬ P) : (if P then (1 : Int32) else (0 : Int32)) = 0 := if_neg h
theorem own_ifc {P Q : Prop} [Decidable P] [Decidable Q] (h : P ↔ Q) : (if P then (1 : Int32) else (0 : Int32)) = (if Q then (1 : Int32) else (0 : Int32)) := by
  by_cases p : P
  · rw [if_pos p, if_pos (h.mp p)]
  · rw [if_neg p, if_neg (fun q => p (h.mpr q))]
theorem own_narI {P : Prop} [Decidable P] : nar .boolean (if P then (1 : Int32) else (0 : Int32)) = (if P then (1 : Int32) else (0 : Int32)) := by
  by_cases p : P
  · rw [if_pos p]; rfl
  · rw [if_neg p]; rfl
theorem own_bb (x : Int32) : x.toInt8.toInt32.toInt8.toInt32 = x.toInt8.toInt32 := by simp
end Layer
section Numbers
theorem own_mod (x k : Int32) (hk : 0 < k.toInt) : 0 ≤ ((x &&& (2147483647 : Int32)) % k).toInt ∧ ((x &&& (2147483647 : Int32)) % k).toInt < k.toInt := by
  have h1 := c_and x 2147483647 (by decide)
  have h2 := (c_iremV (x &&& 2147483647) k).1 h1.1 hk
  exact ⟨h2.1, h2.2.1⟩
theorem own_nn {j : Int32} (h : 0 ≤ j.toInt) : ¬ j < 0 := by
  rw [Int32.lt_iff_toInt_lt, show (0 : Int32).toInt = 0 from rfl]; omega
theorem own_nat {j : Int32} {k : Nat} (h : 0 ≤ j.toInt) (h2 : j.toInt < k) : j.toNatClampNeg < k := by
  simp only [Int32.toNatClampNeg]; omega
theorem own_at {xs : List Int32} {i : Nat} (h : i < xs.length) : ∃ v, xs[i]? = some v := ⟨xs[i], List.getElem?_eq_getElem h⟩
end Numbers
theorem own_ti {n : Nat} (h : n < 2147483648) : n.toInt32.toInt = n := len_toInt h
theorem own_tn {n : Nat} (h : n < 2147483648) : n.toInt32.toNatClampNeg = n := by simp only [Int32.toNatClampNeg, own_ti h]; rfl
theorem own_tpos {n : Nat} (h : n < 2147483648) : ¬ n.toInt32 < 0 := by rw [Int32.lt_iff_toInt_lt, own_ti h, show (0 : Int32).toInt = 0 from rfl]; omega
theorem own_t1 (n : Nat) : n.toInt32 + (1 : Int32) = (n + 1).toInt32 := (Int32.ofNat_add n 1).symm
theorem own_tadd (n m : Nat) : n.toInt32 + m.toInt32 = (n + m).toInt32 := (Int32.ofNat_add n m).symm
theorem own_pred (n : Nat) : (n + 1).toInt32 - (1 : Int32) = n.toInt32 := by rw [← own_t1]; exact Int32.add_sub_cancel _ _
theorem own_m1 (x : Int32) : x + (-1 : Int32) = x - (1 : Int32) := (Int32.sub_eq_add_neg x 1).symm
theorem own_tlt {n m : Nat} (hn : n < 2147483648) (hm : m < 2147483648) : n.toInt32 < m.toInt32 ↔ n < m := by rw [Int32.lt_iff_toInt_lt, own_ti hn, own_ti hm]; omega
theorem own_tsub {n m : Nat} (h : m ≤ n) : n.toInt32 - m.toInt32 = (n - m).toInt32 := by
  have e : n = (n - m) + m := by omega
  conv => lhs; rw [e]
  rw [← own_tadd]; exact Int32.add_sub_cancel _ _
theorem own_natI {j : Int32} (h : 0 ≤ j.toInt) : ∃ n : Nat, j = n.toInt32 ∧ (n : Int) = j.toInt := ⟨j.toNatClampNeg, (back32 (own_nn h)).1.symm, by simp only [Int32.toNatClampNeg]; omega⟩
/-- m values B 0, B 1, .. written from the place a on -/
def own_W (xs : List Int32) (a : Nat) (B : Nat → Int32) (m : Nat) (ys : List Int32) : Prop := ys.length = xs.length ∧ ∀ j, ys[j]? = if a ≤ j ∧ j < a + m then some (B (j - a)) else xs[j]?
theorem own_W.zero (xs : List Int32) (a : Nat) (B : Nat → Int32) : own_W xs a B 0 xs := ⟨rfl, fun j => by rw [if_neg (by omega)]⟩
theorem own_W.step {xs ys : List Int32} {a m : Nat} {B : Nat → Int32} (h : own_W xs a B m ys) (hl : a + m < xs.length) : own_W xs a B (m + 1) (ys.set (a + m) (B m)) := by
  refine ⟨by rw [List.length_set]; exact h.1, fun j => ?_⟩
  rw [List.getElem?_set]
  by_cases e : a + m = j
  · subst e
    rw [if_pos rfl, if_pos (by rw [h.1]; exact hl), if_pos (by omega), Nat.add_sub_cancel_left]
  · rw [if_neg e, h.2 j]
    by_cases q : a ≤ j ∧ j < a + m
    · rw [if_pos q, if_pos (by omega)]
    · rw [if_neg q, if_neg (by omega)]
/-- a Digraph at a with its six arrays -/
def DG (Z : State) (h : Heap) (a sr tg eb et lf lt : Addr) (k : Int32) (xS xT xE xF xA xB : List Int32) : Prop := Exa Z h a "io/isoproof/check/polygraph/Digraph" ∧ Fld Z h a "io/isoproof/check/polygraph/Digraph" "edgeCount" "I" (.int k) ∧ Fld Z h a "io/isoproof/check/polygraph/Digraph" "sources" "[I" (.ref sr) ∧ Fld Z h a "io/isoproof/check/polygraph/Digraph" "targets" "[I" (.ref tg) ∧ Fld Z h a "io/isoproof/check/polygraph/Digraph" "edgesBefore" "[I" (.ref eb) ∧ Fld Z h a "io/isoproof/check/polygraph/Digraph" "edgesBeforeTo" "[I" (.ref et) ∧ Fld Z h a "io/isoproof/check/polygraph/Digraph" "lastEdgeFrom" "[I" (.ref lf) ∧ Fld Z h a "io/isoproof/check/polygraph/Digraph" "lastEdgeTo" "[I" (.ref lt) ∧ Ai Z h sr .int xS ∧ Ai Z h tg .int xT ∧ Ai Z h eb .int xE ∧ Ai Z h et .int xF ∧ Ai Z h lf .int xA ∧ Ai Z h lt .int xB
/-- the seven are unlike, and new -/
def own_dis (n0 : Nat) (a sr tg eb et lf lt : Addr) : Prop := a ≠ sr ∧ a ≠ tg ∧ a ≠ eb ∧ a ≠ et ∧ a ≠ lf ∧ a ≠ lt ∧ sr ≠ tg ∧ sr ≠ eb ∧ sr ≠ et ∧ sr ≠ lf ∧ sr ≠ lt ∧ tg ≠ eb ∧ tg ≠ et ∧ tg ≠ lf ∧ tg ≠ lt ∧ eb ≠ et ∧ eb ≠ lf ∧ eb ≠ lt ∧ et ≠ lf ∧ et ≠ lt ∧ lf ≠ lt ∧ n0 ≤ a ∧ n0 ≤ sr ∧ n0 ≤ tg ∧ n0 ≤ eb ∧ n0 ≤ et ∧ n0 ≤ lf ∧ n0 ≤ lt
theorem own_gd0 {xs : List Int32} {i : Nat} (h : i < xs.length) : xs[i]? = some (xs.getD i 0) := by rw [List.getD_eq_getElem?_getD, List.getElem?_eq_getElem h]; rfl
/-- the last edges when r of three edges are left -/
def own_k (xA xS xE : List Int32) (r : Nat) : List Int32 := match r with
  | 3 => xA
  | 2 => xA.set (xS.getD 2 0).toNatClampNeg (xE.getD 2 0)
  | 1 => (xA.set (xS.getD 2 0).toNatClampNeg (xE.getD 2 0)).set (xS.getD 1 0).toNatClampNeg (xE.getD 1 0)
  | _ => ((xA.set (xS.getD 2 0).toNatClampNeg (xE.getD 2 0)).set (xS.getD 1 0).toNatClampNeg (xE.getD 1 0)).set (xS.getD 0 0).toNatClampNeg (xE.getD 0 0)
theorem own_klen (xA xS xE : List Int32) (r : Nat) : (own_k xA xS xE r).length = xA.length := by unfold own_k; split <;> simp
def own_last (node k x0 x1 x2 : Int32) : Int32 := if (2 : Int32) < k ∧ x2 = node then 2 else if (1 : Int32) < k ∧ x1 = node then 1 else if (0 : Int32) < k ∧ x0 = node then 0 else -1
/-- three edges added to the empty graph: what the six lists hold -/
def own_S (f0 f1 f2 : Int32) : List Int32 := (((List.replicate 64 0).set 0 f0).set 1 f1).set 2 f2
def own_A1 (f0 : Int32) : List Int32 := [-1, -1].set f0.toNatClampNeg 0
def own_A2 (f0 f1 : Int32) : List Int32 := (own_A1 f0).set f1.toNatClampNeg 1
def own_A3 (f0 f1 f2 : Int32) : List Int32 := (own_A2 f0 f1).set f2.toNatClampNeg 2
def own_E (f0 f1 f2 : Int32) : List Int32 := (((List.replicate 64 0).set 0 (([-1, -1] : List Int32).getD f0.toNatClampNeg 0)).set 1 ((own_A1 f0).getD f1.toNatClampNeg 0)).set 2 ((own_A2 f0 f1).getD f2.toNatClampNeg 0)
theorem own_fin (f0 f1 f2 : Int32) (h0 : f0 = 0 ∨ f0 = 1) (h1 : f1 = 0 ∨ f1 = 1) (h2 : f2 = 0 ∨ f2 = 1) (r : Nat) (hr : r ≤ 3) (node : Int32) (hn : node = 0 ∨ node = 1) : (own_k (own_A3 f0 f1 f2) (own_S f0 f1 f2) (own_E f0 f1 f2) r)[node.toNatClampNeg]? = some (own_last node r.toInt32 f0 f1 f2) := by
  have cr : r = 0 ∨ r = 1 ∨ r = 2 ∨ r = 3 := by omega
  rcases h0 with rfl | rfl <;> rcases h1 with rfl | rfl <;> rcases h2 with rfl | rfl <;> rcases cr with rfl | rfl | rfl | rfl <;> rcases hn with rfl | rfl <;> decide
theorem own_bit (x : Int32) : (x &&& (1 : Int32)) = 0 ∨ (x &&& (1 : Int32)) = 1 := by
  have h := c_and x 1 (by decide)
  rw [show (1 : Int32).toInt = 1 from rfl] at h
  rcases (show (x &&& 1).toInt = 0 ∨ (x &&& 1).toInt = 1 by omega) with q | q
  · left; exact Int32.toInt_inj.mp q
  · right; exact Int32.toInt_inj.mp q
theorem own_i01 {f : Int32} (h : f = 0 ∨ f = 1) : ¬ f < 0 ∧ f.toNatClampNeg < 2 := by rcases h with rfl | rfl <;> decide
theorem w0 {Z : State} {a0 : Array Value} (hw : ∀ d ∈ tables_1, d.before a0 Z = true) : (Jvm.Cond.classLink "io/isoproof/check/polygraph/DigraphKeepEdgesPinLaw" (8 : Nat) "io/isoproof/check/polygraph/Digraph").before a0 Z = true := hw _ (List.mem_of_getElem? (i := 0) rfl)
theorem w1 {Z : State} {a0 : Array Value} (hw : ∀ d ∈ tables_1, d.before a0 Z = true) : (Jvm.Cond.instantiable "io/isoproof/check/polygraph/Digraph" (8 : Nat)).before a0 Z = true := hw _ (List.mem_of_getElem? (i := 1) rfl)
theorem w2 {Z : State} {a0 : Array Value} (hw : ∀ d ∈ tables_1, d.before a0 Z = true) : (Jvm.Cond.initialized "io/isoproof/check/polygraph/Digraph").before a0 Z = true := hw _ (List.mem_of_getElem? (i := 2) rfl)
theorem w3 {Z : State} {a0 : Array Value} (hw : ∀ d ∈ tables_1, d.before a0 Z = true) : (Jvm.Cond.methodLink "io/isoproof/check/polygraph/DigraphKeepEdgesPinLaw" (10 : Nat) ({ cls := "io/isoproof/check/polygraph/Digraph", name := "<init>", desc := "(I)V" } : Jvm.MethodName)).before a0 Z = true := hw _ (List.mem_of_getElem? (i := 3) rfl)
theorem w4 {Z : State} {a0 : Array Value} (hw : ∀ d ∈ tables_1, d.before a0 Z = true) : (Jvm.Cond.instanceMethod ({ cls := "io/isoproof/check/polygraph/Digraph", name := "<init>", desc := "(I)V" } : Jvm.MethodName)).before a0 Z = true := hw _ (List.mem_of_getElem? (i := 4) rfl)
theorem w5 {Z : State} {a0 : Array Value} (hw : ∀ d ∈ tables_1, d.before a0 Z = true) : (Jvm.Cond.code ({ cls := "io/isoproof/check/polygraph/Digraph", name := "<init>", desc := "(I)V" } : Jvm.MethodName) prog_28_method_1_code (2 : Nat) (Option.none : Option Jvm.ClassFile.FieldType)).before a0 Z = true := hw _ (List.mem_of_getElem? (i := 5) rfl)
theorem w6 {Z : State} {a0 : Array Value} (hw : ∀ d ∈ tables_1, d.before a0 Z = true) : (Jvm.Cond.methodLink "io/isoproof/check/polygraph/Digraph" (1 : Nat) ({ cls := "java/lang/Object", name := "<init>", desc := "()V" } : Jvm.MethodName)).before a0 Z = true := hw _ (List.mem_of_getElem? (i := 6) rfl)
theorem w7 {Z : State} {a0 : Array Value} (hw : ∀ d ∈ tables_1, d.before a0 Z = true) : (Jvm.Cond.instanceMethod ({ cls := "java/lang/Object", name := "<init>", desc := "()V" } : Jvm.MethodName)).before a0 Z = true := hw _ (List.mem_of_getElem? (i := 7) rfl)
theorem w8 {Z : State} {a0 : Array Value} (hw : ∀ d ∈ tables_1, d.before a0 Z = true) : (Jvm.Cond.code ({ cls := "java/lang/Object", name := "<init>", desc := "()V" } : Jvm.MethodName) object_method_1_code (1 : Nat) (Option.none : Option Jvm.ClassFile.FieldType)).before a0 Z = true := hw _ (List.mem_of_getElem? (i := 8) rfl)
theorem w9 {Z : State} {a0 : Array Value} (hw : ∀ d ∈ tables_1, d.before a0 Z = true) : (Jvm.Cond.arrayClass Jvm.ClassFile.FieldType.int).before a0 Z = true := hw _ (List.mem_of_getElem? (i := 9) rfl)
theorem w10 {Z : State} {a0 : Array Value} (hw : ∀ d ∈ tables_1, d.before a0 Z = true) : (Jvm.Cond.fieldLink "io/isoproof/check/polygraph/Digraph" (7 : Nat) "io/isoproof/check/polygraph/Digraph" "sources" "[I").before a0 Z = true := hw _ (List.mem_of_getElem? (i := 10) rfl)
theorem w11 {Z : State} {a0 : Array Value} (hw : ∀ d ∈ tables_1, d.before a0 Z = true) : (Jvm.Cond.lays "io/isoproof/check/polygraph/Digraph" "io/isoproof/check/polygraph/Digraph" "sources" "[I").before a0 Z = true := hw _ (List.mem_of_getElem? (i := 11) rfl)
theorem w12 {Z : State} {a0 : Array Value} (hw : ∀ d ∈ tables_1, d.before a0 Z = true) : (Jvm.Cond.fieldLink "io/isoproof/check/polygraph/Digraph" (13 : Nat) "io/isoproof/check/polygraph/Digraph" "targets" "[I").before a0 Z = true := hw _ (List.mem_of_getElem? (i := 12) rfl)
theorem w13 {Z : State} {a0 : Array Value} (hw : ∀ d ∈ tables_1, d.before a0 Z = true) : (Jvm.Cond.lays "io/isoproof/check/polygraph/Digraph" "io/isoproof/check/polygraph/Digraph" "targets" "[I").before a0 Z = true := hw _ (List.mem_of_getElem? (i := 13) rfl)
theorem w14 {Z : State} {a0 : Array Value} (hw : ∀ d ∈ tables_1, d.before a0 Z = true) : (Jvm.Cond.fieldLink "io/isoproof/check/polygraph/Digraph" (16 : Nat) "io/isoproof/check/polygraph/Digraph" "edgesBefore" "[I").before a0 Z = true := hw _ (List.mem_of_getElem? (i := 14) rfl)
theorem w15 {Z : State} {a0 : Array Value} (hw : ∀ d ∈ tables_1, d.before a0 Z = true) : (Jvm.Cond.lays "io/isoproof/check/polygraph/Digraph" "io/isoproof/check/polygraph/Digraph" "edgesBefore" "[I").before a0 Z = true := hw _ (List.mem_of_getElem? (i := 15) rfl)
theorem w16 {Z : State} {a0 : Array Value} (hw : ∀ d ∈ tables_1, d.before a0 Z = true) : (Jvm.Cond.fieldLink "io/isoproof/check/polygraph/Digraph" (19 : Nat) "io/isoproof/check/polygraph/Digraph" "edgesBeforeTo" "[I").before a0 Z = true := hw _ (List.mem_of_getElem? (i := 16) rfl)
theorem w17 {Z : State} {a0 : Array Value} (hw : ∀ d ∈ tables_1, d.before a0 Z = true) : (Jvm.Cond.lays "io/isoproof/check/polygraph/Digraph" "io/isoproof/check/polygraph/Digraph" "edgesBeforeTo" "[I").before a0 Z = true := hw _ (List.mem_of_getElem? (i := 17) rfl)
theorem w18 {Z : State} {a0 : Array Value} (hw : ∀ d ∈ tables_1, d.before a0 Z = true) : (Jvm.Cond.fieldLink "io/isoproof/check/polygraph/Digraph" (22 : Nat) "io/isoproof/check/polygraph/Digraph" "nodes" "I").before a0 Z = true := hw _ (List.mem_of_getElem? (i := 18) rfl)
theorem w19 {Z : State} {a0 : Array Value} (hw : ∀ d ∈ tables_1, d.before a0 Z = true) : (Jvm.Cond.laysFinal "io/isoproof/check/polygraph/Digraph" "io/isoproof/check/polygraph/Digraph" "nodes" "I").before a0 Z = true := hw _ (List.mem_of_getElem? (i := 19) rfl)
theorem w20 {Z : State} {a0 : Array Value} (hw : ∀ d ∈ tables_1, d.before a0 Z = true) : (Jvm.Cond.fieldLink "io/isoproof/check/polygraph/Digraph" (26 : Nat) "io/isoproof/check/polygraph/Digraph" "lastEdgeFrom" "[I").before a0 Z = true := hw _ (List.mem_of_getElem? (i := 20) rfl)
theorem w21 {Z : State} {a0 : Array Value} (hw : ∀ d ∈ tables_1, d.before a0 Z = true) : (Jvm.Cond.laysFinal "io/isoproof/check/polygraph/Digraph" "io/isoproof/check/polygraph/Digraph" "lastEdgeFrom" "[I").before a0 Z = true := hw _ (List.mem_of_getElem? (i := 21) rfl)
theorem w22 {Z : State} {a0 : Array Value} (hw : ∀ d ∈ tables_1, d.before a0 Z = true) : (Jvm.Cond.methodLink "io/isoproof/check/polygraph/Digraph" (29 : Nat) ({ cls := "java/util/Arrays", name := "fill", desc := "([II)V" } : Jvm.MethodName)).before a0 Z = true := hw _ (List.mem_of_getElem? (i := 22) rfl)
theorem w23 {Z : State} {a0 : Array Value} (hw : ∀ d ∈ tables_1, d.before a0 Z = true) : (Jvm.Cond.static ({ cls := "java/util/Arrays", name := "fill", desc := "([II)V" } : Jvm.MethodName)).before a0 Z = true := hw _ (List.mem_of_getElem? (i := 23) rfl)
theorem w24 {Z : State} {a0 : Array Value} (hw : ∀ d ∈ tables_1, d.before a0 Z = true) : (Jvm.Cond.initialized "java/util/Arrays").before a0 Z = true := hw _ (List.mem_of_getElem? (i := 24) rfl)
theorem w25 {Z : State} {a0 : Array Value} (hw : ∀ d ∈ tables_1, d.before a0 Z = true) : (Jvm.Cond.code ({ cls := "java/util/Arrays", name := "fill", desc := "([II)V" } : Jvm.MethodName) jdk_65_method_103_code (4 : Nat) (Option.none : Option Jvm.ClassFile.FieldType)).before a0 Z = true := hw _ (List.mem_of_getElem? (i := 25) rfl)
theorem w26 {Z : State} {a0 : Array Value} (hw : ∀ d ∈ tables_1, d.before a0 Z = true) : (Jvm.Cond.fieldLink "io/isoproof/check/polygraph/Digraph" (35 : Nat) "io/isoproof/check/polygraph/Digraph" "lastEdgeTo" "[I").before a0 Z = true := hw _ (List.mem_of_getElem? (i := 26) rfl)
theorem w27 {Z : State} {a0 : Array Value} (hw : ∀ d ∈ tables_1, d.before a0 Z = true) : (Jvm.Cond.laysFinal "io/isoproof/check/polygraph/Digraph" "io/isoproof/check/polygraph/Digraph" "lastEdgeTo" "[I").before a0 Z = true := hw _ (List.mem_of_getElem? (i := 27) rfl)
theorem w28 {Z : State} {a0 : Array Value} (hw : ∀ d ∈ tables_1, d.before a0 Z = true) : (Jvm.Cond.methodLink "io/isoproof/check/polygraph/DigraphKeepEdgesPinLaw" (13 : Nat) ({ cls := "io/isoproof/check/polygraph/Digraph", name := "addEdge", desc := "(II)V" } : Jvm.MethodName)).before a0 Z = true := hw _ (List.mem_of_getElem? (i := 28) rfl)
theorem w29 {Z : State} {a0 : Array Value} (hw : ∀ d ∈ tables_1, d.before a0 Z = true) : (Jvm.Cond.declares ({ cls := "io/isoproof/check/polygraph/Digraph", name := "addEdge", desc := "(II)V" } : Jvm.MethodName)).before a0 Z = true := hw _ (List.mem_of_getElem? (i := 29) rfl)
theorem w30 {Z : State} {a0 : Array Value} (hw : ∀ d ∈ tables_1, d.before a0 Z = true) : (Jvm.Cond.instanceMethod ({ cls := "io/isoproof/check/polygraph/Digraph", name := "addEdge", desc := "(II)V" } : Jvm.MethodName)).before a0 Z = true := hw _ (List.mem_of_getElem? (i := 30) rfl)
theorem w31 {Z : State} {a0 : Array Value} (hw : ∀ d ∈ tables_1, d.before a0 Z = true) : (Jvm.Cond.selects "io/isoproof/check/polygraph/Digraph" ({ cls := "io/isoproof/check/polygraph/Digraph", name := "addEdge", desc := "(II)V" } : Jvm.MethodName) ({ cls := "io/isoproof/check/polygraph/Digraph", name := "addEdge", desc := "(II)V" } : Jvm.MethodName)).before a0 Z = true := hw _ (List.mem_of_getElem? (i := 31) rfl)
theorem w32 {Z : State} {a0 : Array Value} (hw : ∀ d ∈ tables_1, d.before a0 Z = true) : (Jvm.Cond.code ({ cls := "io/isoproof/check/polygraph/Digraph", name := "addEdge", desc := "(II)V" } : Jvm.MethodName) prog_28_method_4_code (4 : Nat) (Option.none : Option Jvm.ClassFile.FieldType)).before a0 Z = true := hw _ (List.mem_of_getElem? (i := 32) rfl)
theorem w33 {Z : State} {a0 : Array Value} (hw : ∀ d ∈ tables_1, d.before a0 Z = true) : (Jvm.Cond.fieldLink "io/isoproof/check/polygraph/Digraph" (38 : Nat) "io/isoproof/check/polygraph/Digraph" "edgeCount" "I").before a0 Z = true := hw _ (List.mem_of_getElem? (i := 33) rfl)
theorem w34 {Z : State} {a0 : Array Value} (hw : ∀ d ∈ tables_1, d.before a0 Z = true) : (Jvm.Cond.lays "io/isoproof/check/polygraph/Digraph" "io/isoproof/check/polygraph/Digraph" "edgeCount" "I").before a0 Z = true := hw _ (List.mem_of_getElem? (i := 34) rfl)
theorem w35 {Z : State} {a0 : Array Value} (hw : ∀ d ∈ tables_1, d.before a0 Z = true) : (Jvm.Cond.methodLink "io/isoproof/check/polygraph/DigraphKeepEdgesPinLaw" (17 : Nat) ({ cls := "io/isoproof/check/polygraph/Digraph", name := "keepEdges", desc := "(I)V" } : Jvm.MethodName)).before a0 Z = true := hw _ (List.mem_of_getElem? (i := 35) rfl)
theorem w36 {Z : State} {a0 : Array Value} (hw : ∀ d ∈ tables_1, d.before a0 Z = true) : (Jvm.Cond.declares ({ cls := "io/isoproof/check/polygraph/Digraph", name := "keepEdges", desc := "(I)V" } : Jvm.MethodName)).before a0 Z = true := hw _ (List.mem_of_getElem? (i := 36) rfl)
theorem w37 {Z : State} {a0 : Array Value} (hw : ∀ d ∈ tables_1, d.before a0 Z = true) : (Jvm.Cond.instanceMethod ({ cls := "io/isoproof/check/polygraph/Digraph", name := "keepEdges", desc := "(I)V" } : Jvm.MethodName)).before a0 Z = true := hw _ (List.mem_of_getElem? (i := 37) rfl)
theorem w38 {Z : State} {a0 : Array Value} (hw : ∀ d ∈ tables_1, d.before a0 Z = true) : (Jvm.Cond.selects "io/isoproof/check/polygraph/Digraph" ({ cls := "io/isoproof/check/polygraph/Digraph", name := "keepEdges", desc := "(I)V" } : Jvm.MethodName) ({ cls := "io/isoproof/check/polygraph/Digraph", name := "keepEdges", desc := "(I)V" } : Jvm.MethodName)).before a0 Z = true := hw _ (List.mem_of_getElem? (i := 38) rfl)
theorem w39 {Z : State} {a0 : Array Value} (hw : ∀ d ∈ tables_1, d.before a0 Z = true) : (Jvm.Cond.code ({ cls := "io/isoproof/check/polygraph/Digraph", name := "keepEdges", desc := "(I)V" } : Jvm.MethodName) prog_28_method_5_code (3 : Nat) (Option.none : Option Jvm.ClassFile.FieldType)).before a0 Z = true := hw _ (List.mem_of_getElem? (i := 39) rfl)
theorem w40 {Z : State} {a0 : Array Value} (hw : ∀ d ∈ tables_1, d.before a0 Z = true) : (Jvm.Cond.methodLink "io/isoproof/check/polygraph/DigraphKeepEdgesPinLaw" (20 : Nat) ({ cls := "java/lang/Math", name := "min", desc := "(II)I" } : Jvm.MethodName)).before a0 Z = true := hw _ (List.mem_of_getElem? (i := 40) rfl)
theorem w41 {Z : State} {a0 : Array Value} (hw : ∀ d ∈ tables_1, d.before a0 Z = true) : (Jvm.Cond.static ({ cls := "java/lang/Math", name := "min", desc := "(II)I" } : Jvm.MethodName)).before a0 Z = true := hw _ (List.mem_of_getElem? (i := 41) rfl)
theorem w42 {Z : State} {a0 : Array Value} (hw : ∀ d ∈ tables_1, d.before a0 Z = true) : (Jvm.Cond.initialized "java/lang/Math").before a0 Z = true := hw _ (List.mem_of_getElem? (i := 42) rfl)
theorem w43 {Z : State} {a0 : Array Value} (hw : ∀ d ∈ tables_1, d.before a0 Z = true) : (Jvm.Cond.code ({ cls := "java/lang/Math", name := "min", desc := "(II)I" } : Jvm.MethodName) jdk_29_method_69_code (2 : Nat) (Option.some Jvm.ClassFile.FieldType.int)).before a0 Z = true := hw _ (List.mem_of_getElem? (i := 43) rfl)
theorem w44 {Z : State} {a0 : Array Value} (hw : ∀ d ∈ tables_1, d.before a0 Z = true) : (Jvm.Cond.methodLink "io/isoproof/check/polygraph/DigraphKeepEdgesPinLaw" (26 : Nat) ({ cls := "io/isoproof/check/polygraph/Digraph", name := "edgeCount", desc := "()I" } : Jvm.MethodName)).before a0 Z = true := hw _ (List.mem_of_getElem? (i := 44) rfl)
theorem w45 {Z : State} {a0 : Array Value} (hw : ∀ d ∈ tables_1, d.before a0 Z = true) : (Jvm.Cond.declares ({ cls := "io/isoproof/check/polygraph/Digraph", name := "edgeCount", desc := "()I" } : Jvm.MethodName)).before a0 Z = true := hw _ (List.mem_of_getElem? (i := 45) rfl)
theorem w46 {Z : State} {a0 : Array Value} (hw : ∀ d ∈ tables_1, d.before a0 Z = true) : (Jvm.Cond.instanceMethod ({ cls := "io/isoproof/check/polygraph/Digraph", name := "edgeCount", desc := "()I" } : Jvm.MethodName)).before a0 Z = true := hw _ (List.mem_of_getElem? (i := 46) rfl)
theorem w47 {Z : State} {a0 : Array Value} (hw : ∀ d ∈ tables_1, d.before a0 Z = true) : (Jvm.Cond.selects "io/isoproof/check/polygraph/Digraph" ({ cls := "io/isoproof/check/polygraph/Digraph", name := "edgeCount", desc := "()I" } : Jvm.MethodName) ({ cls := "io/isoproof/check/polygraph/Digraph", name := "edgeCount", desc := "()I" } : Jvm.MethodName)).before a0 Z = true := hw _ (List.mem_of_getElem? (i := 47) rfl)
theorem w48 {Z : State} {a0 : Array Value} (hw : ∀ d ∈ tables_1, d.before a0 Z = true) : (Jvm.Cond.code ({ cls := "io/isoproof/check/polygraph/Digraph", name := "edgeCount", desc := "()I" } : Jvm.MethodName) prog_28_method_3_code (1 : Nat) (Option.some Jvm.ClassFile.FieldType.int)).before a0 Z = true := hw _ (List.mem_of_getElem? (i := 48) rfl)
theorem w49 {Z : State} {a0 : Array Value} (hw : ∀ d ∈ tables_1, d.before a0 Z = true) : (Jvm.Cond.methodLink "io/isoproof/check/polygraph/DigraphKeepEdgesPinLaw" (30 : Nat) ({ cls := "io/isoproof/check/polygraph/Digraph", name := "lastEdgeFrom", desc := "(I)I" } : Jvm.MethodName)).before a0 Z = true := hw _ (List.mem_of_getElem? (i := 49) rfl)
theorem w50 {Z : State} {a0 : Array Value} (hw : ∀ d ∈ tables_1, d.before a0 Z = true) : (Jvm.Cond.declares ({ cls := "io/isoproof/check/polygraph/Digraph", name := "lastEdgeFrom", desc := "(I)I" } : Jvm.MethodName)).before a0 Z = true := hw _ (List.mem_of_getElem? (i := 50) rfl)
theorem w51 {Z : State} {a0 : Array Value} (hw : ∀ d ∈ tables_1, d.before a0 Z = true) : (Jvm.Cond.instanceMethod ({ cls := "io/isoproof/check/polygraph/Digraph", name := "lastEdgeFrom", desc := "(I)I" } : Jvm.MethodName)).before a0 Z = true := hw _ (List.mem_of_getElem? (i := 51) rfl)
theorem w52 {Z : State} {a0 : Array Value} (hw : ∀ d ∈ tables_1, d.before a0 Z = true) : (Jvm.Cond.selects "io/isoproof/check/polygraph/Digraph" ({ cls := "io/isoproof/check/polygraph/Digraph", name := "lastEdgeFrom", desc := "(I)I" } : Jvm.MethodName) ({ cls := "io/isoproof/check/polygraph/Digraph", name := "lastEdgeFrom", desc := "(I)I" } : Jvm.MethodName)).before a0 Z = true := hw _ (List.mem_of_getElem? (i := 52) rfl)
theorem w53 {Z : State} {a0 : Array Value} (hw : ∀ d ∈ tables_1, d.before a0 Z = true) : (Jvm.Cond.code ({ cls := "io/isoproof/check/polygraph/Digraph", name := "lastEdgeFrom", desc := "(I)I" } : Jvm.MethodName) prog_28_method_6_code (2 : Nat) (Option.some Jvm.ClassFile.FieldType.int)).before a0 Z = true := hw _ (List.mem_of_getElem? (i := 53) rfl)
theorem w54 {Z : State} {a0 : Array Value} (hw : ∀ d ∈ tables_1, d.before a0 Z = true) : (Jvm.Cond.methodLink "io/isoproof/check/polygraph/DigraphKeepEdgesPinLaw" (34 : Nat) ({ cls := "io/isoproof/check/polygraph/DigraphKeepEdgesPinLaw", name := "last", desc := "(IIIII)I" } : Jvm.MethodName)).before a0 Z = true := hw _ (List.mem_of_getElem? (i := 54) rfl)
theorem w55 {Z : State} {a0 : Array Value} (hw : ∀ d ∈ tables_1, d.before a0 Z = true) : (Jvm.Cond.static ({ cls := "io/isoproof/check/polygraph/DigraphKeepEdgesPinLaw", name := "last", desc := "(IIIII)I" } : Jvm.MethodName)).before a0 Z = true := hw _ (List.mem_of_getElem? (i := 55) rfl)
theorem w56 {Z : State} {a0 : Array Value} (hw : ∀ d ∈ tables_1, d.before a0 Z = true) : (Jvm.Cond.initialized "io/isoproof/check/polygraph/DigraphKeepEdgesPinLaw").before a0 Z = true := hw _ (List.mem_of_getElem? (i := 56) rfl)
theorem w57 {Z : State} {a0 : Array Value} (hw : ∀ d ∈ tables_1, d.before a0 Z = true) : (Jvm.Cond.code ({ cls := "io/isoproof/check/polygraph/DigraphKeepEdgesPinLaw", name := "last", desc := "(IIIII)I" } : Jvm.MethodName) method_2_code (5 : Nat) (Option.some Jvm.ClassFile.FieldType.int)).before a0 Z = true := hw _ (List.mem_of_getElem? (i := 57) rfl)
theorem w58 {Z : State} {a0 : Array Value} (hw : ∀ d ∈ tables_1, d.before a0 Z = true) : (Jvm.Cond.methodLink "io/isoproof/check/polygraph/DigraphKeepEdgesPinLaw" (40 : Nat) ({ cls := "io/isoproof/check/polygraph/Digraph", name := "lastEdgeTo", desc := "(I)I" } : Jvm.MethodName)).before a0 Z = true := hw _ (List.mem_of_getElem? (i := 58) rfl)
theorem w59 {Z : State} {a0 : Array Value} (hw : ∀ d ∈ tables_1, d.before a0 Z = true) : (Jvm.Cond.declares ({ cls := "io/isoproof/check/polygraph/Digraph", name := "lastEdgeTo", desc := "(I)I" } : Jvm.MethodName)).before a0 Z = true := hw _ (List.mem_of_getElem? (i := 59) rfl)
theorem w60 {Z : State} {a0 : Array Value} (hw : ∀ d ∈ tables_1, d.before a0 Z = true) : (Jvm.Cond.instanceMethod ({ cls := "io/isoproof/check/polygraph/Digraph", name := "lastEdgeTo", desc := "(I)I" } : Jvm.MethodName)).before a0 Z = true := hw _ (List.mem_of_getElem? (i := 60) rfl)
theorem w61 {Z : State} {a0 : Array Value} (hw : ∀ d ∈ tables_1, d.before a0 Z = true) : (Jvm.Cond.selects "io/isoproof/check/polygraph/Digraph" ({ cls := "io/isoproof/check/polygraph/Digraph", name := "lastEdgeTo", desc := "(I)I" } : Jvm.MethodName) ({ cls := "io/isoproof/check/polygraph/Digraph", name := "lastEdgeTo", desc := "(I)I" } : Jvm.MethodName)).before a0 Z = true := hw _ (List.mem_of_getElem? (i := 61) rfl)
theorem w62 {Z : State} {a0 : Array Value} (hw : ∀ d ∈ tables_1, d.before a0 Z = true) : (Jvm.Cond.code ({ cls := "io/isoproof/check/polygraph/Digraph", name := "lastEdgeTo", desc := "(I)I" } : Jvm.MethodName) prog_28_method_9_code (2 : Nat) (Option.some Jvm.ClassFile.FieldType.int)).before a0 Z = true := hw _ (List.mem_of_getElem? (i := 62) rfl)
theorem w63 {Z : State} {a0 : Array Value} (hw : ∀ d ∈ tables_1, d.before a0 Z = true) : (Jvm.Cond.constant "io/isoproof/check/polygraph/DigraphKeepEdgesPinLaw" (7 : Nat) (2147483647 : Int32)).before a0 Z = true := hw _ (List.mem_of_getElem? (i := 63) rfl)
theorem pd0 : parseMethodDescriptor "([II)V" = some ⟨[(.array .int), .int], none⟩ := by decide +kernel
theorem pd1 : parseMethodDescriptor "(I)V" = some ⟨[.int], none⟩ := by decide +kernel
theorem pd2 : parseMethodDescriptor "(II)V" = some ⟨[.int, .int], none⟩ := by decide +kernel
theorem pd3 : parseMethodDescriptor "(II)I" = some ⟨[.int, .int], some .int⟩ := by decide +kernel
theorem pd4 : parseMethodDescriptor "()I" = some ⟨[], some .int⟩ := by decide +kernel
theorem pd5 : parseMethodDescriptor "(I)I" = some ⟨[.int], some .int⟩ := by decide +kernel
theorem pd6 : parseMethodDescriptor "(IIIII)I" = some ⟨[.int, .int, .int, .int, .int], some .int⟩ := by decide +kernel
theorem pn0 : plainName "java/util/Arrays" = true := by first | (simp [plainName, overriddenIn]; done) | decide +kernel
theorem pn1 : plainName "io/isoproof/check/polygraph/Digraph" = true := by first | (simp [plainName, overriddenIn]; done) | decide +kernel
theorem pn2 : plainName "io/isoproof/check/polygraph/DigraphKeepEdgesPinLaw" = true := by first | (simp [plainName, overriddenIn]; done) | decide +kernel
theorem d1_0 : decode prog_28_method_1_code 0 = .ok (.aload_n 0, 1) := by decide +kernel
theorem d1_1 : decode prog_28_method_1_code 1 = .ok (.invokespecial 1, 3) := by decide +kernel
theorem d1_4 : decode prog_28_method_1_code 4 = .ok (.aload_n 0, 1) := by decide +kernel
theorem d1_5 : decode prog_28_method_1_code 5 = .ok (.bipush 64, 2) := by decide +kernel
theorem d1_7 : decode prog_28_method_1_code 7 = .ok (.newarray .int, 2) := by decide +kernel
theorem d1_9 : decode prog_28_method_1_code 9 = .ok (.putfield 7, 3) := by decide +kernel
theorem d1_12 : decode prog_28_method_1_code 12 = .ok (.aload_n 0, 1) := by decide +kernel
theorem d1_13 : decode prog_28_method_1_code 13 = .ok (.bipush 64, 2) := by decide +kernel
theorem d1_15 : decode prog_28_method_1_code 15 = .ok (.newarray .int, 2) := by decide +kernel
theorem d1_17 : decode prog_28_method_1_code 17 = .ok (.putfield 13, 3) := by decide +kernel
theorem d1_20 : decode prog_28_method_1_code 20 = .ok (.aload_n 0, 1) := by decide +kernel
theorem d1_21 : decode prog_28_method_1_code 21 = .ok (.bipush 64, 2) := by decide +kernel
theorem d1_23 : decode prog_28_method_1_code 23 = .ok (.newarray .int, 2) := by decide +kernel
theorem d1_25 : decode prog_28_method_1_code 25 = .ok (.putfield 16, 3) := by decide +kernel
theorem d1_28 : decode prog_28_method_1_code 28 = .ok (.aload_n 0, 1) := by decide +kernel
theorem d1_29 : decode prog_28_method_1_code 29 = .ok (.bipush 64, 2) := by decide +kernel
theorem d1_31 : decode prog_28_method_1_code 31 = .ok (.newarray .int, 2) := by decide +kernel
theorem d1_33 : decode prog_28_method_1_code 33 = .ok (.putfield 19, 3) := by decide +kernel
theorem d1_36 : decode prog_28_method_1_code 36 = .ok (.aload_n 0, 1) := by decide +kernel
theorem d1_37 : decode prog_28_method_1_code 37 = .ok (.iload_n 1, 1) := by decide +kernel
theorem d1_38 : decode prog_28_method_1_code 38 = .ok (.putfield 22, 3) := by decide +kernel
theorem d1_41 : decode prog_28_method_1_code 41 = .ok (.aload_n 0, 1) := by decide +kernel
theorem d1_42 : decode prog_28_method_1_code 42 = .ok (.iload_n 1, 1) := by decide +kernel
theorem d1_43 : decode prog_28_method_1_code 43 = .ok (.newarray .int, 2) := by decide +kernel
theorem d1_45 : decode prog_28_method_1_code 45 = .ok (.putfield 26, 3) := by decide +kernel
theorem d1_48 : decode prog_28_method_1_code 48 = .ok (.aload_n 0, 1) := by decide +kernel
theorem d1_49 : decode prog_28_method_1_code 49 = .ok (.getfield 26, 3) := by decide +kernel
theorem d1_52 : decode prog_28_method_1_code 52 = .ok (.iconst (-1), 1) := by decide +kernel
theorem d1_53 : decode prog_28_method_1_code 53 = .ok (.invokestatic 29, 3) := by decide +kernel
theorem d1_56 : decode prog_28_method_1_code 56 = .ok (.aload_n 0, 1) := by decide +kernel
theorem d1_57 : decode prog_28_method_1_code 57 = .ok (.iload_n 1, 1) := by decide +kernel
theorem d1_58 : decode prog_28_method_1_code 58 = .ok (.newarray .int, 2) := by decide +kernel
theorem d1_60 : decode prog_28_method_1_code 60 = .ok (.putfield 35, 3) := by decide +kernel
theorem d1_63 : decode prog_28_method_1_code 63 = .ok (.aload_n 0, 1) := by decide +kernel
theorem d1_64 : decode prog_28_method_1_code 64 = .ok (.getfield 35, 3) := by decide +kernel
theorem d1_67 : decode prog_28_method_1_code 67 = .ok (.iconst (-1), 1) := by decide +kernel
theorem d1_68 : decode prog_28_method_1_code 68 = .ok (.invokestatic 29, 3) := by decide +kernel
theorem d1_71 : decode prog_28_method_1_code 71 = .ok (.return_, 1) := by decide +kernel
theorem d3_0 : decode jdk_65_method_103_code 0 = .ok (.iconst 0, 1) := by decide +kernel
theorem d3_1 : decode jdk_65_method_103_code 1 = .ok (.istore_n 2, 1) := by decide +kernel
theorem d3_2 : decode jdk_65_method_103_code 2 = .ok (.aload_n 0, 1) := by decide +kernel
theorem d3_3 : decode jdk_65_method_103_code 3 = .ok (.arraylength, 1) := by decide +kernel
theorem d3_4 : decode jdk_65_method_103_code 4 = .ok (.istore_n 3, 1) := by decide +kernel
theorem d3_5 : decode jdk_65_method_103_code 5 = .ok (.iload_n 2, 1) := by decide +kernel
theorem d3_6 : decode jdk_65_method_103_code 6 = .ok (.iload_n 3, 1) := by decide +kernel
theorem d3_7 : decode jdk_65_method_103_code 7 = .ok (.if_icmp .ge 13, 3) := by decide +kernel
theorem d3_10 : decode jdk_65_method_103_code 10 = .ok (.aload_n 0, 1) := by decide +kernel
theorem d3_11 : decode jdk_65_method_103_code 11 = .ok (.iload_n 2, 1) := by decide +kernel
theorem d3_12 : decode jdk_65_method_103_code 12 = .ok (.iload_n 1, 1) := by decide +kernel
theorem d3_13 : decode jdk_65_method_103_code 13 = .ok (.iastore, 1) := by decide +kernel
theorem d3_14 : decode jdk_65_method_103_code 14 = .ok (.iinc 2 1, 3) := by decide +kernel
theorem d3_17 : decode jdk_65_method_103_code 17 = .ok (.goto (-12), 3) := by decide +kernel
theorem d3_20 : decode jdk_65_method_103_code 20 = .ok (.return_, 1) := by decide +kernel
theorem d4_0 : decode prog_28_method_4_code 0 = .ok (.aload_n 0, 1) := by decide +kernel
theorem d4_1 : decode prog_28_method_4_code 1 = .ok (.getfield 38, 3) := by decide +kernel
theorem d4_4 : decode prog_28_method_4_code 4 = .ok (.aload_n 0, 1) := by decide +kernel
theorem d4_5 : decode prog_28_method_4_code 5 = .ok (.getfield 7, 3) := by decide +kernel
theorem d4_8 : decode prog_28_method_4_code 8 = .ok (.arraylength, 1) := by decide +kernel
theorem d4_9 : decode prog_28_method_4_code 9 = .ok (.if_icmp .ne 59, 3) := by decide +kernel
theorem d4_68 : decode prog_28_method_4_code 68 = .ok (.aload_n 0, 1) := by decide +kernel
theorem d4_69 : decode prog_28_method_4_code 69 = .ok (.getfield 7, 3) := by decide +kernel
theorem d4_72 : decode prog_28_method_4_code 72 = .ok (.aload_n 0, 1) := by decide +kernel
theorem d4_73 : decode prog_28_method_4_code 73 = .ok (.getfield 38, 3) := by decide +kernel
theorem d4_76 : decode prog_28_method_4_code 76 = .ok (.iload_n 1, 1) := by decide +kernel
theorem d4_77 : decode prog_28_method_4_code 77 = .ok (.iastore, 1) := by decide +kernel
theorem d4_78 : decode prog_28_method_4_code 78 = .ok (.aload_n 0, 1) := by decide +kernel
theorem d4_79 : decode prog_28_method_4_code 79 = .ok (.getfield 13, 3) := by decide +kernel
theorem d4_82 : decode prog_28_method_4_code 82 = .ok (.aload_n 0, 1) := by decide +kernel
theorem d4_83 : decode prog_28_method_4_code 83 = .ok (.getfield 38, 3) := by decide +kernel
theorem d4_86 : decode prog_28_method_4_code 86 = .ok (.iload_n 2, 1) := by decide +kernel
theorem d4_87 : decode prog_28_method_4_code 87 = .ok (.iastore, 1) := by decide +kernel
theorem d4_88 : decode prog_28_method_4_code 88 = .ok (.aload_n 0, 1) := by decide +kernel
theorem d4_89 : decode prog_28_method_4_code 89 = .ok (.getfield 16, 3) := by decide +kernel
theorem d4_92 : decode prog_28_method_4_code 92 = .ok (.aload_n 0, 1) := by decide +kernel
theorem d4_93 : decode prog_28_method_4_code 93 = .ok (.getfield 38, 3) := by decide +kernel
theorem d4_96 : decode prog_28_method_4_code 96 = .ok (.aload_n 0, 1) := by decide +kernel
theorem d4_97 : decode prog_28_method_4_code 97 = .ok (.getfield 26, 3) := by decide +kernel
theorem d4_100 : decode prog_28_method_4_code 100 = .ok (.iload_n 1, 1) := by decide +kernel
theorem d4_101 : decode prog_28_method_4_code 101 = .ok (.iaload, 1) := by decide +kernel
theorem d4_102 : decode prog_28_method_4_code 102 = .ok (.iastore, 1) := by decide +kernel
theorem d4_103 : decode prog_28_method_4_code 103 = .ok (.aload_n 0, 1) := by decide +kernel
theorem d4_104 : decode prog_28_method_4_code 104 = .ok (.getfield 19, 3) := by decide +kernel
theorem d4_107 : decode prog_28_method_4_code 107 = .ok (.aload_n 0, 1) := by decide +kernel
theorem d4_108 : decode prog_28_method_4_code 108 = .ok (.getfield 38, 3) := by decide +kernel
theorem d4_111 : decode prog_28_method_4_code 111 = .ok (.aload_n 0, 1) := by decide +kernel
theorem d4_112 : decode prog_28_method_4_code 112 = .ok (.getfield 35, 3) := by decide +kernel
theorem d4_115 : decode prog_28_method_4_code 115 = .ok (.iload_n 2, 1) := by decide +kernel
theorem d4_116 : decode prog_28_method_4_code 116 = .ok (.iaload, 1) := by decide +kernel
theorem d4_117 : decode prog_28_method_4_code 117 = .ok (.iastore, 1) := by decide +kernel
theorem d4_118 : decode prog_28_method_4_code 118 = .ok (.aload_n 0, 1) := by decide +kernel
theorem d4_119 : decode prog_28_method_4_code 119 = .ok (.getfield 26, 3) := by decide +kernel
theorem d4_122 : decode prog_28_method_4_code 122 = .ok (.iload_n 1, 1) := by decide +kernel
theorem d4_123 : decode prog_28_method_4_code 123 = .ok (.aload_n 0, 1) := by decide +kernel
theorem d4_124 : decode prog_28_method_4_code 124 = .ok (.getfield 38, 3) := by decide +kernel
theorem d4_127 : decode prog_28_method_4_code 127 = .ok (.iastore, 1) := by decide +kernel
theorem d4_128 : decode prog_28_method_4_code 128 = .ok (.aload_n 0, 1) := by decide +kernel
theorem d4_129 : decode prog_28_method_4_code 129 = .ok (.getfield 35, 3) := by decide +kernel
theorem d4_132 : decode prog_28_method_4_code 132 = .ok (.iload_n 2, 1) := by decide +kernel
theorem d4_133 : decode prog_28_method_4_code 133 = .ok (.aload_n 0, 1) := by decide +kernel
theorem d4_134 : decode prog_28_method_4_code 134 = .ok (.dup, 1) := by decide +kernel
theorem d4_135 : decode prog_28_method_4_code 135 = .ok (.getfield 38, 3) := by decide +kernel
theorem d4_138 : decode prog_28_method_4_code 138 = .ok (.dup_x1, 1) := by decide +kernel
theorem d4_139 : decode prog_28_method_4_code 139 = .ok (.iconst 1, 1) := by decide +kernel
theorem d4_140 : decode prog_28_method_4_code 140 = .ok (.iadd, 1) := by decide +kernel
theorem d4_141 : decode prog_28_method_4_code 141 = .ok (.putfield 38, 3) := by decide +kernel
theorem d4_144 : decode prog_28_method_4_code 144 = .ok (.iastore, 1) := by decide +kernel
theorem d4_145 : decode prog_28_method_4_code 145 = .ok (.return_, 1) := by decide +kernel
theorem d5_0 : decode prog_28_method_5_code 0 = .ok (.aload_n 0, 1) := by decide +kernel
theorem d5_1 : decode prog_28_method_5_code 1 = .ok (.getfield 38, 3) := by decide +kernel
theorem d5_4 : decode prog_28_method_5_code 4 = .ok (.iload_n 1, 1) := by decide +kernel
theorem d5_5 : decode prog_28_method_5_code 5 = .ok (.if_icmp .le 52, 3) := by decide +kernel
theorem d5_8 : decode prog_28_method_5_code 8 = .ok (.aload_n 0, 1) := by decide +kernel
theorem d5_9 : decode prog_28_method_5_code 9 = .ok (.dup, 1) := by decide +kernel
theorem d5_10 : decode prog_28_method_5_code 10 = .ok (.getfield 38, 3) := by decide +kernel
theorem d5_13 : decode prog_28_method_5_code 13 = .ok (.iconst 1, 1) := by decide +kernel
theorem d5_14 : decode prog_28_method_5_code 14 = .ok (.isub, 1) := by decide +kernel
theorem d5_15 : decode prog_28_method_5_code 15 = .ok (.dup_x1, 1) := by decide +kernel
theorem d5_16 : decode prog_28_method_5_code 16 = .ok (.putfield 38, 3) := by decide +kernel
theorem d5_19 : decode prog_28_method_5_code 19 = .ok (.istore_n 2, 1) := by decide +kernel
theorem d5_20 : decode prog_28_method_5_code 20 = .ok (.aload_n 0, 1) := by decide +kernel
theorem d5_21 : decode prog_28_method_5_code 21 = .ok (.getfield 26, 3) := by decide +kernel
theorem d5_24 : decode prog_28_method_5_code 24 = .ok (.aload_n 0, 1) := by decide +kernel
theorem d5_25 : decode prog_28_method_5_code 25 = .ok (.getfield 7, 3) := by decide +kernel
theorem d5_28 : decode prog_28_method_5_code 28 = .ok (.iload_n 2, 1) := by decide +kernel
theorem d5_29 : decode prog_28_method_5_code 29 = .ok (.iaload, 1) := by decide +kernel
theorem d5_30 : decode prog_28_method_5_code 30 = .ok (.aload_n 0, 1) := by decide +kernel
theorem d5_31 : decode prog_28_method_5_code 31 = .ok (.getfield 16, 3) := by decide +kernel
theorem d5_34 : decode prog_28_method_5_code 34 = .ok (.iload_n 2, 1) := by decide +kernel
theorem d5_35 : decode prog_28_method_5_code 35 = .ok (.iaload, 1) := by decide +kernel
theorem d5_36 : decode prog_28_method_5_code 36 = .ok (.iastore, 1) := by decide +kernel
theorem d5_37 : decode prog_28_method_5_code 37 = .ok (.aload_n 0, 1) := by decide +kernel
theorem d5_38 : decode prog_28_method_5_code 38 = .ok (.getfield 35, 3) := by decide +kernel
theorem d5_41 : decode prog_28_method_5_code 41 = .ok (.aload_n 0, 1) := by decide +kernel
theorem d5_42 : decode prog_28_method_5_code 42 = .ok (.getfield 13, 3) := by decide +kernel
theorem d5_45 : decode prog_28_method_5_code 45 = .ok (.iload_n 2, 1) := by decide +kernel
theorem d5_46 : decode prog_28_method_5_code 46 = .ok (.iaload, 1) := by decide +kernel
theorem d5_47 : decode prog_28_method_5_code 47 = .ok (.aload_n 0, 1) := by decide +kernel
theorem d5_48 : decode prog_28_method_5_code 48 = .ok (.getfield 19, 3) := by decide +kernel
theorem d5_51 : decode prog_28_method_5_code 51 = .ok (.iload_n 2, 1) := by decide +kernel
theorem d5_52 : decode prog_28_method_5_code 52 = .ok (.iaload, 1) := by decide +kernel
theorem d5_53 : decode prog_28_method_5_code 53 = .ok (.iastore, 1) := by decide +kernel
theorem d5_54 : decode prog_28_method_5_code 54 = .ok (.goto (-54), 3) := by decide +kernel
theorem d5_57 : decode prog_28_method_5_code 57 = .ok (.return_, 1) := by decide +kernel
theorem d6_0 : decode jdk_29_method_69_code 0 = .ok (.iload_n 0, 1) := by decide +kernel
theorem d6_1 : decode jdk_29_method_69_code 1 = .ok (.iload_n 1, 1) := by decide +kernel
theorem d6_2 : decode jdk_29_method_69_code 2 = .ok (.if_icmp .gt 7, 3) := by decide +kernel
theorem d6_5 : decode jdk_29_method_69_code 5 = .ok (.iload_n 0, 1) := by decide +kernel
theorem d6_6 : decode jdk_29_method_69_code 6 = .ok (.goto 4, 3) := by decide +kernel
theorem d6_9 : decode jdk_29_method_69_code 9 = .ok (.iload_n 1, 1) := by decide +kernel
theorem d6_10 : decode jdk_29_method_69_code 10 = .ok (.ireturn, 1) := by decide +kernel
theorem d7_0 : decode prog_28_method_3_code 0 = .ok (.aload_n 0, 1) := by decide +kernel
theorem d7_1 : decode prog_28_method_3_code 1 = .ok (.getfield 38, 3) := by decide +kernel
theorem d7_4 : decode prog_28_method_3_code 4 = .ok (.ireturn, 1) := by decide +kernel
theorem d8_0 : decode prog_28_method_6_code 0 = .ok (.aload_n 0, 1) := by decide +kernel
theorem d8_1 : decode prog_28_method_6_code 1 = .ok (.getfield 26, 3) := by decide +kernel
theorem d8_4 : decode prog_28_method_6_code 4 = .ok (.iload_n 1, 1) := by decide +kernel
theorem d8_5 : decode prog_28_method_6_code 5 = .ok (.iaload, 1) := by decide +kernel
theorem d8_6 : decode prog_28_method_6_code 6 = .ok (.ireturn, 1) := by decide +kernel
theorem d9_0 : decode method_2_code 0 = .ok (.iload_n 1, 1) := by decide +kernel
theorem d9_1 : decode method_2_code 1 = .ok (.iconst 2, 1) := by decide +kernel
theorem d9_2 : decode method_2_code 2 = .ok (.if_icmp .le 11, 3) := by decide +kernel
theorem d9_5 : decode method_2_code 5 = .ok (.iload 4, 2) := by decide +kernel
theorem d9_7 : decode method_2_code 7 = .ok (.iload_n 0, 1) := by decide +kernel
theorem d9_8 : decode method_2_code 8 = .ok (.if_icmp .ne 5, 3) := by decide +kernel
theorem d9_11 : decode method_2_code 11 = .ok (.iconst 2, 1) := by decide +kernel
theorem d9_12 : decode method_2_code 12 = .ok (.ireturn, 1) := by decide +kernel
theorem d9_13 : decode method_2_code 13 = .ok (.iload_n 1, 1) := by decide +kernel
theorem d9_14 : decode method_2_code 14 = .ok (.iconst 1, 1) := by decide +kernel
theorem d9_15 : decode method_2_code 15 = .ok (.if_icmp .le 10, 3) := by decide +kernel
theorem d9_18 : decode method_2_code 18 = .ok (.iload_n 3, 1) := by decide +kernel
theorem d9_19 : decode method_2_code 19 = .ok (.iload_n 0, 1) := by decide +kernel
theorem d9_20 : decode method_2_code 20 = .ok (.if_icmp .ne 5, 3) := by decide +kernel
theorem d9_23 : decode method_2_code 23 = .ok (.iconst 1, 1) := by decide +kernel
theorem d9_24 : decode method_2_code 24 = .ok (.ireturn, 1) := by decide +kernel
theorem d9_25 : decode method_2_code 25 = .ok (.iload_n 1, 1) := by decide +kernel
theorem d9_26 : decode method_2_code 26 = .ok (.ifCond .le 10, 3) := by decide +kernel
theorem d9_29 : decode method_2_code 29 = .ok (.iload_n 2, 1) := by decide +kernel
theorem d9_30 : decode method_2_code 30 = .ok (.iload_n 0, 1) := by decide +kernel
theorem d9_31 : decode method_2_code 31 = .ok (.if_icmp .ne 5, 3) := by decide +kernel
theorem d9_34 : decode method_2_code 34 = .ok (.iconst 0, 1) := by decide +kernel
theorem d9_35 : decode method_2_code 35 = .ok (.ireturn, 1) := by decide +kernel
theorem d9_36 : decode method_2_code 36 = .ok (.iconst (-1), 1) := by decide +kernel
theorem d9_37 : decode method_2_code 37 = .ok (.ireturn, 1) := by decide +kernel
theorem d10_0 : decode prog_28_method_9_code 0 = .ok (.aload_n 0, 1) := by decide +kernel
theorem d10_1 : decode prog_28_method_9_code 1 = .ok (.getfield 35, 3) := by decide +kernel
theorem d10_4 : decode prog_28_method_9_code 4 = .ok (.iload_n 1, 1) := by decide +kernel
theorem d10_5 : decode prog_28_method_9_code 5 = .ok (.iaload, 1) := by decide +kernel
theorem d10_6 : decode prog_28_method_9_code 6 = .ok (.ireturn, 1) := by decide +kernel
theorem ef_rm_fill (m : MethodId) (x0 : Addr) (x1 : Int32) : entryFrame m #[(.ref x0), (.int x1)] 4 = mkF m 0 #[.val (.ref x0), .val (.int x1), .unset, .unset] [] := by first | (simp [entryFrame, mkF, argsToLocals, Value.category]; done) | rfl
set_option maxRecDepth 65536 in
set_option maxHeartbeats 40000000 in
theorem rm_fill (l : Launch) (Z : State) (a0 : Array Value) (hw : ∀ d ∈ tables_1, d.before a0 Z = true) (t : Addr) (x y vv : Int32) (h0 : Heap) (n0 : Nat) (Z0 : n0 ≤ h0.size) (A_t : Ai Z h0 t .int [x, y]) (g_t : n0 ≤ t) :
    Con l Z (⟨"java/util/Arrays", "fill", "([II)V"⟩ : MethodName) jdk_65_method_103_code 4 none [] ({ frames := 0, cells := 0, slots := 0, locals := 0 } : Room) #[(.ref t), (.int vv)] h0 (fun v h L => v = none ∧ Fr n0 L ∧ Keep h0 h [t] ∧ Ai Z h t .int [vv, vv]) := by
  refine Con.mk (plainFor_of_name pn0) ?_
  intro p e s m below meth c T0 hx hby hml hown hnm hret hlk hZ X0 e0
  have hown : s.vm.findClass "java/util/Arrays" = some m.cls := hown
  have hnm : meth.name = "fill" := hnm
  have N0 := Fr.nil n0
  have K0 := Keep.refl h0 [t]
  refine Go.cast (ef_rm_fill m t vv) ?_
  refine Go.st (S' := T0.setTop (mkF m 1 #[.val (.ref t), .val (.int vv), .unset, .unset] [(.int (0 : Int32))])) (fun _ k_ => XS.iconst X0.here hx rfl (hb hby d3_0) k_) ?_
  refine Go.st (S' := T0.setTop (mkF m 2 #[.val (.ref t), .val (.int vv), .val (.int (0 : Int32)), .unset] [])) (fun _ k_ => XS.istoreN X0.here hx rfl (hb hby d3_1) rfl (l' := #[.val (.ref t), .val (.int vv), .val (.int (0 : Int32)), .unset]) rfl k_) ?_
  refine Go.st (S' := T0.setTop (mkF m 3 #[.val (.ref t), .val (.int vv), .val (.int (0 : Int32)), .unset] [(.ref t)])) (fun _ k_ => XS.aloadN X0.here hx rfl (hb hby d3_2) rfl rfl k_) ?_
  refine Go.st (S' := T0.setTop (mkF m 4 #[.val (.ref t), .val (.int vv), .val (.int (0 : Int32)), .unset] [(.int (2 : Int32))])) (A_t.length X0 hx hZ e0 (n := (2 : Int32)) rfl (g := (mkF m 3 #[.val (.ref t), .val (.int vv), .val (.int (0 : Int32)), .unset] [(.ref t)])) rfl rfl (hb hby d3_3)) ?_
  refine Go.st (S' := T0.setTop (mkF m 5 #[.val (.ref t), .val (.int vv), .val (.int (0 : Int32)), .val (.int (2 : Int32))] [])) (fun _ k_ => XS.istoreN X0.here hx rfl (hb hby d3_4) rfl (l' := #[.val (.ref t), .val (.int vv), .val (.int (0 : Int32)), .val (.int (2 : Int32))]) rfl k_) ?_
  refine Go.st (S' := T0.setTop (mkF m 6 #[.val (.ref t), .val (.int vv), .val (.int (0 : Int32)), .val (.int (2 : Int32))] [(.int (0 : Int32))])) (fun _ k_ => XS.iloadN X0.here hx rfl (hb hby d3_5) rfl k_) ?_
  refine Go.st (S' := T0.setTop (mkF m 7 #[.val (.ref t), .val (.int vv), .val (.int (0 : Int32)), .val (.int (2 : Int32))] [(.int (2 : Int32)), (.int (0 : Int32))])) (fun _ k_ => XS.iloadN X0.here hx rfl (hb hby d3_6) rfl k_) ?_
  refine Go.st (S' := T0.setTop (mkF m 10 #[.val (.ref t), .val (.int vv), .val (.int (0 : Int32)), .val (.int (2 : Int32))] [])) (fun _ k_ => XS.icmpNo X0.here hx rfl (hb hby d3_7) rfl (tlt (by decide)).2.1 k_) ?_
  refine Go.st (S' := T0.setTop (mkF m 11 #[.val (.ref t), .val (.int vv), .val (.int (0 : Int32)), .val (.int (2 : Int32))] [(.ref t)])) (fun _ k_ => XS.aloadN X0.here hx rfl (hb hby d3_10) rfl rfl k_) ?_
  refine Go.st (S' := T0.setTop (mkF m 12 #[.val (.ref t), .val (.int vv), .val (.int (0 : Int32)), .val (.int (2 : Int32))] [(.int (0 : Int32)), (.ref t)])) (fun _ k_ => XS.iloadN X0.here hx rfl (hb hby d3_11) rfl k_) ?_
  refine Go.st (S' := T0.setTop (mkF m 13 #[.val (.ref t), .val (.int vv), .val (.int (0 : Int32)), .val (.int (2 : Int32))] [(.int vv), (.int (0 : Int32)), (.ref t)])) (fun _ k_ => XS.iloadN X0.here hx rfl (hb hby d3_12) rfl k_) ?_
  obtain ⟨T11, h11, X11, e11, W11, A11, st11⟩ := A_t.store X0 hx hZ e0 (j := (0 : Int32)) (by decide) (Nat.le_of_ble_eq_true rfl) (g := (mkF m 13 #[.val (.ref t), .val (.int vv), .val (.int (0 : Int32)), .val (.int (2 : Int32))] [(.int vv), (.int (0 : Int32)), (.ref t)])) rfl rfl (hb hby d3_13)
  replace A_t : Ai Z h11 t .int [vv, y] := A11
  replace Z0 := Nat.le_trans Z0 (Keep.of_wr W11).1
  replace K0 := K0.wr W11 (Or.inl (by simp))
  have N11 := Fr.snoc X11 N0 g_t
  refine Go.st (S' := T11.setTop (mkF m 14 #[.val (.ref t), .val (.int vv), .val (.int (0 : Int32)), .val (.int (2 : Int32))] [])) (st11) ?_
  refine Go.st (S' := T11.setTop (mkF m 17 #[.val (.ref t), .val (.int vv), .val (.int ((0 : Int32) + (1 : Int32))), .val (.int (2 : Int32))] [])) (fun _ k_ => XS.iinc X11.here hx rfl (hb hby d3_14) rfl (l' := #[.val (.ref t), .val (.int vv), .val (.int ((0 : Int32) + (1 : Int32))), .val (.int (2 : Int32))]) rfl k_) ?_
  rw [show ((0 : Int32) + (1 : Int32)) = (1 : Int32) from rfl]
  refine Go.st (S' := T11.setTop (mkF m 5 #[.val (.ref t), .val (.int vv), .val (.int (1 : Int32)), .val (.int (2 : Int32))] [])) (fun _ k_ => XS.goto X11.here hx rfl (pc0 := 17) (pc' := 5) rfl (hb hby d3_17) (by decide) (by decide) k_) ?_
  refine Go.st (S' := T11.setTop (mkF m 6 #[.val (.ref t), .val (.int vv), .val (.int (1 : Int32)), .val (.int (2 : Int32))] [(.int (1 : Int32))])) (fun _ k_ => XS.iloadN X11.here hx rfl (hb hby d3_5) rfl k_) ?_
  refine Go.st (S' := T11.setTop (mkF m 7 #[.val (.ref t), .val (.int vv), .val (.int (1 : Int32)), .val (.int (2 : Int32))] [(.int (2 : Int32)), (.int (1 : Int32))])) (fun _ k_ => XS.iloadN X11.here hx rfl (hb hby d3_6) rfl k_) ?_
  refine Go.st (S' := T11.setTop (mkF m 10 #[.val (.ref t), .val (.int vv), .val (.int (1 : Int32)), .val (.int (2 : Int32))] [])) (fun _ k_ => XS.icmpNo X11.here hx rfl (hb hby d3_7) rfl (tlt (by decide)).2.1 k_) ?_
  refine Go.st (S' := T11.setTop (mkF m 11 #[.val (.ref t), .val (.int vv), .val (.int (1 : Int32)), .val (.int (2 : Int32))] [(.ref t)])) (fun _ k_ => XS.aloadN X11.here hx rfl (hb hby d3_10) rfl rfl k_) ?_
  refine Go.st (S' := T11.setTop (mkF m 12 #[.val (.ref t), .val (.int vv), .val (.int (1 : Int32)), .val (.int (2 : Int32))] [(.int (1 : Int32)), (.ref t)])) (fun _ k_ => XS.iloadN X11.here hx rfl (hb hby d3_11) rfl k_) ?_
  refine Go.st (S' := T11.setTop (mkF m 13 #[.val (.ref t), .val (.int vv), .val (.int (1 : Int32)), .val (.int (2 : Int32))] [(.int vv), (.int (1 : Int32)), (.ref t)])) (fun _ k_ => XS.iloadN X11.here hx rfl (hb hby d3_12) rfl k_) ?_
  obtain ⟨T12, h12, X12, e12, W12, A12, st12⟩ := A_t.store X11 hx hZ e11 (j := (1 : Int32)) (by decide) (Nat.le_of_ble_eq_true rfl) (g := (mkF m 13 #[.val (.ref t), .val (.int vv), .val (.int (1 : Int32)), .val (.int (2 : Int32))] [(.int vv), (.int (1 : Int32)), (.ref t)])) rfl rfl (hb hby d3_13)
  replace A_t : Ai Z h12 t .int [vv, vv] := A12
  replace Z0 := Nat.le_trans Z0 (Keep.of_wr W12).1
  replace K0 := K0.wr W12 (Or.inl (by simp))
  have N12 := Fr.snoc X12 N11 g_t
  refine Go.st (S' := T12.setTop (mkF m 14 #[.val (.ref t), .val (.int vv), .val (.int (1 : Int32)), .val (.int (2 : Int32))] [])) (st12) ?_
  refine Go.st (S' := T12.setTop (mkF m 17 #[.val (.ref t), .val (.int vv), .val (.int ((1 : Int32) + (1 : Int32))), .val (.int (2 : Int32))] [])) (fun _ k_ => XS.iinc X12.here hx rfl (hb hby d3_14) rfl (l' := #[.val (.ref t), .val (.int vv), .val (.int ((1 : Int32) + (1 : Int32))), .val (.int (2 : Int32))]) rfl k_) ?_
  rw [show ((1 : Int32) + (1 : Int32)) = (2 : Int32) from rfl]
  refine Go.st (S' := T12.setTop (mkF m 5 #[.val (.ref t), .val (.int vv), .val (.int (2 : Int32)), .val (.int (2 : Int32))] [])) (fun _ k_ => XS.goto X12.here hx rfl (pc0 := 17) (pc' := 5) rfl (hb hby d3_17) (by decide) (by decide) k_) ?_
  refine Go.st (S' := T12.setTop (mkF m 6 #[.val (.ref t), .val (.int vv), .val (.int (2 : Int32)), .val (.int (2 : Int32))] [(.int (2 : Int32))])) (fun _ k_ => XS.iloadN X12.here hx rfl (hb hby d3_5) rfl k_) ?_
  refine Go.st (S' := T12.setTop (mkF m 7 #[.val (.ref t), .val (.int vv), .val (.int (2 : Int32)), .val (.int (2 : Int32))] [(.int (2 : Int32)), (.int (2 : Int32))])) (fun _ k_ => XS.iloadN X12.here hx rfl (hb hby d3_6) rfl k_) ?_
  refine Go.st (S' := T12.setTop (mkF m 20 #[.val (.ref t), .val (.int vv), .val (.int (2 : Int32)), .val (.int (2 : Int32))] [])) (fun _ k_ => XS.icmpYes X12.here hx rfl (pc0 := 7) (pc' := 20) rfl (hb hby d3_7) rfl (flt (by decide)).2.1 (by decide) (by decide) k_) ?_
  exact Go.retV X12 hx hret hlk (hb hby d3_20) (by decide) (by decide) (by rw [e12]; exact ⟨rfl, N12, K0, A_t⟩)
theorem ef_dg_init (m : MethodId) (x0 : Addr) (x1 : Int32) : entryFrame m #[(.ref x0), (.int x1)] 2 = mkF m 0 #[.val (.ref x0), .val (.int x1)] [] := by first | (simp [entryFrame, mkF, argsToLocals, Value.category]; done) | rfl
set_option maxRecDepth 65536 in
set_option maxHeartbeats 40000000 in
theorem dg_init (l : Launch) (Z : State) (a0 : Array Value) (hw : ∀ d ∈ tables_1, d.before a0 Z = true) (a : Addr) (h0 : Heap) (n0 : Nat) (Z0 : n0 ≤ h0.size) (E_a : Exa Z h0 a "io/isoproof/check/polygraph/Digraph") (F_edgeCount_a : Fld Z h0 a "io/isoproof/check/polygraph/Digraph" "edgeCount" "I" (.int 0)) (F_nodes_a : Fld Z h0 a "io/isoproof/check/polygraph/Digraph" "nodes" "I" (.int 0)) (F_sources_a : Fld Z h0 a "io/isoproof/check/polygraph/Digraph" "sources" "[I" .null) (F_targets_a : Fld Z h0 a "io/isoproof/check/polygraph/Digraph" "targets" "[I" .null) (F_edgesBefore_a : Fld Z h0 a "io/isoproof/check/polygraph/Digraph" "edgesBefore" "[I" .null) (F_edgesBeforeTo_a : Fld Z h0 a "io/isoproof/check/polygraph/Digraph" "edgesBeforeTo" "[I" .null) (F_lastEdgeFrom_a : Fld Z h0 a "io/isoproof/check/polygraph/Digraph" "lastEdgeFrom" "[I" .null) (F_lastEdgeTo_a : Fld Z h0 a "io/isoproof/check/polygraph/Digraph" "lastEdgeTo" "[I" .null) (g_a : n0 ≤ a) :
    Con l Z (⟨"io/isoproof/check/polygraph/Digraph", "<init>", "(I)V"⟩ : MethodName) prog_28_method_1_code 2 none [] ({ frames := 1, cells := 6, slots := 260, locals := 30 } : Room) #[(.ref a), (.int (2 : Int32))] h0 (fun v h L => v = none ∧ Fr n0 L ∧ Keep h0 h [a] ∧ ∃ sr tg eb et lf lt, own_dis n0 a sr tg eb et lf lt ∧ DG Z h a sr tg eb et lf lt 0 (List.replicate 64 0) (List.replicate 64 0) (List.replicate 64 0) (List.replicate 64 0) [-1, -1] [-1, -1]) := by
  refine Con.mk (plainFor_of_name pn1) ?_
  intro p e s m below meth c T0 hx hby hml hown hnm hret hlk hZ X0 e0
  have hown : s.vm.findClass "io/isoproof/check/polygraph/Digraph" = some m.cls := hown
  have hnm : meth.name = "<init>" := hnm
  have N0 := Fr.nil n0
  have K0 := Keep.refl h0 [a]
  refine Go.cast (ef_dg_init m a (2 : Int32)) ?_
  refine Go.st (S' := T0.setTop (mkF m 1 #[.val (.ref a), .val (.int (2 : Int32))] [(.ref a)])) (fun _ k_ => XS.aloadN X0.here hx rfl (hb hby d1_0) rfl rfl k_) ?_
  obtain ⟨T11, X11, e11, st11⟩ := initO X0 hx hZ hown (w6 hw) (w7 hw) (w8 hw) e0 (g := (mkF m 1 #[.val (.ref a), .val (.int (2 : Int32))] [(.ref a)])) rfl (by rw [hml]; rfl) rfl (hb hby d1_1) (by decide) (W := 0) (by show 2 * 0 + _ ≤ _; exact Nat.le_of_eq rfl) (by decide)
  refine Go.st (S' := T11.setTop (mkF m 4 #[.val (.ref a), .val (.int (2 : Int32))] [])) (st11) ?_
  refine Go.st (S' := T11.setTop (mkF m 5 #[.val (.ref a), .val (.int (2 : Int32))] [(.ref a)])) (fun _ k_ => XS.aloadN X11.here hx rfl (hb hby d1_4) rfl rfl k_) ?_
  refine Go.st (S' := T11.setTop (mkF m 7 #[.val (.ref a), .val (.int (2 : Int32))] [(.int (64 : Int32)), (.ref a)])) (fun _ k_ => XS.bipush X11.here hx rfl (hb hby d1_5) k_) ?_
  obtain ⟨T12, h12, b12, X12, e12, q12, E12, A12, st12⟩ := Ai.new X11 hx hZ (aty := .int) (w9 hw) rfl e11 (n := (64 : Int32)) (by decide) 64 (by decide) (by decide) (by decide) (by decide) (g := (mkF m 7 #[.val (.ref a), .val (.int (2 : Int32))] [(.int (64 : Int32)), (.ref a)])) rfl rfl (hb hby d1_7)
  have ne_a_b12 : a ≠ b12 := Nat.ne_of_lt (Nat.lt_of_lt_of_le E_a.lt (Nat.le_of_eq q12.symm))
  have g_b12 : n0 ≤ b12 := Nat.le_trans Z0 (Nat.le_of_eq q12.symm)
  have sz_b12 : h0.size ≤ b12 := Nat.le_trans K0.1 (Nat.le_of_eq q12.symm)
  replace E_a := E_a.ext E12
  replace F_edgeCount_a := F_edgeCount_a.ext E12
  replace F_nodes_a := F_nodes_a.ext E12
  replace F_sources_a := F_sources_a.ext E12
  replace F_targets_a := F_targets_a.ext E12
  replace F_edgesBefore_a := F_edgesBefore_a.ext E12
  replace F_edgesBeforeTo_a := F_edgesBeforeTo_a.ext E12
  replace F_lastEdgeFrom_a := F_lastEdgeFrom_a.ext E12
  replace F_lastEdgeTo_a := F_lastEdgeTo_a.ext E12
  replace Z0 := Nat.le_trans Z0 E12.1
  replace K0 := K0.ext E12
  have A_b12 : Ai Z h12 b12 .int [(0 : Int32), (0 : Int32), (0 : Int32), (0 : Int32), (0 : Int32), (0 : Int32), (0 : Int32), (0 : Int32), (0 : Int32), (0 : Int32), (0 : Int32), (0 : Int32), (0 : Int32), (0 : Int32), (0 : Int32), (0 : Int32), (0 : Int32), (0 : Int32), (0 : Int32), (0 : Int32), (0 : Int32), (0 : Int32), (0 : Int32), (0 : Int32), (0 : Int32), (0 : Int32), (0 : Int32), (0 : Int32), (0 : Int32), (0 : Int32), (0 : Int32), (0 : Int32), (0 : Int32), (0 : Int32), (0 : Int32), (0 : Int32), (0 : Int32), (0 : Int32), (0 : Int32), (0 : Int32), (0 : Int32), (0 : Int32), (0 : Int32), (0 : Int32), (0 : Int32), (0 : Int32), (0 : Int32), (0 : Int32), (0 : Int32), (0 : Int32), (0 : Int32), (0 : Int32), (0 : Int32), (0 : Int32), (0 : Int32), (0 : Int32), (0 : Int32), (0 : Int32), (0 : Int32), (0 : Int32), (0 : Int32), (0 : Int32), (0 : Int32), (0 : Int32)] := A12
  refine Go.st (S' := T12.setTop (mkF m 9 #[.val (.ref a), .val (.int (2 : Int32))] [(.ref b12), (.ref a)])) (st12) ?_
  obtain ⟨T13, h13, X13, e13, W13, st13⟩ := putF X12 hx hZ hown (host := "") (Or.inl (w10 hw)) Via.refl e12 F_sources_a E_a (Or.inl (w11 hw)) (w1 hw) (ty := (.array .int)) (by decide) rfl rfl (g := (mkF m 9 #[.val (.ref a), .val (.int (2 : Int32))] [(.ref b12), (.ref a)])) rfl rfl (hb hby d1_9)
  replace F_sources_a := F_sources_a.same W13
  replace E_a := E_a.wr W13
  replace F_edgeCount_a := F_edgeCount_a.other W13 (Or.inr (slot_ne (Or.inl (w34 hw)) (Or.inl (w11 hw)) (by decide) (t := .int) (t' := (.array .int)) (by decide) (by decide)))
  replace F_nodes_a := F_nodes_a.other W13 (Or.inr (slot_ne (Or.inr (w19 hw)) (Or.inl (w11 hw)) (by decide) (t := .int) (t' := (.array .int)) (by decide) (by decide)))
  replace F_targets_a := F_targets_a.other W13 (Or.inr (slot_ne (Or.inl (w13 hw)) (Or.inl (w11 hw)) (by decide) (t := (.array .int)) (t' := (.array .int)) (by decide) (by decide)))
  replace F_edgesBefore_a := F_edgesBefore_a.other W13 (Or.inr (slot_ne (Or.inl (w15 hw)) (Or.inl (w11 hw)) (by decide) (t := (.array .int)) (t' := (.array .int)) (by decide) (by decide)))
  replace F_edgesBeforeTo_a := F_edgesBeforeTo_a.other W13 (Or.inr (slot_ne (Or.inl (w17 hw)) (Or.inl (w11 hw)) (by decide) (t := (.array .int)) (t' := (.array .int)) (by decide) (by decide)))
  replace F_lastEdgeFrom_a := F_lastEdgeFrom_a.other W13 (Or.inr (slot_ne (Or.inr (w21 hw)) (Or.inl (w11 hw)) (by decide) (t := (.array .int)) (t' := (.array .int)) (by decide) (by decide)))
  replace F_lastEdgeTo_a := F_lastEdgeTo_a.other W13 (Or.inr (slot_ne (Or.inr (w27 hw)) (Or.inl (w11 hw)) (by decide) (t := (.array .int)) (t' := (.array .int)) (by decide) (by decide)))
  replace A_b12 := A_b12.other W13 (Ne.symm ne_a_b12)
  replace Z0 := Nat.le_trans Z0 (Keep.of_wr W13).1
  replace K0 := K0.wr W13 (Or.inl (by simp))
  have N13 := Fr.snoc X13 N0 g_a
  refine Go.st (S' := T13.setTop (mkF m 12 #[.val (.ref a), .val (.int (2 : Int32))] [])) (st13) ?_
  refine Go.st (S' := T13.setTop (mkF m 13 #[.val (.ref a), .val (.int (2 : Int32))] [(.ref a)])) (fun _ k_ => XS.aloadN X13.here hx rfl (hb hby d1_12) rfl rfl k_) ?_
  refine Go.st (S' := T13.setTop (mkF m 15 #[.val (.ref a), .val (.int (2 : Int32))] [(.int (64 : Int32)), (.ref a)])) (fun _ k_ => XS.bipush X13.here hx rfl (hb hby d1_13) k_) ?_
  obtain ⟨T14, h14, b14, X14, e14, q14, E14, A14, st14⟩ := Ai.new X13 hx hZ (aty := .int) (w9 hw) rfl e13 (n := (64 : Int32)) (by decide) 64 (by decide) (by decide) (by decide) (by decide) (g := (mkF m 15 #[.val (.ref a), .val (.int (2 : Int32))] [(.int (64 : Int32)), (.ref a)])) rfl rfl (hb hby d1_15)
  have ne_a_b14 : a ≠ b14 := Nat.ne_of_lt (Nat.lt_of_lt_of_le E_a.lt (Nat.le_of_eq q14.symm))
  have ne_b12_b14 : b12 ≠ b14 := Nat.ne_of_lt (Nat.lt_of_lt_of_le A_b12.lt (Nat.le_of_eq q14.symm))
  have g_b14 : n0 ≤ b14 := Nat.le_trans Z0 (Nat.le_of_eq q14.symm)
  have sz_b14 : h0.size ≤ b14 := Nat.le_trans K0.1 (Nat.le_of_eq q14.symm)
  replace E_a := E_a.ext E14
  replace F_edgeCount_a := F_edgeCount_a.ext E14
  replace F_nodes_a := F_nodes_a.ext E14
  replace F_sources_a := F_sources_a.ext E14
  replace F_targets_a := F_targets_a.ext E14
  replace F_edgesBefore_a := F_edgesBefore_a.ext E14
  replace F_edgesBeforeTo_a := F_edgesBeforeTo_a.ext E14
  replace F_lastEdgeFrom_a := F_lastEdgeFrom_a.ext E14
  replace F_lastEdgeTo_a := F_lastEdgeTo_a.ext E14
  replace A_b12 := A_b12.ext E14
  replace Z0 := Nat.le_trans Z0 E14.1
  replace K0 := K0.ext E14
  have A_b14 : Ai Z h14 b14 .int [(0 : Int32), (0 : Int32), (0 : Int32), (0 : Int32), (0 : Int32), (0 : Int32), (0 : Int32), (0 : Int32), (0 : Int32), (0 : Int32), (0 : Int32), (0 : Int32), (0 : Int32), (0 : Int32), (0 : Int32), (0 : Int32), (0 : Int32), (0 : Int32), (0 : Int32), (0 : Int32), (0 : Int32), (0 : Int32), (0 : Int32), (0 : Int32), (0 : Int32), (0 : Int32), (0 : Int32), (0 : Int32), (0 : Int32), (0 : Int32), (0 : Int32), (0 : Int32), (0 : Int32), (0 : Int32), (0 : Int32), (0 : Int32), (0 : Int32), (0 : Int32), (0 : Int32), (0 : Int32), (0 : Int32), (0 : Int32), (0 : Int32), (0 : Int32), (0 : Int32), (0 : Int32), (0 : Int32), (0 : Int32), (0 : Int32), (0 : Int32), (0 : Int32), (0 : Int32), (0 : Int32), (0 : Int32), (0 : Int32), (0 : Int32), (0 : Int32), (0 : Int32), (0 : Int32), (0 : Int32), (0 : Int32), (0 : Int32), (0 : Int32), (0 : Int32)] := A14
  refine Go.st (S' := T14.setTop (mkF m 17 #[.val (.ref a), .val (.int (2 : Int32))] [(.ref b14), (.ref a)])) (st14) ?_
  obtain ⟨T15, h15, X15, e15, W15, st15⟩ := putF X14 hx hZ hown (host := "") (Or.inl (w12 hw)) Via.refl e14 F_targets_a E_a (Or.inl (w13 hw)) (w1 hw) (ty := (.array .int)) (by decide) rfl rfl (g := (mkF m 17 #[.val (.ref a), .val (.int (2 : Int32))] [(.ref b14), (.ref a)])) rfl rfl (hb hby d1_17)
  replace F_targets_a := F_targets_a.same W15
  replace E_a := E_a.wr W15
  replace F_edgeCount_a := F_edgeCount_a.other W15 (Or.inr (slot_ne (Or.inl (w34 hw)) (Or.inl (w13 hw)) (by decide) (t := .int) (t' := (.array .int)) (by decide) (by decide)))
  replace F_nodes_a := F_nodes_a.other W15 (Or.inr (slot_ne (Or.inr (w19 hw)) (Or.inl (w13 hw)) (by decide) (t := .int) (t' := (.array .int)) (by decide) (by decide)))
  replace F_sources_a := F_sources_a.other W15 (Or.inr (slot_ne (Or.inl (w11 hw)) (Or.inl (w13 hw)) (by decide) (t := (.array .int)) (t' := (.array .int)) (by decide) (by decide)))
  replace F_edgesBefore_a := F_edgesBefore_a.other W15 (Or.inr (slot_ne (Or.inl (w15 hw)) (Or.inl (w13 hw)) (by decide) (t := (.array .int)) (t' := (.array .int)) (by decide) (by decide)))
  replace F_edgesBeforeTo_a := F_edgesBeforeTo_a.other W15 (Or.inr (slot_ne (Or.inl (w17 hw)) (Or.inl (w13 hw)) (by decide) (t := (.array .int)) (t' := (.array .int)) (by decide) (by decide)))
  replace F_lastEdgeFrom_a := F_lastEdgeFrom_a.other W15 (Or.inr (slot_ne (Or.inr (w21 hw)) (Or.inl (w13 hw)) (by decide) (t := (.array .int)) (t' := (.array .int)) (by decide) (by decide)))
  replace F_lastEdgeTo_a := F_lastEdgeTo_a.other W15 (Or.inr (slot_ne (Or.inr (w27 hw)) (Or.inl (w13 hw)) (by decide) (t := (.array .int)) (t' := (.array .int)) (by decide) (by decide)))
  replace A_b12 := A_b12.other W15 (Ne.symm ne_a_b12)
  replace A_b14 := A_b14.other W15 (Ne.symm ne_a_b14)
  replace Z0 := Nat.le_trans Z0 (Keep.of_wr W15).1
  replace K0 := K0.wr W15 (Or.inl (by simp))
  have N15 := Fr.snoc X15 N13 g_a
  refine Go.st (S' := T15.setTop (mkF m 20 #[.val (.ref a), .val (.int (2 : Int32))] [])) (st15) ?_
  refine Go.st (S' := T15.setTop (mkF m 21 #[.val (.ref a), .val (.int (2 : Int32))] [(.ref a)])) (fun _ k_ => XS.aloadN X15.here hx rfl (hb hby d1_20) rfl rfl k_) ?_
  refine Go.st (S' := T15.setTop (mkF m 23 #[.val (.ref a), .val (.int (2 : Int32))] [(.int (64 : Int32)), (.ref a)])) (fun _ k_ => XS.bipush X15.here hx rfl (hb hby d1_21) k_) ?_
  obtain ⟨T16, h16, b16, X16, e16, q16, E16, A16, st16⟩ := Ai.new X15 hx hZ (aty := .int) (w9 hw) rfl e15 (n := (64 : Int32)) (by decide) 64 (by decide) (by decide) (by decide) (by decide) (g := (mkF m 23 #[.val (.ref a), .val (.int (2 : Int32))] [(.int (64 : Int32)), (.ref a)])) rfl rfl (hb hby d1_23)
  have ne_a_b16 : a ≠ b16 := Nat.ne_of_lt (Nat.lt_of_lt_of_le E_a.lt (Nat.le_of_eq q16.symm))
  have ne_b12_b16 : b12 ≠ b16 := Nat.ne_of_lt (Nat.lt_of_lt_of_le A_b12.lt (Nat.le_of_eq q16.symm))
  have ne_b14_b16 : b14 ≠ b16 := Nat.ne_of_lt (Nat.lt_of_lt_of_le A_b14.lt (Nat.le_of_eq q16.symm))
  have g_b16 : n0 ≤ b16 := Nat.le_trans Z0 (Nat.le_of_eq q16.symm)
  have sz_b16 : h0.size ≤ b16 := Nat.le_trans K0.1 (Nat.le_of_eq q16.symm)
  replace E_a := E_a.ext E16
  replace F_edgeCount_a := F_edgeCount_a.ext E16
  replace F_nodes_a := F_nodes_a.ext E16
  replace F_sources_a := F_sources_a.ext E16
  replace F_targets_a := F_targets_a.ext E16
  replace F_edgesBefore_a := F_edgesBefore_a.ext E16
  replace F_edgesBeforeTo_a := F_edgesBeforeTo_a.ext E16
  replace F_lastEdgeFrom_a := F_lastEdgeFrom_a.ext E16
  replace F_lastEdgeTo_a := F_lastEdgeTo_a.ext E16
  replace A_b12 := A_b12.ext E16
  replace A_b14 := A_b14.ext E16
  replace Z0 := Nat.le_trans Z0 E16.1
  replace K0 := K0.ext E16
  have A_b16 : Ai Z h16 b16 .int [(0 : Int32), (0 : Int32), (0 : Int32), (0 : Int32), (0 : Int32), (0 : Int32), (0 : Int32), (0 : Int32), (0 : Int32), (0 : Int32), (0 : Int32), (0 : Int32), (0 : Int32), (0 : Int32), (0 : Int32), (0 : Int32), (0 : Int32), (0 : Int32), (0 : Int32), (0 : Int32), (0 : Int32), (0 : Int32), (0 : Int32), (0 : Int32), (0 : Int32), (0 : Int32), (0 : Int32), (0 : Int32), (0 : Int32), (0 : Int32), (0 : Int32), (0 : Int32), (0 : Int32), (0 : Int32), (0 : Int32), (0 : Int32), (0 : Int32), (0 : Int32), (0 : Int32), (0 : Int32), (0 : Int32), (0 : Int32), (0 : Int32), (0 : Int32), (0 : Int32), (0 : Int32), (0 : Int32), (0 : Int32), (0 : Int32), (0 : Int32), (0 : Int32), (0 : Int32), (0 : Int32), (0 : Int32), (0 : Int32), (0 : Int32), (0 : Int32), (0 : Int32), (0 : Int32), (0 : Int32), (0 : Int32), (0 : Int32), (0 : Int32), (0 : Int32)] := A16
  refine Go.st (S' := T16.setTop (mkF m 25 #[.val (.ref a), .val (.int (2 : Int32))] [(.ref b16), (.ref a)])) (st16) ?_
  obtain ⟨T17, h17, X17, e17, W17, st17⟩ := putF X16 hx hZ hown (host := "") (Or.inl (w14 hw)) Via.refl e16 F_edgesBefore_a E_a (Or.inl (w15 hw)) (w1 hw) (ty := (.array .int)) (by decide) rfl rfl (g := (mkF m 25 #[.val (.ref a), .val (.int (2 : Int32))] [(.ref b16), (.ref a)])) rfl rfl (hb hby d1_25)
  replace F_edgesBefore_a := F_edgesBefore_a.same W17
  replace E_a := E_a.wr W17
  replace F_edgeCount_a := F_edgeCount_a.other W17 (Or.inr (slot_ne (Or.inl (w34 hw)) (Or.inl (w15 hw)) (by decide) (t := .int) (t' := (.array .int)) (by decide) (by decide)))
  replace F_nodes_a := F_nodes_a.other W17 (Or.inr (slot_ne (Or.inr (w19 hw)) (Or.inl (w15 hw)) (by decide) (t := .int) (t' := (.array .int)) (by decide) (by decide)))
  replace F_sources_a := F_sources_a.other W17 (Or.inr (slot_ne (Or.inl (w11 hw)) (Or.inl (w15 hw)) (by decide) (t := (.array .int)) (t' := (.array .int)) (by decide) (by decide)))
  replace F_targets_a := F_targets_a.other W17 (Or.inr (slot_ne (Or.inl (w13 hw)) (Or.inl (w15 hw)) (by decide) (t := (.array .int)) (t' := (.array .int)) (by decide) (by decide)))
  replace F_edgesBeforeTo_a := F_edgesBeforeTo_a.other W17 (Or.inr (slot_ne (Or.inl (w17 hw)) (Or.inl (w15 hw)) (by decide) (t := (.array .int)) (t' := (.array .int)) (by decide) (by decide)))
  replace F_lastEdgeFrom_a := F_lastEdgeFrom_a.other W17 (Or.inr (slot_ne (Or.inr (w21 hw)) (Or.inl (w15 hw)) (by decide) (t := (.array .int)) (t' := (.array .int)) (by decide) (by decide)))
  replace F_lastEdgeTo_a := F_lastEdgeTo_a.other W17 (Or.inr (slot_ne (Or.inr (w27 hw)) (Or.inl (w15 hw)) (by decide) (t := (.array .int)) (t' := (.array .int)) (by decide) (by decide)))
  replace A_b12 := A_b12.other W17 (Ne.symm ne_a_b12)
  replace A_b14 := A_b14.other W17 (Ne.symm ne_a_b14)
  replace A_b16 := A_b16.other W17 (Ne.symm ne_a_b16)
  replace Z0 := Nat.le_trans Z0 (Keep.of_wr W17).1
  replace K0 := K0.wr W17 (Or.inl (by simp))
  have N17 := Fr.snoc X17 N15 g_a
  refine Go.st (S' := T17.setTop (mkF m 28 #[.val (.ref a), .val (.int (2 : Int32))] [])) (st17) ?_
  refine Go.st (S' := T17.setTop (mkF m 29 #[.val (.ref a), .val (.int (2 : Int32))] [(.ref a)])) (fun _ k_ => XS.aloadN X17.here hx rfl (hb hby d1_28) rfl rfl k_) ?_
  refine Go.st (S' := T17.setTop (mkF m 31 #[.val (.ref a), .val (.int (2 : Int32))] [(.int (64 : Int32)), (.ref a)])) (fun _ k_ => XS.bipush X17.here hx rfl (hb hby d1_29) k_) ?_
  obtain ⟨T18, h18, b18, X18, e18, q18, E18, A18, st18⟩ := Ai.new X17 hx hZ (aty := .int) (w9 hw) rfl e17 (n := (64 : Int32)) (by decide) 64 (by decide) (by decide) (by decide) (by decide) (g := (mkF m 31 #[.val (.ref a), .val (.int (2 : Int32))] [(.int (64 : Int32)), (.ref a)])) rfl rfl (hb hby d1_31)
  have ne_a_b18 : a ≠ b18 := Nat.ne_of_lt (Nat.lt_of_lt_of_le E_a.lt (Nat.le_of_eq q18.symm))
  have ne_b12_b18 : b12 ≠ b18 := Nat.ne_of_lt (Nat.lt_of_lt_of_le A_b12.lt (Nat.le_of_eq q18.symm))
  have ne_b14_b18 : b14 ≠ b18 := Nat.ne_of_lt (Nat.lt_of_lt_of_le A_b14.lt (Nat.le_of_eq q18.symm))
  have ne_b16_b18 : b16 ≠ b18 := Nat.ne_of_lt (Nat.lt_of_lt_of_le A_b16.lt (Nat.le_of_eq q18.symm))
  have g_b18 : n0 ≤ b18 := Nat.le_trans Z0 (Nat.le_of_eq q18.symm)
  have sz_b18 : h0.size ≤ b18 := Nat.le_trans K0.1 (Nat.le_of_eq q18.symm)
  replace E_a := E_a.ext E18
  replace F_edgeCount_a := F_edgeCount_a.ext E18
  replace F_nodes_a := F_nodes_a.ext E18
  replace F_sources_a := F_sources_a.ext E18
  replace F_targets_a := F_targets_a.ext E18
  replace F_edgesBefore_a := F_edgesBefore_a.ext E18
  replace F_edgesBeforeTo_a := F_edgesBeforeTo_a.ext E18
  replace F_lastEdgeFrom_a := F_lastEdgeFrom_a.ext E18
  replace F_lastEdgeTo_a := F_lastEdgeTo_a.ext E18
  replace A_b12 := A_b12.ext E18
  replace A_b14 := A_b14.ext E18
  replace A_b16 := A_b16.ext E18
  replace Z0 := Nat.le_trans Z0 E18.1
  replace K0 := K0.ext E18
  have A_b18 : Ai Z h18 b18 .int [(0 : Int32), (0 : Int32), (0 : Int32), (0 : Int32), (0 : Int32), (0 : Int32), (0 : Int32), (0 : Int32), (0 : Int32), (0 : Int32), (0 : Int32), (0 : Int32), (0 : Int32), (0 : Int32), (0 : Int32), (0 : Int32), (0 : Int32), (0 : Int32), (0 : Int32), (0 : Int32), (0 : Int32), (0 : Int32), (0 : Int32), (0 : Int32), (0 : Int32), (0 : Int32), (0 : Int32), (0 : Int32), (0 : Int32), (0 : Int32), (0 : Int32), (0 : Int32), (0 : Int32), (0 : Int32), (0 : Int32), (0 : Int32), (0 : Int32), (0 : Int32), (0 : Int32), (0 : Int32), (0 : Int32), (0 : Int32), (0 : Int32), (0 : Int32), (0 : Int32), (0 : Int32), (0 : Int32), (0 : Int32), (0 : Int32), (0 : Int32), (0 : Int32), (0 : Int32), (0 : Int32), (0 : Int32), (0 : Int32), (0 : Int32), (0 : Int32), (0 : Int32), (0 : Int32), (0 : Int32), (0 : Int32), (0 : Int32), (0 : Int32), (0 : Int32)] := A18
  refine Go.st (S' := T18.setTop (mkF m 33 #[.val (.ref a), .val (.int (2 : Int32))] [(.ref b18), (.ref a)])) (st18) ?_
  obtain ⟨T19, h19, X19, e19, W19, st19⟩ := putF X18 hx hZ hown (host := "") (Or.inl (w16 hw)) Via.refl e18 F_edgesBeforeTo_a E_a (Or.inl (w17 hw)) (w1 hw) (ty := (.array .int)) (by decide) rfl rfl (g := (mkF m 33 #[.val (.ref a), .val (.int (2 : Int32))] [(.ref b18), (.ref a)])) rfl rfl (hb hby d1_33)
  replace F_edgesBeforeTo_a := F_edgesBeforeTo_a.same W19
  replace E_a := E_a.wr W19
  replace F_edgeCount_a := F_edgeCount_a.other W19 (Or.inr (slot_ne (Or.inl (w34 hw)) (Or.inl (w17 hw)) (by decide) (t := .int) (t' := (.array .int)) (by decide) (by decide)))
  replace F_nodes_a := F_nodes_a.other W19 (Or.inr (slot_ne (Or.inr (w19 hw)) (Or.inl (w17 hw)) (by decide) (t := .int) (t' := (.array .int)) (by decide) (by decide)))
  replace F_sources_a := F_sources_a.other W19 (Or.inr (slot_ne (Or.inl (w11 hw)) (Or.inl (w17 hw)) (by decide) (t := (.array .int)) (t' := (.array .int)) (by decide) (by decide)))
  replace F_targets_a := F_targets_a.other W19 (Or.inr (slot_ne (Or.inl (w13 hw)) (Or.inl (w17 hw)) (by decide) (t := (.array .int)) (t' := (.array .int)) (by decide) (by decide)))
  replace F_edgesBefore_a := F_edgesBefore_a.other W19 (Or.inr (slot_ne (Or.inl (w15 hw)) (Or.inl (w17 hw)) (by decide) (t := (.array .int)) (t' := (.array .int)) (by decide) (by decide)))
  replace F_lastEdgeFrom_a := F_lastEdgeFrom_a.other W19 (Or.inr (slot_ne (Or.inr (w21 hw)) (Or.inl (w17 hw)) (by decide) (t := (.array .int)) (t' := (.array .int)) (by decide) (by decide)))
  replace F_lastEdgeTo_a := F_lastEdgeTo_a.other W19 (Or.inr (slot_ne (Or.inr (w27 hw)) (Or.inl (w17 hw)) (by decide) (t := (.array .int)) (t' := (.array .int)) (by decide) (by decide)))
  replace A_b12 := A_b12.other W19 (Ne.symm ne_a_b12)
  replace A_b14 := A_b14.other W19 (Ne.symm ne_a_b14)
  replace A_b16 := A_b16.other W19 (Ne.symm ne_a_b16)
  replace A_b18 := A_b18.other W19 (Ne.symm ne_a_b18)
  replace Z0 := Nat.le_trans Z0 (Keep.of_wr W19).1
  replace K0 := K0.wr W19 (Or.inl (by simp))
  have N19 := Fr.snoc X19 N17 g_a
  refine Go.st (S' := T19.setTop (mkF m 36 #[.val (.ref a), .val (.int (2 : Int32))] [])) (st19) ?_
  refine Go.st (S' := T19.setTop (mkF m 37 #[.val (.ref a), .val (.int (2 : Int32))] [(.ref a)])) (fun _ k_ => XS.aloadN X19.here hx rfl (hb hby d1_36) rfl rfl k_) ?_
  refine Go.st (S' := T19.setTop (mkF m 38 #[.val (.ref a), .val (.int (2 : Int32))] [(.int (2 : Int32)), (.ref a)])) (fun _ k_ => XS.iloadN X19.here hx rfl (hb hby d1_37) rfl k_) ?_
  obtain ⟨T20, h20, X20, e20, W20, st20⟩ := putF X19 hx hZ hown (host := "") (Or.inl (w18 hw)) Via.refl e19 F_nodes_a E_a (Or.inr ⟨(w19 hw), rfl, hnm⟩) (w1 hw) (ty := .int) (by decide) rfl rfl (g := (mkF m 38 #[.val (.ref a), .val (.int (2 : Int32))] [(.int (2 : Int32)), (.ref a)])) rfl rfl (hb hby d1_38)
  replace F_nodes_a := F_nodes_a.same W20
  replace E_a := E_a.wr W20
  replace F_edgeCount_a := F_edgeCount_a.other W20 (Or.inr (slot_ne (Or.inl (w34 hw)) (Or.inr (w19 hw)) (by decide) (t := .int) (t' := .int) (by decide) (by decide)))
  replace F_sources_a := F_sources_a.other W20 (Or.inr (slot_ne (Or.inl (w11 hw)) (Or.inr (w19 hw)) (by decide) (t := (.array .int)) (t' := .int) (by decide) (by decide)))
  replace F_targets_a := F_targets_a.other W20 (Or.inr (slot_ne (Or.inl (w13 hw)) (Or.inr (w19 hw)) (by decide) (t := (.array .int)) (t' := .int) (by decide) (by decide)))
  replace F_edgesBefore_a := F_edgesBefore_a.other W20 (Or.inr (slot_ne (Or.inl (w15 hw)) (Or.inr (w19 hw)) (by decide) (t := (.array .int)) (t' := .int) (by decide) (by decide)))
  replace F_edgesBeforeTo_a := F_edgesBeforeTo_a.other W20 (Or.inr (slot_ne (Or.inl (w17 hw)) (Or.inr (w19 hw)) (by decide) (t := (.array .int)) (t' := .int) (by decide) (by decide)))
  replace F_lastEdgeFrom_a := F_lastEdgeFrom_a.other W20 (Or.inr (slot_ne (Or.inr (w21 hw)) (Or.inr (w19 hw)) (by decide) (t := (.array .int)) (t' := .int) (by decide) (by decide)))
  replace F_lastEdgeTo_a := F_lastEdgeTo_a.other W20 (Or.inr (slot_ne (Or.inr (w27 hw)) (Or.inr (w19 hw)) (by decide) (t := (.array .int)) (t' := .int) (by decide) (by decide)))
  replace A_b12 := A_b12.other W20 (Ne.symm ne_a_b12)
  replace A_b14 := A_b14.other W20 (Ne.symm ne_a_b14)
  replace A_b16 := A_b16.other W20 (Ne.symm ne_a_b16)
  replace A_b18 := A_b18.other W20 (Ne.symm ne_a_b18)
  replace Z0 := Nat.le_trans Z0 (Keep.of_wr W20).1
  replace K0 := K0.wr W20 (Or.inl (by simp))
  have N20 := Fr.snoc X20 N19 g_a
  refine Go.st (S' := T20.setTop (mkF m 41 #[.val (.ref a), .val (.int (2 : Int32))] [])) (st20) ?_
  refine Go.st (S' := T20.setTop (mkF m 42 #[.val (.ref a), .val (.int (2 : Int32))] [(.ref a)])) (fun _ k_ => XS.aloadN X20.here hx rfl (hb hby d1_41) rfl rfl k_) ?_
  refine Go.st (S' := T20.setTop (mkF m 43 #[.val (.ref a), .val (.int (2 : Int32))] [(.int (2 : Int32)), (.ref a)])) (fun _ k_ => XS.iloadN X20.here hx rfl (hb hby d1_42) rfl k_) ?_
  obtain ⟨T21, h21, b21, X21, e21, q21, E21, A21, st21⟩ := Ai.new X20 hx hZ (aty := .int) (w9 hw) rfl e20 (n := (2 : Int32)) (by decide) 2 (by decide) (by decide) (by decide) (by decide) (g := (mkF m 43 #[.val (.ref a), .val (.int (2 : Int32))] [(.int (2 : Int32)), (.ref a)])) rfl rfl (hb hby d1_43)
  have ne_a_b21 : a ≠ b21 := Nat.ne_of_lt (Nat.lt_of_lt_of_le E_a.lt (Nat.le_of_eq q21.symm))
  have ne_b12_b21 : b12 ≠ b21 := Nat.ne_of_lt (Nat.lt_of_lt_of_le A_b12.lt (Nat.le_of_eq q21.symm))
  have ne_b14_b21 : b14 ≠ b21 := Nat.ne_of_lt (Nat.lt_of_lt_of_le A_b14.lt (Nat.le_of_eq q21.symm))
  have ne_b16_b21 : b16 ≠ b21 := Nat.ne_of_lt (Nat.lt_of_lt_of_le A_b16.lt (Nat.le_of_eq q21.symm))
  have ne_b18_b21 : b18 ≠ b21 := Nat.ne_of_lt (Nat.lt_of_lt_of_le A_b18.lt (Nat.le_of_eq q21.symm))
  have g_b21 : n0 ≤ b21 := Nat.le_trans Z0 (Nat.le_of_eq q21.symm)
  have sz_b21 : h0.size ≤ b21 := Nat.le_trans K0.1 (Nat.le_of_eq q21.symm)
  replace E_a := E_a.ext E21
  replace F_edgeCount_a := F_edgeCount_a.ext E21
  replace F_nodes_a := F_nodes_a.ext E21
  replace F_sources_a := F_sources_a.ext E21
  replace F_targets_a := F_targets_a.ext E21
  replace F_edgesBefore_a := F_edgesBefore_a.ext E21
  replace F_edgesBeforeTo_a := F_edgesBeforeTo_a.ext E21
  replace F_lastEdgeFrom_a := F_lastEdgeFrom_a.ext E21
  replace F_lastEdgeTo_a := F_lastEdgeTo_a.ext E21
  replace A_b12 := A_b12.ext E21
  replace A_b14 := A_b14.ext E21
  replace A_b16 := A_b16.ext E21
  replace A_b18 := A_b18.ext E21
  replace Z0 := Nat.le_trans Z0 E21.1
  replace K0 := K0.ext E21
  have A_b21 : Ai Z h21 b21 .int [(0 : Int32), (0 : Int32)] := A21
  refine Go.st (S' := T21.setTop (mkF m 45 #[.val (.ref a), .val (.int (2 : Int32))] [(.ref b21), (.ref a)])) (st21) ?_
  obtain ⟨T22, h22, X22, e22, W22, st22⟩ := putF X21 hx hZ hown (host := "") (Or.inl (w20 hw)) Via.refl e21 F_lastEdgeFrom_a E_a (Or.inr ⟨(w21 hw), rfl, hnm⟩) (w1 hw) (ty := (.array .int)) (by decide) rfl rfl (g := (mkF m 45 #[.val (.ref a), .val (.int (2 : Int32))] [(.ref b21), (.ref a)])) rfl rfl (hb hby d1_45)
  replace F_lastEdgeFrom_a := F_lastEdgeFrom_a.same W22
  replace E_a := E_a.wr W22
  replace F_edgeCount_a := F_edgeCount_a.other W22 (Or.inr (slot_ne (Or.inl (w34 hw)) (Or.inr (w21 hw)) (by decide) (t := .int) (t' := (.array .int)) (by decide) (by decide)))
  replace F_nodes_a := F_nodes_a.other W22 (Or.inr (slot_ne (Or.inr (w19 hw)) (Or.inr (w21 hw)) (by decide) (t := .int) (t' := (.array .int)) (by decide) (by decide)))
  replace F_sources_a := F_sources_a.other W22 (Or.inr (slot_ne (Or.inl (w11 hw)) (Or.inr (w21 hw)) (by decide) (t := (.array .int)) (t' := (.array .int)) (by decide) (by decide)))
  replace F_targets_a := F_targets_a.other W22 (Or.inr (slot_ne (Or.inl (w13 hw)) (Or.inr (w21 hw)) (by decide) (t := (.array .int)) (t' := (.array .int)) (by decide) (by decide)))
  replace F_edgesBefore_a := F_edgesBefore_a.other W22 (Or.inr (slot_ne (Or.inl (w15 hw)) (Or.inr (w21 hw)) (by decide) (t := (.array .int)) (t' := (.array .int)) (by decide) (by decide)))
  replace F_edgesBeforeTo_a := F_edgesBeforeTo_a.other W22 (Or.inr (slot_ne (Or.inl (w17 hw)) (Or.inr (w21 hw)) (by decide) (t := (.array .int)) (t' := (.array .int)) (by decide) (by decide)))
  replace F_lastEdgeTo_a := F_lastEdgeTo_a.other W22 (Or.inr (slot_ne (Or.inr (w27 hw)) (Or.inr (w21 hw)) (by decide) (t := (.array .int)) (t' := (.array .int)) (by decide) (by decide)))
  replace A_b12 := A_b12.other W22 (Ne.symm ne_a_b12)
  replace A_b14 := A_b14.other W22 (Ne.symm ne_a_b14)
  replace A_b16 := A_b16.other W22 (Ne.symm ne_a_b16)
  replace A_b18 := A_b18.other W22 (Ne.symm ne_a_b18)
  replace A_b21 := A_b21.other W22 (Ne.symm ne_a_b21)
  replace Z0 := Nat.le_trans Z0 (Keep.of_wr W22).1
  replace K0 := K0.wr W22 (Or.inl (by simp))
  have N22 := Fr.snoc X22 N20 g_a
  refine Go.st (S' := T22.setTop (mkF m 48 #[.val (.ref a), .val (.int (2 : Int32))] [])) (st22) ?_
  refine Go.st (S' := T22.setTop (mkF m 49 #[.val (.ref a), .val (.int (2 : Int32))] [(.ref a)])) (fun _ k_ => XS.aloadN X22.here hx rfl (hb hby d1_48) rfl rfl k_) ?_
  obtain ⟨T23, X23, e23, st23⟩ := getF X22 hx hZ hown (host := "") (Or.inl (w20 hw)) Via.refl e22 F_lastEdgeFrom_a (g := (mkF m 49 #[.val (.ref a), .val (.int (2 : Int32))] [(.ref a)])) rfl rfl (hb hby d1_49)
  refine Go.st (S' := T23.setTop (mkF m 52 #[.val (.ref a), .val (.int (2 : Int32))] [(.ref b21)])) (st23) ?_
  refine Go.st (S' := T23.setTop (mkF m 53 #[.val (.ref a), .val (.int (2 : Int32))] [(.int (-1 : Int32)), (.ref b21)])) (fun _ k_ => XS.iconst X23.here hx rfl (hb hby d1_52) k_) ?_
  obtain ⟨v24, T24, h24, L24, X24, e24, hQ24, st24⟩ := callSt X23 hx hZ hown (w22 hw) (w23 hw) (w24 hw) (w25 hw) (by decide) (W := 0) (argsL := [(.ref b21), (.int (-1 : Int32))]) (rest := []) e23 (rm_fill l Z a0 hw b21 0 0 (-1) h22 n0 Z0 A_b21 g_b21) (by decide) (by decide) pd0 rfl (g := (mkF m 53 #[.val (.ref a), .val (.int (2 : Int32))] [(.int (-1 : Int32)), (.ref b21)])) rfl (by rw [hml]; rfl) rfl (by show 2 * 0 + _ ≤ _; exact Nat.le_of_eq rfl) (hb hby d1_53) (by decide) (by decide)
  obtain ⟨rfl, Nq24, Kq24, A_b21⟩ := hQ24
  have N24 := Fr.app N22 Nq24
  replace E_a := E_a.keep Kq24
  replace F_edgeCount_a := F_edgeCount_a.keep Kq24 (ninS ne_a_b21 nin0)
  replace F_nodes_a := F_nodes_a.keep Kq24 (ninS ne_a_b21 nin0)
  replace F_sources_a := F_sources_a.keep Kq24 (ninS ne_a_b21 nin0)
  replace F_targets_a := F_targets_a.keep Kq24 (ninS ne_a_b21 nin0)
  replace F_edgesBefore_a := F_edgesBefore_a.keep Kq24 (ninS ne_a_b21 nin0)
  replace F_edgesBeforeTo_a := F_edgesBeforeTo_a.keep Kq24 (ninS ne_a_b21 nin0)
  replace F_lastEdgeFrom_a := F_lastEdgeFrom_a.keep Kq24 (ninS ne_a_b21 nin0)
  replace F_lastEdgeTo_a := F_lastEdgeTo_a.keep Kq24 (ninS ne_a_b21 nin0)
  replace A_b12 := A_b12.keep Kq24 (ninS ne_b12_b21 nin0)
  replace A_b14 := A_b14.keep Kq24 (ninS ne_b14_b21 nin0)
  replace A_b16 := A_b16.keep Kq24 (ninS ne_b16_b21 nin0)
  replace A_b18 := A_b18.keep Kq24 (ninS ne_b18_b21 nin0)
  replace Z0 := Nat.le_trans Z0 Kq24.1
  replace K0 := K0.trans Kq24 (allS (Or.inr sz_b21) all0)
  refine Go.st (S' := T24.setTop (mkF m 56 #[.val (.ref a), .val (.int (2 : Int32))] [])) (st24) ?_
  refine Go.st (S' := T24.setTop (mkF m 57 #[.val (.ref a), .val (.int (2 : Int32))] [(.ref a)])) (fun _ k_ => XS.aloadN X24.here hx rfl (hb hby d1_56) rfl rfl k_) ?_
  refine Go.st (S' := T24.setTop (mkF m 58 #[.val (.ref a), .val (.int (2 : Int32))] [(.int (2 : Int32)), (.ref a)])) (fun _ k_ => XS.iloadN X24.here hx rfl (hb hby d1_57) rfl k_) ?_
  obtain ⟨T25, h25, b25, X25, e25, q25, E25, A25, st25⟩ := Ai.new X24 hx hZ (aty := .int) (w9 hw) rfl e24 (n := (2 : Int32)) (by decide) 2 (by decide) (by decide) (by decide) (by decide) (g := (mkF m 58 #[.val (.ref a), .val (.int (2 : Int32))] [(.int (2 : Int32)), (.ref a)])) rfl rfl (hb hby d1_58)
  have ne_a_b25 : a ≠ b25 := Nat.ne_of_lt (Nat.lt_of_lt_of_le E_a.lt (Nat.le_of_eq q25.symm))
  have ne_b12_b25 : b12 ≠ b25 := Nat.ne_of_lt (Nat.lt_of_lt_of_le A_b12.lt (Nat.le_of_eq q25.symm))
  have ne_b14_b25 : b14 ≠ b25 := Nat.ne_of_lt (Nat.lt_of_lt_of_le A_b14.lt (Nat.le_of_eq q25.symm))
  have ne_b16_b25 : b16 ≠ b25 := Nat.ne_of_lt (Nat.lt_of_lt_of_le A_b16.lt (Nat.le_of_eq q25.symm))
  have ne_b18_b25 : b18 ≠ b25 := Nat.ne_of_lt (Nat.lt_of_lt_of_le A_b18.lt (Nat.le_of_eq q25.symm))
  have ne_b21_b25 : b21 ≠ b25 := Nat.ne_of_lt (Nat.lt_of_lt_of_le A_b21.lt (Nat.le_of_eq q25.symm))
  have g_b25 : n0 ≤ b25 := Nat.le_trans Z0 (Nat.le_of_eq q25.symm)
  have sz_b25 : h0.size ≤ b25 := Nat.le_trans K0.1 (Nat.le_of_eq q25.symm)
  replace E_a := E_a.ext E25
  replace F_edgeCount_a := F_edgeCount_a.ext E25
  replace F_nodes_a := F_nodes_a.ext E25
  replace F_sources_a := F_sources_a.ext E25
  replace F_targets_a := F_targets_a.ext E25
  replace F_edgesBefore_a := F_edgesBefore_a.ext E25
  replace F_edgesBeforeTo_a := F_edgesBeforeTo_a.ext E25
  replace F_lastEdgeFrom_a := F_lastEdgeFrom_a.ext E25
  replace F_lastEdgeTo_a := F_lastEdgeTo_a.ext E25
  replace A_b12 := A_b12.ext E25
  replace A_b14 := A_b14.ext E25
  replace A_b16 := A_b16.ext E25
  replace A_b18 := A_b18.ext E25
  replace A_b21 := A_b21.ext E25
  replace Z0 := Nat.le_trans Z0 E25.1
  replace K0 := K0.ext E25
  have A_b25 : Ai Z h25 b25 .int [(0 : Int32), (0 : Int32)] := A25
  refine Go.st (S' := T25.setTop (mkF m 60 #[.val (.ref a), .val (.int (2 : Int32))] [(.ref b25), (.ref a)])) (st25) ?_
  obtain ⟨T26, h26, X26, e26, W26, st26⟩ := putF X25 hx hZ hown (host := "") (Or.inl (w26 hw)) Via.refl e25 F_lastEdgeTo_a E_a (Or.inr ⟨(w27 hw), rfl, hnm⟩) (w1 hw) (ty := (.array .int)) (by decide) rfl rfl (g := (mkF m 60 #[.val (.ref a), .val (.int (2 : Int32))] [(.ref b25), (.ref a)])) rfl rfl (hb hby d1_60)
  replace F_lastEdgeTo_a := F_lastEdgeTo_a.same W26
  replace E_a := E_a.wr W26
  replace F_edgeCount_a := F_edgeCount_a.other W26 (Or.inr (slot_ne (Or.inl (w34 hw)) (Or.inr (w27 hw)) (by decide) (t := .int) (t' := (.array .int)) (by decide) (by decide)))
  replace F_nodes_a := F_nodes_a.other W26 (Or.inr (slot_ne (Or.inr (w19 hw)) (Or.inr (w27 hw)) (by decide) (t := .int) (t' := (.array .int)) (by decide) (by decide)))
  replace F_sources_a := F_sources_a.other W26 (Or.inr (slot_ne (Or.inl (w11 hw)) (Or.inr (w27 hw)) (by decide) (t := (.array .int)) (t' := (.array .int)) (by decide) (by decide)))
  replace F_targets_a := F_targets_a.other W26 (Or.inr (slot_ne (Or.inl (w13 hw)) (Or.inr (w27 hw)) (by decide) (t := (.array .int)) (t' := (.array .int)) (by decide) (by decide)))
  replace F_edgesBefore_a := F_edgesBefore_a.other W26 (Or.inr (slot_ne (Or.inl (w15 hw)) (Or.inr (w27 hw)) (by decide) (t := (.array .int)) (t' := (.array .int)) (by decide) (by decide)))
  replace F_edgesBeforeTo_a := F_edgesBeforeTo_a.other W26 (Or.inr (slot_ne (Or.inl (w17 hw)) (Or.inr (w27 hw)) (by decide) (t := (.array .int)) (t' := (.array .int)) (by decide) (by decide)))
  replace F_lastEdgeFrom_a := F_lastEdgeFrom_a.other W26 (Or.inr (slot_ne (Or.inr (w21 hw)) (Or.inr (w27 hw)) (by decide) (t := (.array .int)) (t' := (.array .int)) (by decide) (by decide)))
  replace A_b12 := A_b12.other W26 (Ne.symm ne_a_b12)
  replace A_b14 := A_b14.other W26 (Ne.symm ne_a_b14)
  replace A_b16 := A_b16.other W26 (Ne.symm ne_a_b16)
  replace A_b18 := A_b18.other W26 (Ne.symm ne_a_b18)
  replace A_b21 := A_b21.other W26 (Ne.symm ne_a_b21)
  replace A_b25 := A_b25.other W26 (Ne.symm ne_a_b25)
  replace Z0 := Nat.le_trans Z0 (Keep.of_wr W26).1
  replace K0 := K0.wr W26 (Or.inl (by simp))
  have N26 := Fr.snoc X26 N24 g_a
  refine Go.st (S' := T26.setTop (mkF m 63 #[.val (.ref a), .val (.int (2 : Int32))] [])) (st26) ?_
  refine Go.st (S' := T26.setTop (mkF m 64 #[.val (.ref a), .val (.int (2 : Int32))] [(.ref a)])) (fun _ k_ => XS.aloadN X26.here hx rfl (hb hby d1_63) rfl rfl k_) ?_
  obtain ⟨T27, X27, e27, st27⟩ := getF X26 hx hZ hown (host := "") (Or.inl (w26 hw)) Via.refl e26 F_lastEdgeTo_a (g := (mkF m 64 #[.val (.ref a), .val (.int (2 : Int32))] [(.ref a)])) rfl rfl (hb hby d1_64)
  refine Go.st (S' := T27.setTop (mkF m 67 #[.val (.ref a), .val (.int (2 : Int32))] [(.ref b25)])) (st27) ?_
  refine Go.st (S' := T27.setTop (mkF m 68 #[.val (.ref a), .val (.int (2 : Int32))] [(.int (-1 : Int32)), (.ref b25)])) (fun _ k_ => XS.iconst X27.here hx rfl (hb hby d1_67) k_) ?_
  obtain ⟨v28, T28, h28, L28, X28, e28, hQ28, st28⟩ := callSt X27 hx hZ hown (w22 hw) (w23 hw) (w24 hw) (w25 hw) (by decide) (W := 0) (argsL := [(.ref b25), (.int (-1 : Int32))]) (rest := []) e27 (rm_fill l Z a0 hw b25 0 0 (-1) h26 n0 Z0 A_b25 g_b25) (by decide) (by decide) pd0 rfl (g := (mkF m 68 #[.val (.ref a), .val (.int (2 : Int32))] [(.int (-1 : Int32)), (.ref b25)])) rfl (by rw [hml]; rfl) rfl (by show 2 * 0 + _ ≤ _; exact Nat.le_of_eq rfl) (hb hby d1_68) (by decide) (by decide)
  obtain ⟨rfl, Nq28, Kq28, A_b25⟩ := hQ28
  have N28 := Fr.app N26 Nq28
  replace E_a := E_a.keep Kq28
  replace F_edgeCount_a := F_edgeCount_a.keep Kq28 (ninS ne_a_b25 nin0)
  replace F_nodes_a := F_nodes_a.keep Kq28 (ninS ne_a_b25 nin0)
  replace F_sources_a := F_sources_a.keep Kq28 (ninS ne_a_b25 nin0)
  replace F_targets_a := F_targets_a.keep Kq28 (ninS ne_a_b25 nin0)
  replace F_edgesBefore_a := F_edgesBefore_a.keep Kq28 (ninS ne_a_b25 nin0)
  replace F_edgesBeforeTo_a := F_edgesBeforeTo_a.keep Kq28 (ninS ne_a_b25 nin0)
  replace F_lastEdgeFrom_a := F_lastEdgeFrom_a.keep Kq28 (ninS ne_a_b25 nin0)
  replace F_lastEdgeTo_a := F_lastEdgeTo_a.keep Kq28 (ninS ne_a_b25 nin0)
  replace A_b12 := A_b12.keep Kq28 (ninS ne_b12_b25 nin0)
  replace A_b14 := A_b14.keep Kq28 (ninS ne_b14_b25 nin0)
  replace A_b16 := A_b16.keep Kq28 (ninS ne_b16_b25 nin0)
  replace A_b18 := A_b18.keep Kq28 (ninS ne_b18_b25 nin0)
  replace A_b21 := A_b21.keep Kq28 (ninS ne_b21_b25 nin0)
  replace Z0 := Nat.le_trans Z0 Kq28.1
  replace K0 := K0.trans Kq28 (allS (Or.inr sz_b25) all0)
  refine Go.st (S' := T28.setTop (mkF m 71 #[.val (.ref a), .val (.int (2 : Int32))] [])) (st28) ?_
  exact Go.retV X28 hx hret hlk (hb hby d1_71) (by decide) (by decide) (by rw [e28]; exact ⟨rfl, N28, K0, b12, b14, b16, b18, b21, b25, ⟨ne_a_b12, ne_a_b14, ne_a_b16, ne_a_b18, ne_a_b21, ne_a_b25, ne_b12_b14, ne_b12_b16, ne_b12_b18, ne_b12_b21, ne_b12_b25, ne_b14_b16, ne_b14_b18, ne_b14_b21, ne_b14_b25, ne_b16_b18, ne_b16_b21, ne_b16_b25, ne_b18_b21, ne_b18_b25, ne_b21_b25, g_a, g_b12, g_b14, g_b16, g_b18, g_b21, g_b25⟩, E_a, F_edgeCount_a, F_sources_a, F_targets_a, F_edgesBefore_a, F_edgesBeforeTo_a, F_lastEdgeFrom_a, F_lastEdgeTo_a, A_b12, A_b14, A_b16, A_b18, A_b21, A_b25⟩)
theorem ef_dg_add (m : MethodId) (x0 : Addr) (x1 : Int32) (x2 : Int32) : entryFrame m #[(.ref x0), (.int x1), (.int x2)] 4 = mkF m 0 #[.val (.ref x0), .val (.int x1), .val (.int x2), .unset] [] := by first | (simp [entryFrame, mkF, argsToLocals, Value.category]; done) | rfl
set_option maxRecDepth 65536 in
set_option maxHeartbeats 40000000 in
theorem dg_add (l : Launch) (Z : State) (a0 : Array Value) (hw : ∀ d ∈ tables_1, d.before a0 Z = true) (a sr tg eb et lf lt : Addr) (k : Nat) (f q : Int32) (xS xT xE xF xA xB : List Int32) (h0 : Heap) (n0 : Nat) (Z0 : n0 ≤ h0.size) (H : DG Z h0 a sr tg eb et lf lt k.toInt32 xS xT xE xF xA xB) (hd : own_dis n0 a sr tg eb et lf lt) (hk : k < 60) (hl : xS.length = 64 ∧ xT.length = 64 ∧ xE.length = 64 ∧ xF.length = 64 ∧ xA.length = 2 ∧ xB.length = 2) (hf : f = 0 ∨ f = 1) (hq : q = 0 ∨ q = 1) :
    Con l Z (⟨"io/isoproof/check/polygraph/Digraph", "addEdge", "(II)V"⟩ : MethodName) prog_28_method_4_code 4 none [] ({ frames := 0, cells := 0, slots := 0, locals := 0 } : Room) #[(.ref a), (.int f), (.int q)] h0 (fun v h L => v = none ∧ Fr n0 L ∧ Keep h0 h [a, sr, tg, eb, et, lf, lt] ∧ DG Z h a sr tg eb et lf lt (k + 1).toInt32 (xS.set k f) (xT.set k q) (xE.set k (xA.getD f.toNatClampNeg 0)) (xF.set k (xB.getD q.toNatClampNeg 0)) (xA.set f.toNatClampNeg k.toInt32) (xB.set q.toNatClampNeg k.toInt32)) := by
  refine Con.mk (plainFor_of_name pn1) ?_
  intro p e s m below meth c T0 hx hby hml hown hnm hret hlk hZ X0 e0
  have hown : s.vm.findClass "io/isoproof/check/polygraph/Digraph" = some m.cls := hown
  have hnm : meth.name = "addEdge" := hnm
  have N0 := Fr.nil n0
  have K0 := Keep.refl h0 [a, sr, tg, eb, et, lf, lt]
  refine Go.cast (ef_dg_add m a f q) ?_
  obtain ⟨E_a, F_edgeCount_a, F_sources_a, F_targets_a, F_edgesBefore_a, F_edgesBeforeTo_a, F_lastEdgeFrom_a, F_lastEdgeTo_a, A_sr, A_tg, A_eb, A_et, A_lf, A_lt⟩ := H
  obtain ⟨ne_a_sr, ne_a_tg, ne_a_eb, ne_a_et, ne_a_lf, ne_a_lt, ne_sr_tg, ne_sr_eb, ne_sr_et, ne_sr_lf, ne_sr_lt, ne_tg_eb, ne_tg_et, ne_tg_lf, ne_tg_lt, ne_eb_et, ne_eb_lf, ne_eb_lt, ne_et_lf, ne_et_lt, ne_lf_lt, g_a, g_sr, g_tg, g_eb, g_et, g_lf, g_lt⟩ := hd
  obtain ⟨l1, l2, l3, l4, l5, l6⟩ := hl
  obtain ⟨f1, f2⟩ := own_i01 hf
  obtain ⟨q1, q2⟩ := own_i01 hq
  refine Go.st (S' := T0.setTop (mkF m 1 #[.val (.ref a), .val (.int f), .val (.int q), .unset] [(.ref a)])) (fun _ k_ => XS.aloadN X0.here hx rfl (hb hby d4_0) rfl rfl k_) ?_
  obtain ⟨T11, X11, e11, st11⟩ := getF X0 hx hZ hown (host := "") (Or.inl (w33 hw)) Via.refl e0 F_edgeCount_a (g := (mkF m 1 #[.val (.ref a), .val (.int f), .val (.int q), .unset] [(.ref a)])) rfl rfl (hb hby d4_1)
  refine Go.st (S' := T11.setTop (mkF m 4 #[.val (.ref a), .val (.int f), .val (.int q), .unset] [(.int k.toInt32)])) (st11) ?_
  refine Go.st (S' := T11.setTop (mkF m 5 #[.val (.ref a), .val (.int f), .val (.int q), .unset] [(.ref a), (.int k.toInt32)])) (fun _ k_ => XS.aloadN X11.here hx rfl (hb hby d4_4) rfl rfl k_) ?_
  obtain ⟨T12, X12, e12, st12⟩ := getF X11 hx hZ hown (host := "") (Or.inl (w10 hw)) Via.refl e11 F_sources_a (g := (mkF m 5 #[.val (.ref a), .val (.int f), .val (.int q), .unset] [(.ref a), (.int k.toInt32)])) rfl rfl (hb hby d4_5)
  refine Go.st (S' := T12.setTop (mkF m 8 #[.val (.ref a), .val (.int f), .val (.int q), .unset] [(.ref sr), (.int k.toInt32)])) (st12) ?_
  refine Go.st (S' := T12.setTop (mkF m 9 #[.val (.ref a), .val (.int f), .val (.int q), .unset] [(.int (64 : Int32)), (.int k.toInt32)])) (A_sr.length X12 hx hZ e12 (n := (64 : Int32)) (by rw [l1]; rfl) (g := (mkF m 8 #[.val (.ref a), .val (.int f), .val (.int q), .unset] [(.ref sr), (.int k.toInt32)])) rfl rfl (hb hby d4_8)) ?_
  refine Go.st (S' := T12.setTop (mkF m 68 #[.val (.ref a), .val (.int f), .val (.int q), .unset] [])) (fun _ k_ => XS.icmpYes X12.here hx rfl (pc0 := 9) (pc' := 68) rfl (hb hby d4_9) rfl (feq ((by intro z; have z := congrArg Int32.toInt z; rw [own_ti (by omega), show (64 : Int32).toInt = 64 from rfl] at z; omega))).2 (by decide) (by decide) k_) ?_
  refine Go.st (S' := T12.setTop (mkF m 69 #[.val (.ref a), .val (.int f), .val (.int q), .unset] [(.ref a)])) (fun _ k_ => XS.aloadN X12.here hx rfl (hb hby d4_68) rfl rfl k_) ?_
  obtain ⟨T13, X13, e13, st13⟩ := getF X12 hx hZ hown (host := "") (Or.inl (w10 hw)) Via.refl e12 F_sources_a (g := (mkF m 69 #[.val (.ref a), .val (.int f), .val (.int q), .unset] [(.ref a)])) rfl rfl (hb hby d4_69)
  refine Go.st (S' := T13.setTop (mkF m 72 #[.val (.ref a), .val (.int f), .val (.int q), .unset] [(.ref sr)])) (st13) ?_
  refine Go.st (S' := T13.setTop (mkF m 73 #[.val (.ref a), .val (.int f), .val (.int q), .unset] [(.ref a), (.ref sr)])) (fun _ k_ => XS.aloadN X13.here hx rfl (hb hby d4_72) rfl rfl k_) ?_
  obtain ⟨T14, X14, e14, st14⟩ := getF X13 hx hZ hown (host := "") (Or.inl (w33 hw)) Via.refl e13 F_edgeCount_a (g := (mkF m 73 #[.val (.ref a), .val (.int f), .val (.int q), .unset] [(.ref a), (.ref sr)])) rfl rfl (hb hby d4_73)
  refine Go.st (S' := T14.setTop (mkF m 76 #[.val (.ref a), .val (.int f), .val (.int q), .unset] [(.int k.toInt32), (.ref sr)])) (st14) ?_
  refine Go.st (S' := T14.setTop (mkF m 77 #[.val (.ref a), .val (.int f), .val (.int q), .unset] [(.int f), (.int k.toInt32), (.ref sr)])) (fun _ k_ => XS.iloadN X14.here hx rfl (hb hby d4_76) rfl k_) ?_
  obtain ⟨T15, h15, X15, e15, W15, A15, st15⟩ := A_sr.store X14 hx hZ e14 (j := k.toInt32) (own_tpos (by omega)) (by rw [own_tn (by omega), l1]; omega) (g := (mkF m 77 #[.val (.ref a), .val (.int f), .val (.int q), .unset] [(.int f), (.int k.toInt32), (.ref sr)])) rfl rfl (hb hby d4_77)
  replace A_sr : Ai Z h15 sr .int (xS.set k f) := (by have z := A15; rw [own_tn (by omega)] at z; exact z)
  replace E_a := E_a.wr W15
  replace F_edgeCount_a := F_edgeCount_a.other W15 (Or.inl ne_a_sr)
  replace F_sources_a := F_sources_a.other W15 (Or.inl ne_a_sr)
  replace F_targets_a := F_targets_a.other W15 (Or.inl ne_a_sr)
  replace A_tg := A_tg.other W15 (Ne.symm ne_sr_tg)
  replace F_edgesBefore_a := F_edgesBefore_a.other W15 (Or.inl ne_a_sr)
  replace A_eb := A_eb.other W15 (Ne.symm ne_sr_eb)
  replace F_edgesBeforeTo_a := F_edgesBeforeTo_a.other W15 (Or.inl ne_a_sr)
  replace A_et := A_et.other W15 (Ne.symm ne_sr_et)
  replace F_lastEdgeFrom_a := F_lastEdgeFrom_a.other W15 (Or.inl ne_a_sr)
  replace A_lf := A_lf.other W15 (Ne.symm ne_sr_lf)
  replace F_lastEdgeTo_a := F_lastEdgeTo_a.other W15 (Or.inl ne_a_sr)
  replace A_lt := A_lt.other W15 (Ne.symm ne_sr_lt)
  replace Z0 := Nat.le_trans Z0 (Keep.of_wr W15).1
  replace K0 := K0.wr W15 (Or.inl (by simp))
  have N15 := Fr.snoc X15 N0 g_sr
  refine Go.st (S' := T15.setTop (mkF m 78 #[.val (.ref a), .val (.int f), .val (.int q), .unset] [])) (st15) ?_
  refine Go.st (S' := T15.setTop (mkF m 79 #[.val (.ref a), .val (.int f), .val (.int q), .unset] [(.ref a)])) (fun _ k_ => XS.aloadN X15.here hx rfl (hb hby d4_78) rfl rfl k_) ?_
  obtain ⟨T16, X16, e16, st16⟩ := getF X15 hx hZ hown (host := "") (Or.inl (w12 hw)) Via.refl e15 F_targets_a (g := (mkF m 79 #[.val (.ref a), .val (.int f), .val (.int q), .unset] [(.ref a)])) rfl rfl (hb hby d4_79)
  refine Go.st (S' := T16.setTop (mkF m 82 #[.val (.ref a), .val (.int f), .val (.int q), .unset] [(.ref tg)])) (st16) ?_
  refine Go.st (S' := T16.setTop (mkF m 83 #[.val (.ref a), .val (.int f), .val (.int q), .unset] [(.ref a), (.ref tg)])) (fun _ k_ => XS.aloadN X16.here hx rfl (hb hby d4_82) rfl rfl k_) ?_
  obtain ⟨T17, X17, e17, st17⟩ := getF X16 hx hZ hown (host := "") (Or.inl (w33 hw)) Via.refl e16 F_edgeCount_a (g := (mkF m 83 #[.val (.ref a), .val (.int f), .val (.int q), .unset] [(.ref a), (.ref tg)])) rfl rfl (hb hby d4_83)
  refine Go.st (S' := T17.setTop (mkF m 86 #[.val (.ref a), .val (.int f), .val (.int q), .unset] [(.int k.toInt32), (.ref tg)])) (st17) ?_
  refine Go.st (S' := T17.setTop (mkF m 87 #[.val (.ref a), .val (.int f), .val (.int q), .unset] [(.int q), (.int k.toInt32), (.ref tg)])) (fun _ k_ => XS.iloadN X17.here hx rfl (hb hby d4_86) rfl k_) ?_
  obtain ⟨T18, h18, X18, e18, W18, A18, st18⟩ := A_tg.store X17 hx hZ e17 (j := k.toInt32) (own_tpos (by omega)) (by rw [own_tn (by omega), l2]; omega) (g := (mkF m 87 #[.val (.ref a), .val (.int f), .val (.int q), .unset] [(.int q), (.int k.toInt32), (.ref tg)])) rfl rfl (hb hby d4_87)
  replace A_tg : Ai Z h18 tg .int (xT.set k q) := (by have z := A18; rw [own_tn (by omega)] at z; exact z)
  replace E_a := E_a.wr W18
  replace F_edgeCount_a := F_edgeCount_a.other W18 (Or.inl ne_a_tg)
  replace F_sources_a := F_sources_a.other W18 (Or.inl ne_a_tg)
  replace A_sr := A_sr.other W18 ne_sr_tg
  replace F_targets_a := F_targets_a.other W18 (Or.inl ne_a_tg)
  replace F_edgesBefore_a := F_edgesBefore_a.other W18 (Or.inl ne_a_tg)
  replace A_eb := A_eb.other W18 (Ne.symm ne_tg_eb)
  replace F_edgesBeforeTo_a := F_edgesBeforeTo_a.other W18 (Or.inl ne_a_tg)
  replace A_et := A_et.other W18 (Ne.symm ne_tg_et)
  replace F_lastEdgeFrom_a := F_lastEdgeFrom_a.other W18 (Or.inl ne_a_tg)
  replace A_lf := A_lf.other W18 (Ne.symm ne_tg_lf)
  replace F_lastEdgeTo_a := F_lastEdgeTo_a.other W18 (Or.inl ne_a_tg)
  replace A_lt := A_lt.other W18 (Ne.symm ne_tg_lt)
  replace Z0 := Nat.le_trans Z0 (Keep.of_wr W18).1
  replace K0 := K0.wr W18 (Or.inl (by simp))
  have N18 := Fr.snoc X18 N15 g_tg
  refine Go.st (S' := T18.setTop (mkF m 88 #[.val (.ref a), .val (.int f), .val (.int q), .unset] [])) (st18) ?_
  refine Go.st (S' := T18.setTop (mkF m 89 #[.val (.ref a), .val (.int f), .val (.int q), .unset] [(.ref a)])) (fun _ k_ => XS.aloadN X18.here hx rfl (hb hby d4_88) rfl rfl k_) ?_
  obtain ⟨T19, X19, e19, st19⟩ := getF X18 hx hZ hown (host := "") (Or.inl (w14 hw)) Via.refl e18 F_edgesBefore_a (g := (mkF m 89 #[.val (.ref a), .val (.int f), .val (.int q), .unset] [(.ref a)])) rfl rfl (hb hby d4_89)
  refine Go.st (S' := T19.setTop (mkF m 92 #[.val (.ref a), .val (.int f), .val (.int q), .unset] [(.ref eb)])) (st19) ?_
  refine Go.st (S' := T19.setTop (mkF m 93 #[.val (.ref a), .val (.int f), .val (.int q), .unset] [(.ref a), (.ref eb)])) (fun _ k_ => XS.aloadN X19.here hx rfl (hb hby d4_92) rfl rfl k_) ?_
  obtain ⟨T20, X20, e20, st20⟩ := getF X19 hx hZ hown (host := "") (Or.inl (w33 hw)) Via.refl e19 F_edgeCount_a (g := (mkF m 93 #[.val (.ref a), .val (.int f), .val (.int q), .unset] [(.ref a), (.ref eb)])) rfl rfl (hb hby d4_93)
  refine Go.st (S' := T20.setTop (mkF m 96 #[.val (.ref a), .val (.int f), .val (.int q), .unset] [(.int k.toInt32), (.ref eb)])) (st20) ?_
  refine Go.st (S' := T20.setTop (mkF m 97 #[.val (.ref a), .val (.int f), .val (.int q), .unset] [(.ref a), (.int k.toInt32), (.ref eb)])) (fun _ k_ => XS.aloadN X20.here hx rfl (hb hby d4_96) rfl rfl k_) ?_
  obtain ⟨T21, X21, e21, st21⟩ := getF X20 hx hZ hown (host := "") (Or.inl (w20 hw)) Via.refl e20 F_lastEdgeFrom_a (g := (mkF m 97 #[.val (.ref a), .val (.int f), .val (.int q), .unset] [(.ref a), (.int k.toInt32), (.ref eb)])) rfl rfl (hb hby d4_97)
  refine Go.st (S' := T21.setTop (mkF m 100 #[.val (.ref a), .val (.int f), .val (.int q), .unset] [(.ref lf), (.int k.toInt32), (.ref eb)])) (st21) ?_
  refine Go.st (S' := T21.setTop (mkF m 101 #[.val (.ref a), .val (.int f), .val (.int q), .unset] [(.int f), (.ref lf), (.int k.toInt32), (.ref eb)])) (fun _ k_ => XS.iloadN X21.here hx rfl (hb hby d4_100) rfl k_) ?_
  refine Go.st (S' := T21.setTop (mkF m 102 #[.val (.ref a), .val (.int f), .val (.int q), .unset] [(.int (xA.getD f.toNatClampNeg 0)), (.int k.toInt32), (.ref eb)])) (A_lf.load X21 hx hZ e21 (j := f) (v := (xA.getD f.toNatClampNeg 0)) f1 (own_gd0 (by rw [l5]; exact f2)) (g := (mkF m 101 #[.val (.ref a), .val (.int f), .val (.int q), .unset] [(.int f), (.ref lf), (.int k.toInt32), (.ref eb)])) rfl rfl (hb hby d4_101)) ?_
  obtain ⟨T22, h22, X22, e22, W22, A22, st22⟩ := A_eb.store X21 hx hZ e21 (j := k.toInt32) (own_tpos (by omega)) (by rw [own_tn (by omega), l3]; omega) (g := (mkF m 102 #[.val (.ref a), .val (.int f), .val (.int q), .unset] [(.int (xA.getD f.toNatClampNeg 0)), (.int k.toInt32), (.ref eb)])) rfl rfl (hb hby d4_102)
  replace A_eb : Ai Z h22 eb .int (xE.set k (xA.getD f.toNatClampNeg 0)) := (by have z := A22; rw [own_tn (by omega)] at z; exact z)
  replace E_a := E_a.wr W22
  replace F_edgeCount_a := F_edgeCount_a.other W22 (Or.inl ne_a_eb)
  replace F_sources_a := F_sources_a.other W22 (Or.inl ne_a_eb)
  replace A_sr := A_sr.other W22 ne_sr_eb
  replace F_targets_a := F_targets_a.other W22 (Or.inl ne_a_eb)
  replace A_tg := A_tg.other W22 ne_tg_eb
  replace F_edgesBefore_a := F_edgesBefore_a.other W22 (Or.inl ne_a_eb)
  replace F_edgesBeforeTo_a := F_edgesBeforeTo_a.other W22 (Or.inl ne_a_eb)
  replace A_et := A_et.other W22 (Ne.symm ne_eb_et)
  replace F_lastEdgeFrom_a := F_lastEdgeFrom_a.other W22 (Or.inl ne_a_eb)
  replace A_lf := A_lf.other W22 (Ne.symm ne_eb_lf)
  replace F_lastEdgeTo_a := F_lastEdgeTo_a.other W22 (Or.inl ne_a_eb)
  replace A_lt := A_lt.other W22 (Ne.symm ne_eb_lt)
  replace Z0 := Nat.le_trans Z0 (Keep.of_wr W22).1
  replace K0 := K0.wr W22 (Or.inl (by simp))
  have N22 := Fr.snoc X22 N18 g_eb
  refine Go.st (S' := T22.setTop (mkF m 103 #[.val (.ref a), .val (.int f), .val (.int q), .unset] [])) (st22) ?_
  refine Go.st (S' := T22.setTop (mkF m 104 #[.val (.ref a), .val (.int f), .val (.int q), .unset] [(.ref a)])) (fun _ k_ => XS.aloadN X22.here hx rfl (hb hby d4_103) rfl rfl k_) ?_
  obtain ⟨T23, X23, e23, st23⟩ := getF X22 hx hZ hown (host := "") (Or.inl (w16 hw)) Via.refl e22 F_edgesBeforeTo_a (g := (mkF m 104 #[.val (.ref a), .val (.int f), .val (.int q), .unset] [(.ref a)])) rfl rfl (hb hby d4_104)
  refine Go.st (S' := T23.setTop (mkF m 107 #[.val (.ref a), .val (.int f), .val (.int q), .unset] [(.ref et)])) (st23) ?_
  refine Go.st (S' := T23.setTop (mkF m 108 #[.val (.ref a), .val (.int f), .val (.int q), .unset] [(.ref a), (.ref et)])) (fun _ k_ => XS.aloadN X23.here hx rfl (hb hby d4_107) rfl rfl k_) ?_
  obtain ⟨T24, X24, e24, st24⟩ := getF X23 hx hZ hown (host := "") (Or.inl (w33 hw)) Via.refl e23 F_edgeCount_a (g := (mkF m 108 #[.val (.ref a), .val (.int f), .val (.int q), .unset] [(.ref a), (.ref et)])) rfl rfl (hb hby d4_108)
  refine Go.st (S' := T24.setTop (mkF m 111 #[.val (.ref a), .val (.int f), .val (.int q), .unset] [(.int k.toInt32), (.ref et)])) (st24) ?_
  refine Go.st (S' := T24.setTop (mkF m 112 #[.val (.ref a), .val (.int f), .val (.int q), .unset] [(.ref a), (.int k.toInt32), (.ref et)])) (fun _ k_ => XS.aloadN X24.here hx rfl (hb hby d4_111) rfl rfl k_) ?_
  obtain ⟨T25, X25, e25, st25⟩ := getF X24 hx hZ hown (host := "") (Or.inl (w26 hw)) Via.refl e24 F_lastEdgeTo_a (g := (mkF m 112 #[.val (.ref a), .val (.int f), .val (.int q), .unset] [(.ref a), (.int k.toInt32), (.ref et)])) rfl rfl (hb hby d4_112)
  refine Go.st (S' := T25.setTop (mkF m 115 #[.val (.ref a), .val (.int f), .val (.int q), .unset] [(.ref lt), (.int k.toInt32), (.ref et)])) (st25) ?_
  refine Go.st (S' := T25.setTop (mkF m 116 #[.val (.ref a), .val (.int f), .val (.int q), .unset] [(.int q), (.ref lt), (.int k.toInt32), (.ref et)])) (fun _ k_ => XS.iloadN X25.here hx rfl (hb hby d4_115) rfl k_) ?_
  refine Go.st (S' := T25.setTop (mkF m 117 #[.val (.ref a), .val (.int f), .val (.int q), .unset] [(.int (xB.getD q.toNatClampNeg 0)), (.int k.toInt32), (.ref et)])) (A_lt.load X25 hx hZ e25 (j := q) (v := (xB.getD q.toNatClampNeg 0)) q1 (own_gd0 (by rw [l6]; exact q2)) (g := (mkF m 116 #[.val (.ref a), .val (.int f), .val (.int q), .unset] [(.int q), (.ref lt), (.int k.toInt32), (.ref et)])) rfl rfl (hb hby d4_116)) ?_
  obtain ⟨T26, h26, X26, e26, W26, A26, st26⟩ := A_et.store X25 hx hZ e25 (j := k.toInt32) (own_tpos (by omega)) (by rw [own_tn (by omega), l4]; omega) (g := (mkF m 117 #[.val (.ref a), .val (.int f), .val (.int q), .unset] [(.int (xB.getD q.toNatClampNeg 0)), (.int k.toInt32), (.ref et)])) rfl rfl (hb hby d4_117)
  replace A_et : Ai Z h26 et .int (xF.set k (xB.getD q.toNatClampNeg 0)) := (by have z := A26; rw [own_tn (by omega)] at z; exact z)
  replace E_a := E_a.wr W26
  replace F_edgeCount_a := F_edgeCount_a.other W26 (Or.inl ne_a_et)
  replace F_sources_a := F_sources_a.other W26 (Or.inl ne_a_et)
  replace A_sr := A_sr.other W26 ne_sr_et
  replace F_targets_a := F_targets_a.other W26 (Or.inl ne_a_et)
  replace A_tg := A_tg.other W26 ne_tg_et
  replace F_edgesBefore_a := F_edgesBefore_a.other W26 (Or.inl ne_a_et)
  replace A_eb := A_eb.other W26 ne_eb_et
  replace F_edgesBeforeTo_a := F_edgesBeforeTo_a.other W26 (Or.inl ne_a_et)
  replace F_lastEdgeFrom_a := F_lastEdgeFrom_a.other W26 (Or.inl ne_a_et)
  replace A_lf := A_lf.other W26 (Ne.symm ne_et_lf)
  replace F_lastEdgeTo_a := F_lastEdgeTo_a.other W26 (Or.inl ne_a_et)
  replace A_lt := A_lt.other W26 (Ne.symm ne_et_lt)
  replace Z0 := Nat.le_trans Z0 (Keep.of_wr W26).1
  replace K0 := K0.wr W26 (Or.inl (by simp))
  have N26 := Fr.snoc X26 N22 g_et
  refine Go.st (S' := T26.setTop (mkF m 118 #[.val (.ref a), .val (.int f), .val (.int q), .unset] [])) (st26) ?_
  refine Go.st (S' := T26.setTop (mkF m 119 #[.val (.ref a), .val (.int f), .val (.int q), .unset] [(.ref a)])) (fun _ k_ => XS.aloadN X26.here hx rfl (hb hby d4_118) rfl rfl k_) ?_
  obtain ⟨T27, X27, e27, st27⟩ := getF X26 hx hZ hown (host := "") (Or.inl (w20 hw)) Via.refl e26 F_lastEdgeFrom_a (g := (mkF m 119 #[.val (.ref a), .val (.int f), .val (.int q), .unset] [(.ref a)])) rfl rfl (hb hby d4_119)
  refine Go.st (S' := T27.setTop (mkF m 122 #[.val (.ref a), .val (.int f), .val (.int q), .unset] [(.ref lf)])) (st27) ?_
  refine Go.st (S' := T27.setTop (mkF m 123 #[.val (.ref a), .val (.int f), .val (.int q), .unset] [(.int f), (.ref lf)])) (fun _ k_ => XS.iloadN X27.here hx rfl (hb hby d4_122) rfl k_) ?_
  refine Go.st (S' := T27.setTop (mkF m 124 #[.val (.ref a), .val (.int f), .val (.int q), .unset] [(.ref a), (.int f), (.ref lf)])) (fun _ k_ => XS.aloadN X27.here hx rfl (hb hby d4_123) rfl rfl k_) ?_
  obtain ⟨T28, X28, e28, st28⟩ := getF X27 hx hZ hown (host := "") (Or.inl (w33 hw)) Via.refl e27 F_edgeCount_a (g := (mkF m 124 #[.val (.ref a), .val (.int f), .val (.int q), .unset] [(.ref a), (.int f), (.ref lf)])) rfl rfl (hb hby d4_124)
  refine Go.st (S' := T28.setTop (mkF m 127 #[.val (.ref a), .val (.int f), .val (.int q), .unset] [(.int k.toInt32), (.int f), (.ref lf)])) (st28) ?_
  obtain ⟨T29, h29, X29, e29, W29, A29, st29⟩ := A_lf.store X28 hx hZ e28 (j := f) f1 (by rw [l5]; exact f2) (g := (mkF m 127 #[.val (.ref a), .val (.int f), .val (.int q), .unset] [(.int k.toInt32), (.int f), (.ref lf)])) rfl rfl (hb hby d4_127)
  replace A_lf : Ai Z h29 lf .int (xA.set f.toNatClampNeg k.toInt32) := A29
  replace E_a := E_a.wr W29
  replace F_edgeCount_a := F_edgeCount_a.other W29 (Or.inl ne_a_lf)
  replace F_sources_a := F_sources_a.other W29 (Or.inl ne_a_lf)
  replace A_sr := A_sr.other W29 ne_sr_lf
  replace F_targets_a := F_targets_a.other W29 (Or.inl ne_a_lf)
  replace A_tg := A_tg.other W29 ne_tg_lf
  replace F_edgesBefore_a := F_edgesBefore_a.other W29 (Or.inl ne_a_lf)
  replace A_eb := A_eb.other W29 ne_eb_lf
  replace F_edgesBeforeTo_a := F_edgesBeforeTo_a.other W29 (Or.inl ne_a_lf)
  replace A_et := A_et.other W29 ne_et_lf
  replace F_lastEdgeFrom_a := F_lastEdgeFrom_a.other W29 (Or.inl ne_a_lf)
  replace F_lastEdgeTo_a := F_lastEdgeTo_a.other W29 (Or.inl ne_a_lf)
  replace A_lt := A_lt.other W29 (Ne.symm ne_lf_lt)
  replace Z0 := Nat.le_trans Z0 (Keep.of_wr W29).1
  replace K0 := K0.wr W29 (Or.inl (by simp))
  have N29 := Fr.snoc X29 N26 g_lf
  refine Go.st (S' := T29.setTop (mkF m 128 #[.val (.ref a), .val (.int f), .val (.int q), .unset] [])) (st29) ?_
  refine Go.st (S' := T29.setTop (mkF m 129 #[.val (.ref a), .val (.int f), .val (.int q), .unset] [(.ref a)])) (fun _ k_ => XS.aloadN X29.here hx rfl (hb hby d4_128) rfl rfl k_) ?_
  obtain ⟨T30, X30, e30, st30⟩ := getF X29 hx hZ hown (host := "") (Or.inl (w26 hw)) Via.refl e29 F_lastEdgeTo_a (g := (mkF m 129 #[.val (.ref a), .val (.int f), .val (.int q), .unset] [(.ref a)])) rfl rfl (hb hby d4_129)
  refine Go.st (S' := T30.setTop (mkF m 132 #[.val (.ref a), .val (.int f), .val (.int q), .unset] [(.ref lt)])) (st30) ?_
  refine Go.st (S' := T30.setTop (mkF m 133 #[.val (.ref a), .val (.int f), .val (.int q), .unset] [(.int q), (.ref lt)])) (fun _ k_ => XS.iloadN X30.here hx rfl (hb hby d4_132) rfl k_) ?_
  refine Go.st (S' := T30.setTop (mkF m 134 #[.val (.ref a), .val (.int f), .val (.int q), .unset] [(.ref a), (.int q), (.ref lt)])) (fun _ k_ => XS.aloadN X30.here hx rfl (hb hby d4_133) rfl rfl k_) ?_
  refine Go.st (S' := T30.setTop (mkF m 135 #[.val (.ref a), .val (.int f), .val (.int q), .unset] [(.ref a), (.ref a), (.int q), (.ref lt)])) (fun _ k_ => XS.dup X30.here hx rfl (hb hby d4_134) rfl rfl k_) ?_
  obtain ⟨T31, X31, e31, st31⟩ := getF X30 hx hZ hown (host := "") (Or.inl (w33 hw)) Via.refl e30 F_edgeCount_a (g := (mkF m 135 #[.val (.ref a), .val (.int f), .val (.int q), .unset] [(.ref a), (.ref a), (.int q), (.ref lt)])) rfl rfl (hb hby d4_135)
  refine Go.st (S' := T31.setTop (mkF m 138 #[.val (.ref a), .val (.int f), .val (.int q), .unset] [(.int k.toInt32), (.ref a), (.int q), (.ref lt)])) (st31) ?_
  refine Go.st (S' := T31.setTop (mkF m 139 #[.val (.ref a), .val (.int f), .val (.int q), .unset] [(.int k.toInt32), (.ref a), (.int k.toInt32), (.int q), (.ref lt)])) (fun _ k_ => XS.dupX1 X31.here hx rfl (hb hby d4_138) rfl rfl rfl k_) ?_
  refine Go.st (S' := T31.setTop (mkF m 140 #[.val (.ref a), .val (.int f), .val (.int q), .unset] [(.int (1 : Int32)), (.int k.toInt32), (.ref a), (.int k.toInt32), (.int q), (.ref lt)])) (fun _ k_ => XS.iconst X31.here hx rfl (hb hby d4_139) k_) ?_
  refine Go.st (S' := T31.setTop (mkF m 141 #[.val (.ref a), .val (.int f), .val (.int q), .unset] [(.int (k.toInt32 + (1 : Int32))), (.ref a), (.int k.toInt32), (.int q), (.ref lt)])) (fun _ k_ => XS.iadd X31.here hx rfl (hb hby d4_140) rfl k_) ?_
  obtain ⟨T32, h32, X32, e32, W32, st32⟩ := putF X31 hx hZ hown (host := "") (Or.inl (w33 hw)) Via.refl e31 F_edgeCount_a E_a (Or.inl (w34 hw)) (w1 hw) (ty := .int) (by decide) rfl rfl (g := (mkF m 141 #[.val (.ref a), .val (.int f), .val (.int q), .unset] [(.int (k.toInt32 + (1 : Int32))), (.ref a), (.int k.toInt32), (.int q), (.ref lt)])) rfl rfl (hb hby d4_141)
  replace F_edgeCount_a := F_edgeCount_a.same W32
  replace E_a := E_a.wr W32
  replace F_sources_a := F_sources_a.other W32 (Or.inr (slot_ne (Or.inl (w11 hw)) (Or.inl (w34 hw)) (by decide) (t := (.array .int)) (t' := .int) (by decide) (by decide)))
  replace A_sr := A_sr.other W32 (Ne.symm ne_a_sr)
  replace F_targets_a := F_targets_a.other W32 (Or.inr (slot_ne (Or.inl (w13 hw)) (Or.inl (w34 hw)) (by decide) (t := (.array .int)) (t' := .int) (by decide) (by decide)))
  replace A_tg := A_tg.other W32 (Ne.symm ne_a_tg)
  replace F_edgesBefore_a := F_edgesBefore_a.other W32 (Or.inr (slot_ne (Or.inl (w15 hw)) (Or.inl (w34 hw)) (by decide) (t := (.array .int)) (t' := .int) (by decide) (by decide)))
  replace A_eb := A_eb.other W32 (Ne.symm ne_a_eb)
  replace F_edgesBeforeTo_a := F_edgesBeforeTo_a.other W32 (Or.inr (slot_ne (Or.inl (w17 hw)) (Or.inl (w34 hw)) (by decide) (t := (.array .int)) (t' := .int) (by decide) (by decide)))
  replace A_et := A_et.other W32 (Ne.symm ne_a_et)
  replace F_lastEdgeFrom_a := F_lastEdgeFrom_a.other W32 (Or.inr (slot_ne (Or.inr (w21 hw)) (Or.inl (w34 hw)) (by decide) (t := (.array .int)) (t' := .int) (by decide) (by decide)))
  replace A_lf := A_lf.other W32 (Ne.symm ne_a_lf)
  replace F_lastEdgeTo_a := F_lastEdgeTo_a.other W32 (Or.inr (slot_ne (Or.inr (w27 hw)) (Or.inl (w34 hw)) (by decide) (t := (.array .int)) (t' := .int) (by decide) (by decide)))
  replace A_lt := A_lt.other W32 (Ne.symm ne_a_lt)
  replace Z0 := Nat.le_trans Z0 (Keep.of_wr W32).1
  replace K0 := K0.wr W32 (Or.inl (by simp))
  have N32 := Fr.snoc X32 N29 g_a
  refine Go.st (S' := T32.setTop (mkF m 144 #[.val (.ref a), .val (.int f), .val (.int q), .unset] [(.int k.toInt32), (.int q), (.ref lt)])) (st32) ?_
  obtain ⟨T33, h33, X33, e33, W33, A33, st33⟩ := A_lt.store X32 hx hZ e32 (j := q) q1 (by rw [l6]; exact q2) (g := (mkF m 144 #[.val (.ref a), .val (.int f), .val (.int q), .unset] [(.int k.toInt32), (.int q), (.ref lt)])) rfl rfl (hb hby d4_144)
  replace A_lt : Ai Z h33 lt .int (xB.set q.toNatClampNeg k.toInt32) := A33
  replace E_a := E_a.wr W33
  replace F_edgeCount_a := F_edgeCount_a.other W33 (Or.inl ne_a_lt)
  replace F_sources_a := F_sources_a.other W33 (Or.inl ne_a_lt)
  replace A_sr := A_sr.other W33 ne_sr_lt
  replace F_targets_a := F_targets_a.other W33 (Or.inl ne_a_lt)
  replace A_tg := A_tg.other W33 ne_tg_lt
  replace F_edgesBefore_a := F_edgesBefore_a.other W33 (Or.inl ne_a_lt)
  replace A_eb := A_eb.other W33 ne_eb_lt
  replace F_edgesBeforeTo_a := F_edgesBeforeTo_a.other W33 (Or.inl ne_a_lt)
  replace A_et := A_et.other W33 ne_et_lt
  replace F_lastEdgeFrom_a := F_lastEdgeFrom_a.other W33 (Or.inl ne_a_lt)
  replace A_lf := A_lf.other W33 ne_lf_lt
  replace F_lastEdgeTo_a := F_lastEdgeTo_a.other W33 (Or.inl ne_a_lt)
  replace Z0 := Nat.le_trans Z0 (Keep.of_wr W33).1
  replace K0 := K0.wr W33 (Or.inl (by simp))
  have N33 := Fr.snoc X33 N32 g_lt
  refine Go.st (S' := T33.setTop (mkF m 145 #[.val (.ref a), .val (.int f), .val (.int q), .unset] [])) (st33) ?_
  exact Go.retV X33 hx hret hlk (hb hby d4_145) (by decide) (by decide) (by rw [e33]; exact ⟨rfl, N33, K0, by rw [own_t1] at F_edgeCount_a; exact ⟨E_a, F_edgeCount_a, F_sources_a, F_targets_a, F_edgesBefore_a, F_edgesBeforeTo_a, F_lastEdgeFrom_a, F_lastEdgeTo_a, A_sr, A_tg, A_eb, A_et, A_lf, A_lt⟩⟩)
theorem ef_dg_keep (m : MethodId) (x0 : Addr) (x1 : Int32) : entryFrame m #[(.ref x0), (.int x1)] 3 = mkF m 0 #[.val (.ref x0), .val (.int x1), .unset] [] := by first | (simp [entryFrame, mkF, argsToLocals, Value.category]; done) | rfl
set_option maxRecDepth 65536 in
set_option maxHeartbeats 40000000 in
theorem dg_keep (l : Launch) (Z : State) (a0 : Array Value) (hw : ∀ d ∈ tables_1, d.before a0 Z = true) (a sr tg eb et lf lt : Addr) (cn : Int32) (xS xT xE xF xA xB : List Int32) (h0 : Heap) (n0 : Nat) (Z0 : n0 ≤ h0.size) (H : DG Z h0 a sr tg eb et lf lt (3 : Int32) xS xT xE xF xA xB) (hd : own_dis n0 a sr tg eb et lf lt) (hl : xS.length = 64 ∧ xT.length = 64 ∧ xE.length = 64 ∧ xF.length = 64 ∧ xA.length = 2 ∧ xB.length = 2) (hS : ∀ i, i < 3 → (xS.getD i 0 = 0 ∨ xS.getD i 0 = 1) ∧ (xT.getD i 0 = 0 ∨ xT.getD i 0 = 1)) (hcn : ¬ cn < 0) :
    Con l Z (⟨"io/isoproof/check/polygraph/Digraph", "keepEdges", "(I)V"⟩ : MethodName) prog_28_method_5_code 3 none [] ({ frames := 0, cells := 0, slots := 0, locals := 0 } : Room) #[(.ref a), (.int cn)] h0 (fun v h L => v = none ∧ Fr n0 L ∧ Keep h0 h [a, sr, tg, eb, et, lf, lt] ∧ ∃ r : Nat, r ≤ 3 ∧ r.toInt32 = (if (3 : Int32) < cn then 3 else cn) ∧ DG Z h a sr tg eb et lf lt r.toInt32 xS xT xE xF (own_k xA xS xE r) (own_k xB xT xF r)) := by
  refine Con.mk (plainFor_of_name pn1) ?_
  intro p e s m below meth c T0 hx hby hml hown hnm hret hlk hZ X0 e0
  have hown : s.vm.findClass "io/isoproof/check/polygraph/Digraph" = some m.cls := hown
  have hnm : meth.name = "keepEdges" := hnm
  have N0 := Fr.nil n0
  have K0 := Keep.refl h0 [a, sr, tg, eb, et, lf, lt]
  refine Go.cast (ef_dg_keep m a cn) ?_
  obtain ⟨E_a, F_edgeCount_a, F_sources_a, F_targets_a, F_edgesBefore_a, F_edgesBeforeTo_a, F_lastEdgeFrom_a, F_lastEdgeTo_a, A_sr, A_tg, A_eb, A_et, A_lf, A_lt⟩ := H
  obtain ⟨ne_a_sr, ne_a_tg, ne_a_eb, ne_a_et, ne_a_lf, ne_a_lt, ne_sr_tg, ne_sr_eb, ne_sr_et, ne_sr_lf, ne_sr_lt, ne_tg_eb, ne_tg_et, ne_tg_lf, ne_tg_lt, ne_eb_et, ne_eb_lf, ne_eb_lt, ne_et_lf, ne_et_lt, ne_lf_lt, g_a, g_sr, g_tg, g_eb, g_et, g_lf, g_lt⟩ := hd
  obtain ⟨l1, l2, l3, l4, l5, l6⟩ := hl
  refine Go.st (S' := T0.setTop (mkF m 1 #[.val (.ref a), .val (.int cn), .unset] [(.ref a)])) (fun _ k_ => XS.aloadN X0.here hx rfl (hb hby d5_0) rfl rfl k_) ?_
  obtain ⟨T11, X11, e11, st11⟩ := getF X0 hx hZ hown (host := "") (Or.inl (w33 hw)) Via.refl e0 F_edgeCount_a (g := (mkF m 1 #[.val (.ref a), .val (.int cn), .unset] [(.ref a)])) rfl rfl (hb hby d5_1)
  refine Go.st (S' := T11.setTop (mkF m 4 #[.val (.ref a), .val (.int cn), .unset] [(.int (3 : Int32))])) (st11) ?_
  refine Go.st (S' := T11.setTop (mkF m 5 #[.val (.ref a), .val (.int cn), .unset] [(.int cn), (.int (3 : Int32))])) (fun _ k_ => XS.iloadN X11.here hx rfl (hb hby d5_4) rfl k_) ?_
  by_cases hc5_3 : cn < (3 : Int32)
  · skip
    refine Go.st (S' := T11.setTop (mkF m 8 #[.val (.ref a), .val (.int cn), .unset] [])) (fun _ k_ => XS.icmpNo X11.here hx rfl (hb hby d5_5) rfl (tlt hc5_3).2.2.2 k_) ?_
    refine Go.st (S' := T11.setTop (mkF m 9 #[.val (.ref a), .val (.int cn), .unset] [(.ref a)])) (fun _ k_ => XS.aloadN X11.here hx rfl (hb hby d5_8) rfl rfl k_) ?_
    refine Go.st (S' := T11.setTop (mkF m 10 #[.val (.ref a), .val (.int cn), .unset] [(.ref a), (.ref a)])) (fun _ k_ => XS.dup X11.here hx rfl (hb hby d5_9) rfl rfl k_) ?_
    obtain ⟨T12, X12, e12, st12⟩ := getF X11 hx hZ hown (host := "") (Or.inl (w33 hw)) Via.refl e11 F_edgeCount_a (g := (mkF m 10 #[.val (.ref a), .val (.int cn), .unset] [(.ref a), (.ref a)])) rfl rfl (hb hby d5_10)
    refine Go.st (S' := T12.setTop (mkF m 13 #[.val (.ref a), .val (.int cn), .unset] [(.int (3 : Int32)), (.ref a)])) (st12) ?_
    refine Go.st (S' := T12.setTop (mkF m 14 #[.val (.ref a), .val (.int cn), .unset] [(.int (1 : Int32)), (.int (3 : Int32)), (.ref a)])) (fun _ k_ => XS.iconst X12.here hx rfl (hb hby d5_13) k_) ?_
    refine Go.st (S' := T12.setTop (mkF m 15 #[.val (.ref a), .val (.int cn), .unset] [(.int ((3 : Int32) - (1 : Int32))), (.ref a)])) (fun _ k_ => XS.isub X12.here hx rfl (hb hby d5_14) rfl k_) ?_
    rw [show ((3 : Int32) - (1 : Int32)) = (2 : Int32) from (by decide)]
    refine Go.st (S' := T12.setTop (mkF m 16 #[.val (.ref a), .val (.int cn), .unset] [(.int (2 : Int32)), (.ref a), (.int (2 : Int32))])) (fun _ k_ => XS.dupX1 X12.here hx rfl (hb hby d5_15) rfl rfl rfl k_) ?_
    obtain ⟨T13, h13, X13, e13, W13, st13⟩ := putF X12 hx hZ hown (host := "") (Or.inl (w33 hw)) Via.refl e12 F_edgeCount_a E_a (Or.inl (w34 hw)) (w1 hw) (ty := .int) (by decide) rfl rfl (g := (mkF m 16 #[.val (.ref a), .val (.int cn), .unset] [(.int (2 : Int32)), (.ref a), (.int (2 : Int32))])) rfl rfl (hb hby d5_16)
    replace F_edgeCount_a := F_edgeCount_a.same W13
    replace E_a := E_a.wr W13
    replace F_sources_a := F_sources_a.other W13 (Or.inr (slot_ne (Or.inl (w11 hw)) (Or.inl (w34 hw)) (by decide) (t := (.array .int)) (t' := .int) (by decide) (by decide)))
    replace A_sr := A_sr.other W13 (Ne.symm ne_a_sr)
    replace F_targets_a := F_targets_a.other W13 (Or.inr (slot_ne (Or.inl (w13 hw)) (Or.inl (w34 hw)) (by decide) (t := (.array .int)) (t' := .int) (by decide) (by decide)))
    replace A_tg := A_tg.other W13 (Ne.symm ne_a_tg)
    replace F_edgesBefore_a := F_edgesBefore_a.other W13 (Or.inr (slot_ne (Or.inl (w15 hw)) (Or.inl (w34 hw)) (by decide) (t := (.array .int)) (t' := .int) (by decide) (by decide)))
    replace A_eb := A_eb.other W13 (Ne.symm ne_a_eb)
    replace F_edgesBeforeTo_a := F_edgesBeforeTo_a.other W13 (Or.inr (slot_ne (Or.inl (w17 hw)) (Or.inl (w34 hw)) (by decide) (t := (.array .int)) (t' := .int) (by decide) (by decide)))
    replace A_et := A_et.other W13 (Ne.symm ne_a_et)
    replace F_lastEdgeFrom_a := F_lastEdgeFrom_a.other W13 (Or.inr (slot_ne (Or.inr (w21 hw)) (Or.inl (w34 hw)) (by decide) (t := (.array .int)) (t' := .int) (by decide) (by decide)))
    replace A_lf := A_lf.other W13 (Ne.symm ne_a_lf)
    replace F_lastEdgeTo_a := F_lastEdgeTo_a.other W13 (Or.inr (slot_ne (Or.inr (w27 hw)) (Or.inl (w34 hw)) (by decide) (t := (.array .int)) (t' := .int) (by decide) (by decide)))
    replace A_lt := A_lt.other W13 (Ne.symm ne_a_lt)
    replace Z0 := Nat.le_trans Z0 (Keep.of_wr W13).1
    replace K0 := K0.wr W13 (Or.inl (by simp))
    have N13 := Fr.snoc X13 N0 g_a
    refine Go.st (S' := T13.setTop (mkF m 19 #[.val (.ref a), .val (.int cn), .unset] [(.int (2 : Int32))])) (st13) ?_
    refine Go.st (S' := T13.setTop (mkF m 20 #[.val (.ref a), .val (.int cn), .val (.int (2 : Int32))] [])) (fun _ k_ => XS.istoreN X13.here hx rfl (hb hby d5_19) rfl (l' := #[.val (.ref a), .val (.int cn), .val (.int (2 : Int32))]) rfl k_) ?_
    refine Go.st (S' := T13.setTop (mkF m 21 #[.val (.ref a), .val (.int cn), .val (.int (2 : Int32))] [(.ref a)])) (fun _ k_ => XS.aloadN X13.here hx rfl (hb hby d5_20) rfl rfl k_) ?_
    obtain ⟨T14, X14, e14, st14⟩ := getF X13 hx hZ hown (host := "") (Or.inl (w20 hw)) Via.refl e13 F_lastEdgeFrom_a (g := (mkF m 21 #[.val (.ref a), .val (.int cn), .val (.int (2 : Int32))] [(.ref a)])) rfl rfl (hb hby d5_21)
    refine Go.st (S' := T14.setTop (mkF m 24 #[.val (.ref a), .val (.int cn), .val (.int (2 : Int32))] [(.ref lf)])) (st14) ?_
    refine Go.st (S' := T14.setTop (mkF m 25 #[.val (.ref a), .val (.int cn), .val (.int (2 : Int32))] [(.ref a), (.ref lf)])) (fun _ k_ => XS.aloadN X14.here hx rfl (hb hby d5_24) rfl rfl k_) ?_
    obtain ⟨T15, X15, e15, st15⟩ := getF X14 hx hZ hown (host := "") (Or.inl (w10 hw)) Via.refl e14 F_sources_a (g := (mkF m 25 #[.val (.ref a), .val (.int cn), .val (.int (2 : Int32))] [(.ref a), (.ref lf)])) rfl rfl (hb hby d5_25)
    refine Go.st (S' := T15.setTop (mkF m 28 #[.val (.ref a), .val (.int cn), .val (.int (2 : Int32))] [(.ref sr), (.ref lf)])) (st15) ?_
    refine Go.st (S' := T15.setTop (mkF m 29 #[.val (.ref a), .val (.int cn), .val (.int (2 : Int32))] [(.int (2 : Int32)), (.ref sr), (.ref lf)])) (fun _ k_ => XS.iloadN X15.here hx rfl (hb hby d5_28) rfl k_) ?_
    refine Go.st (S' := T15.setTop (mkF m 30 #[.val (.ref a), .val (.int cn), .val (.int (2 : Int32))] [(.int (xS.getD 2 0)), (.ref lf)])) (A_sr.load X15 hx hZ e15 (j := (2 : Int32)) (v := (xS.getD 2 0)) (by decide) (own_gd0 (by rw [l1]; decide)) (g := (mkF m 29 #[.val (.ref a), .val (.int cn), .val (.int (2 : Int32))] [(.int (2 : Int32)), (.ref sr), (.ref lf)])) rfl rfl (hb hby d5_29)) ?_
    refine Go.st (S' := T15.setTop (mkF m 31 #[.val (.ref a), .val (.int cn), .val (.int (2 : Int32))] [(.ref a), (.int (xS.getD 2 0)), (.ref lf)])) (fun _ k_ => XS.aloadN X15.here hx rfl (hb hby d5_30) rfl rfl k_) ?_
    obtain ⟨T16, X16, e16, st16⟩ := getF X15 hx hZ hown (host := "") (Or.inl (w14 hw)) Via.refl e15 F_edgesBefore_a (g := (mkF m 31 #[.val (.ref a), .val (.int cn), .val (.int (2 : Int32))] [(.ref a), (.int (xS.getD 2 0)), (.ref lf)])) rfl rfl (hb hby d5_31)
    refine Go.st (S' := T16.setTop (mkF m 34 #[.val (.ref a), .val (.int cn), .val (.int (2 : Int32))] [(.ref eb), (.int (xS.getD 2 0)), (.ref lf)])) (st16) ?_
    refine Go.st (S' := T16.setTop (mkF m 35 #[.val (.ref a), .val (.int cn), .val (.int (2 : Int32))] [(.int (2 : Int32)), (.ref eb), (.int (xS.getD 2 0)), (.ref lf)])) (fun _ k_ => XS.iloadN X16.here hx rfl (hb hby d5_34) rfl k_) ?_
    refine Go.st (S' := T16.setTop (mkF m 36 #[.val (.ref a), .val (.int cn), .val (.int (2 : Int32))] [(.int (xE.getD 2 0)), (.int (xS.getD 2 0)), (.ref lf)])) (A_eb.load X16 hx hZ e16 (j := (2 : Int32)) (v := (xE.getD 2 0)) (by decide) (own_gd0 (by rw [l3]; decide)) (g := (mkF m 35 #[.val (.ref a), .val (.int cn), .val (.int (2 : Int32))] [(.int (2 : Int32)), (.ref eb), (.int (xS.getD 2 0)), (.ref lf)])) rfl rfl (hb hby d5_35)) ?_
    obtain ⟨T17, h17, X17, e17, W17, A17, st17⟩ := A_lf.store X16 hx hZ e16 (j := (xS.getD 2 0)) (own_i01 (hS 2 (by decide)).1).1 (by rw [l5]; exact (own_i01 (hS 2 (by decide)).1).2) (g := (mkF m 36 #[.val (.ref a), .val (.int cn), .val (.int (2 : Int32))] [(.int (xE.getD 2 0)), (.int (xS.getD 2 0)), (.ref lf)])) rfl rfl (hb hby d5_36)
    replace A_lf : Ai Z h17 lf .int (own_k xA xS xE 2) := A17
    replace E_a := E_a.wr W17
    replace F_edgeCount_a := F_edgeCount_a.other W17 (Or.inl ne_a_lf)
    replace F_sources_a := F_sources_a.other W17 (Or.inl ne_a_lf)
    replace A_sr := A_sr.other W17 ne_sr_lf
    replace F_targets_a := F_targets_a.other W17 (Or.inl ne_a_lf)
    replace A_tg := A_tg.other W17 ne_tg_lf
    replace F_edgesBefore_a := F_edgesBefore_a.other W17 (Or.inl ne_a_lf)
    replace A_eb := A_eb.other W17 ne_eb_lf
    replace F_edgesBeforeTo_a := F_edgesBeforeTo_a.other W17 (Or.inl ne_a_lf)
    replace A_et := A_et.other W17 ne_et_lf
    replace F_lastEdgeFrom_a := F_lastEdgeFrom_a.other W17 (Or.inl ne_a_lf)
    replace F_lastEdgeTo_a := F_lastEdgeTo_a.other W17 (Or.inl ne_a_lf)
    replace A_lt := A_lt.other W17 (Ne.symm ne_lf_lt)
    replace Z0 := Nat.le_trans Z0 (Keep.of_wr W17).1
    replace K0 := K0.wr W17 (Or.inl (by simp))
    have N17 := Fr.snoc X17 N13 g_lf
    refine Go.st (S' := T17.setTop (mkF m 37 #[.val (.ref a), .val (.int cn), .val (.int (2 : Int32))] [])) (st17) ?_
    refine Go.st (S' := T17.setTop (mkF m 38 #[.val (.ref a), .val (.int cn), .val (.int (2 : Int32))] [(.ref a)])) (fun _ k_ => XS.aloadN X17.here hx rfl (hb hby d5_37) rfl rfl k_) ?_
    obtain ⟨T18, X18, e18, st18⟩ := getF X17 hx hZ hown (host := "") (Or.inl (w26 hw)) Via.refl e17 F_lastEdgeTo_a (g := (mkF m 38 #[.val (.ref a), .val (.int cn), .val (.int (2 : Int32))] [(.ref a)])) rfl rfl (hb hby d5_38)
    refine Go.st (S' := T18.setTop (mkF m 41 #[.val (.ref a), .val (.int cn), .val (.int (2 : Int32))] [(.ref lt)])) (st18) ?_
    refine Go.st (S' := T18.setTop (mkF m 42 #[.val (.ref a), .val (.int cn), .val (.int (2 : Int32))] [(.ref a), (.ref lt)])) (fun _ k_ => XS.aloadN X18.here hx rfl (hb hby d5_41) rfl rfl k_) ?_
    obtain ⟨T19, X19, e19, st19⟩ := getF X18 hx hZ hown (host := "") (Or.inl (w12 hw)) Via.refl e18 F_targets_a (g := (mkF m 42 #[.val (.ref a), .val (.int cn), .val (.int (2 : Int32))] [(.ref a), (.ref lt)])) rfl rfl (hb hby d5_42)
    refine Go.st (S' := T19.setTop (mkF m 45 #[.val (.ref a), .val (.int cn), .val (.int (2 : Int32))] [(.ref tg), (.ref lt)])) (st19) ?_
    refine Go.st (S' := T19.setTop (mkF m 46 #[.val (.ref a), .val (.int cn), .val (.int (2 : Int32))] [(.int (2 : Int32)), (.ref tg), (.ref lt)])) (fun _ k_ => XS.iloadN X19.here hx rfl (hb hby d5_45) rfl k_) ?_
    refine Go.st (S' := T19.setTop (mkF m 47 #[.val (.ref a), .val (.int cn), .val (.int (2 : Int32))] [(.int (xT.getD 2 0)), (.ref lt)])) (A_tg.load X19 hx hZ e19 (j := (2 : Int32)) (v := (xT.getD 2 0)) (by decide) (own_gd0 (by rw [l2]; decide)) (g := (mkF m 46 #[.val (.ref a), .val (.int cn), .val (.int (2 : Int32))] [(.int (2 : Int32)), (.ref tg), (.ref lt)])) rfl rfl (hb hby d5_46)) ?_
    refine Go.st (S' := T19.setTop (mkF m 48 #[.val (.ref a), .val (.int cn), .val (.int (2 : Int32))] [(.ref a), (.int (xT.getD 2 0)), (.ref lt)])) (fun _ k_ => XS.aloadN X19.here hx rfl (hb hby d5_47) rfl rfl k_) ?_
    obtain ⟨T20, X20, e20, st20⟩ := getF X19 hx hZ hown (host := "") (Or.inl (w16 hw)) Via.refl e19 F_edgesBeforeTo_a (g := (mkF m 48 #[.val (.ref a), .val (.int cn), .val (.int (2 : Int32))] [(.ref a), (.int (xT.getD 2 0)), (.ref lt)])) rfl rfl (hb hby d5_48)
    refine Go.st (S' := T20.setTop (mkF m 51 #[.val (.ref a), .val (.int cn), .val (.int (2 : Int32))] [(.ref et), (.int (xT.getD 2 0)), (.ref lt)])) (st20) ?_
    refine Go.st (S' := T20.setTop (mkF m 52 #[.val (.ref a), .val (.int cn), .val (.int (2 : Int32))] [(.int (2 : Int32)), (.ref et), (.int (xT.getD 2 0)), (.ref lt)])) (fun _ k_ => XS.iloadN X20.here hx rfl (hb hby d5_51) rfl k_) ?_
    refine Go.st (S' := T20.setTop (mkF m 53 #[.val (.ref a), .val (.int cn), .val (.int (2 : Int32))] [(.int (xF.getD 2 0)), (.int (xT.getD 2 0)), (.ref lt)])) (A_et.load X20 hx hZ e20 (j := (2 : Int32)) (v := (xF.getD 2 0)) (by decide) (own_gd0 (by rw [l4]; decide)) (g := (mkF m 52 #[.val (.ref a), .val (.int cn), .val (.int (2 : Int32))] [(.int (2 : Int32)), (.ref et), (.int (xT.getD 2 0)), (.ref lt)])) rfl rfl (hb hby d5_52)) ?_
    obtain ⟨T21, h21, X21, e21, W21, A21, st21⟩ := A_lt.store X20 hx hZ e20 (j := (xT.getD 2 0)) (own_i01 (hS 2 (by decide)).2).1 (by rw [l6]; exact (own_i01 (hS 2 (by decide)).2).2) (g := (mkF m 53 #[.val (.ref a), .val (.int cn), .val (.int (2 : Int32))] [(.int (xF.getD 2 0)), (.int (xT.getD 2 0)), (.ref lt)])) rfl rfl (hb hby d5_53)
    replace A_lt : Ai Z h21 lt .int (own_k xB xT xF 2) := A21
    replace E_a := E_a.wr W21
    replace F_edgeCount_a := F_edgeCount_a.other W21 (Or.inl ne_a_lt)
    replace F_sources_a := F_sources_a.other W21 (Or.inl ne_a_lt)
    replace A_sr := A_sr.other W21 ne_sr_lt
    replace F_targets_a := F_targets_a.other W21 (Or.inl ne_a_lt)
    replace A_tg := A_tg.other W21 ne_tg_lt
    replace F_edgesBefore_a := F_edgesBefore_a.other W21 (Or.inl ne_a_lt)
    replace A_eb := A_eb.other W21 ne_eb_lt
    replace F_edgesBeforeTo_a := F_edgesBeforeTo_a.other W21 (Or.inl ne_a_lt)
    replace A_et := A_et.other W21 ne_et_lt
    replace F_lastEdgeFrom_a := F_lastEdgeFrom_a.other W21 (Or.inl ne_a_lt)
    replace A_lf := A_lf.other W21 ne_lf_lt
    replace F_lastEdgeTo_a := F_lastEdgeTo_a.other W21 (Or.inl ne_a_lt)
    replace Z0 := Nat.le_trans Z0 (Keep.of_wr W21).1
    replace K0 := K0.wr W21 (Or.inl (by simp))
    have N21 := Fr.snoc X21 N17 g_lt
    refine Go.st (S' := T21.setTop (mkF m 54 #[.val (.ref a), .val (.int cn), .val (.int (2 : Int32))] [])) (st21) ?_
    refine Go.st (S' := T21.setTop (mkF m 0 #[.val (.ref a), .val (.int cn), .val (.int (2 : Int32))] [])) (fun _ k_ => XS.goto X21.here hx rfl (pc0 := 54) (pc' := 0) rfl (hb hby d5_54) (by decide) (by decide) k_) ?_
    refine Go.st (S' := T21.setTop (mkF m 1 #[.val (.ref a), .val (.int cn), .val (.int (2 : Int32))] [(.ref a)])) (fun _ k_ => XS.aloadN X21.here hx rfl (hb hby d5_0) rfl rfl k_) ?_
    obtain ⟨T22, X22, e22, st22⟩ := getF X21 hx hZ hown (host := "") (Or.inl (w33 hw)) Via.refl e21 F_edgeCount_a (g := (mkF m 1 #[.val (.ref a), .val (.int cn), .val (.int (2 : Int32))] [(.ref a)])) rfl rfl (hb hby d5_1)
    refine Go.st (S' := T22.setTop (mkF m 4 #[.val (.ref a), .val (.int cn), .val (.int (2 : Int32))] [(.int (2 : Int32))])) (st22) ?_
    refine Go.st (S' := T22.setTop (mkF m 5 #[.val (.ref a), .val (.int cn), .val (.int (2 : Int32))] [(.int cn), (.int (2 : Int32))])) (fun _ k_ => XS.iloadN X22.here hx rfl (hb hby d5_4) rfl k_) ?_
    by_cases hc5_2 : cn < (2 : Int32)
    · skip
      refine Go.st (S' := T22.setTop (mkF m 8 #[.val (.ref a), .val (.int cn), .val (.int (2 : Int32))] [])) (fun _ k_ => XS.icmpNo X22.here hx rfl (hb hby d5_5) rfl (tlt hc5_2).2.2.2 k_) ?_
      refine Go.st (S' := T22.setTop (mkF m 9 #[.val (.ref a), .val (.int cn), .val (.int (2 : Int32))] [(.ref a)])) (fun _ k_ => XS.aloadN X22.here hx rfl (hb hby d5_8) rfl rfl k_) ?_
      refine Go.st (S' := T22.setTop (mkF m 10 #[.val (.ref a), .val (.int cn), .val (.int (2 : Int32))] [(.ref a), (.ref a)])) (fun _ k_ => XS.dup X22.here hx rfl (hb hby d5_9) rfl rfl k_) ?_
      obtain ⟨T23, X23, e23, st23⟩ := getF X22 hx hZ hown (host := "") (Or.inl (w33 hw)) Via.refl e22 F_edgeCount_a (g := (mkF m 10 #[.val (.ref a), .val (.int cn), .val (.int (2 : Int32))] [(.ref a), (.ref a)])) rfl rfl (hb hby d5_10)
      refine Go.st (S' := T23.setTop (mkF m 13 #[.val (.ref a), .val (.int cn), .val (.int (2 : Int32))] [(.int (2 : Int32)), (.ref a)])) (st23) ?_
      refine Go.st (S' := T23.setTop (mkF m 14 #[.val (.ref a), .val (.int cn), .val (.int (2 : Int32))] [(.int (1 : Int32)), (.int (2 : Int32)), (.ref a)])) (fun _ k_ => XS.iconst X23.here hx rfl (hb hby d5_13) k_) ?_
      refine Go.st (S' := T23.setTop (mkF m 15 #[.val (.ref a), .val (.int cn), .val (.int (2 : Int32))] [(.int ((2 : Int32) - (1 : Int32))), (.ref a)])) (fun _ k_ => XS.isub X23.here hx rfl (hb hby d5_14) rfl k_) ?_
      rw [show ((2 : Int32) - (1 : Int32)) = (1 : Int32) from (by decide)]
      refine Go.st (S' := T23.setTop (mkF m 16 #[.val (.ref a), .val (.int cn), .val (.int (2 : Int32))] [(.int (1 : Int32)), (.ref a), (.int (1 : Int32))])) (fun _ k_ => XS.dupX1 X23.here hx rfl (hb hby d5_15) rfl rfl rfl k_) ?_
      obtain ⟨T24, h24, X24, e24, W24, st24⟩ := putF X23 hx hZ hown (host := "") (Or.inl (w33 hw)) Via.refl e23 F_edgeCount_a E_a (Or.inl (w34 hw)) (w1 hw) (ty := .int) (by decide) rfl rfl (g := (mkF m 16 #[.val (.ref a), .val (.int cn), .val (.int (2 : Int32))] [(.int (1 : Int32)), (.ref a), (.int (1 : Int32))])) rfl rfl (hb hby d5_16)
      replace F_edgeCount_a := F_edgeCount_a.same W24
      replace E_a := E_a.wr W24
      replace F_sources_a := F_sources_a.other W24 (Or.inr (slot_ne (Or.inl (w11 hw)) (Or.inl (w34 hw)) (by decide) (t := (.array .int)) (t' := .int) (by decide) (by decide)))
      replace A_sr := A_sr.other W24 (Ne.symm ne_a_sr)
      replace F_targets_a := F_targets_a.other W24 (Or.inr (slot_ne (Or.inl (w13 hw)) (Or.inl (w34 hw)) (by decide) (t := (.array .int)) (t' := .int) (by decide) (by decide)))
      replace A_tg := A_tg.other W24 (Ne.symm ne_a_tg)
      replace F_edgesBefore_a := F_edgesBefore_a.other W24 (Or.inr (slot_ne (Or.inl (w15 hw)) (Or.inl (w34 hw)) (by decide) (t := (.array .int)) (t' := .int) (by decide) (by decide)))
      replace A_eb := A_eb.other W24 (Ne.symm ne_a_eb)
      replace F_edgesBeforeTo_a := F_edgesBeforeTo_a.other W24 (Or.inr (slot_ne (Or.inl (w17 hw)) (Or.inl (w34 hw)) (by decide) (t := (.array .int)) (t' := .int) (by decide) (by decide)))
      replace A_et := A_et.other W24 (Ne.symm ne_a_et)
      replace F_lastEdgeFrom_a := F_lastEdgeFrom_a.other W24 (Or.inr (slot_ne (Or.inr (w21 hw)) (Or.inl (w34 hw)) (by decide) (t := (.array .int)) (t' := .int) (by decide) (by decide)))
      replace A_lf := A_lf.other W24 (Ne.symm ne_a_lf)
      replace F_lastEdgeTo_a := F_lastEdgeTo_a.other W24 (Or.inr (slot_ne (Or.inr (w27 hw)) (Or.inl (w34 hw)) (by decide) (t := (.array .int)) (t' := .int) (by decide) (by decide)))
      replace A_lt := A_lt.other W24 (Ne.symm ne_a_lt)
      replace Z0 := Nat.le_trans Z0 (Keep.of_wr W24).1
      replace K0 := K0.wr W24 (Or.inl (by simp))
      have N24 := Fr.snoc X24 N21 g_a
      refine Go.st (S' := T24.setTop (mkF m 19 #[.val (.ref a), .val (.int cn), .val (.int (2 : Int32))] [(.int (1 : Int32))])) (st24) ?_
      refine Go.st (S' := T24.setTop (mkF m 20 #[.val (.ref a), .val (.int cn), .val (.int (1 : Int32))] [])) (fun _ k_ => XS.istoreN X24.here hx rfl (hb hby d5_19) rfl (l' := #[.val (.ref a), .val (.int cn), .val (.int (1 : Int32))]) rfl k_) ?_
      refine Go.st (S' := T24.setTop (mkF m 21 #[.val (.ref a), .val (.int cn), .val (.int (1 : Int32))] [(.ref a)])) (fun _ k_ => XS.aloadN X24.here hx rfl (hb hby d5_20) rfl rfl k_) ?_
      obtain ⟨T25, X25, e25, st25⟩ := getF X24 hx hZ hown (host := "") (Or.inl (w20 hw)) Via.refl e24 F_lastEdgeFrom_a (g := (mkF m 21 #[.val (.ref a), .val (.int cn), .val (.int (1 : Int32))] [(.ref a)])) rfl rfl (hb hby d5_21)
      refine Go.st (S' := T25.setTop (mkF m 24 #[.val (.ref a), .val (.int cn), .val (.int (1 : Int32))] [(.ref lf)])) (st25) ?_
      refine Go.st (S' := T25.setTop (mkF m 25 #[.val (.ref a), .val (.int cn), .val (.int (1 : Int32))] [(.ref a), (.ref lf)])) (fun _ k_ => XS.aloadN X25.here hx rfl (hb hby d5_24) rfl rfl k_) ?_
      obtain ⟨T26, X26, e26, st26⟩ := getF X25 hx hZ hown (host := "") (Or.inl (w10 hw)) Via.refl e25 F_sources_a (g := (mkF m 25 #[.val (.ref a), .val (.int cn), .val (.int (1 : Int32))] [(.ref a), (.ref lf)])) rfl rfl (hb hby d5_25)
      refine Go.st (S' := T26.setTop (mkF m 28 #[.val (.ref a), .val (.int cn), .val (.int (1 : Int32))] [(.ref sr), (.ref lf)])) (st26) ?_
      refine Go.st (S' := T26.setTop (mkF m 29 #[.val (.ref a), .val (.int cn), .val (.int (1 : Int32))] [(.int (1 : Int32)), (.ref sr), (.ref lf)])) (fun _ k_ => XS.iloadN X26.here hx rfl (hb hby d5_28) rfl k_) ?_
      refine Go.st (S' := T26.setTop (mkF m 30 #[.val (.ref a), .val (.int cn), .val (.int (1 : Int32))] [(.int (xS.getD 1 0)), (.ref lf)])) (A_sr.load X26 hx hZ e26 (j := (1 : Int32)) (v := (xS.getD 1 0)) (by decide) (own_gd0 (by rw [l1]; decide)) (g := (mkF m 29 #[.val (.ref a), .val (.int cn), .val (.int (1 : Int32))] [(.int (1 : Int32)), (.ref sr), (.ref lf)])) rfl rfl (hb hby d5_29)) ?_
      refine Go.st (S' := T26.setTop (mkF m 31 #[.val (.ref a), .val (.int cn), .val (.int (1 : Int32))] [(.ref a), (.int (xS.getD 1 0)), (.ref lf)])) (fun _ k_ => XS.aloadN X26.here hx rfl (hb hby d5_30) rfl rfl k_) ?_
      obtain ⟨T27, X27, e27, st27⟩ := getF X26 hx hZ hown (host := "") (Or.inl (w14 hw)) Via.refl e26 F_edgesBefore_a (g := (mkF m 31 #[.val (.ref a), .val (.int cn), .val (.int (1 : Int32))] [(.ref a), (.int (xS.getD 1 0)), (.ref lf)])) rfl rfl (hb hby d5_31)
      refine Go.st (S' := T27.setTop (mkF m 34 #[.val (.ref a), .val (.int cn), .val (.int (1 : Int32))] [(.ref eb), (.int (xS.getD 1 0)), (.ref lf)])) (st27) ?_
      refine Go.st (S' := T27.setTop (mkF m 35 #[.val (.ref a), .val (.int cn), .val (.int (1 : Int32))] [(.int (1 : Int32)), (.ref eb), (.int (xS.getD 1 0)), (.ref lf)])) (fun _ k_ => XS.iloadN X27.here hx rfl (hb hby d5_34) rfl k_) ?_
      refine Go.st (S' := T27.setTop (mkF m 36 #[.val (.ref a), .val (.int cn), .val (.int (1 : Int32))] [(.int (xE.getD 1 0)), (.int (xS.getD 1 0)), (.ref lf)])) (A_eb.load X27 hx hZ e27 (j := (1 : Int32)) (v := (xE.getD 1 0)) (by decide) (own_gd0 (by rw [l3]; decide)) (g := (mkF m 35 #[.val (.ref a), .val (.int cn), .val (.int (1 : Int32))] [(.int (1 : Int32)), (.ref eb), (.int (xS.getD 1 0)), (.ref lf)])) rfl rfl (hb hby d5_35)) ?_
      obtain ⟨T28, h28, X28, e28, W28, A28, st28⟩ := A_lf.store X27 hx hZ e27 (j := (xS.getD 1 0)) (own_i01 (hS 1 (by decide)).1).1 (by rw [own_klen]; rw [l5]; exact (own_i01 (hS 1 (by decide)).1).2) (g := (mkF m 36 #[.val (.ref a), .val (.int cn), .val (.int (1 : Int32))] [(.int (xE.getD 1 0)), (.int (xS.getD 1 0)), (.ref lf)])) rfl rfl (hb hby d5_36)
      replace A_lf : Ai Z h28 lf .int (own_k xA xS xE 1) := A28
      replace E_a := E_a.wr W28
      replace F_edgeCount_a := F_edgeCount_a.other W28 (Or.inl ne_a_lf)
      replace F_sources_a := F_sources_a.other W28 (Or.inl ne_a_lf)
      replace A_sr := A_sr.other W28 ne_sr_lf
      replace F_targets_a := F_targets_a.other W28 (Or.inl ne_a_lf)
      replace A_tg := A_tg.other W28 ne_tg_lf
      replace F_edgesBefore_a := F_edgesBefore_a.other W28 (Or.inl ne_a_lf)
      replace A_eb := A_eb.other W28 ne_eb_lf
      replace F_edgesBeforeTo_a := F_edgesBeforeTo_a.other W28 (Or.inl ne_a_lf)
      replace A_et := A_et.other W28 ne_et_lf
      replace F_lastEdgeFrom_a := F_lastEdgeFrom_a.other W28 (Or.inl ne_a_lf)
      replace F_lastEdgeTo_a := F_lastEdgeTo_a.other W28 (Or.inl ne_a_lf)
      replace A_lt := A_lt.other W28 (Ne.symm ne_lf_lt)
      replace Z0 := Nat.le_trans Z0 (Keep.of_wr W28).1
      replace K0 := K0.wr W28 (Or.inl (by simp))
      have N28 := Fr.snoc X28 N24 g_lf
      refine Go.st (S' := T28.setTop (mkF m 37 #[.val (.ref a), .val (.int cn), .val (.int (1 : Int32))] [])) (st28) ?_
      refine Go.st (S' := T28.setTop (mkF m 38 #[.val (.ref a), .val (.int cn), .val (.int (1 : Int32))] [(.ref a)])) (fun _ k_ => XS.aloadN X28.here hx rfl (hb hby d5_37) rfl rfl k_) ?_
      obtain ⟨T29, X29, e29, st29⟩ := getF X28 hx hZ hown (host := "") (Or.inl (w26 hw)) Via.refl e28 F_lastEdgeTo_a (g := (mkF m 38 #[.val (.ref a), .val (.int cn), .val (.int (1 : Int32))] [(.ref a)])) rfl rfl (hb hby d5_38)
      refine Go.st (S' := T29.setTop (mkF m 41 #[.val (.ref a), .val (.int cn), .val (.int (1 : Int32))] [(.ref lt)])) (st29) ?_
      refine Go.st (S' := T29.setTop (mkF m 42 #[.val (.ref a), .val (.int cn), .val (.int (1 : Int32))] [(.ref a), (.ref lt)])) (fun _ k_ => XS.aloadN X29.here hx rfl (hb hby d5_41) rfl rfl k_) ?_
      obtain ⟨T30, X30, e30, st30⟩ := getF X29 hx hZ hown (host := "") (Or.inl (w12 hw)) Via.refl e29 F_targets_a (g := (mkF m 42 #[.val (.ref a), .val (.int cn), .val (.int (1 : Int32))] [(.ref a), (.ref lt)])) rfl rfl (hb hby d5_42)
      refine Go.st (S' := T30.setTop (mkF m 45 #[.val (.ref a), .val (.int cn), .val (.int (1 : Int32))] [(.ref tg), (.ref lt)])) (st30) ?_
      refine Go.st (S' := T30.setTop (mkF m 46 #[.val (.ref a), .val (.int cn), .val (.int (1 : Int32))] [(.int (1 : Int32)), (.ref tg), (.ref lt)])) (fun _ k_ => XS.iloadN X30.here hx rfl (hb hby d5_45) rfl k_) ?_
      refine Go.st (S' := T30.setTop (mkF m 47 #[.val (.ref a), .val (.int cn), .val (.int (1 : Int32))] [(.int (xT.getD 1 0)), (.ref lt)])) (A_tg.load X30 hx hZ e30 (j := (1 : Int32)) (v := (xT.getD 1 0)) (by decide) (own_gd0 (by rw [l2]; decide)) (g := (mkF m 46 #[.val (.ref a), .val (.int cn), .val (.int (1 : Int32))] [(.int (1 : Int32)), (.ref tg), (.ref lt)])) rfl rfl (hb hby d5_46)) ?_
      refine Go.st (S' := T30.setTop (mkF m 48 #[.val (.ref a), .val (.int cn), .val (.int (1 : Int32))] [(.ref a), (.int (xT.getD 1 0)), (.ref lt)])) (fun _ k_ => XS.aloadN X30.here hx rfl (hb hby d5_47) rfl rfl k_) ?_
      obtain ⟨T31, X31, e31, st31⟩ := getF X30 hx hZ hown (host := "") (Or.inl (w16 hw)) Via.refl e30 F_edgesBeforeTo_a (g := (mkF m 48 #[.val (.ref a), .val (.int cn), .val (.int (1 : Int32))] [(.ref a), (.int (xT.getD 1 0)), (.ref lt)])) rfl rfl (hb hby d5_48)
      refine Go.st (S' := T31.setTop (mkF m 51 #[.val (.ref a), .val (.int cn), .val (.int (1 : Int32))] [(.ref et), (.int (xT.getD 1 0)), (.ref lt)])) (st31) ?_
      refine Go.st (S' := T31.setTop (mkF m 52 #[.val (.ref a), .val (.int cn), .val (.int (1 : Int32))] [(.int (1 : Int32)), (.ref et), (.int (xT.getD 1 0)), (.ref lt)])) (fun _ k_ => XS.iloadN X31.here hx rfl (hb hby d5_51) rfl k_) ?_
      refine Go.st (S' := T31.setTop (mkF m 53 #[.val (.ref a), .val (.int cn), .val (.int (1 : Int32))] [(.int (xF.getD 1 0)), (.int (xT.getD 1 0)), (.ref lt)])) (A_et.load X31 hx hZ e31 (j := (1 : Int32)) (v := (xF.getD 1 0)) (by decide) (own_gd0 (by rw [l4]; decide)) (g := (mkF m 52 #[.val (.ref a), .val (.int cn), .val (.int (1 : Int32))] [(.int (1 : Int32)), (.ref et), (.int (xT.getD 1 0)), (.ref lt)])) rfl rfl (hb hby d5_52)) ?_
      obtain ⟨T32, h32, X32, e32, W32, A32, st32⟩ := A_lt.store X31 hx hZ e31 (j := (xT.getD 1 0)) (own_i01 (hS 1 (by decide)).2).1 (by rw [own_klen]; rw [l6]; exact (own_i01 (hS 1 (by decide)).2).2) (g := (mkF m 53 #[.val (.ref a), .val (.int cn), .val (.int (1 : Int32))] [(.int (xF.getD 1 0)), (.int (xT.getD 1 0)), (.ref lt)])) rfl rfl (hb hby d5_53)
      replace A_lt : Ai Z h32 lt .int (own_k xB xT xF 1) := A32
      replace E_a := E_a.wr W32
      replace F_edgeCount_a := F_edgeCount_a.other W32 (Or.inl ne_a_lt)
      replace F_sources_a := F_sources_a.other W32 (Or.inl ne_a_lt)
      replace A_sr := A_sr.other W32 ne_sr_lt
      replace F_targets_a := F_targets_a.other W32 (Or.inl ne_a_lt)
      replace A_tg := A_tg.other W32 ne_tg_lt
      replace F_edgesBefore_a := F_edgesBefore_a.other W32 (Or.inl ne_a_lt)
      replace A_eb := A_eb.other W32 ne_eb_lt
      replace F_edgesBeforeTo_a := F_edgesBeforeTo_a.other W32 (Or.inl ne_a_lt)
      replace A_et := A_et.other W32 ne_et_lt
      replace F_lastEdgeFrom_a := F_lastEdgeFrom_a.other W32 (Or.inl ne_a_lt)
      replace A_lf := A_lf.other W32 ne_lf_lt
      replace F_lastEdgeTo_a := F_lastEdgeTo_a.other W32 (Or.inl ne_a_lt)
      replace Z0 := Nat.le_trans Z0 (Keep.of_wr W32).1
      replace K0 := K0.wr W32 (Or.inl (by simp))
      have N32 := Fr.snoc X32 N28 g_lt
      refine Go.st (S' := T32.setTop (mkF m 54 #[.val (.ref a), .val (.int cn), .val (.int (1 : Int32))] [])) (st32) ?_
      refine Go.st (S' := T32.setTop (mkF m 0 #[.val (.ref a), .val (.int cn), .val (.int (1 : Int32))] [])) (fun _ k_ => XS.goto X32.here hx rfl (pc0 := 54) (pc' := 0) rfl (hb hby d5_54) (by decide) (by decide) k_) ?_
      refine Go.st (S' := T32.setTop (mkF m 1 #[.val (.ref a), .val (.int cn), .val (.int (1 : Int32))] [(.ref a)])) (fun _ k_ => XS.aloadN X32.here hx rfl (hb hby d5_0) rfl rfl k_) ?_
      obtain ⟨T33, X33, e33, st33⟩ := getF X32 hx hZ hown (host := "") (Or.inl (w33 hw)) Via.refl e32 F_edgeCount_a (g := (mkF m 1 #[.val (.ref a), .val (.int cn), .val (.int (1 : Int32))] [(.ref a)])) rfl rfl (hb hby d5_1)
      refine Go.st (S' := T33.setTop (mkF m 4 #[.val (.ref a), .val (.int cn), .val (.int (1 : Int32))] [(.int (1 : Int32))])) (st33) ?_
      refine Go.st (S' := T33.setTop (mkF m 5 #[.val (.ref a), .val (.int cn), .val (.int (1 : Int32))] [(.int cn), (.int (1 : Int32))])) (fun _ k_ => XS.iloadN X33.here hx rfl (hb hby d5_4) rfl k_) ?_
      by_cases hc5_1 : cn < (1 : Int32)
      · skip
        refine Go.st (S' := T33.setTop (mkF m 8 #[.val (.ref a), .val (.int cn), .val (.int (1 : Int32))] [])) (fun _ k_ => XS.icmpNo X33.here hx rfl (hb hby d5_5) rfl (tlt hc5_1).2.2.2 k_) ?_
        refine Go.st (S' := T33.setTop (mkF m 9 #[.val (.ref a), .val (.int cn), .val (.int (1 : Int32))] [(.ref a)])) (fun _ k_ => XS.aloadN X33.here hx rfl (hb hby d5_8) rfl rfl k_) ?_
        refine Go.st (S' := T33.setTop (mkF m 10 #[.val (.ref a), .val (.int cn), .val (.int (1 : Int32))] [(.ref a), (.ref a)])) (fun _ k_ => XS.dup X33.here hx rfl (hb hby d5_9) rfl rfl k_) ?_
        obtain ⟨T34, X34, e34, st34⟩ := getF X33 hx hZ hown (host := "") (Or.inl (w33 hw)) Via.refl e33 F_edgeCount_a (g := (mkF m 10 #[.val (.ref a), .val (.int cn), .val (.int (1 : Int32))] [(.ref a), (.ref a)])) rfl rfl (hb hby d5_10)
        refine Go.st (S' := T34.setTop (mkF m 13 #[.val (.ref a), .val (.int cn), .val (.int (1 : Int32))] [(.int (1 : Int32)), (.ref a)])) (st34) ?_
        refine Go.st (S' := T34.setTop (mkF m 14 #[.val (.ref a), .val (.int cn), .val (.int (1 : Int32))] [(.int (1 : Int32)), (.int (1 : Int32)), (.ref a)])) (fun _ k_ => XS.iconst X34.here hx rfl (hb hby d5_13) k_) ?_
        refine Go.st (S' := T34.setTop (mkF m 15 #[.val (.ref a), .val (.int cn), .val (.int (1 : Int32))] [(.int ((1 : Int32) - (1 : Int32))), (.ref a)])) (fun _ k_ => XS.isub X34.here hx rfl (hb hby d5_14) rfl k_) ?_
        rw [show ((1 : Int32) - (1 : Int32)) = (0 : Int32) from (by decide)]
        refine Go.st (S' := T34.setTop (mkF m 16 #[.val (.ref a), .val (.int cn), .val (.int (1 : Int32))] [(.int (0 : Int32)), (.ref a), (.int (0 : Int32))])) (fun _ k_ => XS.dupX1 X34.here hx rfl (hb hby d5_15) rfl rfl rfl k_) ?_
        obtain ⟨T35, h35, X35, e35, W35, st35⟩ := putF X34 hx hZ hown (host := "") (Or.inl (w33 hw)) Via.refl e34 F_edgeCount_a E_a (Or.inl (w34 hw)) (w1 hw) (ty := .int) (by decide) rfl rfl (g := (mkF m 16 #[.val (.ref a), .val (.int cn), .val (.int (1 : Int32))] [(.int (0 : Int32)), (.ref a), (.int (0 : Int32))])) rfl rfl (hb hby d5_16)
        replace F_edgeCount_a := F_edgeCount_a.same W35
        replace E_a := E_a.wr W35
        replace F_sources_a := F_sources_a.other W35 (Or.inr (slot_ne (Or.inl (w11 hw)) (Or.inl (w34 hw)) (by decide) (t := (.array .int)) (t' := .int) (by decide) (by decide)))
        replace A_sr := A_sr.other W35 (Ne.symm ne_a_sr)
        replace F_targets_a := F_targets_a.other W35 (Or.inr (slot_ne (Or.inl (w13 hw)) (Or.inl (w34 hw)) (by decide) (t := (.array .int)) (t' := .int) (by decide) (by decide)))
        replace A_tg := A_tg.other W35 (Ne.symm ne_a_tg)
        replace F_edgesBefore_a := F_edgesBefore_a.other W35 (Or.inr (slot_ne (Or.inl (w15 hw)) (Or.inl (w34 hw)) (by decide) (t := (.array .int)) (t' := .int) (by decide) (by decide)))
        replace A_eb := A_eb.other W35 (Ne.symm ne_a_eb)
        replace F_edgesBeforeTo_a := F_edgesBeforeTo_a.other W35 (Or.inr (slot_ne (Or.inl (w17 hw)) (Or.inl (w34 hw)) (by decide) (t := (.array .int)) (t' := .int) (by decide) (by decide)))
        replace A_et := A_et.other W35 (Ne.symm ne_a_et)
        replace F_lastEdgeFrom_a := F_lastEdgeFrom_a.other W35 (Or.inr (slot_ne (Or.inr (w21 hw)) (Or.inl (w34 hw)) (by decide) (t := (.array .int)) (t' := .int) (by decide) (by decide)))
        replace A_lf := A_lf.other W35 (Ne.symm ne_a_lf)
        replace F_lastEdgeTo_a := F_lastEdgeTo_a.other W35 (Or.inr (slot_ne (Or.inr (w27 hw)) (Or.inl (w34 hw)) (by decide) (t := (.array .int)) (t' := .int) (by decide) (by decide)))
        replace A_lt := A_lt.other W35 (Ne.symm ne_a_lt)
        replace Z0 := Nat.le_trans Z0 (Keep.of_wr W35).1
        replace K0 := K0.wr W35 (Or.inl (by simp))
        have N35 := Fr.snoc X35 N32 g_a
        refine Go.st (S' := T35.setTop (mkF m 19 #[.val (.ref a), .val (.int cn), .val (.int (1 : Int32))] [(.int (0 : Int32))])) (st35) ?_
        refine Go.st (S' := T35.setTop (mkF m 20 #[.val (.ref a), .val (.int cn), .val (.int (0 : Int32))] [])) (fun _ k_ => XS.istoreN X35.here hx rfl (hb hby d5_19) rfl (l' := #[.val (.ref a), .val (.int cn), .val (.int (0 : Int32))]) rfl k_) ?_
        refine Go.st (S' := T35.setTop (mkF m 21 #[.val (.ref a), .val (.int cn), .val (.int (0 : Int32))] [(.ref a)])) (fun _ k_ => XS.aloadN X35.here hx rfl (hb hby d5_20) rfl rfl k_) ?_
        obtain ⟨T36, X36, e36, st36⟩ := getF X35 hx hZ hown (host := "") (Or.inl (w20 hw)) Via.refl e35 F_lastEdgeFrom_a (g := (mkF m 21 #[.val (.ref a), .val (.int cn), .val (.int (0 : Int32))] [(.ref a)])) rfl rfl (hb hby d5_21)
        refine Go.st (S' := T36.setTop (mkF m 24 #[.val (.ref a), .val (.int cn), .val (.int (0 : Int32))] [(.ref lf)])) (st36) ?_
        refine Go.st (S' := T36.setTop (mkF m 25 #[.val (.ref a), .val (.int cn), .val (.int (0 : Int32))] [(.ref a), (.ref lf)])) (fun _ k_ => XS.aloadN X36.here hx rfl (hb hby d5_24) rfl rfl k_) ?_
        obtain ⟨T37, X37, e37, st37⟩ := getF X36 hx hZ hown (host := "") (Or.inl (w10 hw)) Via.refl e36 F_sources_a (g := (mkF m 25 #[.val (.ref a), .val (.int cn), .val (.int (0 : Int32))] [(.ref a), (.ref lf)])) rfl rfl (hb hby d5_25)
        refine Go.st (S' := T37.setTop (mkF m 28 #[.val (.ref a), .val (.int cn), .val (.int (0 : Int32))] [(.ref sr), (.ref lf)])) (st37) ?_
        refine Go.st (S' := T37.setTop (mkF m 29 #[.val (.ref a), .val (.int cn), .val (.int (0 : Int32))] [(.int (0 : Int32)), (.ref sr), (.ref lf)])) (fun _ k_ => XS.iloadN X37.here hx rfl (hb hby d5_28) rfl k_) ?_
        refine Go.st (S' := T37.setTop (mkF m 30 #[.val (.ref a), .val (.int cn), .val (.int (0 : Int32))] [(.int (xS.getD 0 0)), (.ref lf)])) (A_sr.load X37 hx hZ e37 (j := (0 : Int32)) (v := (xS.getD 0 0)) (by decide) (own_gd0 (by rw [l1]; decide)) (g := (mkF m 29 #[.val (.ref a), .val (.int cn), .val (.int (0 : Int32))] [(.int (0 : Int32)), (.ref sr), (.ref lf)])) rfl rfl (hb hby d5_29)) ?_
        refine Go.st (S' := T37.setTop (mkF m 31 #[.val (.ref a), .val (.int cn), .val (.int (0 : Int32))] [(.ref a), (.int (xS.getD 0 0)), (.ref lf)])) (fun _ k_ => XS.aloadN X37.here hx rfl (hb hby d5_30) rfl rfl k_) ?_
        obtain ⟨T38, X38, e38, st38⟩ := getF X37 hx hZ hown (host := "") (Or.inl (w14 hw)) Via.refl e37 F_edgesBefore_a (g := (mkF m 31 #[.val (.ref a), .val (.int cn), .val (.int (0 : Int32))] [(.ref a), (.int (xS.getD 0 0)), (.ref lf)])) rfl rfl (hb hby d5_31)
        refine Go.st (S' := T38.setTop (mkF m 34 #[.val (.ref a), .val (.int cn), .val (.int (0 : Int32))] [(.ref eb), (.int (xS.getD 0 0)), (.ref lf)])) (st38) ?_
        refine Go.st (S' := T38.setTop (mkF m 35 #[.val (.ref a), .val (.int cn), .val (.int (0 : Int32))] [(.int (0 : Int32)), (.ref eb), (.int (xS.getD 0 0)), (.ref lf)])) (fun _ k_ => XS.iloadN X38.here hx rfl (hb hby d5_34) rfl k_) ?_
        refine Go.st (S' := T38.setTop (mkF m 36 #[.val (.ref a), .val (.int cn), .val (.int (0 : Int32))] [(.int (xE.getD 0 0)), (.int (xS.getD 0 0)), (.ref lf)])) (A_eb.load X38 hx hZ e38 (j := (0 : Int32)) (v := (xE.getD 0 0)) (by decide) (own_gd0 (by rw [l3]; decide)) (g := (mkF m 35 #[.val (.ref a), .val (.int cn), .val (.int (0 : Int32))] [(.int (0 : Int32)), (.ref eb), (.int (xS.getD 0 0)), (.ref lf)])) rfl rfl (hb hby d5_35)) ?_
        obtain ⟨T39, h39, X39, e39, W39, A39, st39⟩ := A_lf.store X38 hx hZ e38 (j := (xS.getD 0 0)) (own_i01 (hS 0 (by decide)).1).1 (by rw [own_klen]; rw [l5]; exact (own_i01 (hS 0 (by decide)).1).2) (g := (mkF m 36 #[.val (.ref a), .val (.int cn), .val (.int (0 : Int32))] [(.int (xE.getD 0 0)), (.int (xS.getD 0 0)), (.ref lf)])) rfl rfl (hb hby d5_36)
        replace A_lf : Ai Z h39 lf .int (own_k xA xS xE 0) := A39
        replace E_a := E_a.wr W39
        replace F_edgeCount_a := F_edgeCount_a.other W39 (Or.inl ne_a_lf)
        replace F_sources_a := F_sources_a.other W39 (Or.inl ne_a_lf)
        replace A_sr := A_sr.other W39 ne_sr_lf
        replace F_targets_a := F_targets_a.other W39 (Or.inl ne_a_lf)
        replace A_tg := A_tg.other W39 ne_tg_lf
        replace F_edgesBefore_a := F_edgesBefore_a.other W39 (Or.inl ne_a_lf)
        replace A_eb := A_eb.other W39 ne_eb_lf
        replace F_edgesBeforeTo_a := F_edgesBeforeTo_a.other W39 (Or.inl ne_a_lf)
        replace A_et := A_et.other W39 ne_et_lf
        replace F_lastEdgeFrom_a := F_lastEdgeFrom_a.other W39 (Or.inl ne_a_lf)
        replace F_lastEdgeTo_a := F_lastEdgeTo_a.other W39 (Or.inl ne_a_lf)
        replace A_lt := A_lt.other W39 (Ne.symm ne_lf_lt)
        replace Z0 := Nat.le_trans Z0 (Keep.of_wr W39).1
        replace K0 := K0.wr W39 (Or.inl (by simp))
        have N39 := Fr.snoc X39 N35 g_lf
        refine Go.st (S' := T39.setTop (mkF m 37 #[.val (.ref a), .val (.int cn), .val (.int (0 : Int32))] [])) (st39) ?_
        refine Go.st (S' := T39.setTop (mkF m 38 #[.val (.ref a), .val (.int cn), .val (.int (0 : Int32))] [(.ref a)])) (fun _ k_ => XS.aloadN X39.here hx rfl (hb hby d5_37) rfl rfl k_) ?_
        obtain ⟨T40, X40, e40, st40⟩ := getF X39 hx hZ hown (host := "") (Or.inl (w26 hw)) Via.refl e39 F_lastEdgeTo_a (g := (mkF m 38 #[.val (.ref a), .val (.int cn), .val (.int (0 : Int32))] [(.ref a)])) rfl rfl (hb hby d5_38)
        refine Go.st (S' := T40.setTop (mkF m 41 #[.val (.ref a), .val (.int cn), .val (.int (0 : Int32))] [(.ref lt)])) (st40) ?_
        refine Go.st (S' := T40.setTop (mkF m 42 #[.val (.ref a), .val (.int cn), .val (.int (0 : Int32))] [(.ref a), (.ref lt)])) (fun _ k_ => XS.aloadN X40.here hx rfl (hb hby d5_41) rfl rfl k_) ?_
        obtain ⟨T41, X41, e41, st41⟩ := getF X40 hx hZ hown (host := "") (Or.inl (w12 hw)) Via.refl e40 F_targets_a (g := (mkF m 42 #[.val (.ref a), .val (.int cn), .val (.int (0 : Int32))] [(.ref a), (.ref lt)])) rfl rfl (hb hby d5_42)
        refine Go.st (S' := T41.setTop (mkF m 45 #[.val (.ref a), .val (.int cn), .val (.int (0 : Int32))] [(.ref tg), (.ref lt)])) (st41) ?_
        refine Go.st (S' := T41.setTop (mkF m 46 #[.val (.ref a), .val (.int cn), .val (.int (0 : Int32))] [(.int (0 : Int32)), (.ref tg), (.ref lt)])) (fun _ k_ => XS.iloadN X41.here hx rfl (hb hby d5_45) rfl k_) ?_
        refine Go.st (S' := T41.setTop (mkF m 47 #[.val (.ref a), .val (.int cn), .val (.int (0 : Int32))] [(.int (xT.getD 0 0)), (.ref lt)])) (A_tg.load X41 hx hZ e41 (j := (0 : Int32)) (v := (xT.getD 0 0)) (by decide) (own_gd0 (by rw [l2]; decide)) (g := (mkF m 46 #[.val (.ref a), .val (.int cn), .val (.int (0 : Int32))] [(.int (0 : Int32)), (.ref tg), (.ref lt)])) rfl rfl (hb hby d5_46)) ?_
        refine Go.st (S' := T41.setTop (mkF m 48 #[.val (.ref a), .val (.int cn), .val (.int (0 : Int32))] [(.ref a), (.int (xT.getD 0 0)), (.ref lt)])) (fun _ k_ => XS.aloadN X41.here hx rfl (hb hby d5_47) rfl rfl k_) ?_
        obtain ⟨T42, X42, e42, st42⟩ := getF X41 hx hZ hown (host := "") (Or.inl (w16 hw)) Via.refl e41 F_edgesBeforeTo_a (g := (mkF m 48 #[.val (.ref a), .val (.int cn), .val (.int (0 : Int32))] [(.ref a), (.int (xT.getD 0 0)), (.ref lt)])) rfl rfl (hb hby d5_48)
        refine Go.st (S' := T42.setTop (mkF m 51 #[.val (.ref a), .val (.int cn), .val (.int (0 : Int32))] [(.ref et), (.int (xT.getD 0 0)), (.ref lt)])) (st42) ?_
        refine Go.st (S' := T42.setTop (mkF m 52 #[.val (.ref a), .val (.int cn), .val (.int (0 : Int32))] [(.int (0 : Int32)), (.ref et), (.int (xT.getD 0 0)), (.ref lt)])) (fun _ k_ => XS.iloadN X42.here hx rfl (hb hby d5_51) rfl k_) ?_
        refine Go.st (S' := T42.setTop (mkF m 53 #[.val (.ref a), .val (.int cn), .val (.int (0 : Int32))] [(.int (xF.getD 0 0)), (.int (xT.getD 0 0)), (.ref lt)])) (A_et.load X42 hx hZ e42 (j := (0 : Int32)) (v := (xF.getD 0 0)) (by decide) (own_gd0 (by rw [l4]; decide)) (g := (mkF m 52 #[.val (.ref a), .val (.int cn), .val (.int (0 : Int32))] [(.int (0 : Int32)), (.ref et), (.int (xT.getD 0 0)), (.ref lt)])) rfl rfl (hb hby d5_52)) ?_
        obtain ⟨T43, h43, X43, e43, W43, A43, st43⟩ := A_lt.store X42 hx hZ e42 (j := (xT.getD 0 0)) (own_i01 (hS 0 (by decide)).2).1 (by rw [own_klen]; rw [l6]; exact (own_i01 (hS 0 (by decide)).2).2) (g := (mkF m 53 #[.val (.ref a), .val (.int cn), .val (.int (0 : Int32))] [(.int (xF.getD 0 0)), (.int (xT.getD 0 0)), (.ref lt)])) rfl rfl (hb hby d5_53)
        replace A_lt : Ai Z h43 lt .int (own_k xB xT xF 0) := A43
        replace E_a := E_a.wr W43
        replace F_edgeCount_a := F_edgeCount_a.other W43 (Or.inl ne_a_lt)
        replace F_sources_a := F_sources_a.other W43 (Or.inl ne_a_lt)
        replace A_sr := A_sr.other W43 ne_sr_lt
        replace F_targets_a := F_targets_a.other W43 (Or.inl ne_a_lt)
        replace A_tg := A_tg.other W43 ne_tg_lt
        replace F_edgesBefore_a := F_edgesBefore_a.other W43 (Or.inl ne_a_lt)
        replace A_eb := A_eb.other W43 ne_eb_lt
        replace F_edgesBeforeTo_a := F_edgesBeforeTo_a.other W43 (Or.inl ne_a_lt)
        replace A_et := A_et.other W43 ne_et_lt
        replace F_lastEdgeFrom_a := F_lastEdgeFrom_a.other W43 (Or.inl ne_a_lt)
        replace A_lf := A_lf.other W43 ne_lf_lt
        replace F_lastEdgeTo_a := F_lastEdgeTo_a.other W43 (Or.inl ne_a_lt)
        replace Z0 := Nat.le_trans Z0 (Keep.of_wr W43).1
        replace K0 := K0.wr W43 (Or.inl (by simp))
        have N43 := Fr.snoc X43 N39 g_lt
        refine Go.st (S' := T43.setTop (mkF m 54 #[.val (.ref a), .val (.int cn), .val (.int (0 : Int32))] [])) (st43) ?_
        refine Go.st (S' := T43.setTop (mkF m 0 #[.val (.ref a), .val (.int cn), .val (.int (0 : Int32))] [])) (fun _ k_ => XS.goto X43.here hx rfl (pc0 := 54) (pc' := 0) rfl (hb hby d5_54) (by decide) (by decide) k_) ?_
        refine Go.st (S' := T43.setTop (mkF m 1 #[.val (.ref a), .val (.int cn), .val (.int (0 : Int32))] [(.ref a)])) (fun _ k_ => XS.aloadN X43.here hx rfl (hb hby d5_0) rfl rfl k_) ?_
        obtain ⟨T44, X44, e44, st44⟩ := getF X43 hx hZ hown (host := "") (Or.inl (w33 hw)) Via.refl e43 F_edgeCount_a (g := (mkF m 1 #[.val (.ref a), .val (.int cn), .val (.int (0 : Int32))] [(.ref a)])) rfl rfl (hb hby d5_1)
        refine Go.st (S' := T44.setTop (mkF m 4 #[.val (.ref a), .val (.int cn), .val (.int (0 : Int32))] [(.int (0 : Int32))])) (st44) ?_
        refine Go.st (S' := T44.setTop (mkF m 5 #[.val (.ref a), .val (.int cn), .val (.int (0 : Int32))] [(.int cn), (.int (0 : Int32))])) (fun _ k_ => XS.iloadN X44.here hx rfl (hb hby d5_4) rfl k_) ?_
        refine Go.st (S' := T44.setTop (mkF m 57 #[.val (.ref a), .val (.int cn), .val (.int (0 : Int32))] [])) (fun _ k_ => XS.icmpYes X44.here hx rfl (pc0 := 5) (pc' := 57) rfl (hb hby d5_5) rfl (flt (hcn)).2.2.2 (by decide) (by decide) k_) ?_
        exact Go.retV X44 hx hret hlk (hb hby d5_57) (by decide) (by decide) (by rw [e44]; exact ⟨rfl, N43, K0, 0, by decide, (by apply Int32.toInt_inj.mp; have e0 : (0 : Int32).toInt = 0 := rfl; have e1 : (1 : Int32).toInt = 1 := rfl; have e2 : (2 : Int32).toInt = 2 := rfl; have e3 : (3 : Int32).toInt = 3 := rfl; have y1 := mt Int32.lt_iff_toInt_lt.mpr hcn; have y2 := Int32.lt_iff_toInt_lt.mp hc5_1; exact (Decidable.em ((3 : Int32) < cn)).elim (fun zz => by rw [if_pos zz]; have y3 := Int32.lt_iff_toInt_lt.mp zz; show (0 : Int32).toInt = _; omega) (fun zz => by rw [if_neg zz]; have y3 := mt Int32.lt_iff_toInt_lt.mpr zz; show (0 : Int32).toInt = _; omega)), ⟨E_a, F_edgeCount_a, F_sources_a, F_targets_a, F_edgesBefore_a, F_edgesBeforeTo_a, F_lastEdgeFrom_a, F_lastEdgeTo_a, A_sr, A_tg, A_eb, A_et, A_lf, A_lt⟩⟩)
      · skip
        refine Go.st (S' := T33.setTop (mkF m 57 #[.val (.ref a), .val (.int cn), .val (.int (1 : Int32))] [])) (fun _ k_ => XS.icmpYes X33.here hx rfl (pc0 := 5) (pc' := 57) rfl (hb hby d5_5) rfl (flt hc5_1).2.2.2 (by decide) (by decide) k_) ?_
        exact Go.retV X33 hx hret hlk (hb hby d5_57) (by decide) (by decide) (by rw [e33]; exact ⟨rfl, N32, K0, 1, by decide, (by apply Int32.toInt_inj.mp; have e0 : (0 : Int32).toInt = 0 := rfl; have e1 : (1 : Int32).toInt = 1 := rfl; have e2 : (2 : Int32).toInt = 2 := rfl; have e3 : (3 : Int32).toInt = 3 := rfl; have y1 := mt Int32.lt_iff_toInt_lt.mpr hc5_1; have y2 := Int32.lt_iff_toInt_lt.mp hc5_2; exact (Decidable.em ((3 : Int32) < cn)).elim (fun zz => by rw [if_pos zz]; have y3 := Int32.lt_iff_toInt_lt.mp zz; show (1 : Int32).toInt = _; omega) (fun zz => by rw [if_neg zz]; have y3 := mt Int32.lt_iff_toInt_lt.mpr zz; show (1 : Int32).toInt = _; omega)), ⟨E_a, F_edgeCount_a, F_sources_a, F_targets_a, F_edgesBefore_a, F_edgesBeforeTo_a, F_lastEdgeFrom_a, F_lastEdgeTo_a, A_sr, A_tg, A_eb, A_et, A_lf, A_lt⟩⟩)
    · skip
      refine Go.st (S' := T22.setTop (mkF m 57 #[.val (.ref a), .val (.int cn), .val (.int (2 : Int32))] [])) (fun _ k_ => XS.icmpYes X22.here hx rfl (pc0 := 5) (pc' := 57) rfl (hb hby d5_5) rfl (flt hc5_2).2.2.2 (by decide) (by decide) k_) ?_
      exact Go.retV X22 hx hret hlk (hb hby d5_57) (by decide) (by decide) (by rw [e22]; exact ⟨rfl, N21, K0, 2, by decide, (by apply Int32.toInt_inj.mp; have e0 : (0 : Int32).toInt = 0 := rfl; have e1 : (1 : Int32).toInt = 1 := rfl; have e2 : (2 : Int32).toInt = 2 := rfl; have e3 : (3 : Int32).toInt = 3 := rfl; have y1 := mt Int32.lt_iff_toInt_lt.mpr hc5_2; have y2 := Int32.lt_iff_toInt_lt.mp hc5_3; exact (Decidable.em ((3 : Int32) < cn)).elim (fun zz => by rw [if_pos zz]; have y3 := Int32.lt_iff_toInt_lt.mp zz; show (2 : Int32).toInt = _; omega) (fun zz => by rw [if_neg zz]; have y3 := mt Int32.lt_iff_toInt_lt.mpr zz; show (2 : Int32).toInt = _; omega)), ⟨E_a, F_edgeCount_a, F_sources_a, F_targets_a, F_edgesBefore_a, F_edgesBeforeTo_a, F_lastEdgeFrom_a, F_lastEdgeTo_a, A_sr, A_tg, A_eb, A_et, A_lf, A_lt⟩⟩)
  · skip
    refine Go.st (S' := T11.setTop (mkF m 57 #[.val (.ref a), .val (.int cn), .unset] [])) (fun _ k_ => XS.icmpYes X11.here hx rfl (pc0 := 5) (pc' := 57) rfl (hb hby d5_5) rfl (flt hc5_3).2.2.2 (by decide) (by decide) k_) ?_
    exact Go.retV X11 hx hret hlk (hb hby d5_57) (by decide) (by decide) (by rw [e11]; exact ⟨rfl, N0, K0, 3, by decide, (by apply Int32.toInt_inj.mp; have e0 : (0 : Int32).toInt = 0 := rfl; have e1 : (1 : Int32).toInt = 1 := rfl; have e2 : (2 : Int32).toInt = 2 := rfl; have e3 : (3 : Int32).toInt = 3 := rfl; have y1 := mt Int32.lt_iff_toInt_lt.mpr hc5_3; exact (Decidable.em ((3 : Int32) < cn)).elim (fun zz => by rw [if_pos zz]; have y3 := Int32.lt_iff_toInt_lt.mp zz; show (3 : Int32).toInt = _; omega) (fun zz => by rw [if_neg zz]; have y3 := mt Int32.lt_iff_toInt_lt.mpr zz; show (3 : Int32).toInt = _; omega)), ⟨E_a, F_edgeCount_a, F_sources_a, F_targets_a, F_edgesBefore_a, F_edgesBeforeTo_a, F_lastEdgeFrom_a, F_lastEdgeTo_a, A_sr, A_tg, A_eb, A_et, A_lf, A_lt⟩⟩)
theorem ef_dg_lastEdgeFrom (m : MethodId) (x0 : Addr) (x1 : Int32) : entryFrame m #[(.ref x0), (.int x1)] 2 = mkF m 0 #[.val (.ref x0), .val (.int x1)] [] := by first | (simp [entryFrame, mkF, argsToLocals, Value.category]; done) | rfl
set_option maxRecDepth 65536 in
set_option maxHeartbeats 40000000 in
theorem dg_lastEdgeFrom (l : Launch) (Z : State) (a0 : Array Value) (hw : ∀ d ∈ tables_1, d.before a0 Z = true) (a sr tg eb et lf lt : Addr) (k i v0 : Int32) (xS xT xE xF xA xB : List Int32) (h0 : Heap) (n0 : Nat) (Z0 : n0 ≤ h0.size) (H : DG Z h0 a sr tg eb et lf lt k xS xT xE xF xA xB) (hd : own_dis n0 a sr tg eb et lf lt) (hi : ¬ i < 0) (hv : xA[i.toNatClampNeg]? = some v0) :
    Con l Z (⟨"io/isoproof/check/polygraph/Digraph", "lastEdgeFrom", "(I)I"⟩ : MethodName) prog_28_method_6_code 2 (some .int) [] ({ frames := 0, cells := 0, slots := 0, locals := 0 } : Room) #[(.ref a), (.int i)] h0 (fun v h L => v = some (.int v0) ∧ Fr n0 L ∧ h = h0) := by
  refine Con.mk (plainFor_of_name pn1) ?_
  intro p e s m below meth c T0 hx hby hml hown hnm hret hlk hZ X0 e0
  have hown : s.vm.findClass "io/isoproof/check/polygraph/Digraph" = some m.cls := hown
  have hnm : meth.name = "lastEdgeFrom" := hnm
  have N0 := Fr.nil n0
  refine Go.cast (ef_dg_lastEdgeFrom m a i) ?_
  obtain ⟨E_a, F_edgeCount_a, F_sources_a, F_targets_a, F_edgesBefore_a, F_edgesBeforeTo_a, F_lastEdgeFrom_a, F_lastEdgeTo_a, A_sr, A_tg, A_eb, A_et, A_lf, A_lt⟩ := H
  obtain ⟨ne_a_sr, ne_a_tg, ne_a_eb, ne_a_et, ne_a_lf, ne_a_lt, ne_sr_tg, ne_sr_eb, ne_sr_et, ne_sr_lf, ne_sr_lt, ne_tg_eb, ne_tg_et, ne_tg_lf, ne_tg_lt, ne_eb_et, ne_eb_lf, ne_eb_lt, ne_et_lf, ne_et_lt, ne_lf_lt, g_a, g_sr, g_tg, g_eb, g_et, g_lf, g_lt⟩ := hd
  refine Go.st (S' := T0.setTop (mkF m 1 #[.val (.ref a), .val (.int i)] [(.ref a)])) (fun _ k_ => XS.aloadN X0.here hx rfl (hb hby d8_0) rfl rfl k_) ?_
  obtain ⟨T11, X11, e11, st11⟩ := getF X0 hx hZ hown (host := "") (Or.inl (w20 hw)) Via.refl e0 F_lastEdgeFrom_a (g := (mkF m 1 #[.val (.ref a), .val (.int i)] [(.ref a)])) rfl rfl (hb hby d8_1)
  refine Go.st (S' := T11.setTop (mkF m 4 #[.val (.ref a), .val (.int i)] [(.ref lf)])) (st11) ?_
  refine Go.st (S' := T11.setTop (mkF m 5 #[.val (.ref a), .val (.int i)] [(.int i), (.ref lf)])) (fun _ k_ => XS.iloadN X11.here hx rfl (hb hby d8_4) rfl k_) ?_
  refine Go.st (S' := T11.setTop (mkF m 6 #[.val (.ref a), .val (.int i)] [(.int v0)])) (A_lf.load X11 hx hZ e11 (j := i) (v := v0) hi hv (g := (mkF m 5 #[.val (.ref a), .val (.int i)] [(.int i), (.ref lf)])) rfl rfl (hb hby d8_5)) ?_
  exact Go.retI X11 hx hret hlk (hb hby d8_6) (by decide) (by decide) (by rw [e11]; exact ⟨rfl, N0, rfl⟩)
theorem ef_dg_lastEdgeTo (m : MethodId) (x0 : Addr) (x1 : Int32) : entryFrame m #[(.ref x0), (.int x1)] 2 = mkF m 0 #[.val (.ref x0), .val (.int x1)] [] := by first | (simp [entryFrame, mkF, argsToLocals, Value.category]; done) | rfl
set_option maxRecDepth 65536 in
set_option maxHeartbeats 40000000 in
theorem dg_lastEdgeTo (l : Launch) (Z : State) (a0 : Array Value) (hw : ∀ d ∈ tables_1, d.before a0 Z = true) (a sr tg eb et lf lt : Addr) (k i v0 : Int32) (xS xT xE xF xA xB : List Int32) (h0 : Heap) (n0 : Nat) (Z0 : n0 ≤ h0.size) (H : DG Z h0 a sr tg eb et lf lt k xS xT xE xF xA xB) (hd : own_dis n0 a sr tg eb et lf lt) (hi : ¬ i < 0) (hv : xB[i.toNatClampNeg]? = some v0) :
    Con l Z (⟨"io/isoproof/check/polygraph/Digraph", "lastEdgeTo", "(I)I"⟩ : MethodName) prog_28_method_9_code 2 (some .int) [] ({ frames := 0, cells := 0, slots := 0, locals := 0 } : Room) #[(.ref a), (.int i)] h0 (fun v h L => v = some (.int v0) ∧ Fr n0 L ∧ h = h0) := by
  refine Con.mk (plainFor_of_name pn1) ?_
  intro p e s m below meth c T0 hx hby hml hown hnm hret hlk hZ X0 e0
  have hown : s.vm.findClass "io/isoproof/check/polygraph/Digraph" = some m.cls := hown
  have hnm : meth.name = "lastEdgeTo" := hnm
  have N0 := Fr.nil n0
  refine Go.cast (ef_dg_lastEdgeTo m a i) ?_
  obtain ⟨E_a, F_edgeCount_a, F_sources_a, F_targets_a, F_edgesBefore_a, F_edgesBeforeTo_a, F_lastEdgeFrom_a, F_lastEdgeTo_a, A_sr, A_tg, A_eb, A_et, A_lf, A_lt⟩ := H
  obtain ⟨ne_a_sr, ne_a_tg, ne_a_eb, ne_a_et, ne_a_lf, ne_a_lt, ne_sr_tg, ne_sr_eb, ne_sr_et, ne_sr_lf, ne_sr_lt, ne_tg_eb, ne_tg_et, ne_tg_lf, ne_tg_lt, ne_eb_et, ne_eb_lf, ne_eb_lt, ne_et_lf, ne_et_lt, ne_lf_lt, g_a, g_sr, g_tg, g_eb, g_et, g_lf, g_lt⟩ := hd
  refine Go.st (S' := T0.setTop (mkF m 1 #[.val (.ref a), .val (.int i)] [(.ref a)])) (fun _ k_ => XS.aloadN X0.here hx rfl (hb hby d10_0) rfl rfl k_) ?_
  obtain ⟨T11, X11, e11, st11⟩ := getF X0 hx hZ hown (host := "") (Or.inl (w26 hw)) Via.refl e0 F_lastEdgeTo_a (g := (mkF m 1 #[.val (.ref a), .val (.int i)] [(.ref a)])) rfl rfl (hb hby d10_1)
  refine Go.st (S' := T11.setTop (mkF m 4 #[.val (.ref a), .val (.int i)] [(.ref lt)])) (st11) ?_
  refine Go.st (S' := T11.setTop (mkF m 5 #[.val (.ref a), .val (.int i)] [(.int i), (.ref lt)])) (fun _ k_ => XS.iloadN X11.here hx rfl (hb hby d10_4) rfl k_) ?_
  refine Go.st (S' := T11.setTop (mkF m 6 #[.val (.ref a), .val (.int i)] [(.int v0)])) (A_lt.load X11 hx hZ e11 (j := i) (v := v0) hi hv (g := (mkF m 5 #[.val (.ref a), .val (.int i)] [(.int i), (.ref lt)])) rfl rfl (hb hby d10_5)) ?_
  exact Go.retI X11 hx hret hlk (hb hby d10_6) (by decide) (by decide) (by rw [e11]; exact ⟨rfl, N0, rfl⟩)
theorem ef_dg_cnt (m : MethodId) (x0 : Addr) : entryFrame m #[(.ref x0)] 1 = mkF m 0 #[.val (.ref x0)] [] := by first | (simp [entryFrame, mkF, argsToLocals, Value.category]; done) | rfl
set_option maxRecDepth 65536 in
set_option maxHeartbeats 40000000 in
theorem dg_cnt (l : Launch) (Z : State) (a0 : Array Value) (hw : ∀ d ∈ tables_1, d.before a0 Z = true) (a sr tg eb et lf lt : Addr) (k : Int32) (xS xT xE xF xA xB : List Int32) (h0 : Heap) (n0 : Nat) (Z0 : n0 ≤ h0.size) (H : DG Z h0 a sr tg eb et lf lt k xS xT xE xF xA xB) (hd : own_dis n0 a sr tg eb et lf lt) :
    Con l Z (⟨"io/isoproof/check/polygraph/Digraph", "edgeCount", "()I"⟩ : MethodName) prog_28_method_3_code 1 (some .int) [] ({ frames := 0, cells := 0, slots := 0, locals := 0 } : Room) #[(.ref a)] h0 (fun v h L => v = some (.int k) ∧ Fr n0 L ∧ h = h0) := by
  refine Con.mk (plainFor_of_name pn1) ?_
  intro p e s m below meth c T0 hx hby hml hown hnm hret hlk hZ X0 e0
  have hown : s.vm.findClass "io/isoproof/check/polygraph/Digraph" = some m.cls := hown
  have hnm : meth.name = "edgeCount" := hnm
  have N0 := Fr.nil n0
  refine Go.cast (ef_dg_cnt m a) ?_
  obtain ⟨E_a, F_edgeCount_a, F_sources_a, F_targets_a, F_edgesBefore_a, F_edgesBeforeTo_a, F_lastEdgeFrom_a, F_lastEdgeTo_a, A_sr, A_tg, A_eb, A_et, A_lf, A_lt⟩ := H
  obtain ⟨ne_a_sr, ne_a_tg, ne_a_eb, ne_a_et, ne_a_lf, ne_a_lt, ne_sr_tg, ne_sr_eb, ne_sr_et, ne_sr_lf, ne_sr_lt, ne_tg_eb, ne_tg_et, ne_tg_lf, ne_tg_lt, ne_eb_et, ne_eb_lf, ne_eb_lt, ne_et_lf, ne_et_lt, ne_lf_lt, g_a, g_sr, g_tg, g_eb, g_et, g_lf, g_lt⟩ := hd
  refine Go.st (S' := T0.setTop (mkF m 1 #[.val (.ref a)] [(.ref a)])) (fun _ k_ => XS.aloadN X0.here hx rfl (hb hby d7_0) rfl rfl k_) ?_
  obtain ⟨T11, X11, e11, st11⟩ := getF X0 hx hZ hown (host := "") (Or.inl (w33 hw)) Via.refl e0 F_edgeCount_a (g := (mkF m 1 #[.val (.ref a)] [(.ref a)])) rfl rfl (hb hby d7_1)
  refine Go.st (S' := T11.setTop (mkF m 4 #[.val (.ref a)] [(.int k)])) (st11) ?_
  exact Go.retI X11 hx hret hlk (hb hby d7_4) (by decide) (by decide) (by rw [e11]; exact ⟨rfl, N0, rfl⟩)
theorem ef_rm_last (m : MethodId) (x0 : Int32) (x1 : Int32) (x2 : Int32) (x3 : Int32) (x4 : Int32) : entryFrame m #[(.int x0), (.int x1), (.int x2), (.int x3), (.int x4)] 5 = mkF m 0 #[.val (.int x0), .val (.int x1), .val (.int x2), .val (.int x3), .val (.int x4)] [] := by first | (simp [entryFrame, mkF, argsToLocals, Value.category]; done) | rfl
set_option maxRecDepth 65536 in
set_option maxHeartbeats 40000000 in
theorem rm_last (l : Launch) (Z : State) (a0 : Array Value) (hw : ∀ d ∈ tables_1, d.before a0 Z = true) (p0 : Int32) (p1 : Int32) (p2 : Int32) (p3 : Int32) (p4 : Int32) (h0 : Heap) (n0 : Nat) (Z0 : n0 ≤ h0.size) :
    Con l Z (⟨"io/isoproof/check/polygraph/DigraphKeepEdgesPinLaw", "last", "(IIIII)I"⟩ : MethodName) method_2_code 5 (some .int) [] ({ frames := 0, cells := 0, slots := 0, locals := 0 } : Room) #[(.int p0), (.int p1), (.int p2), (.int p3), (.int p4)] h0 (fun v h L => v = some (.int (own_last p0 p1 p2 p3 p4)) ∧ Fr n0 L ∧ h = h0) := by
  refine Con.mk (plainFor_of_name pn2) ?_
  intro p e s m below meth c T0 hx hby hml hown hnm hret hlk hZ X0 e0
  have hown : s.vm.findClass "io/isoproof/check/polygraph/DigraphKeepEdgesPinLaw" = some m.cls := hown
  have hnm : meth.name = "last" := hnm
  have N0 := Fr.nil n0
  refine Go.cast (ef_rm_last m p0 p1 p2 p3 p4) ?_
  refine Go.st (S' := T0.setTop (mkF m 1 #[.val (.int p0), .val (.int p1), .val (.int p2), .val (.int p3), .val (.int p4)] [(.int p1)])) (fun _ k_ => XS.iloadN X0.here hx rfl (hb hby d9_0) rfl k_) ?_
  refine Go.st (S' := T0.setTop (mkF m 2 #[.val (.int p0), .val (.int p1), .val (.int p2), .val (.int p3), .val (.int p4)] [(.int (2 : Int32)), (.int p1)])) (fun _ k_ => XS.iconst X0.here hx rfl (hb hby d9_1) k_) ?_
  by_cases hc2 : (2 : Int32) < p1
  · skip
    refine Go.st (S' := T0.setTop (mkF m 5 #[.val (.int p0), .val (.int p1), .val (.int p2), .val (.int p3), .val (.int p4)] [])) (fun _ k_ => XS.icmpNo X0.here hx rfl (hb hby d9_2) rfl (tlt hc2).2.2.2 k_) ?_
    refine Go.st (S' := T0.setTop (mkF m 7 #[.val (.int p0), .val (.int p1), .val (.int p2), .val (.int p3), .val (.int p4)] [(.int p4)])) (fun _ k_ => XS.iload X0.here hx rfl (hb hby d9_5) rfl k_) ?_
    refine Go.st (S' := T0.setTop (mkF m 8 #[.val (.int p0), .val (.int p1), .val (.int p2), .val (.int p3), .val (.int p4)] [(.int p0), (.int p4)])) (fun _ k_ => XS.iloadN X0.here hx rfl (hb hby d9_7) rfl k_) ?_
    by_cases hc8 : p4 = p0
    · skip
      refine Go.st (S' := T0.setTop (mkF m 11 #[.val (.int p0), .val (.int p1), .val (.int p2), .val (.int p3), .val (.int p4)] [])) (fun _ k_ => XS.icmpNo X0.here hx rfl (hb hby d9_8) rfl (teq hc8).2 k_) ?_
      refine Go.st (S' := T0.setTop (mkF m 12 #[.val (.int p0), .val (.int p1), .val (.int p2), .val (.int p3), .val (.int p4)] [(.int (2 : Int32))])) (fun _ k_ => XS.iconst X0.here hx rfl (hb hby d9_11) k_) ?_
      exact Go.retI X0 hx hret hlk (hb hby d9_12) (by decide) (by decide) (by rw [e0]; exact ⟨by rw [own_last, if_pos ⟨hc2, hc8⟩], N0, rfl⟩)
    · skip
      refine Go.st (S' := T0.setTop (mkF m 13 #[.val (.int p0), .val (.int p1), .val (.int p2), .val (.int p3), .val (.int p4)] [])) (fun _ k_ => XS.icmpYes X0.here hx rfl (pc0 := 8) (pc' := 13) rfl (hb hby d9_8) rfl (feq hc8).2 (by decide) (by decide) k_) ?_
      refine Go.st (S' := T0.setTop (mkF m 14 #[.val (.int p0), .val (.int p1), .val (.int p2), .val (.int p3), .val (.int p4)] [(.int p1)])) (fun _ k_ => XS.iloadN X0.here hx rfl (hb hby d9_13) rfl k_) ?_
      refine Go.st (S' := T0.setTop (mkF m 15 #[.val (.int p0), .val (.int p1), .val (.int p2), .val (.int p3), .val (.int p4)] [(.int (1 : Int32)), (.int p1)])) (fun _ k_ => XS.iconst X0.here hx rfl (hb hby d9_14) k_) ?_
      by_cases hc15 : (1 : Int32) < p1
      · skip
        refine Go.st (S' := T0.setTop (mkF m 18 #[.val (.int p0), .val (.int p1), .val (.int p2), .val (.int p3), .val (.int p4)] [])) (fun _ k_ => XS.icmpNo X0.here hx rfl (hb hby d9_15) rfl (tlt hc15).2.2.2 k_) ?_
        refine Go.st (S' := T0.setTop (mkF m 19 #[.val (.int p0), .val (.int p1), .val (.int p2), .val (.int p3), .val (.int p4)] [(.int p3)])) (fun _ k_ => XS.iloadN X0.here hx rfl (hb hby d9_18) rfl k_) ?_
        refine Go.st (S' := T0.setTop (mkF m 20 #[.val (.int p0), .val (.int p1), .val (.int p2), .val (.int p3), .val (.int p4)] [(.int p0), (.int p3)])) (fun _ k_ => XS.iloadN X0.here hx rfl (hb hby d9_19) rfl k_) ?_
        by_cases hc20 : p3 = p0
        · skip
          refine Go.st (S' := T0.setTop (mkF m 23 #[.val (.int p0), .val (.int p1), .val (.int p2), .val (.int p3), .val (.int p4)] [])) (fun _ k_ => XS.icmpNo X0.here hx rfl (hb hby d9_20) rfl (teq hc20).2 k_) ?_
          refine Go.st (S' := T0.setTop (mkF m 24 #[.val (.int p0), .val (.int p1), .val (.int p2), .val (.int p3), .val (.int p4)] [(.int (1 : Int32))])) (fun _ k_ => XS.iconst X0.here hx rfl (hb hby d9_23) k_) ?_
          exact Go.retI X0 hx hret hlk (hb hby d9_24) (by decide) (by decide) (by rw [e0]; exact ⟨by rw [own_last, if_neg (not_and_of_not_right _ hc8), if_pos ⟨hc15, hc20⟩], N0, rfl⟩)
        · skip
          refine Go.st (S' := T0.setTop (mkF m 25 #[.val (.int p0), .val (.int p1), .val (.int p2), .val (.int p3), .val (.int p4)] [])) (fun _ k_ => XS.icmpYes X0.here hx rfl (pc0 := 20) (pc' := 25) rfl (hb hby d9_20) rfl (feq hc20).2 (by decide) (by decide) k_) ?_
          refine Go.st (S' := T0.setTop (mkF m 26 #[.val (.int p0), .val (.int p1), .val (.int p2), .val (.int p3), .val (.int p4)] [(.int p1)])) (fun _ k_ => XS.iloadN X0.here hx rfl (hb hby d9_25) rfl k_) ?_
          by_cases hc26 : (0 : Int32) < p1
          · skip
            refine Go.st (S' := T0.setTop (mkF m 29 #[.val (.int p0), .val (.int p1), .val (.int p2), .val (.int p3), .val (.int p4)] [])) (fun _ k_ => XS.ifNo X0.here hx rfl (hb hby d9_26) rfl ((if0 _ _).trans (tlt hc26).2.2.2) k_) ?_
            refine Go.st (S' := T0.setTop (mkF m 30 #[.val (.int p0), .val (.int p1), .val (.int p2), .val (.int p3), .val (.int p4)] [(.int p2)])) (fun _ k_ => XS.iloadN X0.here hx rfl (hb hby d9_29) rfl k_) ?_
            refine Go.st (S' := T0.setTop (mkF m 31 #[.val (.int p0), .val (.int p1), .val (.int p2), .val (.int p3), .val (.int p4)] [(.int p0), (.int p2)])) (fun _ k_ => XS.iloadN X0.here hx rfl (hb hby d9_30) rfl k_) ?_
            by_cases hc31 : p2 = p0
            · skip
              refine Go.st (S' := T0.setTop (mkF m 34 #[.val (.int p0), .val (.int p1), .val (.int p2), .val (.int p3), .val (.int p4)] [])) (fun _ k_ => XS.icmpNo X0.here hx rfl (hb hby d9_31) rfl (teq hc31).2 k_) ?_
              refine Go.st (S' := T0.setTop (mkF m 35 #[.val (.int p0), .val (.int p1), .val (.int p2), .val (.int p3), .val (.int p4)] [(.int (0 : Int32))])) (fun _ k_ => XS.iconst X0.here hx rfl (hb hby d9_34) k_) ?_
              exact Go.retI X0 hx hret hlk (hb hby d9_35) (by decide) (by decide) (by rw [e0]; exact ⟨by rw [own_last, if_neg (not_and_of_not_right _ hc8), if_neg (not_and_of_not_right _ hc20), if_pos ⟨hc26, hc31⟩], N0, rfl⟩)
            · skip
              refine Go.st (S' := T0.setTop (mkF m 36 #[.val (.int p0), .val (.int p1), .val (.int p2), .val (.int p3), .val (.int p4)] [])) (fun _ k_ => XS.icmpYes X0.here hx rfl (pc0 := 31) (pc' := 36) rfl (hb hby d9_31) rfl (feq hc31).2 (by decide) (by decide) k_) ?_
              refine Go.st (S' := T0.setTop (mkF m 37 #[.val (.int p0), .val (.int p1), .val (.int p2), .val (.int p3), .val (.int p4)] [(.int (-1 : Int32))])) (fun _ k_ => XS.iconst X0.here hx rfl (hb hby d9_36) k_) ?_
              exact Go.retI X0 hx hret hlk (hb hby d9_37) (by decide) (by decide) (by rw [e0]; exact ⟨by rw [own_last, if_neg (not_and_of_not_right _ hc8), if_neg (not_and_of_not_right _ hc20), if_neg (not_and_of_not_right _ hc31)], N0, rfl⟩)
          · skip
            refine Go.st (S' := T0.setTop (mkF m 36 #[.val (.int p0), .val (.int p1), .val (.int p2), .val (.int p3), .val (.int p4)] [])) (fun _ k_ => XS.ifYes X0.here hx rfl (pc0 := 26) (pc' := 36) rfl (hb hby d9_26) rfl ((if0 _ _).trans (flt hc26).2.2.2) (by decide) (by decide) k_) ?_
            refine Go.st (S' := T0.setTop (mkF m 37 #[.val (.int p0), .val (.int p1), .val (.int p2), .val (.int p3), .val (.int p4)] [(.int (-1 : Int32))])) (fun _ k_ => XS.iconst X0.here hx rfl (hb hby d9_36) k_) ?_
            exact Go.retI X0 hx hret hlk (hb hby d9_37) (by decide) (by decide) (by rw [e0]; exact ⟨by rw [own_last, if_neg (not_and_of_not_right _ hc8), if_neg (not_and_of_not_right _ hc20), if_neg (not_and_of_not_left _ hc26)], N0, rfl⟩)
      · skip
        refine Go.st (S' := T0.setTop (mkF m 25 #[.val (.int p0), .val (.int p1), .val (.int p2), .val (.int p3), .val (.int p4)] [])) (fun _ k_ => XS.icmpYes X0.here hx rfl (pc0 := 15) (pc' := 25) rfl (hb hby d9_15) rfl (flt hc15).2.2.2 (by decide) (by decide) k_) ?_
        refine Go.st (S' := T0.setTop (mkF m 26 #[.val (.int p0), .val (.int p1), .val (.int p2), .val (.int p3), .val (.int p4)] [(.int p1)])) (fun _ k_ => XS.iloadN X0.here hx rfl (hb hby d9_25) rfl k_) ?_
        by_cases hc26 : (0 : Int32) < p1
        · skip
          refine Go.st (S' := T0.setTop (mkF m 29 #[.val (.int p0), .val (.int p1), .val (.int p2), .val (.int p3), .val (.int p4)] [])) (fun _ k_ => XS.ifNo X0.here hx rfl (hb hby d9_26) rfl ((if0 _ _).trans (tlt hc26).2.2.2) k_) ?_
          refine Go.st (S' := T0.setTop (mkF m 30 #[.val (.int p0), .val (.int p1), .val (.int p2), .val (.int p3), .val (.int p4)] [(.int p2)])) (fun _ k_ => XS.iloadN X0.here hx rfl (hb hby d9_29) rfl k_) ?_
          refine Go.st (S' := T0.setTop (mkF m 31 #[.val (.int p0), .val (.int p1), .val (.int p2), .val (.int p3), .val (.int p4)] [(.int p0), (.int p2)])) (fun _ k_ => XS.iloadN X0.here hx rfl (hb hby d9_30) rfl k_) ?_
          by_cases hc31 : p2 = p0
          · skip
            refine Go.st (S' := T0.setTop (mkF m 34 #[.val (.int p0), .val (.int p1), .val (.int p2), .val (.int p3), .val (.int p4)] [])) (fun _ k_ => XS.icmpNo X0.here hx rfl (hb hby d9_31) rfl (teq hc31).2 k_) ?_
            refine Go.st (S' := T0.setTop (mkF m 35 #[.val (.int p0), .val (.int p1), .val (.int p2), .val (.int p3), .val (.int p4)] [(.int (0 : Int32))])) (fun _ k_ => XS.iconst X0.here hx rfl (hb hby d9_34) k_) ?_
            exact Go.retI X0 hx hret hlk (hb hby d9_35) (by decide) (by decide) (by rw [e0]; exact ⟨by rw [own_last, if_neg (not_and_of_not_right _ hc8), if_neg (not_and_of_not_left _ hc15), if_pos ⟨hc26, hc31⟩], N0, rfl⟩)
          · skip
            refine Go.st (S' := T0.setTop (mkF m 36 #[.val (.int p0), .val (.int p1), .val (.int p2), .val (.int p3), .val (.int p4)] [])) (fun _ k_ => XS.icmpYes X0.here hx rfl (pc0 := 31) (pc' := 36) rfl (hb hby d9_31) rfl (feq hc31).2 (by decide) (by decide) k_) ?_
            refine Go.st (S' := T0.setTop (mkF m 37 #[.val (.int p0), .val (.int p1), .val (.int p2), .val (.int p3), .val (.int p4)] [(.int (-1 : Int32))])) (fun _ k_ => XS.iconst X0.here hx rfl (hb hby d9_36) k_) ?_
            exact Go.retI X0 hx hret hlk (hb hby d9_37) (by decide) (by decide) (by rw [e0]; exact ⟨by rw [own_last, if_neg (not_and_of_not_right _ hc8), if_neg (not_and_of_not_left _ hc15), if_neg (not_and_of_not_right _ hc31)], N0, rfl⟩)
        · skip
          refine Go.st (S' := T0.setTop (mkF m 36 #[.val (.int p0), .val (.int p1), .val (.int p2), .val (.int p3), .val (.int p4)] [])) (fun _ k_ => XS.ifYes X0.here hx rfl (pc0 := 26) (pc' := 36) rfl (hb hby d9_26) rfl ((if0 _ _).trans (flt hc26).2.2.2) (by decide) (by decide) k_) ?_
          refine Go.st (S' := T0.setTop (mkF m 37 #[.val (.int p0), .val (.int p1), .val (.int p2), .val (.int p3), .val (.int p4)] [(.int (-1 : Int32))])) (fun _ k_ => XS.iconst X0.here hx rfl (hb hby d9_36) k_) ?_
          exact Go.retI X0 hx hret hlk (hb hby d9_37) (by decide) (by decide) (by rw [e0]; exact ⟨by rw [own_last, if_neg (not_and_of_not_right _ hc8), if_neg (not_and_of_not_left _ hc15), if_neg (not_and_of_not_left _ hc26)], N0, rfl⟩)
  · skip
    refine Go.st (S' := T0.setTop (mkF m 13 #[.val (.int p0), .val (.int p1), .val (.int p2), .val (.int p3), .val (.int p4)] [])) (fun _ k_ => XS.icmpYes X0.here hx rfl (pc0 := 2) (pc' := 13) rfl (hb hby d9_2) rfl (flt hc2).2.2.2 (by decide) (by decide) k_) ?_
    refine Go.st (S' := T0.setTop (mkF m 14 #[.val (.int p0), .val (.int p1), .val (.int p2), .val (.int p3), .val (.int p4)] [(.int p1)])) (fun _ k_ => XS.iloadN X0.here hx rfl (hb hby d9_13) rfl k_) ?_
    refine Go.st (S' := T0.setTop (mkF m 15 #[.val (.int p0), .val (.int p1), .val (.int p2), .val (.int p3), .val (.int p4)] [(.int (1 : Int32)), (.int p1)])) (fun _ k_ => XS.iconst X0.here hx rfl (hb hby d9_14) k_) ?_
    by_cases hc15 : (1 : Int32) < p1
    · skip
      refine Go.st (S' := T0.setTop (mkF m 18 #[.val (.int p0), .val (.int p1), .val (.int p2), .val (.int p3), .val (.int p4)] [])) (fun _ k_ => XS.icmpNo X0.here hx rfl (hb hby d9_15) rfl (tlt hc15).2.2.2 k_) ?_
      refine Go.st (S' := T0.setTop (mkF m 19 #[.val (.int p0), .val (.int p1), .val (.int p2), .val (.int p3), .val (.int p4)] [(.int p3)])) (fun _ k_ => XS.iloadN X0.here hx rfl (hb hby d9_18) rfl k_) ?_
      refine Go.st (S' := T0.setTop (mkF m 20 #[.val (.int p0), .val (.int p1), .val (.int p2), .val (.int p3), .val (.int p4)] [(.int p0), (.int p3)])) (fun _ k_ => XS.iloadN X0.here hx rfl (hb hby d9_19) rfl k_) ?_
      by_cases hc20 : p3 = p0
      · skip
        refine Go.st (S' := T0.setTop (mkF m 23 #[.val (.int p0), .val (.int p1), .val (.int p2), .val (.int p3), .val (.int p4)] [])) (fun _ k_ => XS.icmpNo X0.here hx rfl (hb hby d9_20) rfl (teq hc20).2 k_) ?_
        refine Go.st (S' := T0.setTop (mkF m 24 #[.val (.int p0), .val (.int p1), .val (.int p2), .val (.int p3), .val (.int p4)] [(.int (1 : Int32))])) (fun _ k_ => XS.iconst X0.here hx rfl (hb hby d9_23) k_) ?_
        exact Go.retI X0 hx hret hlk (hb hby d9_24) (by decide) (by decide) (by rw [e0]; exact ⟨by rw [own_last, if_neg (not_and_of_not_left _ hc2), if_pos ⟨hc15, hc20⟩], N0, rfl⟩)
      · skip
        refine Go.st (S' := T0.setTop (mkF m 25 #[.val (.int p0), .val (.int p1), .val (.int p2), .val (.int p3), .val (.int p4)] [])) (fun _ k_ => XS.icmpYes X0.here hx rfl (pc0 := 20) (pc' := 25) rfl (hb hby d9_20) rfl (feq hc20).2 (by decide) (by decide) k_) ?_
        refine Go.st (S' := T0.setTop (mkF m 26 #[.val (.int p0), .val (.int p1), .val (.int p2), .val (.int p3), .val (.int p4)] [(.int p1)])) (fun _ k_ => XS.iloadN X0.here hx rfl (hb hby d9_25) rfl k_) ?_
        by_cases hc26 : (0 : Int32) < p1
        · skip
          refine Go.st (S' := T0.setTop (mkF m 29 #[.val (.int p0), .val (.int p1), .val (.int p2), .val (.int p3), .val (.int p4)] [])) (fun _ k_ => XS.ifNo X0.here hx rfl (hb hby d9_26) rfl ((if0 _ _).trans (tlt hc26).2.2.2) k_) ?_
          refine Go.st (S' := T0.setTop (mkF m 30 #[.val (.int p0), .val (.int p1), .val (.int p2), .val (.int p3), .val (.int p4)] [(.int p2)])) (fun _ k_ => XS.iloadN X0.here hx rfl (hb hby d9_29) rfl k_) ?_
          refine Go.st (S' := T0.setTop (mkF m 31 #[.val (.int p0), .val (.int p1), .val (.int p2), .val (.int p3), .val (.int p4)] [(.int p0), (.int p2)])) (fun _ k_ => XS.iloadN X0.here hx rfl (hb hby d9_30) rfl k_) ?_
          by_cases hc31 : p2 = p0
          · skip
            refine Go.st (S' := T0.setTop (mkF m 34 #[.val (.int p0), .val (.int p1), .val (.int p2), .val (.int p3), .val (.int p4)] [])) (fun _ k_ => XS.icmpNo X0.here hx rfl (hb hby d9_31) rfl (teq hc31).2 k_) ?_
            refine Go.st (S' := T0.setTop (mkF m 35 #[.val (.int p0), .val (.int p1), .val (.int p2), .val (.int p3), .val (.int p4)] [(.int (0 : Int32))])) (fun _ k_ => XS.iconst X0.here hx rfl (hb hby d9_34) k_) ?_
            exact Go.retI X0 hx hret hlk (hb hby d9_35) (by decide) (by decide) (by rw [e0]; exact ⟨by rw [own_last, if_neg (not_and_of_not_left _ hc2), if_neg (not_and_of_not_right _ hc20), if_pos ⟨hc26, hc31⟩], N0, rfl⟩)
          · skip
            refine Go.st (S' := T0.setTop (mkF m 36 #[.val (.int p0), .val (.int p1), .val (.int p2), .val (.int p3), .val (.int p4)] [])) (fun _ k_ => XS.icmpYes X0.here hx rfl (pc0 := 31) (pc' := 36) rfl (hb hby d9_31) rfl (feq hc31).2 (by decide) (by decide) k_) ?_
            refine Go.st (S' := T0.setTop (mkF m 37 #[.val (.int p0), .val (.int p1), .val (.int p2), .val (.int p3), .val (.int p4)] [(.int (-1 : Int32))])) (fun _ k_ => XS.iconst X0.here hx rfl (hb hby d9_36) k_) ?_
            exact Go.retI X0 hx hret hlk (hb hby d9_37) (by decide) (by decide) (by rw [e0]; exact ⟨by rw [own_last, if_neg (not_and_of_not_left _ hc2), if_neg (not_and_of_not_right _ hc20), if_neg (not_and_of_not_right _ hc31)], N0, rfl⟩)
        · skip
          refine Go.st (S' := T0.setTop (mkF m 36 #[.val (.int p0), .val (.int p1), .val (.int p2), .val (.int p3), .val (.int p4)] [])) (fun _ k_ => XS.ifYes X0.here hx rfl (pc0 := 26) (pc' := 36) rfl (hb hby d9_26) rfl ((if0 _ _).trans (flt hc26).2.2.2) (by decide) (by decide) k_) ?_
          refine Go.st (S' := T0.setTop (mkF m 37 #[.val (.int p0), .val (.int p1), .val (.int p2), .val (.int p3), .val (.int p4)] [(.int (-1 : Int32))])) (fun _ k_ => XS.iconst X0.here hx rfl (hb hby d9_36) k_) ?_
          exact Go.retI X0 hx hret hlk (hb hby d9_37) (by decide) (by decide) (by rw [e0]; exact ⟨by rw [own_last, if_neg (not_and_of_not_left _ hc2), if_neg (not_and_of_not_right _ hc20), if_neg (not_and_of_not_left _ hc26)], N0, rfl⟩)
    · skip
      refine Go.st (S' := T0.setTop (mkF m 25 #[.val (.int p0), .val (.int p1), .val (.int p2), .val (.int p3), .val (.int p4)] [])) (fun _ k_ => XS.icmpYes X0.here hx rfl (pc0 := 15) (pc' := 25) rfl (hb hby d9_15) rfl (flt hc15).2.2.2 (by decide) (by decide) k_) ?_
      refine Go.st (S' := T0.setTop (mkF m 26 #[.val (.int p0), .val (.int p1), .val (.int p2), .val (.int p3), .val (.int p4)] [(.int p1)])) (fun _ k_ => XS.iloadN X0.here hx rfl (hb hby d9_25) rfl k_) ?_
      by_cases hc26 : (0 : Int32) < p1
      · skip
        refine Go.st (S' := T0.setTop (mkF m 29 #[.val (.int p0), .val (.int p1), .val (.int p2), .val (.int p3), .val (.int p4)] [])) (fun _ k_ => XS.ifNo X0.here hx rfl (hb hby d9_26) rfl ((if0 _ _).trans (tlt hc26).2.2.2) k_) ?_
        refine Go.st (S' := T0.setTop (mkF m 30 #[.val (.int p0), .val (.int p1), .val (.int p2), .val (.int p3), .val (.int p4)] [(.int p2)])) (fun _ k_ => XS.iloadN X0.here hx rfl (hb hby d9_29) rfl k_) ?_
        refine Go.st (S' := T0.setTop (mkF m 31 #[.val (.int p0), .val (.int p1), .val (.int p2), .val (.int p3), .val (.int p4)] [(.int p0), (.int p2)])) (fun _ k_ => XS.iloadN X0.here hx rfl (hb hby d9_30) rfl k_) ?_
        by_cases hc31 : p2 = p0
        · skip
          refine Go.st (S' := T0.setTop (mkF m 34 #[.val (.int p0), .val (.int p1), .val (.int p2), .val (.int p3), .val (.int p4)] [])) (fun _ k_ => XS.icmpNo X0.here hx rfl (hb hby d9_31) rfl (teq hc31).2 k_) ?_
          refine Go.st (S' := T0.setTop (mkF m 35 #[.val (.int p0), .val (.int p1), .val (.int p2), .val (.int p3), .val (.int p4)] [(.int (0 : Int32))])) (fun _ k_ => XS.iconst X0.here hx rfl (hb hby d9_34) k_) ?_
          exact Go.retI X0 hx hret hlk (hb hby d9_35) (by decide) (by decide) (by rw [e0]; exact ⟨by rw [own_last, if_neg (not_and_of_not_left _ hc2), if_neg (not_and_of_not_left _ hc15), if_pos ⟨hc26, hc31⟩], N0, rfl⟩)
        · skip
          refine Go.st (S' := T0.setTop (mkF m 36 #[.val (.int p0), .val (.int p1), .val (.int p2), .val (.int p3), .val (.int p4)] [])) (fun _ k_ => XS.icmpYes X0.here hx rfl (pc0 := 31) (pc' := 36) rfl (hb hby d9_31) rfl (feq hc31).2 (by decide) (by decide) k_) ?_
          refine Go.st (S' := T0.setTop (mkF m 37 #[.val (.int p0), .val (.int p1), .val (.int p2), .val (.int p3), .val (.int p4)] [(.int (-1 : Int32))])) (fun _ k_ => XS.iconst X0.here hx rfl (hb hby d9_36) k_) ?_
          exact Go.retI X0 hx hret hlk (hb hby d9_37) (by decide) (by decide) (by rw [e0]; exact ⟨by rw [own_last, if_neg (not_and_of_not_left _ hc2), if_neg (not_and_of_not_left _ hc15), if_neg (not_and_of_not_right _ hc31)], N0, rfl⟩)
      · skip
        refine Go.st (S' := T0.setTop (mkF m 36 #[.val (.int p0), .val (.int p1), .val (.int p2), .val (.int p3), .val (.int p4)] [])) (fun _ k_ => XS.ifYes X0.here hx rfl (pc0 := 26) (pc' := 36) rfl (hb hby d9_26) rfl ((if0 _ _).trans (flt hc26).2.2.2) (by decide) (by decide) k_) ?_
        refine Go.st (S' := T0.setTop (mkF m 37 #[.val (.int p0), .val (.int p1), .val (.int p2), .val (.int p3), .val (.int p4)] [(.int (-1 : Int32))])) (fun _ k_ => XS.iconst X0.here hx rfl (hb hby d9_36) k_) ?_
        exact Go.retI X0 hx hret hlk (hb hby d9_37) (by decide) (by decide) (by rw [e0]; exact ⟨by rw [own_last, if_neg (not_and_of_not_left _ hc2), if_neg (not_and_of_not_left _ hc15), if_neg (not_and_of_not_left _ hc26)], N0, rfl⟩)
theorem ef_rm_min (m : MethodId) (x0 : Int32) (x1 : Int32) : entryFrame m #[(.int x0), (.int x1)] 2 = mkF m 0 #[.val (.int x0), .val (.int x1)] [] := by first | (simp [entryFrame, mkF, argsToLocals, Value.category]; done) | rfl
set_option maxRecDepth 65536 in
set_option maxHeartbeats 40000000 in
theorem rm_min (l : Launch) (Z : State) (a0 : Array Value) (hw : ∀ d ∈ tables_1, d.before a0 Z = true) (p0 : Int32) (p1 : Int32) (h0 : Heap) (n0 : Nat) (Z0 : n0 ≤ h0.size) :
    Con l Z (⟨"java/lang/Math", "min", "(II)I"⟩ : MethodName) jdk_29_method_69_code 2 (some .int) [] ({ frames := 0, cells := 0, slots := 0, locals := 0 } : Room) #[(.int p0), (.int p1)] h0 (fun v h L => v = some (.int (if p1 < p0 then p1 else p0)) ∧ Fr n0 L ∧ h = h0) := by
  refine Con.mk (Jvm.Free.JP.mathPlain rfl (by decide +kernel)) ?_
  intro p e s m below meth c T0 hx hby hml hown hnm hret hlk hZ X0 e0
  have hown : s.vm.findClass "java/lang/Math" = some m.cls := hown
  have hnm : meth.name = "min" := hnm
  have N0 := Fr.nil n0
  refine Go.cast (ef_rm_min m p0 p1) ?_
  refine Go.st (S' := T0.setTop (mkF m 1 #[.val (.int p0), .val (.int p1)] [(.int p0)])) (fun _ k_ => XS.iloadN X0.here hx rfl (hb hby d6_0) rfl k_) ?_
  refine Go.st (S' := T0.setTop (mkF m 2 #[.val (.int p0), .val (.int p1)] [(.int p1), (.int p0)])) (fun _ k_ => XS.iloadN X0.here hx rfl (hb hby d6_1) rfl k_) ?_
  by_cases hc2 : p1 < p0
  · skip
    refine Go.st (S' := T0.setTop (mkF m 9 #[.val (.int p0), .val (.int p1)] [])) (fun _ k_ => XS.icmpYes X0.here hx rfl (pc0 := 2) (pc' := 9) rfl (hb hby d6_2) rfl (tlt hc2).2.2.1 (by decide) (by decide) k_) ?_
    refine Go.st (S' := T0.setTop (mkF m 10 #[.val (.int p0), .val (.int p1)] [(.int p1)])) (fun _ k_ => XS.iloadN X0.here hx rfl (hb hby d6_9) rfl k_) ?_
    exact Go.retI X0 hx hret hlk (hb hby d6_10) (by decide) (by decide) (by rw [e0]; exact ⟨by rw [if_pos hc2], N0, rfl⟩)
  · skip
    refine Go.st (S' := T0.setTop (mkF m 5 #[.val (.int p0), .val (.int p1)] [])) (fun _ k_ => XS.icmpNo X0.here hx rfl (hb hby d6_2) rfl (flt hc2).2.2.1 k_) ?_
    refine Go.st (S' := T0.setTop (mkF m 6 #[.val (.int p0), .val (.int p1)] [(.int p0)])) (fun _ k_ => XS.iloadN X0.here hx rfl (hb hby d6_5) rfl k_) ?_
    refine Go.st (S' := T0.setTop (mkF m 10 #[.val (.int p0), .val (.int p1)] [(.int p0)])) (fun _ k_ => XS.goto X0.here hx rfl (pc0 := 6) (pc' := 10) rfl (hb hby d6_6) (by decide) (by decide) k_) ?_
    exact Go.retI X0 hx hret hlk (hb hby d6_10) (by decide) (by decide) (by rw [e0]; exact ⟨by rw [if_neg hc2], N0, rfl⟩)
theorem ef_rm0 (m : MethodId) (x0 : Int32) (x1 : Int32) : entryFrame m #[(.int x0), (.int x1)] maxLocals = mkF m 0 #[.val (.int x0), .val (.int x1), .unset, .unset, .unset, .unset, .unset, .unset, .unset, .unset, .unset] [] := by first | (simp [entryFrame, mkF, argsToLocals, Value.category, maxLocals]; done) | rfl
set_option maxRecDepth 65536 in
set_option maxHeartbeats 40000000 in
theorem rm0 (l : Launch) (Z : State) (a0 : Array Value) (hw : ∀ d ∈ tables_1, d.before a0 Z = true) (ws : List Jvm.Cond) (p0 : Int32) (p1 : Int32) (h0 : Heap) (n0 : Nat) (Z0 : n0 ≤ h0.size) :
    Con l Z x code maxLocals ret ws room_1 #[(.int p0), (.int p1)] h0 (fun v h L => v = some (.int 1) ∧ Fr n0 L) := by
  refine Con.mk (plainFor_of_name pn2) ?_
  intro p e s m below meth c T0 hx hby hml hown hnm hret hlk hZ X0 e0
  have hret : meth.sig.returnType = some .boolean := hret
  have hml : c.maxLocals = 11 := hml
  have hown : s.vm.findClass "io/isoproof/check/polygraph/DigraphKeepEdgesPinLaw" = some m.cls := hown
  have hby : c.code = code := hby
  have N0 := Fr.nil n0
  have J54 : ∀ (f0 t0 f1 t1 f2 t2 : Int32) (h_f0 : f0 = 0 ∨ f0 = 1) (h_t0 : t0 = 0 ∨ t0 = 1) (h_f1 : f1 = 0 ∨ f1 = 1) (h_t1 : t1 = 0 ∨ t1 = 1) (h_f2 : f2 = 0 ∨ f2 = 1) (h_t2 : t2 = 0 ∨ t2 = 1) (cn : Int32) (hcn : ¬ cn < 0), Go p e below s room_1 (fun v h L => v = some (.int 1) ∧ Fr n0 L) (T0.setTop (mkF m 54 #[.val (.int p0), .val (.int p1), .val (.int f0), .val (.int t0), .val (.int f1), .val (.int t1), .val (.int f2), .val (.int t2), .unset, .unset, .unset] [(.int cn)])) := by
    intro f0 t0 f1 t1 f2 t2 h_f0 h_t0 h_f1 h_t1 h_f2 h_t2 cn hcn
    refine Go.st (S' := T0.setTop (mkF m 56 #[.val (.int p0), .val (.int p1), .val (.int f0), .val (.int t0), .val (.int f1), .val (.int t1), .val (.int f2), .val (.int t2), .val (.int cn), .unset, .unset] [])) (fun _ k_ => XS.istore X0.here hx rfl (hb hby at_54) rfl (l' := #[.val (.int p0), .val (.int p1), .val (.int f0), .val (.int t0), .val (.int f1), .val (.int t1), .val (.int f2), .val (.int t2), .val (.int cn), .unset, .unset]) rfl k_) ?_
    obtain ⟨T11, h11, X11, e11, E11, A11, D11, -, st11⟩ := newO X0 hx hZ hown (w0 hw) (w1 hw) (w2 hw) e0 (g := (mkF m 56 #[.val (.int p0), .val (.int p1), .val (.int f0), .val (.int t0), .val (.int f1), .val (.int t1), .val (.int f2), .val (.int t2), .val (.int cn), .unset, .unset] [])) rfl (hb hby at_56) (by decide) (by decide)
    obtain ⟨b11, q11⟩ : ∃ z, z = h0.size := ⟨_, rfl⟩
    rw [← q11] at A11 D11 st11
    have g_b11 : n0 ≤ b11 := Nat.le_trans Z0 (Nat.le_of_eq q11.symm)
    replace Z0 := Nat.le_trans Z0 E11.1
    have E_b11 := A11
    have F_sources_b11 : Fld Z h11 b11 "io/isoproof/check/polygraph/Digraph" "sources" "[I" .null := D11 (Or.inl (w11 hw)) (ty := (.array .int)) (by decide)
    have F_targets_b11 : Fld Z h11 b11 "io/isoproof/check/polygraph/Digraph" "targets" "[I" .null := D11 (Or.inl (w13 hw)) (ty := (.array .int)) (by decide)
    have F_edgesBefore_b11 : Fld Z h11 b11 "io/isoproof/check/polygraph/Digraph" "edgesBefore" "[I" .null := D11 (Or.inl (w15 hw)) (ty := (.array .int)) (by decide)
    have F_edgesBeforeTo_b11 : Fld Z h11 b11 "io/isoproof/check/polygraph/Digraph" "edgesBeforeTo" "[I" .null := D11 (Or.inl (w17 hw)) (ty := (.array .int)) (by decide)
    have F_nodes_b11 : Fld Z h11 b11 "io/isoproof/check/polygraph/Digraph" "nodes" "I" (.int (0 : Int32)) := D11 (Or.inr (w19 hw)) (ty := .int) (by decide)
    have F_lastEdgeFrom_b11 : Fld Z h11 b11 "io/isoproof/check/polygraph/Digraph" "lastEdgeFrom" "[I" .null := D11 (Or.inr (w21 hw)) (ty := (.array .int)) (by decide)
    have F_lastEdgeTo_b11 : Fld Z h11 b11 "io/isoproof/check/polygraph/Digraph" "lastEdgeTo" "[I" .null := D11 (Or.inr (w27 hw)) (ty := (.array .int)) (by decide)
    have F_edgeCount_b11 : Fld Z h11 b11 "io/isoproof/check/polygraph/Digraph" "edgeCount" "I" (.int (0 : Int32)) := D11 (Or.inl (w34 hw)) (ty := .int) (by decide)
    refine Go.st (S' := T11.setTop (mkF m 59 #[.val (.int p0), .val (.int p1), .val (.int f0), .val (.int t0), .val (.int f1), .val (.int t1), .val (.int f2), .val (.int t2), .val (.int cn), .unset, .unset] [(.ref b11)])) (st11) ?_
    refine Go.st (S' := T11.setTop (mkF m 60 #[.val (.int p0), .val (.int p1), .val (.int f0), .val (.int t0), .val (.int f1), .val (.int t1), .val (.int f2), .val (.int t2), .val (.int cn), .unset, .unset] [(.ref b11), (.ref b11)])) (fun _ k_ => XS.dup X11.here hx rfl (hb hby at_59) rfl rfl k_) ?_
    refine Go.st (S' := T11.setTop (mkF m 61 #[.val (.int p0), .val (.int p1), .val (.int f0), .val (.int t0), .val (.int f1), .val (.int t1), .val (.int f2), .val (.int t2), .val (.int cn), .unset, .unset] [(.int (2 : Int32)), (.ref b11), (.ref b11)])) (fun _ k_ => XS.iconst X11.here hx rfl (hb hby at_60) k_) ?_
    obtain ⟨v12, T12, h12, L12, X12, e12, hQ12, st12⟩ := callIn X11 hx hZ rfl hown (w3 hw) (w4 hw) (w2 hw) (w5 hw) (by decide) (W := 1) (argsL := [(.int (2 : Int32))]) (rest := [(.ref b11)]) e11 (dg_init l Z a0 hw b11 h11 n0 Z0 E_b11 F_edgeCount_b11 F_nodes_b11 F_sources_b11 F_targets_b11 F_edgesBefore_b11 F_edgesBeforeTo_b11 F_lastEdgeFrom_b11 F_lastEdgeTo_b11 g_b11) (by decide) (by decide) pd1 rfl (g := (mkF m 61 #[.val (.int p0), .val (.int p1), .val (.int f0), .val (.int t0), .val (.int f1), .val (.int t1), .val (.int f2), .val (.int t2), .val (.int cn), .unset, .unset] [(.int (2 : Int32)), (.ref b11), (.ref b11)])) rfl (by rw [hml]; rfl) rfl (by show 2 * 0 + _ ≤ _; exact Nat.le_of_eq rfl) (hb hby at_61) (by decide) (by decide)
    obtain ⟨rfl, Nq12, Kq12, sr12, tg12, eb12, et12, lf12, lt12, hd, HD⟩ := hQ12
    have N12 := Fr.app N0 Nq12
    replace Z0 := Nat.le_trans Z0 Kq12.1
    refine Go.st (S' := T12.setTop (mkF m 64 #[.val (.int p0), .val (.int p1), .val (.int f0), .val (.int t0), .val (.int f1), .val (.int t1), .val (.int f2), .val (.int t2), .val (.int cn), .unset, .unset] [(.ref b11)])) (st12) ?_
    refine Go.st (S' := T12.setTop (mkF m 66 #[.val (.int p0), .val (.int p1), .val (.int f0), .val (.int t0), .val (.int f1), .val (.int t1), .val (.int f2), .val (.int t2), .val (.int cn), .val (.ref b11), .unset] [])) (fun _ k_ => XS.astore X12.here hx rfl (hb hby at_64) rfl rfl (l' := #[.val (.int p0), .val (.int p1), .val (.int f0), .val (.int t0), .val (.int f1), .val (.int t1), .val (.int f2), .val (.int t2), .val (.int cn), .val (.ref b11), .unset]) rfl k_) ?_
    refine Go.st (S' := T12.setTop (mkF m 68 #[.val (.int p0), .val (.int p1), .val (.int f0), .val (.int t0), .val (.int f1), .val (.int t1), .val (.int f2), .val (.int t2), .val (.int cn), .val (.ref b11), .unset] [(.ref b11)])) (fun _ k_ => XS.aload X12.here hx rfl (hb hby at_66) rfl rfl k_) ?_
    refine Go.st (S' := T12.setTop (mkF m 69 #[.val (.int p0), .val (.int p1), .val (.int f0), .val (.int t0), .val (.int f1), .val (.int t1), .val (.int f2), .val (.int t2), .val (.int cn), .val (.ref b11), .unset] [(.int f0), (.ref b11)])) (fun _ k_ => XS.iloadN X12.here hx rfl (hb hby at_68) rfl k_) ?_
    refine Go.st (S' := T12.setTop (mkF m 70 #[.val (.int p0), .val (.int p1), .val (.int f0), .val (.int t0), .val (.int f1), .val (.int t1), .val (.int f2), .val (.int t2), .val (.int cn), .val (.ref b11), .unset] [(.int t0), (.int f0), (.ref b11)])) (fun _ k_ => XS.iloadN X12.here hx rfl (hb hby at_69) rfl k_) ?_
    obtain ⟨v13, T13, h13, L13, X13, e13, hQ13, st13⟩ := callVi X12 hx hZ hown (w28 hw) (w29 hw) (w31 hw) (w30 hw) (w2 hw) (w32 hw) (by decide) (W := 0) (argsL := [(.int f0), (.int t0)]) (rest := []) e12 HD.1 (dg_add l Z a0 hw b11 sr12 tg12 eb12 et12 lf12 lt12 0 f0 t0 (List.replicate 64 0) (List.replicate 64 0) (List.replicate 64 0) (List.replicate 64 0) [-1, -1] [-1, -1] h12 n0 Z0 HD hd (by decide) (by refine ⟨?_, ?_, ?_, ?_, ?_, ?_⟩ <;> first | rfl | (simp only [own_S, own_E, own_A1, own_A2, own_A3, List.length_set, List.length_replicate]; rfl) | simp) h_f0 h_t0) (by decide) (by decide) pd2 rfl (g := (mkF m 70 #[.val (.int p0), .val (.int p1), .val (.int f0), .val (.int t0), .val (.int f1), .val (.int t1), .val (.int f2), .val (.int t2), .val (.int cn), .val (.ref b11), .unset] [(.int t0), (.int f0), (.ref b11)])) rfl (by rw [hml]; rfl) rfl (by show 2 * 0 + _ ≤ _; exact Nat.le_of_eq rfl) (hb hby at_70) (by decide) (by decide)
    obtain ⟨rfl, Nq13, Kq13, HD⟩ := hQ13
    have N13 := Fr.app N12 Nq13
    replace Z0 := Nat.le_trans Z0 Kq13.1
    refine Go.st (S' := T13.setTop (mkF m 73 #[.val (.int p0), .val (.int p1), .val (.int f0), .val (.int t0), .val (.int f1), .val (.int t1), .val (.int f2), .val (.int t2), .val (.int cn), .val (.ref b11), .unset] [])) (st13) ?_
    refine Go.st (S' := T13.setTop (mkF m 75 #[.val (.int p0), .val (.int p1), .val (.int f0), .val (.int t0), .val (.int f1), .val (.int t1), .val (.int f2), .val (.int t2), .val (.int cn), .val (.ref b11), .unset] [(.ref b11)])) (fun _ k_ => XS.aload X13.here hx rfl (hb hby at_73) rfl rfl k_) ?_
    refine Go.st (S' := T13.setTop (mkF m 77 #[.val (.int p0), .val (.int p1), .val (.int f0), .val (.int t0), .val (.int f1), .val (.int t1), .val (.int f2), .val (.int t2), .val (.int cn), .val (.ref b11), .unset] [(.int f1), (.ref b11)])) (fun _ k_ => XS.iload X13.here hx rfl (hb hby at_75) rfl k_) ?_
    refine Go.st (S' := T13.setTop (mkF m 79 #[.val (.int p0), .val (.int p1), .val (.int f0), .val (.int t0), .val (.int f1), .val (.int t1), .val (.int f2), .val (.int t2), .val (.int cn), .val (.ref b11), .unset] [(.int t1), (.int f1), (.ref b11)])) (fun _ k_ => XS.iload X13.here hx rfl (hb hby at_77) rfl k_) ?_
    obtain ⟨v14, T14, h14, L14, X14, e14, hQ14, st14⟩ := callVi X13 hx hZ hown (w28 hw) (w29 hw) (w31 hw) (w30 hw) (w2 hw) (w32 hw) (by decide) (W := 0) (argsL := [(.int f1), (.int t1)]) (rest := []) e13 HD.1 (dg_add l Z a0 hw b11 sr12 tg12 eb12 et12 lf12 lt12 1 f1 t1 ((List.replicate 64 0).set 0 f0) ((List.replicate 64 0).set 0 t0) ((List.replicate 64 0).set 0 ([-1, -1].getD f0.toNatClampNeg 0)) ((List.replicate 64 0).set 0 ([-1, -1].getD t0.toNatClampNeg 0)) ([-1, -1].set f0.toNatClampNeg (0 : Nat).toInt32) ([-1, -1].set t0.toNatClampNeg (0 : Nat).toInt32) h13 n0 Z0 HD hd (by decide) (by refine ⟨?_, ?_, ?_, ?_, ?_, ?_⟩ <;> first | rfl | (simp only [own_S, own_E, own_A1, own_A2, own_A3, List.length_set, List.length_replicate]; rfl) | simp) h_f1 h_t1) (by decide) (by decide) pd2 rfl (g := (mkF m 79 #[.val (.int p0), .val (.int p1), .val (.int f0), .val (.int t0), .val (.int f1), .val (.int t1), .val (.int f2), .val (.int t2), .val (.int cn), .val (.ref b11), .unset] [(.int t1), (.int f1), (.ref b11)])) rfl (by rw [hml]; rfl) rfl (by show 2 * 0 + _ ≤ _; exact Nat.le_of_eq rfl) (hb hby at_79) (by decide) (by decide)
    obtain ⟨rfl, Nq14, Kq14, HD⟩ := hQ14
    have N14 := Fr.app N13 Nq14
    replace Z0 := Nat.le_trans Z0 Kq14.1
    refine Go.st (S' := T14.setTop (mkF m 82 #[.val (.int p0), .val (.int p1), .val (.int f0), .val (.int t0), .val (.int f1), .val (.int t1), .val (.int f2), .val (.int t2), .val (.int cn), .val (.ref b11), .unset] [])) (st14) ?_
    refine Go.st (S' := T14.setTop (mkF m 84 #[.val (.int p0), .val (.int p1), .val (.int f0), .val (.int t0), .val (.int f1), .val (.int t1), .val (.int f2), .val (.int t2), .val (.int cn), .val (.ref b11), .unset] [(.ref b11)])) (fun _ k_ => XS.aload X14.here hx rfl (hb hby at_82) rfl rfl k_) ?_
    refine Go.st (S' := T14.setTop (mkF m 86 #[.val (.int p0), .val (.int p1), .val (.int f0), .val (.int t0), .val (.int f1), .val (.int t1), .val (.int f2), .val (.int t2), .val (.int cn), .val (.ref b11), .unset] [(.int f2), (.ref b11)])) (fun _ k_ => XS.iload X14.here hx rfl (hb hby at_84) rfl k_) ?_
    refine Go.st (S' := T14.setTop (mkF m 88 #[.val (.int p0), .val (.int p1), .val (.int f0), .val (.int t0), .val (.int f1), .val (.int t1), .val (.int f2), .val (.int t2), .val (.int cn), .val (.ref b11), .unset] [(.int t2), (.int f2), (.ref b11)])) (fun _ k_ => XS.iload X14.here hx rfl (hb hby at_86) rfl k_) ?_
    obtain ⟨v15, T15, h15, L15, X15, e15, hQ15, st15⟩ := callVi X14 hx hZ hown (w28 hw) (w29 hw) (w31 hw) (w30 hw) (w2 hw) (w32 hw) (by decide) (W := 0) (argsL := [(.int f2), (.int t2)]) (rest := []) e14 HD.1 (dg_add l Z a0 hw b11 sr12 tg12 eb12 et12 lf12 lt12 2 f2 t2 (((List.replicate 64 0).set 0 f0).set 1 f1) (((List.replicate 64 0).set 0 t0).set 1 t1) (((List.replicate 64 0).set 0 ([-1, -1].getD f0.toNatClampNeg 0)).set 1 (([-1, -1].set f0.toNatClampNeg (0 : Nat).toInt32).getD f1.toNatClampNeg 0)) (((List.replicate 64 0).set 0 ([-1, -1].getD t0.toNatClampNeg 0)).set 1 (([-1, -1].set t0.toNatClampNeg (0 : Nat).toInt32).getD t1.toNatClampNeg 0)) (([-1, -1].set f0.toNatClampNeg (0 : Nat).toInt32).set f1.toNatClampNeg (1 : Nat).toInt32) (([-1, -1].set t0.toNatClampNeg (0 : Nat).toInt32).set t1.toNatClampNeg (1 : Nat).toInt32) h14 n0 Z0 HD hd (by decide) (by refine ⟨?_, ?_, ?_, ?_, ?_, ?_⟩ <;> first | rfl | (simp only [own_S, own_E, own_A1, own_A2, own_A3, List.length_set, List.length_replicate]; rfl) | simp) h_f2 h_t2) (by decide) (by decide) pd2 rfl (g := (mkF m 88 #[.val (.int p0), .val (.int p1), .val (.int f0), .val (.int t0), .val (.int f1), .val (.int t1), .val (.int f2), .val (.int t2), .val (.int cn), .val (.ref b11), .unset] [(.int t2), (.int f2), (.ref b11)])) rfl (by rw [hml]; rfl) rfl (by show 2 * 0 + _ ≤ _; exact Nat.le_of_eq rfl) (hb hby at_88) (by decide) (by decide)
    obtain ⟨rfl, Nq15, Kq15, HD⟩ := hQ15
    have N15 := Fr.app N14 Nq15
    replace Z0 := Nat.le_trans Z0 Kq15.1
    refine Go.st (S' := T15.setTop (mkF m 91 #[.val (.int p0), .val (.int p1), .val (.int f0), .val (.int t0), .val (.int f1), .val (.int t1), .val (.int f2), .val (.int t2), .val (.int cn), .val (.ref b11), .unset] [])) (st15) ?_
    refine Go.st (S' := T15.setTop (mkF m 93 #[.val (.int p0), .val (.int p1), .val (.int f0), .val (.int t0), .val (.int f1), .val (.int t1), .val (.int f2), .val (.int t2), .val (.int cn), .val (.ref b11), .unset] [(.ref b11)])) (fun _ k_ => XS.aload X15.here hx rfl (hb hby at_91) rfl rfl k_) ?_
    refine Go.st (S' := T15.setTop (mkF m 95 #[.val (.int p0), .val (.int p1), .val (.int f0), .val (.int t0), .val (.int f1), .val (.int t1), .val (.int f2), .val (.int t2), .val (.int cn), .val (.ref b11), .unset] [(.int cn), (.ref b11)])) (fun _ k_ => XS.iload X15.here hx rfl (hb hby at_93) rfl k_) ?_
    have HD : DG Z h15 b11 sr12 tg12 eb12 et12 lf12 lt12 (3 : Int32) (own_S f0 f1 f2) (own_S t0 t1 t2) (own_E f0 f1 f2) (own_E t0 t1 t2) (own_A3 f0 f1 f2) (own_A3 t0 t1 t2) := HD
    obtain ⟨v16, T16, h16, L16, X16, e16, hQ16, st16⟩ := callVi X15 hx hZ hown (w35 hw) (w36 hw) (w38 hw) (w37 hw) (w2 hw) (w39 hw) (by decide) (W := 0) (argsL := [(.int cn)]) (rest := []) e15 HD.1 (dg_keep l Z a0 hw b11 sr12 tg12 eb12 et12 lf12 lt12 cn (own_S f0 f1 f2) (own_S t0 t1 t2) (own_E f0 f1 f2) (own_E t0 t1 t2) (own_A3 f0 f1 f2) (own_A3 t0 t1 t2) h15 n0 Z0 HD hd (by refine ⟨?_, ?_, ?_, ?_, ?_, ?_⟩ <;> first | rfl | (simp only [own_S, own_E, own_A1, own_A2, own_A3, List.length_set, List.length_replicate]; rfl) | simp) (fun i hi => by rcases (show i = 0 ∨ i = 1 ∨ i = 2 by omega) with rfl | rfl | rfl; exact ⟨h_f0, h_t0⟩; exact ⟨h_f1, h_t1⟩; exact ⟨h_f2, h_t2⟩) hcn) (by decide) (by decide) pd1 rfl (g := (mkF m 95 #[.val (.int p0), .val (.int p1), .val (.int f0), .val (.int t0), .val (.int f1), .val (.int t1), .val (.int f2), .val (.int t2), .val (.int cn), .val (.ref b11), .unset] [(.int cn), (.ref b11)])) rfl (by rw [hml]; rfl) rfl (by show 2 * 0 + _ ≤ _; exact Nat.le_of_eq rfl) (hb hby at_95) (by decide) (by decide)
    obtain ⟨rfl, Nq16, Kq16, r, hr3, hre, HD⟩ := hQ16
    have N16 := Fr.app N15 Nq16
    replace Z0 := Nat.le_trans Z0 Kq16.1
    refine Go.st (S' := T16.setTop (mkF m 98 #[.val (.int p0), .val (.int p1), .val (.int f0), .val (.int t0), .val (.int f1), .val (.int t1), .val (.int f2), .val (.int t2), .val (.int cn), .val (.ref b11), .unset] [])) (st16) ?_
    refine Go.st (S' := T16.setTop (mkF m 100 #[.val (.int p0), .val (.int p1), .val (.int f0), .val (.int t0), .val (.int f1), .val (.int t1), .val (.int f2), .val (.int t2), .val (.int cn), .val (.ref b11), .unset] [(.int cn)])) (fun _ k_ => XS.iload X16.here hx rfl (hb hby at_98) rfl k_) ?_
    refine Go.st (S' := T16.setTop (mkF m 101 #[.val (.int p0), .val (.int p1), .val (.int f0), .val (.int t0), .val (.int f1), .val (.int t1), .val (.int f2), .val (.int t2), .val (.int cn), .val (.ref b11), .unset] [(.int (3 : Int32)), (.int cn)])) (fun _ k_ => XS.iconst X16.here hx rfl (hb hby at_100) k_) ?_
    obtain ⟨v17, T17, h17, L17, X17, e17, hQ17, st17⟩ := callSt X16 hx hZ hown (w40 hw) (w41 hw) (w42 hw) (w43 hw) (by decide) (W := 0) (argsL := [(.int cn), (.int (3 : Int32))]) (rest := []) e16 (rm_min l Z a0 hw cn (3 : Int32) h16 n0 Z0) (by decide) (by decide) pd3 rfl (g := (mkF m 101 #[.val (.int p0), .val (.int p1), .val (.int f0), .val (.int t0), .val (.int f1), .val (.int t1), .val (.int f2), .val (.int t2), .val (.int cn), .val (.ref b11), .unset] [(.int (3 : Int32)), (.int cn)])) rfl (by rw [hml]; rfl) rfl (by show 2 * 0 + _ ≤ _; exact Nat.le_of_eq rfl) (hb hby at_101) (by decide) (by decide)
    obtain ⟨rfl, Nq17, hh17⟩ := hQ17
    rw [hh17] at e17
    have N17 := Fr.app N16 Nq17
    rw [← hre] at st17
    refine Go.st (S' := T17.setTop (mkF m 104 #[.val (.int p0), .val (.int p1), .val (.int f0), .val (.int t0), .val (.int f1), .val (.int t1), .val (.int f2), .val (.int t2), .val (.int cn), .val (.ref b11), .unset] [(.int r.toInt32)])) (st17) ?_
    refine Go.st (S' := T17.setTop (mkF m 106 #[.val (.int p0), .val (.int p1), .val (.int f0), .val (.int t0), .val (.int f1), .val (.int t1), .val (.int f2), .val (.int t2), .val (.int cn), .val (.ref b11), .val (.int r.toInt32)] [])) (fun _ k_ => XS.istore X17.here hx rfl (hb hby at_104) rfl (l' := #[.val (.int p0), .val (.int p1), .val (.int f0), .val (.int t0), .val (.int f1), .val (.int t1), .val (.int f2), .val (.int t2), .val (.int cn), .val (.ref b11), .val (.int r.toInt32)]) rfl k_) ?_
    refine Go.st (S' := T17.setTop (mkF m 108 #[.val (.int p0), .val (.int p1), .val (.int f0), .val (.int t0), .val (.int f1), .val (.int t1), .val (.int f2), .val (.int t2), .val (.int cn), .val (.ref b11), .val (.int r.toInt32)] [(.ref b11)])) (fun _ k_ => XS.aload X17.here hx rfl (hb hby at_106) rfl rfl k_) ?_
    obtain ⟨v18, T18, h18, L18, X18, e18, hQ18, st18⟩ := callVi X17 hx hZ hown (w44 hw) (w45 hw) (w47 hw) (w46 hw) (w2 hw) (w48 hw) (by decide) (W := 0) (argsL := []) (rest := []) e17 HD.1 (dg_cnt l Z a0 hw b11 sr12 tg12 eb12 et12 lf12 lt12 r.toInt32 (own_S f0 f1 f2) (own_S t0 t1 t2) (own_E f0 f1 f2) (own_E t0 t1 t2) (own_k (own_A3 f0 f1 f2) (own_S f0 f1 f2) (own_E f0 f1 f2) r) (own_k (own_A3 t0 t1 t2) (own_S t0 t1 t2) (own_E t0 t1 t2) r) h16 n0 Z0 HD hd) (by decide) (by decide) pd4 rfl (g := (mkF m 108 #[.val (.int p0), .val (.int p1), .val (.int f0), .val (.int t0), .val (.int f1), .val (.int t1), .val (.int f2), .val (.int t2), .val (.int cn), .val (.ref b11), .val (.int r.toInt32)] [(.ref b11)])) rfl (by rw [hml]; rfl) rfl (by show 2 * 0 + _ ≤ _; exact Nat.le_of_eq rfl) (hb hby at_108) (by decide) (by decide)
    obtain ⟨rfl, Nq18, hh18⟩ := hQ18
    rw [hh18] at e18
    have N18 := Fr.app N17 Nq18
    refine Go.st (S' := T18.setTop (mkF m 111 #[.val (.int p0), .val (.int p1), .val (.int f0), .val (.int t0), .val (.int f1), .val (.int t1), .val (.int f2), .val (.int t2), .val (.int cn), .val (.ref b11), .val (.int r.toInt32)] [(.int r.toInt32)])) (st18) ?_
    refine Go.st (S' := T18.setTop (mkF m 113 #[.val (.int p0), .val (.int p1), .val (.int f0), .val (.int t0), .val (.int f1), .val (.int t1), .val (.int f2), .val (.int t2), .val (.int cn), .val (.ref b11), .val (.int r.toInt32)] [(.int r.toInt32), (.int r.toInt32)])) (fun _ k_ => XS.iload X18.here hx rfl (hb hby at_111) rfl k_) ?_
    refine Go.st (S' := T18.setTop (mkF m 116 #[.val (.int p0), .val (.int p1), .val (.int f0), .val (.int t0), .val (.int f1), .val (.int t1), .val (.int f2), .val (.int t2), .val (.int cn), .val (.ref b11), .val (.int r.toInt32)] [])) (fun _ k_ => XS.icmpNo X18.here hx rfl (hb hby at_113) rfl (teq (rfl : r.toInt32 = r.toInt32)).2 k_) ?_
    refine Go.st (S' := T18.setTop (mkF m 118 #[.val (.int p0), .val (.int p1), .val (.int f0), .val (.int t0), .val (.int f1), .val (.int t1), .val (.int f2), .val (.int t2), .val (.int cn), .val (.ref b11), .val (.int r.toInt32)] [(.ref b11)])) (fun _ k_ => XS.aload X18.here hx rfl (hb hby at_116) rfl rfl k_) ?_
    refine Go.st (S' := T18.setTop (mkF m 119 #[.val (.int p0), .val (.int p1), .val (.int f0), .val (.int t0), .val (.int f1), .val (.int t1), .val (.int f2), .val (.int t2), .val (.int cn), .val (.ref b11), .val (.int r.toInt32)] [(.int (0 : Int32)), (.ref b11)])) (fun _ k_ => XS.iconst X18.here hx rfl (hb hby at_118) k_) ?_
    obtain ⟨v19, T19, h19, L19, X19, e19, hQ19, st19⟩ := callVi X18 hx hZ hown (w49 hw) (w50 hw) (w52 hw) (w51 hw) (w2 hw) (w53 hw) (by decide) (W := 0) (argsL := [(.int (0 : Int32))]) (rest := []) e18 HD.1 (dg_lastEdgeFrom l Z a0 hw b11 sr12 tg12 eb12 et12 lf12 lt12 r.toInt32 (0 : Int32) (own_last (0 : Int32) r.toInt32 f0 f1 f2) (own_S f0 f1 f2) (own_S t0 t1 t2) (own_E f0 f1 f2) (own_E t0 t1 t2) (own_k (own_A3 f0 f1 f2) (own_S f0 f1 f2) (own_E f0 f1 f2) r) (own_k (own_A3 t0 t1 t2) (own_S t0 t1 t2) (own_E t0 t1 t2) r) h16 n0 Z0 HD hd (by decide) (own_fin f0 f1 f2 h_f0 h_f1 h_f2 r hr3 (0 : Int32) (by decide))) (by decide) (by decide) pd5 rfl (g := (mkF m 119 #[.val (.int p0), .val (.int p1), .val (.int f0), .val (.int t0), .val (.int f1), .val (.int t1), .val (.int f2), .val (.int t2), .val (.int cn), .val (.ref b11), .val (.int r.toInt32)] [(.int (0 : Int32)), (.ref b11)])) rfl (by rw [hml]; rfl) rfl (by show 2 * 0 + _ ≤ _; exact Nat.le_of_eq rfl) (hb hby at_119) (by decide) (by decide)
    obtain ⟨rfl, Nq19, hh19⟩ := hQ19
    rw [hh19] at e19
    have N19 := Fr.app N18 Nq19
    refine Go.st (S' := T19.setTop (mkF m 122 #[.val (.int p0), .val (.int p1), .val (.int f0), .val (.int t0), .val (.int f1), .val (.int t1), .val (.int f2), .val (.int t2), .val (.int cn), .val (.ref b11), .val (.int r.toInt32)] [(.int (own_last (0 : Int32) r.toInt32 f0 f1 f2))])) (st19) ?_
    refine Go.st (S' := T19.setTop (mkF m 123 #[.val (.int p0), .val (.int p1), .val (.int f0), .val (.int t0), .val (.int f1), .val (.int t1), .val (.int f2), .val (.int t2), .val (.int cn), .val (.ref b11), .val (.int r.toInt32)] [(.int (0 : Int32)), (.int (own_last (0 : Int32) r.toInt32 f0 f1 f2))])) (fun _ k_ => XS.iconst X19.here hx rfl (hb hby at_122) k_) ?_
    refine Go.st (S' := T19.setTop (mkF m 125 #[.val (.int p0), .val (.int p1), .val (.int f0), .val (.int t0), .val (.int f1), .val (.int t1), .val (.int f2), .val (.int t2), .val (.int cn), .val (.ref b11), .val (.int r.toInt32)] [(.int r.toInt32), (.int (0 : Int32)), (.int (own_last (0 : Int32) r.toInt32 f0 f1 f2))])) (fun _ k_ => XS.iload X19.here hx rfl (hb hby at_123) rfl k_) ?_
    refine Go.st (S' := T19.setTop (mkF m 126 #[.val (.int p0), .val (.int p1), .val (.int f0), .val (.int t0), .val (.int f1), .val (.int t1), .val (.int f2), .val (.int t2), .val (.int cn), .val (.ref b11), .val (.int r.toInt32)] [(.int f0), (.int r.toInt32), (.int (0 : Int32)), (.int (own_last (0 : Int32) r.toInt32 f0 f1 f2))])) (fun _ k_ => XS.iloadN X19.here hx rfl (hb hby at_125) rfl k_) ?_
    refine Go.st (S' := T19.setTop (mkF m 128 #[.val (.int p0), .val (.int p1), .val (.int f0), .val (.int t0), .val (.int f1), .val (.int t1), .val (.int f2), .val (.int t2), .val (.int cn), .val (.ref b11), .val (.int r.toInt32)] [(.int f1), (.int f0), (.int r.toInt32), (.int (0 : Int32)), (.int (own_last (0 : Int32) r.toInt32 f0 f1 f2))])) (fun _ k_ => XS.iload X19.here hx rfl (hb hby at_126) rfl k_) ?_
    refine Go.st (S' := T19.setTop (mkF m 130 #[.val (.int p0), .val (.int p1), .val (.int f0), .val (.int t0), .val (.int f1), .val (.int t1), .val (.int f2), .val (.int t2), .val (.int cn), .val (.ref b11), .val (.int r.toInt32)] [(.int f2), (.int f1), (.int f0), (.int r.toInt32), (.int (0 : Int32)), (.int (own_last (0 : Int32) r.toInt32 f0 f1 f2))])) (fun _ k_ => XS.iload X19.here hx rfl (hb hby at_128) rfl k_) ?_
    obtain ⟨v20, T20, h20, L20, X20, e20, hQ20, st20⟩ := callSt X19 hx hZ hown (w54 hw) (w55 hw) (w56 hw) (w57 hw) (by decide) (W := 1) (argsL := [(.int (0 : Int32)), (.int r.toInt32), (.int f0), (.int f1), (.int f2)]) (rest := [(.int (own_last (0 : Int32) r.toInt32 f0 f1 f2))]) e19 (rm_last l Z a0 hw (0 : Int32) r.toInt32 f0 f1 f2 h16 n0 Z0) (by decide) (by decide) pd6 rfl (g := (mkF m 130 #[.val (.int p0), .val (.int p1), .val (.int f0), .val (.int t0), .val (.int f1), .val (.int t1), .val (.int f2), .val (.int t2), .val (.int cn), .val (.ref b11), .val (.int r.toInt32)] [(.int f2), (.int f1), (.int f0), (.int r.toInt32), (.int (0 : Int32)), (.int (own_last (0 : Int32) r.toInt32 f0 f1 f2))])) rfl (by rw [hml]; rfl) rfl (by show 2 * 0 + _ ≤ _; exact Nat.le_of_eq rfl) (hb hby at_130) (by decide) (by decide)
    obtain ⟨rfl, Nq20, hh20⟩ := hQ20
    rw [hh20] at e20
    have N20 := Fr.app N19 Nq20
    refine Go.st (S' := T20.setTop (mkF m 133 #[.val (.int p0), .val (.int p1), .val (.int f0), .val (.int t0), .val (.int f1), .val (.int t1), .val (.int f2), .val (.int t2), .val (.int cn), .val (.ref b11), .val (.int r.toInt32)] [(.int (own_last (0 : Int32) r.toInt32 f0 f1 f2)), (.int (own_last (0 : Int32) r.toInt32 f0 f1 f2))])) (st20) ?_
    refine Go.st (S' := T20.setTop (mkF m 136 #[.val (.int p0), .val (.int p1), .val (.int f0), .val (.int t0), .val (.int f1), .val (.int t1), .val (.int f2), .val (.int t2), .val (.int cn), .val (.ref b11), .val (.int r.toInt32)] [])) (fun _ k_ => XS.icmpNo X20.here hx rfl (hb hby at_133) rfl (teq (rfl : (own_last (0 : Int32) r.toInt32 f0 f1 f2) = (own_last (0 : Int32) r.toInt32 f0 f1 f2))).2 k_) ?_
    refine Go.st (S' := T20.setTop (mkF m 138 #[.val (.int p0), .val (.int p1), .val (.int f0), .val (.int t0), .val (.int f1), .val (.int t1), .val (.int f2), .val (.int t2), .val (.int cn), .val (.ref b11), .val (.int r.toInt32)] [(.ref b11)])) (fun _ k_ => XS.aload X20.here hx rfl (hb hby at_136) rfl rfl k_) ?_
    refine Go.st (S' := T20.setTop (mkF m 139 #[.val (.int p0), .val (.int p1), .val (.int f0), .val (.int t0), .val (.int f1), .val (.int t1), .val (.int f2), .val (.int t2), .val (.int cn), .val (.ref b11), .val (.int r.toInt32)] [(.int (1 : Int32)), (.ref b11)])) (fun _ k_ => XS.iconst X20.here hx rfl (hb hby at_138) k_) ?_
    obtain ⟨v21, T21, h21, L21, X21, e21, hQ21, st21⟩ := callVi X20 hx hZ hown (w49 hw) (w50 hw) (w52 hw) (w51 hw) (w2 hw) (w53 hw) (by decide) (W := 0) (argsL := [(.int (1 : Int32))]) (rest := []) e20 HD.1 (dg_lastEdgeFrom l Z a0 hw b11 sr12 tg12 eb12 et12 lf12 lt12 r.toInt32 (1 : Int32) (own_last (1 : Int32) r.toInt32 f0 f1 f2) (own_S f0 f1 f2) (own_S t0 t1 t2) (own_E f0 f1 f2) (own_E t0 t1 t2) (own_k (own_A3 f0 f1 f2) (own_S f0 f1 f2) (own_E f0 f1 f2) r) (own_k (own_A3 t0 t1 t2) (own_S t0 t1 t2) (own_E t0 t1 t2) r) h16 n0 Z0 HD hd (by decide) (own_fin f0 f1 f2 h_f0 h_f1 h_f2 r hr3 (1 : Int32) (by decide))) (by decide) (by decide) pd5 rfl (g := (mkF m 139 #[.val (.int p0), .val (.int p1), .val (.int f0), .val (.int t0), .val (.int f1), .val (.int t1), .val (.int f2), .val (.int t2), .val (.int cn), .val (.ref b11), .val (.int r.toInt32)] [(.int (1 : Int32)), (.ref b11)])) rfl (by rw [hml]; rfl) rfl (by show 2 * 0 + _ ≤ _; exact Nat.le_of_eq rfl) (hb hby at_139) (by decide) (by decide)
    obtain ⟨rfl, Nq21, hh21⟩ := hQ21
    rw [hh21] at e21
    have N21 := Fr.app N20 Nq21
    refine Go.st (S' := T21.setTop (mkF m 142 #[.val (.int p0), .val (.int p1), .val (.int f0), .val (.int t0), .val (.int f1), .val (.int t1), .val (.int f2), .val (.int t2), .val (.int cn), .val (.ref b11), .val (.int r.toInt32)] [(.int (own_last (1 : Int32) r.toInt32 f0 f1 f2))])) (st21) ?_
    refine Go.st (S' := T21.setTop (mkF m 143 #[.val (.int p0), .val (.int p1), .val (.int f0), .val (.int t0), .val (.int f1), .val (.int t1), .val (.int f2), .val (.int t2), .val (.int cn), .val (.ref b11), .val (.int r.toInt32)] [(.int (1 : Int32)), (.int (own_last (1 : Int32) r.toInt32 f0 f1 f2))])) (fun _ k_ => XS.iconst X21.here hx rfl (hb hby at_142) k_) ?_
    refine Go.st (S' := T21.setTop (mkF m 145 #[.val (.int p0), .val (.int p1), .val (.int f0), .val (.int t0), .val (.int f1), .val (.int t1), .val (.int f2), .val (.int t2), .val (.int cn), .val (.ref b11), .val (.int r.toInt32)] [(.int r.toInt32), (.int (1 : Int32)), (.int (own_last (1 : Int32) r.toInt32 f0 f1 f2))])) (fun _ k_ => XS.iload X21.here hx rfl (hb hby at_143) rfl k_) ?_
    refine Go.st (S' := T21.setTop (mkF m 146 #[.val (.int p0), .val (.int p1), .val (.int f0), .val (.int t0), .val (.int f1), .val (.int t1), .val (.int f2), .val (.int t2), .val (.int cn), .val (.ref b11), .val (.int r.toInt32)] [(.int f0), (.int r.toInt32), (.int (1 : Int32)), (.int (own_last (1 : Int32) r.toInt32 f0 f1 f2))])) (fun _ k_ => XS.iloadN X21.here hx rfl (hb hby at_145) rfl k_) ?_
    refine Go.st (S' := T21.setTop (mkF m 148 #[.val (.int p0), .val (.int p1), .val (.int f0), .val (.int t0), .val (.int f1), .val (.int t1), .val (.int f2), .val (.int t2), .val (.int cn), .val (.ref b11), .val (.int r.toInt32)] [(.int f1), (.int f0), (.int r.toInt32), (.int (1 : Int32)), (.int (own_last (1 : Int32) r.toInt32 f0 f1 f2))])) (fun _ k_ => XS.iload X21.here hx rfl (hb hby at_146) rfl k_) ?_
    refine Go.st (S' := T21.setTop (mkF m 150 #[.val (.int p0), .val (.int p1), .val (.int f0), .val (.int t0), .val (.int f1), .val (.int t1), .val (.int f2), .val (.int t2), .val (.int cn), .val (.ref b11), .val (.int r.toInt32)] [(.int f2), (.int f1), (.int f0), (.int r.toInt32), (.int (1 : Int32)), (.int (own_last (1 : Int32) r.toInt32 f0 f1 f2))])) (fun _ k_ => XS.iload X21.here hx rfl (hb hby at_148) rfl k_) ?_
    obtain ⟨v22, T22, h22, L22, X22, e22, hQ22, st22⟩ := callSt X21 hx hZ hown (w54 hw) (w55 hw) (w56 hw) (w57 hw) (by decide) (W := 1) (argsL := [(.int (1 : Int32)), (.int r.toInt32), (.int f0), (.int f1), (.int f2)]) (rest := [(.int (own_last (1 : Int32) r.toInt32 f0 f1 f2))]) e21 (rm_last l Z a0 hw (1 : Int32) r.toInt32 f0 f1 f2 h16 n0 Z0) (by decide) (by decide) pd6 rfl (g := (mkF m 150 #[.val (.int p0), .val (.int p1), .val (.int f0), .val (.int t0), .val (.int f1), .val (.int t1), .val (.int f2), .val (.int t2), .val (.int cn), .val (.ref b11), .val (.int r.toInt32)] [(.int f2), (.int f1), (.int f0), (.int r.toInt32), (.int (1 : Int32)), (.int (own_last (1 : Int32) r.toInt32 f0 f1 f2))])) rfl (by rw [hml]; rfl) rfl (by show 2 * 0 + _ ≤ _; exact Nat.le_of_eq rfl) (hb hby at_150) (by decide) (by decide)
    obtain ⟨rfl, Nq22, hh22⟩ := hQ22
    rw [hh22] at e22
    have N22 := Fr.app N21 Nq22
    refine Go.st (S' := T22.setTop (mkF m 153 #[.val (.int p0), .val (.int p1), .val (.int f0), .val (.int t0), .val (.int f1), .val (.int t1), .val (.int f2), .val (.int t2), .val (.int cn), .val (.ref b11), .val (.int r.toInt32)] [(.int (own_last (1 : Int32) r.toInt32 f0 f1 f2)), (.int (own_last (1 : Int32) r.toInt32 f0 f1 f2))])) (st22) ?_
    refine Go.st (S' := T22.setTop (mkF m 156 #[.val (.int p0), .val (.int p1), .val (.int f0), .val (.int t0), .val (.int f1), .val (.int t1), .val (.int f2), .val (.int t2), .val (.int cn), .val (.ref b11), .val (.int r.toInt32)] [])) (fun _ k_ => XS.icmpNo X22.here hx rfl (hb hby at_153) rfl (teq (rfl : (own_last (1 : Int32) r.toInt32 f0 f1 f2) = (own_last (1 : Int32) r.toInt32 f0 f1 f2))).2 k_) ?_
    refine Go.st (S' := T22.setTop (mkF m 158 #[.val (.int p0), .val (.int p1), .val (.int f0), .val (.int t0), .val (.int f1), .val (.int t1), .val (.int f2), .val (.int t2), .val (.int cn), .val (.ref b11), .val (.int r.toInt32)] [(.ref b11)])) (fun _ k_ => XS.aload X22.here hx rfl (hb hby at_156) rfl rfl k_) ?_
    refine Go.st (S' := T22.setTop (mkF m 159 #[.val (.int p0), .val (.int p1), .val (.int f0), .val (.int t0), .val (.int f1), .val (.int t1), .val (.int f2), .val (.int t2), .val (.int cn), .val (.ref b11), .val (.int r.toInt32)] [(.int (0 : Int32)), (.ref b11)])) (fun _ k_ => XS.iconst X22.here hx rfl (hb hby at_158) k_) ?_
    obtain ⟨v23, T23, h23, L23, X23, e23, hQ23, st23⟩ := callVi X22 hx hZ hown (w58 hw) (w59 hw) (w61 hw) (w60 hw) (w2 hw) (w62 hw) (by decide) (W := 0) (argsL := [(.int (0 : Int32))]) (rest := []) e22 HD.1 (dg_lastEdgeTo l Z a0 hw b11 sr12 tg12 eb12 et12 lf12 lt12 r.toInt32 (0 : Int32) (own_last (0 : Int32) r.toInt32 t0 t1 t2) (own_S f0 f1 f2) (own_S t0 t1 t2) (own_E f0 f1 f2) (own_E t0 t1 t2) (own_k (own_A3 f0 f1 f2) (own_S f0 f1 f2) (own_E f0 f1 f2) r) (own_k (own_A3 t0 t1 t2) (own_S t0 t1 t2) (own_E t0 t1 t2) r) h16 n0 Z0 HD hd (by decide) (own_fin t0 t1 t2 h_t0 h_t1 h_t2 r hr3 (0 : Int32) (by decide))) (by decide) (by decide) pd5 rfl (g := (mkF m 159 #[.val (.int p0), .val (.int p1), .val (.int f0), .val (.int t0), .val (.int f1), .val (.int t1), .val (.int f2), .val (.int t2), .val (.int cn), .val (.ref b11), .val (.int r.toInt32)] [(.int (0 : Int32)), (.ref b11)])) rfl (by rw [hml]; rfl) rfl (by show 2 * 0 + _ ≤ _; exact Nat.le_of_eq rfl) (hb hby at_159) (by decide) (by decide)
    obtain ⟨rfl, Nq23, hh23⟩ := hQ23
    rw [hh23] at e23
    have N23 := Fr.app N22 Nq23
    refine Go.st (S' := T23.setTop (mkF m 162 #[.val (.int p0), .val (.int p1), .val (.int f0), .val (.int t0), .val (.int f1), .val (.int t1), .val (.int f2), .val (.int t2), .val (.int cn), .val (.ref b11), .val (.int r.toInt32)] [(.int (own_last (0 : Int32) r.toInt32 t0 t1 t2))])) (st23) ?_
    refine Go.st (S' := T23.setTop (mkF m 163 #[.val (.int p0), .val (.int p1), .val (.int f0), .val (.int t0), .val (.int f1), .val (.int t1), .val (.int f2), .val (.int t2), .val (.int cn), .val (.ref b11), .val (.int r.toInt32)] [(.int (0 : Int32)), (.int (own_last (0 : Int32) r.toInt32 t0 t1 t2))])) (fun _ k_ => XS.iconst X23.here hx rfl (hb hby at_162) k_) ?_
    refine Go.st (S' := T23.setTop (mkF m 165 #[.val (.int p0), .val (.int p1), .val (.int f0), .val (.int t0), .val (.int f1), .val (.int t1), .val (.int f2), .val (.int t2), .val (.int cn), .val (.ref b11), .val (.int r.toInt32)] [(.int r.toInt32), (.int (0 : Int32)), (.int (own_last (0 : Int32) r.toInt32 t0 t1 t2))])) (fun _ k_ => XS.iload X23.here hx rfl (hb hby at_163) rfl k_) ?_
    refine Go.st (S' := T23.setTop (mkF m 166 #[.val (.int p0), .val (.int p1), .val (.int f0), .val (.int t0), .val (.int f1), .val (.int t1), .val (.int f2), .val (.int t2), .val (.int cn), .val (.ref b11), .val (.int r.toInt32)] [(.int t0), (.int r.toInt32), (.int (0 : Int32)), (.int (own_last (0 : Int32) r.toInt32 t0 t1 t2))])) (fun _ k_ => XS.iloadN X23.here hx rfl (hb hby at_165) rfl k_) ?_
    refine Go.st (S' := T23.setTop (mkF m 168 #[.val (.int p0), .val (.int p1), .val (.int f0), .val (.int t0), .val (.int f1), .val (.int t1), .val (.int f2), .val (.int t2), .val (.int cn), .val (.ref b11), .val (.int r.toInt32)] [(.int t1), (.int t0), (.int r.toInt32), (.int (0 : Int32)), (.int (own_last (0 : Int32) r.toInt32 t0 t1 t2))])) (fun _ k_ => XS.iload X23.here hx rfl (hb hby at_166) rfl k_) ?_
    refine Go.st (S' := T23.setTop (mkF m 170 #[.val (.int p0), .val (.int p1), .val (.int f0), .val (.int t0), .val (.int f1), .val (.int t1), .val (.int f2), .val (.int t2), .val (.int cn), .val (.ref b11), .val (.int r.toInt32)] [(.int t2), (.int t1), (.int t0), (.int r.toInt32), (.int (0 : Int32)), (.int (own_last (0 : Int32) r.toInt32 t0 t1 t2))])) (fun _ k_ => XS.iload X23.here hx rfl (hb hby at_168) rfl k_) ?_
    obtain ⟨v24, T24, h24, L24, X24, e24, hQ24, st24⟩ := callSt X23 hx hZ hown (w54 hw) (w55 hw) (w56 hw) (w57 hw) (by decide) (W := 1) (argsL := [(.int (0 : Int32)), (.int r.toInt32), (.int t0), (.int t1), (.int t2)]) (rest := [(.int (own_last (0 : Int32) r.toInt32 t0 t1 t2))]) e23 (rm_last l Z a0 hw (0 : Int32) r.toInt32 t0 t1 t2 h16 n0 Z0) (by decide) (by decide) pd6 rfl (g := (mkF m 170 #[.val (.int p0), .val (.int p1), .val (.int f0), .val (.int t0), .val (.int f1), .val (.int t1), .val (.int f2), .val (.int t2), .val (.int cn), .val (.ref b11), .val (.int r.toInt32)] [(.int t2), (.int t1), (.int t0), (.int r.toInt32), (.int (0 : Int32)), (.int (own_last (0 : Int32) r.toInt32 t0 t1 t2))])) rfl (by rw [hml]; rfl) rfl (by show 2 * 0 + _ ≤ _; exact Nat.le_of_eq rfl) (hb hby at_170) (by decide) (by decide)
    obtain ⟨rfl, Nq24, hh24⟩ := hQ24
    rw [hh24] at e24
    have N24 := Fr.app N23 Nq24
    refine Go.st (S' := T24.setTop (mkF m 173 #[.val (.int p0), .val (.int p1), .val (.int f0), .val (.int t0), .val (.int f1), .val (.int t1), .val (.int f2), .val (.int t2), .val (.int cn), .val (.ref b11), .val (.int r.toInt32)] [(.int (own_last (0 : Int32) r.toInt32 t0 t1 t2)), (.int (own_last (0 : Int32) r.toInt32 t0 t1 t2))])) (st24) ?_
    refine Go.st (S' := T24.setTop (mkF m 176 #[.val (.int p0), .val (.int p1), .val (.int f0), .val (.int t0), .val (.int f1), .val (.int t1), .val (.int f2), .val (.int t2), .val (.int cn), .val (.ref b11), .val (.int r.toInt32)] [])) (fun _ k_ => XS.icmpNo X24.here hx rfl (hb hby at_173) rfl (teq (rfl : (own_last (0 : Int32) r.toInt32 t0 t1 t2) = (own_last (0 : Int32) r.toInt32 t0 t1 t2))).2 k_) ?_
    refine Go.st (S' := T24.setTop (mkF m 178 #[.val (.int p0), .val (.int p1), .val (.int f0), .val (.int t0), .val (.int f1), .val (.int t1), .val (.int f2), .val (.int t2), .val (.int cn), .val (.ref b11), .val (.int r.toInt32)] [(.ref b11)])) (fun _ k_ => XS.aload X24.here hx rfl (hb hby at_176) rfl rfl k_) ?_
    refine Go.st (S' := T24.setTop (mkF m 179 #[.val (.int p0), .val (.int p1), .val (.int f0), .val (.int t0), .val (.int f1), .val (.int t1), .val (.int f2), .val (.int t2), .val (.int cn), .val (.ref b11), .val (.int r.toInt32)] [(.int (1 : Int32)), (.ref b11)])) (fun _ k_ => XS.iconst X24.here hx rfl (hb hby at_178) k_) ?_
    obtain ⟨v25, T25, h25, L25, X25, e25, hQ25, st25⟩ := callVi X24 hx hZ hown (w58 hw) (w59 hw) (w61 hw) (w60 hw) (w2 hw) (w62 hw) (by decide) (W := 0) (argsL := [(.int (1 : Int32))]) (rest := []) e24 HD.1 (dg_lastEdgeTo l Z a0 hw b11 sr12 tg12 eb12 et12 lf12 lt12 r.toInt32 (1 : Int32) (own_last (1 : Int32) r.toInt32 t0 t1 t2) (own_S f0 f1 f2) (own_S t0 t1 t2) (own_E f0 f1 f2) (own_E t0 t1 t2) (own_k (own_A3 f0 f1 f2) (own_S f0 f1 f2) (own_E f0 f1 f2) r) (own_k (own_A3 t0 t1 t2) (own_S t0 t1 t2) (own_E t0 t1 t2) r) h16 n0 Z0 HD hd (by decide) (own_fin t0 t1 t2 h_t0 h_t1 h_t2 r hr3 (1 : Int32) (by decide))) (by decide) (by decide) pd5 rfl (g := (mkF m 179 #[.val (.int p0), .val (.int p1), .val (.int f0), .val (.int t0), .val (.int f1), .val (.int t1), .val (.int f2), .val (.int t2), .val (.int cn), .val (.ref b11), .val (.int r.toInt32)] [(.int (1 : Int32)), (.ref b11)])) rfl (by rw [hml]; rfl) rfl (by show 2 * 0 + _ ≤ _; exact Nat.le_of_eq rfl) (hb hby at_179) (by decide) (by decide)
    obtain ⟨rfl, Nq25, hh25⟩ := hQ25
    rw [hh25] at e25
    have N25 := Fr.app N24 Nq25
    refine Go.st (S' := T25.setTop (mkF m 182 #[.val (.int p0), .val (.int p1), .val (.int f0), .val (.int t0), .val (.int f1), .val (.int t1), .val (.int f2), .val (.int t2), .val (.int cn), .val (.ref b11), .val (.int r.toInt32)] [(.int (own_last (1 : Int32) r.toInt32 t0 t1 t2))])) (st25) ?_
    refine Go.st (S' := T25.setTop (mkF m 183 #[.val (.int p0), .val (.int p1), .val (.int f0), .val (.int t0), .val (.int f1), .val (.int t1), .val (.int f2), .val (.int t2), .val (.int cn), .val (.ref b11), .val (.int r.toInt32)] [(.int (1 : Int32)), (.int (own_last (1 : Int32) r.toInt32 t0 t1 t2))])) (fun _ k_ => XS.iconst X25.here hx rfl (hb hby at_182) k_) ?_
    refine Go.st (S' := T25.setTop (mkF m 185 #[.val (.int p0), .val (.int p1), .val (.int f0), .val (.int t0), .val (.int f1), .val (.int t1), .val (.int f2), .val (.int t2), .val (.int cn), .val (.ref b11), .val (.int r.toInt32)] [(.int r.toInt32), (.int (1 : Int32)), (.int (own_last (1 : Int32) r.toInt32 t0 t1 t2))])) (fun _ k_ => XS.iload X25.here hx rfl (hb hby at_183) rfl k_) ?_
    refine Go.st (S' := T25.setTop (mkF m 186 #[.val (.int p0), .val (.int p1), .val (.int f0), .val (.int t0), .val (.int f1), .val (.int t1), .val (.int f2), .val (.int t2), .val (.int cn), .val (.ref b11), .val (.int r.toInt32)] [(.int t0), (.int r.toInt32), (.int (1 : Int32)), (.int (own_last (1 : Int32) r.toInt32 t0 t1 t2))])) (fun _ k_ => XS.iloadN X25.here hx rfl (hb hby at_185) rfl k_) ?_
    refine Go.st (S' := T25.setTop (mkF m 188 #[.val (.int p0), .val (.int p1), .val (.int f0), .val (.int t0), .val (.int f1), .val (.int t1), .val (.int f2), .val (.int t2), .val (.int cn), .val (.ref b11), .val (.int r.toInt32)] [(.int t1), (.int t0), (.int r.toInt32), (.int (1 : Int32)), (.int (own_last (1 : Int32) r.toInt32 t0 t1 t2))])) (fun _ k_ => XS.iload X25.here hx rfl (hb hby at_186) rfl k_) ?_
    refine Go.st (S' := T25.setTop (mkF m 190 #[.val (.int p0), .val (.int p1), .val (.int f0), .val (.int t0), .val (.int f1), .val (.int t1), .val (.int f2), .val (.int t2), .val (.int cn), .val (.ref b11), .val (.int r.toInt32)] [(.int t2), (.int t1), (.int t0), (.int r.toInt32), (.int (1 : Int32)), (.int (own_last (1 : Int32) r.toInt32 t0 t1 t2))])) (fun _ k_ => XS.iload X25.here hx rfl (hb hby at_188) rfl k_) ?_
    obtain ⟨v26, T26, h26, L26, X26, e26, hQ26, st26⟩ := callSt X25 hx hZ hown (w54 hw) (w55 hw) (w56 hw) (w57 hw) (by decide) (W := 1) (argsL := [(.int (1 : Int32)), (.int r.toInt32), (.int t0), (.int t1), (.int t2)]) (rest := [(.int (own_last (1 : Int32) r.toInt32 t0 t1 t2))]) e25 (rm_last l Z a0 hw (1 : Int32) r.toInt32 t0 t1 t2 h16 n0 Z0) (by decide) (by decide) pd6 rfl (g := (mkF m 190 #[.val (.int p0), .val (.int p1), .val (.int f0), .val (.int t0), .val (.int f1), .val (.int t1), .val (.int f2), .val (.int t2), .val (.int cn), .val (.ref b11), .val (.int r.toInt32)] [(.int t2), (.int t1), (.int t0), (.int r.toInt32), (.int (1 : Int32)), (.int (own_last (1 : Int32) r.toInt32 t0 t1 t2))])) rfl (by rw [hml]; rfl) rfl (by show 2 * 0 + _ ≤ _; exact Nat.le_of_eq rfl) (hb hby at_190) (by decide) (by decide)
    obtain ⟨rfl, Nq26, hh26⟩ := hQ26
    rw [hh26] at e26
    have N26 := Fr.app N25 Nq26
    refine Go.st (S' := T26.setTop (mkF m 193 #[.val (.int p0), .val (.int p1), .val (.int f0), .val (.int t0), .val (.int f1), .val (.int t1), .val (.int f2), .val (.int t2), .val (.int cn), .val (.ref b11), .val (.int r.toInt32)] [(.int (own_last (1 : Int32) r.toInt32 t0 t1 t2)), (.int (own_last (1 : Int32) r.toInt32 t0 t1 t2))])) (st26) ?_
    refine Go.st (S' := T26.setTop (mkF m 196 #[.val (.int p0), .val (.int p1), .val (.int f0), .val (.int t0), .val (.int f1), .val (.int t1), .val (.int f2), .val (.int t2), .val (.int cn), .val (.ref b11), .val (.int r.toInt32)] [])) (fun _ k_ => XS.icmpNo X26.here hx rfl (hb hby at_193) rfl (teq (rfl : (own_last (1 : Int32) r.toInt32 t0 t1 t2) = (own_last (1 : Int32) r.toInt32 t0 t1 t2))).2 k_) ?_
    refine Go.st (S' := T26.setTop (mkF m 197 #[.val (.int p0), .val (.int p1), .val (.int f0), .val (.int t0), .val (.int f1), .val (.int t1), .val (.int f2), .val (.int t2), .val (.int cn), .val (.ref b11), .val (.int r.toInt32)] [(.int (1 : Int32))])) (fun _ k_ => XS.iconst X26.here hx rfl (hb hby at_196) k_) ?_
    refine Go.st (S' := T26.setTop (mkF m 201 #[.val (.int p0), .val (.int p1), .val (.int f0), .val (.int t0), .val (.int f1), .val (.int t1), .val (.int f2), .val (.int t2), .val (.int cn), .val (.ref b11), .val (.int r.toInt32)] [(.int (1 : Int32))])) (fun _ k_ => XS.goto X26.here hx rfl (pc0 := 197) (pc' := 201) rfl (hb hby at_197) (by decide) (by decide) k_) ?_
    exact Go.retN X26 hx (t := .boolean) hret (by simp) hlk (hb hby at_201) (by decide) (by decide) ⟨rfl, N26⟩
  refine Go.cast (ef_rm0 m p0 p1) ?_
  refine Go.st (S' := T0.setTop (mkF m 1 #[.val (.int p0), .val (.int p1), .unset, .unset, .unset, .unset, .unset, .unset, .unset, .unset, .unset] [(.int p0)])) (fun _ k_ => XS.iloadN X0.here hx rfl (hb hby at_0) rfl k_) ?_
  refine Go.st (S' := T0.setTop (mkF m 2 #[.val (.int p0), .val (.int p1), .unset, .unset, .unset, .unset, .unset, .unset, .unset, .unset, .unset] [(.int (1 : Int32)), (.int p0)])) (fun _ k_ => XS.iconst X0.here hx rfl (hb hby at_1) k_) ?_
  refine Go.st (S' := T0.setTop (mkF m 3 #[.val (.int p0), .val (.int p1), .unset, .unset, .unset, .unset, .unset, .unset, .unset, .unset, .unset] [(.int (p0 &&& (1 : Int32)))])) (fun _ k_ => XS.iand X0.here hx rfl (hb hby at_2) rfl k_) ?_
  have h_f0 := own_bit p0
  obtain ⟨f0, q_f0⟩ : ∃ z : Int32, z = (p0 &&& (1 : Int32)) := ⟨_, rfl⟩
  rw [← q_f0]
  rw [← q_f0] at h_f0
  refine Go.st (S' := T0.setTop (mkF m 4 #[.val (.int p0), .val (.int p1), .val (.int f0), .unset, .unset, .unset, .unset, .unset, .unset, .unset, .unset] [])) (fun _ k_ => XS.istoreN X0.here hx rfl (hb hby at_3) rfl (l' := #[.val (.int p0), .val (.int p1), .val (.int f0), .unset, .unset, .unset, .unset, .unset, .unset, .unset, .unset]) rfl k_) ?_
  refine Go.st (S' := T0.setTop (mkF m 5 #[.val (.int p0), .val (.int p1), .val (.int f0), .unset, .unset, .unset, .unset, .unset, .unset, .unset, .unset] [(.int p0)])) (fun _ k_ => XS.iloadN X0.here hx rfl (hb hby at_4) rfl k_) ?_
  refine Go.st (S' := T0.setTop (mkF m 6 #[.val (.int p0), .val (.int p1), .val (.int f0), .unset, .unset, .unset, .unset, .unset, .unset, .unset, .unset] [(.int (1 : Int32)), (.int p0)])) (fun _ k_ => XS.iconst X0.here hx rfl (hb hby at_5) k_) ?_
  refine Go.st (S' := T0.setTop (mkF m 7 #[.val (.int p0), .val (.int p1), .val (.int f0), .unset, .unset, .unset, .unset, .unset, .unset, .unset, .unset] [(.int ((p0.toUInt32 >>> ((1 : Int32) &&& 31).toUInt32).toInt32))])) (fun _ k_ => XS.iushr X0.here hx rfl (hb hby at_6) rfl k_) ?_
  refine Go.st (S' := T0.setTop (mkF m 8 #[.val (.int p0), .val (.int p1), .val (.int f0), .unset, .unset, .unset, .unset, .unset, .unset, .unset, .unset] [(.int (1 : Int32)), (.int ((p0.toUInt32 >>> ((1 : Int32) &&& 31).toUInt32).toInt32))])) (fun _ k_ => XS.iconst X0.here hx rfl (hb hby at_7) k_) ?_
  refine Go.st (S' := T0.setTop (mkF m 9 #[.val (.int p0), .val (.int p1), .val (.int f0), .unset, .unset, .unset, .unset, .unset, .unset, .unset, .unset] [(.int (((p0.toUInt32 >>> ((1 : Int32) &&& 31).toUInt32).toInt32) &&& (1 : Int32)))])) (fun _ k_ => XS.iand X0.here hx rfl (hb hby at_8) rfl k_) ?_
  have h_t0 := own_bit ((p0.toUInt32 >>> ((1 : Int32) &&& 31).toUInt32).toInt32)
  obtain ⟨t0, q_t0⟩ : ∃ z : Int32, z = (((p0.toUInt32 >>> ((1 : Int32) &&& 31).toUInt32).toInt32) &&& (1 : Int32)) := ⟨_, rfl⟩
  rw [← q_t0]
  rw [← q_t0] at h_t0
  refine Go.st (S' := T0.setTop (mkF m 10 #[.val (.int p0), .val (.int p1), .val (.int f0), .val (.int t0), .unset, .unset, .unset, .unset, .unset, .unset, .unset] [])) (fun _ k_ => XS.istoreN X0.here hx rfl (hb hby at_9) rfl (l' := #[.val (.int p0), .val (.int p1), .val (.int f0), .val (.int t0), .unset, .unset, .unset, .unset, .unset, .unset, .unset]) rfl k_) ?_
  refine Go.st (S' := T0.setTop (mkF m 11 #[.val (.int p0), .val (.int p1), .val (.int f0), .val (.int t0), .unset, .unset, .unset, .unset, .unset, .unset, .unset] [(.int p0)])) (fun _ k_ => XS.iloadN X0.here hx rfl (hb hby at_10) rfl k_) ?_
  refine Go.st (S' := T0.setTop (mkF m 12 #[.val (.int p0), .val (.int p1), .val (.int f0), .val (.int t0), .unset, .unset, .unset, .unset, .unset, .unset, .unset] [(.int (2 : Int32)), (.int p0)])) (fun _ k_ => XS.iconst X0.here hx rfl (hb hby at_11) k_) ?_
  refine Go.st (S' := T0.setTop (mkF m 13 #[.val (.int p0), .val (.int p1), .val (.int f0), .val (.int t0), .unset, .unset, .unset, .unset, .unset, .unset, .unset] [(.int ((p0.toUInt32 >>> ((2 : Int32) &&& 31).toUInt32).toInt32))])) (fun _ k_ => XS.iushr X0.here hx rfl (hb hby at_12) rfl k_) ?_
  refine Go.st (S' := T0.setTop (mkF m 14 #[.val (.int p0), .val (.int p1), .val (.int f0), .val (.int t0), .unset, .unset, .unset, .unset, .unset, .unset, .unset] [(.int (1 : Int32)), (.int ((p0.toUInt32 >>> ((2 : Int32) &&& 31).toUInt32).toInt32))])) (fun _ k_ => XS.iconst X0.here hx rfl (hb hby at_13) k_) ?_
  refine Go.st (S' := T0.setTop (mkF m 15 #[.val (.int p0), .val (.int p1), .val (.int f0), .val (.int t0), .unset, .unset, .unset, .unset, .unset, .unset, .unset] [(.int (((p0.toUInt32 >>> ((2 : Int32) &&& 31).toUInt32).toInt32) &&& (1 : Int32)))])) (fun _ k_ => XS.iand X0.here hx rfl (hb hby at_14) rfl k_) ?_
  have h_f1 := own_bit ((p0.toUInt32 >>> ((2 : Int32) &&& 31).toUInt32).toInt32)
  obtain ⟨f1, q_f1⟩ : ∃ z : Int32, z = (((p0.toUInt32 >>> ((2 : Int32) &&& 31).toUInt32).toInt32) &&& (1 : Int32)) := ⟨_, rfl⟩
  rw [← q_f1]
  rw [← q_f1] at h_f1
  refine Go.st (S' := T0.setTop (mkF m 17 #[.val (.int p0), .val (.int p1), .val (.int f0), .val (.int t0), .val (.int f1), .unset, .unset, .unset, .unset, .unset, .unset] [])) (fun _ k_ => XS.istore X0.here hx rfl (hb hby at_15) rfl (l' := #[.val (.int p0), .val (.int p1), .val (.int f0), .val (.int t0), .val (.int f1), .unset, .unset, .unset, .unset, .unset, .unset]) rfl k_) ?_
  refine Go.st (S' := T0.setTop (mkF m 18 #[.val (.int p0), .val (.int p1), .val (.int f0), .val (.int t0), .val (.int f1), .unset, .unset, .unset, .unset, .unset, .unset] [(.int p0)])) (fun _ k_ => XS.iloadN X0.here hx rfl (hb hby at_17) rfl k_) ?_
  refine Go.st (S' := T0.setTop (mkF m 19 #[.val (.int p0), .val (.int p1), .val (.int f0), .val (.int t0), .val (.int f1), .unset, .unset, .unset, .unset, .unset, .unset] [(.int (3 : Int32)), (.int p0)])) (fun _ k_ => XS.iconst X0.here hx rfl (hb hby at_18) k_) ?_
  refine Go.st (S' := T0.setTop (mkF m 20 #[.val (.int p0), .val (.int p1), .val (.int f0), .val (.int t0), .val (.int f1), .unset, .unset, .unset, .unset, .unset, .unset] [(.int ((p0.toUInt32 >>> ((3 : Int32) &&& 31).toUInt32).toInt32))])) (fun _ k_ => XS.iushr X0.here hx rfl (hb hby at_19) rfl k_) ?_
  refine Go.st (S' := T0.setTop (mkF m 21 #[.val (.int p0), .val (.int p1), .val (.int f0), .val (.int t0), .val (.int f1), .unset, .unset, .unset, .unset, .unset, .unset] [(.int (1 : Int32)), (.int ((p0.toUInt32 >>> ((3 : Int32) &&& 31).toUInt32).toInt32))])) (fun _ k_ => XS.iconst X0.here hx rfl (hb hby at_20) k_) ?_
  refine Go.st (S' := T0.setTop (mkF m 22 #[.val (.int p0), .val (.int p1), .val (.int f0), .val (.int t0), .val (.int f1), .unset, .unset, .unset, .unset, .unset, .unset] [(.int (((p0.toUInt32 >>> ((3 : Int32) &&& 31).toUInt32).toInt32) &&& (1 : Int32)))])) (fun _ k_ => XS.iand X0.here hx rfl (hb hby at_21) rfl k_) ?_
  have h_t1 := own_bit ((p0.toUInt32 >>> ((3 : Int32) &&& 31).toUInt32).toInt32)
  obtain ⟨t1, q_t1⟩ : ∃ z : Int32, z = (((p0.toUInt32 >>> ((3 : Int32) &&& 31).toUInt32).toInt32) &&& (1 : Int32)) := ⟨_, rfl⟩
  rw [← q_t1]
  rw [← q_t1] at h_t1
  refine Go.st (S' := T0.setTop (mkF m 24 #[.val (.int p0), .val (.int p1), .val (.int f0), .val (.int t0), .val (.int f1), .val (.int t1), .unset, .unset, .unset, .unset, .unset] [])) (fun _ k_ => XS.istore X0.here hx rfl (hb hby at_22) rfl (l' := #[.val (.int p0), .val (.int p1), .val (.int f0), .val (.int t0), .val (.int f1), .val (.int t1), .unset, .unset, .unset, .unset, .unset]) rfl k_) ?_
  refine Go.st (S' := T0.setTop (mkF m 25 #[.val (.int p0), .val (.int p1), .val (.int f0), .val (.int t0), .val (.int f1), .val (.int t1), .unset, .unset, .unset, .unset, .unset] [(.int p0)])) (fun _ k_ => XS.iloadN X0.here hx rfl (hb hby at_24) rfl k_) ?_
  refine Go.st (S' := T0.setTop (mkF m 26 #[.val (.int p0), .val (.int p1), .val (.int f0), .val (.int t0), .val (.int f1), .val (.int t1), .unset, .unset, .unset, .unset, .unset] [(.int (4 : Int32)), (.int p0)])) (fun _ k_ => XS.iconst X0.here hx rfl (hb hby at_25) k_) ?_
  refine Go.st (S' := T0.setTop (mkF m 27 #[.val (.int p0), .val (.int p1), .val (.int f0), .val (.int t0), .val (.int f1), .val (.int t1), .unset, .unset, .unset, .unset, .unset] [(.int ((p0.toUInt32 >>> ((4 : Int32) &&& 31).toUInt32).toInt32))])) (fun _ k_ => XS.iushr X0.here hx rfl (hb hby at_26) rfl k_) ?_
  refine Go.st (S' := T0.setTop (mkF m 28 #[.val (.int p0), .val (.int p1), .val (.int f0), .val (.int t0), .val (.int f1), .val (.int t1), .unset, .unset, .unset, .unset, .unset] [(.int (1 : Int32)), (.int ((p0.toUInt32 >>> ((4 : Int32) &&& 31).toUInt32).toInt32))])) (fun _ k_ => XS.iconst X0.here hx rfl (hb hby at_27) k_) ?_
  refine Go.st (S' := T0.setTop (mkF m 29 #[.val (.int p0), .val (.int p1), .val (.int f0), .val (.int t0), .val (.int f1), .val (.int t1), .unset, .unset, .unset, .unset, .unset] [(.int (((p0.toUInt32 >>> ((4 : Int32) &&& 31).toUInt32).toInt32) &&& (1 : Int32)))])) (fun _ k_ => XS.iand X0.here hx rfl (hb hby at_28) rfl k_) ?_
  have h_f2 := own_bit ((p0.toUInt32 >>> ((4 : Int32) &&& 31).toUInt32).toInt32)
  obtain ⟨f2, q_f2⟩ : ∃ z : Int32, z = (((p0.toUInt32 >>> ((4 : Int32) &&& 31).toUInt32).toInt32) &&& (1 : Int32)) := ⟨_, rfl⟩
  rw [← q_f2]
  rw [← q_f2] at h_f2
  refine Go.st (S' := T0.setTop (mkF m 31 #[.val (.int p0), .val (.int p1), .val (.int f0), .val (.int t0), .val (.int f1), .val (.int t1), .val (.int f2), .unset, .unset, .unset, .unset] [])) (fun _ k_ => XS.istore X0.here hx rfl (hb hby at_29) rfl (l' := #[.val (.int p0), .val (.int p1), .val (.int f0), .val (.int t0), .val (.int f1), .val (.int t1), .val (.int f2), .unset, .unset, .unset, .unset]) rfl k_) ?_
  refine Go.st (S' := T0.setTop (mkF m 32 #[.val (.int p0), .val (.int p1), .val (.int f0), .val (.int t0), .val (.int f1), .val (.int t1), .val (.int f2), .unset, .unset, .unset, .unset] [(.int p0)])) (fun _ k_ => XS.iloadN X0.here hx rfl (hb hby at_31) rfl k_) ?_
  refine Go.st (S' := T0.setTop (mkF m 33 #[.val (.int p0), .val (.int p1), .val (.int f0), .val (.int t0), .val (.int f1), .val (.int t1), .val (.int f2), .unset, .unset, .unset, .unset] [(.int (5 : Int32)), (.int p0)])) (fun _ k_ => XS.iconst X0.here hx rfl (hb hby at_32) k_) ?_
  refine Go.st (S' := T0.setTop (mkF m 34 #[.val (.int p0), .val (.int p1), .val (.int f0), .val (.int t0), .val (.int f1), .val (.int t1), .val (.int f2), .unset, .unset, .unset, .unset] [(.int ((p0.toUInt32 >>> ((5 : Int32) &&& 31).toUInt32).toInt32))])) (fun _ k_ => XS.iushr X0.here hx rfl (hb hby at_33) rfl k_) ?_
  refine Go.st (S' := T0.setTop (mkF m 35 #[.val (.int p0), .val (.int p1), .val (.int f0), .val (.int t0), .val (.int f1), .val (.int t1), .val (.int f2), .unset, .unset, .unset, .unset] [(.int (1 : Int32)), (.int ((p0.toUInt32 >>> ((5 : Int32) &&& 31).toUInt32).toInt32))])) (fun _ k_ => XS.iconst X0.here hx rfl (hb hby at_34) k_) ?_
  refine Go.st (S' := T0.setTop (mkF m 36 #[.val (.int p0), .val (.int p1), .val (.int f0), .val (.int t0), .val (.int f1), .val (.int t1), .val (.int f2), .unset, .unset, .unset, .unset] [(.int (((p0.toUInt32 >>> ((5 : Int32) &&& 31).toUInt32).toInt32) &&& (1 : Int32)))])) (fun _ k_ => XS.iand X0.here hx rfl (hb hby at_35) rfl k_) ?_
  have h_t2 := own_bit ((p0.toUInt32 >>> ((5 : Int32) &&& 31).toUInt32).toInt32)
  obtain ⟨t2, q_t2⟩ : ∃ z : Int32, z = (((p0.toUInt32 >>> ((5 : Int32) &&& 31).toUInt32).toInt32) &&& (1 : Int32)) := ⟨_, rfl⟩
  rw [← q_t2]
  rw [← q_t2] at h_t2
  refine Go.st (S' := T0.setTop (mkF m 38 #[.val (.int p0), .val (.int p1), .val (.int f0), .val (.int t0), .val (.int f1), .val (.int t1), .val (.int f2), .val (.int t2), .unset, .unset, .unset] [])) (fun _ k_ => XS.istore X0.here hx rfl (hb hby at_36) rfl (l' := #[.val (.int p0), .val (.int p1), .val (.int f0), .val (.int t0), .val (.int f1), .val (.int t1), .val (.int f2), .val (.int t2), .unset, .unset, .unset]) rfl k_) ?_
  refine Go.st (S' := T0.setTop (mkF m 39 #[.val (.int p0), .val (.int p1), .val (.int f0), .val (.int t0), .val (.int f1), .val (.int t1), .val (.int f2), .val (.int t2), .unset, .unset, .unset] [(.int p1)])) (fun _ k_ => XS.iloadN X0.here hx rfl (hb hby at_38) rfl k_) ?_
  refine Go.st (S' := T0.setTop (mkF m 40 #[.val (.int p0), .val (.int p1), .val (.int f0), .val (.int t0), .val (.int f1), .val (.int t1), .val (.int f2), .val (.int t2), .unset, .unset, .unset] [(.int (4 : Int32)), (.int p1)])) (fun _ k_ => XS.iconst X0.here hx rfl (hb hby at_39) k_) ?_
  refine Go.st (S' := T0.setTop (mkF m 41 #[.val (.int p0), .val (.int p1), .val (.int f0), .val (.int t0), .val (.int f1), .val (.int t1), .val (.int f2), .val (.int t2), .unset, .unset, .unset] [(.int (p1 &&& (4 : Int32)))])) (fun _ k_ => XS.iand X0.here hx rfl (hb hby at_40) rfl k_) ?_
  by_cases hc41 : (p1 &&& (4 : Int32)) = (0 : Int32)
  · skip
    refine Go.st (S' := T0.setTop (mkF m 44 #[.val (.int p0), .val (.int p1), .val (.int f0), .val (.int t0), .val (.int f1), .val (.int t1), .val (.int f2), .val (.int t2), .unset, .unset, .unset] [])) (fun _ k_ => XS.ifNo X0.here hx rfl (hb hby at_41) rfl ((if0 _ _).trans (teq hc41).2) k_) ?_
    refine Go.st (S' := T0.setTop (mkF m 45 #[.val (.int p0), .val (.int p1), .val (.int f0), .val (.int t0), .val (.int f1), .val (.int t1), .val (.int f2), .val (.int t2), .unset, .unset, .unset] [(.int p1)])) (fun _ k_ => XS.iloadN X0.here hx rfl (hb hby at_44) rfl k_) ?_
    refine Go.st (S' := T0.setTop (mkF m 46 #[.val (.int p0), .val (.int p1), .val (.int f0), .val (.int t0), .val (.int f1), .val (.int t1), .val (.int f2), .val (.int t2), .unset, .unset, .unset] [(.int (3 : Int32)), (.int p1)])) (fun _ k_ => XS.iconst X0.here hx rfl (hb hby at_45) k_) ?_
    refine Go.st (S' := T0.setTop (mkF m 47 #[.val (.int p0), .val (.int p1), .val (.int f0), .val (.int t0), .val (.int f1), .val (.int t1), .val (.int f2), .val (.int t2), .unset, .unset, .unset] [(.int (p1 &&& (3 : Int32)))])) (fun _ k_ => XS.iand X0.here hx rfl (hb hby at_46) rfl k_) ?_
    refine Go.st (S' := T0.setTop (mkF m 54 #[.val (.int p0), .val (.int p1), .val (.int f0), .val (.int t0), .val (.int f1), .val (.int t1), .val (.int f2), .val (.int t2), .unset, .unset, .unset] [(.int (p1 &&& (3 : Int32)))])) (fun _ k_ => XS.goto X0.here hx rfl (pc0 := 47) (pc' := 54) rfl (hb hby at_47) (by decide) (by decide) k_) ?_
    exact J54 f0 t0 f1 t1 f2 t2 h_f0 h_t0 h_f1 h_t1 h_f2 h_t2 _ (own_nn (c_and p1 3 (by decide)).1)
  · skip
    refine Go.st (S' := T0.setTop (mkF m 50 #[.val (.int p0), .val (.int p1), .val (.int f0), .val (.int t0), .val (.int f1), .val (.int t1), .val (.int f2), .val (.int t2), .unset, .unset, .unset] [])) (fun _ k_ => XS.ifYes X0.here hx rfl (pc0 := 41) (pc' := 50) rfl (hb hby at_41) rfl ((if0 _ _).trans (feq hc41).2) (by decide) (by decide) k_) ?_
    refine Go.st (S' := T0.setTop (mkF m 51 #[.val (.int p0), .val (.int p1), .val (.int f0), .val (.int t0), .val (.int f1), .val (.int t1), .val (.int f2), .val (.int t2), .unset, .unset, .unset] [(.int p1)])) (fun _ k_ => XS.iloadN X0.here hx rfl (hb hby at_50) rfl k_) ?_
    refine Go.st (S' := T0.setTop (mkF m 53 #[.val (.int p0), .val (.int p1), .val (.int f0), .val (.int t0), .val (.int f1), .val (.int t1), .val (.int f2), .val (.int t2), .unset, .unset, .unset] [(.int (2147483647 : Int32)), (.int p1)])) (X0.ldcInt hx hown (mvT hZ (w63 hw)) (g := (mkF m 51 #[.val (.int p0), .val (.int p1), .val (.int f0), .val (.int t0), .val (.int f1), .val (.int t1), .val (.int f2), .val (.int t2), .unset, .unset, .unset] [(.int p1)])) rfl (hb hby at_51)) ?_
    refine Go.st (S' := T0.setTop (mkF m 54 #[.val (.int p0), .val (.int p1), .val (.int f0), .val (.int t0), .val (.int f1), .val (.int t1), .val (.int f2), .val (.int t2), .unset, .unset, .unset] [(.int (p1 &&& (2147483647 : Int32)))])) (fun _ k_ => XS.iand X0.here hx rfl (hb hby at_53) rfl k_) ?_
    exact J54 f0 t0 f1 t1 f2 t2 h_f0 h_t0 h_f1 h_t1 h_f2 h_t2 _ (own_nn (c_and p1 2147483647 (by decide)).1)
set_option maxRecDepth 65536 in
set_option maxHeartbeats 40000000 in
theorem comes_1 {Post : Tables → Env → Array Value → State → Outcome → State → Prop} (hpost : ∀ tb e args s v u, (limb_1_1.after args s (.returned v) u = true ∧ limb_1_2.after args s (.returned v) u = true ∧ True) → FrameEnd s (.returned v) u (Jvm.fieldLocs frame_1_writes args s ++ Jvm.arrayLocs frame_1_arrays args s ++ Jvm.staticLocs frame_1_statics s) 24 640 → Post tb e args s (.returned v) u) :
    ArmFor flags0 classFile x code maxLocals ret World_1 tables_1 room_1 Calls_1 rest_1 Pre_1 Post := by
  intro l hfl _ _ p e ha hc hk s m args below hf hA hF happ hP
  obtain ⟨hcalls, hrest, hpre⟩ := hP
  obtain ⟨-, -, -, hnamed, -, -, -, hat⟩ := (Spec.applies_iff hf).mp happ
  obtain ⟨hg, hn⟩ := and_e (Cond.before_iff.mp (show (Jvm.Cond.and given_1 narrow_1).before args s = true from hpre))
  obtain ⟨g1, g2⟩ := and_e hg
  obtain ⟨g3, g4⟩ := and_e g2
  obtain ⟨u0, u1, rfl⟩ : ∃ u0 u1 : Value, args = #[u0, u1] := by
    have hs : args.size = 2 := by simpa [Cond.value, given_1] using g1
    obtain ⟨L⟩ := args
    match L, hs with
    | [u0, u1], _ => exact ⟨u0, u1, rfl⟩
  have hw := fun d (hd : d ∈ tables_1) => atoms_spec (ws := Jvm.Cond.code x code maxLocals ret :: tables_1) hat d (List.mem_cons_of_mem _ hd)
  obtain ⟨i0, ei0⟩ := is_v g3
  obtain rfl : u0 = (.int i0) := Option.some.inj ei0
  obtain ⟨i1, ei1⟩ := is_v g4
  obtain rfl : u1 = (.int i1) := Option.some.inj ei1
  obtain ⟨n, o, h1, h2, h3, v, L, rfl, ⟨hv, N⟩, hq⟩ := rm0 l s _ hw tables_1 i0 i1 s.heap s.heap.size (Nat.le_refl _) p e ha hc hk s m _ below hf ((Spec.applies_iff_loose hf).mp happ).1 ⟨rfl, State.Warmed39.refl s, rfl⟩ trivial
  subst hv
  refine ⟨n, _, h1, h2, h3, hpost _ _ _ _ _ _ ⟨Cond.after_iff.mpr rfl, Cond.after_iff.mpr (eq_i res_at (Term.int_eval (1)) rfl), trivial⟩ ⟨hq.1, hq.2.1, (hq.2.2.sift fun y hy => Or.inr (N y hy)).mono (by decide) (by decide)⟩⟩
theorem main_1_1 : Claimed_1_1 := comes_1 fun _ _ _ _ _ _ h hF => ⟨h.1, hF⟩
theorem main_1_2 : Claimed_1_2 := comes_1 fun _ _ _ _ _ _ h hF => ⟨h.2.1, hF⟩
end Jvm.Pilot.@@N@@
namespace Jvm.Pilot.@@N@@
open Jvm Jvm.ClassFile Sem Op Lib Jvm.Free Jvm.Stand Jvm.Pilot.@@N@@.Jvm.D
/-! MADE BY PROGRAM (witnessworld.py) out of the Statement's table words and the real class files: 11 classes; the members and pool entries that the words name. The judged class is class 1, her method 2. -/
namespace start1
open Jvm.ClassFile
def u (s : String) : CpInfo := .utf8 (stringToUtf16 s)
/-- a pool by its gaps: so many unusable entries, then the entry; so many at the end -/
def gap : Nat → List CpInfo → List CpInfo
  | 0, r => r
  | n + 1, r => .unusable :: gap n r
def poolList (es : List (Nat × CpInfo)) (last : Nat) : List CpInfo := es.foldr (fun e r => gap e.1 (e.2 :: r)) (gap last [])
def pool (es : List (Nat × CpInfo)) (last : Nat) : Array CpInfo := ⟨poolList es last⟩
def fileOf (pool : Array CpInfo) (this : Nat) (attrs : Array Attribute := #[]) (ms : Array MethodInfo := #[]) (fl : Nat := 33) (sup : Nat := 0) (ifs : Array Nat := #[]) (fds : Array FieldInfo := #[]) : ClassFile where
  minorVersion := 0
  majorVersion := 65
  constantPool := pool
  accessFlags := fl
  thisClass := this
  superClass := sup
  interfaces := ifs
  fields := fds
  methods := ms
  attributes := attrs
def plain (name : String) (sup : Option ClassId) : Class where
  name := name
  kind := .ordinary
  loader := none
  accessFlags := 33
  super := sup
  interfaces := #[]
  cf := none
  fields := #[]
  methods := #[]
  instanceTypes := #[]
  staticTypes := #[]
  resolved := #[]
  callSites := []
  init := .initialized
  statics := none
  mirror := none

def pool0 : Array CpInfo := pool [(5, u "<init>"), (0, u "()V"), (1, .class_ 10), (1, u "java/lang/Object")] 113

def k0c0 : Code := { maxStack := 0, maxLocals := 1, code := object_method_1_code, exceptionTable := #[], attributes := #[] }
def k0m0 : Method := { name := "<init>", desc := "()V", sig := { parameters := [], returnType := none }, accessFlags := 1, code := some k0c0 }
/-- java/lang/Object -/
def k0 : Class := { plain "java/lang/Object" none with
  accessFlags := 33
  interfaces := #[]
  cf := some (fileOf pool0 8 #[] #[{ accessFlags := 1, nameIndex := 5, descriptorIndex := 6, attributes := #[] }] 33 0 #[] #[])
  fields := #[]
  methods := #[k0m0]
  instanceTypes := #[]
  staticTypes := #[]
  resolved := Array.replicate 124 none
  statics := none }

def pool1 : Array CpInfo := pool [(2, .class_ 4), (1, u "java/lang/Object"), (0, u "<init>"), (0, u "()V"), (0, .integer 2147483647), (0, .class_ 9), (0, u "io/isoproof/check/polygraph/Digraph"), (0, .methodref 8 11), (0, .nameAndType 5 12), (0, u "(I)V"), (0, .methodref 8 14), (0, .nameAndType 15 16), (0, u "addEdge"), (0, u "(II)V"), (0, .methodref 8 18), (0, .nameAndType 19 12), (0, u "keepEdges"), (0, .methodref 21 22), (0, .class_ 23), (0, .nameAndType 24 25), (0, u "java/lang/Math"), (0, u "min"), (0, u "(II)I"), (0, .methodref 8 27), (0, .nameAndType 28 29), (0, u "edgeCount"), (0, u "()I"), (0, .methodref 8 31), (0, .nameAndType 32 33), (0, u "lastEdgeFrom"), (0, u "(I)I"), (0, .methodref 35 36), (0, .class_ 37), (0, .nameAndType 38 39), (0, u "io/isoproof/check/polygraph/DigraphKeepEdgesPinLaw"), (0, u "last"), (0, u "(IIIII)I"), (0, .methodref 8 41), (0, .nameAndType 42 33), (0, u "lastEdgeTo"), (3, u "law"), (0, u "(II)Z")] 2

def k1m0 : Method := { name := "<init>", desc := "()V", sig := { parameters := [], returnType := none }, accessFlags := 1, code := none }
def k1c1 : Code := { maxStack := 2, maxLocals := 5, code := method_2_code, exceptionTable := #[], attributes := #[] }
def k1m1 : Method := { name := "last", desc := "(IIIII)I", sig := { parameters := [.int, .int, .int, .int, .int], returnType := some .int }, accessFlags := 10, code := some k1c1 }
def k1c2 : Code := { maxStack := 6, maxLocals := 11, code := code, exceptionTable := #[], attributes := #[] }
def k1m2 : Method := { name := "law", desc := "(II)Z", sig := { parameters := [.int, .int], returnType := some .boolean }, accessFlags := 9, code := some k1c2 }
/-- io/isoproof/check/polygraph/DigraphKeepEdgesPinLaw -/
def k1 : Class := { plain "io/isoproof/check/polygraph/DigraphKeepEdgesPinLaw" (some 0) with
  accessFlags := 49
  interfaces := #[]
  cf := some (fileOf pool1 35 #[] #[{ accessFlags := 1, nameIndex := 5, descriptorIndex := 6, attributes := #[] }, { accessFlags := 10, nameIndex := 38, descriptorIndex := 39, attributes := #[] }, { accessFlags := 9, nameIndex := 46, descriptorIndex := 47, attributes := #[] }] 49 2 #[] #[])
  fields := #[]
  methods := #[k1m0, k1m1, k1m2]
  instanceTypes := #[]
  staticTypes := #[]
  resolved := Array.replicate 50 none
  statics := none }

def pool2 : Array CpInfo := pool [(1, .methodref 2 3), (0, .class_ 4), (0, .nameAndType 5 6), (0, u "java/lang/Object"), (0, u "<init>"), (0, u "()V"), (0, .fieldref 8 9), (0, .class_ 10), (0, .nameAndType 11 12), (0, u "io/isoproof/check/polygraph/Digraph"), (0, u "sources"), (0, u "[I"), (0, .fieldref 8 14), (0, .nameAndType 15 12), (0, u "targets"), (0, .fieldref 8 17), (0, .nameAndType 18 12), (0, u "edgesBefore"), (0, .fieldref 8 20), (0, .nameAndType 21 12), (0, u "edgesBeforeTo"), (0, .fieldref 8 23), (0, .nameAndType 24 25), (0, u "nodes"), (0, u "I"), (0, .fieldref 8 27), (0, .nameAndType 28 12), (0, u "lastEdgeFrom"), (0, .methodref 30 31), (0, .class_ 32), (0, .nameAndType 33 34), (0, u "java/util/Arrays"), (0, u "fill"), (0, u "([II)V"), (0, .fieldref 8 36), (0, .nameAndType 37 12), (0, u "lastEdgeTo"), (0, .fieldref 8 39), (0, .nameAndType 40 25), (0, u "edgeCount"), (38, u "()I"), (6, u "(I)V"), (2, u "addEdge"), (0, u "(II)V"), (1, u "keepEdges"), (0, u "(I)I")] 12

def k2c0 : Code := { maxStack := 2, maxLocals := 2, code := prog_28_method_1_code, exceptionTable := #[], attributes := #[] }
def k2m0 : Method := { name := "<init>", desc := "(I)V", sig := { parameters := [.int], returnType := none }, accessFlags := 1, code := some k2c0 }
def k2c1 : Code := { maxStack := 1, maxLocals := 1, code := prog_28_method_3_code, exceptionTable := #[], attributes := #[] }
def k2m1 : Method := { name := "edgeCount", desc := "()I", sig := { parameters := [], returnType := some .int }, accessFlags := 1, code := some k2c1 }
def k2c2 : Code := { maxStack := 6, maxLocals := 4, code := prog_28_method_4_code, exceptionTable := #[], attributes := #[] }
def k2m2 : Method := { name := "addEdge", desc := "(II)V", sig := { parameters := [.int, .int], returnType := none }, accessFlags := 1, code := some k2c2 }
def k2c3 : Code := { maxStack := 4, maxLocals := 3, code := prog_28_method_5_code, exceptionTable := #[], attributes := #[] }
def k2m3 : Method := { name := "keepEdges", desc := "(I)V", sig := { parameters := [.int], returnType := none }, accessFlags := 0, code := some k2c3 }
def k2c4 : Code := { maxStack := 2, maxLocals := 2, code := prog_28_method_6_code, exceptionTable := #[], attributes := #[] }
def k2m4 : Method := { name := "lastEdgeFrom", desc := "(I)I", sig := { parameters := [.int], returnType := some .int }, accessFlags := 0, code := some k2c4 }
def k2c5 : Code := { maxStack := 2, maxLocals := 2, code := prog_28_method_9_code, exceptionTable := #[], attributes := #[] }
def k2m5 : Method := { name := "lastEdgeTo", desc := "(I)I", sig := { parameters := [.int], returnType := some .int }, accessFlags := 0, code := some k2c5 }
/-- io/isoproof/check/polygraph/Digraph -/
def k2 : Class := { plain "io/isoproof/check/polygraph/Digraph" (some 0) with
  accessFlags := 49
  interfaces := #[]
  cf := some (fileOf pool2 8 #[] #[{ accessFlags := 1, nameIndex := 5, descriptorIndex := 86, attributes := #[] }, { accessFlags := 1, nameIndex := 40, descriptorIndex := 79, attributes := #[] }, { accessFlags := 1, nameIndex := 89, descriptorIndex := 90, attributes := #[] }, { accessFlags := 0, nameIndex := 92, descriptorIndex := 86, attributes := #[] }, { accessFlags := 0, nameIndex := 28, descriptorIndex := 93, attributes := #[] }, { accessFlags := 0, nameIndex := 37, descriptorIndex := 93, attributes := #[] }] 49 2 #[] #[{ accessFlags := 18, nameIndex := 24, descriptorIndex := 25, attributes := #[] }, { accessFlags := 18, nameIndex := 28, descriptorIndex := 12, attributes := #[] }, { accessFlags := 2, nameIndex := 11, descriptorIndex := 12, attributes := #[] }, { accessFlags := 2, nameIndex := 15, descriptorIndex := 12, attributes := #[] }, { accessFlags := 2, nameIndex := 18, descriptorIndex := 12, attributes := #[] }, { accessFlags := 18, nameIndex := 37, descriptorIndex := 12, attributes := #[] }, { accessFlags := 2, nameIndex := 21, descriptorIndex := 12, attributes := #[] }, { accessFlags := 2, nameIndex := 40, descriptorIndex := 25, attributes := #[] }])
  fields := #[{ name := "nodes", type := .int, accessFlags := 18, slot := 0, constantValue := 0 }, { name := "lastEdgeFrom", type := (.array .int), accessFlags := 18, slot := 1, constantValue := 0 }, { name := "sources", type := (.array .int), accessFlags := 2, slot := 2, constantValue := 0 }, { name := "targets", type := (.array .int), accessFlags := 2, slot := 3, constantValue := 0 }, { name := "edgesBefore", type := (.array .int), accessFlags := 2, slot := 4, constantValue := 0 }, { name := "lastEdgeTo", type := (.array .int), accessFlags := 18, slot := 5, constantValue := 0 }, { name := "edgesBeforeTo", type := (.array .int), accessFlags := 2, slot := 6, constantValue := 0 }, { name := "edgeCount", type := .int, accessFlags := 2, slot := 7, constantValue := 0 }]
  methods := #[k2m0, k2m1, k2m2, k2m3, k2m4, k2m5]
  instanceTypes := #[.int, (.array .int), (.array .int), (.array .int), (.array .int), (.array .int), (.array .int), .int]
  staticTypes := #[]
  resolved := Array.replicate 106 none
  statics := none }

def pool3 : Array CpInfo := pool [(2, .class_ 4), (1, u "java/lang/Object"), (0, u "<init>"), (0, u "()V"), (7, .class_ 16), (1, u "java/util/Arrays"), (57, .class_ 76), (1, u "java/util/Arrays$NaturalOrder"), (36, .class_ 115), (1, u "java/util/Arrays$LegacyMergeSort"), (1, u "Z"), (257, .class_ 376), (0, u "java/util/Arrays$ArrayList"), (68, u "$assertionsDisabled"), (269, u "MIN_ARRAY_SORT_GRAN"), (0, u "I"), (2, u "INSERTIONSORT_THRESHOLD"), (120, u "fill"), (4, u "([II)V"), (129, .class_ 976), (0, u "java/util/Arrays$ArrayItr")] 52

def k3m0 : Method := { name := "<init>", desc := "()V", sig := { parameters := [], returnType := none }, accessFlags := 2, code := none }
def k3c1 : Code := { maxStack := 3, maxLocals := 4, code := jdk_65_method_103_code, exceptionTable := #[], attributes := #[] }
def k3m1 : Method := { name := "fill", desc := "([II)V", sig := { parameters := [(.array .int), .int], returnType := none }, accessFlags := 9, code := some k3c1 }
/-- java/util/Arrays -/
def k3 : Class := { plain "java/util/Arrays" (some 0) with
  accessFlags := 49
  interfaces := #[]
  cf := some (fileOf pool3 14 #[.nestMembers #[975, 375, 113, 74]] #[{ accessFlags := 2, nameIndex := 5, descriptorIndex := 6, attributes := #[] }, { accessFlags := 9, nameIndex := 840, descriptorIndex := 845, attributes := #[] }] 49 2 #[] #[{ accessFlags := 26, nameIndex := 715, descriptorIndex := 716, attributes := #[] }, { accessFlags := 26, nameIndex := 719, descriptorIndex := 716, attributes := #[] }, { accessFlags := 4120, nameIndex := 445, descriptorIndex := 117, attributes := #[] }])
  fields := #[{ name := "MIN_ARRAY_SORT_GRAN", type := .int, accessFlags := 26, slot := 0, constantValue := 0 }, { name := "INSERTIONSORT_THRESHOLD", type := .int, accessFlags := 26, slot := 1, constantValue := 0 }, { name := "$assertionsDisabled", type := .boolean, accessFlags := 4120, slot := 2, constantValue := 0 }]
  methods := #[k3m0, k3m1]
  instanceTypes := #[]
  staticTypes := #[.int, .int, .boolean]
  resolved := Array.replicate 1029 none
  statics := none }

def pool4 : Array CpInfo := pool [(1, .class_ 2), (0, u "java/lang/Math"), (1, .class_ 6), (1, u "java/lang/Object"), (0, u "<init>"), (0, u "()V"), (89, .class_ 100), (1, u "java/lang/Math$RandomNumberGeneratorHolder"), (71, u "negativeZeroFloatBits"), (0, u "J"), (2, u "negativeZeroDoubleBits"), (24, u "min"), (43, u "$assertionsDisabled"), (0, u "Z"), (88, u "(II)I"), (2, u "twoToTheDoubleScaleDown"), (0, u "D"), (4, u "twoToTheDoubleScaleUp"), (9, u "E"), (3, u "PI"), (2, u "TAU"), (2, u "DEGREES_TO_RADIANS"), (0, u "RADIANS_TO_DEGREES")] 94

def k4m0 : Method := { name := "<init>", desc := "()V", sig := { parameters := [], returnType := none }, accessFlags := 2, code := none }
def k4c1 : Code := { maxStack := 2, maxLocals := 2, code := jdk_29_method_69_code, exceptionTable := #[], attributes := #[] }
def k4m1 : Method := { name := "min", desc := "(II)I", sig := { parameters := [.int, .int], returnType := some .int }, accessFlags := 9, code := some k4c1 }
/-- java/lang/Math -/
def k4 : Class := { plain "java/lang/Math" (some 0) with
  accessFlags := 49
  interfaces := #[]
  cf := some (fileOf pool4 1 #[.nestMembers #[98]] #[{ accessFlags := 2, nameIndex := 7, descriptorIndex := 8, attributes := #[] }, { accessFlags := 9, nameIndex := 201, descriptorIndex := 335, attributes := #[] }] 49 4 #[] #[{ accessFlags := 25, nameIndex := 354, descriptorIndex := 339, attributes := #[] }, { accessFlags := 25, nameIndex := 358, descriptorIndex := 339, attributes := #[] }, { accessFlags := 25, nameIndex := 361, descriptorIndex := 339, attributes := #[] }, { accessFlags := 26, nameIndex := 364, descriptorIndex := 339, attributes := #[] }, { accessFlags := 26, nameIndex := 365, descriptorIndex := 339, attributes := #[] }, { accessFlags := 26, nameIndex := 172, descriptorIndex := 173, attributes := #[] }, { accessFlags := 26, nameIndex := 176, descriptorIndex := 173, attributes := #[] }, { accessFlags := 8, nameIndex := 344, descriptorIndex := 339, attributes := #[] }, { accessFlags := 8, nameIndex := 338, descriptorIndex := 339, attributes := #[] }, { accessFlags := 4120, nameIndex := 245, descriptorIndex := 246, attributes := #[] }])
  fields := #[{ name := "E", type := .double, accessFlags := 25, slot := 0, constantValue := 0 }, { name := "PI", type := .double, accessFlags := 25, slot := 1, constantValue := 0 }, { name := "TAU", type := .double, accessFlags := 25, slot := 2, constantValue := 0 }, { name := "DEGREES_TO_RADIANS", type := .double, accessFlags := 26, slot := 3, constantValue := 0 }, { name := "RADIANS_TO_DEGREES", type := .double, accessFlags := 26, slot := 4, constantValue := 0 }, { name := "negativeZeroFloatBits", type := .long, accessFlags := 26, slot := 5, constantValue := 0 }, { name := "negativeZeroDoubleBits", type := .long, accessFlags := 26, slot := 6, constantValue := 0 }, { name := "twoToTheDoubleScaleUp", type := .double, accessFlags := 8, slot := 7, constantValue := 0 }, { name := "twoToTheDoubleScaleDown", type := .double, accessFlags := 8, slot := 8, constantValue := 0 }, { name := "$assertionsDisabled", type := .boolean, accessFlags := 4120, slot := 9, constantValue := 0 }]
  methods := #[k4m0, k4m1]
  instanceTypes := #[]
  staticTypes := #[.double, .double, .double, .double, .double, .long, .long, .double, .double, .boolean]
  resolved := Array.replicate 460 none
  statics := none }

def pool5 : Array CpInfo := pool [(1, u "java/lang/Cloneable"), (0, .class_ 1), (0, u "java/lang/Object"), (0, .class_ 3)] 3

/-- java/lang/Cloneable -/
def k5 : Class := { plain "java/lang/Cloneable" (some 0) with
  accessFlags := 1537
  interfaces := #[]
  cf := some (fileOf pool5 2 #[] #[] 1537 4 #[] #[])
  fields := #[]
  methods := #[]
  instanceTypes := #[]
  staticTypes := #[]
  resolved := Array.replicate 8 none
  statics := none }

def pool6 : Array CpInfo := pool [(1, u "java/io/Serializable"), (0, .class_ 1), (0, u "java/lang/Object"), (0, .class_ 3)] 3

/-- java/io/Serializable -/
def k6 : Class := { plain "java/io/Serializable" (some 0) with
  accessFlags := 1537
  interfaces := #[]
  cf := some (fileOf pool6 2 #[] #[] 1537 4 #[] #[])
  fields := #[]
  methods := #[]
  instanceTypes := #[]
  staticTypes := #[]
  resolved := Array.replicate 8 none
  statics := none }

/-- the primitive byte -/
def k7 : Class := { plain "byte" none with kind := .primitive 'B', accessFlags := 0x411 }
/-- [B -/
def k8 : Class := { plain "[B" (some 0) with kind := .array 7 .byte, interfaces := #[5, 6], accessFlags := 1041 }

/-- the primitive int -/
def k9 : Class := { plain "int" none with kind := .primitive 'I', accessFlags := 0x411 }
/-- [I -/
def k10 : Class := { plain "[I" (some 0) with kind := .array 9 .int, interfaces := #[5, 6], accessFlags := 1041 }

def heap : Heap := #[]
def classes : Array Class := #[k0, k1, k2, k3, k4, k5, k6, k7, k8, k9, k10]
def interned : List (Array UInt16 × Addr) := []
def slotsUsed : Nat := 0
def theMethod : MethodId := ⟨1, 2⟩
def args0 : Array Value := #[.int 3, .int 7]
def aboutOver (below : List Frame) : State where
  vm := { classes := classes, interned := interned.toArray }
  heap := heap
  slotsUsed := slotsUsed
  threads := #[{ frames := .invoking theMethod args0 :: below }]
def below0 : List Frame := [.native { method := ⟨0, 0⟩, args := #[] }]
def about1 : State := aboutOver below0
def p0 : Program := .bare "" "" ""
def e0 : Env := launch0.env 0 0 0
theorem w_frames : about1.frames = Frame.invoking theMethod args0 :: below0 := rfl
set_option maxRecDepth 65536 in
theorem w_args : argsFit about1.vm theMethod args0 = true := by decide +kernel
set_option maxRecDepth 65536 in
theorem w_heap : heapFits about1 = true := by decide +kernel
set_option maxRecDepth 65536 in
theorem w_runnable : about1.curStatus? = some .runnable := by decide +kernel
set_option maxRecDepth 65536 in
theorem w_alone : about1.alone = true := by decide +kernel
set_option maxRecDepth 65536 in
theorem w_named : about1.methodNamed? x = some theMethod := by decide +kernel
set_option maxRecDepth 65536 in
theorem w_hears : about1.hears theMethod below0 = true := by decide +kernel
set_option maxRecDepth 65536 in
theorem w_ripe : about1.ripe theMethod args0 below0 = true := by decide +kernel
theorem w_running : about1.status = .running := rfl
set_option maxRecDepth 65536 in
theorem w_room : about1.hasRoom e0.platform room_1 = true :=
  launch0.hasRoom_least _ room_1 (by decide +kernel) (by decide +kernel) (by decide +kernel) (by decide +kernel) (by decide +kernel) (by decide +kernel)
theorem allAtoms_all (ts : List Jvm.Cond) (a : Array Jvm.Value) (st : Jvm.State) : (allAtoms ts).before a st = ts.all (fun c => c.before a st) := by
  induction ts with
  | nil => rfl
  | cons c t ih =>
    show (Jvm.Cond.and c (allAtoms t)).before a st = _
    rw [Jvm.Cond.before_and, ih, List.all_cons]
def words1 : List Jvm.Cond := Jvm.Cond.code x code maxLocals ret :: tables_1
/-- a 'code' word, met by the world's own term for the bytes: nothing is compared byte by byte -/
theorem code_word {y : MethodName} {bytes : ByteArray} {mx : Nat} {rt : Option FieldType} {a : Array Value} {s : State} {m : MethodId} {meth : Method} {c : Code} (h1 : s.methodNamed? y = some m) (h2 : s.vm.method? m = some meth) (h3 : meth.code = some c) (h4 : c.code = bytes)
    (h5 : (c.maxLocals == mx && c.exceptionTable.isEmpty && decide (c.maxStack ≤ mostOperands) && decide (meth.sig.returnType = rt) && !meth.locks && decide (parseMethodDescriptor y.desc = some meth.sig)) = true) : (Jvm.Cond.code y bytes mx rt).before a s = true := by
  simp only [Bool.and_eq_true, beq_iff_eq, Bool.not_eq_true', decide_eq_true_eq] at h5
  obtain ⟨⟨⟨⟨⟨g1, g2⟩, g3⟩, g4⟩, g5⟩, g6⟩ := h5
  simp [Cond.before, Cond.holds, Cond.value, h1, h2, h3, h4, g1, g2, g3, g4, g5, g6]
def isCode : Jvm.Cond → Bool
  | .code _ _ _ _ => true
  | _ => false
theorem all_split {L : List Jvm.Cond} {P : Jvm.Cond → Bool} (h1 : L.all (fun c => isCode c || P c) = true) (h2 : ∀ c ∈ L.filter isCode, P c = true) : L.all P = true := by
  refine List.all_eq_true.mpr fun c hc => ?_
  have h := List.all_eq_true.mp h1 c hc
  rcases Bool.eq_false_or_eq_true (isCode c) with hi | hi
  · exact h2 c (List.mem_filter.mpr ⟨hc, hi⟩)
  · simpa [hi] using h
set_option maxRecDepth 65536 in
theorem w_c0 : (Jvm.Cond.code x code maxLocals ret).before args0 about1 = true := code_word (m := ⟨1, 2⟩) (meth := k1m2) (c := k1c2) (by decide +kernel) rfl rfl rfl (by decide +kernel)
set_option maxRecDepth 65536 in
theorem w_c1 : (Jvm.Cond.code ({ cls := "io/isoproof/check/polygraph/Digraph", name := "<init>", desc := "(I)V" } : Jvm.MethodName) prog_28_method_1_code (2 : Nat) (Option.none : Option Jvm.ClassFile.FieldType)).before args0 about1 = true := code_word (m := ⟨2, 0⟩) (meth := k2m0) (c := k2c0) (by decide +kernel) rfl rfl rfl (by decide +kernel)
set_option maxRecDepth 65536 in
theorem w_c2 : (Jvm.Cond.code ({ cls := "java/lang/Object", name := "<init>", desc := "()V" } : Jvm.MethodName) object_method_1_code (1 : Nat) (Option.none : Option Jvm.ClassFile.FieldType)).before args0 about1 = true := code_word (m := ⟨0, 0⟩) (meth := k0m0) (c := k0c0) (by decide +kernel) rfl rfl rfl (by decide +kernel)
set_option maxRecDepth 65536 in
theorem w_c3 : (Jvm.Cond.code ({ cls := "java/util/Arrays", name := "fill", desc := "([II)V" } : Jvm.MethodName) jdk_65_method_103_code (4 : Nat) (Option.none : Option Jvm.ClassFile.FieldType)).before args0 about1 = true := code_word (m := ⟨3, 1⟩) (meth := k3m1) (c := k3c1) (by decide +kernel) rfl rfl rfl (by decide +kernel)
set_option maxRecDepth 65536 in
theorem w_c4 : (Jvm.Cond.code ({ cls := "io/isoproof/check/polygraph/Digraph", name := "addEdge", desc := "(II)V" } : Jvm.MethodName) prog_28_method_4_code (4 : Nat) (Option.none : Option Jvm.ClassFile.FieldType)).before args0 about1 = true := code_word (m := ⟨2, 2⟩) (meth := k2m2) (c := k2c2) (by decide +kernel) rfl rfl rfl (by decide +kernel)
set_option maxRecDepth 65536 in
theorem w_c5 : (Jvm.Cond.code ({ cls := "io/isoproof/check/polygraph/Digraph", name := "keepEdges", desc := "(I)V" } : Jvm.MethodName) prog_28_method_5_code (3 : Nat) (Option.none : Option Jvm.ClassFile.FieldType)).before args0 about1 = true := code_word (m := ⟨2, 3⟩) (meth := k2m3) (c := k2c3) (by decide +kernel) rfl rfl rfl (by decide +kernel)
set_option maxRecDepth 65536 in
theorem w_c6 : (Jvm.Cond.code ({ cls := "java/lang/Math", name := "min", desc := "(II)I" } : Jvm.MethodName) jdk_29_method_69_code (2 : Nat) (Option.some Jvm.ClassFile.FieldType.int)).before args0 about1 = true := code_word (m := ⟨4, 1⟩) (meth := k4m1) (c := k4c1) (by decide +kernel) rfl rfl rfl (by decide +kernel)
set_option maxRecDepth 65536 in
theorem w_c7 : (Jvm.Cond.code ({ cls := "io/isoproof/check/polygraph/Digraph", name := "edgeCount", desc := "()I" } : Jvm.MethodName) prog_28_method_3_code (1 : Nat) (Option.some Jvm.ClassFile.FieldType.int)).before args0 about1 = true := code_word (m := ⟨2, 1⟩) (meth := k2m1) (c := k2c1) (by decide +kernel) rfl rfl rfl (by decide +kernel)
set_option maxRecDepth 65536 in
theorem w_c8 : (Jvm.Cond.code ({ cls := "io/isoproof/check/polygraph/Digraph", name := "lastEdgeFrom", desc := "(I)I" } : Jvm.MethodName) prog_28_method_6_code (2 : Nat) (Option.some Jvm.ClassFile.FieldType.int)).before args0 about1 = true := code_word (m := ⟨2, 4⟩) (meth := k2m4) (c := k2c4) (by decide +kernel) rfl rfl rfl (by decide +kernel)
set_option maxRecDepth 65536 in
theorem w_c9 : (Jvm.Cond.code ({ cls := "io/isoproof/check/polygraph/DigraphKeepEdgesPinLaw", name := "last", desc := "(IIIII)I" } : Jvm.MethodName) method_2_code (5 : Nat) (Option.some Jvm.ClassFile.FieldType.int)).before args0 about1 = true := code_word (m := ⟨1, 1⟩) (meth := k1m1) (c := k1c1) (by decide +kernel) rfl rfl rfl (by decide +kernel)
set_option maxRecDepth 65536 in
theorem w_c10 : (Jvm.Cond.code ({ cls := "io/isoproof/check/polygraph/Digraph", name := "lastEdgeTo", desc := "(I)I" } : Jvm.MethodName) prog_28_method_9_code (2 : Nat) (Option.some Jvm.ClassFile.FieldType.int)).before args0 about1 = true := code_word (m := ⟨2, 5⟩) (meth := k2m5) (c := k2c5) (by decide +kernel) rfl rfl rfl (by decide +kernel)
def codes1 : List Jvm.Cond := [Jvm.Cond.code x code maxLocals ret, Jvm.Cond.code ({ cls := "io/isoproof/check/polygraph/Digraph", name := "<init>", desc := "(I)V" } : Jvm.MethodName) prog_28_method_1_code (2 : Nat) (Option.none : Option Jvm.ClassFile.FieldType), Jvm.Cond.code ({ cls := "java/lang/Object", name := "<init>", desc := "()V" } : Jvm.MethodName) object_method_1_code (1 : Nat) (Option.none : Option Jvm.ClassFile.FieldType), Jvm.Cond.code ({ cls := "java/util/Arrays", name := "fill", desc := "([II)V" } : Jvm.MethodName) jdk_65_method_103_code (4 : Nat) (Option.none : Option Jvm.ClassFile.FieldType), Jvm.Cond.code ({ cls := "io/isoproof/check/polygraph/Digraph", name := "addEdge", desc := "(II)V" } : Jvm.MethodName) prog_28_method_4_code (4 : Nat) (Option.none : Option Jvm.ClassFile.FieldType), Jvm.Cond.code ({ cls := "io/isoproof/check/polygraph/Digraph", name := "keepEdges", desc := "(I)V" } : Jvm.MethodName) prog_28_method_5_code (3 : Nat) (Option.none : Option Jvm.ClassFile.FieldType), Jvm.Cond.code ({ cls := "java/lang/Math", name := "min", desc := "(II)I" } : Jvm.MethodName) jdk_29_method_69_code (2 : Nat) (Option.some Jvm.ClassFile.FieldType.int), Jvm.Cond.code ({ cls := "io/isoproof/check/polygraph/Digraph", name := "edgeCount", desc := "()I" } : Jvm.MethodName) prog_28_method_3_code (1 : Nat) (Option.some Jvm.ClassFile.FieldType.int), Jvm.Cond.code ({ cls := "io/isoproof/check/polygraph/Digraph", name := "lastEdgeFrom", desc := "(I)I" } : Jvm.MethodName) prog_28_method_6_code (2 : Nat) (Option.some Jvm.ClassFile.FieldType.int), Jvm.Cond.code ({ cls := "io/isoproof/check/polygraph/DigraphKeepEdgesPinLaw", name := "last", desc := "(IIIII)I" } : Jvm.MethodName) method_2_code (5 : Nat) (Option.some Jvm.ClassFile.FieldType.int), Jvm.Cond.code ({ cls := "io/isoproof/check/polygraph/Digraph", name := "lastEdgeTo", desc := "(I)I" } : Jvm.MethodName) prog_28_method_9_code (2 : Nat) (Option.some Jvm.ClassFile.FieldType.int)]
set_option maxRecDepth 65536 in
theorem codes_eq : words1.filter isCode = codes1 := rfl
theorem w_codes : ∀ c ∈ words1.filter isCode, c.before args0 about1 = true := by
  rw [codes_eq]
  intro c hc
  simp only [codes1, List.mem_cons, List.not_mem_nil, or_false] at hc
  rcases hc with rfl | rfl | rfl | rfl | rfl | rfl | rfl | rfl | rfl | rfl | rfl
  · exact w_c0
  · exact w_c1
  · exact w_c2
  · exact w_c3
  · exact w_c4
  · exact w_c5
  · exact w_c6
  · exact w_c7
  · exact w_c8
  · exact w_c9
  · exact w_c10
set_option maxRecDepth 65536 in
theorem w_t1 : (words1.take 24).all (fun c => isCode c || c.before args0 about1) = true := by decide +kernel
set_option maxRecDepth 65536 in
theorem w_t2 : ((words1.drop 24).take 24).all (fun c => isCode c || c.before args0 about1) = true := by decide +kernel
set_option maxRecDepth 65536 in
theorem w_t3 : ((words1.drop 24).drop 24).all (fun c => isCode c || c.before args0 about1) = true := by decide +kernel
theorem w_tables : (allAtoms (Jvm.Cond.code x code maxLocals ret :: tables_1)).before args0 about1 = true := by
  rw [allAtoms_all]
  show words1.all (fun c => c.before args0 about1) = true
  refine all_split ?_ w_codes
  rw [← List.take_append_drop 24 words1, List.all_append, w_t1, ← List.take_append_drop 24 (words1.drop 24), List.all_append, w_t2, w_t3]
  rfl
set_option maxRecDepth 65536 in
theorem w_case : (Jvm.Cond.and given_1 narrow_1).before args0 about1 = true := by decide +kernel
theorem w_applies : (headSpec (Jvm.Cond.code x code maxLocals ret :: tables_1) room_1).applies x e0.platform about1 = true :=
  (Spec.applies_iff w_frames).mpr ⟨w_running, w_runnable, w_alone, w_named, w_hears, w_ripe, w_room, w_tables⟩
theorem atStart : AtStart classFile x code maxLocals ret World_1 tables_1 room_1 Calls_1 rest_1 Pre_1 launch0 p0 e0 about1 theMethod args0 below0 :=
  ⟨lists_1, trivial, launch0.admits_env _ _ _, launch0.least_env, fairChoices_fair.cas, fairChoices_fair.clock, w_frames, w_args, w_heap, w_applies, trivial, trivial, w_case⟩
end start1
theorem witness_1 : WitnessClaimed_1 := ⟨start1.p0, start1.e0, start1.about1, start1.theMethod, start1.args0, start1.below0, start1.atStart⟩
end Jvm.Pilot.@@N@@
