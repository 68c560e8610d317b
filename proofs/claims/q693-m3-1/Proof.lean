import JvmDerived
import JvmDerived.Pilot.@@N@@Statement
import JvmDerived.Pilot.@@N@@Code
set_option linter.unusedVariables false
set_option linter.unusedSimpArgs false
namespace Jvm.Pilot.@@N@@
open Jvm Jvm.ClassFile Sem Op Lib Jvm.Free Jvm.Stand Jvm.LawKit Jvm.RoadKit Bundle Jvm.Pilot.@@N@@.Jvm.D
/-! ## own layer: walks in goal-directed form -/
section Layer
variable {p : Program} {l : Launch} {e : Env} {R : Room} {s : State} {m : MethodId} {args : Array Value} {below : List Frame} {meth : Method} {c : Code} {T : State} {locs : List Loc} {cells slots : Nat} {Z : State} {a0 : Array Value} {h h' : Heap} {a b : Addr} {ty : FieldType} {xs ys : List Int32} {ls : List Int64}
/-- from S the run comes to the invocation's end, with what Q says of the value, the heap and the written places -/
def Go (p : Program) (e : Env) (below : List Frame) (s : State) (rm : Room) (Q : Option Value → Heap → List Loc → Prop) (S : State) : Prop :=
  ∃ t o, Steps p.tables e below S t ∧ t.status = .running ∧ Ended t below o ∧ ∃ v L, o = .returned v ∧ Q v t.heap L ∧ FrameEnd s o t L rm.cells rm.slots
theorem Go.st {rm : Room} {Q : Option Value → Heap → List Loc → Prop} {S S' : State} (k : ∀ t, Steps p.tables e below S' t → Steps p.tables e below S t) (g : Go p e below s rm Q S') : Go p e below s rm Q S := by
  obtain ⟨t, o, h, r⟩ := g; exact ⟨t, o, k t h, r⟩
theorem Go.ret {rm : Room} {Q : Option Value → Heap → List Loc → Prop} {S : State} {v : Option Value} (X : Stand p l e rm s m args below meth c T locs cells slots) (hv : meth.sig.returnType = none → v = none) (hlk : meth.locks = false) (hc : cells ≤ rm.cells) (hs : slots ≤ rm.slots) (hQ : Q v T.heap locs)
    (st : ∀ fs, (∀ (f : JFrame) (acts : List Action), f.method = m → f.locked = none → f.entered = [] → (doReturn e (T.setTop f) acts v).1 = T.setFrames fs) → Steps p.tables e below S (T.setFrames fs)) : Go p e below s rm Q S := by
  obtain ⟨fs, hr, hrun, hended, hW, hsame⟩ := X.leave (v := v) hv hlk
  exact ⟨_, _, st fs hr, hrun, hended, v, locs, rfl, hQ, ⟨v, rfl⟩, hW, hsame.mono hc hs⟩
theorem Go.retI {rm : Room} {Q : Option Value → Heap → List Loc → Prop} (X : Stand p l e rm s m args below meth c T locs cells slots) (hx : p.tables.exec = Jvm.exec) (hret : meth.sig.returnType = some .int) (hlk : meth.locks = false) {pc : Nat} {Ls : Array Slot} {z : Int32} {rest : List Value} (hd : decode c.code pc = .ok (.ireturn, 1)) (hc : cells ≤ rm.cells) (hs : slots ≤ rm.slots)
    (hQ : Q (some (.int z)) T.heap locs) : Go p e below s rm Q (T.setTop (mkF m pc Ls (.int z :: rest))) := by
  refine Go.ret X (v := some (.int z)) (fun q => by rw [hret] at q; cases q) hlk hc hs hQ fun fs hr => ?_
  have hm' : T.vm.method? m = some meth := X.method'
  have hn : narrow .int (.int z) = .int z := rfl
  show Steps p.tables e below (T.setTop { method := m, pc := pc, locals := Ls, stack := _ :: rest, locked := none }) _
  jvm_step X.here [X.here.top, hx, hd, hm', hret, hn]
  first | (intro acts; rw [hr _ acts rfl rfl rfl]) | rw [hr _ _ rfl rfl rfl]
  exact Steps.refl _
theorem Go.retN {rm : Room} {Q : Option Value → Heap → List Loc → Prop} {t : FieldType} (X : Stand p l e rm s m args below meth c T locs cells slots) (hx : p.tables.exec = Jvm.exec) (hret : meth.sig.returnType = some t) (ht : t = .boolean ∨ t = .byte ∨ t = .char ∨ t = .short) (hlk : meth.locks = false) {pc : Nat} {Ls : Array Slot} {z : Int32} {rest : List Value} (hd : decode c.code pc = .ok (.ireturn, 1)) (hc : cells ≤ rm.cells) (hs : slots ≤ rm.slots)
    (hQ : Q (some (.int (nar t z))) T.heap locs) : Go p e below s rm Q (T.setTop (mkF m pc Ls (.int z :: rest))) :=
  Go.ret X (v := some (.int (nar t z))) (fun q => by rw [hret] at q; cases q) hlk hc hs hQ fun fs hr => Jvm.RoadKit.retN X hx hret ht hd hr
theorem Go.retV {rm : Room} {Q : Option Value → Heap → List Loc → Prop} (X : Stand p l e rm s m args below meth c T locs cells slots) (hx : p.tables.exec = Jvm.exec) (hret : meth.sig.returnType = none) (hlk : meth.locks = false) {pc : Nat} {Ls : Array Slot} (hd : decode c.code pc = .ok (.return_, 1)) (hc : cells ≤ rm.cells) (hs : slots ≤ rm.slots)
    (hQ : Q none T.heap locs) : Go p e below s rm Q (T.setTop (mkF m pc Ls [])) :=
  Go.ret X (v := none) (fun _ => rfl) hlk hc hs hQ fun fs hr => X.returnOut hx hret hd hr
theorem Go.retJ {rm : Room} {Q : Option Value → Heap → List Loc → Prop} (X : Stand p l e rm s m args below meth c T locs cells slots) (hx : p.tables.exec = Jvm.exec) (hret : meth.sig.returnType = some .long) (hlk : meth.locks = false) {pc : Nat} {Ls : Array Slot} {z : Int64} {rest : List Value} (hd : decode c.code pc = .ok (.lreturn, 1)) (hc : cells ≤ rm.cells) (hs : slots ≤ rm.slots)
    (hQ : Q (some (.long z)) T.heap locs) : Go p e below s rm Q (T.setTop (mkF m pc Ls (.long z :: rest))) := by
  refine Go.ret X (v := some (.long z)) (fun q => by rw [hret] at q; cases q) hlk hc hs hQ fun fs hr => ?_
  have hm' : T.vm.method? m = some meth := X.method'
  show Steps p.tables e below (T.setTop { method := m, pc := pc, locals := Ls, stack := _ :: rest, locked := none }) _
  jvm_step X.here [X.here.top, hx, hd, hm', hret, narrow]
  first | (intro acts; rw [hr _ acts rfl rfl rfl]) | rw [hr _ _ rfl rfl rfl]
  exact Steps.refl _
theorem Go.retR {rm : Room} {Q : Option Value → Heap → List Loc → Prop} {t : FieldType} (X : Stand p l e rm s m args below meth c T locs cells slots) (hx : p.tables.exec = Jvm.exec) (hret : meth.sig.returnType = some t) (ht : t.isReference = true) (hlk : meth.locks = false) {pc : Nat} {Ls : Array Slot} {z : Addr} (hd : decode c.code pc = .ok (.areturn, 1)) (hc : cells ≤ rm.cells) (hs : slots ≤ rm.slots)
    (hQ : Q (some (.ref z)) T.heap locs) : Go p e below s rm Q (T.setTop (mkF m pc Ls [.ref z])) := by
  refine Go.ret X (v := some (.ref z)) (fun q => by rw [hret] at q; cases q) hlk hc hs hQ fun fs hr => ?_
  exact X.areturnOut hx rfl hret ht hd hr
/-- the contract of a body: called with these arguments over the heap h0 it comes back, and Q -/
abbrev Con (l : Launch) (Z : State) (y : MethodName) (bytes : ByteArray) (maxL : Nat) (ret : Option FieldType) (ws : List Jvm.Cond) (rm : Room) (as : Array Value) (h0 : Heap) (Q : Option Value → Heap → List Loc → Prop) : Prop :=
  MetFree l y (head1 (Jvm.Cond.code y bytes maxL ret :: ws) rm) (fun a U => a = as ∧ Z.Warmed39 U.vm ∧ U.heap = h0) (fun _ _ _ _ _ => True) (fun _ U o U' => ∃ v L, o = .returned v ∧ Q v U'.heap L ∧ FrameEnd U o U' L rm.cells rm.slots)
theorem Con.mk {y : MethodName} {bytes : ByteArray} {maxL : Nat} {ret : Option FieldType} {ws : List Jvm.Cond} {rm : Room} {as : Array Value} {h0 : Heap} {Q : Option Value → Heap → List Loc → Prop} (hp : plainFor y = true)
    (body : ∀ (p : Program) (e : Env) (s : State) (m : MethodId) (below : List Frame) (meth : Method) (c : Code) (T : State), p.tables.exec = Jvm.exec → c.code = bytes → c.maxLocals = maxL → s.vm.findClass y.cls = some m.cls → meth.name = y.name → meth.sig.returnType = ret → meth.locks = false → Z.Warmed39 s.vm →
      Stand p l e rm s m as below meth c T [] 0 0 → T.heap = h0 → Go p e below s rm Q (T.setTop (entryFrame m as maxL))) : Con l Z y bytes maxL ret ws rm as h0 Q := by
  refine MetFree.of_bodySF hp hisR ?_
  intro p e s m args below meth c s₁ Bd hml0 hP hK
  obtain ⟨rfl, hZ, hh⟩ := hP
  exact body p e s m below meth c s₁ Bd.exec Bd.bytes hml0 (findClass_of_methodNamed Bd.named) (name_of_methodNamed Bd.named Bd.method).1 Bd.returns Bd.notSynchronized hZ (Stand.of_body Bd) (by rw [← hh, Bd.state]; rfl)
theorem Go.cast {rm : Room} {Q : Option Value → Heap → List Loc → Prop} {f f' : JFrame} (q : f = f') (g : Go p e below s rm Q (T.setTop f')) : Go p e below s rm Q (T.setTop f) := q ▸ g
/-! calls -/
theorem callSt (X : Stand p l e R s m args below meth c T locs cells slots) (hx : p.tables.exec = Jvm.exec) (hZ : Z.Warmed39 s.vm) {own : String} {index : Nat} {y : MethodName} {bytes : ByteArray} {maxL : Nat} {ret : Option FieldType} {rm : Room} {W : Nat} {Q : Option Value → Heap → List Loc → Prop} {argsL rest : List Value}
    (hown : s.vm.findClass own = some m.cls) (w1 : (Jvm.Cond.methodLink own index y).before a0 Z = true) (w2 : (Jvm.Cond.static y).before a0 Z = true) (w3 : (Jvm.Cond.initialized y.cls).before a0 Z = true) (w4 : (Jvm.Cond.code y bytes maxL ret).before a0 Z = true) (hy : y.cls ≠ "java/lang/invoke/MethodHandle" ∧ y.cls ≠ "java/lang/invoke/VarHandle")
    (eT : T.heap = h) (hM : Con l Z y bytes maxL ret [] rm argsL.toArray h Q) (hf : rm.frames + 1 ≤ R.frames) (hl : W + (maxL + 11) + rm.locals ≤ R.locals) {sig : MethodDescriptor} (hpd : parseMethodDescriptor y.desc = some sig) (hlen : argsL.length = sig.parameters.length)
    {g : JFrame} (hg : g.method = m) (hsize : g.locals.size = c.maxLocals) (hstack : g.stack = argsL.reverse ++ rest) (hW : 2 * g.monitorRoom + (rest.map fun v => v.category).sum ≤ W) (hdg : decode c.code g.pc = .ok (.invokestatic index, 3)) (hc : cells + rm.cells ≤ R.cells) (hs : slots + rm.slots ≤ R.slots) :
    ∃ (v : Option Value) (T' : State) (h' : Heap) (L : List Loc), Stand p l e R s m args below meth c T' (locs ++ L) (cells + rm.cells) (slots + rm.slots) ∧ T'.heap = h' ∧ Q v h' L ∧ ∀ t, Steps p.tables e below (T'.setTop { g with pc := g.pc + 3, stack := v.toList ++ rest }) t → Steps p.tables e below (T.setTop g) t := by
  obtain ⟨v, _, ⟨T1, L1, k1, n1⟩, -, X1, ⟨Lc, hQ, l1, y1, z1⟩, st⟩ := Jvm.LawKit.callS X hx (y := y) hown (mvT hZ w1) (mvT hZ w2) (mvT hZ w3) (mvT hZ w4) hy (backOf (W := W) (Z := Z) (a0 := a0) (h := h) hM hZ w4 w3 hf hl) (g := g) hg hsize (argsL := argsL) (rest := rest) (fun sg q => by rw [hpd] at q; cases q; exact hlen) hstack hW hdg (fun _ _ => ⟨rfl, eT, hc, hs⟩)
  dsimp only [Pt.U, Pt.locs, Pt.cells, Pt.slots] at X1 l1 y1 z1 st hQ
  subst l1 y1 z1
  exact ⟨v, T1, T1.heap, Lc, X1, rfl, hQ, st⟩
theorem callIn (X : Stand p l e R s m args below meth c T locs cells slots) (hx : p.tables.exec = Jvm.exec) (hZ : Z.Warmed39 s.vm) {own : String} {index : Nat} {y : MethodName} {bytes : ByteArray} {maxL : Nat} {rm : Room} {W : Nat} {Q : Option Value → Heap → List Loc → Prop} {argsL rest : List Value} (hi : y.name = "<init>")
    (hown : s.vm.findClass own = some m.cls) (w1 : (Jvm.Cond.methodLink own index y).before a0 Z = true) (w2 : (Jvm.Cond.instanceMethod y).before a0 Z = true) (w3 : (Jvm.Cond.initialized y.cls).before a0 Z = true) (w4 : (Jvm.Cond.code y bytes maxL none).before a0 Z = true) (hy : y.cls ≠ "java/lang/invoke/MethodHandle" ∧ y.cls ≠ "java/lang/invoke/VarHandle")
    (eT : T.heap = h) (hM : Con l Z y bytes maxL none [] rm (.ref a :: argsL).toArray h Q) (hf : rm.frames + 1 ≤ R.frames) (hl : W + (maxL + 11) + rm.locals ≤ R.locals) {sig : MethodDescriptor} (hpd : parseMethodDescriptor y.desc = some sig) (hlen : argsL.length = sig.parameters.length)
    {g : JFrame} (hg : g.method = m) (hsize : g.locals.size = c.maxLocals) (hstack : g.stack = argsL.reverse ++ .ref a :: rest) (hW : 2 * g.monitorRoom + (rest.map fun v => v.category).sum ≤ W) (hdg : decode c.code g.pc = .ok (.invokespecial index, 3)) (hc : cells + rm.cells ≤ R.cells) (hs : slots + rm.slots ≤ R.slots) :
    ∃ (v : Option Value) (T' : State) (h' : Heap) (L : List Loc), Stand p l e R s m args below meth c T' (locs ++ L) (cells + rm.cells) (slots + rm.slots) ∧ T'.heap = h' ∧ Q v h' L ∧ ∀ t, Steps p.tables e below (T'.setTop { g with pc := g.pc + 3, stack := v.toList ++ rest }) t → Steps p.tables e below (T.setTop g) t := by
  obtain ⟨v, _, ⟨T1, L1, k1, n1⟩, -, X1, ⟨Lc, hQ, l1, y1, z1⟩, st⟩ := X.specialBack hx (y := y) hi hown (mvT hZ w1) (mvT hZ w2) (mvT hZ w4) hy (backOf (W := W) (Z := Z) (a0 := a0) (h := h) hM hZ w4 w3 hf hl) (g := g) hg hsize (Steps.refl _) (a := a) (argsL := argsL) (rest := rest) (fun sg q => by rw [hpd] at q; cases q; exact hlen) hstack hW hdg (fun _ _ => ⟨rfl, eT, hc, hs⟩)
  dsimp only [Pt.U, Pt.locs, Pt.cells, Pt.slots] at X1 l1 y1 z1 st hQ
  subst l1 y1 z1
  exact ⟨v, T1, T1.heap, Lc, X1, rfl, hQ, fun t k => st.trans k⟩
theorem callVi (X : Stand p l e R s m args below meth c T locs cells slots) (hx : p.tables.exec = Jvm.exec) (hZ : Z.Warmed39 s.vm) {own C : String} {index : Nat} {y : MethodName} {bytes : ByteArray} {maxL : Nat} {ret : Option FieldType} {rm : Room} {W : Nat} {Q : Option Value → Heap → List Loc → Prop} {argsL rest : List Value}
    (hown : s.vm.findClass own = some m.cls) (w1 : (Jvm.Cond.methodLink own index y).before a0 Z = true) (wd : (Jvm.Cond.declares y).before a0 Z = true) (ws : (Jvm.Cond.selects C y y).before a0 Z = true) (w2 : (Jvm.Cond.instanceMethod y).before a0 Z = true) (w3 : (Jvm.Cond.initialized y.cls).before a0 Z = true) (w4 : (Jvm.Cond.code y bytes maxL ret).before a0 Z = true) (hy : y.cls ≠ "java/lang/invoke/MethodHandle" ∧ y.cls ≠ "java/lang/invoke/VarHandle")
    (eT : T.heap = h) (E : Exa Z h a C) (hM : Con l Z y bytes maxL ret [] rm (.ref a :: argsL).toArray h Q) (hf : rm.frames + 1 ≤ R.frames) (hl : W + (maxL + 11) + rm.locals ≤ R.locals) {sig : MethodDescriptor} (hpd : parseMethodDescriptor y.desc = some sig) (hlen : argsL.length = sig.parameters.length)
    {g : JFrame} (hg : g.method = m) (hsize : g.locals.size = c.maxLocals) (hstack : g.stack = argsL.reverse ++ .ref a :: rest) (hW : 2 * g.monitorRoom + (rest.map fun v => v.category).sum ≤ W) (hdg : decode c.code g.pc = .ok (.invokevirtual index, 3)) (hc : cells + rm.cells ≤ R.cells) (hs : slots + rm.slots ≤ R.slots) :
    ∃ (v : Option Value) (T' : State) (h' : Heap) (L : List Loc), Stand p l e R s m args below meth c T' (locs ++ L) (cells + rm.cells) (slots + rm.slots) ∧ T'.heap = h' ∧ Q v h' L ∧ ∀ t, Steps p.tables e below (T'.setTop { g with pc := g.pc + 3, stack := v.toList ++ rest }) t → Steps p.tables e below (T.setTop g) t := by
  obtain ⟨cB, kB, q1, q2, q3⟩ := isOf hZ eT E
  obtain ⟨v, _, ⟨T1, L1, k1, n1⟩, -, X1, ⟨Lc, hQ, l1, y1, z1⟩, st⟩ := X.virtualBack hx (y := y) (z := y) hown (mvT hZ w1) (mvT hZ wd) (notFace_of_selects (args := #[]) (mvT hZ ws)) (mvT hZ ws) (mvT hZ w2) hy (backOf (W := W) (Z := Z) (a0 := a0) (h := h) hM hZ w4 w3 hf hl) q1 q3 (g := g) hg hsize (Steps.refl _) (argsL := argsL) (rest := rest) (fun sg q => by rw [hpd] at q; cases q; exact hlen) hstack hW hdg (fun _ _ => ⟨rfl, eT, hc, hs⟩)
  dsimp only [Pt.U, Pt.locs, Pt.cells, Pt.slots] at X1 l1 y1 z1 st hQ
  subst l1 y1 z1
  exact ⟨v, T1, T1.heap, Lc, X1, rfl, hQ, fun t k => st.trans k⟩
theorem callPr (X : Stand p l e R s m args below meth c T locs cells slots) (hx : p.tables.exec = Jvm.exec) (hZ : Z.Warmed39 s.vm) {own : String} {index ni : Nat} {y : MethodName} {bytes : ByteArray} {maxL : Nat} {ret : Option FieldType} {rm : Room} {W : Nat} {Q : Option Value → Heap → List Loc → Prop} {argsL rest : List Value}
    (hown : s.vm.findClass own = some m.cls) (w1 : (Jvm.Cond.methodLink own index y).before a0 Z = true) (w2 : (Jvm.Cond.instanceMethod y).before a0 Z = true) (wi : (Jvm.Cond.instantiable y.cls ni).before a0 Z = true) (wp : (Jvm.Cond.privateMethod y).before a0 Z = true) (w3 : (Jvm.Cond.initialized y.cls).before a0 Z = true) (w4 : (Jvm.Cond.code y bytes maxL ret).before a0 Z = true) (hy : y.cls ≠ "java/lang/invoke/MethodHandle" ∧ y.cls ≠ "java/lang/invoke/VarHandle")
    (eT : T.heap = h) {C : String} (E : Exa Z h a C) (hM : Con l Z y bytes maxL ret [] rm (.ref a :: argsL).toArray h Q) (hf : rm.frames + 1 ≤ R.frames) (hl : W + (maxL + 11) + rm.locals ≤ R.locals) {sig : MethodDescriptor} (hpd : parseMethodDescriptor y.desc = some sig) (hlen : argsL.length = sig.parameters.length)
    {g : JFrame} (hg : g.method = m) (hsize : g.locals.size = c.maxLocals) (hstack : g.stack = argsL.reverse ++ .ref a :: rest) (hW : 2 * g.monitorRoom + (rest.map fun v => v.category).sum ≤ W) (hdg : decode c.code g.pc = .ok (.invokevirtual index, 3)) (hc : cells + rm.cells ≤ R.cells) (hs : slots + rm.slots ≤ R.slots) :
    ∃ (v : Option Value) (T' : State) (h' : Heap) (L : List Loc), Stand p l e R s m args below meth c T' (locs ++ L) (cells + rm.cells) (slots + rm.slots) ∧ T'.heap = h' ∧ Q v h' L ∧ ∀ t, Steps p.tables e below (T'.setTop { g with pc := g.pc + 3, stack := v.toList ++ rest }) t → Steps p.tables e below (T.setTop g) t := by
  obtain ⟨cell, q1, q2⟩ := E.cell
  have wi' : (Jvm.Cond.instantiable y.cls ni).before args s = true := mvT hZ wi
  obtain ⟨cI, kI, i1, i2, i3, i4, -⟩ := Cond.instantiable_spec wi'
  have i5 : kI.isInterface = false := by cases hq : kI.isInterface <;> simp [hq] at i4 ⊢
  have hpriv : s.PrivateAt y := Cond.privateMethod_at (mvP hZ wp (args := args))
  have hinst : (Jvm.Cond.instanceMethod y).before args s = true := mvT hZ w2
  obtain ⟨v, _, ⟨T1, L1, k1, n1⟩, -, X1, ⟨Lc, hQ, l1, y1, z1⟩, st⟩ := X.privateBack hx (y := y) hown (mvT hZ w1) hinst (selects_self_of_private i1 i2 i5 hpriv hinst hy) hpriv (mvT hZ w4) hy (backOf (W := W) (Z := Z) (a0 := a0) (h := h) hM hZ w4 w3 hf hl) (g := g) hg hsize (Steps.refl _) (a := a) (cell := cell) (by rw [eT]; exact q1) q2 (argsL := argsL) (rest := rest) (fun sg q => by rw [hpd] at q; cases q; exact hlen) hstack hW hdg (fun _ _ => ⟨rfl, eT, hc, hs⟩)
  dsimp only [Pt.U, Pt.locs, Pt.cells, Pt.slots] at X1 l1 y1 z1 st hQ
  subst l1 y1 z1
  exact ⟨v, T1, T1.heap, Lc, X1, rfl, hQ, fun t k => st.trans k⟩
/-! arrays of ints, bytes, .. by the list of what they hold -/
def Ai (Z : State) (h : Heap) (a : Addr) (ty : FieldType) (xs : List Int32) : Prop := ∃ (k : ClassId) (z : Int32), Arv Z h a k ty z (xs.map Value.int) (.int 0) ∧ z.toNatClampNeg = xs.length
theorem Ai.lt (A : Ai Z h a ty xs) : a < h.size := by obtain ⟨_, _, q, -⟩ := A; exact q.lt
theorem Ai.ext (A : Ai Z h a ty xs) (E : Ext h h') : Ai Z h' a ty xs := by obtain ⟨k, z, q, r⟩ := A; exact ⟨k, z, q.ext E, r⟩
theorem Ai.other {sl : Nat} {v : Value} (A : Ai Z h a ty xs) (W : Wr h h' b sl v) (ne : a ≠ b) : Ai Z h' a ty xs := by obtain ⟨k, z, q, r⟩ := A; exact ⟨k, z, q.other W ne, r⟩
theorem Ai.keep {ws : List Addr} (A : Ai Z h a ty xs) (K : Keep h h' ws) (nin : a ∉ ws) : Ai Z h' a ty xs := by obtain ⟨k, z, q, r⟩ := A; exact ⟨k, z, q.keep K nin, r⟩
theorem Ai.len (A : Ai Z h a ty xs) : xs.length < 2 ^ 31 := by
  obtain ⟨k, z, ⟨c, -, -, -, hz, -⟩, r⟩ := A
  rw [← r]; exact (back32 hz).2
theorem Ai.open (A : Ai Z h a ty xs) : ∃ c : Cell, Arr Z h a c ty ∧ c.slots.size = xs.length ∧ ∀ (i : Nat) (v : Int32), xs[i]? = some v → c.slots[i]? = some (.int v) := by
  obtain ⟨k, z, ⟨c, A, q1, S, q3, H, G⟩, r⟩ := A
  refine ⟨c, A, S.trans r, fun i v hv => ?_⟩
  have hi : i < xs.length := (List.getElem?_eq_some_iff.mp hv).1
  rw [H i (by rw [S, r]; exact hi)]
  simp [List.getD_eq_getElem?_getD, hv]
theorem Ai.fitsOf {i : Nat} {v : Int32} (A : Ai Z h a ty xs) (hv : xs[i]? = some v) : fits ty (.int v) = true := by
  obtain ⟨k, z, ⟨c, A, q1, S, q3, H, G⟩, r⟩ := A
  have hi : i < xs.length := (List.getElem?_eq_some_iff.mp hv).1
  have := G i (by rw [S, r]; exact hi)
  simpa [List.getD_eq_getElem?_getD, hv] using this
theorem own_in {n : Nat} {j : Int32} (hj : ¬ j < 0) (hi : j.toNatClampNeg < n) : ¬ (j < 0 ∨ n ≤ j.toNatClampNeg) := fun q => q.elim hj fun r => absurd hi (Nat.not_lt.mpr r)
theorem Ai.load (A : Ai Z h a .int xs) (X : Stand p l e R s m args below meth c T locs cells slots) (hx : p.tables.exec = Jvm.exec) (hZ : Z.Warmed39 s.vm) (eT : T.heap = h) {j v : Int32} (hj : ¬ j < 0) (hv : xs[j.toNatClampNeg]? = some v) {g : JFrame} (hg : g.method = m) {rest : List Value} (hs : g.stack = .int j :: .ref a :: rest) (hd : decode c.code g.pc = .ok (.iaload, 1)) :
    ∀ t, Steps p.tables e below (T.setTop { g with pc := g.pc + 1, stack := .int v :: rest }) t → Steps p.tables e below (T.setTop g) t := by
  obtain ⟨cl, Ar, S, H⟩ := A.open
  exact fun t k => X.iaload hx (j := j) (v := .int v) (by rw [eT]; exact Ar.1) (State.isArrayOf_alike hZ.alike Ar.2.1) Ar.2.2 (own_in hj (by rw [S]; exact (List.getElem?_eq_some_iff.mp hv).1)) (H _ _ hv) hg hs hd t k
theorem Ai.bload (A : Ai Z h a .byte xs) (X : Stand p l e R s m args below meth c T locs cells slots) (hx : p.tables.exec = Jvm.exec) (hZ : Z.Warmed39 s.vm) (eT : T.heap = h) {j v : Int32} (hj : ¬ j < 0) (hv : xs[j.toNatClampNeg]? = some v) {g : JFrame} (hg : g.method = m) {rest : List Value} (hs : g.stack = .int j :: .ref a :: rest) (hd : decode c.code g.pc = .ok (.baload, 1)) :
    ∀ t, Steps p.tables e below (T.setTop { g with pc := g.pc + 1, stack := .int v :: rest }) t → Steps p.tables e below (T.setTop g) t := by
  obtain ⟨cl, Ar, S, H⟩ := A.open
  exact fun t k => X.baloadBytes hx (j := j) (v := .int v) (by rw [eT]; exact Ar.1) (State.isArrayOf_alike hZ.alike Ar.2.1) Ar.2.2 (own_in hj (by rw [S]; exact (List.getElem?_eq_some_iff.mp hv).1)) (H _ _ hv) hg hs hd t k
theorem Ai.length (A : Ai Z h a ty xs) (X : Stand p l e R s m args below meth c T locs cells slots) (hx : p.tables.exec = Jvm.exec) (hZ : Z.Warmed39 s.vm) (eT : T.heap = h) {n : Int32} (hn : xs.length.toInt32 = n) {g : JFrame} (hg : g.method = m) {rest : List Value} (hs : g.stack = .ref a :: rest) (hd : decode c.code g.pc = .ok (.arraylength, 1)) :
    ∀ t, Steps p.tables e below (T.setTop { g with pc := g.pc + 1, stack := .int n :: rest }) t → Steps p.tables e below (T.setTop g) t := by
  obtain ⟨cl, Ar, S, H⟩ := A.open
  subst hn
  rw [← S]
  exact fun t k => X.arraylength hx (by rw [eT]; exact Ar.1) (State.isArrayOf_alike hZ.alike Ar.2.1) hg hs hd t k
theorem Ai.set {j v : Int32} (A : Ai Z h a ty xs) (hf : fits ty (.int v) = true) (W : Wr h h' a j.toNatClampNeg (.int v)) (hi : j.toNatClampNeg < xs.length) : Ai Z h' a ty (xs.set j.toNatClampNeg v) := by
  obtain ⟨k, z, ⟨c, A, q1, S, q3, H, G⟩, r⟩ := A
  refine ⟨k, z, ?_, by simpa using r⟩
  rw [List.map_set]
  exact Arv.set A q1 S q3 H G hf W j.toNatClampNeg rfl (by simpa using hi)
theorem Ai.store (A : Ai Z h a .int xs) (X : Stand p l e R s m args below meth c T locs cells slots) (hx : p.tables.exec = Jvm.exec) (hZ : Z.Warmed39 s.vm) (eT : T.heap = h) {j v : Int32} (hj : ¬ j < 0) (hi : j.toNatClampNeg < xs.length) {g : JFrame} (hg : g.method = m) {rest : List Value} (hs : g.stack = .int v :: .int j :: .ref a :: rest) (hd : decode c.code g.pc = .ok (.iastore, 1)) :
    ∃ T' h', Stand p l e R s m args below meth c T' (locs ++ [⟨a, j.toNatClampNeg⟩]) cells slots ∧ T'.heap = h' ∧ Wr h h' a j.toNatClampNeg (.int v) ∧ Ai Z h' a .int (xs.set j.toNatClampNeg v) ∧
      ∀ t, Steps p.tables e below (T'.setTop { g with pc := g.pc + 1, stack := rest }) t → Steps p.tables e below (T.setTop g) t := by
  obtain ⟨cl, Ar, S, H⟩ := A.open
  obtain ⟨T', h', X', e', W, st⟩ := stI X hx hZ eT Ar (j := j) (own_in hj (by rw [S]; exact hi)) hg hs hd
  exact ⟨T', h', X', e', W, A.set rfl W hi, st⟩
theorem Ai.bstore (A : Ai Z h a .byte xs) (X : Stand p l e R s m args below meth c T locs cells slots) (hx : p.tables.exec = Jvm.exec) (hZ : Z.Warmed39 s.vm) (eT : T.heap = h) {j v : Int32} (hj : ¬ j < 0) (hi : j.toNatClampNeg < xs.length) {g : JFrame} (hg : g.method = m) {rest : List Value} (hs : g.stack = .int v :: .int j :: .ref a :: rest) (hd : decode c.code g.pc = .ok (.bastore, 1)) :
    ∃ T' h', Stand p l e R s m args below meth c T' (locs ++ [⟨a, j.toNatClampNeg⟩]) cells slots ∧ T'.heap = h' ∧ Wr h h' a j.toNatClampNeg (.int v.toInt8.toInt32) ∧ Ai Z h' a .byte (xs.set j.toNatClampNeg v.toInt8.toInt32) ∧
      ∀ t, Steps p.tables e below (T'.setTop { g with pc := g.pc + 1, stack := rest }) t → Steps p.tables e below (T.setTop g) t := by
  obtain ⟨cl, Ar, S, H⟩ := A.open
  obtain ⟨T', h', X', e', W, st⟩ := stB X hx hZ eT Ar (j := j) (own_in hj (by rw [S]; exact hi)) hg hs hd
  exact ⟨T', h', X', e', W, A.set (fits_nar_byte v) W hi, st⟩
theorem Ai.new (X : Stand p l e R s m args below meth c T locs cells slots) (hx : p.tables.exec = Jvm.exec) (hZ : Z.Warmed39 s.vm) {aty : ArrayType} (w : (Jvm.Cond.arrayClass (newarray.typeOf aty)).before a0 Z = true) (hdef : defaultValue (newarray.typeOf aty) = .int 0) (eT : T.heap = h) {n : Int32} (hn : ¬ n < 0) (cap : Nat) (hcap : n.toNatClampNeg ≤ cap) (hb : cap * 8 ≤ 536870912) (hc : cells + 1 ≤ R.cells) (hl : slots + cap ≤ R.slots)
    {g : JFrame} (hg : g.method = m) {rest : List Value} (hs : g.stack = .int n :: rest) (hd : decode c.code g.pc = .ok (.newarray aty, 2)) :
    ∃ T' h' b, Stand p l e R s m args below meth c T' locs (cells + 1) (slots + cap) ∧ T'.heap = h' ∧ b = h.size ∧ Ext h h' ∧ Ai Z h' b (newarray.typeOf aty) (List.replicate n.toNatClampNeg 0) ∧
      ∀ t, Steps p.tables e below (T'.setTop { g with pc := g.pc + 2, stack := .ref b :: rest }) t → Steps p.tables e below (T.setTop g) t := by
  obtain ⟨T', h', k, X', e', E, A, st⟩ := newP X hx hZ w eT (g := g) hg hd hs hn hcap hb hc hl
  refine ⟨T', h', _, X', e', rfl, E, ⟨k, n, ?_, by simp⟩, st⟩
  have V := Arv.new A hn
  rw [hdef] at V
  rw [List.map_replicate]
  exact V.pad (pad_rep [] (.int 0) n.toNatClampNeg)
theorem Ai.newE (X : Stand p l e R s m args below meth c T locs cells slots) (hx : p.tables.exec = Jvm.exec) (hZ : Z.Warmed39 s.vm) {aty : ArrayType} (w : (Jvm.Cond.arrayClass (newarray.typeOf aty)).before a0 Z = true) (hdef : defaultValue (newarray.typeOf aty) = .int 0) (eT : T.heap = h) {n : Int32} (hn : ¬ n < 0) (cap : Nat) (hcap : n.toNatClampNeg ≤ cap) (hb : cap * 8 ≤ 536870912) (hc : cells + 1 ≤ R.cells) (hl : slots + cap ≤ R.slots) {ad : String} (had : "[" ++ (newarray.typeOf aty).toString = ad)
    {g : JFrame} (hg : g.method = m) {rest : List Value} (hs : g.stack = .int n :: rest) (hd : decode c.code g.pc = .ok (.newarray aty, 2)) :
    ∃ T' h' b, Stand p l e R s m args below meth c T' locs (cells + 1) (slots + cap) ∧ T'.heap = h' ∧ b = h.size ∧ Ext h h' ∧ Ai Z h' b (newarray.typeOf aty) (List.replicate n.toNatClampNeg 0) ∧ Exa Z h' b ad ∧
      ∀ t, Steps p.tables e below (T'.setTop { g with pc := g.pc + 2, stack := .ref b :: rest }) t → Steps p.tables e below (T.setTop g) t := by
  obtain ⟨T', h', k, X', e', E, A, Ex, st⟩ := newPE X hx hZ w eT (g := g) hg hd hs hn hcap hb hc hl had
  refine ⟨T', h', _, X', e', rfl, E, ⟨k, n, ?_, by simp⟩, Ex, st⟩
  have V := Arv.new A hn
  rw [hdef] at V
  rw [List.map_replicate]
  exact V.pad (pad_rep [] (.int 0) n.toNatClampNeg)
theorem Ai.copy (X : Stand p l e R s m args below meth c T locs cells slots) (hx : p.tables.exec = Jvm.exec) (hZ : Z.Warmed39 s.vm) {own : String} {index : Nat} (hown : s.vm.findClass own = some m.cls)
    (w1 : (Jvm.Cond.methodLink own index Jvm.Stand.acN).before a0 Z = true) (w2 : (Jvm.Cond.native Jvm.Stand.acN).before a0 Z = true) (w3 : (Jvm.Cond.static Jvm.Stand.acN).before a0 Z = true) (w4 : (Jvm.Cond.initialized "java/lang/System").before a0 Z = true) (eT : T.heap = h)
    {sp dp nn : Int32} (A : Ai Z h a ty xs) (B : Ai Z h b ty ys) (hty : refKind ty = false) (h1 : ¬ sp < 0) (h2 : ¬ dp < 0) (h3 : ¬ nn < 0) (h4 : sp.toNatClampNeg + nn.toNatClampNeg ≤ xs.length) (h5 : dp.toNatClampNeg + nn.toNatClampNeg ≤ ys.length) {n0 : Nat} (N : Fr n0 locs) (ge : n0 ≤ b)
    {g : JFrame} (hg : g.method = m) (hsize : g.locals.size = c.maxLocals) {rest : List Value} (hs : g.stack = .int nn :: .int dp :: .ref b :: .int sp :: .ref a :: rest) (hd : decode c.code g.pc = .ok (.invokestatic index, 3))
    (hf : 1 ≤ R.frames) {W : Nat} (hW : 2 * g.monitorRoom + (rest.map fun v => v.category).sum ≤ W) (hlo : W + (nativeFrameWords "java/lang/System" "arraycopy" 5 + 11) ≤ R.locals) :
    ∃ T' h' L, Stand p l e R s m args below meth c T' L cells slots ∧ T'.heap = h' ∧ Fr n0 L ∧ Keep h h' [b] ∧ Ai Z h' b ty (ys.take dp.toNatClampNeg ++ (xs.drop sp.toNatClampNeg).take nn.toNatClampNeg ++ ys.drop (dp.toNatClampNeg + nn.toNatClampNeg)) ∧
      ∀ t, Steps p.tables e below (T'.setTop { g with pc := g.pc + 3, stack := rest }) t → Steps p.tables e below (T.setTop g) t := by
  obtain ⟨k, z, A, r⟩ := A
  obtain ⟨k', z', B, r'⟩ := B
  obtain ⟨T', h', L, X', e', N', K, V, st⟩ := cpA X hx hZ hown w1 w2 w3 w4 eT A B (Or.inl ⟨rfl, hty⟩) h1 h2 h3 (by rw [r]; exact h4) (by rw [r']; exact h5) rfl (by simpa using h5) N ge hg hsize hs hd hf hW hlo
  refine ⟨T', h', L, X', e', N', K, ⟨k', z', ?_, ?_⟩, st⟩
  · have q : (List.range nn.toNatClampNeg).map (fun i => (xs.map Value.int).getD (sp.toNatClampNeg + i) (.int 0)) = ((xs.drop sp.toNatClampNeg).take nn.toNatClampNeg).map Value.int := by
      apply List.ext_getElem?
      intro i
      by_cases hi : i < nn.toNatClampNeg
      · have h6 : sp.toNatClampNeg + i < xs.length := by omega
        simp [List.getElem?_take, hi, h6, List.getD_eq_getElem?_getD]
      · simp [List.getElem?_take, hi]
    rw [q] at V
    simpa [List.map_append, List.map_take, List.map_drop] using V
  · rw [r']; simp; omega
/-! arrays of longs -/
def Al (Z : State) (h : Heap) (a : Addr) (ls : List Int64) : Prop := ∃ (k : ClassId) (z : Int32), Arv Z h a k .long z (ls.map Value.long) (.long 0) ∧ z.toNatClampNeg = ls.length
theorem Al.lt (A : Al Z h a ls) : a < h.size := by obtain ⟨_, _, q, -⟩ := A; exact q.lt
theorem Al.ext (A : Al Z h a ls) (E : Ext h h') : Al Z h' a ls := by obtain ⟨k, z, q, r⟩ := A; exact ⟨k, z, q.ext E, r⟩
theorem Al.other {sl : Nat} {v : Value} (A : Al Z h a ls) (W : Wr h h' b sl v) (ne : a ≠ b) : Al Z h' a ls := by obtain ⟨k, z, q, r⟩ := A; exact ⟨k, z, q.other W ne, r⟩
theorem Al.keep {ws : List Addr} (A : Al Z h a ls) (K : Keep h h' ws) (nin : a ∉ ws) : Al Z h' a ls := by obtain ⟨k, z, q, r⟩ := A; exact ⟨k, z, q.keep K nin, r⟩
theorem Al.len (A : Al Z h a ls) : ls.length < 2 ^ 31 := by
  obtain ⟨k, z, ⟨c, -, -, -, hz, -⟩, r⟩ := A
  rw [← r]; exact (back32 hz).2
theorem Al.open (A : Al Z h a ls) : ∃ c : Cell, Arr Z h a c .long ∧ c.slots.size = ls.length ∧ ∀ (i : Nat) (v : Int64), ls[i]? = some v → c.slots[i]? = some (.long v) := by
  obtain ⟨k, z, ⟨c, A, q1, S, q3, H, G⟩, r⟩ := A
  refine ⟨c, A, S.trans r, fun i v hv => ?_⟩
  have hi : i < ls.length := (List.getElem?_eq_some_iff.mp hv).1
  rw [H i (by rw [S, r]; exact hi)]
  simp [List.getD_eq_getElem?_getD, hv]
theorem Al.load (A : Al Z h a ls) (X : Stand p l e R s m args below meth c T locs cells slots) (hx : p.tables.exec = Jvm.exec) (hZ : Z.Warmed39 s.vm) (eT : T.heap = h) {j : Int32} {v : Int64} (hj : ¬ j < 0) (hv : ls[j.toNatClampNeg]? = some v) {g : JFrame} (hg : g.method = m) {rest : List Value} (hs : g.stack = .int j :: .ref a :: rest) (hd : decode c.code g.pc = .ok (.laload, 1)) :
    ∀ t, Steps p.tables e below (T.setTop { g with pc := g.pc + 1, stack := .long v :: rest }) t → Steps p.tables e below (T.setTop g) t := by
  obtain ⟨cl, Ar, S, H⟩ := A.open
  exact fun t k => X.laload hx (j := j) (v := .long v) (by rw [eT]; exact Ar.1) (State.isArrayOf_alike hZ.alike Ar.2.1) Ar.2.2 (own_in hj (by rw [S]; exact (List.getElem?_eq_some_iff.mp hv).1)) (H _ _ hv) hg hs hd t k
theorem Al.length (A : Al Z h a ls) (X : Stand p l e R s m args below meth c T locs cells slots) (hx : p.tables.exec = Jvm.exec) (hZ : Z.Warmed39 s.vm) (eT : T.heap = h) {n : Int32} (hn : ls.length.toInt32 = n) {g : JFrame} (hg : g.method = m) {rest : List Value} (hs : g.stack = .ref a :: rest) (hd : decode c.code g.pc = .ok (.arraylength, 1)) :
    ∀ t, Steps p.tables e below (T.setTop { g with pc := g.pc + 1, stack := .int n :: rest }) t → Steps p.tables e below (T.setTop g) t := by
  obtain ⟨cl, Ar, S, H⟩ := A.open
  subst hn
  rw [← S]
  exact fun t k => X.arraylength hx (by rw [eT]; exact Ar.1) (State.isArrayOf_alike hZ.alike Ar.2.1) hg hs hd t k
theorem Al.store (A : Al Z h a ls) (X : Stand p l e R s m args below meth c T locs cells slots) (hx : p.tables.exec = Jvm.exec) (hZ : Z.Warmed39 s.vm) (eT : T.heap = h) {j : Int32} {v : Int64} (hj : ¬ j < 0) (hi : j.toNatClampNeg < ls.length) {g : JFrame} (hg : g.method = m) {rest : List Value} (hs : g.stack = .long v :: .int j :: .ref a :: rest) (hd : decode c.code g.pc = .ok (.lastore, 1)) :
    ∃ T' h', Stand p l e R s m args below meth c T' (locs ++ [⟨a, j.toNatClampNeg⟩]) cells slots ∧ T'.heap = h' ∧ Wr h h' a j.toNatClampNeg (.long v) ∧ Al Z h' a (ls.set j.toNatClampNeg v) ∧
      ∀ t, Steps p.tables e below (T'.setTop { g with pc := g.pc + 1, stack := rest }) t → Steps p.tables e below (T.setTop g) t := by
  obtain ⟨cl, Ar, S, H⟩ := A.open
  obtain ⟨T', h', X', e', W, st⟩ := stJ X hx hZ eT Ar (j := j) (own_in hj (by rw [S]; exact hi)) hg hs hd
  refine ⟨T', h', X', e', W, ?_, st⟩
  obtain ⟨k, z, ⟨c, A, q1, S, q3, H, G⟩, r⟩ := A
  refine ⟨k, z, ?_, by simpa using r⟩
  rw [List.map_set]
  exact Arv.set A q1 S q3 H G rfl W j.toNatClampNeg rfl (by simpa using hi)
theorem Al.new (X : Stand p l e R s m args below meth c T locs cells slots) (hx : p.tables.exec = Jvm.exec) (hZ : Z.Warmed39 s.vm) {aty : ArrayType} (w : (Jvm.Cond.arrayClass (newarray.typeOf aty)).before a0 Z = true) (hdef : aty = .long) (eT : T.heap = h) {n : Int32} (hn : ¬ n < 0) (cap : Nat) (hcap : n.toNatClampNeg ≤ cap) (hb : cap * 8 ≤ 536870912) (hc : cells + 1 ≤ R.cells) (hl : slots + cap ≤ R.slots)
    {g : JFrame} (hg : g.method = m) {rest : List Value} (hs : g.stack = .int n :: rest) (hd : decode c.code g.pc = .ok (.newarray aty, 2)) :
    ∃ T' h' b, Stand p l e R s m args below meth c T' locs (cells + 1) (slots + cap) ∧ T'.heap = h' ∧ b = h.size ∧ Ext h h' ∧ Al Z h' b (List.replicate n.toNatClampNeg 0) ∧
      ∀ t, Steps p.tables e below (T'.setTop { g with pc := g.pc + 2, stack := .ref b :: rest }) t → Steps p.tables e below (T.setTop g) t := by
  obtain ⟨T', h', k, X', e', E, A, st⟩ := newP X hx hZ w eT (g := g) hg hd hs hn hcap hb hc hl
  subst hdef
  refine ⟨T', h', _, X', e', rfl, E, ⟨k, n, ?_, by simp⟩, st⟩
  have V := Arv.new A hn
  rw [List.map_replicate]
  exact V.pad (pad_rep [] (.long 0) n.toNatClampNeg)
theorem own_if1 {P : Prop} [Decidable P] (h : P) : ¬ ((if P then (1 : Int32) else (0 : Int32)) = 0) := by rw [if_pos h]; decide
theorem own_if0 {P : Prop} [Decidable P] (h : ¬ P) : (if P then (1 : Int32) else (0 : Int32)) = 0 := if_neg h
theorem own_ifc {P Q : Prop} [Decidable P] [Decidable Q] (h : P ↔ Q) : (if P then (1 : Int32) else (0 : Int32)) = (if Q then (1 : Int32) else (0 : Int32)) := by
  by_cases p : P
  · rw [if_pos p, if_pos (h.mp p)]
  · rw [if_neg p, if_neg (fun q => p (h.mpr q))]
theorem own_narI {P : Prop} [Decidable P] : nar .boolean (if P then (1 : Int32) else (0 : Int32)) = (if P then (1 : Int32) else (0 : Int32)) := by
  by_cases p : P
  · rw [if_pos p]; rfl
  · rw [if_neg p]; rfl
theorem own_bb (x : Int32) : x.toInt8.toInt32.toInt8.toInt32 = x.toInt8.toInt32 := by simp
end Layer
section Numbers
theorem own_mod (x k : Int32) (hk : 0 < k.toInt) : 0 ≤ ((x &&& (2147483647 : Int32)) % k).toInt ∧ ((x &&& (2147483647 : Int32)) % k).toInt < k.toInt := by
  have h1 := c_and x 2147483647 (by decide)
  have h2 := (c_iremV (x &&& 2147483647) k).1 h1.1 hk
  exact ⟨h2.1, h2.2.1⟩
theorem own_nn {j : Int32} (h : 0 ≤ j.toInt) : ¬ j < 0 := by
  rw [Int32.lt_iff_toInt_lt, show (0 : Int32).toInt = 0 from rfl]; omega
theorem own_nat {j : Int32} {k : Nat} (h : 0 ≤ j.toInt) (h2 : j.toInt < k) : j.toNatClampNeg < k := by
  simp only [Int32.toNatClampNeg]; omega
theorem own_at {xs : List Int32} {i : Nat} (h : i < xs.length) : ∃ v, xs[i]? = some v := ⟨xs[i], List.getElem?_eq_getElem h⟩
end Numbers
theorem own_ti {n : Nat} (h : n < 2147483648) : n.toInt32.toInt = n := len_toInt h
theorem own_tn {n : Nat} (h : n < 2147483648) : n.toInt32.toNatClampNeg = n := by simp only [Int32.toNatClampNeg, own_ti h]; rfl
theorem own_tpos {n : Nat} (h : n < 2147483648) : ¬ n.toInt32 < 0 := by rw [Int32.lt_iff_toInt_lt, own_ti h, show (0 : Int32).toInt = 0 from rfl]; omega
theorem own_t1 (n : Nat) : n.toInt32 + (1 : Int32) = (n + 1).toInt32 := (Int32.ofNat_add n 1).symm
theorem own_tadd (n m : Nat) : n.toInt32 + m.toInt32 = (n + m).toInt32 := (Int32.ofNat_add n m).symm
theorem own_pred (n : Nat) : (n + 1).toInt32 - (1 : Int32) = n.toInt32 := by rw [← own_t1]; exact Int32.add_sub_cancel _ _
theorem own_m1 (x : Int32) : x + (-1 : Int32) = x - (1 : Int32) := (Int32.sub_eq_add_neg x 1).symm
theorem own_tlt {n m : Nat} (hn : n < 2147483648) (hm : m < 2147483648) : n.toInt32 < m.toInt32 ↔ n < m := by rw [Int32.lt_iff_toInt_lt, own_ti hn, own_ti hm]; omega
theorem own_tsub {n m : Nat} (h : m ≤ n) : n.toInt32 - m.toInt32 = (n - m).toInt32 := by
  have e : n = (n - m) + m := by omega
  conv => lhs; rw [e]
  rw [← own_tadd]; exact Int32.add_sub_cancel _ _
theorem own_natI {j : Int32} (h : 0 ≤ j.toInt) : ∃ n : Nat, j = n.toInt32 ∧ (n : Int) = j.toInt := ⟨j.toNatClampNeg, (back32 (own_nn h)).1.symm, by simp only [Int32.toNatClampNeg]; omega⟩
/-- m values B 0, B 1, .. written from the place a on -/
def own_W (xs : List Int32) (a : Nat) (B : Nat → Int32) (m : Nat) (ys : List Int32) : Prop := ys.length = xs.length ∧ ∀ j, ys[j]? = if a ≤ j ∧ j < a + m then some (B (j - a)) else xs[j]?
theorem own_W.zero (xs : List Int32) (a : Nat) (B : Nat → Int32) : own_W xs a B 0 xs := ⟨rfl, fun j => by rw [if_neg (by omega)]⟩
theorem own_W.step {xs ys : List Int32} {a m : Nat} {B : Nat → Int32} (h : own_W xs a B m ys) (hl : a + m < xs.length) : own_W xs a B (m + 1) (ys.set (a + m) (B m)) := by
  refine ⟨by rw [List.length_set]; exact h.1, fun j => ?_⟩
  rw [List.getElem?_set]
  by_cases e : a + m = j
  · subst e
    rw [if_pos rfl, if_pos (by rw [h.1]; exact hl), if_pos (by omega), Nat.add_sub_cancel_left]
  · rw [if_neg e, h.2 j]
    by_cases q : a ≤ j ∧ j < a + m
    · rw [if_pos q, if_pos (by omega)]
    · rw [if_neg q, if_neg (by omega)]
/-- an order of nodes: short, each a place, each once -/
def own_ok (os : List Int32) : Prop := os.length ≤ 4 ∧ (∀ (i : Nat) (x : Int32), os[i]? = some x → ¬ x < 0 ∧ x.toNatClampNeg < os.length) ∧ ∀ (i j : Nat) (x : Int32), os[i]? = some x → os[j]? = some x → i = j
/-- the node at place u, -1 beyond the last (by a measure, so that Lean never unfolds it by itself) -/
def own_cur : List Int32 → Nat → Int32
  | [], _ => -1
  | x :: _, 0 => x
  | _ :: xs, n + 1 => own_cur xs n
termination_by _ n => n
theorem own_cure : ∀ (os : List Int32) (u : Nat), own_cur os u = os.getD u (-1)
  | [], u => by rw [own_cur]; rfl
  | x :: xs, 0 => by rw [own_cur]; rfl
  | x :: xs, n + 1 => by rw [own_cur, own_cure xs n]; rfl
theorem own_gd {os : List Int32} {u : Nat} (h : u < os.length) : os[u]? = some (own_cur os u) := by rw [own_cure, List.getD_eq_getElem?_getD, List.getElem?_eq_getElem h]; rfl
theorem own_gdn {os : List Int32} {u : Nat} (h : os.length ≤ u) : own_cur os u = -1 := by rw [own_cure, List.getD_eq_getElem?_getD, List.getElem?_eq_none h]; rfl
/-- the next of each of the first u nodes -/
def own_nx (os ns : List Int32) (u : Nat) : Prop := ns.length = os.length ∧ ∀ (i : Nat), i < u → ∀ y, os[i]? = some y → ns[y.toNatClampNeg]? = some (own_cur os (i + 1))
theorem own_eqn {x y : Int32} (hx : ¬ x < 0) (hy : ¬ y < 0) (h : x.toNatClampNeg = y.toNatClampNeg) : x = y := by rw [← (back32 hx).1, ← (back32 hy).1, h]
theorem own_nx.step {os ns : List Int32} {u : Nat} {x : Int32} (ok : own_ok os) (H : own_nx os ns u) (hx : os[u]? = some x) : own_nx os (ns.set x.toNatClampNeg (own_cur os (u + 1))) (u + 1) := by
  refine ⟨by rw [List.length_set]; exact H.1, fun i hi y hy => ?_⟩
  have bx := ok.2.1 u x hx; have by_ := ok.2.1 i y hy
  rw [List.getElem?_set]
  by_cases e : x.toNatClampNeg = y.toNatClampNeg
  · obtain rfl := own_eqn bx.1 by_.1 e
    obtain rfl := ok.2.2 i u x hy hx
    rw [if_pos rfl, if_pos (by rw [H.1]; exact bx.2)]
  · rw [if_neg e]
    refine H.2 i (Nat.lt_of_le_of_ne (by omega) fun q => ?_) y hy
    subst q; rw [hx] at hy; cases hy; exact e rfl
/-- the position of each of the first u nodes -/
def own_ps (os ps : List Int32) (u : Nat) : Prop := ps.length = os.length ∧ ∀ (i : Nat), i < u → ∀ y, os[i]? = some y → ps[y.toNatClampNeg]? = some i.toInt32
theorem own_ps.step {os ps : List Int32} {u : Nat} {x : Int32} (ok : own_ok os) (H : own_ps os ps u) (hx : os[u]? = some x) : own_ps os (ps.set x.toNatClampNeg u.toInt32) (u + 1) := by
  refine ⟨by rw [List.length_set]; exact H.1, fun i hi y hy => ?_⟩
  have bx := ok.2.1 u x hx; have by_ := ok.2.1 i y hy
  rw [List.getElem?_set]
  by_cases e : x.toNatClampNeg = y.toNatClampNeg
  · obtain rfl := own_eqn bx.1 by_.1 e
    obtain rfl := ok.2.2 i u x hy hx
    rw [if_pos rfl, if_pos (by rw [H.1]; exact bx.2)]
  · rw [if_neg e]
    refine H.2 i (Nat.lt_of_le_of_ne (by omega) fun q => ?_) y hy
    subst q; rw [hx] at hy; cases hy; exact e rfl
/-- a NodeOrder at a with its labels at lb and its next at nx, over the order os -/
def NO (Z : State) (h : Heap) (a lb nx : Addr) (os : List Int32) (ls : List Int64) (ns : List Int32) : Prop := Exa Z h a "io/isoproof/check/polygraph/NodeOrder" ∧ Fld Z h a "io/isoproof/check/polygraph/NodeOrder" "label" "[J" (.ref lb) ∧ Fld Z h a "io/isoproof/check/polygraph/NodeOrder" "next" "[I" (.ref nx) ∧ Fld Z h a "io/isoproof/check/polygraph/NodeOrder" "first" "I" (.int (own_cur os 0)) ∧ Al Z h lb ls ∧ Ai Z h nx .int ns ∧ ls.length = os.length ∧ own_nx os ns os.length
theorem NO.keep {Z : State} {h h' : Heap} {a lb nx : Addr} {os ns : List Int32} {ls : List Int64} {ws : List Addr} (H : NO Z h a lb nx os ls ns) (K : Keep h h' ws) (n : a ∉ ws ∧ lb ∉ ws ∧ nx ∉ ws) : NO Z h' a lb nx os ls ns := ⟨H.1.keep K, H.2.1.keep K n.1, H.2.2.1.keep K n.1, H.2.2.2.1.keep K n.1, H.2.2.2.2.1.keep K n.2.1, H.2.2.2.2.2.1.keep K n.2.2, H.2.2.2.2.2.2⟩
theorem own_getlt {os ns : List Int32} {u : Nat} (H : own_nx os ns os.length) (ok : own_ok os) (h : u < os.length) : ns[(own_cur os u).toNatClampNeg]? = some (own_cur os (u + 1)) := H.2 u h _ (own_gd h)
theorem own_cn {n : Nat} (h : n ≤ 4) : ¬ (n.toInt32 + (1 : Int32)).toInt64 = 0 := by
  rw [own_t1]; intro q
  have q2 := congrArg Int64.toInt q
  rw [c_i2l, own_ti (by omega), show (0 : Int64).toInt = 0 from rfl] at q2; omega
theorem own_Wall {os ys : List Int32} (h : own_W (List.replicate os.length (0 : Int32)) 0 (fun k => own_cur os k) os.length ys) : ys = os := by
  apply List.ext_getElem?
  intro j
  rw [h.2 j]
  by_cases q : j < os.length
  · rw [if_pos (by omega), Nat.sub_zero]; exact (own_gd q).symm
  · rw [if_neg (by omega), List.getElem?_replicate, if_neg q, List.getElem?_eq_none (by omega)]
def own_swap (xs : List Int32) (i j : Nat) : List Int32 := (xs.set i (xs.getD j 0)).set j (xs.getD i 0)
def own_okb (os : List Int32) : Bool := decide (os.length ≤ 4) && (os.all fun x => !decide (x < 0) && decide (x.toNatClampNeg < os.length)) && decide os.Nodup
theorem own_ok_of {os : List Int32} (h : own_okb os = true) : own_ok os := by
  simp only [own_okb, Bool.and_eq_true, decide_eq_true_eq, List.all_eq_true, Bool.not_eq_true', decide_eq_false_iff_not] at h
  obtain ⟨⟨h1, h2⟩, h3⟩ := h
  refine ⟨h1, fun i x hx => h2 x (List.mem_of_getElem? hx), fun i j x hi hj => ?_⟩
  exact (List.getElem?_inj (List.getElem?_eq_some_iff.mp hi).1 h3).mp (hi.trans hj.symm)
theorem own_four {P : List Int32} (h : P.length = 4) : ∃ x0 x1 x2 x3, P = [x0, x1, x2, x3] := by
  match P, h with
  | [x0, x1, x2, x3], _ => exact ⟨x0, x1, x2, x3, rfl⟩
theorem own_swlen (xs : List Int32) (i j : Nat) : (own_swap xs i j).length = xs.length := by simp [own_swap]
theorem own_gd0 {xs : List Int32} {i : Nat} (h : i < xs.length) : xs[i]? = some (xs.getD i 0) := by rw [List.getD_eq_getElem?_getD, List.getElem?_eq_getElem h]; rfl
theorem own_tmod (n k : Nat) (hn : n < 1000) (hk : k < 1000) : n.toInt32 % k.toInt32 = (n % k).toInt32 := by
  apply Int32.toInt_inj.mp
  have : n % k ≤ n := Nat.mod_le _ _
  rw [Int32.toInt_mod, own_ti (by omega), own_ti (by omega), own_ti (by omega), Int.tmod_eq_emod_of_nonneg (by omega)]; rfl
theorem own_tdiv (n k : Nat) (hn : n < 1000) (hk : k < 1000) : n.toInt32 / k.toInt32 = (n / k).toInt32 := by
  apply Int32.toInt_inj.mp
  have : n / k ≤ n := Nat.div_le_self _ _
  rw [Int32.toInt_div_of_ne_right _ _ (by intro q; have q := congrArg Int32.toInt q; rw [own_ti (by omega), show (-1 : Int32).toInt = -1 from rfl] at q; omega), own_ti (by omega), own_ti (by omega), own_ti (by omega), Int.tdiv_eq_ediv_of_nonneg (by omega)]; rfl
theorem own_fil (a b c n : Nat) (ha : a < 4) (hb : b < 3) (hc : c < 2) (hn : n < 5) : own_okb ((own_swap (own_swap (own_swap [0, 1, 2, 3] 0 a) 1 (1 + b)) 2 (2 + c)).filter (fun x => decide (x < n.toInt32))) = true ∧ ((own_swap (own_swap (own_swap [0, 1, 2, 3] 0 a) 1 (1 + b)) 2 (2 + c)).filter (fun x => decide (x < n.toInt32))).length = n := by
  have : ∀ (a : Fin 4) (b : Fin 3) (c : Fin 2) (n : Fin 5), own_okb ((own_swap (own_swap (own_swap [0, 1, 2, 3] 0 a.1) 1 (1 + b.1)) 2 (2 + c.1)).filter (fun x => decide (x < n.1.toInt32))) = true ∧ ((own_swap (own_swap (own_swap [0, 1, 2, 3] 0 a.1) 1 (1 + b.1)) 2 (2 + c.1)).filter (fun x => decide (x < n.1.toInt32))).length = n.1 := by decide +kernel
  exact this ⟨a, ha⟩ ⟨b, hb⟩ ⟨c, hc⟩ ⟨n, hn⟩
theorem own_n5 (x : Int32) : ((x &&& (2147483647 : Int32)) % (5 : Int32)) = 0 ∨ ((x &&& (2147483647 : Int32)) % (5 : Int32)) = 1 ∨ ((x &&& (2147483647 : Int32)) % (5 : Int32)) = 2 ∨ ((x &&& (2147483647 : Int32)) % (5 : Int32)) = 3 ∨ ((x &&& (2147483647 : Int32)) % (5 : Int32)) = 4 := by
  have h := own_mod x 5 (by decide)
  simp only [← Int32.toInt_inj, show (0 : Int32).toInt = 0 from rfl, show (1 : Int32).toInt = 1 from rfl, show (2 : Int32).toInt = 2 from rfl, show (3 : Int32).toInt = 3 from rfl, show (4 : Int32).toInt = 4 from rfl]; rw [show (5 : Int32).toInt = 5 from rfl] at h; omega
theorem w0 {Z : State} {a0 : Array Value} (hw : ∀ d ∈ tables_1, d.before a0 Z = true) : (Jvm.Cond.constant "io/isoproof/check/polygraph/NodeOrderPositionsPinLaw" (7 : Nat) (2147483647 : Int32)).before a0 Z = true := hw _ (List.mem_of_getElem? (i := 0) rfl)
theorem w1 {Z : State} {a0 : Array Value} (hw : ∀ d ∈ tables_1, d.before a0 Z = true) : (Jvm.Cond.arrayClass Jvm.ClassFile.FieldType.int).before a0 Z = true := hw _ (List.mem_of_getElem? (i := 1) rfl)
theorem w2 {Z : State} {a0 : Array Value} (hw : ∀ d ∈ tables_1, d.before a0 Z = true) : (Jvm.Cond.methodLink "io/isoproof/check/polygraph/NodeOrderPositionsPinLaw" (8 : Nat) ({ cls := "io/isoproof/check/polygraph/NodeOrderPositionsPinLaw", name := "swap", desc := "([III)V" } : Jvm.MethodName)).before a0 Z = true := hw _ (List.mem_of_getElem? (i := 2) rfl)
theorem w3 {Z : State} {a0 : Array Value} (hw : ∀ d ∈ tables_1, d.before a0 Z = true) : (Jvm.Cond.static ({ cls := "io/isoproof/check/polygraph/NodeOrderPositionsPinLaw", name := "swap", desc := "([III)V" } : Jvm.MethodName)).before a0 Z = true := hw _ (List.mem_of_getElem? (i := 3) rfl)
theorem w4 {Z : State} {a0 : Array Value} (hw : ∀ d ∈ tables_1, d.before a0 Z = true) : (Jvm.Cond.initialized "io/isoproof/check/polygraph/NodeOrderPositionsPinLaw").before a0 Z = true := hw _ (List.mem_of_getElem? (i := 4) rfl)
theorem w5 {Z : State} {a0 : Array Value} (hw : ∀ d ∈ tables_1, d.before a0 Z = true) : (Jvm.Cond.code ({ cls := "io/isoproof/check/polygraph/NodeOrderPositionsPinLaw", name := "swap", desc := "([III)V" } : Jvm.MethodName) method_2_code (4 : Nat) (Option.none : Option Jvm.ClassFile.FieldType)).before a0 Z = true := hw _ (List.mem_of_getElem? (i := 5) rfl)
theorem w6 {Z : State} {a0 : Array Value} (hw : ∀ d ∈ tables_1, d.before a0 Z = true) : (Jvm.Cond.classLink "io/isoproof/check/polygraph/NodeOrderPositionsPinLaw" (14 : Nat) "io/isoproof/check/polygraph/NodeOrder").before a0 Z = true := hw _ (List.mem_of_getElem? (i := 6) rfl)
theorem w7 {Z : State} {a0 : Array Value} (hw : ∀ d ∈ tables_1, d.before a0 Z = true) : (Jvm.Cond.instantiable "io/isoproof/check/polygraph/NodeOrder" (4 : Nat)).before a0 Z = true := hw _ (List.mem_of_getElem? (i := 7) rfl)
theorem w8 {Z : State} {a0 : Array Value} (hw : ∀ d ∈ tables_1, d.before a0 Z = true) : (Jvm.Cond.initialized "io/isoproof/check/polygraph/NodeOrder").before a0 Z = true := hw _ (List.mem_of_getElem? (i := 8) rfl)
theorem w9 {Z : State} {a0 : Array Value} (hw : ∀ d ∈ tables_1, d.before a0 Z = true) : (Jvm.Cond.methodLink "io/isoproof/check/polygraph/NodeOrderPositionsPinLaw" (16 : Nat) ({ cls := "io/isoproof/check/polygraph/NodeOrder", name := "<init>", desc := "([I)V" } : Jvm.MethodName)).before a0 Z = true := hw _ (List.mem_of_getElem? (i := 9) rfl)
theorem w10 {Z : State} {a0 : Array Value} (hw : ∀ d ∈ tables_1, d.before a0 Z = true) : (Jvm.Cond.instanceMethod ({ cls := "io/isoproof/check/polygraph/NodeOrder", name := "<init>", desc := "([I)V" } : Jvm.MethodName)).before a0 Z = true := hw _ (List.mem_of_getElem? (i := 10) rfl)
theorem w11 {Z : State} {a0 : Array Value} (hw : ∀ d ∈ tables_1, d.before a0 Z = true) : (Jvm.Cond.code ({ cls := "io/isoproof/check/polygraph/NodeOrder", name := "<init>", desc := "([I)V" } : Jvm.MethodName) prog_29_method_1_code (3 : Nat) (Option.none : Option Jvm.ClassFile.FieldType)).before a0 Z = true := hw _ (List.mem_of_getElem? (i := 11) rfl)
theorem w12 {Z : State} {a0 : Array Value} (hw : ∀ d ∈ tables_1, d.before a0 Z = true) : (Jvm.Cond.methodLink "io/isoproof/check/polygraph/NodeOrder" (3 : Nat) ({ cls := "java/lang/Object", name := "<init>", desc := "()V" } : Jvm.MethodName)).before a0 Z = true := hw _ (List.mem_of_getElem? (i := 12) rfl)
theorem w13 {Z : State} {a0 : Array Value} (hw : ∀ d ∈ tables_1, d.before a0 Z = true) : (Jvm.Cond.instanceMethod ({ cls := "java/lang/Object", name := "<init>", desc := "()V" } : Jvm.MethodName)).before a0 Z = true := hw _ (List.mem_of_getElem? (i := 13) rfl)
theorem w14 {Z : State} {a0 : Array Value} (hw : ∀ d ∈ tables_1, d.before a0 Z = true) : (Jvm.Cond.code ({ cls := "java/lang/Object", name := "<init>", desc := "()V" } : Jvm.MethodName) object_method_1_code (1 : Nat) (Option.none : Option Jvm.ClassFile.FieldType)).before a0 Z = true := hw _ (List.mem_of_getElem? (i := 14) rfl)
theorem w15 {Z : State} {a0 : Array Value} (hw : ∀ d ∈ tables_1, d.before a0 Z = true) : (Jvm.Cond.arrayClass Jvm.ClassFile.FieldType.long).before a0 Z = true := hw _ (List.mem_of_getElem? (i := 15) rfl)
theorem w16 {Z : State} {a0 : Array Value} (hw : ∀ d ∈ tables_1, d.before a0 Z = true) : (Jvm.Cond.fieldLink "io/isoproof/check/polygraph/NodeOrder" (9 : Nat) "io/isoproof/check/polygraph/NodeOrder" "label" "[J").before a0 Z = true := hw _ (List.mem_of_getElem? (i := 16) rfl)
theorem w17 {Z : State} {a0 : Array Value} (hw : ∀ d ∈ tables_1, d.before a0 Z = true) : (Jvm.Cond.laysFinal "io/isoproof/check/polygraph/NodeOrder" "io/isoproof/check/polygraph/NodeOrder" "label" "[J").before a0 Z = true := hw _ (List.mem_of_getElem? (i := 17) rfl)
theorem w18 {Z : State} {a0 : Array Value} (hw : ∀ d ∈ tables_1, d.before a0 Z = true) : (Jvm.Cond.fieldLink "io/isoproof/check/polygraph/NodeOrder" (15 : Nat) "io/isoproof/check/polygraph/NodeOrder" "next" "[I").before a0 Z = true := hw _ (List.mem_of_getElem? (i := 18) rfl)
theorem w19 {Z : State} {a0 : Array Value} (hw : ∀ d ∈ tables_1, d.before a0 Z = true) : (Jvm.Cond.laysFinal "io/isoproof/check/polygraph/NodeOrder" "io/isoproof/check/polygraph/NodeOrder" "next" "[I").before a0 Z = true := hw _ (List.mem_of_getElem? (i := 19) rfl)
theorem w20 {Z : State} {a0 : Array Value} (hw : ∀ d ∈ tables_1, d.before a0 Z = true) : (Jvm.Cond.fieldLink "io/isoproof/check/polygraph/NodeOrder" (19 : Nat) "io/isoproof/check/polygraph/NodeOrder" "previous" "[I").before a0 Z = true := hw _ (List.mem_of_getElem? (i := 20) rfl)
theorem w21 {Z : State} {a0 : Array Value} (hw : ∀ d ∈ tables_1, d.before a0 Z = true) : (Jvm.Cond.laysFinal "io/isoproof/check/polygraph/NodeOrder" "io/isoproof/check/polygraph/NodeOrder" "previous" "[I").before a0 Z = true := hw _ (List.mem_of_getElem? (i := 21) rfl)
theorem w22 {Z : State} {a0 : Array Value} (hw : ∀ d ∈ tables_1, d.before a0 Z = true) : (Jvm.Cond.fieldLink "io/isoproof/check/polygraph/NodeOrder" (22 : Nat) "io/isoproof/check/polygraph/NodeOrder" "first" "I").before a0 Z = true := hw _ (List.mem_of_getElem? (i := 22) rfl)
theorem w23 {Z : State} {a0 : Array Value} (hw : ∀ d ∈ tables_1, d.before a0 Z = true) : (Jvm.Cond.lays "io/isoproof/check/polygraph/NodeOrder" "io/isoproof/check/polygraph/NodeOrder" "first" "I").before a0 Z = true := hw _ (List.mem_of_getElem? (i := 23) rfl)
theorem w24 {Z : State} {a0 : Array Value} (hw : ∀ d ∈ tables_1, d.before a0 Z = true) : (Jvm.Cond.methodLink "io/isoproof/check/polygraph/NodeOrder" (26 : Nat) ({ cls := "io/isoproof/check/polygraph/NodeOrder", name := "lastNode", desc := "()I" } : Jvm.MethodName)).before a0 Z = true := hw _ (List.mem_of_getElem? (i := 24) rfl)
theorem w25 {Z : State} {a0 : Array Value} (hw : ∀ d ∈ tables_1, d.before a0 Z = true) : (Jvm.Cond.instanceMethod ({ cls := "io/isoproof/check/polygraph/NodeOrder", name := "lastNode", desc := "()I" } : Jvm.MethodName)).before a0 Z = true := hw _ (List.mem_of_getElem? (i := 25) rfl)
theorem w26 {Z : State} {a0 : Array Value} (hw : ∀ d ∈ tables_1, d.before a0 Z = true) : (Jvm.Cond.privateMethod ({ cls := "io/isoproof/check/polygraph/NodeOrder", name := "lastNode", desc := "()I" } : Jvm.MethodName)).before a0 Z = true := hw _ (List.mem_of_getElem? (i := 26) rfl)
theorem w27 {Z : State} {a0 : Array Value} (hw : ∀ d ∈ tables_1, d.before a0 Z = true) : (Jvm.Cond.code ({ cls := "io/isoproof/check/polygraph/NodeOrder", name := "lastNode", desc := "()I" } : Jvm.MethodName) prog_29_method_13_code (2 : Nat) (Option.some Jvm.ClassFile.FieldType.int)).before a0 Z = true := hw _ (List.mem_of_getElem? (i := 27) rfl)
theorem w28 {Z : State} {a0 : Array Value} (hw : ∀ d ∈ tables_1, d.before a0 Z = true) : (Jvm.Cond.constantLong "io/isoproof/check/polygraph/NodeOrder" (30 : Nat) (4611686018427387903 : Int64)).before a0 Z = true := hw _ (List.mem_of_getElem? (i := 28) rfl)
theorem w29 {Z : State} {a0 : Array Value} (hw : ∀ d ∈ tables_1, d.before a0 Z = true) : (Jvm.Cond.methodLink "io/isoproof/check/polygraph/NodeOrder" (32 : Nat) ({ cls := "io/isoproof/check/polygraph/NodeOrder", name := "relabel", desc := "(IIJJI)V" } : Jvm.MethodName)).before a0 Z = true := hw _ (List.mem_of_getElem? (i := 29) rfl)
theorem w30 {Z : State} {a0 : Array Value} (hw : ∀ d ∈ tables_1, d.before a0 Z = true) : (Jvm.Cond.instanceMethod ({ cls := "io/isoproof/check/polygraph/NodeOrder", name := "relabel", desc := "(IIJJI)V" } : Jvm.MethodName)).before a0 Z = true := hw _ (List.mem_of_getElem? (i := 30) rfl)
theorem w31 {Z : State} {a0 : Array Value} (hw : ∀ d ∈ tables_1, d.before a0 Z = true) : (Jvm.Cond.privateMethod ({ cls := "io/isoproof/check/polygraph/NodeOrder", name := "relabel", desc := "(IIJJI)V" } : Jvm.MethodName)).before a0 Z = true := hw _ (List.mem_of_getElem? (i := 31) rfl)
theorem w32 {Z : State} {a0 : Array Value} (hw : ∀ d ∈ tables_1, d.before a0 Z = true) : (Jvm.Cond.code ({ cls := "io/isoproof/check/polygraph/NodeOrder", name := "relabel", desc := "(IIJJI)V" } : Jvm.MethodName) prog_29_method_11_code (13 : Nat) (Option.none : Option Jvm.ClassFile.FieldType)).before a0 Z = true := hw _ (List.mem_of_getElem? (i := 32) rfl)
theorem w33 {Z : State} {a0 : Array Value} (hw : ∀ d ∈ tables_1, d.before a0 Z = true) : (Jvm.Cond.methodLink "io/isoproof/check/polygraph/NodeOrderPositionsPinLaw" (19 : Nat) ({ cls := "io/isoproof/check/polygraph/NodeOrder", name := "positions", desc := "()[I" } : Jvm.MethodName)).before a0 Z = true := hw _ (List.mem_of_getElem? (i := 33) rfl)
theorem w34 {Z : State} {a0 : Array Value} (hw : ∀ d ∈ tables_1, d.before a0 Z = true) : (Jvm.Cond.declares ({ cls := "io/isoproof/check/polygraph/NodeOrder", name := "positions", desc := "()[I" } : Jvm.MethodName)).before a0 Z = true := hw _ (List.mem_of_getElem? (i := 34) rfl)
theorem w35 {Z : State} {a0 : Array Value} (hw : ∀ d ∈ tables_1, d.before a0 Z = true) : (Jvm.Cond.instanceMethod ({ cls := "io/isoproof/check/polygraph/NodeOrder", name := "positions", desc := "()[I" } : Jvm.MethodName)).before a0 Z = true := hw _ (List.mem_of_getElem? (i := 35) rfl)
theorem w36 {Z : State} {a0 : Array Value} (hw : ∀ d ∈ tables_1, d.before a0 Z = true) : (Jvm.Cond.selects "io/isoproof/check/polygraph/NodeOrder" ({ cls := "io/isoproof/check/polygraph/NodeOrder", name := "positions", desc := "()[I" } : Jvm.MethodName) ({ cls := "io/isoproof/check/polygraph/NodeOrder", name := "positions", desc := "()[I" } : Jvm.MethodName)).before a0 Z = true := hw _ (List.mem_of_getElem? (i := 36) rfl)
theorem w37 {Z : State} {a0 : Array Value} (hw : ∀ d ∈ tables_1, d.before a0 Z = true) : (Jvm.Cond.code ({ cls := "io/isoproof/check/polygraph/NodeOrder", name := "positions", desc := "()[I" } : Jvm.MethodName) prog_29_method_4_code (4 : Nat) (Option.some (Jvm.ClassFile.FieldType.array Jvm.ClassFile.FieldType.int))).before a0 Z = true := hw _ (List.mem_of_getElem? (i := 37) rfl)
theorem w38 {Z : State} {a0 : Array Value} (hw : ∀ d ∈ tables_1, d.before a0 Z = true) : (Jvm.Cond.methodLink "io/isoproof/check/polygraph/NodeOrderPositionsPinLaw" (23 : Nat) ({ cls := "io/isoproof/check/polygraph/NodeOrderPositionsPinLaw", name := "at", desc := "([I[III)Z" } : Jvm.MethodName)).before a0 Z = true := hw _ (List.mem_of_getElem? (i := 38) rfl)
theorem w39 {Z : State} {a0 : Array Value} (hw : ∀ d ∈ tables_1, d.before a0 Z = true) : (Jvm.Cond.static ({ cls := "io/isoproof/check/polygraph/NodeOrderPositionsPinLaw", name := "at", desc := "([I[III)Z" } : Jvm.MethodName)).before a0 Z = true := hw _ (List.mem_of_getElem? (i := 39) rfl)
theorem w40 {Z : State} {a0 : Array Value} (hw : ∀ d ∈ tables_1, d.before a0 Z = true) : (Jvm.Cond.code ({ cls := "io/isoproof/check/polygraph/NodeOrderPositionsPinLaw", name := "at", desc := "([I[III)Z" } : Jvm.MethodName) method_3_code (4 : Nat) (Option.some Jvm.ClassFile.FieldType.boolean)).before a0 Z = true := hw _ (List.mem_of_getElem? (i := 40) rfl)
theorem pd0 : parseMethodDescriptor "()I" = some ⟨[], some .int⟩ := by decide +kernel
theorem pd1 : parseMethodDescriptor "(IIJJI)V" = some ⟨[.int, .int, .long, .long, .int], none⟩ := by decide +kernel
theorem pd2 : parseMethodDescriptor "([I)V" = some ⟨[(.array .int)], none⟩ := by decide +kernel
theorem pd3 : parseMethodDescriptor "()[I" = some ⟨[], some (.array .int)⟩ := by decide +kernel
theorem pd4 : parseMethodDescriptor "([I[III)Z" = some ⟨[(.array .int), (.array .int), .int, .int], some .boolean⟩ := by decide +kernel
theorem pd5 : parseMethodDescriptor "([III)V" = some ⟨[(.array .int), .int, .int], none⟩ := by decide +kernel
theorem pn0 : plainName "io/isoproof/check/polygraph/NodeOrder" = true := by first | (simp [plainName, overriddenIn]; done) | decide +kernel
theorem pn1 : plainName "io/isoproof/check/polygraph/NodeOrderPositionsPinLaw" = true := by first | (simp [plainName, overriddenIn]; done) | decide +kernel
theorem d1_0 : decode method_2_code 0 = .ok (.aload_n 0, 1) := by decide +kernel
theorem d1_1 : decode method_2_code 1 = .ok (.iload_n 1, 1) := by decide +kernel
theorem d1_2 : decode method_2_code 2 = .ok (.iaload, 1) := by decide +kernel
theorem d1_3 : decode method_2_code 3 = .ok (.istore_n 3, 1) := by decide +kernel
theorem d1_4 : decode method_2_code 4 = .ok (.aload_n 0, 1) := by decide +kernel
theorem d1_5 : decode method_2_code 5 = .ok (.iload_n 1, 1) := by decide +kernel
theorem d1_6 : decode method_2_code 6 = .ok (.aload_n 0, 1) := by decide +kernel
theorem d1_7 : decode method_2_code 7 = .ok (.iload_n 2, 1) := by decide +kernel
theorem d1_8 : decode method_2_code 8 = .ok (.iaload, 1) := by decide +kernel
theorem d1_9 : decode method_2_code 9 = .ok (.iastore, 1) := by decide +kernel
theorem d1_10 : decode method_2_code 10 = .ok (.aload_n 0, 1) := by decide +kernel
theorem d1_11 : decode method_2_code 11 = .ok (.iload_n 2, 1) := by decide +kernel
theorem d1_12 : decode method_2_code 12 = .ok (.iload_n 3, 1) := by decide +kernel
theorem d1_13 : decode method_2_code 13 = .ok (.iastore, 1) := by decide +kernel
theorem d1_14 : decode method_2_code 14 = .ok (.return_, 1) := by decide +kernel
theorem d2_0 : decode prog_29_method_1_code 0 = .ok (.aload_n 0, 1) := by decide +kernel
theorem d2_1 : decode prog_29_method_1_code 1 = .ok (.invokespecial 3, 3) := by decide +kernel
theorem d2_4 : decode prog_29_method_1_code 4 = .ok (.aload_n 0, 1) := by decide +kernel
theorem d2_5 : decode prog_29_method_1_code 5 = .ok (.aload_n 1, 1) := by decide +kernel
theorem d2_6 : decode prog_29_method_1_code 6 = .ok (.arraylength, 1) := by decide +kernel
theorem d2_7 : decode prog_29_method_1_code 7 = .ok (.newarray .long, 2) := by decide +kernel
theorem d2_9 : decode prog_29_method_1_code 9 = .ok (.putfield 9, 3) := by decide +kernel
theorem d2_12 : decode prog_29_method_1_code 12 = .ok (.aload_n 0, 1) := by decide +kernel
theorem d2_13 : decode prog_29_method_1_code 13 = .ok (.aload_n 1, 1) := by decide +kernel
theorem d2_14 : decode prog_29_method_1_code 14 = .ok (.arraylength, 1) := by decide +kernel
theorem d2_15 : decode prog_29_method_1_code 15 = .ok (.newarray .int, 2) := by decide +kernel
theorem d2_17 : decode prog_29_method_1_code 17 = .ok (.putfield 15, 3) := by decide +kernel
theorem d2_20 : decode prog_29_method_1_code 20 = .ok (.aload_n 0, 1) := by decide +kernel
theorem d2_21 : decode prog_29_method_1_code 21 = .ok (.aload_n 1, 1) := by decide +kernel
theorem d2_22 : decode prog_29_method_1_code 22 = .ok (.arraylength, 1) := by decide +kernel
theorem d2_23 : decode prog_29_method_1_code 23 = .ok (.newarray .int, 2) := by decide +kernel
theorem d2_25 : decode prog_29_method_1_code 25 = .ok (.putfield 19, 3) := by decide +kernel
theorem d2_28 : decode prog_29_method_1_code 28 = .ok (.aload_n 0, 1) := by decide +kernel
theorem d2_29 : decode prog_29_method_1_code 29 = .ok (.aload_n 1, 1) := by decide +kernel
theorem d2_30 : decode prog_29_method_1_code 30 = .ok (.arraylength, 1) := by decide +kernel
theorem d2_31 : decode prog_29_method_1_code 31 = .ok (.ifCond .le 9, 3) := by decide +kernel
theorem d2_34 : decode prog_29_method_1_code 34 = .ok (.aload_n 1, 1) := by decide +kernel
theorem d2_35 : decode prog_29_method_1_code 35 = .ok (.iconst 0, 1) := by decide +kernel
theorem d2_36 : decode prog_29_method_1_code 36 = .ok (.iaload, 1) := by decide +kernel
theorem d2_37 : decode prog_29_method_1_code 37 = .ok (.goto 4, 3) := by decide +kernel
theorem d2_40 : decode prog_29_method_1_code 40 = .ok (.iconst (-1), 1) := by decide +kernel
theorem d2_41 : decode prog_29_method_1_code 41 = .ok (.putfield 22, 3) := by decide +kernel
theorem d2_44 : decode prog_29_method_1_code 44 = .ok (.iconst 0, 1) := by decide +kernel
theorem d2_45 : decode prog_29_method_1_code 45 = .ok (.istore_n 2, 1) := by decide +kernel
theorem d2_46 : decode prog_29_method_1_code 46 = .ok (.iload_n 2, 1) := by decide +kernel
theorem d2_47 : decode prog_29_method_1_code 47 = .ok (.aload_n 1, 1) := by decide +kernel
theorem d2_48 : decode prog_29_method_1_code 48 = .ok (.arraylength, 1) := by decide +kernel
theorem d2_49 : decode prog_29_method_1_code 49 = .ok (.if_icmp .ge 55, 3) := by decide +kernel
theorem d2_52 : decode prog_29_method_1_code 52 = .ok (.aload_n 0, 1) := by decide +kernel
theorem d2_53 : decode prog_29_method_1_code 53 = .ok (.getfield 19, 3) := by decide +kernel
theorem d2_56 : decode prog_29_method_1_code 56 = .ok (.aload_n 1, 1) := by decide +kernel
theorem d2_57 : decode prog_29_method_1_code 57 = .ok (.iload_n 2, 1) := by decide +kernel
theorem d2_58 : decode prog_29_method_1_code 58 = .ok (.iaload, 1) := by decide +kernel
theorem d2_59 : decode prog_29_method_1_code 59 = .ok (.iload_n 2, 1) := by decide +kernel
theorem d2_60 : decode prog_29_method_1_code 60 = .ok (.ifCond .le 11, 3) := by decide +kernel
theorem d2_63 : decode prog_29_method_1_code 63 = .ok (.aload_n 1, 1) := by decide +kernel
theorem d2_64 : decode prog_29_method_1_code 64 = .ok (.iload_n 2, 1) := by decide +kernel
theorem d2_65 : decode prog_29_method_1_code 65 = .ok (.iconst 1, 1) := by decide +kernel
theorem d2_66 : decode prog_29_method_1_code 66 = .ok (.isub, 1) := by decide +kernel
theorem d2_67 : decode prog_29_method_1_code 67 = .ok (.iaload, 1) := by decide +kernel
theorem d2_68 : decode prog_29_method_1_code 68 = .ok (.goto 4, 3) := by decide +kernel
theorem d2_71 : decode prog_29_method_1_code 71 = .ok (.iconst (-1), 1) := by decide +kernel
theorem d2_72 : decode prog_29_method_1_code 72 = .ok (.iastore, 1) := by decide +kernel
theorem d2_73 : decode prog_29_method_1_code 73 = .ok (.aload_n 0, 1) := by decide +kernel
theorem d2_74 : decode prog_29_method_1_code 74 = .ok (.getfield 15, 3) := by decide +kernel
theorem d2_77 : decode prog_29_method_1_code 77 = .ok (.aload_n 1, 1) := by decide +kernel
theorem d2_78 : decode prog_29_method_1_code 78 = .ok (.iload_n 2, 1) := by decide +kernel
theorem d2_79 : decode prog_29_method_1_code 79 = .ok (.iaload, 1) := by decide +kernel
theorem d2_80 : decode prog_29_method_1_code 80 = .ok (.iload_n 2, 1) := by decide +kernel
theorem d2_81 : decode prog_29_method_1_code 81 = .ok (.iconst 1, 1) := by decide +kernel
theorem d2_82 : decode prog_29_method_1_code 82 = .ok (.iadd, 1) := by decide +kernel
theorem d2_83 : decode prog_29_method_1_code 83 = .ok (.aload_n 1, 1) := by decide +kernel
theorem d2_84 : decode prog_29_method_1_code 84 = .ok (.arraylength, 1) := by decide +kernel
theorem d2_85 : decode prog_29_method_1_code 85 = .ok (.if_icmp .ge 11, 3) := by decide +kernel
theorem d2_88 : decode prog_29_method_1_code 88 = .ok (.aload_n 1, 1) := by decide +kernel
theorem d2_89 : decode prog_29_method_1_code 89 = .ok (.iload_n 2, 1) := by decide +kernel
theorem d2_90 : decode prog_29_method_1_code 90 = .ok (.iconst 1, 1) := by decide +kernel
theorem d2_91 : decode prog_29_method_1_code 91 = .ok (.iadd, 1) := by decide +kernel
theorem d2_92 : decode prog_29_method_1_code 92 = .ok (.iaload, 1) := by decide +kernel
theorem d2_93 : decode prog_29_method_1_code 93 = .ok (.goto 4, 3) := by decide +kernel
theorem d2_96 : decode prog_29_method_1_code 96 = .ok (.iconst (-1), 1) := by decide +kernel
theorem d2_97 : decode prog_29_method_1_code 97 = .ok (.iastore, 1) := by decide +kernel
theorem d2_98 : decode prog_29_method_1_code 98 = .ok (.iinc 2 1, 3) := by decide +kernel
theorem d2_101 : decode prog_29_method_1_code 101 = .ok (.goto (-55), 3) := by decide +kernel
theorem d2_104 : decode prog_29_method_1_code 104 = .ok (.aload_n 0, 1) := by decide +kernel
theorem d2_105 : decode prog_29_method_1_code 105 = .ok (.aload_n 0, 1) := by decide +kernel
theorem d2_106 : decode prog_29_method_1_code 106 = .ok (.getfield 22, 3) := by decide +kernel
theorem d2_109 : decode prog_29_method_1_code 109 = .ok (.aload_n 0, 1) := by decide +kernel
theorem d2_110 : decode prog_29_method_1_code 110 = .ok (.invokevirtual 26, 3) := by decide +kernel
theorem d2_113 : decode prog_29_method_1_code 113 = .ok (.lconst 0, 1) := by decide +kernel
theorem d2_114 : decode prog_29_method_1_code 114 = .ok (.ldc2_w 30, 3) := by decide +kernel
theorem d2_117 : decode prog_29_method_1_code 117 = .ok (.aload_n 1, 1) := by decide +kernel
theorem d2_118 : decode prog_29_method_1_code 118 = .ok (.arraylength, 1) := by decide +kernel
theorem d2_119 : decode prog_29_method_1_code 119 = .ok (.invokevirtual 32, 3) := by decide +kernel
theorem d2_122 : decode prog_29_method_1_code 122 = .ok (.return_, 1) := by decide +kernel
theorem d4_0 : decode prog_29_method_13_code 0 = .ok (.aload_n 0, 1) := by decide +kernel
theorem d4_1 : decode prog_29_method_13_code 1 = .ok (.getfield 22, 3) := by decide +kernel
theorem d4_4 : decode prog_29_method_13_code 4 = .ok (.istore_n 1, 1) := by decide +kernel
theorem d4_5 : decode prog_29_method_13_code 5 = .ok (.iload_n 1, 1) := by decide +kernel
theorem d4_6 : decode prog_29_method_13_code 6 = .ok (.ifCond .lt 22, 3) := by decide +kernel
theorem d4_9 : decode prog_29_method_13_code 9 = .ok (.aload_n 0, 1) := by decide +kernel
theorem d4_10 : decode prog_29_method_13_code 10 = .ok (.getfield 15, 3) := by decide +kernel
theorem d4_13 : decode prog_29_method_13_code 13 = .ok (.iload_n 1, 1) := by decide +kernel
theorem d4_14 : decode prog_29_method_13_code 14 = .ok (.iaload, 1) := by decide +kernel
theorem d4_15 : decode prog_29_method_13_code 15 = .ok (.ifCond .lt 13, 3) := by decide +kernel
theorem d4_18 : decode prog_29_method_13_code 18 = .ok (.aload_n 0, 1) := by decide +kernel
theorem d4_19 : decode prog_29_method_13_code 19 = .ok (.getfield 15, 3) := by decide +kernel
theorem d4_22 : decode prog_29_method_13_code 22 = .ok (.iload_n 1, 1) := by decide +kernel
theorem d4_23 : decode prog_29_method_13_code 23 = .ok (.iaload, 1) := by decide +kernel
theorem d4_24 : decode prog_29_method_13_code 24 = .ok (.istore_n 1, 1) := by decide +kernel
theorem d4_25 : decode prog_29_method_13_code 25 = .ok (.goto (-20), 3) := by decide +kernel
theorem d4_28 : decode prog_29_method_13_code 28 = .ok (.iload_n 1, 1) := by decide +kernel
theorem d4_29 : decode prog_29_method_13_code 29 = .ok (.ireturn, 1) := by decide +kernel
theorem d5_0 : decode prog_29_method_11_code 0 = .ok (.lload 5, 2) := by decide +kernel
theorem d5_2 : decode prog_29_method_11_code 2 = .ok (.lload_n 3, 1) := by decide +kernel
theorem d5_3 : decode prog_29_method_11_code 3 = .ok (.lsub, 1) := by decide +kernel
theorem d5_4 : decode prog_29_method_11_code 4 = .ok (.iload 7, 2) := by decide +kernel
theorem d5_6 : decode prog_29_method_11_code 6 = .ok (.iconst 1, 1) := by decide +kernel
theorem d5_7 : decode prog_29_method_11_code 7 = .ok (.iadd, 1) := by decide +kernel
theorem d5_8 : decode prog_29_method_11_code 8 = .ok (.i2l, 1) := by decide +kernel
theorem d5_9 : decode prog_29_method_11_code 9 = .ok (.ldiv, 1) := by decide +kernel
theorem d5_10 : decode prog_29_method_11_code 10 = .ok (.lstore 8, 2) := by decide +kernel
theorem d5_12 : decode prog_29_method_11_code 12 = .ok (.lload_n 3, 1) := by decide +kernel
theorem d5_13 : decode prog_29_method_11_code 13 = .ok (.lstore 10, 2) := by decide +kernel
theorem d5_15 : decode prog_29_method_11_code 15 = .ok (.iload_n 1, 1) := by decide +kernel
theorem d5_16 : decode prog_29_method_11_code 16 = .ok (.istore 12, 2) := by decide +kernel
theorem d5_18 : decode prog_29_method_11_code 18 = .ok (.iload 12, 2) := by decide +kernel
theorem d5_20 : decode prog_29_method_11_code 20 = .ok (.ifCond .lt 40, 3) := by decide +kernel
theorem d5_23 : decode prog_29_method_11_code 23 = .ok (.lload 10, 2) := by decide +kernel
theorem d5_25 : decode prog_29_method_11_code 25 = .ok (.lload 8, 2) := by decide +kernel
theorem d5_27 : decode prog_29_method_11_code 27 = .ok (.ladd, 1) := by decide +kernel
theorem d5_28 : decode prog_29_method_11_code 28 = .ok (.lstore 10, 2) := by decide +kernel
theorem d5_30 : decode prog_29_method_11_code 30 = .ok (.aload_n 0, 1) := by decide +kernel
theorem d5_31 : decode prog_29_method_11_code 31 = .ok (.getfield 9, 3) := by decide +kernel
theorem d5_34 : decode prog_29_method_11_code 34 = .ok (.iload 12, 2) := by decide +kernel
theorem d5_36 : decode prog_29_method_11_code 36 = .ok (.lload 10, 2) := by decide +kernel
theorem d5_38 : decode prog_29_method_11_code 38 = .ok (.lastore, 1) := by decide +kernel
theorem d5_39 : decode prog_29_method_11_code 39 = .ok (.iload 12, 2) := by decide +kernel
theorem d5_41 : decode prog_29_method_11_code 41 = .ok (.iload_n 2, 1) := by decide +kernel
theorem d5_42 : decode prog_29_method_11_code 42 = .ok (.if_icmp .ne 6, 3) := by decide +kernel
theorem d5_45 : decode prog_29_method_11_code 45 = .ok (.goto 15, 3) := by decide +kernel
theorem d5_48 : decode prog_29_method_11_code 48 = .ok (.aload_n 0, 1) := by decide +kernel
theorem d5_49 : decode prog_29_method_11_code 49 = .ok (.getfield 15, 3) := by decide +kernel
theorem d5_52 : decode prog_29_method_11_code 52 = .ok (.iload 12, 2) := by decide +kernel
theorem d5_54 : decode prog_29_method_11_code 54 = .ok (.iaload, 1) := by decide +kernel
theorem d5_55 : decode prog_29_method_11_code 55 = .ok (.istore 12, 2) := by decide +kernel
theorem d5_57 : decode prog_29_method_11_code 57 = .ok (.goto (-39), 3) := by decide +kernel
theorem d5_60 : decode prog_29_method_11_code 60 = .ok (.return_, 1) := by decide +kernel
theorem d6_0 : decode prog_29_method_4_code 0 = .ok (.aload_n 0, 1) := by decide +kernel
theorem d6_1 : decode prog_29_method_4_code 1 = .ok (.getfield 9, 3) := by decide +kernel
theorem d6_4 : decode prog_29_method_4_code 4 = .ok (.arraylength, 1) := by decide +kernel
theorem d6_5 : decode prog_29_method_4_code 5 = .ok (.newarray .int, 2) := by decide +kernel
theorem d6_7 : decode prog_29_method_4_code 7 = .ok (.astore_n 1, 1) := by decide +kernel
theorem d6_8 : decode prog_29_method_4_code 8 = .ok (.iconst 0, 1) := by decide +kernel
theorem d6_9 : decode prog_29_method_4_code 9 = .ok (.istore_n 2, 1) := by decide +kernel
theorem d6_10 : decode prog_29_method_4_code 10 = .ok (.aload_n 0, 1) := by decide +kernel
theorem d6_11 : decode prog_29_method_4_code 11 = .ok (.getfield 22, 3) := by decide +kernel
theorem d6_14 : decode prog_29_method_4_code 14 = .ok (.istore_n 3, 1) := by decide +kernel
theorem d6_15 : decode prog_29_method_4_code 15 = .ok (.iload_n 3, 1) := by decide +kernel
theorem d6_16 : decode prog_29_method_4_code 16 = .ok (.ifCond .lt 20, 3) := by decide +kernel
theorem d6_19 : decode prog_29_method_4_code 19 = .ok (.aload_n 1, 1) := by decide +kernel
theorem d6_20 : decode prog_29_method_4_code 20 = .ok (.iload_n 3, 1) := by decide +kernel
theorem d6_21 : decode prog_29_method_4_code 21 = .ok (.iload_n 2, 1) := by decide +kernel
theorem d6_22 : decode prog_29_method_4_code 22 = .ok (.iinc 2 1, 3) := by decide +kernel
theorem d6_25 : decode prog_29_method_4_code 25 = .ok (.iastore, 1) := by decide +kernel
theorem d6_26 : decode prog_29_method_4_code 26 = .ok (.aload_n 0, 1) := by decide +kernel
theorem d6_27 : decode prog_29_method_4_code 27 = .ok (.getfield 15, 3) := by decide +kernel
theorem d6_30 : decode prog_29_method_4_code 30 = .ok (.iload_n 3, 1) := by decide +kernel
theorem d6_31 : decode prog_29_method_4_code 31 = .ok (.iaload, 1) := by decide +kernel
theorem d6_32 : decode prog_29_method_4_code 32 = .ok (.istore_n 3, 1) := by decide +kernel
theorem d6_33 : decode prog_29_method_4_code 33 = .ok (.goto (-18), 3) := by decide +kernel
theorem d6_36 : decode prog_29_method_4_code 36 = .ok (.aload_n 1, 1) := by decide +kernel
theorem d6_37 : decode prog_29_method_4_code 37 = .ok (.areturn, 1) := by decide +kernel
theorem d7_0 : decode method_3_code 0 = .ok (.iload_n 2, 1) := by decide +kernel
theorem d7_1 : decode method_3_code 1 = .ok (.iload_n 3, 1) := by decide +kernel
theorem d7_2 : decode method_3_code 2 = .ok (.if_icmp .lt 5, 3) := by decide +kernel
theorem d7_5 : decode method_3_code 5 = .ok (.iconst 1, 1) := by decide +kernel
theorem d7_6 : decode method_3_code 6 = .ok (.ireturn, 1) := by decide +kernel
theorem d7_7 : decode method_3_code 7 = .ok (.aload_n 0, 1) := by decide +kernel
theorem d7_8 : decode method_3_code 8 = .ok (.aload_n 1, 1) := by decide +kernel
theorem d7_9 : decode method_3_code 9 = .ok (.iload_n 2, 1) := by decide +kernel
theorem d7_10 : decode method_3_code 10 = .ok (.iaload, 1) := by decide +kernel
theorem d7_11 : decode method_3_code 11 = .ok (.iaload, 1) := by decide +kernel
theorem d7_12 : decode method_3_code 12 = .ok (.iload_n 2, 1) := by decide +kernel
theorem d7_13 : decode method_3_code 13 = .ok (.if_icmp .ne 7, 3) := by decide +kernel
theorem d7_16 : decode method_3_code 16 = .ok (.iconst 1, 1) := by decide +kernel
theorem d7_17 : decode method_3_code 17 = .ok (.goto 4, 3) := by decide +kernel
theorem d7_21 : decode method_3_code 21 = .ok (.ireturn, 1) := by decide +kernel
theorem ef_no_last (m : MethodId) (x0 : Addr) : entryFrame m #[(.ref x0)] 2 = mkF m 0 #[.val (.ref x0), .unset] [] := by first | (simp [entryFrame, mkF, argsToLocals, Value.category]; done) | rfl
set_option maxRecDepth 65536 in
set_option maxHeartbeats 40000000 in
theorem no_last (l : Launch) (Z : State) (a0 : Array Value) (hw : ∀ d ∈ tables_1, d.before a0 Z = true) (a lb nx : Addr) (os ns : List Int32) (ls : List Int64) (h0 : Heap) (n0 : Nat) (Z0 : n0 ≤ h0.size) (H : NO Z h0 a lb nx os ls ns) (ok : own_ok os) (ne_a_lb : a ≠ lb) (ne_a_nx : a ≠ nx) (ne_lb_nx : lb ≠ nx) (g_a : n0 ≤ a) (g_lb : n0 ≤ lb) :
    Con l Z (⟨"io/isoproof/check/polygraph/NodeOrder", "lastNode", "()I"⟩ : MethodName) prog_29_method_13_code 2 (some .int) [] ({ frames := 0, cells := 0, slots := 0, locals := 0 } : Room) #[(.ref a)] h0 (fun v h L => (∃ x, v = some (.int x)) ∧ Fr n0 L ∧ h = h0) := by
  refine Con.mk (plainFor_of_name pn0) ?_
  intro p e s m below meth c T0 hx hby hml hown hnm hret hlk hZ X0 e0
  have hown : s.vm.findClass "io/isoproof/check/polygraph/NodeOrder" = some m.cls := hown
  have hnm : meth.name = "lastNode" := hnm
  have N0 := Fr.nil n0
  obtain ⟨E_a, F_label_a, F_next_a, F_first_a, A_lb, A_nx, hll, hnx⟩ := H
  have loop : ∀ (r : Nat) (u : Nat) (T : State) (locs : List Loc) (X : Stand p l e ({ frames := 0, cells := 0, slots := 0, locals := 0 } : Room) s m #[(.ref a)] below meth c T locs 0 0) (e1 : T.heap = h0) (N1 : Fr n0 locs) (hm : u + r = os.length), Go p e below s ({ frames := 0, cells := 0, slots := 0, locals := 0 } : Room) (fun v h L => (∃ x, v = some (.int x)) ∧ Fr n0 L ∧ h = h0) (T.setTop (mkF m 5 #[.val (.ref a), .val (.int (own_cur os u))] [])) := by
    intro r
    induction r with
    | zero =>
      intro u T locs X e1 N1 hm
      refine Go.st (S' := T.setTop (mkF m 6 #[.val (.ref a), .val (.int (own_cur os u))] [(.int (own_cur os u))])) (fun _ k_ => XS.iloadN X.here hx rfl (hb hby d4_5) rfl k_) ?_
      refine Go.st (S' := T.setTop (mkF m 28 #[.val (.ref a), .val (.int (own_cur os u))] [])) (fun _ k_ => XS.ifYes X.here hx rfl (pc0 := 6) (pc' := 28) rfl (hb hby d4_6) rfl ((if0 _ _).trans (tlt ((by rw [own_gdn (by omega)]; decide : own_cur os u < (0 : Int32)))).1) (by decide) (by decide) k_) ?_
      refine Go.st (S' := T.setTop (mkF m 29 #[.val (.ref a), .val (.int (own_cur os u))] [(.int (own_cur os u))])) (fun _ k_ => XS.iloadN X.here hx rfl (hb hby d4_28) rfl k_) ?_
      exact Go.retI X hx hret hlk (hb hby d4_29) (by decide) (by decide) (by rw [e1]; exact ⟨⟨_, rfl⟩, N1, rfl⟩)
    | succ r ih =>
      intro u T locs X e1 N1 hm
      refine Go.st (S' := T.setTop (mkF m 6 #[.val (.ref a), .val (.int (own_cur os u))] [(.int (own_cur os u))])) (fun _ k_ => XS.iloadN X.here hx rfl (hb hby d4_5) rfl k_) ?_
      refine Go.st (S' := T.setTop (mkF m 9 #[.val (.ref a), .val (.int (own_cur os u))] [])) (fun _ k_ => XS.ifNo X.here hx rfl (hb hby d4_6) rfl ((if0 _ _).trans (flt ((ok.2.1 u _ (own_gd (by omega))).1)).1) k_) ?_
      refine Go.st (S' := T.setTop (mkF m 10 #[.val (.ref a), .val (.int (own_cur os u))] [(.ref a)])) (fun _ k_ => XS.aloadN X.here hx rfl (hb hby d4_9) rfl rfl k_) ?_
      obtain ⟨T11, X11, e11, st11⟩ := getF X hx hZ hown (host := "") (Or.inl (w18 hw)) Via.refl e1 F_next_a (g := (mkF m 10 #[.val (.ref a), .val (.int (own_cur os u))] [(.ref a)])) rfl rfl (hb hby d4_10)
      refine Go.st (S' := T11.setTop (mkF m 13 #[.val (.ref a), .val (.int (own_cur os u))] [(.ref nx)])) (st11) ?_
      refine Go.st (S' := T11.setTop (mkF m 14 #[.val (.ref a), .val (.int (own_cur os u))] [(.int (own_cur os u)), (.ref nx)])) (fun _ k_ => XS.iloadN X11.here hx rfl (hb hby d4_13) rfl k_) ?_
      refine Go.st (S' := T11.setTop (mkF m 15 #[.val (.ref a), .val (.int (own_cur os u))] [(.int (own_cur os (u + 1)))])) (A_nx.load X11 hx hZ e11 (j := (own_cur os u)) (v := (own_cur os (u + 1))) (ok.2.1 u _ (own_gd (by omega))).1 (own_getlt hnx ok (by omega)) (g := (mkF m 14 #[.val (.ref a), .val (.int (own_cur os u))] [(.int (own_cur os u)), (.ref nx)])) rfl rfl (hb hby d4_14)) ?_
      by_cases hc15 : (own_cur os (u + 1)) < (0 : Int32)
      · skip
        refine Go.st (S' := T11.setTop (mkF m 28 #[.val (.ref a), .val (.int (own_cur os u))] [])) (fun _ k_ => XS.ifYes X11.here hx rfl (pc0 := 15) (pc' := 28) rfl (hb hby d4_15) rfl ((if0 _ _).trans (tlt hc15).1) (by decide) (by decide) k_) ?_
        refine Go.st (S' := T11.setTop (mkF m 29 #[.val (.ref a), .val (.int (own_cur os u))] [(.int (own_cur os u))])) (fun _ k_ => XS.iloadN X11.here hx rfl (hb hby d4_28) rfl k_) ?_
        exact Go.retI X11 hx hret hlk (hb hby d4_29) (by decide) (by decide) (by rw [e11]; exact ⟨⟨_, rfl⟩, N1, rfl⟩)
      · skip
        refine Go.st (S' := T11.setTop (mkF m 18 #[.val (.ref a), .val (.int (own_cur os u))] [])) (fun _ k_ => XS.ifNo X11.here hx rfl (hb hby d4_15) rfl ((if0 _ _).trans (flt hc15).1) k_) ?_
        refine Go.st (S' := T11.setTop (mkF m 19 #[.val (.ref a), .val (.int (own_cur os u))] [(.ref a)])) (fun _ k_ => XS.aloadN X11.here hx rfl (hb hby d4_18) rfl rfl k_) ?_
        obtain ⟨T12, X12, e12, st12⟩ := getF X11 hx hZ hown (host := "") (Or.inl (w18 hw)) Via.refl e11 F_next_a (g := (mkF m 19 #[.val (.ref a), .val (.int (own_cur os u))] [(.ref a)])) rfl rfl (hb hby d4_19)
        refine Go.st (S' := T12.setTop (mkF m 22 #[.val (.ref a), .val (.int (own_cur os u))] [(.ref nx)])) (st12) ?_
        refine Go.st (S' := T12.setTop (mkF m 23 #[.val (.ref a), .val (.int (own_cur os u))] [(.int (own_cur os u)), (.ref nx)])) (fun _ k_ => XS.iloadN X12.here hx rfl (hb hby d4_22) rfl k_) ?_
        refine Go.st (S' := T12.setTop (mkF m 24 #[.val (.ref a), .val (.int (own_cur os u))] [(.int (own_cur os (u + 1)))])) (A_nx.load X12 hx hZ e12 (j := (own_cur os u)) (v := (own_cur os (u + 1))) (ok.2.1 u _ (own_gd (by omega))).1 (own_getlt hnx ok (by omega)) (g := (mkF m 23 #[.val (.ref a), .val (.int (own_cur os u))] [(.int (own_cur os u)), (.ref nx)])) rfl rfl (hb hby d4_23)) ?_
        refine Go.st (S' := T12.setTop (mkF m 25 #[.val (.ref a), .val (.int (own_cur os (u + 1)))] [])) (fun _ k_ => XS.istoreN X12.here hx rfl (hb hby d4_24) rfl (l' := #[.val (.ref a), .val (.int (own_cur os (u + 1)))]) rfl k_) ?_
        refine Go.st (S' := T12.setTop (mkF m 5 #[.val (.ref a), .val (.int (own_cur os (u + 1)))] [])) (fun _ k_ => XS.goto X12.here hx rfl (pc0 := 25) (pc' := 5) rfl (hb hby d4_25) (by decide) (by decide) k_) ?_
        exact ih (u + 1) _ _ X12 e12 N1 (by omega)
  refine Go.cast (ef_no_last m a) ?_
  refine Go.st (S' := T0.setTop (mkF m 1 #[.val (.ref a), .unset] [(.ref a)])) (fun _ k_ => XS.aloadN X0.here hx rfl (hb hby d4_0) rfl rfl k_) ?_
  obtain ⟨T13, X13, e13, st13⟩ := getF X0 hx hZ hown (host := "") (Or.inl (w22 hw)) Via.refl e0 F_first_a (g := (mkF m 1 #[.val (.ref a), .unset] [(.ref a)])) rfl rfl (hb hby d4_1)
  refine Go.st (S' := T13.setTop (mkF m 4 #[.val (.ref a), .unset] [(.int (own_cur os 0))])) (st13) ?_
  refine Go.st (S' := T13.setTop (mkF m 5 #[.val (.ref a), .val (.int (own_cur os 0))] [])) (fun _ k_ => XS.istoreN X13.here hx rfl (hb hby d4_4) rfl (l' := #[.val (.ref a), .val (.int (own_cur os 0))]) rfl k_) ?_
  exact loop os.length 0 _ _ X13 e13 N0 (by omega)
theorem ef_no_relabel (m : MethodId) (x0 : Addr) (x1 : Int32) (x2 : Int32) (x3 : Int64) (x4 : Int64) (x5 : Int32) : entryFrame m #[(.ref x0), (.int x1), (.int x2), (.long x3), (.long x4), (.int x5)] 13 = mkF m 0 #[.val (.ref x0), .val (.int x1), .val (.int x2), .val (.long x3), .second, .val (.long x4), .second, .val (.int x5), .unset, .unset, .unset, .unset, .unset] [] := by first | (simp [entryFrame, mkF, argsToLocals, Value.category]; done) | rfl
set_option maxRecDepth 65536 in
set_option maxHeartbeats 40000000 in
theorem no_relabel (l : Launch) (Z : State) (a0 : Array Value) (hw : ∀ d ∈ tables_1, d.before a0 Z = true) (a lb nx : Addr) (os ns : List Int32) (ls : List Int64) (to : Int32) (lo hi : Int64) (cn : Int32) (h0 : Heap) (n0 : Nat) (Z0 : n0 ≤ h0.size) (H : NO Z h0 a lb nx os ls ns) (ok : own_ok os) (ne_a_lb : a ≠ lb) (ne_a_nx : a ≠ nx) (ne_lb_nx : lb ≠ nx) (g_a : n0 ≤ a) (g_lb : n0 ≤ lb) (hcn : ¬ (cn + (1 : Int32)).toInt64 = 0) :
    Con l Z (⟨"io/isoproof/check/polygraph/NodeOrder", "relabel", "(IIJJI)V"⟩ : MethodName) prog_29_method_11_code 13 none [] ({ frames := 0, cells := 0, slots := 0, locals := 0 } : Room) #[(.ref a), (.int (own_cur os 0)), (.int to), (.long lo), (.long hi), (.int cn)] h0 (fun v h L => v = none ∧ Fr n0 L ∧ Keep h0 h [lb] ∧ ∃ lz, NO Z h a lb nx os lz ns) := by
  refine Con.mk (plainFor_of_name pn0) ?_
  intro p e s m below meth c T0 hx hby hml hown hnm hret hlk hZ X0 e0
  have hown : s.vm.findClass "io/isoproof/check/polygraph/NodeOrder" = some m.cls := hown
  have hnm : meth.name = "relabel" := hnm
  have N0 := Fr.nil n0
  have K0 := Keep.refl h0 [lb]
  obtain ⟨E_a, F_label_a, F_next_a, F_first_a, A_lb, A_nx, hll, hnx⟩ := H
  have loop : ∀ (r : Nat) (u : Nat) (gp vl : Int64) (lz : List Int64) (T : State) (locs : List Loc) (h1 : Heap) (X : Stand p l e ({ frames := 0, cells := 0, slots := 0, locals := 0 } : Room) s m #[(.ref a), (.int (own_cur os 0)), (.int to), (.long lo), (.long hi), (.int cn)] below meth c T locs 0 0) (e1 : T.heap = h1) (N1 : Fr n0 locs) (Z0 : n0 ≤ h1.size) (K0 : Keep h0 h1 [lb]) (E_a : Exa Z h1 a "io/isoproof/check/polygraph/NodeOrder") (F_label_a : Fld Z h1 a "io/isoproof/check/polygraph/NodeOrder" "label" "[J" (.ref lb)) (F_next_a : Fld Z h1 a "io/isoproof/check/polygraph/NodeOrder" "next" "[I" (.ref nx)) (F_first_a : Fld Z h1 a "io/isoproof/check/polygraph/NodeOrder" "first" "I" (.int (own_cur os 0))) (A_lb : Al Z h1 lb lz) (A_nx : Ai Z h1 nx .int ns) (hlz : lz.length = os.length) (hm : u + r = os.length), Go p e below s ({ frames := 0, cells := 0, slots := 0, locals := 0 } : Room) (fun v h L => v = none ∧ Fr n0 L ∧ Keep h0 h [lb] ∧ ∃ lz, NO Z h a lb nx os lz ns) (T.setTop (mkF m 18 #[.val (.ref a), .val (.int (own_cur os 0)), .val (.int to), .val (.long lo), .second, .val (.long hi), .second, .val (.int cn), .val (.long gp), .second, .val (.long vl), .second, .val (.int (own_cur os u))] [])) := by
    intro r
    induction r with
    | zero =>
      intro u gp vl lz T locs h1 X e1 N1 Z0 K0 E_a F_label_a F_next_a F_first_a A_lb A_nx hlz hm
      refine Go.st (S' := T.setTop (mkF m 20 #[.val (.ref a), .val (.int (own_cur os 0)), .val (.int to), .val (.long lo), .second, .val (.long hi), .second, .val (.int cn), .val (.long gp), .second, .val (.long vl), .second, .val (.int (own_cur os u))] [(.int (own_cur os u))])) (fun _ k_ => XS.iload X.here hx rfl (hb hby d5_18) rfl k_) ?_
      refine Go.st (S' := T.setTop (mkF m 60 #[.val (.ref a), .val (.int (own_cur os 0)), .val (.int to), .val (.long lo), .second, .val (.long hi), .second, .val (.int cn), .val (.long gp), .second, .val (.long vl), .second, .val (.int (own_cur os u))] [])) (fun _ k_ => XS.ifYes X.here hx rfl (pc0 := 20) (pc' := 60) rfl (hb hby d5_20) rfl ((if0 _ _).trans (tlt ((by rw [own_gdn (by omega)]; decide : own_cur os u < (0 : Int32)))).1) (by decide) (by decide) k_) ?_
      exact Go.retV X hx hret hlk (hb hby d5_60) (by decide) (by decide) (by rw [e1]; exact ⟨rfl, N1, K0, _, E_a, F_label_a, F_next_a, F_first_a, A_lb, A_nx, by first | exact hlz | (rw [List.length_set]; exact hlz), hnx⟩)
    | succ r ih =>
      intro u gp vl lz T locs h1 X e1 N1 Z0 K0 E_a F_label_a F_next_a F_first_a A_lb A_nx hlz hm
      refine Go.st (S' := T.setTop (mkF m 20 #[.val (.ref a), .val (.int (own_cur os 0)), .val (.int to), .val (.long lo), .second, .val (.long hi), .second, .val (.int cn), .val (.long gp), .second, .val (.long vl), .second, .val (.int (own_cur os u))] [(.int (own_cur os u))])) (fun _ k_ => XS.iload X.here hx rfl (hb hby d5_18) rfl k_) ?_
      refine Go.st (S' := T.setTop (mkF m 23 #[.val (.ref a), .val (.int (own_cur os 0)), .val (.int to), .val (.long lo), .second, .val (.long hi), .second, .val (.int cn), .val (.long gp), .second, .val (.long vl), .second, .val (.int (own_cur os u))] [])) (fun _ k_ => XS.ifNo X.here hx rfl (hb hby d5_20) rfl ((if0 _ _).trans (flt ((ok.2.1 u _ (own_gd (by omega))).1)).1) k_) ?_
      refine Go.st (S' := T.setTop (mkF m 25 #[.val (.ref a), .val (.int (own_cur os 0)), .val (.int to), .val (.long lo), .second, .val (.long hi), .second, .val (.int cn), .val (.long gp), .second, .val (.long vl), .second, .val (.int (own_cur os u))] [(.long vl)])) (fun _ k_ => XS.lload X.here hx rfl (hb hby d5_23) rfl k_) ?_
      refine Go.st (S' := T.setTop (mkF m 27 #[.val (.ref a), .val (.int (own_cur os 0)), .val (.int to), .val (.long lo), .second, .val (.long hi), .second, .val (.int cn), .val (.long gp), .second, .val (.long vl), .second, .val (.int (own_cur os u))] [(.long gp), (.long vl)])) (fun _ k_ => XS.lload X.here hx rfl (hb hby d5_25) rfl k_) ?_
      refine Go.st (S' := T.setTop (mkF m 28 #[.val (.ref a), .val (.int (own_cur os 0)), .val (.int to), .val (.long lo), .second, .val (.long hi), .second, .val (.int cn), .val (.long gp), .second, .val (.long vl), .second, .val (.int (own_cur os u))] [(.long (vl + gp))])) (fun _ k_ => XS.ladd X.here hx rfl (hb hby d5_27) rfl k_) ?_
      refine Go.st (S' := T.setTop (mkF m 30 #[.val (.ref a), .val (.int (own_cur os 0)), .val (.int to), .val (.long lo), .second, .val (.long hi), .second, .val (.int cn), .val (.long gp), .second, .val (.long (vl + gp)), .second, .val (.int (own_cur os u))] [])) (fun _ k_ => XS.lstore X.here hx rfl (hb hby d5_28) rfl (l' := #[.val (.ref a), .val (.int (own_cur os 0)), .val (.int to), .val (.long lo), .second, .val (.long hi), .second, .val (.int cn), .val (.long gp), .second, .val (.long (vl + gp)), .second, .val (.int (own_cur os u))]) rfl k_) ?_
      refine Go.st (S' := T.setTop (mkF m 31 #[.val (.ref a), .val (.int (own_cur os 0)), .val (.int to), .val (.long lo), .second, .val (.long hi), .second, .val (.int cn), .val (.long gp), .second, .val (.long (vl + gp)), .second, .val (.int (own_cur os u))] [(.ref a)])) (fun _ k_ => XS.aloadN X.here hx rfl (hb hby d5_30) rfl rfl k_) ?_
      obtain ⟨T11, X11, e11, st11⟩ := getF X hx hZ hown (host := "") (Or.inl (w16 hw)) Via.refl e1 F_label_a (g := (mkF m 31 #[.val (.ref a), .val (.int (own_cur os 0)), .val (.int to), .val (.long lo), .second, .val (.long hi), .second, .val (.int cn), .val (.long gp), .second, .val (.long (vl + gp)), .second, .val (.int (own_cur os u))] [(.ref a)])) rfl rfl (hb hby d5_31)
      refine Go.st (S' := T11.setTop (mkF m 34 #[.val (.ref a), .val (.int (own_cur os 0)), .val (.int to), .val (.long lo), .second, .val (.long hi), .second, .val (.int cn), .val (.long gp), .second, .val (.long (vl + gp)), .second, .val (.int (own_cur os u))] [(.ref lb)])) (st11) ?_
      refine Go.st (S' := T11.setTop (mkF m 36 #[.val (.ref a), .val (.int (own_cur os 0)), .val (.int to), .val (.long lo), .second, .val (.long hi), .second, .val (.int cn), .val (.long gp), .second, .val (.long (vl + gp)), .second, .val (.int (own_cur os u))] [(.int (own_cur os u)), (.ref lb)])) (fun _ k_ => XS.iload X11.here hx rfl (hb hby d5_34) rfl k_) ?_
      refine Go.st (S' := T11.setTop (mkF m 38 #[.val (.ref a), .val (.int (own_cur os 0)), .val (.int to), .val (.long lo), .second, .val (.long hi), .second, .val (.int cn), .val (.long gp), .second, .val (.long (vl + gp)), .second, .val (.int (own_cur os u))] [(.long (vl + gp)), (.int (own_cur os u)), (.ref lb)])) (fun _ k_ => XS.lload X11.here hx rfl (hb hby d5_36) rfl k_) ?_
      obtain ⟨T12, h12, X12, e12, W12, A12, st12⟩ := A_lb.store X11 hx hZ e11 (j := (own_cur os u)) (ok.2.1 u _ (own_gd (by omega))).1 (by rw [hlz]; exact (ok.2.1 u _ (own_gd (by omega))).2) (g := (mkF m 38 #[.val (.ref a), .val (.int (own_cur os 0)), .val (.int to), .val (.long lo), .second, .val (.long hi), .second, .val (.int cn), .val (.long gp), .second, .val (.long (vl + gp)), .second, .val (.int (own_cur os u))] [(.long (vl + gp)), (.int (own_cur os u)), (.ref lb)])) rfl rfl (hb hby d5_38)
      replace A_lb : Al Z h12 lb (lz.set (own_cur os u).toNatClampNeg (vl + gp)) := A12
      replace E_a := E_a.wr W12
      replace F_label_a := F_label_a.other W12 (Or.inl ne_a_lb)
      replace F_next_a := F_next_a.other W12 (Or.inl ne_a_lb)
      replace F_first_a := F_first_a.other W12 (Or.inl ne_a_lb)
      replace A_nx := A_nx.other W12 (Ne.symm ne_lb_nx)
      replace Z0 := Nat.le_trans Z0 (Keep.of_wr W12).1
      replace K0 := K0.wr W12 (Or.inl (by simp))
      have N12 := Fr.snoc X12 N1 g_lb
      refine Go.st (S' := T12.setTop (mkF m 39 #[.val (.ref a), .val (.int (own_cur os 0)), .val (.int to), .val (.long lo), .second, .val (.long hi), .second, .val (.int cn), .val (.long gp), .second, .val (.long (vl + gp)), .second, .val (.int (own_cur os u))] [])) (st12) ?_
      refine Go.st (S' := T12.setTop (mkF m 41 #[.val (.ref a), .val (.int (own_cur os 0)), .val (.int to), .val (.long lo), .second, .val (.long hi), .second, .val (.int cn), .val (.long gp), .second, .val (.long (vl + gp)), .second, .val (.int (own_cur os u))] [(.int (own_cur os u))])) (fun _ k_ => XS.iload X12.here hx rfl (hb hby d5_39) rfl k_) ?_
      refine Go.st (S' := T12.setTop (mkF m 42 #[.val (.ref a), .val (.int (own_cur os 0)), .val (.int to), .val (.long lo), .second, .val (.long hi), .second, .val (.int cn), .val (.long gp), .second, .val (.long (vl + gp)), .second, .val (.int (own_cur os u))] [(.int to), (.int (own_cur os u))])) (fun _ k_ => XS.iloadN X12.here hx rfl (hb hby d5_41) rfl k_) ?_
      by_cases hc42 : (own_cur os u) = to
      · skip
        refine Go.st (S' := T12.setTop (mkF m 45 #[.val (.ref a), .val (.int (own_cur os 0)), .val (.int to), .val (.long lo), .second, .val (.long hi), .second, .val (.int cn), .val (.long gp), .second, .val (.long (vl + gp)), .second, .val (.int (own_cur os u))] [])) (fun _ k_ => XS.icmpNo X12.here hx rfl (hb hby d5_42) rfl (teq hc42).2 k_) ?_
        refine Go.st (S' := T12.setTop (mkF m 60 #[.val (.ref a), .val (.int (own_cur os 0)), .val (.int to), .val (.long lo), .second, .val (.long hi), .second, .val (.int cn), .val (.long gp), .second, .val (.long (vl + gp)), .second, .val (.int (own_cur os u))] [])) (fun _ k_ => XS.goto X12.here hx rfl (pc0 := 45) (pc' := 60) rfl (hb hby d5_45) (by decide) (by decide) k_) ?_
        exact Go.retV X12 hx hret hlk (hb hby d5_60) (by decide) (by decide) (by rw [e12]; exact ⟨rfl, N12, K0, _, E_a, F_label_a, F_next_a, F_first_a, A_lb, A_nx, by first | exact hlz | (rw [List.length_set]; exact hlz), hnx⟩)
      · skip
        refine Go.st (S' := T12.setTop (mkF m 48 #[.val (.ref a), .val (.int (own_cur os 0)), .val (.int to), .val (.long lo), .second, .val (.long hi), .second, .val (.int cn), .val (.long gp), .second, .val (.long (vl + gp)), .second, .val (.int (own_cur os u))] [])) (fun _ k_ => XS.icmpYes X12.here hx rfl (pc0 := 42) (pc' := 48) rfl (hb hby d5_42) rfl (feq hc42).2 (by decide) (by decide) k_) ?_
        refine Go.st (S' := T12.setTop (mkF m 49 #[.val (.ref a), .val (.int (own_cur os 0)), .val (.int to), .val (.long lo), .second, .val (.long hi), .second, .val (.int cn), .val (.long gp), .second, .val (.long (vl + gp)), .second, .val (.int (own_cur os u))] [(.ref a)])) (fun _ k_ => XS.aloadN X12.here hx rfl (hb hby d5_48) rfl rfl k_) ?_
        obtain ⟨T13, X13, e13, st13⟩ := getF X12 hx hZ hown (host := "") (Or.inl (w18 hw)) Via.refl e12 F_next_a (g := (mkF m 49 #[.val (.ref a), .val (.int (own_cur os 0)), .val (.int to), .val (.long lo), .second, .val (.long hi), .second, .val (.int cn), .val (.long gp), .second, .val (.long (vl + gp)), .second, .val (.int (own_cur os u))] [(.ref a)])) rfl rfl (hb hby d5_49)
        refine Go.st (S' := T13.setTop (mkF m 52 #[.val (.ref a), .val (.int (own_cur os 0)), .val (.int to), .val (.long lo), .second, .val (.long hi), .second, .val (.int cn), .val (.long gp), .second, .val (.long (vl + gp)), .second, .val (.int (own_cur os u))] [(.ref nx)])) (st13) ?_
        refine Go.st (S' := T13.setTop (mkF m 54 #[.val (.ref a), .val (.int (own_cur os 0)), .val (.int to), .val (.long lo), .second, .val (.long hi), .second, .val (.int cn), .val (.long gp), .second, .val (.long (vl + gp)), .second, .val (.int (own_cur os u))] [(.int (own_cur os u)), (.ref nx)])) (fun _ k_ => XS.iload X13.here hx rfl (hb hby d5_52) rfl k_) ?_
        refine Go.st (S' := T13.setTop (mkF m 55 #[.val (.ref a), .val (.int (own_cur os 0)), .val (.int to), .val (.long lo), .second, .val (.long hi), .second, .val (.int cn), .val (.long gp), .second, .val (.long (vl + gp)), .second, .val (.int (own_cur os u))] [(.int (own_cur os (u + 1)))])) (A_nx.load X13 hx hZ e13 (j := (own_cur os u)) (v := (own_cur os (u + 1))) (ok.2.1 u _ (own_gd (by omega))).1 (own_getlt hnx ok (by omega)) (g := (mkF m 54 #[.val (.ref a), .val (.int (own_cur os 0)), .val (.int to), .val (.long lo), .second, .val (.long hi), .second, .val (.int cn), .val (.long gp), .second, .val (.long (vl + gp)), .second, .val (.int (own_cur os u))] [(.int (own_cur os u)), (.ref nx)])) rfl rfl (hb hby d5_54)) ?_
        refine Go.st (S' := T13.setTop (mkF m 57 #[.val (.ref a), .val (.int (own_cur os 0)), .val (.int to), .val (.long lo), .second, .val (.long hi), .second, .val (.int cn), .val (.long gp), .second, .val (.long (vl + gp)), .second, .val (.int (own_cur os (u + 1)))] [])) (fun _ k_ => XS.istore X13.here hx rfl (hb hby d5_55) rfl (l' := #[.val (.ref a), .val (.int (own_cur os 0)), .val (.int to), .val (.long lo), .second, .val (.long hi), .second, .val (.int cn), .val (.long gp), .second, .val (.long (vl + gp)), .second, .val (.int (own_cur os (u + 1)))]) rfl k_) ?_
        refine Go.st (S' := T13.setTop (mkF m 18 #[.val (.ref a), .val (.int (own_cur os 0)), .val (.int to), .val (.long lo), .second, .val (.long hi), .second, .val (.int cn), .val (.long gp), .second, .val (.long (vl + gp)), .second, .val (.int (own_cur os (u + 1)))] [])) (fun _ k_ => XS.goto X13.here hx rfl (pc0 := 57) (pc' := 18) rfl (hb hby d5_57) (by decide) (by decide) k_) ?_
        exact ih (u + 1) _ _ _ _ _ _ X13 e13 N12 Z0 K0 E_a F_label_a F_next_a F_first_a A_lb A_nx (by rw [List.length_set]; exact hlz) (by omega)
  refine Go.cast (ef_no_relabel m a (own_cur os 0) to lo hi cn) ?_
  refine Go.st (S' := T0.setTop (mkF m 2 #[.val (.ref a), .val (.int (own_cur os 0)), .val (.int to), .val (.long lo), .second, .val (.long hi), .second, .val (.int cn), .unset, .unset, .unset, .unset, .unset] [(.long hi)])) (fun _ k_ => XS.lload X0.here hx rfl (hb hby d5_0) rfl k_) ?_
  refine Go.st (S' := T0.setTop (mkF m 3 #[.val (.ref a), .val (.int (own_cur os 0)), .val (.int to), .val (.long lo), .second, .val (.long hi), .second, .val (.int cn), .unset, .unset, .unset, .unset, .unset] [(.long lo), (.long hi)])) (fun _ k_ => XS.lloadN X0.here hx rfl (hb hby d5_2) rfl k_) ?_
  refine Go.st (S' := T0.setTop (mkF m 4 #[.val (.ref a), .val (.int (own_cur os 0)), .val (.int to), .val (.long lo), .second, .val (.long hi), .second, .val (.int cn), .unset, .unset, .unset, .unset, .unset] [(.long (hi - lo))])) (fun _ k_ => XS.lsub X0.here hx rfl (hb hby d5_3) rfl k_) ?_
  refine Go.st (S' := T0.setTop (mkF m 6 #[.val (.ref a), .val (.int (own_cur os 0)), .val (.int to), .val (.long lo), .second, .val (.long hi), .second, .val (.int cn), .unset, .unset, .unset, .unset, .unset] [(.int cn), (.long (hi - lo))])) (fun _ k_ => XS.iload X0.here hx rfl (hb hby d5_4) rfl k_) ?_
  refine Go.st (S' := T0.setTop (mkF m 7 #[.val (.ref a), .val (.int (own_cur os 0)), .val (.int to), .val (.long lo), .second, .val (.long hi), .second, .val (.int cn), .unset, .unset, .unset, .unset, .unset] [(.int (1 : Int32)), (.int cn), (.long (hi - lo))])) (fun _ k_ => XS.iconst X0.here hx rfl (hb hby d5_6) k_) ?_
  refine Go.st (S' := T0.setTop (mkF m 8 #[.val (.ref a), .val (.int (own_cur os 0)), .val (.int to), .val (.long lo), .second, .val (.long hi), .second, .val (.int cn), .unset, .unset, .unset, .unset, .unset] [(.int (cn + (1 : Int32))), (.long (hi - lo))])) (fun _ k_ => XS.iadd X0.here hx rfl (hb hby d5_7) rfl k_) ?_
  refine Go.st (S' := T0.setTop (mkF m 9 #[.val (.ref a), .val (.int (own_cur os 0)), .val (.int to), .val (.long lo), .second, .val (.long hi), .second, .val (.int cn), .unset, .unset, .unset, .unset, .unset] [(.long ((cn + (1 : Int32)).toInt64)), (.long (hi - lo))])) (fun _ k_ => XS.i2l X0.here hx rfl (hb hby d5_8) rfl k_) ?_
  refine Go.st (S' := T0.setTop (mkF m 10 #[.val (.ref a), .val (.int (own_cur os 0)), .val (.int to), .val (.long lo), .second, .val (.long hi), .second, .val (.int cn), .unset, .unset, .unset, .unset, .unset] [(.long ((hi - lo) / ((cn + (1 : Int32)).toInt64)))])) (fun _ k_ => XS.ldiv X0.here hx rfl (hb hby d5_9) rfl hcn k_) ?_
  refine Go.st (S' := T0.setTop (mkF m 12 #[.val (.ref a), .val (.int (own_cur os 0)), .val (.int to), .val (.long lo), .second, .val (.long hi), .second, .val (.int cn), .val (.long ((hi - lo) / ((cn + (1 : Int32)).toInt64))), .second, .unset, .unset, .unset] [])) (fun _ k_ => XS.lstore X0.here hx rfl (hb hby d5_10) rfl (l' := #[.val (.ref a), .val (.int (own_cur os 0)), .val (.int to), .val (.long lo), .second, .val (.long hi), .second, .val (.int cn), .val (.long ((hi - lo) / ((cn + (1 : Int32)).toInt64))), .second, .unset, .unset, .unset]) rfl k_) ?_
  refine Go.st (S' := T0.setTop (mkF m 13 #[.val (.ref a), .val (.int (own_cur os 0)), .val (.int to), .val (.long lo), .second, .val (.long hi), .second, .val (.int cn), .val (.long ((hi - lo) / ((cn + (1 : Int32)).toInt64))), .second, .unset, .unset, .unset] [(.long lo)])) (fun _ k_ => XS.lloadN X0.here hx rfl (hb hby d5_12) rfl k_) ?_
  refine Go.st (S' := T0.setTop (mkF m 15 #[.val (.ref a), .val (.int (own_cur os 0)), .val (.int to), .val (.long lo), .second, .val (.long hi), .second, .val (.int cn), .val (.long ((hi - lo) / ((cn + (1 : Int32)).toInt64))), .second, .val (.long lo), .second, .unset] [])) (fun _ k_ => XS.lstore X0.here hx rfl (hb hby d5_13) rfl (l' := #[.val (.ref a), .val (.int (own_cur os 0)), .val (.int to), .val (.long lo), .second, .val (.long hi), .second, .val (.int cn), .val (.long ((hi - lo) / ((cn + (1 : Int32)).toInt64))), .second, .val (.long lo), .second, .unset]) rfl k_) ?_
  refine Go.st (S' := T0.setTop (mkF m 16 #[.val (.ref a), .val (.int (own_cur os 0)), .val (.int to), .val (.long lo), .second, .val (.long hi), .second, .val (.int cn), .val (.long ((hi - lo) / ((cn + (1 : Int32)).toInt64))), .second, .val (.long lo), .second, .unset] [(.int (own_cur os 0))])) (fun _ k_ => XS.iloadN X0.here hx rfl (hb hby d5_15) rfl k_) ?_
  refine Go.st (S' := T0.setTop (mkF m 18 #[.val (.ref a), .val (.int (own_cur os 0)), .val (.int to), .val (.long lo), .second, .val (.long hi), .second, .val (.int cn), .val (.long ((hi - lo) / ((cn + (1 : Int32)).toInt64))), .second, .val (.long lo), .second, .val (.int (own_cur os 0))] [])) (fun _ k_ => XS.istore X0.here hx rfl (hb hby d5_16) rfl (l' := #[.val (.ref a), .val (.int (own_cur os 0)), .val (.int to), .val (.long lo), .second, .val (.long hi), .second, .val (.int cn), .val (.long ((hi - lo) / ((cn + (1 : Int32)).toInt64))), .second, .val (.long lo), .second, .val (.int (own_cur os 0))]) rfl k_) ?_
  exact loop os.length 0 _ _ _ _ _ _ X0 e0 N0 Z0 K0 E_a F_label_a F_next_a F_first_a A_lb A_nx hll (by omega)
theorem ef_no_init (m : MethodId) (x0 : Addr) (x1 : Addr) : entryFrame m #[(.ref x0), (.ref x1)] 3 = mkF m 0 #[.val (.ref x0), .val (.ref x1), .unset] [] := by first | (simp [entryFrame, mkF, argsToLocals, Value.category]; done) | rfl
set_option maxRecDepth 65536 in
set_option maxHeartbeats 40000000 in
theorem no_init (l : Launch) (Z : State) (a0 : Array Value) (hw : ∀ d ∈ tables_1, d.before a0 Z = true) (a o : Addr) (os : List Int32) (h0 : Heap) (n0 : Nat) (Z0 : n0 ≤ h0.size) (E_a : Exa Z h0 a "io/isoproof/check/polygraph/NodeOrder") (F_label_a : Fld Z h0 a "io/isoproof/check/polygraph/NodeOrder" "label" "[J" .null) (F_next_a : Fld Z h0 a "io/isoproof/check/polygraph/NodeOrder" "next" "[I" .null) (F_previous_a : Fld Z h0 a "io/isoproof/check/polygraph/NodeOrder" "previous" "[I" .null) (F_first_a : Fld Z h0 a "io/isoproof/check/polygraph/NodeOrder" "first" "I" (.int 0)) (A_o : Ai Z h0 o .int os) (ne_a_o : a ≠ o) (g_a : n0 ≤ a) (ok : own_ok os) :
    Con l Z (⟨"io/isoproof/check/polygraph/NodeOrder", "<init>", "([I)V"⟩ : MethodName) prog_29_method_1_code 3 none [] ({ frames := 1, cells := 3, slots := 12, locals := 40 } : Room) #[(.ref a), (.ref o)] h0 (fun v h L => v = none ∧ Fr n0 L ∧ Keep h0 h [a] ∧ ∃ lb nx ls ns, h0.size ≤ lb ∧ h0.size ≤ nx ∧ lb ≠ nx ∧ NO Z h a lb nx os ls ns) := by
  refine Con.mk (plainFor_of_name pn0) ?_
  intro p e s m below meth c T0 hx hby hml hown hnm hret hlk hZ X0 e0
  have hown : s.vm.findClass "io/isoproof/check/polygraph/NodeOrder" = some m.cls := hown
  have hnm : meth.name = "<init>" := hnm
  have N0 := Fr.nil n0
  have K0 := Keep.refl h0 [a]
  have hos := ok.1
  have loop : ∀ (lb nx pv : Addr) (ls : List Int64) (ne_a_lb : a ≠ lb) (ne_a_nx : a ≠ nx) (ne_a_pv : a ≠ pv) (ne_o_lb : o ≠ lb) (ne_o_nx : o ≠ nx) (ne_o_pv : o ≠ pv) (ne_lb_nx : lb ≠ nx) (ne_lb_pv : lb ≠ pv) (ne_nx_pv : nx ≠ pv) (g_lb : n0 ≤ lb) (sz_lb : h0.size ≤ lb) (g_nx : n0 ≤ nx) (sz_nx : h0.size ≤ nx) (g_pv : n0 ≤ pv) (sz_pv : h0.size ≤ pv) (r : Nat) (u : Nat) (ps ns : List Int32) (T : State) (locs : List Loc) (h1 : Heap) (X : Stand p l e ({ frames := 1, cells := 3, slots := 12, locals := 40 } : Room) s m #[(.ref a), (.ref o)] below meth c T locs 3 12) (e1 : T.heap = h1) (N1 : Fr n0 locs) (Z0 : n0 ≤ h1.size) (K0 : Keep h0 h1 [a]) (E_a : Exa Z h1 a "io/isoproof/check/polygraph/NodeOrder") (F_label_a : Fld Z h1 a "io/isoproof/check/polygraph/NodeOrder" "label" "[J" (.ref lb)) (F_next_a : Fld Z h1 a "io/isoproof/check/polygraph/NodeOrder" "next" "[I" (.ref nx)) (F_first_a : Fld Z h1 a "io/isoproof/check/polygraph/NodeOrder" "first" "I" (.int (own_cur os 0))) (A_lb : Al Z h1 lb ls) (A_nx : Ai Z h1 nx .int ns) (hll : ls.length = os.length) (F_previous_a : Fld Z h1 a "io/isoproof/check/polygraph/NodeOrder" "previous" "[I" (.ref pv)) (A_pv : Ai Z h1 pv .int ps) (A_o : Ai Z h1 o .int os) (hps : ps.length = os.length) (hN : own_nx os ns u) (hm : u + r = os.length), Go p e below s ({ frames := 1, cells := 3, slots := 12, locals := 40 } : Room) (fun v h L => v = none ∧ Fr n0 L ∧ Keep h0 h [a] ∧ ∃ lb nx ls ns, h0.size ≤ lb ∧ h0.size ≤ nx ∧ lb ≠ nx ∧ NO Z h a lb nx os ls ns) (T.setTop (mkF m 46 #[.val (.ref a), .val (.ref o), .val (.int u.toInt32)] [])) := by
    intro lb nx pv ls ne_a_lb ne_a_nx ne_a_pv ne_o_lb ne_o_nx ne_o_pv ne_lb_nx ne_lb_pv ne_nx_pv g_lb sz_lb g_nx sz_nx g_pv sz_pv r
    induction r with
    | zero =>
      intro u ps ns T locs h1 X e1 N1 Z0 K0 E_a F_label_a F_next_a F_first_a A_lb A_nx hll F_previous_a A_pv A_o hps hN hm
      have hu : u = os.length := by omega
      rw [hu] at hN
      refine Go.st (S' := T.setTop (mkF m 47 #[.val (.ref a), .val (.ref o), .val (.int u.toInt32)] [(.int u.toInt32)])) (fun _ k_ => XS.iloadN X.here hx rfl (hb hby d2_46) rfl k_) ?_
      refine Go.st (S' := T.setTop (mkF m 48 #[.val (.ref a), .val (.ref o), .val (.int u.toInt32)] [(.ref o), (.int u.toInt32)])) (fun _ k_ => XS.aloadN X.here hx rfl (hb hby d2_47) rfl rfl k_) ?_
      refine Go.st (S' := T.setTop (mkF m 49 #[.val (.ref a), .val (.ref o), .val (.int u.toInt32)] [(.int os.length.toInt32), (.int u.toInt32)])) (A_o.length X hx hZ e1 (n := os.length.toInt32) rfl (g := (mkF m 48 #[.val (.ref a), .val (.ref o), .val (.int u.toInt32)] [(.ref o), (.int u.toInt32)])) rfl rfl (hb hby d2_48)) ?_
      refine Go.st (S' := T.setTop (mkF m 104 #[.val (.ref a), .val (.ref o), .val (.int u.toInt32)] [])) (fun _ k_ => XS.icmpYes X.here hx rfl (pc0 := 49) (pc' := 104) rfl (hb hby d2_49) rfl (flt ((by rw [own_tlt (by omega) (by omega)]; omega))).2.1 (by decide) (by decide) k_) ?_
      refine Go.st (S' := T.setTop (mkF m 105 #[.val (.ref a), .val (.ref o), .val (.int u.toInt32)] [(.ref a)])) (fun _ k_ => XS.aloadN X.here hx rfl (hb hby d2_104) rfl rfl k_) ?_
      refine Go.st (S' := T.setTop (mkF m 106 #[.val (.ref a), .val (.ref o), .val (.int u.toInt32)] [(.ref a), (.ref a)])) (fun _ k_ => XS.aloadN X.here hx rfl (hb hby d2_105) rfl rfl k_) ?_
      obtain ⟨T11, X11, e11, st11⟩ := getF X hx hZ hown (host := "") (Or.inl (w22 hw)) Via.refl e1 F_first_a (g := (mkF m 106 #[.val (.ref a), .val (.ref o), .val (.int u.toInt32)] [(.ref a), (.ref a)])) rfl rfl (hb hby d2_106)
      refine Go.st (S' := T11.setTop (mkF m 109 #[.val (.ref a), .val (.ref o), .val (.int u.toInt32)] [(.int (own_cur os 0)), (.ref a)])) (st11) ?_
      refine Go.st (S' := T11.setTop (mkF m 110 #[.val (.ref a), .val (.ref o), .val (.int u.toInt32)] [(.ref a), (.int (own_cur os 0)), (.ref a)])) (fun _ k_ => XS.aloadN X11.here hx rfl (hb hby d2_109) rfl rfl k_) ?_
      obtain ⟨v12, T12, h12, L12, X12, e12, hQ12, st12⟩ := callPr X11 hx hZ hown (w24 hw) (w25 hw) (w7 hw) (w26 hw) (w8 hw) (w27 hw) (by decide) (W := 2) (argsL := []) (rest := [(.int (own_cur os 0)), (.ref a)]) e11 E_a (no_last l Z a0 hw a lb nx os ns ls h1 n0 Z0 ⟨E_a, F_label_a, F_next_a, F_first_a, A_lb, A_nx, hll, hN⟩ ok ne_a_lb ne_a_nx ne_lb_nx g_a g_lb) (by decide) (by decide) pd0 rfl (g := (mkF m 110 #[.val (.ref a), .val (.ref o), .val (.int u.toInt32)] [(.ref a), (.int (own_cur os 0)), (.ref a)])) rfl (by rw [hml]; rfl) rfl (by show 2 * 0 + _ ≤ _; exact Nat.le_of_eq rfl) (hb hby d2_110) (by decide) (by decide)
      obtain ⟨⟨x12, rfl⟩, Nq12, hh12⟩ := hQ12
      rw [hh12] at e12
      have N12 := Fr.app N1 Nq12
      refine Go.st (S' := T12.setTop (mkF m 113 #[.val (.ref a), .val (.ref o), .val (.int u.toInt32)] [(.int x12), (.int (own_cur os 0)), (.ref a)])) (st12) ?_
      refine Go.st (S' := T12.setTop (mkF m 114 #[.val (.ref a), .val (.ref o), .val (.int u.toInt32)] [(.long (0 : Int64)), (.int x12), (.int (own_cur os 0)), (.ref a)])) (fun _ k_ => XS.lconst X12.here hx rfl (hb hby d2_113) k_) ?_
      refine Go.st (S' := T12.setTop (mkF m 117 #[.val (.ref a), .val (.ref o), .val (.int u.toInt32)] [(.long (4611686018427387903 : Int64)), (.long (0 : Int64)), (.int x12), (.int (own_cur os 0)), (.ref a)])) (X12.ldc2Long hx hown (mvT hZ (w28 hw)) (g := (mkF m 114 #[.val (.ref a), .val (.ref o), .val (.int u.toInt32)] [(.long (0 : Int64)), (.int x12), (.int (own_cur os 0)), (.ref a)])) rfl (hb hby d2_114)) ?_
      refine Go.st (S' := T12.setTop (mkF m 118 #[.val (.ref a), .val (.ref o), .val (.int u.toInt32)] [(.ref o), (.long (4611686018427387903 : Int64)), (.long (0 : Int64)), (.int x12), (.int (own_cur os 0)), (.ref a)])) (fun _ k_ => XS.aloadN X12.here hx rfl (hb hby d2_117) rfl rfl k_) ?_
      refine Go.st (S' := T12.setTop (mkF m 119 #[.val (.ref a), .val (.ref o), .val (.int u.toInt32)] [(.int os.length.toInt32), (.long (4611686018427387903 : Int64)), (.long (0 : Int64)), (.int x12), (.int (own_cur os 0)), (.ref a)])) (A_o.length X12 hx hZ e12 (n := os.length.toInt32) rfl (g := (mkF m 118 #[.val (.ref a), .val (.ref o), .val (.int u.toInt32)] [(.ref o), (.long (4611686018427387903 : Int64)), (.long (0 : Int64)), (.int x12), (.int (own_cur os 0)), (.ref a)])) rfl rfl (hb hby d2_118)) ?_
      obtain ⟨v13, T13, h13, L13, X13, e13, hQ13, st13⟩ := callPr X12 hx hZ hown (w29 hw) (w30 hw) (w7 hw) (w31 hw) (w8 hw) (w32 hw) (by decide) (W := 0) (argsL := [(.int (own_cur os 0)), (.int x12), (.long (0 : Int64)), (.long (4611686018427387903 : Int64)), (.int os.length.toInt32)]) (rest := []) e12 E_a (no_relabel l Z a0 hw a lb nx os ns ls x12 (0 : Int64) (4611686018427387903 : Int64) os.length.toInt32 h1 n0 Z0 ⟨E_a, F_label_a, F_next_a, F_first_a, A_lb, A_nx, hll, hN⟩ ok ne_a_lb ne_a_nx ne_lb_nx g_a g_lb (own_cn (by omega))) (by decide) (by decide) pd1 rfl (g := (mkF m 119 #[.val (.ref a), .val (.ref o), .val (.int u.toInt32)] [(.int os.length.toInt32), (.long (4611686018427387903 : Int64)), (.long (0 : Int64)), (.int x12), (.int (own_cur os 0)), (.ref a)])) rfl (by rw [hml]; rfl) rfl (by show 2 * 0 + _ ≤ _; exact Nat.le_of_eq rfl) (hb hby d2_119) (by decide) (by decide)
      obtain ⟨rfl, Nq13, Kq13, hz13⟩ := hQ13
      have N13 := Fr.app N12 Nq13
      replace A_pv := A_pv.keep Kq13 (ninS (Ne.symm ne_lb_pv) nin0)
      replace A_o := A_o.keep Kq13 (ninS ne_o_lb nin0)
      replace Z0 := Nat.le_trans Z0 Kq13.1
      replace K0 := K0.trans Kq13 (allS (Or.inr sz_lb) all0)
      obtain ⟨lz13, HN13⟩ := hz13
      refine Go.st (S' := T13.setTop (mkF m 122 #[.val (.ref a), .val (.ref o), .val (.int u.toInt32)] [])) (st13) ?_
      exact Go.retV X13 hx hret hlk (hb hby d2_122) (by decide) (by decide) (by rw [e13]; exact ⟨rfl, N13, K0, lb, nx, lz13, ns, sz_lb, sz_nx, ne_lb_nx, HN13⟩)
    | succ r ih =>
      intro u ps ns T locs h1 X e1 N1 Z0 K0 E_a F_label_a F_next_a F_first_a A_lb A_nx hll F_previous_a A_pv A_o hps hN hm
      refine Go.st (S' := T.setTop (mkF m 47 #[.val (.ref a), .val (.ref o), .val (.int u.toInt32)] [(.int u.toInt32)])) (fun _ k_ => XS.iloadN X.here hx rfl (hb hby d2_46) rfl k_) ?_
      refine Go.st (S' := T.setTop (mkF m 48 #[.val (.ref a), .val (.ref o), .val (.int u.toInt32)] [(.ref o), (.int u.toInt32)])) (fun _ k_ => XS.aloadN X.here hx rfl (hb hby d2_47) rfl rfl k_) ?_
      refine Go.st (S' := T.setTop (mkF m 49 #[.val (.ref a), .val (.ref o), .val (.int u.toInt32)] [(.int os.length.toInt32), (.int u.toInt32)])) (A_o.length X hx hZ e1 (n := os.length.toInt32) rfl (g := (mkF m 48 #[.val (.ref a), .val (.ref o), .val (.int u.toInt32)] [(.ref o), (.int u.toInt32)])) rfl rfl (hb hby d2_48)) ?_
      refine Go.st (S' := T.setTop (mkF m 52 #[.val (.ref a), .val (.ref o), .val (.int u.toInt32)] [])) (fun _ k_ => XS.icmpNo X.here hx rfl (hb hby d2_49) rfl (tlt ((own_tlt (by omega) (by omega)).mpr (by omega))).2.1 k_) ?_
      refine Go.st (S' := T.setTop (mkF m 53 #[.val (.ref a), .val (.ref o), .val (.int u.toInt32)] [(.ref a)])) (fun _ k_ => XS.aloadN X.here hx rfl (hb hby d2_52) rfl rfl k_) ?_
      obtain ⟨T14, X14, e14, st14⟩ := getF X hx hZ hown (host := "") (Or.inl (w20 hw)) Via.refl e1 F_previous_a (g := (mkF m 53 #[.val (.ref a), .val (.ref o), .val (.int u.toInt32)] [(.ref a)])) rfl rfl (hb hby d2_53)
      refine Go.st (S' := T14.setTop (mkF m 56 #[.val (.ref a), .val (.ref o), .val (.int u.toInt32)] [(.ref pv)])) (st14) ?_
      refine Go.st (S' := T14.setTop (mkF m 57 #[.val (.ref a), .val (.ref o), .val (.int u.toInt32)] [(.ref o), (.ref pv)])) (fun _ k_ => XS.aloadN X14.here hx rfl (hb hby d2_56) rfl rfl k_) ?_
      refine Go.st (S' := T14.setTop (mkF m 58 #[.val (.ref a), .val (.ref o), .val (.int u.toInt32)] [(.int u.toInt32), (.ref o), (.ref pv)])) (fun _ k_ => XS.iloadN X14.here hx rfl (hb hby d2_57) rfl k_) ?_
      refine Go.st (S' := T14.setTop (mkF m 59 #[.val (.ref a), .val (.ref o), .val (.int u.toInt32)] [(.int (own_cur os u)), (.ref pv)])) (A_o.load X14 hx hZ e14 (j := u.toInt32) (v := (own_cur os u)) (own_tpos (by omega)) (by rw [own_tn (by omega)]; exact own_gd (by omega)) (g := (mkF m 58 #[.val (.ref a), .val (.ref o), .val (.int u.toInt32)] [(.int u.toInt32), (.ref o), (.ref pv)])) rfl rfl (hb hby d2_58)) ?_
      refine Go.st (S' := T14.setTop (mkF m 60 #[.val (.ref a), .val (.ref o), .val (.int u.toInt32)] [(.int u.toInt32), (.int (own_cur os u)), (.ref pv)])) (fun _ k_ => XS.iloadN X14.here hx rfl (hb hby d2_59) rfl k_) ?_
      by_cases hc60 : (0 : Int32) < u.toInt32
      · skip
        refine Go.st (S' := T14.setTop (mkF m 63 #[.val (.ref a), .val (.ref o), .val (.int u.toInt32)] [(.int (own_cur os u)), (.ref pv)])) (fun _ k_ => XS.ifNo X14.here hx rfl (hb hby d2_60) rfl ((if0 _ _).trans (tlt hc60).2.2.2) k_) ?_
        refine Go.st (S' := T14.setTop (mkF m 64 #[.val (.ref a), .val (.ref o), .val (.int u.toInt32)] [(.ref o), (.int (own_cur os u)), (.ref pv)])) (fun _ k_ => XS.aloadN X14.here hx rfl (hb hby d2_63) rfl rfl k_) ?_
        refine Go.st (S' := T14.setTop (mkF m 65 #[.val (.ref a), .val (.ref o), .val (.int u.toInt32)] [(.int u.toInt32), (.ref o), (.int (own_cur os u)), (.ref pv)])) (fun _ k_ => XS.iloadN X14.here hx rfl (hb hby d2_64) rfl k_) ?_
        refine Go.st (S' := T14.setTop (mkF m 66 #[.val (.ref a), .val (.ref o), .val (.int u.toInt32)] [(.int (1 : Int32)), (.int u.toInt32), (.ref o), (.int (own_cur os u)), (.ref pv)])) (fun _ k_ => XS.iconst X14.here hx rfl (hb hby d2_65) k_) ?_
        refine Go.st (S' := T14.setTop (mkF m 67 #[.val (.ref a), .val (.ref o), .val (.int u.toInt32)] [(.int (u.toInt32 - (1 : Int32))), (.ref o), (.int (own_cur os u)), (.ref pv)])) (fun _ k_ => XS.isub X14.here hx rfl (hb hby d2_66) rfl k_) ?_
        refine Go.st (S' := T14.setTop (mkF m 68 #[.val (.ref a), .val (.ref o), .val (.int u.toInt32)] [(.int (own_cur os (u - 1))), (.int (own_cur os u)), (.ref pv)])) (A_o.load X14 hx hZ e14 (j := (u.toInt32 - (1 : Int32))) (v := (own_cur os (u - 1))) (by rw [show u.toInt32 - (1 : Int32) = (u - 1).toInt32 from (own_tsub (n := u) (m := 1) (by have q := hc60; rw [show (0 : Int32) = (0 : Nat).toInt32 from rfl, own_tlt (by omega) (by omega)] at q; omega))]; exact own_tpos (by omega)) (by rw [show u.toInt32 - (1 : Int32) = (u - 1).toInt32 from (own_tsub (n := u) (m := 1) (by have q := hc60; rw [show (0 : Int32) = (0 : Nat).toInt32 from rfl, own_tlt (by omega) (by omega)] at q; omega)), own_tn (by omega)]; exact own_gd (by omega)) (g := (mkF m 67 #[.val (.ref a), .val (.ref o), .val (.int u.toInt32)] [(.int (u.toInt32 - (1 : Int32))), (.ref o), (.int (own_cur os u)), (.ref pv)])) rfl rfl (hb hby d2_67)) ?_
        refine Go.st (S' := T14.setTop (mkF m 72 #[.val (.ref a), .val (.ref o), .val (.int u.toInt32)] [(.int (own_cur os (u - 1))), (.int (own_cur os u)), (.ref pv)])) (fun _ k_ => XS.goto X14.here hx rfl (pc0 := 68) (pc' := 72) rfl (hb hby d2_68) (by decide) (by decide) k_) ?_
        obtain ⟨T15, h15, X15, e15, W15, A15, st15⟩ := A_pv.store X14 hx hZ e14 (j := (own_cur os u)) (ok.2.1 u _ (own_gd (by omega))).1 (by rw [hps]; exact (ok.2.1 u _ (own_gd (by omega))).2) (g := (mkF m 72 #[.val (.ref a), .val (.ref o), .val (.int u.toInt32)] [(.int (own_cur os (u - 1))), (.int (own_cur os u)), (.ref pv)])) rfl rfl (hb hby d2_72)
        replace A_pv : Ai Z h15 pv .int (ps.set (own_cur os u).toNatClampNeg (own_cur os (u - 1))) := A15
        replace E_a := E_a.wr W15
        replace F_label_a := F_label_a.other W15 (Or.inl ne_a_pv)
        replace F_next_a := F_next_a.other W15 (Or.inl ne_a_pv)
        replace F_previous_a := F_previous_a.other W15 (Or.inl ne_a_pv)
        replace F_first_a := F_first_a.other W15 (Or.inl ne_a_pv)
        replace A_lb := A_lb.other W15 ne_lb_pv
        replace A_nx := A_nx.other W15 ne_nx_pv
        replace A_o := A_o.other W15 ne_o_pv
        replace Z0 := Nat.le_trans Z0 (Keep.of_wr W15).1
        replace K0 := K0.wr W15 (Or.inr sz_pv)
        have N15 := Fr.snoc X15 N1 g_pv
        refine Go.st (S' := T15.setTop (mkF m 73 #[.val (.ref a), .val (.ref o), .val (.int u.toInt32)] [])) (st15) ?_
        refine Go.st (S' := T15.setTop (mkF m 74 #[.val (.ref a), .val (.ref o), .val (.int u.toInt32)] [(.ref a)])) (fun _ k_ => XS.aloadN X15.here hx rfl (hb hby d2_73) rfl rfl k_) ?_
        obtain ⟨T16, X16, e16, st16⟩ := getF X15 hx hZ hown (host := "") (Or.inl (w18 hw)) Via.refl e15 F_next_a (g := (mkF m 74 #[.val (.ref a), .val (.ref o), .val (.int u.toInt32)] [(.ref a)])) rfl rfl (hb hby d2_74)
        refine Go.st (S' := T16.setTop (mkF m 77 #[.val (.ref a), .val (.ref o), .val (.int u.toInt32)] [(.ref nx)])) (st16) ?_
        refine Go.st (S' := T16.setTop (mkF m 78 #[.val (.ref a), .val (.ref o), .val (.int u.toInt32)] [(.ref o), (.ref nx)])) (fun _ k_ => XS.aloadN X16.here hx rfl (hb hby d2_77) rfl rfl k_) ?_
        refine Go.st (S' := T16.setTop (mkF m 79 #[.val (.ref a), .val (.ref o), .val (.int u.toInt32)] [(.int u.toInt32), (.ref o), (.ref nx)])) (fun _ k_ => XS.iloadN X16.here hx rfl (hb hby d2_78) rfl k_) ?_
        refine Go.st (S' := T16.setTop (mkF m 80 #[.val (.ref a), .val (.ref o), .val (.int u.toInt32)] [(.int (own_cur os u)), (.ref nx)])) (A_o.load X16 hx hZ e16 (j := u.toInt32) (v := (own_cur os u)) (own_tpos (by omega)) (by rw [own_tn (by omega)]; exact own_gd (by omega)) (g := (mkF m 79 #[.val (.ref a), .val (.ref o), .val (.int u.toInt32)] [(.int u.toInt32), (.ref o), (.ref nx)])) rfl rfl (hb hby d2_79)) ?_
        refine Go.st (S' := T16.setTop (mkF m 81 #[.val (.ref a), .val (.ref o), .val (.int u.toInt32)] [(.int u.toInt32), (.int (own_cur os u)), (.ref nx)])) (fun _ k_ => XS.iloadN X16.here hx rfl (hb hby d2_80) rfl k_) ?_
        refine Go.st (S' := T16.setTop (mkF m 82 #[.val (.ref a), .val (.ref o), .val (.int u.toInt32)] [(.int (1 : Int32)), (.int u.toInt32), (.int (own_cur os u)), (.ref nx)])) (fun _ k_ => XS.iconst X16.here hx rfl (hb hby d2_81) k_) ?_
        refine Go.st (S' := T16.setTop (mkF m 83 #[.val (.ref a), .val (.ref o), .val (.int u.toInt32)] [(.int (u.toInt32 + (1 : Int32))), (.int (own_cur os u)), (.ref nx)])) (fun _ k_ => XS.iadd X16.here hx rfl (hb hby d2_82) rfl k_) ?_
        refine Go.st (S' := T16.setTop (mkF m 84 #[.val (.ref a), .val (.ref o), .val (.int u.toInt32)] [(.ref o), (.int (u.toInt32 + (1 : Int32))), (.int (own_cur os u)), (.ref nx)])) (fun _ k_ => XS.aloadN X16.here hx rfl (hb hby d2_83) rfl rfl k_) ?_
        refine Go.st (S' := T16.setTop (mkF m 85 #[.val (.ref a), .val (.ref o), .val (.int u.toInt32)] [(.int os.length.toInt32), (.int (u.toInt32 + (1 : Int32))), (.int (own_cur os u)), (.ref nx)])) (A_o.length X16 hx hZ e16 (n := os.length.toInt32) rfl (g := (mkF m 84 #[.val (.ref a), .val (.ref o), .val (.int u.toInt32)] [(.ref o), (.int (u.toInt32 + (1 : Int32))), (.int (own_cur os u)), (.ref nx)])) rfl rfl (hb hby d2_84)) ?_
        by_cases hc85 : (u.toInt32 + (1 : Int32)) < os.length.toInt32
        · skip
          refine Go.st (S' := T16.setTop (mkF m 88 #[.val (.ref a), .val (.ref o), .val (.int u.toInt32)] [(.int (own_cur os u)), (.ref nx)])) (fun _ k_ => XS.icmpNo X16.here hx rfl (hb hby d2_85) rfl (tlt hc85).2.1 k_) ?_
          refine Go.st (S' := T16.setTop (mkF m 89 #[.val (.ref a), .val (.ref o), .val (.int u.toInt32)] [(.ref o), (.int (own_cur os u)), (.ref nx)])) (fun _ k_ => XS.aloadN X16.here hx rfl (hb hby d2_88) rfl rfl k_) ?_
          refine Go.st (S' := T16.setTop (mkF m 90 #[.val (.ref a), .val (.ref o), .val (.int u.toInt32)] [(.int u.toInt32), (.ref o), (.int (own_cur os u)), (.ref nx)])) (fun _ k_ => XS.iloadN X16.here hx rfl (hb hby d2_89) rfl k_) ?_
          refine Go.st (S' := T16.setTop (mkF m 91 #[.val (.ref a), .val (.ref o), .val (.int u.toInt32)] [(.int (1 : Int32)), (.int u.toInt32), (.ref o), (.int (own_cur os u)), (.ref nx)])) (fun _ k_ => XS.iconst X16.here hx rfl (hb hby d2_90) k_) ?_
          refine Go.st (S' := T16.setTop (mkF m 92 #[.val (.ref a), .val (.ref o), .val (.int u.toInt32)] [(.int (u.toInt32 + (1 : Int32))), (.ref o), (.int (own_cur os u)), (.ref nx)])) (fun _ k_ => XS.iadd X16.here hx rfl (hb hby d2_91) rfl k_) ?_
          refine Go.st (S' := T16.setTop (mkF m 93 #[.val (.ref a), .val (.ref o), .val (.int u.toInt32)] [(.int (own_cur os (u + 1))), (.int (own_cur os u)), (.ref nx)])) (A_o.load X16 hx hZ e16 (j := (u.toInt32 + (1 : Int32))) (v := (own_cur os (u + 1))) (by rw [own_t1]; exact own_tpos (by omega)) (by rw [own_t1, own_tn (by omega)]; exact own_gd (by have q := hc85; rw [own_t1, own_tlt (by omega) (by omega)] at q; exact q)) (g := (mkF m 92 #[.val (.ref a), .val (.ref o), .val (.int u.toInt32)] [(.int (u.toInt32 + (1 : Int32))), (.ref o), (.int (own_cur os u)), (.ref nx)])) rfl rfl (hb hby d2_92)) ?_
          refine Go.st (S' := T16.setTop (mkF m 97 #[.val (.ref a), .val (.ref o), .val (.int u.toInt32)] [(.int (own_cur os (u + 1))), (.int (own_cur os u)), (.ref nx)])) (fun _ k_ => XS.goto X16.here hx rfl (pc0 := 93) (pc' := 97) rfl (hb hby d2_93) (by decide) (by decide) k_) ?_
          obtain ⟨T17, h17, X17, e17, W17, A17, st17⟩ := A_nx.store X16 hx hZ e16 (j := (own_cur os u)) (ok.2.1 u _ (own_gd (by omega))).1 (by rw [hN.1]; exact (ok.2.1 u _ (own_gd (by omega))).2) (g := (mkF m 97 #[.val (.ref a), .val (.ref o), .val (.int u.toInt32)] [(.int (own_cur os (u + 1))), (.int (own_cur os u)), (.ref nx)])) rfl rfl (hb hby d2_97)
          replace A_nx : Ai Z h17 nx .int (ns.set (own_cur os u).toNatClampNeg (own_cur os (u + 1))) := A17
          replace E_a := E_a.wr W17
          replace F_label_a := F_label_a.other W17 (Or.inl ne_a_nx)
          replace F_next_a := F_next_a.other W17 (Or.inl ne_a_nx)
          replace F_previous_a := F_previous_a.other W17 (Or.inl ne_a_nx)
          replace F_first_a := F_first_a.other W17 (Or.inl ne_a_nx)
          replace A_lb := A_lb.other W17 ne_lb_nx
          replace A_pv := A_pv.other W17 (Ne.symm ne_nx_pv)
          replace A_o := A_o.other W17 ne_o_nx
          replace Z0 := Nat.le_trans Z0 (Keep.of_wr W17).1
          replace K0 := K0.wr W17 (Or.inr sz_nx)
          have N17 := Fr.snoc X17 N15 g_nx
          refine Go.st (S' := T17.setTop (mkF m 98 #[.val (.ref a), .val (.ref o), .val (.int u.toInt32)] [])) (st17) ?_
          refine Go.st (S' := T17.setTop (mkF m 101 #[.val (.ref a), .val (.ref o), .val (.int (u.toInt32 + (1 : Int32)))] [])) (fun _ k_ => XS.iinc X17.here hx rfl (hb hby d2_98) rfl (l' := #[.val (.ref a), .val (.ref o), .val (.int (u.toInt32 + (1 : Int32)))]) rfl k_) ?_
          rw [show (u.toInt32 + (1 : Int32)) = (u + 1).toInt32 from own_t1 _]
          refine Go.st (S' := T17.setTop (mkF m 46 #[.val (.ref a), .val (.ref o), .val (.int (u + 1).toInt32)] [])) (fun _ k_ => XS.goto X17.here hx rfl (pc0 := 101) (pc' := 46) rfl (hb hby d2_101) (by decide) (by decide) k_) ?_
          exact ih (u + 1) _ _ _ _ _ X17 e17 N17 Z0 K0 E_a F_label_a F_next_a F_first_a A_lb A_nx hll F_previous_a A_pv A_o (by rw [List.length_set]; exact hps) (hN.step ok (own_gd (by omega))) (by omega)
        · skip
          refine Go.st (S' := T16.setTop (mkF m 96 #[.val (.ref a), .val (.ref o), .val (.int u.toInt32)] [(.int (own_cur os u)), (.ref nx)])) (fun _ k_ => XS.icmpYes X16.here hx rfl (pc0 := 85) (pc' := 96) rfl (hb hby d2_85) rfl (flt hc85).2.1 (by decide) (by decide) k_) ?_
          refine Go.st (S' := T16.setTop (mkF m 97 #[.val (.ref a), .val (.ref o), .val (.int u.toInt32)] [(.int (-1 : Int32)), (.int (own_cur os u)), (.ref nx)])) (fun _ k_ => XS.iconst X16.here hx rfl (hb hby d2_96) k_) ?_
          rw [show (-1 : Int32) = own_cur os (u + 1) from (own_gdn (by have q := hc85; rw [own_t1, own_tlt (by omega) (by omega)] at q; omega)).symm]
          obtain ⟨T18, h18, X18, e18, W18, A18, st18⟩ := A_nx.store X16 hx hZ e16 (j := (own_cur os u)) (ok.2.1 u _ (own_gd (by omega))).1 (by rw [hN.1]; exact (ok.2.1 u _ (own_gd (by omega))).2) (g := (mkF m 97 #[.val (.ref a), .val (.ref o), .val (.int u.toInt32)] [(.int (own_cur os (u + 1))), (.int (own_cur os u)), (.ref nx)])) rfl rfl (hb hby d2_97)
          replace A_nx : Ai Z h18 nx .int (ns.set (own_cur os u).toNatClampNeg (own_cur os (u + 1))) := A18
          replace E_a := E_a.wr W18
          replace F_label_a := F_label_a.other W18 (Or.inl ne_a_nx)
          replace F_next_a := F_next_a.other W18 (Or.inl ne_a_nx)
          replace F_previous_a := F_previous_a.other W18 (Or.inl ne_a_nx)
          replace F_first_a := F_first_a.other W18 (Or.inl ne_a_nx)
          replace A_lb := A_lb.other W18 ne_lb_nx
          replace A_pv := A_pv.other W18 (Ne.symm ne_nx_pv)
          replace A_o := A_o.other W18 ne_o_nx
          replace Z0 := Nat.le_trans Z0 (Keep.of_wr W18).1
          replace K0 := K0.wr W18 (Or.inr sz_nx)
          have N18 := Fr.snoc X18 N15 g_nx
          refine Go.st (S' := T18.setTop (mkF m 98 #[.val (.ref a), .val (.ref o), .val (.int u.toInt32)] [])) (st18) ?_
          refine Go.st (S' := T18.setTop (mkF m 101 #[.val (.ref a), .val (.ref o), .val (.int (u.toInt32 + (1 : Int32)))] [])) (fun _ k_ => XS.iinc X18.here hx rfl (hb hby d2_98) rfl (l' := #[.val (.ref a), .val (.ref o), .val (.int (u.toInt32 + (1 : Int32)))]) rfl k_) ?_
          rw [show (u.toInt32 + (1 : Int32)) = (u + 1).toInt32 from own_t1 _]
          refine Go.st (S' := T18.setTop (mkF m 46 #[.val (.ref a), .val (.ref o), .val (.int (u + 1).toInt32)] [])) (fun _ k_ => XS.goto X18.here hx rfl (pc0 := 101) (pc' := 46) rfl (hb hby d2_101) (by decide) (by decide) k_) ?_
          exact ih (u + 1) _ _ _ _ _ X18 e18 N18 Z0 K0 E_a F_label_a F_next_a F_first_a A_lb A_nx hll F_previous_a A_pv A_o (by rw [List.length_set]; exact hps) (hN.step ok (own_gd (by omega))) (by omega)
      · skip
        refine Go.st (S' := T14.setTop (mkF m 71 #[.val (.ref a), .val (.ref o), .val (.int u.toInt32)] [(.int (own_cur os u)), (.ref pv)])) (fun _ k_ => XS.ifYes X14.here hx rfl (pc0 := 60) (pc' := 71) rfl (hb hby d2_60) rfl ((if0 _ _).trans (flt hc60).2.2.2) (by decide) (by decide) k_) ?_
        refine Go.st (S' := T14.setTop (mkF m 72 #[.val (.ref a), .val (.ref o), .val (.int u.toInt32)] [(.int (-1 : Int32)), (.int (own_cur os u)), (.ref pv)])) (fun _ k_ => XS.iconst X14.here hx rfl (hb hby d2_71) k_) ?_
        obtain ⟨T19, h19, X19, e19, W19, A19, st19⟩ := A_pv.store X14 hx hZ e14 (j := (own_cur os u)) (ok.2.1 u _ (own_gd (by omega))).1 (by rw [hps]; exact (ok.2.1 u _ (own_gd (by omega))).2) (g := (mkF m 72 #[.val (.ref a), .val (.ref o), .val (.int u.toInt32)] [(.int (-1 : Int32)), (.int (own_cur os u)), (.ref pv)])) rfl rfl (hb hby d2_72)
        replace A_pv : Ai Z h19 pv .int (ps.set (own_cur os u).toNatClampNeg (-1 : Int32)) := A19
        replace E_a := E_a.wr W19
        replace F_label_a := F_label_a.other W19 (Or.inl ne_a_pv)
        replace F_next_a := F_next_a.other W19 (Or.inl ne_a_pv)
        replace F_previous_a := F_previous_a.other W19 (Or.inl ne_a_pv)
        replace F_first_a := F_first_a.other W19 (Or.inl ne_a_pv)
        replace A_lb := A_lb.other W19 ne_lb_pv
        replace A_nx := A_nx.other W19 ne_nx_pv
        replace A_o := A_o.other W19 ne_o_pv
        replace Z0 := Nat.le_trans Z0 (Keep.of_wr W19).1
        replace K0 := K0.wr W19 (Or.inr sz_pv)
        have N19 := Fr.snoc X19 N1 g_pv
        refine Go.st (S' := T19.setTop (mkF m 73 #[.val (.ref a), .val (.ref o), .val (.int u.toInt32)] [])) (st19) ?_
        refine Go.st (S' := T19.setTop (mkF m 74 #[.val (.ref a), .val (.ref o), .val (.int u.toInt32)] [(.ref a)])) (fun _ k_ => XS.aloadN X19.here hx rfl (hb hby d2_73) rfl rfl k_) ?_
        obtain ⟨T20, X20, e20, st20⟩ := getF X19 hx hZ hown (host := "") (Or.inl (w18 hw)) Via.refl e19 F_next_a (g := (mkF m 74 #[.val (.ref a), .val (.ref o), .val (.int u.toInt32)] [(.ref a)])) rfl rfl (hb hby d2_74)
        refine Go.st (S' := T20.setTop (mkF m 77 #[.val (.ref a), .val (.ref o), .val (.int u.toInt32)] [(.ref nx)])) (st20) ?_
        refine Go.st (S' := T20.setTop (mkF m 78 #[.val (.ref a), .val (.ref o), .val (.int u.toInt32)] [(.ref o), (.ref nx)])) (fun _ k_ => XS.aloadN X20.here hx rfl (hb hby d2_77) rfl rfl k_) ?_
        refine Go.st (S' := T20.setTop (mkF m 79 #[.val (.ref a), .val (.ref o), .val (.int u.toInt32)] [(.int u.toInt32), (.ref o), (.ref nx)])) (fun _ k_ => XS.iloadN X20.here hx rfl (hb hby d2_78) rfl k_) ?_
        refine Go.st (S' := T20.setTop (mkF m 80 #[.val (.ref a), .val (.ref o), .val (.int u.toInt32)] [(.int (own_cur os u)), (.ref nx)])) (A_o.load X20 hx hZ e20 (j := u.toInt32) (v := (own_cur os u)) (own_tpos (by omega)) (by rw [own_tn (by omega)]; exact own_gd (by omega)) (g := (mkF m 79 #[.val (.ref a), .val (.ref o), .val (.int u.toInt32)] [(.int u.toInt32), (.ref o), (.ref nx)])) rfl rfl (hb hby d2_79)) ?_
        refine Go.st (S' := T20.setTop (mkF m 81 #[.val (.ref a), .val (.ref o), .val (.int u.toInt32)] [(.int u.toInt32), (.int (own_cur os u)), (.ref nx)])) (fun _ k_ => XS.iloadN X20.here hx rfl (hb hby d2_80) rfl k_) ?_
        refine Go.st (S' := T20.setTop (mkF m 82 #[.val (.ref a), .val (.ref o), .val (.int u.toInt32)] [(.int (1 : Int32)), (.int u.toInt32), (.int (own_cur os u)), (.ref nx)])) (fun _ k_ => XS.iconst X20.here hx rfl (hb hby d2_81) k_) ?_
        refine Go.st (S' := T20.setTop (mkF m 83 #[.val (.ref a), .val (.ref o), .val (.int u.toInt32)] [(.int (u.toInt32 + (1 : Int32))), (.int (own_cur os u)), (.ref nx)])) (fun _ k_ => XS.iadd X20.here hx rfl (hb hby d2_82) rfl k_) ?_
        refine Go.st (S' := T20.setTop (mkF m 84 #[.val (.ref a), .val (.ref o), .val (.int u.toInt32)] [(.ref o), (.int (u.toInt32 + (1 : Int32))), (.int (own_cur os u)), (.ref nx)])) (fun _ k_ => XS.aloadN X20.here hx rfl (hb hby d2_83) rfl rfl k_) ?_
        refine Go.st (S' := T20.setTop (mkF m 85 #[.val (.ref a), .val (.ref o), .val (.int u.toInt32)] [(.int os.length.toInt32), (.int (u.toInt32 + (1 : Int32))), (.int (own_cur os u)), (.ref nx)])) (A_o.length X20 hx hZ e20 (n := os.length.toInt32) rfl (g := (mkF m 84 #[.val (.ref a), .val (.ref o), .val (.int u.toInt32)] [(.ref o), (.int (u.toInt32 + (1 : Int32))), (.int (own_cur os u)), (.ref nx)])) rfl rfl (hb hby d2_84)) ?_
        by_cases hc85 : (u.toInt32 + (1 : Int32)) < os.length.toInt32
        · skip
          refine Go.st (S' := T20.setTop (mkF m 88 #[.val (.ref a), .val (.ref o), .val (.int u.toInt32)] [(.int (own_cur os u)), (.ref nx)])) (fun _ k_ => XS.icmpNo X20.here hx rfl (hb hby d2_85) rfl (tlt hc85).2.1 k_) ?_
          refine Go.st (S' := T20.setTop (mkF m 89 #[.val (.ref a), .val (.ref o), .val (.int u.toInt32)] [(.ref o), (.int (own_cur os u)), (.ref nx)])) (fun _ k_ => XS.aloadN X20.here hx rfl (hb hby d2_88) rfl rfl k_) ?_
          refine Go.st (S' := T20.setTop (mkF m 90 #[.val (.ref a), .val (.ref o), .val (.int u.toInt32)] [(.int u.toInt32), (.ref o), (.int (own_cur os u)), (.ref nx)])) (fun _ k_ => XS.iloadN X20.here hx rfl (hb hby d2_89) rfl k_) ?_
          refine Go.st (S' := T20.setTop (mkF m 91 #[.val (.ref a), .val (.ref o), .val (.int u.toInt32)] [(.int (1 : Int32)), (.int u.toInt32), (.ref o), (.int (own_cur os u)), (.ref nx)])) (fun _ k_ => XS.iconst X20.here hx rfl (hb hby d2_90) k_) ?_
          refine Go.st (S' := T20.setTop (mkF m 92 #[.val (.ref a), .val (.ref o), .val (.int u.toInt32)] [(.int (u.toInt32 + (1 : Int32))), (.ref o), (.int (own_cur os u)), (.ref nx)])) (fun _ k_ => XS.iadd X20.here hx rfl (hb hby d2_91) rfl k_) ?_
          refine Go.st (S' := T20.setTop (mkF m 93 #[.val (.ref a), .val (.ref o), .val (.int u.toInt32)] [(.int (own_cur os (u + 1))), (.int (own_cur os u)), (.ref nx)])) (A_o.load X20 hx hZ e20 (j := (u.toInt32 + (1 : Int32))) (v := (own_cur os (u + 1))) (by rw [own_t1]; exact own_tpos (by omega)) (by rw [own_t1, own_tn (by omega)]; exact own_gd (by have q := hc85; rw [own_t1, own_tlt (by omega) (by omega)] at q; exact q)) (g := (mkF m 92 #[.val (.ref a), .val (.ref o), .val (.int u.toInt32)] [(.int (u.toInt32 + (1 : Int32))), (.ref o), (.int (own_cur os u)), (.ref nx)])) rfl rfl (hb hby d2_92)) ?_
          refine Go.st (S' := T20.setTop (mkF m 97 #[.val (.ref a), .val (.ref o), .val (.int u.toInt32)] [(.int (own_cur os (u + 1))), (.int (own_cur os u)), (.ref nx)])) (fun _ k_ => XS.goto X20.here hx rfl (pc0 := 93) (pc' := 97) rfl (hb hby d2_93) (by decide) (by decide) k_) ?_
          obtain ⟨T21, h21, X21, e21, W21, A21, st21⟩ := A_nx.store X20 hx hZ e20 (j := (own_cur os u)) (ok.2.1 u _ (own_gd (by omega))).1 (by rw [hN.1]; exact (ok.2.1 u _ (own_gd (by omega))).2) (g := (mkF m 97 #[.val (.ref a), .val (.ref o), .val (.int u.toInt32)] [(.int (own_cur os (u + 1))), (.int (own_cur os u)), (.ref nx)])) rfl rfl (hb hby d2_97)
          replace A_nx : Ai Z h21 nx .int (ns.set (own_cur os u).toNatClampNeg (own_cur os (u + 1))) := A21
          replace E_a := E_a.wr W21
          replace F_label_a := F_label_a.other W21 (Or.inl ne_a_nx)
          replace F_next_a := F_next_a.other W21 (Or.inl ne_a_nx)
          replace F_previous_a := F_previous_a.other W21 (Or.inl ne_a_nx)
          replace F_first_a := F_first_a.other W21 (Or.inl ne_a_nx)
          replace A_lb := A_lb.other W21 ne_lb_nx
          replace A_pv := A_pv.other W21 (Ne.symm ne_nx_pv)
          replace A_o := A_o.other W21 ne_o_nx
          replace Z0 := Nat.le_trans Z0 (Keep.of_wr W21).1
          replace K0 := K0.wr W21 (Or.inr sz_nx)
          have N21 := Fr.snoc X21 N19 g_nx
          refine Go.st (S' := T21.setTop (mkF m 98 #[.val (.ref a), .val (.ref o), .val (.int u.toInt32)] [])) (st21) ?_
          refine Go.st (S' := T21.setTop (mkF m 101 #[.val (.ref a), .val (.ref o), .val (.int (u.toInt32 + (1 : Int32)))] [])) (fun _ k_ => XS.iinc X21.here hx rfl (hb hby d2_98) rfl (l' := #[.val (.ref a), .val (.ref o), .val (.int (u.toInt32 + (1 : Int32)))]) rfl k_) ?_
          rw [show (u.toInt32 + (1 : Int32)) = (u + 1).toInt32 from own_t1 _]
          refine Go.st (S' := T21.setTop (mkF m 46 #[.val (.ref a), .val (.ref o), .val (.int (u + 1).toInt32)] [])) (fun _ k_ => XS.goto X21.here hx rfl (pc0 := 101) (pc' := 46) rfl (hb hby d2_101) (by decide) (by decide) k_) ?_
          exact ih (u + 1) _ _ _ _ _ X21 e21 N21 Z0 K0 E_a F_label_a F_next_a F_first_a A_lb A_nx hll F_previous_a A_pv A_o (by rw [List.length_set]; exact hps) (hN.step ok (own_gd (by omega))) (by omega)
        · skip
          refine Go.st (S' := T20.setTop (mkF m 96 #[.val (.ref a), .val (.ref o), .val (.int u.toInt32)] [(.int (own_cur os u)), (.ref nx)])) (fun _ k_ => XS.icmpYes X20.here hx rfl (pc0 := 85) (pc' := 96) rfl (hb hby d2_85) rfl (flt hc85).2.1 (by decide) (by decide) k_) ?_
          refine Go.st (S' := T20.setTop (mkF m 97 #[.val (.ref a), .val (.ref o), .val (.int u.toInt32)] [(.int (-1 : Int32)), (.int (own_cur os u)), (.ref nx)])) (fun _ k_ => XS.iconst X20.here hx rfl (hb hby d2_96) k_) ?_
          rw [show (-1 : Int32) = own_cur os (u + 1) from (own_gdn (by have q := hc85; rw [own_t1, own_tlt (by omega) (by omega)] at q; omega)).symm]
          obtain ⟨T22, h22, X22, e22, W22, A22, st22⟩ := A_nx.store X20 hx hZ e20 (j := (own_cur os u)) (ok.2.1 u _ (own_gd (by omega))).1 (by rw [hN.1]; exact (ok.2.1 u _ (own_gd (by omega))).2) (g := (mkF m 97 #[.val (.ref a), .val (.ref o), .val (.int u.toInt32)] [(.int (own_cur os (u + 1))), (.int (own_cur os u)), (.ref nx)])) rfl rfl (hb hby d2_97)
          replace A_nx : Ai Z h22 nx .int (ns.set (own_cur os u).toNatClampNeg (own_cur os (u + 1))) := A22
          replace E_a := E_a.wr W22
          replace F_label_a := F_label_a.other W22 (Or.inl ne_a_nx)
          replace F_next_a := F_next_a.other W22 (Or.inl ne_a_nx)
          replace F_previous_a := F_previous_a.other W22 (Or.inl ne_a_nx)
          replace F_first_a := F_first_a.other W22 (Or.inl ne_a_nx)
          replace A_lb := A_lb.other W22 ne_lb_nx
          replace A_pv := A_pv.other W22 (Ne.symm ne_nx_pv)
          replace A_o := A_o.other W22 ne_o_nx
          replace Z0 := Nat.le_trans Z0 (Keep.of_wr W22).1
          replace K0 := K0.wr W22 (Or.inr sz_nx)
          have N22 := Fr.snoc X22 N19 g_nx
          refine Go.st (S' := T22.setTop (mkF m 98 #[.val (.ref a), .val (.ref o), .val (.int u.toInt32)] [])) (st22) ?_
          refine Go.st (S' := T22.setTop (mkF m 101 #[.val (.ref a), .val (.ref o), .val (.int (u.toInt32 + (1 : Int32)))] [])) (fun _ k_ => XS.iinc X22.here hx rfl (hb hby d2_98) rfl (l' := #[.val (.ref a), .val (.ref o), .val (.int (u.toInt32 + (1 : Int32)))]) rfl k_) ?_
          rw [show (u.toInt32 + (1 : Int32)) = (u + 1).toInt32 from own_t1 _]
          refine Go.st (S' := T22.setTop (mkF m 46 #[.val (.ref a), .val (.ref o), .val (.int (u + 1).toInt32)] [])) (fun _ k_ => XS.goto X22.here hx rfl (pc0 := 101) (pc' := 46) rfl (hb hby d2_101) (by decide) (by decide) k_) ?_
          exact ih (u + 1) _ _ _ _ _ X22 e22 N22 Z0 K0 E_a F_label_a F_next_a F_first_a A_lb A_nx hll F_previous_a A_pv A_o (by rw [List.length_set]; exact hps) (hN.step ok (own_gd (by omega))) (by omega)
  refine Go.cast (ef_no_init m a o) ?_
  refine Go.st (S' := T0.setTop (mkF m 1 #[.val (.ref a), .val (.ref o), .unset] [(.ref a)])) (fun _ k_ => XS.aloadN X0.here hx rfl (hb hby d2_0) rfl rfl k_) ?_
  obtain ⟨T23, X23, e23, st23⟩ := initO X0 hx hZ hown (w12 hw) (w13 hw) (w14 hw) e0 (g := (mkF m 1 #[.val (.ref a), .val (.ref o), .unset] [(.ref a)])) rfl (by rw [hml]; rfl) rfl (hb hby d2_1) (by decide) (W := 0) (by show 2 * 0 + _ ≤ _; exact Nat.le_of_eq rfl) (by decide)
  refine Go.st (S' := T23.setTop (mkF m 4 #[.val (.ref a), .val (.ref o), .unset] [])) (st23) ?_
  refine Go.st (S' := T23.setTop (mkF m 5 #[.val (.ref a), .val (.ref o), .unset] [(.ref a)])) (fun _ k_ => XS.aloadN X23.here hx rfl (hb hby d2_4) rfl rfl k_) ?_
  refine Go.st (S' := T23.setTop (mkF m 6 #[.val (.ref a), .val (.ref o), .unset] [(.ref o), (.ref a)])) (fun _ k_ => XS.aloadN X23.here hx rfl (hb hby d2_5) rfl rfl k_) ?_
  refine Go.st (S' := T23.setTop (mkF m 7 #[.val (.ref a), .val (.ref o), .unset] [(.int os.length.toInt32), (.ref a)])) (A_o.length X23 hx hZ e23 (n := os.length.toInt32) rfl (g := (mkF m 6 #[.val (.ref a), .val (.ref o), .unset] [(.ref o), (.ref a)])) rfl rfl (hb hby d2_6)) ?_
  obtain ⟨T24, h24, b24, X24, e24, q24, E24, A24, st24⟩ := Al.new X23 hx hZ (aty := .long) (w15 hw) rfl e23 (n := os.length.toInt32) (own_tpos (by omega)) 4 (by rw [own_tn (by omega)]; exact hos) (by decide) (by decide) (by decide) (g := (mkF m 7 #[.val (.ref a), .val (.ref o), .unset] [(.int os.length.toInt32), (.ref a)])) rfl rfl (hb hby d2_7)
  have ne_a_b24 : a ≠ b24 := Nat.ne_of_lt (Nat.lt_of_lt_of_le E_a.lt (Nat.le_of_eq q24.symm))
  have ne_o_b24 : o ≠ b24 := Nat.ne_of_lt (Nat.lt_of_lt_of_le A_o.lt (Nat.le_of_eq q24.symm))
  have g_b24 : n0 ≤ b24 := Nat.le_trans Z0 (Nat.le_of_eq q24.symm)
  have sz_b24 : h0.size ≤ b24 := Nat.le_trans K0.1 (Nat.le_of_eq q24.symm)
  replace E_a := E_a.ext E24
  replace F_label_a := F_label_a.ext E24
  replace F_next_a := F_next_a.ext E24
  replace F_previous_a := F_previous_a.ext E24
  replace F_first_a := F_first_a.ext E24
  replace A_o := A_o.ext E24
  replace Z0 := Nat.le_trans Z0 E24.1
  replace K0 := K0.ext E24
  have A_b24 : Al Z h24 b24 (List.replicate os.length.toInt32.toNatClampNeg (0 : Int64)) := A24
  refine Go.st (S' := T24.setTop (mkF m 9 #[.val (.ref a), .val (.ref o), .unset] [(.ref b24), (.ref a)])) (st24) ?_
  obtain ⟨T25, h25, X25, e25, W25, st25⟩ := putF X24 hx hZ hown (host := "") (Or.inl (w16 hw)) Via.refl e24 F_label_a E_a (Or.inr ⟨(w17 hw), rfl, hnm⟩) (w7 hw) (ty := (.array .long)) (by decide) rfl rfl (g := (mkF m 9 #[.val (.ref a), .val (.ref o), .unset] [(.ref b24), (.ref a)])) rfl rfl (hb hby d2_9)
  replace F_label_a := F_label_a.same W25
  replace E_a := E_a.wr W25
  replace F_next_a := F_next_a.other W25 (Or.inr (slot_ne (Or.inr (w19 hw)) (Or.inr (w17 hw)) (by decide) (t := (.array .int)) (t' := (.array .long)) (by decide) (by decide)))
  replace F_previous_a := F_previous_a.other W25 (Or.inr (slot_ne (Or.inr (w21 hw)) (Or.inr (w17 hw)) (by decide) (t := (.array .int)) (t' := (.array .long)) (by decide) (by decide)))
  replace F_first_a := F_first_a.other W25 (Or.inr (slot_ne (Or.inl (w23 hw)) (Or.inr (w17 hw)) (by decide) (t := .int) (t' := (.array .long)) (by decide) (by decide)))
  replace A_o := A_o.other W25 (Ne.symm ne_a_o)
  replace A_b24 := A_b24.other W25 (Ne.symm ne_a_b24)
  replace Z0 := Nat.le_trans Z0 (Keep.of_wr W25).1
  replace K0 := K0.wr W25 (Or.inl (by simp))
  have N25 := Fr.snoc X25 N0 g_a
  refine Go.st (S' := T25.setTop (mkF m 12 #[.val (.ref a), .val (.ref o), .unset] [])) (st25) ?_
  refine Go.st (S' := T25.setTop (mkF m 13 #[.val (.ref a), .val (.ref o), .unset] [(.ref a)])) (fun _ k_ => XS.aloadN X25.here hx rfl (hb hby d2_12) rfl rfl k_) ?_
  refine Go.st (S' := T25.setTop (mkF m 14 #[.val (.ref a), .val (.ref o), .unset] [(.ref o), (.ref a)])) (fun _ k_ => XS.aloadN X25.here hx rfl (hb hby d2_13) rfl rfl k_) ?_
  refine Go.st (S' := T25.setTop (mkF m 15 #[.val (.ref a), .val (.ref o), .unset] [(.int os.length.toInt32), (.ref a)])) (A_o.length X25 hx hZ e25 (n := os.length.toInt32) rfl (g := (mkF m 14 #[.val (.ref a), .val (.ref o), .unset] [(.ref o), (.ref a)])) rfl rfl (hb hby d2_14)) ?_
  obtain ⟨T26, h26, b26, X26, e26, q26, E26, A26, st26⟩ := Ai.new X25 hx hZ (aty := .int) (w1 hw) rfl e25 (n := os.length.toInt32) (own_tpos (by omega)) 4 (by rw [own_tn (by omega)]; exact hos) (by decide) (by decide) (by decide) (g := (mkF m 15 #[.val (.ref a), .val (.ref o), .unset] [(.int os.length.toInt32), (.ref a)])) rfl rfl (hb hby d2_15)
  have ne_a_b26 : a ≠ b26 := Nat.ne_of_lt (Nat.lt_of_lt_of_le E_a.lt (Nat.le_of_eq q26.symm))
  have ne_o_b26 : o ≠ b26 := Nat.ne_of_lt (Nat.lt_of_lt_of_le A_o.lt (Nat.le_of_eq q26.symm))
  have ne_b24_b26 : b24 ≠ b26 := Nat.ne_of_lt (Nat.lt_of_lt_of_le A_b24.lt (Nat.le_of_eq q26.symm))
  have g_b26 : n0 ≤ b26 := Nat.le_trans Z0 (Nat.le_of_eq q26.symm)
  have sz_b26 : h0.size ≤ b26 := Nat.le_trans K0.1 (Nat.le_of_eq q26.symm)
  replace E_a := E_a.ext E26
  replace F_label_a := F_label_a.ext E26
  replace F_next_a := F_next_a.ext E26
  replace F_previous_a := F_previous_a.ext E26
  replace F_first_a := F_first_a.ext E26
  replace A_o := A_o.ext E26
  replace A_b24 := A_b24.ext E26
  replace Z0 := Nat.le_trans Z0 E26.1
  replace K0 := K0.ext E26
  have A_b26 : Ai Z h26 b26 .int (List.replicate os.length.toInt32.toNatClampNeg (0 : Int32)) := A26
  refine Go.st (S' := T26.setTop (mkF m 17 #[.val (.ref a), .val (.ref o), .unset] [(.ref b26), (.ref a)])) (st26) ?_
  obtain ⟨T27, h27, X27, e27, W27, st27⟩ := putF X26 hx hZ hown (host := "") (Or.inl (w18 hw)) Via.refl e26 F_next_a E_a (Or.inr ⟨(w19 hw), rfl, hnm⟩) (w7 hw) (ty := (.array .int)) (by decide) rfl rfl (g := (mkF m 17 #[.val (.ref a), .val (.ref o), .unset] [(.ref b26), (.ref a)])) rfl rfl (hb hby d2_17)
  replace F_next_a := F_next_a.same W27
  replace E_a := E_a.wr W27
  replace F_label_a := F_label_a.other W27 (Or.inr (slot_ne (Or.inr (w17 hw)) (Or.inr (w19 hw)) (by decide) (t := (.array .long)) (t' := (.array .int)) (by decide) (by decide)))
  replace F_previous_a := F_previous_a.other W27 (Or.inr (slot_ne (Or.inr (w21 hw)) (Or.inr (w19 hw)) (by decide) (t := (.array .int)) (t' := (.array .int)) (by decide) (by decide)))
  replace F_first_a := F_first_a.other W27 (Or.inr (slot_ne (Or.inl (w23 hw)) (Or.inr (w19 hw)) (by decide) (t := .int) (t' := (.array .int)) (by decide) (by decide)))
  replace A_o := A_o.other W27 (Ne.symm ne_a_o)
  replace A_b24 := A_b24.other W27 (Ne.symm ne_a_b24)
  replace A_b26 := A_b26.other W27 (Ne.symm ne_a_b26)
  replace Z0 := Nat.le_trans Z0 (Keep.of_wr W27).1
  replace K0 := K0.wr W27 (Or.inl (by simp))
  have N27 := Fr.snoc X27 N25 g_a
  refine Go.st (S' := T27.setTop (mkF m 20 #[.val (.ref a), .val (.ref o), .unset] [])) (st27) ?_
  refine Go.st (S' := T27.setTop (mkF m 21 #[.val (.ref a), .val (.ref o), .unset] [(.ref a)])) (fun _ k_ => XS.aloadN X27.here hx rfl (hb hby d2_20) rfl rfl k_) ?_
  refine Go.st (S' := T27.setTop (mkF m 22 #[.val (.ref a), .val (.ref o), .unset] [(.ref o), (.ref a)])) (fun _ k_ => XS.aloadN X27.here hx rfl (hb hby d2_21) rfl rfl k_) ?_
  refine Go.st (S' := T27.setTop (mkF m 23 #[.val (.ref a), .val (.ref o), .unset] [(.int os.length.toInt32), (.ref a)])) (A_o.length X27 hx hZ e27 (n := os.length.toInt32) rfl (g := (mkF m 22 #[.val (.ref a), .val (.ref o), .unset] [(.ref o), (.ref a)])) rfl rfl (hb hby d2_22)) ?_
  obtain ⟨T28, h28, b28, X28, e28, q28, E28, A28, st28⟩ := Ai.new X27 hx hZ (aty := .int) (w1 hw) rfl e27 (n := os.length.toInt32) (own_tpos (by omega)) 4 (by rw [own_tn (by omega)]; exact hos) (by decide) (by decide) (by decide) (g := (mkF m 23 #[.val (.ref a), .val (.ref o), .unset] [(.int os.length.toInt32), (.ref a)])) rfl rfl (hb hby d2_23)
  have ne_a_b28 : a ≠ b28 := Nat.ne_of_lt (Nat.lt_of_lt_of_le E_a.lt (Nat.le_of_eq q28.symm))
  have ne_o_b28 : o ≠ b28 := Nat.ne_of_lt (Nat.lt_of_lt_of_le A_o.lt (Nat.le_of_eq q28.symm))
  have ne_b24_b28 : b24 ≠ b28 := Nat.ne_of_lt (Nat.lt_of_lt_of_le A_b24.lt (Nat.le_of_eq q28.symm))
  have ne_b26_b28 : b26 ≠ b28 := Nat.ne_of_lt (Nat.lt_of_lt_of_le A_b26.lt (Nat.le_of_eq q28.symm))
  have g_b28 : n0 ≤ b28 := Nat.le_trans Z0 (Nat.le_of_eq q28.symm)
  have sz_b28 : h0.size ≤ b28 := Nat.le_trans K0.1 (Nat.le_of_eq q28.symm)
  replace E_a := E_a.ext E28
  replace F_label_a := F_label_a.ext E28
  replace F_next_a := F_next_a.ext E28
  replace F_previous_a := F_previous_a.ext E28
  replace F_first_a := F_first_a.ext E28
  replace A_o := A_o.ext E28
  replace A_b24 := A_b24.ext E28
  replace A_b26 := A_b26.ext E28
  replace Z0 := Nat.le_trans Z0 E28.1
  replace K0 := K0.ext E28
  have A_b28 : Ai Z h28 b28 .int (List.replicate os.length.toInt32.toNatClampNeg (0 : Int32)) := A28
  refine Go.st (S' := T28.setTop (mkF m 25 #[.val (.ref a), .val (.ref o), .unset] [(.ref b28), (.ref a)])) (st28) ?_
  obtain ⟨T29, h29, X29, e29, W29, st29⟩ := putF X28 hx hZ hown (host := "") (Or.inl (w20 hw)) Via.refl e28 F_previous_a E_a (Or.inr ⟨(w21 hw), rfl, hnm⟩) (w7 hw) (ty := (.array .int)) (by decide) rfl rfl (g := (mkF m 25 #[.val (.ref a), .val (.ref o), .unset] [(.ref b28), (.ref a)])) rfl rfl (hb hby d2_25)
  replace F_previous_a := F_previous_a.same W29
  replace E_a := E_a.wr W29
  replace F_label_a := F_label_a.other W29 (Or.inr (slot_ne (Or.inr (w17 hw)) (Or.inr (w21 hw)) (by decide) (t := (.array .long)) (t' := (.array .int)) (by decide) (by decide)))
  replace F_next_a := F_next_a.other W29 (Or.inr (slot_ne (Or.inr (w19 hw)) (Or.inr (w21 hw)) (by decide) (t := (.array .int)) (t' := (.array .int)) (by decide) (by decide)))
  replace F_first_a := F_first_a.other W29 (Or.inr (slot_ne (Or.inl (w23 hw)) (Or.inr (w21 hw)) (by decide) (t := .int) (t' := (.array .int)) (by decide) (by decide)))
  replace A_o := A_o.other W29 (Ne.symm ne_a_o)
  replace A_b24 := A_b24.other W29 (Ne.symm ne_a_b24)
  replace A_b26 := A_b26.other W29 (Ne.symm ne_a_b26)
  replace A_b28 := A_b28.other W29 (Ne.symm ne_a_b28)
  replace Z0 := Nat.le_trans Z0 (Keep.of_wr W29).1
  replace K0 := K0.wr W29 (Or.inl (by simp))
  have N29 := Fr.snoc X29 N27 g_a
  refine Go.st (S' := T29.setTop (mkF m 28 #[.val (.ref a), .val (.ref o), .unset] [])) (st29) ?_
  refine Go.st (S' := T29.setTop (mkF m 29 #[.val (.ref a), .val (.ref o), .unset] [(.ref a)])) (fun _ k_ => XS.aloadN X29.here hx rfl (hb hby d2_28) rfl rfl k_) ?_
  refine Go.st (S' := T29.setTop (mkF m 30 #[.val (.ref a), .val (.ref o), .unset] [(.ref o), (.ref a)])) (fun _ k_ => XS.aloadN X29.here hx rfl (hb hby d2_29) rfl rfl k_) ?_
  refine Go.st (S' := T29.setTop (mkF m 31 #[.val (.ref a), .val (.ref o), .unset] [(.int os.length.toInt32), (.ref a)])) (A_o.length X29 hx hZ e29 (n := os.length.toInt32) rfl (g := (mkF m 30 #[.val (.ref a), .val (.ref o), .unset] [(.ref o), (.ref a)])) rfl rfl (hb hby d2_30)) ?_
  by_cases hc31 : (0 : Int32) < os.length.toInt32
  · skip
    refine Go.st (S' := T29.setTop (mkF m 34 #[.val (.ref a), .val (.ref o), .unset] [(.ref a)])) (fun _ k_ => XS.ifNo X29.here hx rfl (hb hby d2_31) rfl ((if0 _ _).trans (tlt hc31).2.2.2) k_) ?_
    refine Go.st (S' := T29.setTop (mkF m 35 #[.val (.ref a), .val (.ref o), .unset] [(.ref o), (.ref a)])) (fun _ k_ => XS.aloadN X29.here hx rfl (hb hby d2_34) rfl rfl k_) ?_
    refine Go.st (S' := T29.setTop (mkF m 36 #[.val (.ref a), .val (.ref o), .unset] [(.int (0 : Int32)), (.ref o), (.ref a)])) (fun _ k_ => XS.iconst X29.here hx rfl (hb hby d2_35) k_) ?_
    refine Go.st (S' := T29.setTop (mkF m 37 #[.val (.ref a), .val (.ref o), .unset] [(.int (own_cur os 0)), (.ref a)])) (A_o.load X29 hx hZ e29 (j := (0 : Int32)) (v := (own_cur os 0)) (by decide) (own_gd (by have q := hc31; rw [show (0 : Int32) = (0 : Nat).toInt32 from rfl, own_tlt (by omega) (by omega)] at q; exact q)) (g := (mkF m 36 #[.val (.ref a), .val (.ref o), .unset] [(.int (0 : Int32)), (.ref o), (.ref a)])) rfl rfl (hb hby d2_36)) ?_
    refine Go.st (S' := T29.setTop (mkF m 41 #[.val (.ref a), .val (.ref o), .unset] [(.int (own_cur os 0)), (.ref a)])) (fun _ k_ => XS.goto X29.here hx rfl (pc0 := 37) (pc' := 41) rfl (hb hby d2_37) (by decide) (by decide) k_) ?_
    obtain ⟨T30, h30, X30, e30, W30, st30⟩ := putF X29 hx hZ hown (host := "") (Or.inl (w22 hw)) Via.refl e29 F_first_a E_a (Or.inl (w23 hw)) (w7 hw) (ty := .int) (by decide) rfl rfl (g := (mkF m 41 #[.val (.ref a), .val (.ref o), .unset] [(.int (own_cur os 0)), (.ref a)])) rfl rfl (hb hby d2_41)
    replace F_first_a := F_first_a.same W30
    replace E_a := E_a.wr W30
    replace F_label_a := F_label_a.other W30 (Or.inr (slot_ne (Or.inr (w17 hw)) (Or.inl (w23 hw)) (by decide) (t := (.array .long)) (t' := .int) (by decide) (by decide)))
    replace F_next_a := F_next_a.other W30 (Or.inr (slot_ne (Or.inr (w19 hw)) (Or.inl (w23 hw)) (by decide) (t := (.array .int)) (t' := .int) (by decide) (by decide)))
    replace F_previous_a := F_previous_a.other W30 (Or.inr (slot_ne (Or.inr (w21 hw)) (Or.inl (w23 hw)) (by decide) (t := (.array .int)) (t' := .int) (by decide) (by decide)))
    replace A_o := A_o.other W30 (Ne.symm ne_a_o)
    replace A_b24 := A_b24.other W30 (Ne.symm ne_a_b24)
    replace A_b26 := A_b26.other W30 (Ne.symm ne_a_b26)
    replace A_b28 := A_b28.other W30 (Ne.symm ne_a_b28)
    replace Z0 := Nat.le_trans Z0 (Keep.of_wr W30).1
    replace K0 := K0.wr W30 (Or.inl (by simp))
    have N30 := Fr.snoc X30 N29 g_a
    refine Go.st (S' := T30.setTop (mkF m 44 #[.val (.ref a), .val (.ref o), .unset] [])) (st30) ?_
    refine Go.st (S' := T30.setTop (mkF m 45 #[.val (.ref a), .val (.ref o), .unset] [(.int (0 : Int32))])) (fun _ k_ => XS.iconst X30.here hx rfl (hb hby d2_44) k_) ?_
    refine Go.st (S' := T30.setTop (mkF m 46 #[.val (.ref a), .val (.ref o), .val (.int (0 : Int32))] [])) (fun _ k_ => XS.istoreN X30.here hx rfl (hb hby d2_45) rfl (l' := #[.val (.ref a), .val (.ref o), .val (.int (0 : Int32))]) rfl k_) ?_
    exact loop b24 b26 b28 _ ne_a_b24 ne_a_b26 ne_a_b28 ne_o_b24 ne_o_b26 ne_o_b28 ne_b24_b26 ne_b24_b28 ne_b26_b28 g_b24 sz_b24 g_b26 sz_b26 g_b28 sz_b28 os.length 0 _ _ _ _ _ X30 e30 N30 Z0 K0 E_a F_label_a F_next_a F_first_a A_b24 A_b26 (by rw [List.length_replicate, own_tn (by omega)]) F_previous_a A_b28 A_o (by rw [List.length_replicate, own_tn (by omega)]) ⟨by rw [List.length_replicate, own_tn (by omega)], fun i hi => absurd hi (by omega)⟩ (by omega)
  · skip
    refine Go.st (S' := T29.setTop (mkF m 40 #[.val (.ref a), .val (.ref o), .unset] [(.ref a)])) (fun _ k_ => XS.ifYes X29.here hx rfl (pc0 := 31) (pc' := 40) rfl (hb hby d2_31) rfl ((if0 _ _).trans (flt hc31).2.2.2) (by decide) (by decide) k_) ?_
    refine Go.st (S' := T29.setTop (mkF m 41 #[.val (.ref a), .val (.ref o), .unset] [(.int (-1 : Int32)), (.ref a)])) (fun _ k_ => XS.iconst X29.here hx rfl (hb hby d2_40) k_) ?_
    rw [show (-1 : Int32) = own_cur os 0 from (own_gdn (by have q := hc31; rw [show (0 : Int32) = (0 : Nat).toInt32 from rfl, own_tlt (by omega) (by omega)] at q; omega)).symm]
    obtain ⟨T31, h31, X31, e31, W31, st31⟩ := putF X29 hx hZ hown (host := "") (Or.inl (w22 hw)) Via.refl e29 F_first_a E_a (Or.inl (w23 hw)) (w7 hw) (ty := .int) (by decide) rfl rfl (g := (mkF m 41 #[.val (.ref a), .val (.ref o), .unset] [(.int (own_cur os 0)), (.ref a)])) rfl rfl (hb hby d2_41)
    replace F_first_a := F_first_a.same W31
    replace E_a := E_a.wr W31
    replace F_label_a := F_label_a.other W31 (Or.inr (slot_ne (Or.inr (w17 hw)) (Or.inl (w23 hw)) (by decide) (t := (.array .long)) (t' := .int) (by decide) (by decide)))
    replace F_next_a := F_next_a.other W31 (Or.inr (slot_ne (Or.inr (w19 hw)) (Or.inl (w23 hw)) (by decide) (t := (.array .int)) (t' := .int) (by decide) (by decide)))
    replace F_previous_a := F_previous_a.other W31 (Or.inr (slot_ne (Or.inr (w21 hw)) (Or.inl (w23 hw)) (by decide) (t := (.array .int)) (t' := .int) (by decide) (by decide)))
    replace A_o := A_o.other W31 (Ne.symm ne_a_o)
    replace A_b24 := A_b24.other W31 (Ne.symm ne_a_b24)
    replace A_b26 := A_b26.other W31 (Ne.symm ne_a_b26)
    replace A_b28 := A_b28.other W31 (Ne.symm ne_a_b28)
    replace Z0 := Nat.le_trans Z0 (Keep.of_wr W31).1
    replace K0 := K0.wr W31 (Or.inl (by simp))
    have N31 := Fr.snoc X31 N29 g_a
    refine Go.st (S' := T31.setTop (mkF m 44 #[.val (.ref a), .val (.ref o), .unset] [])) (st31) ?_
    refine Go.st (S' := T31.setTop (mkF m 45 #[.val (.ref a), .val (.ref o), .unset] [(.int (0 : Int32))])) (fun _ k_ => XS.iconst X31.here hx rfl (hb hby d2_44) k_) ?_
    refine Go.st (S' := T31.setTop (mkF m 46 #[.val (.ref a), .val (.ref o), .val (.int (0 : Int32))] [])) (fun _ k_ => XS.istoreN X31.here hx rfl (hb hby d2_45) rfl (l' := #[.val (.ref a), .val (.ref o), .val (.int (0 : Int32))]) rfl k_) ?_
    exact loop b24 b26 b28 _ ne_a_b24 ne_a_b26 ne_a_b28 ne_o_b24 ne_o_b26 ne_o_b28 ne_b24_b26 ne_b24_b28 ne_b26_b28 g_b24 sz_b24 g_b26 sz_b26 g_b28 sz_b28 os.length 0 _ _ _ _ _ X31 e31 N31 Z0 K0 E_a F_label_a F_next_a F_first_a A_b24 A_b26 (by rw [List.length_replicate, own_tn (by omega)]) F_previous_a A_b28 A_o (by rw [List.length_replicate, own_tn (by omega)]) ⟨by rw [List.length_replicate, own_tn (by omega)], fun i hi => absurd hi (by omega)⟩ (by omega)
theorem ef_no_positions (m : MethodId) (x0 : Addr) : entryFrame m #[(.ref x0)] 4 = mkF m 0 #[.val (.ref x0), .unset, .unset, .unset] [] := by first | (simp [entryFrame, mkF, argsToLocals, Value.category]; done) | rfl
set_option maxRecDepth 65536 in
set_option maxHeartbeats 40000000 in
theorem no_positions (l : Launch) (Z : State) (a0 : Array Value) (hw : ∀ d ∈ tables_1, d.before a0 Z = true) (a lb nx : Addr) (os ns : List Int32) (ls : List Int64) (h0 : Heap) (n0 : Nat) (Z0 : n0 ≤ h0.size) (H : NO Z h0 a lb nx os ls ns) (ok : own_ok os) (ne_a_lb : a ≠ lb) (ne_a_nx : a ≠ nx) (ne_lb_nx : lb ≠ nx) (g_a : n0 ≤ a) (g_lb : n0 ≤ lb) :
    Con l Z (⟨"io/isoproof/check/polygraph/NodeOrder", "positions", "()[I"⟩ : MethodName) prog_29_method_4_code 4 (some (.array .int)) [] ({ frames := 0, cells := 1, slots := 4, locals := 0 } : Room) #[(.ref a)] h0 (fun v h L => Fr n0 L ∧ Keep h0 h [] ∧ ∃ r, v = some (.ref r) ∧ h0.size ≤ r ∧ ∃ ps, Ai Z h r .int ps ∧ own_ps os ps os.length) := by
  refine Con.mk (plainFor_of_name pn0) ?_
  intro p e s m below meth c T0 hx hby hml hown hnm hret hlk hZ X0 e0
  have hown : s.vm.findClass "io/isoproof/check/polygraph/NodeOrder" = some m.cls := hown
  have hnm : meth.name = "positions" := hnm
  have N0 := Fr.nil n0
  have K0 := Keep.refl h0 []
  have hos := ok.1
  obtain ⟨E_a, F_label_a, F_next_a, F_first_a, A_lb, A_nx, hll, hnx⟩ := H
  have loop : ∀ (t : Addr) (ne_a_t : a ≠ t) (ne_lb_t : lb ≠ t) (ne_nx_t : nx ≠ t) (g_t : n0 ≤ t) (sz_t : h0.size ≤ t) (r : Nat) (u : Nat) (ys : List Int32) (T : State) (locs : List Loc) (h1 : Heap) (X : Stand p l e ({ frames := 0, cells := 1, slots := 4, locals := 0 } : Room) s m #[(.ref a)] below meth c T locs 1 4) (e1 : T.heap = h1) (N1 : Fr n0 locs) (Z0 : n0 ≤ h1.size) (K0 : Keep h0 h1 []) (E_a : Exa Z h1 a "io/isoproof/check/polygraph/NodeOrder") (F_label_a : Fld Z h1 a "io/isoproof/check/polygraph/NodeOrder" "label" "[J" (.ref lb)) (F_next_a : Fld Z h1 a "io/isoproof/check/polygraph/NodeOrder" "next" "[I" (.ref nx)) (F_first_a : Fld Z h1 a "io/isoproof/check/polygraph/NodeOrder" "first" "I" (.int (own_cur os 0))) (A_lb : Al Z h1 lb ls) (A_nx : Ai Z h1 nx .int ns)  (A_t : Ai Z h1 t .int ys) (hW : own_ps os ys u) (hm : u + r = os.length), Go p e below s ({ frames := 0, cells := 1, slots := 4, locals := 0 } : Room) (fun v h L => Fr n0 L ∧ Keep h0 h [] ∧ ∃ r, v = some (.ref r) ∧ h0.size ≤ r ∧ ∃ ps, Ai Z h r .int ps ∧ own_ps os ps os.length) (T.setTop (mkF m 15 #[.val (.ref a), .val (.ref t), .val (.int u.toInt32), .val (.int (own_cur os u))] [])) := by
    intro t ne_a_t ne_lb_t ne_nx_t g_t sz_t r
    induction r with
    | zero =>
      intro u ys T locs h1 X e1 N1 Z0 K0 E_a F_label_a F_next_a F_first_a A_lb A_nx A_t hW hm
      have hu : u = os.length := by omega
      rw [hu] at hW
      refine Go.st (S' := T.setTop (mkF m 16 #[.val (.ref a), .val (.ref t), .val (.int u.toInt32), .val (.int (own_cur os u))] [(.int (own_cur os u))])) (fun _ k_ => XS.iloadN X.here hx rfl (hb hby d6_15) rfl k_) ?_
      refine Go.st (S' := T.setTop (mkF m 36 #[.val (.ref a), .val (.ref t), .val (.int u.toInt32), .val (.int (own_cur os u))] [])) (fun _ k_ => XS.ifYes X.here hx rfl (pc0 := 16) (pc' := 36) rfl (hb hby d6_16) rfl ((if0 _ _).trans (tlt ((by rw [own_gdn (by omega)]; decide : own_cur os u < (0 : Int32)))).1) (by decide) (by decide) k_) ?_
      refine Go.st (S' := T.setTop (mkF m 37 #[.val (.ref a), .val (.ref t), .val (.int u.toInt32), .val (.int (own_cur os u))] [(.ref t)])) (fun _ k_ => XS.aloadN X.here hx rfl (hb hby d6_36) rfl rfl k_) ?_
      exact Go.retR X hx hret rfl hlk (hb hby d6_37) (by decide) (by decide) (by rw [e1]; exact ⟨N1, K0, t, rfl, sz_t, ys, A_t, hW⟩)
    | succ r ih =>
      intro u ys T locs h1 X e1 N1 Z0 K0 E_a F_label_a F_next_a F_first_a A_lb A_nx A_t hW hm
      refine Go.st (S' := T.setTop (mkF m 16 #[.val (.ref a), .val (.ref t), .val (.int u.toInt32), .val (.int (own_cur os u))] [(.int (own_cur os u))])) (fun _ k_ => XS.iloadN X.here hx rfl (hb hby d6_15) rfl k_) ?_
      refine Go.st (S' := T.setTop (mkF m 19 #[.val (.ref a), .val (.ref t), .val (.int u.toInt32), .val (.int (own_cur os u))] [])) (fun _ k_ => XS.ifNo X.here hx rfl (hb hby d6_16) rfl ((if0 _ _).trans (flt ((ok.2.1 u _ (own_gd (by omega))).1)).1) k_) ?_
      refine Go.st (S' := T.setTop (mkF m 20 #[.val (.ref a), .val (.ref t), .val (.int u.toInt32), .val (.int (own_cur os u))] [(.ref t)])) (fun _ k_ => XS.aloadN X.here hx rfl (hb hby d6_19) rfl rfl k_) ?_
      refine Go.st (S' := T.setTop (mkF m 21 #[.val (.ref a), .val (.ref t), .val (.int u.toInt32), .val (.int (own_cur os u))] [(.int (own_cur os u)), (.ref t)])) (fun _ k_ => XS.iloadN X.here hx rfl (hb hby d6_20) rfl k_) ?_
      refine Go.st (S' := T.setTop (mkF m 22 #[.val (.ref a), .val (.ref t), .val (.int u.toInt32), .val (.int (own_cur os u))] [(.int u.toInt32), (.int (own_cur os u)), (.ref t)])) (fun _ k_ => XS.iloadN X.here hx rfl (hb hby d6_21) rfl k_) ?_
      refine Go.st (S' := T.setTop (mkF m 25 #[.val (.ref a), .val (.ref t), .val (.int (u.toInt32 + (1 : Int32))), .val (.int (own_cur os u))] [(.int u.toInt32), (.int (own_cur os u)), (.ref t)])) (fun _ k_ => XS.iinc X.here hx rfl (hb hby d6_22) rfl (l' := #[.val (.ref a), .val (.ref t), .val (.int (u.toInt32 + (1 : Int32))), .val (.int (own_cur os u))]) rfl k_) ?_
      rw [show (u.toInt32 + (1 : Int32)) = (u + 1).toInt32 from own_t1 _]
      obtain ⟨T11, h11, X11, e11, W11, A11, st11⟩ := A_t.store X hx hZ e1 (j := (own_cur os u)) (ok.2.1 u _ (own_gd (by omega))).1 (by rw [hW.1]; exact (ok.2.1 u _ (own_gd (by omega))).2) (g := (mkF m 25 #[.val (.ref a), .val (.ref t), .val (.int (u + 1).toInt32), .val (.int (own_cur os u))] [(.int u.toInt32), (.int (own_cur os u)), (.ref t)])) rfl rfl (hb hby d6_25)
      replace A_t : Ai Z h11 t .int (ys.set (own_cur os u).toNatClampNeg u.toInt32) := A11
      replace E_a := E_a.wr W11
      replace F_label_a := F_label_a.other W11 (Or.inl ne_a_t)
      replace F_next_a := F_next_a.other W11 (Or.inl ne_a_t)
      replace F_first_a := F_first_a.other W11 (Or.inl ne_a_t)
      replace A_lb := A_lb.other W11 ne_lb_t
      replace A_nx := A_nx.other W11 ne_nx_t
      replace Z0 := Nat.le_trans Z0 (Keep.of_wr W11).1
      replace K0 := K0.wr W11 (Or.inr sz_t)
      have N11 := Fr.snoc X11 N1 g_t
      refine Go.st (S' := T11.setTop (mkF m 26 #[.val (.ref a), .val (.ref t), .val (.int (u + 1).toInt32), .val (.int (own_cur os u))] [])) (st11) ?_
      refine Go.st (S' := T11.setTop (mkF m 27 #[.val (.ref a), .val (.ref t), .val (.int (u + 1).toInt32), .val (.int (own_cur os u))] [(.ref a)])) (fun _ k_ => XS.aloadN X11.here hx rfl (hb hby d6_26) rfl rfl k_) ?_
      obtain ⟨T12, X12, e12, st12⟩ := getF X11 hx hZ hown (host := "") (Or.inl (w18 hw)) Via.refl e11 F_next_a (g := (mkF m 27 #[.val (.ref a), .val (.ref t), .val (.int (u + 1).toInt32), .val (.int (own_cur os u))] [(.ref a)])) rfl rfl (hb hby d6_27)
      refine Go.st (S' := T12.setTop (mkF m 30 #[.val (.ref a), .val (.ref t), .val (.int (u + 1).toInt32), .val (.int (own_cur os u))] [(.ref nx)])) (st12) ?_
      refine Go.st (S' := T12.setTop (mkF m 31 #[.val (.ref a), .val (.ref t), .val (.int (u + 1).toInt32), .val (.int (own_cur os u))] [(.int (own_cur os u)), (.ref nx)])) (fun _ k_ => XS.iloadN X12.here hx rfl (hb hby d6_30) rfl k_) ?_
      refine Go.st (S' := T12.setTop (mkF m 32 #[.val (.ref a), .val (.ref t), .val (.int (u + 1).toInt32), .val (.int (own_cur os u))] [(.int (own_cur os (u + 1)))])) (A_nx.load X12 hx hZ e12 (j := (own_cur os u)) (v := (own_cur os (u + 1))) (ok.2.1 u _ (own_gd (by omega))).1 (own_getlt hnx ok (by omega)) (g := (mkF m 31 #[.val (.ref a), .val (.ref t), .val (.int (u + 1).toInt32), .val (.int (own_cur os u))] [(.int (own_cur os u)), (.ref nx)])) rfl rfl (hb hby d6_31)) ?_
      refine Go.st (S' := T12.setTop (mkF m 33 #[.val (.ref a), .val (.ref t), .val (.int (u + 1).toInt32), .val (.int (own_cur os (u + 1)))] [])) (fun _ k_ => XS.istoreN X12.here hx rfl (hb hby d6_32) rfl (l' := #[.val (.ref a), .val (.ref t), .val (.int (u + 1).toInt32), .val (.int (own_cur os (u + 1)))]) rfl k_) ?_
      refine Go.st (S' := T12.setTop (mkF m 15 #[.val (.ref a), .val (.ref t), .val (.int (u + 1).toInt32), .val (.int (own_cur os (u + 1)))] [])) (fun _ k_ => XS.goto X12.here hx rfl (pc0 := 33) (pc' := 15) rfl (hb hby d6_33) (by decide) (by decide) k_) ?_
      exact ih (u + 1) _ _ _ _ X12 e12 N11 Z0 K0 E_a F_label_a F_next_a F_first_a A_lb A_nx A_t (hW.step ok (own_gd (by omega))) (by omega)
  refine Go.cast (ef_no_positions m a) ?_
  refine Go.st (S' := T0.setTop (mkF m 1 #[.val (.ref a), .unset, .unset, .unset] [(.ref a)])) (fun _ k_ => XS.aloadN X0.here hx rfl (hb hby d6_0) rfl rfl k_) ?_
  obtain ⟨T13, X13, e13, st13⟩ := getF X0 hx hZ hown (host := "") (Or.inl (w16 hw)) Via.refl e0 F_label_a (g := (mkF m 1 #[.val (.ref a), .unset, .unset, .unset] [(.ref a)])) rfl rfl (hb hby d6_1)
  refine Go.st (S' := T13.setTop (mkF m 4 #[.val (.ref a), .unset, .unset, .unset] [(.ref lb)])) (st13) ?_
  refine Go.st (S' := T13.setTop (mkF m 5 #[.val (.ref a), .unset, .unset, .unset] [(.int os.length.toInt32)])) (A_lb.length X13 hx hZ e13 (n := os.length.toInt32) (by rw [hll]) (g := (mkF m 4 #[.val (.ref a), .unset, .unset, .unset] [(.ref lb)])) rfl rfl (hb hby d6_4)) ?_
  obtain ⟨T14, h14, b14, X14, e14, q14, E14, A14, st14⟩ := Ai.new X13 hx hZ (aty := .int) (w1 hw) rfl e13 (n := os.length.toInt32) (own_tpos (by omega)) 4 (by rw [own_tn (by omega)]; exact hos) (by decide) (by decide) (by decide) (g := (mkF m 5 #[.val (.ref a), .unset, .unset, .unset] [(.int os.length.toInt32)])) rfl rfl (hb hby d6_5)
  have ne_a_b14 : a ≠ b14 := Nat.ne_of_lt (Nat.lt_of_lt_of_le E_a.lt (Nat.le_of_eq q14.symm))
  have ne_lb_b14 : lb ≠ b14 := Nat.ne_of_lt (Nat.lt_of_lt_of_le A_lb.lt (Nat.le_of_eq q14.symm))
  have ne_nx_b14 : nx ≠ b14 := Nat.ne_of_lt (Nat.lt_of_lt_of_le A_nx.lt (Nat.le_of_eq q14.symm))
  have g_b14 : n0 ≤ b14 := Nat.le_trans Z0 (Nat.le_of_eq q14.symm)
  have sz_b14 : h0.size ≤ b14 := Nat.le_trans K0.1 (Nat.le_of_eq q14.symm)
  replace E_a := E_a.ext E14
  replace F_label_a := F_label_a.ext E14
  replace F_next_a := F_next_a.ext E14
  replace F_first_a := F_first_a.ext E14
  replace A_lb := A_lb.ext E14
  replace A_nx := A_nx.ext E14
  replace Z0 := Nat.le_trans Z0 E14.1
  replace K0 := K0.ext E14
  have A_b14 : Ai Z h14 b14 .int (List.replicate os.length.toInt32.toNatClampNeg 0) := A14
  refine Go.st (S' := T14.setTop (mkF m 7 #[.val (.ref a), .unset, .unset, .unset] [(.ref b14)])) (st14) ?_
  refine Go.st (S' := T14.setTop (mkF m 8 #[.val (.ref a), .val (.ref b14), .unset, .unset] [])) (fun _ k_ => XS.astoreN X14.here hx rfl (hb hby d6_7) rfl rfl (l' := #[.val (.ref a), .val (.ref b14), .unset, .unset]) rfl k_) ?_
  refine Go.st (S' := T14.setTop (mkF m 9 #[.val (.ref a), .val (.ref b14), .unset, .unset] [(.int (0 : Int32))])) (fun _ k_ => XS.iconst X14.here hx rfl (hb hby d6_8) k_) ?_
  refine Go.st (S' := T14.setTop (mkF m 10 #[.val (.ref a), .val (.ref b14), .val (.int (0 : Int32)), .unset] [])) (fun _ k_ => XS.istoreN X14.here hx rfl (hb hby d6_9) rfl (l' := #[.val (.ref a), .val (.ref b14), .val (.int (0 : Int32)), .unset]) rfl k_) ?_
  refine Go.st (S' := T14.setTop (mkF m 11 #[.val (.ref a), .val (.ref b14), .val (.int (0 : Int32)), .unset] [(.ref a)])) (fun _ k_ => XS.aloadN X14.here hx rfl (hb hby d6_10) rfl rfl k_) ?_
  obtain ⟨T15, X15, e15, st15⟩ := getF X14 hx hZ hown (host := "") (Or.inl (w22 hw)) Via.refl e14 F_first_a (g := (mkF m 11 #[.val (.ref a), .val (.ref b14), .val (.int (0 : Int32)), .unset] [(.ref a)])) rfl rfl (hb hby d6_11)
  refine Go.st (S' := T15.setTop (mkF m 14 #[.val (.ref a), .val (.ref b14), .val (.int (0 : Int32)), .unset] [(.int (own_cur os 0))])) (st15) ?_
  refine Go.st (S' := T15.setTop (mkF m 15 #[.val (.ref a), .val (.ref b14), .val (.int (0 : Int32)), .val (.int (own_cur os 0))] [])) (fun _ k_ => XS.istoreN X15.here hx rfl (hb hby d6_14) rfl (l' := #[.val (.ref a), .val (.ref b14), .val (.int (0 : Int32)), .val (.int (own_cur os 0))]) rfl k_) ?_
  exact loop b14 ne_a_b14 ne_lb_b14 ne_nx_b14 g_b14 sz_b14 os.length 0 _ _ _ _ X15 e15 N0 Z0 K0 E_a F_label_a F_next_a F_first_a A_lb A_nx A_b14 ⟨by rw [List.length_replicate, own_tn (by omega)], fun i hi => absurd hi (by omega)⟩ (by omega)
theorem ef_rm_swap (m : MethodId) (x0 : Addr) (x1 : Int32) (x2 : Int32) : entryFrame m #[(.ref x0), (.int x1), (.int x2)] 4 = mkF m 0 #[.val (.ref x0), .val (.int x1), .val (.int x2), .unset] [] := by first | (simp [entryFrame, mkF, argsToLocals, Value.category]; done) | rfl
set_option maxRecDepth 65536 in
set_option maxHeartbeats 40000000 in
theorem rm_swap (l : Launch) (Z : State) (a0 : Array Value) (hw : ∀ d ∈ tables_1, d.before a0 Z = true) (t : Addr) (i j x y : Int32) (xs : List Int32) (h0 : Heap) (n0 : Nat) (Z0 : n0 ≤ h0.size) (A_t : Ai Z h0 t .int xs) (g_t : n0 ≤ t) (hi : ¬ i < 0) (hj : ¬ j < 0) (hx0 : xs[i.toNatClampNeg]? = some x) (hy0 : xs[j.toNatClampNeg]? = some y) :
    Con l Z (⟨"io/isoproof/check/polygraph/NodeOrderPositionsPinLaw", "swap", "([III)V"⟩ : MethodName) method_2_code 4 none [] ({ frames := 0, cells := 0, slots := 0, locals := 0 } : Room) #[(.ref t), (.int i), (.int j)] h0 (fun v h L => v = none ∧ Fr n0 L ∧ Keep h0 h [t] ∧ Ai Z h t .int ((xs.set i.toNatClampNeg y).set j.toNatClampNeg x)) := by
  refine Con.mk (plainFor_of_name pn1) ?_
  intro p e s m below meth c T0 hx hby hml hown hnm hret hlk hZ X0 e0
  have hown : s.vm.findClass "io/isoproof/check/polygraph/NodeOrderPositionsPinLaw" = some m.cls := hown
  have hnm : meth.name = "swap" := hnm
  have N0 := Fr.nil n0
  have K0 := Keep.refl h0 [t]
  refine Go.cast (ef_rm_swap m t i j) ?_
  refine Go.st (S' := T0.setTop (mkF m 1 #[.val (.ref t), .val (.int i), .val (.int j), .unset] [(.ref t)])) (fun _ k_ => XS.aloadN X0.here hx rfl (hb hby d1_0) rfl rfl k_) ?_
  refine Go.st (S' := T0.setTop (mkF m 2 #[.val (.ref t), .val (.int i), .val (.int j), .unset] [(.int i), (.ref t)])) (fun _ k_ => XS.iloadN X0.here hx rfl (hb hby d1_1) rfl k_) ?_
  refine Go.st (S' := T0.setTop (mkF m 3 #[.val (.ref t), .val (.int i), .val (.int j), .unset] [(.int x)])) (A_t.load X0 hx hZ e0 (j := i) (v := x) hi hx0 (g := (mkF m 2 #[.val (.ref t), .val (.int i), .val (.int j), .unset] [(.int i), (.ref t)])) rfl rfl (hb hby d1_2)) ?_
  refine Go.st (S' := T0.setTop (mkF m 4 #[.val (.ref t), .val (.int i), .val (.int j), .val (.int x)] [])) (fun _ k_ => XS.istoreN X0.here hx rfl (hb hby d1_3) rfl (l' := #[.val (.ref t), .val (.int i), .val (.int j), .val (.int x)]) rfl k_) ?_
  refine Go.st (S' := T0.setTop (mkF m 5 #[.val (.ref t), .val (.int i), .val (.int j), .val (.int x)] [(.ref t)])) (fun _ k_ => XS.aloadN X0.here hx rfl (hb hby d1_4) rfl rfl k_) ?_
  refine Go.st (S' := T0.setTop (mkF m 6 #[.val (.ref t), .val (.int i), .val (.int j), .val (.int x)] [(.int i), (.ref t)])) (fun _ k_ => XS.iloadN X0.here hx rfl (hb hby d1_5) rfl k_) ?_
  refine Go.st (S' := T0.setTop (mkF m 7 #[.val (.ref t), .val (.int i), .val (.int j), .val (.int x)] [(.ref t), (.int i), (.ref t)])) (fun _ k_ => XS.aloadN X0.here hx rfl (hb hby d1_6) rfl rfl k_) ?_
  refine Go.st (S' := T0.setTop (mkF m 8 #[.val (.ref t), .val (.int i), .val (.int j), .val (.int x)] [(.int j), (.ref t), (.int i), (.ref t)])) (fun _ k_ => XS.iloadN X0.here hx rfl (hb hby d1_7) rfl k_) ?_
  refine Go.st (S' := T0.setTop (mkF m 9 #[.val (.ref t), .val (.int i), .val (.int j), .val (.int x)] [(.int y), (.int i), (.ref t)])) (A_t.load X0 hx hZ e0 (j := j) (v := y) hj hy0 (g := (mkF m 8 #[.val (.ref t), .val (.int i), .val (.int j), .val (.int x)] [(.int j), (.ref t), (.int i), (.ref t)])) rfl rfl (hb hby d1_8)) ?_
  obtain ⟨T11, h11, X11, e11, W11, A11, st11⟩ := A_t.store X0 hx hZ e0 (j := i) hi (List.getElem?_eq_some_iff.mp hx0).1 (g := (mkF m 9 #[.val (.ref t), .val (.int i), .val (.int j), .val (.int x)] [(.int y), (.int i), (.ref t)])) rfl rfl (hb hby d1_9)
  replace A_t : Ai Z h11 t .int (xs.set i.toNatClampNeg y) := A11
  replace Z0 := Nat.le_trans Z0 (Keep.of_wr W11).1
  replace K0 := K0.wr W11 (Or.inl (by simp))
  have N11 := Fr.snoc X11 N0 g_t
  refine Go.st (S' := T11.setTop (mkF m 10 #[.val (.ref t), .val (.int i), .val (.int j), .val (.int x)] [])) (st11) ?_
  refine Go.st (S' := T11.setTop (mkF m 11 #[.val (.ref t), .val (.int i), .val (.int j), .val (.int x)] [(.ref t)])) (fun _ k_ => XS.aloadN X11.here hx rfl (hb hby d1_10) rfl rfl k_) ?_
  refine Go.st (S' := T11.setTop (mkF m 12 #[.val (.ref t), .val (.int i), .val (.int j), .val (.int x)] [(.int j), (.ref t)])) (fun _ k_ => XS.iloadN X11.here hx rfl (hb hby d1_11) rfl k_) ?_
  refine Go.st (S' := T11.setTop (mkF m 13 #[.val (.ref t), .val (.int i), .val (.int j), .val (.int x)] [(.int x), (.int j), (.ref t)])) (fun _ k_ => XS.iloadN X11.here hx rfl (hb hby d1_12) rfl k_) ?_
  obtain ⟨T12, h12, X12, e12, W12, A12, st12⟩ := A_t.store X11 hx hZ e11 (j := j) hj (by rw [List.length_set]; exact (List.getElem?_eq_some_iff.mp hy0).1) (g := (mkF m 13 #[.val (.ref t), .val (.int i), .val (.int j), .val (.int x)] [(.int x), (.int j), (.ref t)])) rfl rfl (hb hby d1_13)
  replace A_t : Ai Z h12 t .int ((xs.set i.toNatClampNeg y).set j.toNatClampNeg x) := A12
  replace Z0 := Nat.le_trans Z0 (Keep.of_wr W12).1
  replace K0 := K0.wr W12 (Or.inl (by simp))
  have N12 := Fr.snoc X12 N11 g_t
  refine Go.st (S' := T12.setTop (mkF m 14 #[.val (.ref t), .val (.int i), .val (.int j), .val (.int x)] [])) (st12) ?_
  exact Go.retV X12 hx hret hlk (hb hby d1_14) (by decide) (by decide) (by rw [e12]; exact ⟨rfl, N12, K0, A_t⟩)
theorem ef_rm_at (m : MethodId) (x0 : Addr) (x1 : Addr) (x2 : Int32) (x3 : Int32) : entryFrame m #[(.ref x0), (.ref x1), (.int x2), (.int x3)] 4 = mkF m 0 #[.val (.ref x0), .val (.ref x1), .val (.int x2), .val (.int x3)] [] := by first | (simp [entryFrame, mkF, argsToLocals, Value.category]; done) | rfl
set_option maxRecDepth 65536 in
set_option maxHeartbeats 40000000 in
theorem rm_at (l : Launch) (Z : State) (a0 : Array Value) (hw : ∀ d ∈ tables_1, d.before a0 Z = true) (t o : Addr) (i n : Int32) (xs ys : List Int32) (h0 : Heap) (n0 : Nat) (Z0 : n0 ≤ h0.size) (A_t : Ai Z h0 t .int xs) (A_o : Ai Z h0 o .int ys) (hs : i < n → ¬ i < 0 ∧ ∃ x, ys[i.toNatClampNeg]? = some x ∧ ¬ x < 0 ∧ xs[x.toNatClampNeg]? = some i) :
    Con l Z (⟨"io/isoproof/check/polygraph/NodeOrderPositionsPinLaw", "at", "([I[III)Z"⟩ : MethodName) method_3_code 4 (some .boolean) [] ({ frames := 0, cells := 0, slots := 0, locals := 0 } : Room) #[(.ref t), (.ref o), (.int i), (.int n)] h0 (fun v h L => v = some (.int 1) ∧ Fr n0 L ∧ h = h0) := by
  refine Con.mk (plainFor_of_name pn1) ?_
  intro p e s m below meth c T0 hx hby hml hown hnm hret hlk hZ X0 e0
  have hown : s.vm.findClass "io/isoproof/check/polygraph/NodeOrderPositionsPinLaw" = some m.cls := hown
  have hnm : meth.name = "at" := hnm
  have N0 := Fr.nil n0
  refine Go.cast (ef_rm_at m t o i n) ?_
  refine Go.st (S' := T0.setTop (mkF m 1 #[.val (.ref t), .val (.ref o), .val (.int i), .val (.int n)] [(.int i)])) (fun _ k_ => XS.iloadN X0.here hx rfl (hb hby d7_0) rfl k_) ?_
  refine Go.st (S' := T0.setTop (mkF m 2 #[.val (.ref t), .val (.ref o), .val (.int i), .val (.int n)] [(.int n), (.int i)])) (fun _ k_ => XS.iloadN X0.here hx rfl (hb hby d7_1) rfl k_) ?_
  by_cases hc2 : i < n
  · skip
    refine Go.st (S' := T0.setTop (mkF m 7 #[.val (.ref t), .val (.ref o), .val (.int i), .val (.int n)] [])) (fun _ k_ => XS.icmpYes X0.here hx rfl (pc0 := 2) (pc' := 7) rfl (hb hby d7_2) rfl (tlt hc2).1 (by decide) (by decide) k_) ?_
    obtain ⟨hi0, x, hv1, hx0, hv2⟩ := hs hc2
    refine Go.st (S' := T0.setTop (mkF m 8 #[.val (.ref t), .val (.ref o), .val (.int i), .val (.int n)] [(.ref t)])) (fun _ k_ => XS.aloadN X0.here hx rfl (hb hby d7_7) rfl rfl k_) ?_
    refine Go.st (S' := T0.setTop (mkF m 9 #[.val (.ref t), .val (.ref o), .val (.int i), .val (.int n)] [(.ref o), (.ref t)])) (fun _ k_ => XS.aloadN X0.here hx rfl (hb hby d7_8) rfl rfl k_) ?_
    refine Go.st (S' := T0.setTop (mkF m 10 #[.val (.ref t), .val (.ref o), .val (.int i), .val (.int n)] [(.int i), (.ref o), (.ref t)])) (fun _ k_ => XS.iloadN X0.here hx rfl (hb hby d7_9) rfl k_) ?_
    refine Go.st (S' := T0.setTop (mkF m 11 #[.val (.ref t), .val (.ref o), .val (.int i), .val (.int n)] [(.int x), (.ref t)])) (A_o.load X0 hx hZ e0 (j := i) (v := x) hi0 hv1 (g := (mkF m 10 #[.val (.ref t), .val (.ref o), .val (.int i), .val (.int n)] [(.int i), (.ref o), (.ref t)])) rfl rfl (hb hby d7_10)) ?_
    refine Go.st (S' := T0.setTop (mkF m 12 #[.val (.ref t), .val (.ref o), .val (.int i), .val (.int n)] [(.int i)])) (A_t.load X0 hx hZ e0 (j := x) (v := i) hx0 hv2 (g := (mkF m 11 #[.val (.ref t), .val (.ref o), .val (.int i), .val (.int n)] [(.int x), (.ref t)])) rfl rfl (hb hby d7_11)) ?_
    refine Go.st (S' := T0.setTop (mkF m 13 #[.val (.ref t), .val (.ref o), .val (.int i), .val (.int n)] [(.int i), (.int i)])) (fun _ k_ => XS.iloadN X0.here hx rfl (hb hby d7_12) rfl k_) ?_
    refine Go.st (S' := T0.setTop (mkF m 16 #[.val (.ref t), .val (.ref o), .val (.int i), .val (.int n)] [])) (fun _ k_ => XS.icmpNo X0.here hx rfl (hb hby d7_13) rfl (teq (rfl : i = i)).2 k_) ?_
    refine Go.st (S' := T0.setTop (mkF m 17 #[.val (.ref t), .val (.ref o), .val (.int i), .val (.int n)] [(.int (1 : Int32))])) (fun _ k_ => XS.iconst X0.here hx rfl (hb hby d7_16) k_) ?_
    refine Go.st (S' := T0.setTop (mkF m 21 #[.val (.ref t), .val (.ref o), .val (.int i), .val (.int n)] [(.int (1 : Int32))])) (fun _ k_ => XS.goto X0.here hx rfl (pc0 := 17) (pc' := 21) rfl (hb hby d7_17) (by decide) (by decide) k_) ?_
    exact Go.retN X0 hx (t := .boolean) hret (by simp) hlk (hb hby d7_21) (by decide) (by decide) (by rw [e0]; exact ⟨rfl, N0, rfl⟩)
  · skip
    refine Go.st (S' := T0.setTop (mkF m 5 #[.val (.ref t), .val (.ref o), .val (.int i), .val (.int n)] [])) (fun _ k_ => XS.icmpNo X0.here hx rfl (hb hby d7_2) rfl (flt hc2).1 k_) ?_
    refine Go.st (S' := T0.setTop (mkF m 6 #[.val (.ref t), .val (.ref o), .val (.int i), .val (.int n)] [(.int (1 : Int32))])) (fun _ k_ => XS.iconst X0.here hx rfl (hb hby d7_5) k_) ?_
    exact Go.retN X0 hx (t := .boolean) hret (by simp) hlk (hb hby d7_6) (by decide) (by decide) (by rw [e0]; exact ⟨rfl, N0, rfl⟩)
theorem ef_rm0 (m : MethodId) (x0 : Int32) (x1 : Int32) : entryFrame m #[(.int x0), (.int x1)] maxLocals = mkF m 0 #[.val (.int x0), .val (.int x1), .unset, .unset, .unset, .unset, .unset, .unset, .unset, .unset] [] := by first | (simp [entryFrame, mkF, argsToLocals, Value.category, maxLocals]; done) | rfl
set_option maxRecDepth 65536 in
set_option maxHeartbeats 40000000 in
theorem rm0 (l : Launch) (Z : State) (a0 : Array Value) (hw : ∀ d ∈ tables_1, d.before a0 Z = true) (ws : List Jvm.Cond) (p0 : Int32) (p1 : Int32) (h0 : Heap) (n0 : Nat) (Z0 : n0 ≤ h0.size) :
    Con l Z x code maxLocals ret ws room_1 #[(.int p0), (.int p1)] h0 (fun v h L => v = some (.int 1) ∧ Fr n0 L) := by
  refine Con.mk (plainFor_of_name pn1) ?_
  intro p e s m below meth c T0 hx hby hml hown hnm hret hlk hZ X0 e0
  have hret : meth.sig.returnType = some .boolean := hret
  have hml : c.maxLocals = 10 := hml
  have hown : s.vm.findClass "io/isoproof/check/polygraph/NodeOrderPositionsPinLaw" = some m.cls := hown
  have hby : c.code = code := hby
  have N0 := Fr.nil n0
  have J0 : ∀ (z2 z6 : Int32) (T : State) (locs : List Loc) (h1 : Heap) (X : Stand p l e room_1 s m #[(.int p0), (.int p1)] below meth c T locs 2 8) (e1 : T.heap = h1) (N1 : Fr n0 locs) (Z0 : n0 ≤ h1.size) (t o : Addr) (y0 y1 y2 y3 : Int32) (A_o : Ai Z h1 o .int [y0, y1, y2, y3]) (g_o : n0 ≤ o) (okk : own_ok []), Go p e below s room_1 (fun v h L => v = some (.int 1) ∧ Fr n0 L) (T.setTop (mkF m 160 #[.val (.int p0), .val (.int p1), .val (.int z2), .val (.int (0 : Int32)), .val (.ref t), .val (.ref o), .val (.int z6), .unset, .unset, .unset] [])) := by
    intro z2 z6 T locs h1 X e1 N1 Z0 t o y0 y1 y2 y3 A_o g_o okk
    refine Go.st (S' := T.setTop (mkF m 161 #[.val (.int p0), .val (.int p1), .val (.int z2), .val (.int (0 : Int32)), .val (.ref t), .val (.ref o), .val (.int z6), .unset, .unset, .unset] [(.int (0 : Int32))])) (fun _ k_ => XS.iloadN X.here hx rfl (hb hby at_160) rfl k_) ?_
    obtain ⟨T11, h11, b11, X11, e11, q11, E11, A11, st11⟩ := Ai.new X hx hZ (aty := .int) (w1 hw) rfl e1 (n := (0 : Int32)) (by decide) 0 (by decide) (by decide) (by decide) (by decide) (g := (mkF m 161 #[.val (.int p0), .val (.int p1), .val (.int z2), .val (.int (0 : Int32)), .val (.ref t), .val (.ref o), .val (.int z6), .unset, .unset, .unset] [(.int (0 : Int32))])) rfl rfl (hb hby at_161)
    have ne_o_b11 : o ≠ b11 := Nat.ne_of_lt (Nat.lt_of_lt_of_le A_o.lt (Nat.le_of_eq q11.symm))
    have g_b11 : n0 ≤ b11 := Nat.le_trans Z0 (Nat.le_of_eq q11.symm)
    replace A_o := A_o.ext E11
    replace Z0 := Nat.le_trans Z0 E11.1
    have A_b11 : Ai Z h11 b11 .int [] := A11
    refine Go.st (S' := T11.setTop (mkF m 163 #[.val (.int p0), .val (.int p1), .val (.int z2), .val (.int (0 : Int32)), .val (.ref t), .val (.ref o), .val (.int z6), .unset, .unset, .unset] [(.ref b11)])) (st11) ?_
    refine Go.st (S' := T11.setTop (mkF m 165 #[.val (.int p0), .val (.int p1), .val (.int z2), .val (.int (0 : Int32)), .val (.ref t), .val (.ref o), .val (.int z6), .val (.ref b11), .unset, .unset] [])) (fun _ k_ => XS.astore X11.here hx rfl (hb hby at_163) rfl rfl (l' := #[.val (.int p0), .val (.int p1), .val (.int z2), .val (.int (0 : Int32)), .val (.ref t), .val (.ref o), .val (.int z6), .val (.ref b11), .unset, .unset]) rfl k_) ?_
    refine Go.st (S' := T11.setTop (mkF m 166 #[.val (.int p0), .val (.int p1), .val (.int z2), .val (.int (0 : Int32)), .val (.ref t), .val (.ref o), .val (.int z6), .val (.ref b11), .unset, .unset] [(.int (0 : Int32))])) (fun _ k_ => XS.iloadN X11.here hx rfl (hb hby at_165) rfl k_) ?_
    refine Go.st (S' := T11.setTop (mkF m 177 #[.val (.int p0), .val (.int p1), .val (.int z2), .val (.int (0 : Int32)), .val (.ref t), .val (.ref o), .val (.int z6), .val (.ref b11), .unset, .unset] [])) (fun _ k_ => XS.ifYes X11.here hx rfl (pc0 := 166) (pc' := 177) rfl (hb hby at_166) rfl ((if0 _ _).trans (flt (by decide)).2.2.2) (by decide) (by decide) k_) ?_
    refine Go.st (S' := T11.setTop (mkF m 178 #[.val (.int p0), .val (.int p1), .val (.int z2), .val (.int (0 : Int32)), .val (.ref t), .val (.ref o), .val (.int z6), .val (.ref b11), .unset, .unset] [(.int (0 : Int32))])) (fun _ k_ => XS.iloadN X11.here hx rfl (hb hby at_177) rfl k_) ?_
    refine Go.st (S' := T11.setTop (mkF m 179 #[.val (.int p0), .val (.int p1), .val (.int z2), .val (.int (0 : Int32)), .val (.ref t), .val (.ref o), .val (.int z6), .val (.ref b11), .unset, .unset] [(.int (1 : Int32)), (.int (0 : Int32))])) (fun _ k_ => XS.iconst X11.here hx rfl (hb hby at_178) k_) ?_
    refine Go.st (S' := T11.setTop (mkF m 190 #[.val (.int p0), .val (.int p1), .val (.int z2), .val (.int (0 : Int32)), .val (.ref t), .val (.ref o), .val (.int z6), .val (.ref b11), .unset, .unset] [])) (fun _ k_ => XS.icmpYes X11.here hx rfl (pc0 := 179) (pc' := 190) rfl (hb hby at_179) rfl (flt (by decide)).2.2.2 (by decide) (by decide) k_) ?_
    refine Go.st (S' := T11.setTop (mkF m 191 #[.val (.int p0), .val (.int p1), .val (.int z2), .val (.int (0 : Int32)), .val (.ref t), .val (.ref o), .val (.int z6), .val (.ref b11), .unset, .unset] [(.int (0 : Int32))])) (fun _ k_ => XS.iloadN X11.here hx rfl (hb hby at_190) rfl k_) ?_
    refine Go.st (S' := T11.setTop (mkF m 192 #[.val (.int p0), .val (.int p1), .val (.int z2), .val (.int (0 : Int32)), .val (.ref t), .val (.ref o), .val (.int z6), .val (.ref b11), .unset, .unset] [(.int (2 : Int32)), (.int (0 : Int32))])) (fun _ k_ => XS.iconst X11.here hx rfl (hb hby at_191) k_) ?_
    refine Go.st (S' := T11.setTop (mkF m 203 #[.val (.int p0), .val (.int p1), .val (.int z2), .val (.int (0 : Int32)), .val (.ref t), .val (.ref o), .val (.int z6), .val (.ref b11), .unset, .unset] [])) (fun _ k_ => XS.icmpYes X11.here hx rfl (pc0 := 192) (pc' := 203) rfl (hb hby at_192) rfl (flt (by decide)).2.2.2 (by decide) (by decide) k_) ?_
    refine Go.st (S' := T11.setTop (mkF m 204 #[.val (.int p0), .val (.int p1), .val (.int z2), .val (.int (0 : Int32)), .val (.ref t), .val (.ref o), .val (.int z6), .val (.ref b11), .unset, .unset] [(.int (0 : Int32))])) (fun _ k_ => XS.iloadN X11.here hx rfl (hb hby at_203) rfl k_) ?_
    refine Go.st (S' := T11.setTop (mkF m 205 #[.val (.int p0), .val (.int p1), .val (.int z2), .val (.int (0 : Int32)), .val (.ref t), .val (.ref o), .val (.int z6), .val (.ref b11), .unset, .unset] [(.int (3 : Int32)), (.int (0 : Int32))])) (fun _ k_ => XS.iconst X11.here hx rfl (hb hby at_204) k_) ?_
    refine Go.st (S' := T11.setTop (mkF m 216 #[.val (.int p0), .val (.int p1), .val (.int z2), .val (.int (0 : Int32)), .val (.ref t), .val (.ref o), .val (.int z6), .val (.ref b11), .unset, .unset] [])) (fun _ k_ => XS.icmpYes X11.here hx rfl (pc0 := 205) (pc' := 216) rfl (hb hby at_205) rfl (flt (by decide)).2.2.2 (by decide) (by decide) k_) ?_
    obtain ⟨T12, h12, X12, e12, E12, A12, D12, -, st12⟩ := newO X11 hx hZ hown (w6 hw) (w7 hw) (w8 hw) e11 (g := (mkF m 216 #[.val (.int p0), .val (.int p1), .val (.int z2), .val (.int (0 : Int32)), .val (.ref t), .val (.ref o), .val (.int z6), .val (.ref b11), .unset, .unset] [])) rfl (hb hby at_216) (by decide) (by decide)
    obtain ⟨b12, q12⟩ : ∃ z, z = h11.size := ⟨_, rfl⟩
    rw [← q12] at A12 D12 st12
    have ne_o_b12 : o ≠ b12 := Nat.ne_of_lt (Nat.lt_of_lt_of_le A_o.lt (Nat.le_of_eq q12.symm))
    have ne_b11_b12 : b11 ≠ b12 := Nat.ne_of_lt (Nat.lt_of_lt_of_le A_b11.lt (Nat.le_of_eq q12.symm))
    have g_b12 : n0 ≤ b12 := Nat.le_trans Z0 (Nat.le_of_eq q12.symm)
    replace A_o := A_o.ext E12
    replace A_b11 := A_b11.ext E12
    replace Z0 := Nat.le_trans Z0 E12.1
    have E_b12 := A12
    have F_label_b12 : Fld Z h12 b12 "io/isoproof/check/polygraph/NodeOrder" "label" "[J" .null := D12 (Or.inr (w17 hw)) (ty := (.array .long)) (by decide)
    have F_next_b12 : Fld Z h12 b12 "io/isoproof/check/polygraph/NodeOrder" "next" "[I" .null := D12 (Or.inr (w19 hw)) (ty := (.array .int)) (by decide)
    have F_previous_b12 : Fld Z h12 b12 "io/isoproof/check/polygraph/NodeOrder" "previous" "[I" .null := D12 (Or.inr (w21 hw)) (ty := (.array .int)) (by decide)
    have F_first_b12 : Fld Z h12 b12 "io/isoproof/check/polygraph/NodeOrder" "first" "I" (.int (0 : Int32)) := D12 (Or.inl (w23 hw)) (ty := .int) (by decide)
    refine Go.st (S' := T12.setTop (mkF m 219 #[.val (.int p0), .val (.int p1), .val (.int z2), .val (.int (0 : Int32)), .val (.ref t), .val (.ref o), .val (.int z6), .val (.ref b11), .unset, .unset] [(.ref b12)])) (st12) ?_
    refine Go.st (S' := T12.setTop (mkF m 220 #[.val (.int p0), .val (.int p1), .val (.int z2), .val (.int (0 : Int32)), .val (.ref t), .val (.ref o), .val (.int z6), .val (.ref b11), .unset, .unset] [(.ref b12), (.ref b12)])) (fun _ k_ => XS.dup X12.here hx rfl (hb hby at_219) rfl rfl k_) ?_
    refine Go.st (S' := T12.setTop (mkF m 222 #[.val (.int p0), .val (.int p1), .val (.int z2), .val (.int (0 : Int32)), .val (.ref t), .val (.ref o), .val (.int z6), .val (.ref b11), .unset, .unset] [(.ref b11), (.ref b12), (.ref b12)])) (fun _ k_ => XS.aload X12.here hx rfl (hb hby at_220) rfl rfl k_) ?_
    obtain ⟨v13, T13, h13, L13, X13, e13, hQ13, st13⟩ := callIn X12 hx hZ rfl hown (w9 hw) (w10 hw) (w8 hw) (w11 hw) (by decide) (W := 1) (argsL := [(.ref b11)]) (rest := [(.ref b12)]) e12 (no_init l Z a0 hw b12 b11 [] h12 n0 Z0 E_b12 F_label_b12 F_next_b12 F_previous_b12 F_first_b12 A_b11 (Ne.symm ne_b11_b12) g_b12 okk) (by decide) (by decide) pd2 rfl (g := (mkF m 222 #[.val (.int p0), .val (.int p1), .val (.int z2), .val (.int (0 : Int32)), .val (.ref t), .val (.ref o), .val (.int z6), .val (.ref b11), .unset, .unset] [(.ref b11), (.ref b12), (.ref b12)])) rfl (by rw [hml]; rfl) rfl (by show 2 * 0 + _ ≤ _; exact Nat.le_of_eq rfl) (hb hby at_222) (by decide) (by decide)
    obtain ⟨rfl, Nq13, Kq13, lb13, nx13, ls13, ns13, hl13, hn13, hln13, NO_b12⟩ := hQ13
    have N13 := Fr.app N1 Nq13
    have ne_o_lb13 : o ≠ lb13 := Nat.ne_of_lt (Nat.lt_of_lt_of_le A_o.lt hl13)
    have ne_b11_lb13 : b11 ≠ lb13 := Nat.ne_of_lt (Nat.lt_of_lt_of_le A_b11.lt hl13)
    have ne_b12_lb13 : b12 ≠ lb13 := Nat.ne_of_lt (Nat.lt_of_lt_of_le E_b12.lt hl13)
    have g_lb13 : n0 ≤ lb13 := Nat.le_trans Z0 hl13
    have ne_o_nx13 : o ≠ nx13 := Nat.ne_of_lt (Nat.lt_of_lt_of_le A_o.lt hn13)
    have ne_b11_nx13 : b11 ≠ nx13 := Nat.ne_of_lt (Nat.lt_of_lt_of_le A_b11.lt hn13)
    have ne_b12_nx13 : b12 ≠ nx13 := Nat.ne_of_lt (Nat.lt_of_lt_of_le E_b12.lt hn13)
    have g_nx13 : n0 ≤ nx13 := Nat.le_trans Z0 hn13
    replace A_o := A_o.keep Kq13 (ninS ne_o_b12 nin0)
    replace A_b11 := A_b11.keep Kq13 (ninS ne_b11_b12 nin0)
    replace Z0 := Nat.le_trans Z0 Kq13.1
    refine Go.st (S' := T13.setTop (mkF m 225 #[.val (.int p0), .val (.int p1), .val (.int z2), .val (.int (0 : Int32)), .val (.ref t), .val (.ref o), .val (.int z6), .val (.ref b11), .unset, .unset] [(.ref b12)])) (st13) ?_
    refine Go.st (S' := T13.setTop (mkF m 227 #[.val (.int p0), .val (.int p1), .val (.int z2), .val (.int (0 : Int32)), .val (.ref t), .val (.ref o), .val (.int z6), .val (.ref b11), .val (.ref b12), .unset] [])) (fun _ k_ => XS.astore X13.here hx rfl (hb hby at_225) rfl rfl (l' := #[.val (.int p0), .val (.int p1), .val (.int z2), .val (.int (0 : Int32)), .val (.ref t), .val (.ref o), .val (.int z6), .val (.ref b11), .val (.ref b12), .unset]) rfl k_) ?_
    refine Go.st (S' := T13.setTop (mkF m 229 #[.val (.int p0), .val (.int p1), .val (.int z2), .val (.int (0 : Int32)), .val (.ref t), .val (.ref o), .val (.int z6), .val (.ref b11), .val (.ref b12), .unset] [(.ref b12)])) (fun _ k_ => XS.aload X13.here hx rfl (hb hby at_227) rfl rfl k_) ?_
    obtain ⟨v14, T14, h14, L14, X14, e14, hQ14, st14⟩ := callVi X13 hx hZ hown (w33 hw) (w34 hw) (w36 hw) (w35 hw) (w8 hw) (w37 hw) (by decide) (W := 0) (argsL := []) (rest := []) e13 NO_b12.1 (no_positions l Z a0 hw b12 lb13 nx13 [] ns13 ls13 h13 n0 Z0 NO_b12 okk ne_b12_lb13 ne_b12_nx13 hln13 g_b12 g_lb13) (by decide) (by decide) pd3 rfl (g := (mkF m 229 #[.val (.int p0), .val (.int p1), .val (.int z2), .val (.int (0 : Int32)), .val (.ref t), .val (.ref o), .val (.int z6), .val (.ref b11), .val (.ref b12), .unset] [(.ref b12)])) rfl (by rw [hml]; rfl) rfl (by show 2 * 0 + _ ≤ _; exact Nat.le_of_eq rfl) (hb hby at_229) (by decide) (by decide)
    obtain ⟨Nq14, Kq14, r14, rfl, hr14, ps14, A_r14, hp14⟩ := hQ14
    have N14 := Fr.app N13 Nq14
    have ne_o_r14 : o ≠ r14 := Nat.ne_of_lt (Nat.lt_of_lt_of_le A_o.lt hr14)
    have ne_b11_r14 : b11 ≠ r14 := Nat.ne_of_lt (Nat.lt_of_lt_of_le A_b11.lt hr14)
    have ne_b12_r14 : b12 ≠ r14 := Nat.ne_of_lt (Nat.lt_of_lt_of_le NO_b12.1.lt hr14)
    have ne_lb13_r14 : lb13 ≠ r14 := Nat.ne_of_lt (Nat.lt_of_lt_of_le NO_b12.2.2.2.2.1.lt hr14)
    have ne_nx13_r14 : nx13 ≠ r14 := Nat.ne_of_lt (Nat.lt_of_lt_of_le NO_b12.2.2.2.2.2.1.lt hr14)
    have g_r14 : n0 ≤ r14 := Nat.le_trans Z0 hr14
    replace A_o := A_o.keep Kq14 nin0
    replace A_b11 := A_b11.keep Kq14 nin0
    replace Z0 := Nat.le_trans Z0 Kq14.1
    refine Go.st (S' := T14.setTop (mkF m 232 #[.val (.int p0), .val (.int p1), .val (.int z2), .val (.int (0 : Int32)), .val (.ref t), .val (.ref o), .val (.int z6), .val (.ref b11), .val (.ref b12), .unset] [(.ref r14)])) (st14) ?_
    refine Go.st (S' := T14.setTop (mkF m 234 #[.val (.int p0), .val (.int p1), .val (.int z2), .val (.int (0 : Int32)), .val (.ref t), .val (.ref o), .val (.int z6), .val (.ref b11), .val (.ref b12), .val (.ref r14)] [])) (fun _ k_ => XS.astore X14.here hx rfl (hb hby at_232) rfl rfl (l' := #[.val (.int p0), .val (.int p1), .val (.int z2), .val (.int (0 : Int32)), .val (.ref t), .val (.ref o), .val (.int z6), .val (.ref b11), .val (.ref b12), .val (.ref r14)]) rfl k_) ?_
    refine Go.st (S' := T14.setTop (mkF m 236 #[.val (.int p0), .val (.int p1), .val (.int z2), .val (.int (0 : Int32)), .val (.ref t), .val (.ref o), .val (.int z6), .val (.ref b11), .val (.ref b12), .val (.ref r14)] [(.ref r14)])) (fun _ k_ => XS.aload X14.here hx rfl (hb hby at_234) rfl rfl k_) ?_
    refine Go.st (S' := T14.setTop (mkF m 237 #[.val (.int p0), .val (.int p1), .val (.int z2), .val (.int (0 : Int32)), .val (.ref t), .val (.ref o), .val (.int z6), .val (.ref b11), .val (.ref b12), .val (.ref r14)] [(.int (0 : Int32))])) (A_r14.length X14 hx hZ e14 (n := (0 : Int32)) (by rw [hp14.1]; rfl) (g := (mkF m 236 #[.val (.int p0), .val (.int p1), .val (.int z2), .val (.int (0 : Int32)), .val (.ref t), .val (.ref o), .val (.int z6), .val (.ref b11), .val (.ref b12), .val (.ref r14)] [(.ref r14)])) rfl rfl (hb hby at_236)) ?_
    refine Go.st (S' := T14.setTop (mkF m 238 #[.val (.int p0), .val (.int p1), .val (.int z2), .val (.int (0 : Int32)), .val (.ref t), .val (.ref o), .val (.int z6), .val (.ref b11), .val (.ref b12), .val (.ref r14)] [(.int (0 : Int32)), (.int (0 : Int32))])) (fun _ k_ => XS.iloadN X14.here hx rfl (hb hby at_237) rfl k_) ?_
    refine Go.st (S' := T14.setTop (mkF m 243 #[.val (.int p0), .val (.int p1), .val (.int z2), .val (.int (0 : Int32)), .val (.ref t), .val (.ref o), .val (.int z6), .val (.ref b11), .val (.ref b12), .val (.ref r14)] [])) (fun _ k_ => XS.icmpYes X14.here hx rfl (pc0 := 238) (pc' := 243) rfl (hb hby at_238) rfl (teq (by decide)).1 (by decide) (by decide) k_) ?_
    refine Go.st (S' := T14.setTop (mkF m 245 #[.val (.int p0), .val (.int p1), .val (.int z2), .val (.int (0 : Int32)), .val (.ref t), .val (.ref o), .val (.int z6), .val (.ref b11), .val (.ref b12), .val (.ref r14)] [(.ref r14)])) (fun _ k_ => XS.aload X14.here hx rfl (hb hby at_243) rfl rfl k_) ?_
    refine Go.st (S' := T14.setTop (mkF m 247 #[.val (.int p0), .val (.int p1), .val (.int z2), .val (.int (0 : Int32)), .val (.ref t), .val (.ref o), .val (.int z6), .val (.ref b11), .val (.ref b12), .val (.ref r14)] [(.ref b11), (.ref r14)])) (fun _ k_ => XS.aload X14.here hx rfl (hb hby at_245) rfl rfl k_) ?_
    refine Go.st (S' := T14.setTop (mkF m 248 #[.val (.int p0), .val (.int p1), .val (.int z2), .val (.int (0 : Int32)), .val (.ref t), .val (.ref o), .val (.int z6), .val (.ref b11), .val (.ref b12), .val (.ref r14)] [(.int (0 : Int32)), (.ref b11), (.ref r14)])) (fun _ k_ => XS.iconst X14.here hx rfl (hb hby at_247) k_) ?_
    refine Go.st (S' := T14.setTop (mkF m 249 #[.val (.int p0), .val (.int p1), .val (.int z2), .val (.int (0 : Int32)), .val (.ref t), .val (.ref o), .val (.int z6), .val (.ref b11), .val (.ref b12), .val (.ref r14)] [(.int (0 : Int32)), (.int (0 : Int32)), (.ref b11), (.ref r14)])) (fun _ k_ => XS.iloadN X14.here hx rfl (hb hby at_248) rfl k_) ?_
    obtain ⟨v15, T15, h15, L15, X15, e15, hQ15, st15⟩ := callSt X14 hx hZ hown (w38 hw) (w39 hw) (w4 hw) (w40 hw) (by decide) (W := 0) (argsL := [(.ref r14), (.ref b11), (.int (0 : Int32)), (.int (0 : Int32))]) (rest := []) e14 (rm_at l Z a0 hw r14 b11 (0 : Int32) (0 : Int32) ps14 [] h14 n0 Z0 A_r14 A_b11 (fun q => absurd q (by decide))) (by decide) (by decide) pd4 rfl (g := (mkF m 249 #[.val (.int p0), .val (.int p1), .val (.int z2), .val (.int (0 : Int32)), .val (.ref t), .val (.ref o), .val (.int z6), .val (.ref b11), .val (.ref b12), .val (.ref r14)] [(.int (0 : Int32)), (.int (0 : Int32)), (.ref b11), (.ref r14)])) rfl (by rw [hml]; rfl) rfl (by show 2 * 0 + _ ≤ _; exact Nat.le_of_eq rfl) (hb hby at_249) (by decide) (by decide)
    obtain ⟨rfl, Nq15, hh15⟩ := hQ15
    rw [hh15] at e15
    have N15 := Fr.app N14 Nq15
    refine Go.st (S' := T15.setTop (mkF m 252 #[.val (.int p0), .val (.int p1), .val (.int z2), .val (.int (0 : Int32)), .val (.ref t), .val (.ref o), .val (.int z6), .val (.ref b11), .val (.ref b12), .val (.ref r14)] [(.int (1 : Int32))])) (st15) ?_
    refine Go.st (S' := T15.setTop (mkF m 255 #[.val (.int p0), .val (.int p1), .val (.int z2), .val (.int (0 : Int32)), .val (.ref t), .val (.ref o), .val (.int z6), .val (.ref b11), .val (.ref b12), .val (.ref r14)] [])) (fun _ k_ => XS.ifNo X15.here hx rfl (hb hby at_252) rfl ((if0 _ _).trans (feq (by decide)).1) k_) ?_
    refine Go.st (S' := T15.setTop (mkF m 257 #[.val (.int p0), .val (.int p1), .val (.int z2), .val (.int (0 : Int32)), .val (.ref t), .val (.ref o), .val (.int z6), .val (.ref b11), .val (.ref b12), .val (.ref r14)] [(.ref r14)])) (fun _ k_ => XS.aload X15.here hx rfl (hb hby at_255) rfl rfl k_) ?_
    refine Go.st (S' := T15.setTop (mkF m 259 #[.val (.int p0), .val (.int p1), .val (.int z2), .val (.int (0 : Int32)), .val (.ref t), .val (.ref o), .val (.int z6), .val (.ref b11), .val (.ref b12), .val (.ref r14)] [(.ref b11), (.ref r14)])) (fun _ k_ => XS.aload X15.here hx rfl (hb hby at_257) rfl rfl k_) ?_
    refine Go.st (S' := T15.setTop (mkF m 260 #[.val (.int p0), .val (.int p1), .val (.int z2), .val (.int (0 : Int32)), .val (.ref t), .val (.ref o), .val (.int z6), .val (.ref b11), .val (.ref b12), .val (.ref r14)] [(.int (1 : Int32)), (.ref b11), (.ref r14)])) (fun _ k_ => XS.iconst X15.here hx rfl (hb hby at_259) k_) ?_
    refine Go.st (S' := T15.setTop (mkF m 261 #[.val (.int p0), .val (.int p1), .val (.int z2), .val (.int (0 : Int32)), .val (.ref t), .val (.ref o), .val (.int z6), .val (.ref b11), .val (.ref b12), .val (.ref r14)] [(.int (0 : Int32)), (.int (1 : Int32)), (.ref b11), (.ref r14)])) (fun _ k_ => XS.iloadN X15.here hx rfl (hb hby at_260) rfl k_) ?_
    obtain ⟨v16, T16, h16, L16, X16, e16, hQ16, st16⟩ := callSt X15 hx hZ hown (w38 hw) (w39 hw) (w4 hw) (w40 hw) (by decide) (W := 0) (argsL := [(.ref r14), (.ref b11), (.int (1 : Int32)), (.int (0 : Int32))]) (rest := []) e15 (rm_at l Z a0 hw r14 b11 (1 : Int32) (0 : Int32) ps14 [] h14 n0 Z0 A_r14 A_b11 (fun q => absurd q (by decide))) (by decide) (by decide) pd4 rfl (g := (mkF m 261 #[.val (.int p0), .val (.int p1), .val (.int z2), .val (.int (0 : Int32)), .val (.ref t), .val (.ref o), .val (.int z6), .val (.ref b11), .val (.ref b12), .val (.ref r14)] [(.int (0 : Int32)), (.int (1 : Int32)), (.ref b11), (.ref r14)])) rfl (by rw [hml]; rfl) rfl (by show 2 * 0 + _ ≤ _; exact Nat.le_of_eq rfl) (hb hby at_261) (by decide) (by decide)
    obtain ⟨rfl, Nq16, hh16⟩ := hQ16
    rw [hh16] at e16
    have N16 := Fr.app N15 Nq16
    refine Go.st (S' := T16.setTop (mkF m 264 #[.val (.int p0), .val (.int p1), .val (.int z2), .val (.int (0 : Int32)), .val (.ref t), .val (.ref o), .val (.int z6), .val (.ref b11), .val (.ref b12), .val (.ref r14)] [(.int (1 : Int32))])) (st16) ?_
    refine Go.st (S' := T16.setTop (mkF m 267 #[.val (.int p0), .val (.int p1), .val (.int z2), .val (.int (0 : Int32)), .val (.ref t), .val (.ref o), .val (.int z6), .val (.ref b11), .val (.ref b12), .val (.ref r14)] [])) (fun _ k_ => XS.ifNo X16.here hx rfl (hb hby at_264) rfl ((if0 _ _).trans (feq (by decide)).1) k_) ?_
    refine Go.st (S' := T16.setTop (mkF m 269 #[.val (.int p0), .val (.int p1), .val (.int z2), .val (.int (0 : Int32)), .val (.ref t), .val (.ref o), .val (.int z6), .val (.ref b11), .val (.ref b12), .val (.ref r14)] [(.ref r14)])) (fun _ k_ => XS.aload X16.here hx rfl (hb hby at_267) rfl rfl k_) ?_
    refine Go.st (S' := T16.setTop (mkF m 271 #[.val (.int p0), .val (.int p1), .val (.int z2), .val (.int (0 : Int32)), .val (.ref t), .val (.ref o), .val (.int z6), .val (.ref b11), .val (.ref b12), .val (.ref r14)] [(.ref b11), (.ref r14)])) (fun _ k_ => XS.aload X16.here hx rfl (hb hby at_269) rfl rfl k_) ?_
    refine Go.st (S' := T16.setTop (mkF m 272 #[.val (.int p0), .val (.int p1), .val (.int z2), .val (.int (0 : Int32)), .val (.ref t), .val (.ref o), .val (.int z6), .val (.ref b11), .val (.ref b12), .val (.ref r14)] [(.int (2 : Int32)), (.ref b11), (.ref r14)])) (fun _ k_ => XS.iconst X16.here hx rfl (hb hby at_271) k_) ?_
    refine Go.st (S' := T16.setTop (mkF m 273 #[.val (.int p0), .val (.int p1), .val (.int z2), .val (.int (0 : Int32)), .val (.ref t), .val (.ref o), .val (.int z6), .val (.ref b11), .val (.ref b12), .val (.ref r14)] [(.int (0 : Int32)), (.int (2 : Int32)), (.ref b11), (.ref r14)])) (fun _ k_ => XS.iloadN X16.here hx rfl (hb hby at_272) rfl k_) ?_
    obtain ⟨v17, T17, h17, L17, X17, e17, hQ17, st17⟩ := callSt X16 hx hZ hown (w38 hw) (w39 hw) (w4 hw) (w40 hw) (by decide) (W := 0) (argsL := [(.ref r14), (.ref b11), (.int (2 : Int32)), (.int (0 : Int32))]) (rest := []) e16 (rm_at l Z a0 hw r14 b11 (2 : Int32) (0 : Int32) ps14 [] h14 n0 Z0 A_r14 A_b11 (fun q => absurd q (by decide))) (by decide) (by decide) pd4 rfl (g := (mkF m 273 #[.val (.int p0), .val (.int p1), .val (.int z2), .val (.int (0 : Int32)), .val (.ref t), .val (.ref o), .val (.int z6), .val (.ref b11), .val (.ref b12), .val (.ref r14)] [(.int (0 : Int32)), (.int (2 : Int32)), (.ref b11), (.ref r14)])) rfl (by rw [hml]; rfl) rfl (by show 2 * 0 + _ ≤ _; exact Nat.le_of_eq rfl) (hb hby at_273) (by decide) (by decide)
    obtain ⟨rfl, Nq17, hh17⟩ := hQ17
    rw [hh17] at e17
    have N17 := Fr.app N16 Nq17
    refine Go.st (S' := T17.setTop (mkF m 276 #[.val (.int p0), .val (.int p1), .val (.int z2), .val (.int (0 : Int32)), .val (.ref t), .val (.ref o), .val (.int z6), .val (.ref b11), .val (.ref b12), .val (.ref r14)] [(.int (1 : Int32))])) (st17) ?_
    refine Go.st (S' := T17.setTop (mkF m 279 #[.val (.int p0), .val (.int p1), .val (.int z2), .val (.int (0 : Int32)), .val (.ref t), .val (.ref o), .val (.int z6), .val (.ref b11), .val (.ref b12), .val (.ref r14)] [])) (fun _ k_ => XS.ifNo X17.here hx rfl (hb hby at_276) rfl ((if0 _ _).trans (feq (by decide)).1) k_) ?_
    refine Go.st (S' := T17.setTop (mkF m 281 #[.val (.int p0), .val (.int p1), .val (.int z2), .val (.int (0 : Int32)), .val (.ref t), .val (.ref o), .val (.int z6), .val (.ref b11), .val (.ref b12), .val (.ref r14)] [(.ref r14)])) (fun _ k_ => XS.aload X17.here hx rfl (hb hby at_279) rfl rfl k_) ?_
    refine Go.st (S' := T17.setTop (mkF m 283 #[.val (.int p0), .val (.int p1), .val (.int z2), .val (.int (0 : Int32)), .val (.ref t), .val (.ref o), .val (.int z6), .val (.ref b11), .val (.ref b12), .val (.ref r14)] [(.ref b11), (.ref r14)])) (fun _ k_ => XS.aload X17.here hx rfl (hb hby at_281) rfl rfl k_) ?_
    refine Go.st (S' := T17.setTop (mkF m 284 #[.val (.int p0), .val (.int p1), .val (.int z2), .val (.int (0 : Int32)), .val (.ref t), .val (.ref o), .val (.int z6), .val (.ref b11), .val (.ref b12), .val (.ref r14)] [(.int (3 : Int32)), (.ref b11), (.ref r14)])) (fun _ k_ => XS.iconst X17.here hx rfl (hb hby at_283) k_) ?_
    refine Go.st (S' := T17.setTop (mkF m 285 #[.val (.int p0), .val (.int p1), .val (.int z2), .val (.int (0 : Int32)), .val (.ref t), .val (.ref o), .val (.int z6), .val (.ref b11), .val (.ref b12), .val (.ref r14)] [(.int (0 : Int32)), (.int (3 : Int32)), (.ref b11), (.ref r14)])) (fun _ k_ => XS.iloadN X17.here hx rfl (hb hby at_284) rfl k_) ?_
    obtain ⟨v18, T18, h18, L18, X18, e18, hQ18, st18⟩ := callSt X17 hx hZ hown (w38 hw) (w39 hw) (w4 hw) (w40 hw) (by decide) (W := 0) (argsL := [(.ref r14), (.ref b11), (.int (3 : Int32)), (.int (0 : Int32))]) (rest := []) e17 (rm_at l Z a0 hw r14 b11 (3 : Int32) (0 : Int32) ps14 [] h14 n0 Z0 A_r14 A_b11 (fun q => absurd q (by decide))) (by decide) (by decide) pd4 rfl (g := (mkF m 285 #[.val (.int p0), .val (.int p1), .val (.int z2), .val (.int (0 : Int32)), .val (.ref t), .val (.ref o), .val (.int z6), .val (.ref b11), .val (.ref b12), .val (.ref r14)] [(.int (0 : Int32)), (.int (3 : Int32)), (.ref b11), (.ref r14)])) rfl (by rw [hml]; rfl) rfl (by show 2 * 0 + _ ≤ _; exact Nat.le_of_eq rfl) (hb hby at_285) (by decide) (by decide)
    obtain ⟨rfl, Nq18, hh18⟩ := hQ18
    rw [hh18] at e18
    have N18 := Fr.app N17 Nq18
    refine Go.st (S' := T18.setTop (mkF m 288 #[.val (.int p0), .val (.int p1), .val (.int z2), .val (.int (0 : Int32)), .val (.ref t), .val (.ref o), .val (.int z6), .val (.ref b11), .val (.ref b12), .val (.ref r14)] [(.int (1 : Int32))])) (st18) ?_
    refine Go.st (S' := T18.setTop (mkF m 291 #[.val (.int p0), .val (.int p1), .val (.int z2), .val (.int (0 : Int32)), .val (.ref t), .val (.ref o), .val (.int z6), .val (.ref b11), .val (.ref b12), .val (.ref r14)] [])) (fun _ k_ => XS.ifNo X18.here hx rfl (hb hby at_288) rfl ((if0 _ _).trans (feq (by decide)).1) k_) ?_
    refine Go.st (S' := T18.setTop (mkF m 292 #[.val (.int p0), .val (.int p1), .val (.int z2), .val (.int (0 : Int32)), .val (.ref t), .val (.ref o), .val (.int z6), .val (.ref b11), .val (.ref b12), .val (.ref r14)] [(.int (1 : Int32))])) (fun _ k_ => XS.iconst X18.here hx rfl (hb hby at_291) k_) ?_
    refine Go.st (S' := T18.setTop (mkF m 296 #[.val (.int p0), .val (.int p1), .val (.int z2), .val (.int (0 : Int32)), .val (.ref t), .val (.ref o), .val (.int z6), .val (.ref b11), .val (.ref b12), .val (.ref r14)] [(.int (1 : Int32))])) (fun _ k_ => XS.goto X18.here hx rfl (pc0 := 292) (pc' := 296) rfl (hb hby at_292) (by decide) (by decide) k_) ?_
    exact Go.retN X18 hx (t := .boolean) hret (by simp) hlk (hb hby at_296) (by decide) (by decide) ⟨rfl, N18⟩
  have J1 : ∀ (z2 z6 : Int32) (T : State) (locs : List Loc) (h1 : Heap) (X : Stand p l e room_1 s m #[(.int p0), (.int p1)] below meth c T locs 2 8) (e1 : T.heap = h1) (N1 : Fr n0 locs) (Z0 : n0 ≤ h1.size) (t o : Addr) (y0 y1 y2 y3 : Int32) (A_o : Ai Z h1 o .int [y0, y1, y2, y3]) (g_o : n0 ≤ o) (okk : own_ok [y0]), Go p e below s room_1 (fun v h L => v = some (.int 1) ∧ Fr n0 L) (T.setTop (mkF m 160 #[.val (.int p0), .val (.int p1), .val (.int z2), .val (.int (1 : Int32)), .val (.ref t), .val (.ref o), .val (.int z6), .unset, .unset, .unset] [])) := by
    intro z2 z6 T locs h1 X e1 N1 Z0 t o y0 y1 y2 y3 A_o g_o okk
    refine Go.st (S' := T.setTop (mkF m 161 #[.val (.int p0), .val (.int p1), .val (.int z2), .val (.int (1 : Int32)), .val (.ref t), .val (.ref o), .val (.int z6), .unset, .unset, .unset] [(.int (1 : Int32))])) (fun _ k_ => XS.iloadN X.here hx rfl (hb hby at_160) rfl k_) ?_
    obtain ⟨T19, h19, b19, X19, e19, q19, E19, A19, st19⟩ := Ai.new X hx hZ (aty := .int) (w1 hw) rfl e1 (n := (1 : Int32)) (by decide) 1 (by decide) (by decide) (by decide) (by decide) (g := (mkF m 161 #[.val (.int p0), .val (.int p1), .val (.int z2), .val (.int (1 : Int32)), .val (.ref t), .val (.ref o), .val (.int z6), .unset, .unset, .unset] [(.int (1 : Int32))])) rfl rfl (hb hby at_161)
    have ne_o_b19 : o ≠ b19 := Nat.ne_of_lt (Nat.lt_of_lt_of_le A_o.lt (Nat.le_of_eq q19.symm))
    have g_b19 : n0 ≤ b19 := Nat.le_trans Z0 (Nat.le_of_eq q19.symm)
    replace A_o := A_o.ext E19
    replace Z0 := Nat.le_trans Z0 E19.1
    have A_b19 : Ai Z h19 b19 .int [(0 : Int32)] := A19
    refine Go.st (S' := T19.setTop (mkF m 163 #[.val (.int p0), .val (.int p1), .val (.int z2), .val (.int (1 : Int32)), .val (.ref t), .val (.ref o), .val (.int z6), .unset, .unset, .unset] [(.ref b19)])) (st19) ?_
    refine Go.st (S' := T19.setTop (mkF m 165 #[.val (.int p0), .val (.int p1), .val (.int z2), .val (.int (1 : Int32)), .val (.ref t), .val (.ref o), .val (.int z6), .val (.ref b19), .unset, .unset] [])) (fun _ k_ => XS.astore X19.here hx rfl (hb hby at_163) rfl rfl (l' := #[.val (.int p0), .val (.int p1), .val (.int z2), .val (.int (1 : Int32)), .val (.ref t), .val (.ref o), .val (.int z6), .val (.ref b19), .unset, .unset]) rfl k_) ?_
    refine Go.st (S' := T19.setTop (mkF m 166 #[.val (.int p0), .val (.int p1), .val (.int z2), .val (.int (1 : Int32)), .val (.ref t), .val (.ref o), .val (.int z6), .val (.ref b19), .unset, .unset] [(.int (1 : Int32))])) (fun _ k_ => XS.iloadN X19.here hx rfl (hb hby at_165) rfl k_) ?_
    refine Go.st (S' := T19.setTop (mkF m 169 #[.val (.int p0), .val (.int p1), .val (.int z2), .val (.int (1 : Int32)), .val (.ref t), .val (.ref o), .val (.int z6), .val (.ref b19), .unset, .unset] [])) (fun _ k_ => XS.ifNo X19.here hx rfl (hb hby at_166) rfl ((if0 _ _).trans (tlt (by decide)).2.2.2) k_) ?_
    refine Go.st (S' := T19.setTop (mkF m 171 #[.val (.int p0), .val (.int p1), .val (.int z2), .val (.int (1 : Int32)), .val (.ref t), .val (.ref o), .val (.int z6), .val (.ref b19), .unset, .unset] [(.ref b19)])) (fun _ k_ => XS.aload X19.here hx rfl (hb hby at_169) rfl rfl k_) ?_
    refine Go.st (S' := T19.setTop (mkF m 172 #[.val (.int p0), .val (.int p1), .val (.int z2), .val (.int (1 : Int32)), .val (.ref t), .val (.ref o), .val (.int z6), .val (.ref b19), .unset, .unset] [(.int (0 : Int32)), (.ref b19)])) (fun _ k_ => XS.iconst X19.here hx rfl (hb hby at_171) k_) ?_
    refine Go.st (S' := T19.setTop (mkF m 174 #[.val (.int p0), .val (.int p1), .val (.int z2), .val (.int (1 : Int32)), .val (.ref t), .val (.ref o), .val (.int z6), .val (.ref b19), .unset, .unset] [(.ref o), (.int (0 : Int32)), (.ref b19)])) (fun _ k_ => XS.aload X19.here hx rfl (hb hby at_172) rfl rfl k_) ?_
    refine Go.st (S' := T19.setTop (mkF m 175 #[.val (.int p0), .val (.int p1), .val (.int z2), .val (.int (1 : Int32)), .val (.ref t), .val (.ref o), .val (.int z6), .val (.ref b19), .unset, .unset] [(.int (0 : Int32)), (.ref o), (.int (0 : Int32)), (.ref b19)])) (fun _ k_ => XS.iconst X19.here hx rfl (hb hby at_174) k_) ?_
    refine Go.st (S' := T19.setTop (mkF m 176 #[.val (.int p0), .val (.int p1), .val (.int z2), .val (.int (1 : Int32)), .val (.ref t), .val (.ref o), .val (.int z6), .val (.ref b19), .unset, .unset] [(.int y0), (.int (0 : Int32)), (.ref b19)])) (A_o.load X19 hx hZ e19 (j := (0 : Int32)) (v := y0) (by decide) rfl (g := (mkF m 175 #[.val (.int p0), .val (.int p1), .val (.int z2), .val (.int (1 : Int32)), .val (.ref t), .val (.ref o), .val (.int z6), .val (.ref b19), .unset, .unset] [(.int (0 : Int32)), (.ref o), (.int (0 : Int32)), (.ref b19)])) rfl rfl (hb hby at_175)) ?_
    obtain ⟨T20, h20, X20, e20, W20, A20, st20⟩ := A_b19.store X19 hx hZ e19 (j := (0 : Int32)) (by decide) (Nat.le_of_ble_eq_true rfl) (g := (mkF m 176 #[.val (.int p0), .val (.int p1), .val (.int z2), .val (.int (1 : Int32)), .val (.ref t), .val (.ref o), .val (.int z6), .val (.ref b19), .unset, .unset] [(.int y0), (.int (0 : Int32)), (.ref b19)])) rfl rfl (hb hby at_176)
    replace A_b19 : Ai Z h20 b19 .int [y0] := A20
    replace A_o := A_o.other W20 ne_o_b19
    replace Z0 := Nat.le_trans Z0 (Keep.of_wr W20).1
    have N20 := Fr.snoc X20 N1 g_b19
    refine Go.st (S' := T20.setTop (mkF m 177 #[.val (.int p0), .val (.int p1), .val (.int z2), .val (.int (1 : Int32)), .val (.ref t), .val (.ref o), .val (.int z6), .val (.ref b19), .unset, .unset] [])) (st20) ?_
    refine Go.st (S' := T20.setTop (mkF m 178 #[.val (.int p0), .val (.int p1), .val (.int z2), .val (.int (1 : Int32)), .val (.ref t), .val (.ref o), .val (.int z6), .val (.ref b19), .unset, .unset] [(.int (1 : Int32))])) (fun _ k_ => XS.iloadN X20.here hx rfl (hb hby at_177) rfl k_) ?_
    refine Go.st (S' := T20.setTop (mkF m 179 #[.val (.int p0), .val (.int p1), .val (.int z2), .val (.int (1 : Int32)), .val (.ref t), .val (.ref o), .val (.int z6), .val (.ref b19), .unset, .unset] [(.int (1 : Int32)), (.int (1 : Int32))])) (fun _ k_ => XS.iconst X20.here hx rfl (hb hby at_178) k_) ?_
    refine Go.st (S' := T20.setTop (mkF m 190 #[.val (.int p0), .val (.int p1), .val (.int z2), .val (.int (1 : Int32)), .val (.ref t), .val (.ref o), .val (.int z6), .val (.ref b19), .unset, .unset] [])) (fun _ k_ => XS.icmpYes X20.here hx rfl (pc0 := 179) (pc' := 190) rfl (hb hby at_179) rfl (flt (by decide)).2.2.2 (by decide) (by decide) k_) ?_
    refine Go.st (S' := T20.setTop (mkF m 191 #[.val (.int p0), .val (.int p1), .val (.int z2), .val (.int (1 : Int32)), .val (.ref t), .val (.ref o), .val (.int z6), .val (.ref b19), .unset, .unset] [(.int (1 : Int32))])) (fun _ k_ => XS.iloadN X20.here hx rfl (hb hby at_190) rfl k_) ?_
    refine Go.st (S' := T20.setTop (mkF m 192 #[.val (.int p0), .val (.int p1), .val (.int z2), .val (.int (1 : Int32)), .val (.ref t), .val (.ref o), .val (.int z6), .val (.ref b19), .unset, .unset] [(.int (2 : Int32)), (.int (1 : Int32))])) (fun _ k_ => XS.iconst X20.here hx rfl (hb hby at_191) k_) ?_
    refine Go.st (S' := T20.setTop (mkF m 203 #[.val (.int p0), .val (.int p1), .val (.int z2), .val (.int (1 : Int32)), .val (.ref t), .val (.ref o), .val (.int z6), .val (.ref b19), .unset, .unset] [])) (fun _ k_ => XS.icmpYes X20.here hx rfl (pc0 := 192) (pc' := 203) rfl (hb hby at_192) rfl (flt (by decide)).2.2.2 (by decide) (by decide) k_) ?_
    refine Go.st (S' := T20.setTop (mkF m 204 #[.val (.int p0), .val (.int p1), .val (.int z2), .val (.int (1 : Int32)), .val (.ref t), .val (.ref o), .val (.int z6), .val (.ref b19), .unset, .unset] [(.int (1 : Int32))])) (fun _ k_ => XS.iloadN X20.here hx rfl (hb hby at_203) rfl k_) ?_
    refine Go.st (S' := T20.setTop (mkF m 205 #[.val (.int p0), .val (.int p1), .val (.int z2), .val (.int (1 : Int32)), .val (.ref t), .val (.ref o), .val (.int z6), .val (.ref b19), .unset, .unset] [(.int (3 : Int32)), (.int (1 : Int32))])) (fun _ k_ => XS.iconst X20.here hx rfl (hb hby at_204) k_) ?_
    refine Go.st (S' := T20.setTop (mkF m 216 #[.val (.int p0), .val (.int p1), .val (.int z2), .val (.int (1 : Int32)), .val (.ref t), .val (.ref o), .val (.int z6), .val (.ref b19), .unset, .unset] [])) (fun _ k_ => XS.icmpYes X20.here hx rfl (pc0 := 205) (pc' := 216) rfl (hb hby at_205) rfl (flt (by decide)).2.2.2 (by decide) (by decide) k_) ?_
    obtain ⟨T21, h21, X21, e21, E21, A21, D21, -, st21⟩ := newO X20 hx hZ hown (w6 hw) (w7 hw) (w8 hw) e20 (g := (mkF m 216 #[.val (.int p0), .val (.int p1), .val (.int z2), .val (.int (1 : Int32)), .val (.ref t), .val (.ref o), .val (.int z6), .val (.ref b19), .unset, .unset] [])) rfl (hb hby at_216) (by decide) (by decide)
    obtain ⟨b21, q21⟩ : ∃ z, z = h20.size := ⟨_, rfl⟩
    rw [← q21] at A21 D21 st21
    have ne_o_b21 : o ≠ b21 := Nat.ne_of_lt (Nat.lt_of_lt_of_le A_o.lt (Nat.le_of_eq q21.symm))
    have ne_b19_b21 : b19 ≠ b21 := Nat.ne_of_lt (Nat.lt_of_lt_of_le A_b19.lt (Nat.le_of_eq q21.symm))
    have g_b21 : n0 ≤ b21 := Nat.le_trans Z0 (Nat.le_of_eq q21.symm)
    replace A_o := A_o.ext E21
    replace A_b19 := A_b19.ext E21
    replace Z0 := Nat.le_trans Z0 E21.1
    have E_b21 := A21
    have F_label_b21 : Fld Z h21 b21 "io/isoproof/check/polygraph/NodeOrder" "label" "[J" .null := D21 (Or.inr (w17 hw)) (ty := (.array .long)) (by decide)
    have F_next_b21 : Fld Z h21 b21 "io/isoproof/check/polygraph/NodeOrder" "next" "[I" .null := D21 (Or.inr (w19 hw)) (ty := (.array .int)) (by decide)
    have F_previous_b21 : Fld Z h21 b21 "io/isoproof/check/polygraph/NodeOrder" "previous" "[I" .null := D21 (Or.inr (w21 hw)) (ty := (.array .int)) (by decide)
    have F_first_b21 : Fld Z h21 b21 "io/isoproof/check/polygraph/NodeOrder" "first" "I" (.int (0 : Int32)) := D21 (Or.inl (w23 hw)) (ty := .int) (by decide)
    refine Go.st (S' := T21.setTop (mkF m 219 #[.val (.int p0), .val (.int p1), .val (.int z2), .val (.int (1 : Int32)), .val (.ref t), .val (.ref o), .val (.int z6), .val (.ref b19), .unset, .unset] [(.ref b21)])) (st21) ?_
    refine Go.st (S' := T21.setTop (mkF m 220 #[.val (.int p0), .val (.int p1), .val (.int z2), .val (.int (1 : Int32)), .val (.ref t), .val (.ref o), .val (.int z6), .val (.ref b19), .unset, .unset] [(.ref b21), (.ref b21)])) (fun _ k_ => XS.dup X21.here hx rfl (hb hby at_219) rfl rfl k_) ?_
    refine Go.st (S' := T21.setTop (mkF m 222 #[.val (.int p0), .val (.int p1), .val (.int z2), .val (.int (1 : Int32)), .val (.ref t), .val (.ref o), .val (.int z6), .val (.ref b19), .unset, .unset] [(.ref b19), (.ref b21), (.ref b21)])) (fun _ k_ => XS.aload X21.here hx rfl (hb hby at_220) rfl rfl k_) ?_
    obtain ⟨v22, T22, h22, L22, X22, e22, hQ22, st22⟩ := callIn X21 hx hZ rfl hown (w9 hw) (w10 hw) (w8 hw) (w11 hw) (by decide) (W := 1) (argsL := [(.ref b19)]) (rest := [(.ref b21)]) e21 (no_init l Z a0 hw b21 b19 [y0] h21 n0 Z0 E_b21 F_label_b21 F_next_b21 F_previous_b21 F_first_b21 A_b19 (Ne.symm ne_b19_b21) g_b21 okk) (by decide) (by decide) pd2 rfl (g := (mkF m 222 #[.val (.int p0), .val (.int p1), .val (.int z2), .val (.int (1 : Int32)), .val (.ref t), .val (.ref o), .val (.int z6), .val (.ref b19), .unset, .unset] [(.ref b19), (.ref b21), (.ref b21)])) rfl (by rw [hml]; rfl) rfl (by show 2 * 0 + _ ≤ _; exact Nat.le_of_eq rfl) (hb hby at_222) (by decide) (by decide)
    obtain ⟨rfl, Nq22, Kq22, lb22, nx22, ls22, ns22, hl22, hn22, hln22, NO_b21⟩ := hQ22
    have N22 := Fr.app N20 Nq22
    have ne_o_lb22 : o ≠ lb22 := Nat.ne_of_lt (Nat.lt_of_lt_of_le A_o.lt hl22)
    have ne_b19_lb22 : b19 ≠ lb22 := Nat.ne_of_lt (Nat.lt_of_lt_of_le A_b19.lt hl22)
    have ne_b21_lb22 : b21 ≠ lb22 := Nat.ne_of_lt (Nat.lt_of_lt_of_le E_b21.lt hl22)
    have g_lb22 : n0 ≤ lb22 := Nat.le_trans Z0 hl22
    have ne_o_nx22 : o ≠ nx22 := Nat.ne_of_lt (Nat.lt_of_lt_of_le A_o.lt hn22)
    have ne_b19_nx22 : b19 ≠ nx22 := Nat.ne_of_lt (Nat.lt_of_lt_of_le A_b19.lt hn22)
    have ne_b21_nx22 : b21 ≠ nx22 := Nat.ne_of_lt (Nat.lt_of_lt_of_le E_b21.lt hn22)
    have g_nx22 : n0 ≤ nx22 := Nat.le_trans Z0 hn22
    replace A_o := A_o.keep Kq22 (ninS ne_o_b21 nin0)
    replace A_b19 := A_b19.keep Kq22 (ninS ne_b19_b21 nin0)
    replace Z0 := Nat.le_trans Z0 Kq22.1
    refine Go.st (S' := T22.setTop (mkF m 225 #[.val (.int p0), .val (.int p1), .val (.int z2), .val (.int (1 : Int32)), .val (.ref t), .val (.ref o), .val (.int z6), .val (.ref b19), .unset, .unset] [(.ref b21)])) (st22) ?_
    refine Go.st (S' := T22.setTop (mkF m 227 #[.val (.int p0), .val (.int p1), .val (.int z2), .val (.int (1 : Int32)), .val (.ref t), .val (.ref o), .val (.int z6), .val (.ref b19), .val (.ref b21), .unset] [])) (fun _ k_ => XS.astore X22.here hx rfl (hb hby at_225) rfl rfl (l' := #[.val (.int p0), .val (.int p1), .val (.int z2), .val (.int (1 : Int32)), .val (.ref t), .val (.ref o), .val (.int z6), .val (.ref b19), .val (.ref b21), .unset]) rfl k_) ?_
    refine Go.st (S' := T22.setTop (mkF m 229 #[.val (.int p0), .val (.int p1), .val (.int z2), .val (.int (1 : Int32)), .val (.ref t), .val (.ref o), .val (.int z6), .val (.ref b19), .val (.ref b21), .unset] [(.ref b21)])) (fun _ k_ => XS.aload X22.here hx rfl (hb hby at_227) rfl rfl k_) ?_
    obtain ⟨v23, T23, h23, L23, X23, e23, hQ23, st23⟩ := callVi X22 hx hZ hown (w33 hw) (w34 hw) (w36 hw) (w35 hw) (w8 hw) (w37 hw) (by decide) (W := 0) (argsL := []) (rest := []) e22 NO_b21.1 (no_positions l Z a0 hw b21 lb22 nx22 [y0] ns22 ls22 h22 n0 Z0 NO_b21 okk ne_b21_lb22 ne_b21_nx22 hln22 g_b21 g_lb22) (by decide) (by decide) pd3 rfl (g := (mkF m 229 #[.val (.int p0), .val (.int p1), .val (.int z2), .val (.int (1 : Int32)), .val (.ref t), .val (.ref o), .val (.int z6), .val (.ref b19), .val (.ref b21), .unset] [(.ref b21)])) rfl (by rw [hml]; rfl) rfl (by show 2 * 0 + _ ≤ _; exact Nat.le_of_eq rfl) (hb hby at_229) (by decide) (by decide)
    obtain ⟨Nq23, Kq23, r23, rfl, hr23, ps23, A_r23, hp23⟩ := hQ23
    have N23 := Fr.app N22 Nq23
    have ne_o_r23 : o ≠ r23 := Nat.ne_of_lt (Nat.lt_of_lt_of_le A_o.lt hr23)
    have ne_b19_r23 : b19 ≠ r23 := Nat.ne_of_lt (Nat.lt_of_lt_of_le A_b19.lt hr23)
    have ne_b21_r23 : b21 ≠ r23 := Nat.ne_of_lt (Nat.lt_of_lt_of_le NO_b21.1.lt hr23)
    have ne_lb22_r23 : lb22 ≠ r23 := Nat.ne_of_lt (Nat.lt_of_lt_of_le NO_b21.2.2.2.2.1.lt hr23)
    have ne_nx22_r23 : nx22 ≠ r23 := Nat.ne_of_lt (Nat.lt_of_lt_of_le NO_b21.2.2.2.2.2.1.lt hr23)
    have g_r23 : n0 ≤ r23 := Nat.le_trans Z0 hr23
    replace A_o := A_o.keep Kq23 nin0
    replace A_b19 := A_b19.keep Kq23 nin0
    replace Z0 := Nat.le_trans Z0 Kq23.1
    refine Go.st (S' := T23.setTop (mkF m 232 #[.val (.int p0), .val (.int p1), .val (.int z2), .val (.int (1 : Int32)), .val (.ref t), .val (.ref o), .val (.int z6), .val (.ref b19), .val (.ref b21), .unset] [(.ref r23)])) (st23) ?_
    refine Go.st (S' := T23.setTop (mkF m 234 #[.val (.int p0), .val (.int p1), .val (.int z2), .val (.int (1 : Int32)), .val (.ref t), .val (.ref o), .val (.int z6), .val (.ref b19), .val (.ref b21), .val (.ref r23)] [])) (fun _ k_ => XS.astore X23.here hx rfl (hb hby at_232) rfl rfl (l' := #[.val (.int p0), .val (.int p1), .val (.int z2), .val (.int (1 : Int32)), .val (.ref t), .val (.ref o), .val (.int z6), .val (.ref b19), .val (.ref b21), .val (.ref r23)]) rfl k_) ?_
    refine Go.st (S' := T23.setTop (mkF m 236 #[.val (.int p0), .val (.int p1), .val (.int z2), .val (.int (1 : Int32)), .val (.ref t), .val (.ref o), .val (.int z6), .val (.ref b19), .val (.ref b21), .val (.ref r23)] [(.ref r23)])) (fun _ k_ => XS.aload X23.here hx rfl (hb hby at_234) rfl rfl k_) ?_
    refine Go.st (S' := T23.setTop (mkF m 237 #[.val (.int p0), .val (.int p1), .val (.int z2), .val (.int (1 : Int32)), .val (.ref t), .val (.ref o), .val (.int z6), .val (.ref b19), .val (.ref b21), .val (.ref r23)] [(.int (1 : Int32))])) (A_r23.length X23 hx hZ e23 (n := (1 : Int32)) (by rw [hp23.1]; rfl) (g := (mkF m 236 #[.val (.int p0), .val (.int p1), .val (.int z2), .val (.int (1 : Int32)), .val (.ref t), .val (.ref o), .val (.int z6), .val (.ref b19), .val (.ref b21), .val (.ref r23)] [(.ref r23)])) rfl rfl (hb hby at_236)) ?_
    refine Go.st (S' := T23.setTop (mkF m 238 #[.val (.int p0), .val (.int p1), .val (.int z2), .val (.int (1 : Int32)), .val (.ref t), .val (.ref o), .val (.int z6), .val (.ref b19), .val (.ref b21), .val (.ref r23)] [(.int (1 : Int32)), (.int (1 : Int32))])) (fun _ k_ => XS.iloadN X23.here hx rfl (hb hby at_237) rfl k_) ?_
    refine Go.st (S' := T23.setTop (mkF m 243 #[.val (.int p0), .val (.int p1), .val (.int z2), .val (.int (1 : Int32)), .val (.ref t), .val (.ref o), .val (.int z6), .val (.ref b19), .val (.ref b21), .val (.ref r23)] [])) (fun _ k_ => XS.icmpYes X23.here hx rfl (pc0 := 238) (pc' := 243) rfl (hb hby at_238) rfl (teq (by decide)).1 (by decide) (by decide) k_) ?_
    refine Go.st (S' := T23.setTop (mkF m 245 #[.val (.int p0), .val (.int p1), .val (.int z2), .val (.int (1 : Int32)), .val (.ref t), .val (.ref o), .val (.int z6), .val (.ref b19), .val (.ref b21), .val (.ref r23)] [(.ref r23)])) (fun _ k_ => XS.aload X23.here hx rfl (hb hby at_243) rfl rfl k_) ?_
    refine Go.st (S' := T23.setTop (mkF m 247 #[.val (.int p0), .val (.int p1), .val (.int z2), .val (.int (1 : Int32)), .val (.ref t), .val (.ref o), .val (.int z6), .val (.ref b19), .val (.ref b21), .val (.ref r23)] [(.ref b19), (.ref r23)])) (fun _ k_ => XS.aload X23.here hx rfl (hb hby at_245) rfl rfl k_) ?_
    refine Go.st (S' := T23.setTop (mkF m 248 #[.val (.int p0), .val (.int p1), .val (.int z2), .val (.int (1 : Int32)), .val (.ref t), .val (.ref o), .val (.int z6), .val (.ref b19), .val (.ref b21), .val (.ref r23)] [(.int (0 : Int32)), (.ref b19), (.ref r23)])) (fun _ k_ => XS.iconst X23.here hx rfl (hb hby at_247) k_) ?_
    refine Go.st (S' := T23.setTop (mkF m 249 #[.val (.int p0), .val (.int p1), .val (.int z2), .val (.int (1 : Int32)), .val (.ref t), .val (.ref o), .val (.int z6), .val (.ref b19), .val (.ref b21), .val (.ref r23)] [(.int (1 : Int32)), (.int (0 : Int32)), (.ref b19), (.ref r23)])) (fun _ k_ => XS.iloadN X23.here hx rfl (hb hby at_248) rfl k_) ?_
    obtain ⟨v24, T24, h24, L24, X24, e24, hQ24, st24⟩ := callSt X23 hx hZ hown (w38 hw) (w39 hw) (w4 hw) (w40 hw) (by decide) (W := 0) (argsL := [(.ref r23), (.ref b19), (.int (0 : Int32)), (.int (1 : Int32))]) (rest := []) e23 (rm_at l Z a0 hw r23 b19 (0 : Int32) (1 : Int32) ps23 [y0] h23 n0 Z0 A_r23 A_b19 (fun _ => ⟨by decide, y0, rfl, (okk.2.1 0 _ rfl).1, hp23.2 0 (by simp) _ rfl⟩)) (by decide) (by decide) pd4 rfl (g := (mkF m 249 #[.val (.int p0), .val (.int p1), .val (.int z2), .val (.int (1 : Int32)), .val (.ref t), .val (.ref o), .val (.int z6), .val (.ref b19), .val (.ref b21), .val (.ref r23)] [(.int (1 : Int32)), (.int (0 : Int32)), (.ref b19), (.ref r23)])) rfl (by rw [hml]; rfl) rfl (by show 2 * 0 + _ ≤ _; exact Nat.le_of_eq rfl) (hb hby at_249) (by decide) (by decide)
    obtain ⟨rfl, Nq24, hh24⟩ := hQ24
    rw [hh24] at e24
    have N24 := Fr.app N23 Nq24
    refine Go.st (S' := T24.setTop (mkF m 252 #[.val (.int p0), .val (.int p1), .val (.int z2), .val (.int (1 : Int32)), .val (.ref t), .val (.ref o), .val (.int z6), .val (.ref b19), .val (.ref b21), .val (.ref r23)] [(.int (1 : Int32))])) (st24) ?_
    refine Go.st (S' := T24.setTop (mkF m 255 #[.val (.int p0), .val (.int p1), .val (.int z2), .val (.int (1 : Int32)), .val (.ref t), .val (.ref o), .val (.int z6), .val (.ref b19), .val (.ref b21), .val (.ref r23)] [])) (fun _ k_ => XS.ifNo X24.here hx rfl (hb hby at_252) rfl ((if0 _ _).trans (feq (by decide)).1) k_) ?_
    refine Go.st (S' := T24.setTop (mkF m 257 #[.val (.int p0), .val (.int p1), .val (.int z2), .val (.int (1 : Int32)), .val (.ref t), .val (.ref o), .val (.int z6), .val (.ref b19), .val (.ref b21), .val (.ref r23)] [(.ref r23)])) (fun _ k_ => XS.aload X24.here hx rfl (hb hby at_255) rfl rfl k_) ?_
    refine Go.st (S' := T24.setTop (mkF m 259 #[.val (.int p0), .val (.int p1), .val (.int z2), .val (.int (1 : Int32)), .val (.ref t), .val (.ref o), .val (.int z6), .val (.ref b19), .val (.ref b21), .val (.ref r23)] [(.ref b19), (.ref r23)])) (fun _ k_ => XS.aload X24.here hx rfl (hb hby at_257) rfl rfl k_) ?_
    refine Go.st (S' := T24.setTop (mkF m 260 #[.val (.int p0), .val (.int p1), .val (.int z2), .val (.int (1 : Int32)), .val (.ref t), .val (.ref o), .val (.int z6), .val (.ref b19), .val (.ref b21), .val (.ref r23)] [(.int (1 : Int32)), (.ref b19), (.ref r23)])) (fun _ k_ => XS.iconst X24.here hx rfl (hb hby at_259) k_) ?_
    refine Go.st (S' := T24.setTop (mkF m 261 #[.val (.int p0), .val (.int p1), .val (.int z2), .val (.int (1 : Int32)), .val (.ref t), .val (.ref o), .val (.int z6), .val (.ref b19), .val (.ref b21), .val (.ref r23)] [(.int (1 : Int32)), (.int (1 : Int32)), (.ref b19), (.ref r23)])) (fun _ k_ => XS.iloadN X24.here hx rfl (hb hby at_260) rfl k_) ?_
    obtain ⟨v25, T25, h25, L25, X25, e25, hQ25, st25⟩ := callSt X24 hx hZ hown (w38 hw) (w39 hw) (w4 hw) (w40 hw) (by decide) (W := 0) (argsL := [(.ref r23), (.ref b19), (.int (1 : Int32)), (.int (1 : Int32))]) (rest := []) e24 (rm_at l Z a0 hw r23 b19 (1 : Int32) (1 : Int32) ps23 [y0] h23 n0 Z0 A_r23 A_b19 (fun q => absurd q (by decide))) (by decide) (by decide) pd4 rfl (g := (mkF m 261 #[.val (.int p0), .val (.int p1), .val (.int z2), .val (.int (1 : Int32)), .val (.ref t), .val (.ref o), .val (.int z6), .val (.ref b19), .val (.ref b21), .val (.ref r23)] [(.int (1 : Int32)), (.int (1 : Int32)), (.ref b19), (.ref r23)])) rfl (by rw [hml]; rfl) rfl (by show 2 * 0 + _ ≤ _; exact Nat.le_of_eq rfl) (hb hby at_261) (by decide) (by decide)
    obtain ⟨rfl, Nq25, hh25⟩ := hQ25
    rw [hh25] at e25
    have N25 := Fr.app N24 Nq25
    refine Go.st (S' := T25.setTop (mkF m 264 #[.val (.int p0), .val (.int p1), .val (.int z2), .val (.int (1 : Int32)), .val (.ref t), .val (.ref o), .val (.int z6), .val (.ref b19), .val (.ref b21), .val (.ref r23)] [(.int (1 : Int32))])) (st25) ?_
    refine Go.st (S' := T25.setTop (mkF m 267 #[.val (.int p0), .val (.int p1), .val (.int z2), .val (.int (1 : Int32)), .val (.ref t), .val (.ref o), .val (.int z6), .val (.ref b19), .val (.ref b21), .val (.ref r23)] [])) (fun _ k_ => XS.ifNo X25.here hx rfl (hb hby at_264) rfl ((if0 _ _).trans (feq (by decide)).1) k_) ?_
    refine Go.st (S' := T25.setTop (mkF m 269 #[.val (.int p0), .val (.int p1), .val (.int z2), .val (.int (1 : Int32)), .val (.ref t), .val (.ref o), .val (.int z6), .val (.ref b19), .val (.ref b21), .val (.ref r23)] [(.ref r23)])) (fun _ k_ => XS.aload X25.here hx rfl (hb hby at_267) rfl rfl k_) ?_
    refine Go.st (S' := T25.setTop (mkF m 271 #[.val (.int p0), .val (.int p1), .val (.int z2), .val (.int (1 : Int32)), .val (.ref t), .val (.ref o), .val (.int z6), .val (.ref b19), .val (.ref b21), .val (.ref r23)] [(.ref b19), (.ref r23)])) (fun _ k_ => XS.aload X25.here hx rfl (hb hby at_269) rfl rfl k_) ?_
    refine Go.st (S' := T25.setTop (mkF m 272 #[.val (.int p0), .val (.int p1), .val (.int z2), .val (.int (1 : Int32)), .val (.ref t), .val (.ref o), .val (.int z6), .val (.ref b19), .val (.ref b21), .val (.ref r23)] [(.int (2 : Int32)), (.ref b19), (.ref r23)])) (fun _ k_ => XS.iconst X25.here hx rfl (hb hby at_271) k_) ?_
    refine Go.st (S' := T25.setTop (mkF m 273 #[.val (.int p0), .val (.int p1), .val (.int z2), .val (.int (1 : Int32)), .val (.ref t), .val (.ref o), .val (.int z6), .val (.ref b19), .val (.ref b21), .val (.ref r23)] [(.int (1 : Int32)), (.int (2 : Int32)), (.ref b19), (.ref r23)])) (fun _ k_ => XS.iloadN X25.here hx rfl (hb hby at_272) rfl k_) ?_
    obtain ⟨v26, T26, h26, L26, X26, e26, hQ26, st26⟩ := callSt X25 hx hZ hown (w38 hw) (w39 hw) (w4 hw) (w40 hw) (by decide) (W := 0) (argsL := [(.ref r23), (.ref b19), (.int (2 : Int32)), (.int (1 : Int32))]) (rest := []) e25 (rm_at l Z a0 hw r23 b19 (2 : Int32) (1 : Int32) ps23 [y0] h23 n0 Z0 A_r23 A_b19 (fun q => absurd q (by decide))) (by decide) (by decide) pd4 rfl (g := (mkF m 273 #[.val (.int p0), .val (.int p1), .val (.int z2), .val (.int (1 : Int32)), .val (.ref t), .val (.ref o), .val (.int z6), .val (.ref b19), .val (.ref b21), .val (.ref r23)] [(.int (1 : Int32)), (.int (2 : Int32)), (.ref b19), (.ref r23)])) rfl (by rw [hml]; rfl) rfl (by show 2 * 0 + _ ≤ _; exact Nat.le_of_eq rfl) (hb hby at_273) (by decide) (by decide)
    obtain ⟨rfl, Nq26, hh26⟩ := hQ26
    rw [hh26] at e26
    have N26 := Fr.app N25 Nq26
    refine Go.st (S' := T26.setTop (mkF m 276 #[.val (.int p0), .val (.int p1), .val (.int z2), .val (.int (1 : Int32)), .val (.ref t), .val (.ref o), .val (.int z6), .val (.ref b19), .val (.ref b21), .val (.ref r23)] [(.int (1 : Int32))])) (st26) ?_
    refine Go.st (S' := T26.setTop (mkF m 279 #[.val (.int p0), .val (.int p1), .val (.int z2), .val (.int (1 : Int32)), .val (.ref t), .val (.ref o), .val (.int z6), .val (.ref b19), .val (.ref b21), .val (.ref r23)] [])) (fun _ k_ => XS.ifNo X26.here hx rfl (hb hby at_276) rfl ((if0 _ _).trans (feq (by decide)).1) k_) ?_
    refine Go.st (S' := T26.setTop (mkF m 281 #[.val (.int p0), .val (.int p1), .val (.int z2), .val (.int (1 : Int32)), .val (.ref t), .val (.ref o), .val (.int z6), .val (.ref b19), .val (.ref b21), .val (.ref r23)] [(.ref r23)])) (fun _ k_ => XS.aload X26.here hx rfl (hb hby at_279) rfl rfl k_) ?_
    refine Go.st (S' := T26.setTop (mkF m 283 #[.val (.int p0), .val (.int p1), .val (.int z2), .val (.int (1 : Int32)), .val (.ref t), .val (.ref o), .val (.int z6), .val (.ref b19), .val (.ref b21), .val (.ref r23)] [(.ref b19), (.ref r23)])) (fun _ k_ => XS.aload X26.here hx rfl (hb hby at_281) rfl rfl k_) ?_
    refine Go.st (S' := T26.setTop (mkF m 284 #[.val (.int p0), .val (.int p1), .val (.int z2), .val (.int (1 : Int32)), .val (.ref t), .val (.ref o), .val (.int z6), .val (.ref b19), .val (.ref b21), .val (.ref r23)] [(.int (3 : Int32)), (.ref b19), (.ref r23)])) (fun _ k_ => XS.iconst X26.here hx rfl (hb hby at_283) k_) ?_
    refine Go.st (S' := T26.setTop (mkF m 285 #[.val (.int p0), .val (.int p1), .val (.int z2), .val (.int (1 : Int32)), .val (.ref t), .val (.ref o), .val (.int z6), .val (.ref b19), .val (.ref b21), .val (.ref r23)] [(.int (1 : Int32)), (.int (3 : Int32)), (.ref b19), (.ref r23)])) (fun _ k_ => XS.iloadN X26.here hx rfl (hb hby at_284) rfl k_) ?_
    obtain ⟨v27, T27, h27, L27, X27, e27, hQ27, st27⟩ := callSt X26 hx hZ hown (w38 hw) (w39 hw) (w4 hw) (w40 hw) (by decide) (W := 0) (argsL := [(.ref r23), (.ref b19), (.int (3 : Int32)), (.int (1 : Int32))]) (rest := []) e26 (rm_at l Z a0 hw r23 b19 (3 : Int32) (1 : Int32) ps23 [y0] h23 n0 Z0 A_r23 A_b19 (fun q => absurd q (by decide))) (by decide) (by decide) pd4 rfl (g := (mkF m 285 #[.val (.int p0), .val (.int p1), .val (.int z2), .val (.int (1 : Int32)), .val (.ref t), .val (.ref o), .val (.int z6), .val (.ref b19), .val (.ref b21), .val (.ref r23)] [(.int (1 : Int32)), (.int (3 : Int32)), (.ref b19), (.ref r23)])) rfl (by rw [hml]; rfl) rfl (by show 2 * 0 + _ ≤ _; exact Nat.le_of_eq rfl) (hb hby at_285) (by decide) (by decide)
    obtain ⟨rfl, Nq27, hh27⟩ := hQ27
    rw [hh27] at e27
    have N27 := Fr.app N26 Nq27
    refine Go.st (S' := T27.setTop (mkF m 288 #[.val (.int p0), .val (.int p1), .val (.int z2), .val (.int (1 : Int32)), .val (.ref t), .val (.ref o), .val (.int z6), .val (.ref b19), .val (.ref b21), .val (.ref r23)] [(.int (1 : Int32))])) (st27) ?_
    refine Go.st (S' := T27.setTop (mkF m 291 #[.val (.int p0), .val (.int p1), .val (.int z2), .val (.int (1 : Int32)), .val (.ref t), .val (.ref o), .val (.int z6), .val (.ref b19), .val (.ref b21), .val (.ref r23)] [])) (fun _ k_ => XS.ifNo X27.here hx rfl (hb hby at_288) rfl ((if0 _ _).trans (feq (by decide)).1) k_) ?_
    refine Go.st (S' := T27.setTop (mkF m 292 #[.val (.int p0), .val (.int p1), .val (.int z2), .val (.int (1 : Int32)), .val (.ref t), .val (.ref o), .val (.int z6), .val (.ref b19), .val (.ref b21), .val (.ref r23)] [(.int (1 : Int32))])) (fun _ k_ => XS.iconst X27.here hx rfl (hb hby at_291) k_) ?_
    refine Go.st (S' := T27.setTop (mkF m 296 #[.val (.int p0), .val (.int p1), .val (.int z2), .val (.int (1 : Int32)), .val (.ref t), .val (.ref o), .val (.int z6), .val (.ref b19), .val (.ref b21), .val (.ref r23)] [(.int (1 : Int32))])) (fun _ k_ => XS.goto X27.here hx rfl (pc0 := 292) (pc' := 296) rfl (hb hby at_292) (by decide) (by decide) k_) ?_
    exact Go.retN X27 hx (t := .boolean) hret (by simp) hlk (hb hby at_296) (by decide) (by decide) ⟨rfl, N27⟩
  have J2 : ∀ (z2 z6 : Int32) (T : State) (locs : List Loc) (h1 : Heap) (X : Stand p l e room_1 s m #[(.int p0), (.int p1)] below meth c T locs 2 8) (e1 : T.heap = h1) (N1 : Fr n0 locs) (Z0 : n0 ≤ h1.size) (t o : Addr) (y0 y1 y2 y3 : Int32) (A_o : Ai Z h1 o .int [y0, y1, y2, y3]) (g_o : n0 ≤ o) (okk : own_ok [y0, y1]), Go p e below s room_1 (fun v h L => v = some (.int 1) ∧ Fr n0 L) (T.setTop (mkF m 160 #[.val (.int p0), .val (.int p1), .val (.int z2), .val (.int (2 : Int32)), .val (.ref t), .val (.ref o), .val (.int z6), .unset, .unset, .unset] [])) := by
    intro z2 z6 T locs h1 X e1 N1 Z0 t o y0 y1 y2 y3 A_o g_o okk
    refine Go.st (S' := T.setTop (mkF m 161 #[.val (.int p0), .val (.int p1), .val (.int z2), .val (.int (2 : Int32)), .val (.ref t), .val (.ref o), .val (.int z6), .unset, .unset, .unset] [(.int (2 : Int32))])) (fun _ k_ => XS.iloadN X.here hx rfl (hb hby at_160) rfl k_) ?_
    obtain ⟨T28, h28, b28, X28, e28, q28, E28, A28, st28⟩ := Ai.new X hx hZ (aty := .int) (w1 hw) rfl e1 (n := (2 : Int32)) (by decide) 2 (by decide) (by decide) (by decide) (by decide) (g := (mkF m 161 #[.val (.int p0), .val (.int p1), .val (.int z2), .val (.int (2 : Int32)), .val (.ref t), .val (.ref o), .val (.int z6), .unset, .unset, .unset] [(.int (2 : Int32))])) rfl rfl (hb hby at_161)
    have ne_o_b28 : o ≠ b28 := Nat.ne_of_lt (Nat.lt_of_lt_of_le A_o.lt (Nat.le_of_eq q28.symm))
    have g_b28 : n0 ≤ b28 := Nat.le_trans Z0 (Nat.le_of_eq q28.symm)
    replace A_o := A_o.ext E28
    replace Z0 := Nat.le_trans Z0 E28.1
    have A_b28 : Ai Z h28 b28 .int [(0 : Int32), (0 : Int32)] := A28
    refine Go.st (S' := T28.setTop (mkF m 163 #[.val (.int p0), .val (.int p1), .val (.int z2), .val (.int (2 : Int32)), .val (.ref t), .val (.ref o), .val (.int z6), .unset, .unset, .unset] [(.ref b28)])) (st28) ?_
    refine Go.st (S' := T28.setTop (mkF m 165 #[.val (.int p0), .val (.int p1), .val (.int z2), .val (.int (2 : Int32)), .val (.ref t), .val (.ref o), .val (.int z6), .val (.ref b28), .unset, .unset] [])) (fun _ k_ => XS.astore X28.here hx rfl (hb hby at_163) rfl rfl (l' := #[.val (.int p0), .val (.int p1), .val (.int z2), .val (.int (2 : Int32)), .val (.ref t), .val (.ref o), .val (.int z6), .val (.ref b28), .unset, .unset]) rfl k_) ?_
    refine Go.st (S' := T28.setTop (mkF m 166 #[.val (.int p0), .val (.int p1), .val (.int z2), .val (.int (2 : Int32)), .val (.ref t), .val (.ref o), .val (.int z6), .val (.ref b28), .unset, .unset] [(.int (2 : Int32))])) (fun _ k_ => XS.iloadN X28.here hx rfl (hb hby at_165) rfl k_) ?_
    refine Go.st (S' := T28.setTop (mkF m 169 #[.val (.int p0), .val (.int p1), .val (.int z2), .val (.int (2 : Int32)), .val (.ref t), .val (.ref o), .val (.int z6), .val (.ref b28), .unset, .unset] [])) (fun _ k_ => XS.ifNo X28.here hx rfl (hb hby at_166) rfl ((if0 _ _).trans (tlt (by decide)).2.2.2) k_) ?_
    refine Go.st (S' := T28.setTop (mkF m 171 #[.val (.int p0), .val (.int p1), .val (.int z2), .val (.int (2 : Int32)), .val (.ref t), .val (.ref o), .val (.int z6), .val (.ref b28), .unset, .unset] [(.ref b28)])) (fun _ k_ => XS.aload X28.here hx rfl (hb hby at_169) rfl rfl k_) ?_
    refine Go.st (S' := T28.setTop (mkF m 172 #[.val (.int p0), .val (.int p1), .val (.int z2), .val (.int (2 : Int32)), .val (.ref t), .val (.ref o), .val (.int z6), .val (.ref b28), .unset, .unset] [(.int (0 : Int32)), (.ref b28)])) (fun _ k_ => XS.iconst X28.here hx rfl (hb hby at_171) k_) ?_
    refine Go.st (S' := T28.setTop (mkF m 174 #[.val (.int p0), .val (.int p1), .val (.int z2), .val (.int (2 : Int32)), .val (.ref t), .val (.ref o), .val (.int z6), .val (.ref b28), .unset, .unset] [(.ref o), (.int (0 : Int32)), (.ref b28)])) (fun _ k_ => XS.aload X28.here hx rfl (hb hby at_172) rfl rfl k_) ?_
    refine Go.st (S' := T28.setTop (mkF m 175 #[.val (.int p0), .val (.int p1), .val (.int z2), .val (.int (2 : Int32)), .val (.ref t), .val (.ref o), .val (.int z6), .val (.ref b28), .unset, .unset] [(.int (0 : Int32)), (.ref o), (.int (0 : Int32)), (.ref b28)])) (fun _ k_ => XS.iconst X28.here hx rfl (hb hby at_174) k_) ?_
    refine Go.st (S' := T28.setTop (mkF m 176 #[.val (.int p0), .val (.int p1), .val (.int z2), .val (.int (2 : Int32)), .val (.ref t), .val (.ref o), .val (.int z6), .val (.ref b28), .unset, .unset] [(.int y0), (.int (0 : Int32)), (.ref b28)])) (A_o.load X28 hx hZ e28 (j := (0 : Int32)) (v := y0) (by decide) rfl (g := (mkF m 175 #[.val (.int p0), .val (.int p1), .val (.int z2), .val (.int (2 : Int32)), .val (.ref t), .val (.ref o), .val (.int z6), .val (.ref b28), .unset, .unset] [(.int (0 : Int32)), (.ref o), (.int (0 : Int32)), (.ref b28)])) rfl rfl (hb hby at_175)) ?_
    obtain ⟨T29, h29, X29, e29, W29, A29, st29⟩ := A_b28.store X28 hx hZ e28 (j := (0 : Int32)) (by decide) (Nat.le_of_ble_eq_true rfl) (g := (mkF m 176 #[.val (.int p0), .val (.int p1), .val (.int z2), .val (.int (2 : Int32)), .val (.ref t), .val (.ref o), .val (.int z6), .val (.ref b28), .unset, .unset] [(.int y0), (.int (0 : Int32)), (.ref b28)])) rfl rfl (hb hby at_176)
    replace A_b28 : Ai Z h29 b28 .int [y0, (0 : Int32)] := A29
    replace A_o := A_o.other W29 ne_o_b28
    replace Z0 := Nat.le_trans Z0 (Keep.of_wr W29).1
    have N29 := Fr.snoc X29 N1 g_b28
    refine Go.st (S' := T29.setTop (mkF m 177 #[.val (.int p0), .val (.int p1), .val (.int z2), .val (.int (2 : Int32)), .val (.ref t), .val (.ref o), .val (.int z6), .val (.ref b28), .unset, .unset] [])) (st29) ?_
    refine Go.st (S' := T29.setTop (mkF m 178 #[.val (.int p0), .val (.int p1), .val (.int z2), .val (.int (2 : Int32)), .val (.ref t), .val (.ref o), .val (.int z6), .val (.ref b28), .unset, .unset] [(.int (2 : Int32))])) (fun _ k_ => XS.iloadN X29.here hx rfl (hb hby at_177) rfl k_) ?_
    refine Go.st (S' := T29.setTop (mkF m 179 #[.val (.int p0), .val (.int p1), .val (.int z2), .val (.int (2 : Int32)), .val (.ref t), .val (.ref o), .val (.int z6), .val (.ref b28), .unset, .unset] [(.int (1 : Int32)), (.int (2 : Int32))])) (fun _ k_ => XS.iconst X29.here hx rfl (hb hby at_178) k_) ?_
    refine Go.st (S' := T29.setTop (mkF m 182 #[.val (.int p0), .val (.int p1), .val (.int z2), .val (.int (2 : Int32)), .val (.ref t), .val (.ref o), .val (.int z6), .val (.ref b28), .unset, .unset] [])) (fun _ k_ => XS.icmpNo X29.here hx rfl (hb hby at_179) rfl (tlt (by decide)).2.2.2 k_) ?_
    refine Go.st (S' := T29.setTop (mkF m 184 #[.val (.int p0), .val (.int p1), .val (.int z2), .val (.int (2 : Int32)), .val (.ref t), .val (.ref o), .val (.int z6), .val (.ref b28), .unset, .unset] [(.ref b28)])) (fun _ k_ => XS.aload X29.here hx rfl (hb hby at_182) rfl rfl k_) ?_
    refine Go.st (S' := T29.setTop (mkF m 185 #[.val (.int p0), .val (.int p1), .val (.int z2), .val (.int (2 : Int32)), .val (.ref t), .val (.ref o), .val (.int z6), .val (.ref b28), .unset, .unset] [(.int (1 : Int32)), (.ref b28)])) (fun _ k_ => XS.iconst X29.here hx rfl (hb hby at_184) k_) ?_
    refine Go.st (S' := T29.setTop (mkF m 187 #[.val (.int p0), .val (.int p1), .val (.int z2), .val (.int (2 : Int32)), .val (.ref t), .val (.ref o), .val (.int z6), .val (.ref b28), .unset, .unset] [(.ref o), (.int (1 : Int32)), (.ref b28)])) (fun _ k_ => XS.aload X29.here hx rfl (hb hby at_185) rfl rfl k_) ?_
    refine Go.st (S' := T29.setTop (mkF m 188 #[.val (.int p0), .val (.int p1), .val (.int z2), .val (.int (2 : Int32)), .val (.ref t), .val (.ref o), .val (.int z6), .val (.ref b28), .unset, .unset] [(.int (1 : Int32)), (.ref o), (.int (1 : Int32)), (.ref b28)])) (fun _ k_ => XS.iconst X29.here hx rfl (hb hby at_187) k_) ?_
    refine Go.st (S' := T29.setTop (mkF m 189 #[.val (.int p0), .val (.int p1), .val (.int z2), .val (.int (2 : Int32)), .val (.ref t), .val (.ref o), .val (.int z6), .val (.ref b28), .unset, .unset] [(.int y1), (.int (1 : Int32)), (.ref b28)])) (A_o.load X29 hx hZ e29 (j := (1 : Int32)) (v := y1) (by decide) rfl (g := (mkF m 188 #[.val (.int p0), .val (.int p1), .val (.int z2), .val (.int (2 : Int32)), .val (.ref t), .val (.ref o), .val (.int z6), .val (.ref b28), .unset, .unset] [(.int (1 : Int32)), (.ref o), (.int (1 : Int32)), (.ref b28)])) rfl rfl (hb hby at_188)) ?_
    obtain ⟨T30, h30, X30, e30, W30, A30, st30⟩ := A_b28.store X29 hx hZ e29 (j := (1 : Int32)) (by decide) (Nat.le_of_ble_eq_true rfl) (g := (mkF m 189 #[.val (.int p0), .val (.int p1), .val (.int z2), .val (.int (2 : Int32)), .val (.ref t), .val (.ref o), .val (.int z6), .val (.ref b28), .unset, .unset] [(.int y1), (.int (1 : Int32)), (.ref b28)])) rfl rfl (hb hby at_189)
    replace A_b28 : Ai Z h30 b28 .int [y0, y1] := A30
    replace A_o := A_o.other W30 ne_o_b28
    replace Z0 := Nat.le_trans Z0 (Keep.of_wr W30).1
    have N30 := Fr.snoc X30 N29 g_b28
    refine Go.st (S' := T30.setTop (mkF m 190 #[.val (.int p0), .val (.int p1), .val (.int z2), .val (.int (2 : Int32)), .val (.ref t), .val (.ref o), .val (.int z6), .val (.ref b28), .unset, .unset] [])) (st30) ?_
    refine Go.st (S' := T30.setTop (mkF m 191 #[.val (.int p0), .val (.int p1), .val (.int z2), .val (.int (2 : Int32)), .val (.ref t), .val (.ref o), .val (.int z6), .val (.ref b28), .unset, .unset] [(.int (2 : Int32))])) (fun _ k_ => XS.iloadN X30.here hx rfl (hb hby at_190) rfl k_) ?_
    refine Go.st (S' := T30.setTop (mkF m 192 #[.val (.int p0), .val (.int p1), .val (.int z2), .val (.int (2 : Int32)), .val (.ref t), .val (.ref o), .val (.int z6), .val (.ref b28), .unset, .unset] [(.int (2 : Int32)), (.int (2 : Int32))])) (fun _ k_ => XS.iconst X30.here hx rfl (hb hby at_191) k_) ?_
    refine Go.st (S' := T30.setTop (mkF m 203 #[.val (.int p0), .val (.int p1), .val (.int z2), .val (.int (2 : Int32)), .val (.ref t), .val (.ref o), .val (.int z6), .val (.ref b28), .unset, .unset] [])) (fun _ k_ => XS.icmpYes X30.here hx rfl (pc0 := 192) (pc' := 203) rfl (hb hby at_192) rfl (flt (by decide)).2.2.2 (by decide) (by decide) k_) ?_
    refine Go.st (S' := T30.setTop (mkF m 204 #[.val (.int p0), .val (.int p1), .val (.int z2), .val (.int (2 : Int32)), .val (.ref t), .val (.ref o), .val (.int z6), .val (.ref b28), .unset, .unset] [(.int (2 : Int32))])) (fun _ k_ => XS.iloadN X30.here hx rfl (hb hby at_203) rfl k_) ?_
    refine Go.st (S' := T30.setTop (mkF m 205 #[.val (.int p0), .val (.int p1), .val (.int z2), .val (.int (2 : Int32)), .val (.ref t), .val (.ref o), .val (.int z6), .val (.ref b28), .unset, .unset] [(.int (3 : Int32)), (.int (2 : Int32))])) (fun _ k_ => XS.iconst X30.here hx rfl (hb hby at_204) k_) ?_
    refine Go.st (S' := T30.setTop (mkF m 216 #[.val (.int p0), .val (.int p1), .val (.int z2), .val (.int (2 : Int32)), .val (.ref t), .val (.ref o), .val (.int z6), .val (.ref b28), .unset, .unset] [])) (fun _ k_ => XS.icmpYes X30.here hx rfl (pc0 := 205) (pc' := 216) rfl (hb hby at_205) rfl (flt (by decide)).2.2.2 (by decide) (by decide) k_) ?_
    obtain ⟨T31, h31, X31, e31, E31, A31, D31, -, st31⟩ := newO X30 hx hZ hown (w6 hw) (w7 hw) (w8 hw) e30 (g := (mkF m 216 #[.val (.int p0), .val (.int p1), .val (.int z2), .val (.int (2 : Int32)), .val (.ref t), .val (.ref o), .val (.int z6), .val (.ref b28), .unset, .unset] [])) rfl (hb hby at_216) (by decide) (by decide)
    obtain ⟨b31, q31⟩ : ∃ z, z = h30.size := ⟨_, rfl⟩
    rw [← q31] at A31 D31 st31
    have ne_o_b31 : o ≠ b31 := Nat.ne_of_lt (Nat.lt_of_lt_of_le A_o.lt (Nat.le_of_eq q31.symm))
    have ne_b28_b31 : b28 ≠ b31 := Nat.ne_of_lt (Nat.lt_of_lt_of_le A_b28.lt (Nat.le_of_eq q31.symm))
    have g_b31 : n0 ≤ b31 := Nat.le_trans Z0 (Nat.le_of_eq q31.symm)
    replace A_o := A_o.ext E31
    replace A_b28 := A_b28.ext E31
    replace Z0 := Nat.le_trans Z0 E31.1
    have E_b31 := A31
    have F_label_b31 : Fld Z h31 b31 "io/isoproof/check/polygraph/NodeOrder" "label" "[J" .null := D31 (Or.inr (w17 hw)) (ty := (.array .long)) (by decide)
    have F_next_b31 : Fld Z h31 b31 "io/isoproof/check/polygraph/NodeOrder" "next" "[I" .null := D31 (Or.inr (w19 hw)) (ty := (.array .int)) (by decide)
    have F_previous_b31 : Fld Z h31 b31 "io/isoproof/check/polygraph/NodeOrder" "previous" "[I" .null := D31 (Or.inr (w21 hw)) (ty := (.array .int)) (by decide)
    have F_first_b31 : Fld Z h31 b31 "io/isoproof/check/polygraph/NodeOrder" "first" "I" (.int (0 : Int32)) := D31 (Or.inl (w23 hw)) (ty := .int) (by decide)
    refine Go.st (S' := T31.setTop (mkF m 219 #[.val (.int p0), .val (.int p1), .val (.int z2), .val (.int (2 : Int32)), .val (.ref t), .val (.ref o), .val (.int z6), .val (.ref b28), .unset, .unset] [(.ref b31)])) (st31) ?_
    refine Go.st (S' := T31.setTop (mkF m 220 #[.val (.int p0), .val (.int p1), .val (.int z2), .val (.int (2 : Int32)), .val (.ref t), .val (.ref o), .val (.int z6), .val (.ref b28), .unset, .unset] [(.ref b31), (.ref b31)])) (fun _ k_ => XS.dup X31.here hx rfl (hb hby at_219) rfl rfl k_) ?_
    refine Go.st (S' := T31.setTop (mkF m 222 #[.val (.int p0), .val (.int p1), .val (.int z2), .val (.int (2 : Int32)), .val (.ref t), .val (.ref o), .val (.int z6), .val (.ref b28), .unset, .unset] [(.ref b28), (.ref b31), (.ref b31)])) (fun _ k_ => XS.aload X31.here hx rfl (hb hby at_220) rfl rfl k_) ?_
    obtain ⟨v32, T32, h32, L32, X32, e32, hQ32, st32⟩ := callIn X31 hx hZ rfl hown (w9 hw) (w10 hw) (w8 hw) (w11 hw) (by decide) (W := 1) (argsL := [(.ref b28)]) (rest := [(.ref b31)]) e31 (no_init l Z a0 hw b31 b28 [y0, y1] h31 n0 Z0 E_b31 F_label_b31 F_next_b31 F_previous_b31 F_first_b31 A_b28 (Ne.symm ne_b28_b31) g_b31 okk) (by decide) (by decide) pd2 rfl (g := (mkF m 222 #[.val (.int p0), .val (.int p1), .val (.int z2), .val (.int (2 : Int32)), .val (.ref t), .val (.ref o), .val (.int z6), .val (.ref b28), .unset, .unset] [(.ref b28), (.ref b31), (.ref b31)])) rfl (by rw [hml]; rfl) rfl (by show 2 * 0 + _ ≤ _; exact Nat.le_of_eq rfl) (hb hby at_222) (by decide) (by decide)
    obtain ⟨rfl, Nq32, Kq32, lb32, nx32, ls32, ns32, hl32, hn32, hln32, NO_b31⟩ := hQ32
    have N32 := Fr.app N30 Nq32
    have ne_o_lb32 : o ≠ lb32 := Nat.ne_of_lt (Nat.lt_of_lt_of_le A_o.lt hl32)
    have ne_b28_lb32 : b28 ≠ lb32 := Nat.ne_of_lt (Nat.lt_of_lt_of_le A_b28.lt hl32)
    have ne_b31_lb32 : b31 ≠ lb32 := Nat.ne_of_lt (Nat.lt_of_lt_of_le E_b31.lt hl32)
    have g_lb32 : n0 ≤ lb32 := Nat.le_trans Z0 hl32
    have ne_o_nx32 : o ≠ nx32 := Nat.ne_of_lt (Nat.lt_of_lt_of_le A_o.lt hn32)
    have ne_b28_nx32 : b28 ≠ nx32 := Nat.ne_of_lt (Nat.lt_of_lt_of_le A_b28.lt hn32)
    have ne_b31_nx32 : b31 ≠ nx32 := Nat.ne_of_lt (Nat.lt_of_lt_of_le E_b31.lt hn32)
    have g_nx32 : n0 ≤ nx32 := Nat.le_trans Z0 hn32
    replace A_o := A_o.keep Kq32 (ninS ne_o_b31 nin0)
    replace A_b28 := A_b28.keep Kq32 (ninS ne_b28_b31 nin0)
    replace Z0 := Nat.le_trans Z0 Kq32.1
    refine Go.st (S' := T32.setTop (mkF m 225 #[.val (.int p0), .val (.int p1), .val (.int z2), .val (.int (2 : Int32)), .val (.ref t), .val (.ref o), .val (.int z6), .val (.ref b28), .unset, .unset] [(.ref b31)])) (st32) ?_
    refine Go.st (S' := T32.setTop (mkF m 227 #[.val (.int p0), .val (.int p1), .val (.int z2), .val (.int (2 : Int32)), .val (.ref t), .val (.ref o), .val (.int z6), .val (.ref b28), .val (.ref b31), .unset] [])) (fun _ k_ => XS.astore X32.here hx rfl (hb hby at_225) rfl rfl (l' := #[.val (.int p0), .val (.int p1), .val (.int z2), .val (.int (2 : Int32)), .val (.ref t), .val (.ref o), .val (.int z6), .val (.ref b28), .val (.ref b31), .unset]) rfl k_) ?_
    refine Go.st (S' := T32.setTop (mkF m 229 #[.val (.int p0), .val (.int p1), .val (.int z2), .val (.int (2 : Int32)), .val (.ref t), .val (.ref o), .val (.int z6), .val (.ref b28), .val (.ref b31), .unset] [(.ref b31)])) (fun _ k_ => XS.aload X32.here hx rfl (hb hby at_227) rfl rfl k_) ?_
    obtain ⟨v33, T33, h33, L33, X33, e33, hQ33, st33⟩ := callVi X32 hx hZ hown (w33 hw) (w34 hw) (w36 hw) (w35 hw) (w8 hw) (w37 hw) (by decide) (W := 0) (argsL := []) (rest := []) e32 NO_b31.1 (no_positions l Z a0 hw b31 lb32 nx32 [y0, y1] ns32 ls32 h32 n0 Z0 NO_b31 okk ne_b31_lb32 ne_b31_nx32 hln32 g_b31 g_lb32) (by decide) (by decide) pd3 rfl (g := (mkF m 229 #[.val (.int p0), .val (.int p1), .val (.int z2), .val (.int (2 : Int32)), .val (.ref t), .val (.ref o), .val (.int z6), .val (.ref b28), .val (.ref b31), .unset] [(.ref b31)])) rfl (by rw [hml]; rfl) rfl (by show 2 * 0 + _ ≤ _; exact Nat.le_of_eq rfl) (hb hby at_229) (by decide) (by decide)
    obtain ⟨Nq33, Kq33, r33, rfl, hr33, ps33, A_r33, hp33⟩ := hQ33
    have N33 := Fr.app N32 Nq33
    have ne_o_r33 : o ≠ r33 := Nat.ne_of_lt (Nat.lt_of_lt_of_le A_o.lt hr33)
    have ne_b28_r33 : b28 ≠ r33 := Nat.ne_of_lt (Nat.lt_of_lt_of_le A_b28.lt hr33)
    have ne_b31_r33 : b31 ≠ r33 := Nat.ne_of_lt (Nat.lt_of_lt_of_le NO_b31.1.lt hr33)
    have ne_lb32_r33 : lb32 ≠ r33 := Nat.ne_of_lt (Nat.lt_of_lt_of_le NO_b31.2.2.2.2.1.lt hr33)
    have ne_nx32_r33 : nx32 ≠ r33 := Nat.ne_of_lt (Nat.lt_of_lt_of_le NO_b31.2.2.2.2.2.1.lt hr33)
    have g_r33 : n0 ≤ r33 := Nat.le_trans Z0 hr33
    replace A_o := A_o.keep Kq33 nin0
    replace A_b28 := A_b28.keep Kq33 nin0
    replace Z0 := Nat.le_trans Z0 Kq33.1
    refine Go.st (S' := T33.setTop (mkF m 232 #[.val (.int p0), .val (.int p1), .val (.int z2), .val (.int (2 : Int32)), .val (.ref t), .val (.ref o), .val (.int z6), .val (.ref b28), .val (.ref b31), .unset] [(.ref r33)])) (st33) ?_
    refine Go.st (S' := T33.setTop (mkF m 234 #[.val (.int p0), .val (.int p1), .val (.int z2), .val (.int (2 : Int32)), .val (.ref t), .val (.ref o), .val (.int z6), .val (.ref b28), .val (.ref b31), .val (.ref r33)] [])) (fun _ k_ => XS.astore X33.here hx rfl (hb hby at_232) rfl rfl (l' := #[.val (.int p0), .val (.int p1), .val (.int z2), .val (.int (2 : Int32)), .val (.ref t), .val (.ref o), .val (.int z6), .val (.ref b28), .val (.ref b31), .val (.ref r33)]) rfl k_) ?_
    refine Go.st (S' := T33.setTop (mkF m 236 #[.val (.int p0), .val (.int p1), .val (.int z2), .val (.int (2 : Int32)), .val (.ref t), .val (.ref o), .val (.int z6), .val (.ref b28), .val (.ref b31), .val (.ref r33)] [(.ref r33)])) (fun _ k_ => XS.aload X33.here hx rfl (hb hby at_234) rfl rfl k_) ?_
    refine Go.st (S' := T33.setTop (mkF m 237 #[.val (.int p0), .val (.int p1), .val (.int z2), .val (.int (2 : Int32)), .val (.ref t), .val (.ref o), .val (.int z6), .val (.ref b28), .val (.ref b31), .val (.ref r33)] [(.int (2 : Int32))])) (A_r33.length X33 hx hZ e33 (n := (2 : Int32)) (by rw [hp33.1]; rfl) (g := (mkF m 236 #[.val (.int p0), .val (.int p1), .val (.int z2), .val (.int (2 : Int32)), .val (.ref t), .val (.ref o), .val (.int z6), .val (.ref b28), .val (.ref b31), .val (.ref r33)] [(.ref r33)])) rfl rfl (hb hby at_236)) ?_
    refine Go.st (S' := T33.setTop (mkF m 238 #[.val (.int p0), .val (.int p1), .val (.int z2), .val (.int (2 : Int32)), .val (.ref t), .val (.ref o), .val (.int z6), .val (.ref b28), .val (.ref b31), .val (.ref r33)] [(.int (2 : Int32)), (.int (2 : Int32))])) (fun _ k_ => XS.iloadN X33.here hx rfl (hb hby at_237) rfl k_) ?_
    refine Go.st (S' := T33.setTop (mkF m 243 #[.val (.int p0), .val (.int p1), .val (.int z2), .val (.int (2 : Int32)), .val (.ref t), .val (.ref o), .val (.int z6), .val (.ref b28), .val (.ref b31), .val (.ref r33)] [])) (fun _ k_ => XS.icmpYes X33.here hx rfl (pc0 := 238) (pc' := 243) rfl (hb hby at_238) rfl (teq (by decide)).1 (by decide) (by decide) k_) ?_
    refine Go.st (S' := T33.setTop (mkF m 245 #[.val (.int p0), .val (.int p1), .val (.int z2), .val (.int (2 : Int32)), .val (.ref t), .val (.ref o), .val (.int z6), .val (.ref b28), .val (.ref b31), .val (.ref r33)] [(.ref r33)])) (fun _ k_ => XS.aload X33.here hx rfl (hb hby at_243) rfl rfl k_) ?_
    refine Go.st (S' := T33.setTop (mkF m 247 #[.val (.int p0), .val (.int p1), .val (.int z2), .val (.int (2 : Int32)), .val (.ref t), .val (.ref o), .val (.int z6), .val (.ref b28), .val (.ref b31), .val (.ref r33)] [(.ref b28), (.ref r33)])) (fun _ k_ => XS.aload X33.here hx rfl (hb hby at_245) rfl rfl k_) ?_
    refine Go.st (S' := T33.setTop (mkF m 248 #[.val (.int p0), .val (.int p1), .val (.int z2), .val (.int (2 : Int32)), .val (.ref t), .val (.ref o), .val (.int z6), .val (.ref b28), .val (.ref b31), .val (.ref r33)] [(.int (0 : Int32)), (.ref b28), (.ref r33)])) (fun _ k_ => XS.iconst X33.here hx rfl (hb hby at_247) k_) ?_
    refine Go.st (S' := T33.setTop (mkF m 249 #[.val (.int p0), .val (.int p1), .val (.int z2), .val (.int (2 : Int32)), .val (.ref t), .val (.ref o), .val (.int z6), .val (.ref b28), .val (.ref b31), .val (.ref r33)] [(.int (2 : Int32)), (.int (0 : Int32)), (.ref b28), (.ref r33)])) (fun _ k_ => XS.iloadN X33.here hx rfl (hb hby at_248) rfl k_) ?_
    obtain ⟨v34, T34, h34, L34, X34, e34, hQ34, st34⟩ := callSt X33 hx hZ hown (w38 hw) (w39 hw) (w4 hw) (w40 hw) (by decide) (W := 0) (argsL := [(.ref r33), (.ref b28), (.int (0 : Int32)), (.int (2 : Int32))]) (rest := []) e33 (rm_at l Z a0 hw r33 b28 (0 : Int32) (2 : Int32) ps33 [y0, y1] h33 n0 Z0 A_r33 A_b28 (fun _ => ⟨by decide, y0, rfl, (okk.2.1 0 _ rfl).1, hp33.2 0 (by simp) _ rfl⟩)) (by decide) (by decide) pd4 rfl (g := (mkF m 249 #[.val (.int p0), .val (.int p1), .val (.int z2), .val (.int (2 : Int32)), .val (.ref t), .val (.ref o), .val (.int z6), .val (.ref b28), .val (.ref b31), .val (.ref r33)] [(.int (2 : Int32)), (.int (0 : Int32)), (.ref b28), (.ref r33)])) rfl (by rw [hml]; rfl) rfl (by show 2 * 0 + _ ≤ _; exact Nat.le_of_eq rfl) (hb hby at_249) (by decide) (by decide)
    obtain ⟨rfl, Nq34, hh34⟩ := hQ34
    rw [hh34] at e34
    have N34 := Fr.app N33 Nq34
    refine Go.st (S' := T34.setTop (mkF m 252 #[.val (.int p0), .val (.int p1), .val (.int z2), .val (.int (2 : Int32)), .val (.ref t), .val (.ref o), .val (.int z6), .val (.ref b28), .val (.ref b31), .val (.ref r33)] [(.int (1 : Int32))])) (st34) ?_
    refine Go.st (S' := T34.setTop (mkF m 255 #[.val (.int p0), .val (.int p1), .val (.int z2), .val (.int (2 : Int32)), .val (.ref t), .val (.ref o), .val (.int z6), .val (.ref b28), .val (.ref b31), .val (.ref r33)] [])) (fun _ k_ => XS.ifNo X34.here hx rfl (hb hby at_252) rfl ((if0 _ _).trans (feq (by decide)).1) k_) ?_
    refine Go.st (S' := T34.setTop (mkF m 257 #[.val (.int p0), .val (.int p1), .val (.int z2), .val (.int (2 : Int32)), .val (.ref t), .val (.ref o), .val (.int z6), .val (.ref b28), .val (.ref b31), .val (.ref r33)] [(.ref r33)])) (fun _ k_ => XS.aload X34.here hx rfl (hb hby at_255) rfl rfl k_) ?_
    refine Go.st (S' := T34.setTop (mkF m 259 #[.val (.int p0), .val (.int p1), .val (.int z2), .val (.int (2 : Int32)), .val (.ref t), .val (.ref o), .val (.int z6), .val (.ref b28), .val (.ref b31), .val (.ref r33)] [(.ref b28), (.ref r33)])) (fun _ k_ => XS.aload X34.here hx rfl (hb hby at_257) rfl rfl k_) ?_
    refine Go.st (S' := T34.setTop (mkF m 260 #[.val (.int p0), .val (.int p1), .val (.int z2), .val (.int (2 : Int32)), .val (.ref t), .val (.ref o), .val (.int z6), .val (.ref b28), .val (.ref b31), .val (.ref r33)] [(.int (1 : Int32)), (.ref b28), (.ref r33)])) (fun _ k_ => XS.iconst X34.here hx rfl (hb hby at_259) k_) ?_
    refine Go.st (S' := T34.setTop (mkF m 261 #[.val (.int p0), .val (.int p1), .val (.int z2), .val (.int (2 : Int32)), .val (.ref t), .val (.ref o), .val (.int z6), .val (.ref b28), .val (.ref b31), .val (.ref r33)] [(.int (2 : Int32)), (.int (1 : Int32)), (.ref b28), (.ref r33)])) (fun _ k_ => XS.iloadN X34.here hx rfl (hb hby at_260) rfl k_) ?_
    obtain ⟨v35, T35, h35, L35, X35, e35, hQ35, st35⟩ := callSt X34 hx hZ hown (w38 hw) (w39 hw) (w4 hw) (w40 hw) (by decide) (W := 0) (argsL := [(.ref r33), (.ref b28), (.int (1 : Int32)), (.int (2 : Int32))]) (rest := []) e34 (rm_at l Z a0 hw r33 b28 (1 : Int32) (2 : Int32) ps33 [y0, y1] h33 n0 Z0 A_r33 A_b28 (fun _ => ⟨by decide, y1, rfl, (okk.2.1 1 _ rfl).1, hp33.2 1 (by simp) _ rfl⟩)) (by decide) (by decide) pd4 rfl (g := (mkF m 261 #[.val (.int p0), .val (.int p1), .val (.int z2), .val (.int (2 : Int32)), .val (.ref t), .val (.ref o), .val (.int z6), .val (.ref b28), .val (.ref b31), .val (.ref r33)] [(.int (2 : Int32)), (.int (1 : Int32)), (.ref b28), (.ref r33)])) rfl (by rw [hml]; rfl) rfl (by show 2 * 0 + _ ≤ _; exact Nat.le_of_eq rfl) (hb hby at_261) (by decide) (by decide)
    obtain ⟨rfl, Nq35, hh35⟩ := hQ35
    rw [hh35] at e35
    have N35 := Fr.app N34 Nq35
    refine Go.st (S' := T35.setTop (mkF m 264 #[.val (.int p0), .val (.int p1), .val (.int z2), .val (.int (2 : Int32)), .val (.ref t), .val (.ref o), .val (.int z6), .val (.ref b28), .val (.ref b31), .val (.ref r33)] [(.int (1 : Int32))])) (st35) ?_
    refine Go.st (S' := T35.setTop (mkF m 267 #[.val (.int p0), .val (.int p1), .val (.int z2), .val (.int (2 : Int32)), .val (.ref t), .val (.ref o), .val (.int z6), .val (.ref b28), .val (.ref b31), .val (.ref r33)] [])) (fun _ k_ => XS.ifNo X35.here hx rfl (hb hby at_264) rfl ((if0 _ _).trans (feq (by decide)).1) k_) ?_
    refine Go.st (S' := T35.setTop (mkF m 269 #[.val (.int p0), .val (.int p1), .val (.int z2), .val (.int (2 : Int32)), .val (.ref t), .val (.ref o), .val (.int z6), .val (.ref b28), .val (.ref b31), .val (.ref r33)] [(.ref r33)])) (fun _ k_ => XS.aload X35.here hx rfl (hb hby at_267) rfl rfl k_) ?_
    refine Go.st (S' := T35.setTop (mkF m 271 #[.val (.int p0), .val (.int p1), .val (.int z2), .val (.int (2 : Int32)), .val (.ref t), .val (.ref o), .val (.int z6), .val (.ref b28), .val (.ref b31), .val (.ref r33)] [(.ref b28), (.ref r33)])) (fun _ k_ => XS.aload X35.here hx rfl (hb hby at_269) rfl rfl k_) ?_
    refine Go.st (S' := T35.setTop (mkF m 272 #[.val (.int p0), .val (.int p1), .val (.int z2), .val (.int (2 : Int32)), .val (.ref t), .val (.ref o), .val (.int z6), .val (.ref b28), .val (.ref b31), .val (.ref r33)] [(.int (2 : Int32)), (.ref b28), (.ref r33)])) (fun _ k_ => XS.iconst X35.here hx rfl (hb hby at_271) k_) ?_
    refine Go.st (S' := T35.setTop (mkF m 273 #[.val (.int p0), .val (.int p1), .val (.int z2), .val (.int (2 : Int32)), .val (.ref t), .val (.ref o), .val (.int z6), .val (.ref b28), .val (.ref b31), .val (.ref r33)] [(.int (2 : Int32)), (.int (2 : Int32)), (.ref b28), (.ref r33)])) (fun _ k_ => XS.iloadN X35.here hx rfl (hb hby at_272) rfl k_) ?_
    obtain ⟨v36, T36, h36, L36, X36, e36, hQ36, st36⟩ := callSt X35 hx hZ hown (w38 hw) (w39 hw) (w4 hw) (w40 hw) (by decide) (W := 0) (argsL := [(.ref r33), (.ref b28), (.int (2 : Int32)), (.int (2 : Int32))]) (rest := []) e35 (rm_at l Z a0 hw r33 b28 (2 : Int32) (2 : Int32) ps33 [y0, y1] h33 n0 Z0 A_r33 A_b28 (fun q => absurd q (by decide))) (by decide) (by decide) pd4 rfl (g := (mkF m 273 #[.val (.int p0), .val (.int p1), .val (.int z2), .val (.int (2 : Int32)), .val (.ref t), .val (.ref o), .val (.int z6), .val (.ref b28), .val (.ref b31), .val (.ref r33)] [(.int (2 : Int32)), (.int (2 : Int32)), (.ref b28), (.ref r33)])) rfl (by rw [hml]; rfl) rfl (by show 2 * 0 + _ ≤ _; exact Nat.le_of_eq rfl) (hb hby at_273) (by decide) (by decide)
    obtain ⟨rfl, Nq36, hh36⟩ := hQ36
    rw [hh36] at e36
    have N36 := Fr.app N35 Nq36
    refine Go.st (S' := T36.setTop (mkF m 276 #[.val (.int p0), .val (.int p1), .val (.int z2), .val (.int (2 : Int32)), .val (.ref t), .val (.ref o), .val (.int z6), .val (.ref b28), .val (.ref b31), .val (.ref r33)] [(.int (1 : Int32))])) (st36) ?_
    refine Go.st (S' := T36.setTop (mkF m 279 #[.val (.int p0), .val (.int p1), .val (.int z2), .val (.int (2 : Int32)), .val (.ref t), .val (.ref o), .val (.int z6), .val (.ref b28), .val (.ref b31), .val (.ref r33)] [])) (fun _ k_ => XS.ifNo X36.here hx rfl (hb hby at_276) rfl ((if0 _ _).trans (feq (by decide)).1) k_) ?_
    refine Go.st (S' := T36.setTop (mkF m 281 #[.val (.int p0), .val (.int p1), .val (.int z2), .val (.int (2 : Int32)), .val (.ref t), .val (.ref o), .val (.int z6), .val (.ref b28), .val (.ref b31), .val (.ref r33)] [(.ref r33)])) (fun _ k_ => XS.aload X36.here hx rfl (hb hby at_279) rfl rfl k_) ?_
    refine Go.st (S' := T36.setTop (mkF m 283 #[.val (.int p0), .val (.int p1), .val (.int z2), .val (.int (2 : Int32)), .val (.ref t), .val (.ref o), .val (.int z6), .val (.ref b28), .val (.ref b31), .val (.ref r33)] [(.ref b28), (.ref r33)])) (fun _ k_ => XS.aload X36.here hx rfl (hb hby at_281) rfl rfl k_) ?_
    refine Go.st (S' := T36.setTop (mkF m 284 #[.val (.int p0), .val (.int p1), .val (.int z2), .val (.int (2 : Int32)), .val (.ref t), .val (.ref o), .val (.int z6), .val (.ref b28), .val (.ref b31), .val (.ref r33)] [(.int (3 : Int32)), (.ref b28), (.ref r33)])) (fun _ k_ => XS.iconst X36.here hx rfl (hb hby at_283) k_) ?_
    refine Go.st (S' := T36.setTop (mkF m 285 #[.val (.int p0), .val (.int p1), .val (.int z2), .val (.int (2 : Int32)), .val (.ref t), .val (.ref o), .val (.int z6), .val (.ref b28), .val (.ref b31), .val (.ref r33)] [(.int (2 : Int32)), (.int (3 : Int32)), (.ref b28), (.ref r33)])) (fun _ k_ => XS.iloadN X36.here hx rfl (hb hby at_284) rfl k_) ?_
    obtain ⟨v37, T37, h37, L37, X37, e37, hQ37, st37⟩ := callSt X36 hx hZ hown (w38 hw) (w39 hw) (w4 hw) (w40 hw) (by decide) (W := 0) (argsL := [(.ref r33), (.ref b28), (.int (3 : Int32)), (.int (2 : Int32))]) (rest := []) e36 (rm_at l Z a0 hw r33 b28 (3 : Int32) (2 : Int32) ps33 [y0, y1] h33 n0 Z0 A_r33 A_b28 (fun q => absurd q (by decide))) (by decide) (by decide) pd4 rfl (g := (mkF m 285 #[.val (.int p0), .val (.int p1), .val (.int z2), .val (.int (2 : Int32)), .val (.ref t), .val (.ref o), .val (.int z6), .val (.ref b28), .val (.ref b31), .val (.ref r33)] [(.int (2 : Int32)), (.int (3 : Int32)), (.ref b28), (.ref r33)])) rfl (by rw [hml]; rfl) rfl (by show 2 * 0 + _ ≤ _; exact Nat.le_of_eq rfl) (hb hby at_285) (by decide) (by decide)
    obtain ⟨rfl, Nq37, hh37⟩ := hQ37
    rw [hh37] at e37
    have N37 := Fr.app N36 Nq37
    refine Go.st (S' := T37.setTop (mkF m 288 #[.val (.int p0), .val (.int p1), .val (.int z2), .val (.int (2 : Int32)), .val (.ref t), .val (.ref o), .val (.int z6), .val (.ref b28), .val (.ref b31), .val (.ref r33)] [(.int (1 : Int32))])) (st37) ?_
    refine Go.st (S' := T37.setTop (mkF m 291 #[.val (.int p0), .val (.int p1), .val (.int z2), .val (.int (2 : Int32)), .val (.ref t), .val (.ref o), .val (.int z6), .val (.ref b28), .val (.ref b31), .val (.ref r33)] [])) (fun _ k_ => XS.ifNo X37.here hx rfl (hb hby at_288) rfl ((if0 _ _).trans (feq (by decide)).1) k_) ?_
    refine Go.st (S' := T37.setTop (mkF m 292 #[.val (.int p0), .val (.int p1), .val (.int z2), .val (.int (2 : Int32)), .val (.ref t), .val (.ref o), .val (.int z6), .val (.ref b28), .val (.ref b31), .val (.ref r33)] [(.int (1 : Int32))])) (fun _ k_ => XS.iconst X37.here hx rfl (hb hby at_291) k_) ?_
    refine Go.st (S' := T37.setTop (mkF m 296 #[.val (.int p0), .val (.int p1), .val (.int z2), .val (.int (2 : Int32)), .val (.ref t), .val (.ref o), .val (.int z6), .val (.ref b28), .val (.ref b31), .val (.ref r33)] [(.int (1 : Int32))])) (fun _ k_ => XS.goto X37.here hx rfl (pc0 := 292) (pc' := 296) rfl (hb hby at_292) (by decide) (by decide) k_) ?_
    exact Go.retN X37 hx (t := .boolean) hret (by simp) hlk (hb hby at_296) (by decide) (by decide) ⟨rfl, N37⟩
  have J3 : ∀ (z2 z6 : Int32) (T : State) (locs : List Loc) (h1 : Heap) (X : Stand p l e room_1 s m #[(.int p0), (.int p1)] below meth c T locs 2 8) (e1 : T.heap = h1) (N1 : Fr n0 locs) (Z0 : n0 ≤ h1.size) (t o : Addr) (y0 y1 y2 y3 : Int32) (A_o : Ai Z h1 o .int [y0, y1, y2, y3]) (g_o : n0 ≤ o) (okk : own_ok [y0, y1, y2]), Go p e below s room_1 (fun v h L => v = some (.int 1) ∧ Fr n0 L) (T.setTop (mkF m 160 #[.val (.int p0), .val (.int p1), .val (.int z2), .val (.int (3 : Int32)), .val (.ref t), .val (.ref o), .val (.int z6), .unset, .unset, .unset] [])) := by
    intro z2 z6 T locs h1 X e1 N1 Z0 t o y0 y1 y2 y3 A_o g_o okk
    refine Go.st (S' := T.setTop (mkF m 161 #[.val (.int p0), .val (.int p1), .val (.int z2), .val (.int (3 : Int32)), .val (.ref t), .val (.ref o), .val (.int z6), .unset, .unset, .unset] [(.int (3 : Int32))])) (fun _ k_ => XS.iloadN X.here hx rfl (hb hby at_160) rfl k_) ?_
    obtain ⟨T38, h38, b38, X38, e38, q38, E38, A38, st38⟩ := Ai.new X hx hZ (aty := .int) (w1 hw) rfl e1 (n := (3 : Int32)) (by decide) 3 (by decide) (by decide) (by decide) (by decide) (g := (mkF m 161 #[.val (.int p0), .val (.int p1), .val (.int z2), .val (.int (3 : Int32)), .val (.ref t), .val (.ref o), .val (.int z6), .unset, .unset, .unset] [(.int (3 : Int32))])) rfl rfl (hb hby at_161)
    have ne_o_b38 : o ≠ b38 := Nat.ne_of_lt (Nat.lt_of_lt_of_le A_o.lt (Nat.le_of_eq q38.symm))
    have g_b38 : n0 ≤ b38 := Nat.le_trans Z0 (Nat.le_of_eq q38.symm)
    replace A_o := A_o.ext E38
    replace Z0 := Nat.le_trans Z0 E38.1
    have A_b38 : Ai Z h38 b38 .int [(0 : Int32), (0 : Int32), (0 : Int32)] := A38
    refine Go.st (S' := T38.setTop (mkF m 163 #[.val (.int p0), .val (.int p1), .val (.int z2), .val (.int (3 : Int32)), .val (.ref t), .val (.ref o), .val (.int z6), .unset, .unset, .unset] [(.ref b38)])) (st38) ?_
    refine Go.st (S' := T38.setTop (mkF m 165 #[.val (.int p0), .val (.int p1), .val (.int z2), .val (.int (3 : Int32)), .val (.ref t), .val (.ref o), .val (.int z6), .val (.ref b38), .unset, .unset] [])) (fun _ k_ => XS.astore X38.here hx rfl (hb hby at_163) rfl rfl (l' := #[.val (.int p0), .val (.int p1), .val (.int z2), .val (.int (3 : Int32)), .val (.ref t), .val (.ref o), .val (.int z6), .val (.ref b38), .unset, .unset]) rfl k_) ?_
    refine Go.st (S' := T38.setTop (mkF m 166 #[.val (.int p0), .val (.int p1), .val (.int z2), .val (.int (3 : Int32)), .val (.ref t), .val (.ref o), .val (.int z6), .val (.ref b38), .unset, .unset] [(.int (3 : Int32))])) (fun _ k_ => XS.iloadN X38.here hx rfl (hb hby at_165) rfl k_) ?_
    refine Go.st (S' := T38.setTop (mkF m 169 #[.val (.int p0), .val (.int p1), .val (.int z2), .val (.int (3 : Int32)), .val (.ref t), .val (.ref o), .val (.int z6), .val (.ref b38), .unset, .unset] [])) (fun _ k_ => XS.ifNo X38.here hx rfl (hb hby at_166) rfl ((if0 _ _).trans (tlt (by decide)).2.2.2) k_) ?_
    refine Go.st (S' := T38.setTop (mkF m 171 #[.val (.int p0), .val (.int p1), .val (.int z2), .val (.int (3 : Int32)), .val (.ref t), .val (.ref o), .val (.int z6), .val (.ref b38), .unset, .unset] [(.ref b38)])) (fun _ k_ => XS.aload X38.here hx rfl (hb hby at_169) rfl rfl k_) ?_
    refine Go.st (S' := T38.setTop (mkF m 172 #[.val (.int p0), .val (.int p1), .val (.int z2), .val (.int (3 : Int32)), .val (.ref t), .val (.ref o), .val (.int z6), .val (.ref b38), .unset, .unset] [(.int (0 : Int32)), (.ref b38)])) (fun _ k_ => XS.iconst X38.here hx rfl (hb hby at_171) k_) ?_
    refine Go.st (S' := T38.setTop (mkF m 174 #[.val (.int p0), .val (.int p1), .val (.int z2), .val (.int (3 : Int32)), .val (.ref t), .val (.ref o), .val (.int z6), .val (.ref b38), .unset, .unset] [(.ref o), (.int (0 : Int32)), (.ref b38)])) (fun _ k_ => XS.aload X38.here hx rfl (hb hby at_172) rfl rfl k_) ?_
    refine Go.st (S' := T38.setTop (mkF m 175 #[.val (.int p0), .val (.int p1), .val (.int z2), .val (.int (3 : Int32)), .val (.ref t), .val (.ref o), .val (.int z6), .val (.ref b38), .unset, .unset] [(.int (0 : Int32)), (.ref o), (.int (0 : Int32)), (.ref b38)])) (fun _ k_ => XS.iconst X38.here hx rfl (hb hby at_174) k_) ?_
    refine Go.st (S' := T38.setTop (mkF m 176 #[.val (.int p0), .val (.int p1), .val (.int z2), .val (.int (3 : Int32)), .val (.ref t), .val (.ref o), .val (.int z6), .val (.ref b38), .unset, .unset] [(.int y0), (.int (0 : Int32)), (.ref b38)])) (A_o.load X38 hx hZ e38 (j := (0 : Int32)) (v := y0) (by decide) rfl (g := (mkF m 175 #[.val (.int p0), .val (.int p1), .val (.int z2), .val (.int (3 : Int32)), .val (.ref t), .val (.ref o), .val (.int z6), .val (.ref b38), .unset, .unset] [(.int (0 : Int32)), (.ref o), (.int (0 : Int32)), (.ref b38)])) rfl rfl (hb hby at_175)) ?_
    obtain ⟨T39, h39, X39, e39, W39, A39, st39⟩ := A_b38.store X38 hx hZ e38 (j := (0 : Int32)) (by decide) (Nat.le_of_ble_eq_true rfl) (g := (mkF m 176 #[.val (.int p0), .val (.int p1), .val (.int z2), .val (.int (3 : Int32)), .val (.ref t), .val (.ref o), .val (.int z6), .val (.ref b38), .unset, .unset] [(.int y0), (.int (0 : Int32)), (.ref b38)])) rfl rfl (hb hby at_176)
    replace A_b38 : Ai Z h39 b38 .int [y0, (0 : Int32), (0 : Int32)] := A39
    replace A_o := A_o.other W39 ne_o_b38
    replace Z0 := Nat.le_trans Z0 (Keep.of_wr W39).1
    have N39 := Fr.snoc X39 N1 g_b38
    refine Go.st (S' := T39.setTop (mkF m 177 #[.val (.int p0), .val (.int p1), .val (.int z2), .val (.int (3 : Int32)), .val (.ref t), .val (.ref o), .val (.int z6), .val (.ref b38), .unset, .unset] [])) (st39) ?_
    refine Go.st (S' := T39.setTop (mkF m 178 #[.val (.int p0), .val (.int p1), .val (.int z2), .val (.int (3 : Int32)), .val (.ref t), .val (.ref o), .val (.int z6), .val (.ref b38), .unset, .unset] [(.int (3 : Int32))])) (fun _ k_ => XS.iloadN X39.here hx rfl (hb hby at_177) rfl k_) ?_
    refine Go.st (S' := T39.setTop (mkF m 179 #[.val (.int p0), .val (.int p1), .val (.int z2), .val (.int (3 : Int32)), .val (.ref t), .val (.ref o), .val (.int z6), .val (.ref b38), .unset, .unset] [(.int (1 : Int32)), (.int (3 : Int32))])) (fun _ k_ => XS.iconst X39.here hx rfl (hb hby at_178) k_) ?_
    refine Go.st (S' := T39.setTop (mkF m 182 #[.val (.int p0), .val (.int p1), .val (.int z2), .val (.int (3 : Int32)), .val (.ref t), .val (.ref o), .val (.int z6), .val (.ref b38), .unset, .unset] [])) (fun _ k_ => XS.icmpNo X39.here hx rfl (hb hby at_179) rfl (tlt (by decide)).2.2.2 k_) ?_
    refine Go.st (S' := T39.setTop (mkF m 184 #[.val (.int p0), .val (.int p1), .val (.int z2), .val (.int (3 : Int32)), .val (.ref t), .val (.ref o), .val (.int z6), .val (.ref b38), .unset, .unset] [(.ref b38)])) (fun _ k_ => XS.aload X39.here hx rfl (hb hby at_182) rfl rfl k_) ?_
    refine Go.st (S' := T39.setTop (mkF m 185 #[.val (.int p0), .val (.int p1), .val (.int z2), .val (.int (3 : Int32)), .val (.ref t), .val (.ref o), .val (.int z6), .val (.ref b38), .unset, .unset] [(.int (1 : Int32)), (.ref b38)])) (fun _ k_ => XS.iconst X39.here hx rfl (hb hby at_184) k_) ?_
    refine Go.st (S' := T39.setTop (mkF m 187 #[.val (.int p0), .val (.int p1), .val (.int z2), .val (.int (3 : Int32)), .val (.ref t), .val (.ref o), .val (.int z6), .val (.ref b38), .unset, .unset] [(.ref o), (.int (1 : Int32)), (.ref b38)])) (fun _ k_ => XS.aload X39.here hx rfl (hb hby at_185) rfl rfl k_) ?_
    refine Go.st (S' := T39.setTop (mkF m 188 #[.val (.int p0), .val (.int p1), .val (.int z2), .val (.int (3 : Int32)), .val (.ref t), .val (.ref o), .val (.int z6), .val (.ref b38), .unset, .unset] [(.int (1 : Int32)), (.ref o), (.int (1 : Int32)), (.ref b38)])) (fun _ k_ => XS.iconst X39.here hx rfl (hb hby at_187) k_) ?_
    refine Go.st (S' := T39.setTop (mkF m 189 #[.val (.int p0), .val (.int p1), .val (.int z2), .val (.int (3 : Int32)), .val (.ref t), .val (.ref o), .val (.int z6), .val (.ref b38), .unset, .unset] [(.int y1), (.int (1 : Int32)), (.ref b38)])) (A_o.load X39 hx hZ e39 (j := (1 : Int32)) (v := y1) (by decide) rfl (g := (mkF m 188 #[.val (.int p0), .val (.int p1), .val (.int z2), .val (.int (3 : Int32)), .val (.ref t), .val (.ref o), .val (.int z6), .val (.ref b38), .unset, .unset] [(.int (1 : Int32)), (.ref o), (.int (1 : Int32)), (.ref b38)])) rfl rfl (hb hby at_188)) ?_
    obtain ⟨T40, h40, X40, e40, W40, A40, st40⟩ := A_b38.store X39 hx hZ e39 (j := (1 : Int32)) (by decide) (Nat.le_of_ble_eq_true rfl) (g := (mkF m 189 #[.val (.int p0), .val (.int p1), .val (.int z2), .val (.int (3 : Int32)), .val (.ref t), .val (.ref o), .val (.int z6), .val (.ref b38), .unset, .unset] [(.int y1), (.int (1 : Int32)), (.ref b38)])) rfl rfl (hb hby at_189)
    replace A_b38 : Ai Z h40 b38 .int [y0, y1, (0 : Int32)] := A40
    replace A_o := A_o.other W40 ne_o_b38
    replace Z0 := Nat.le_trans Z0 (Keep.of_wr W40).1
    have N40 := Fr.snoc X40 N39 g_b38
    refine Go.st (S' := T40.setTop (mkF m 190 #[.val (.int p0), .val (.int p1), .val (.int z2), .val (.int (3 : Int32)), .val (.ref t), .val (.ref o), .val (.int z6), .val (.ref b38), .unset, .unset] [])) (st40) ?_
    refine Go.st (S' := T40.setTop (mkF m 191 #[.val (.int p0), .val (.int p1), .val (.int z2), .val (.int (3 : Int32)), .val (.ref t), .val (.ref o), .val (.int z6), .val (.ref b38), .unset, .unset] [(.int (3 : Int32))])) (fun _ k_ => XS.iloadN X40.here hx rfl (hb hby at_190) rfl k_) ?_
    refine Go.st (S' := T40.setTop (mkF m 192 #[.val (.int p0), .val (.int p1), .val (.int z2), .val (.int (3 : Int32)), .val (.ref t), .val (.ref o), .val (.int z6), .val (.ref b38), .unset, .unset] [(.int (2 : Int32)), (.int (3 : Int32))])) (fun _ k_ => XS.iconst X40.here hx rfl (hb hby at_191) k_) ?_
    refine Go.st (S' := T40.setTop (mkF m 195 #[.val (.int p0), .val (.int p1), .val (.int z2), .val (.int (3 : Int32)), .val (.ref t), .val (.ref o), .val (.int z6), .val (.ref b38), .unset, .unset] [])) (fun _ k_ => XS.icmpNo X40.here hx rfl (hb hby at_192) rfl (tlt (by decide)).2.2.2 k_) ?_
    refine Go.st (S' := T40.setTop (mkF m 197 #[.val (.int p0), .val (.int p1), .val (.int z2), .val (.int (3 : Int32)), .val (.ref t), .val (.ref o), .val (.int z6), .val (.ref b38), .unset, .unset] [(.ref b38)])) (fun _ k_ => XS.aload X40.here hx rfl (hb hby at_195) rfl rfl k_) ?_
    refine Go.st (S' := T40.setTop (mkF m 198 #[.val (.int p0), .val (.int p1), .val (.int z2), .val (.int (3 : Int32)), .val (.ref t), .val (.ref o), .val (.int z6), .val (.ref b38), .unset, .unset] [(.int (2 : Int32)), (.ref b38)])) (fun _ k_ => XS.iconst X40.here hx rfl (hb hby at_197) k_) ?_
    refine Go.st (S' := T40.setTop (mkF m 200 #[.val (.int p0), .val (.int p1), .val (.int z2), .val (.int (3 : Int32)), .val (.ref t), .val (.ref o), .val (.int z6), .val (.ref b38), .unset, .unset] [(.ref o), (.int (2 : Int32)), (.ref b38)])) (fun _ k_ => XS.aload X40.here hx rfl (hb hby at_198) rfl rfl k_) ?_
    refine Go.st (S' := T40.setTop (mkF m 201 #[.val (.int p0), .val (.int p1), .val (.int z2), .val (.int (3 : Int32)), .val (.ref t), .val (.ref o), .val (.int z6), .val (.ref b38), .unset, .unset] [(.int (2 : Int32)), (.ref o), (.int (2 : Int32)), (.ref b38)])) (fun _ k_ => XS.iconst X40.here hx rfl (hb hby at_200) k_) ?_
    refine Go.st (S' := T40.setTop (mkF m 202 #[.val (.int p0), .val (.int p1), .val (.int z2), .val (.int (3 : Int32)), .val (.ref t), .val (.ref o), .val (.int z6), .val (.ref b38), .unset, .unset] [(.int y2), (.int (2 : Int32)), (.ref b38)])) (A_o.load X40 hx hZ e40 (j := (2 : Int32)) (v := y2) (by decide) rfl (g := (mkF m 201 #[.val (.int p0), .val (.int p1), .val (.int z2), .val (.int (3 : Int32)), .val (.ref t), .val (.ref o), .val (.int z6), .val (.ref b38), .unset, .unset] [(.int (2 : Int32)), (.ref o), (.int (2 : Int32)), (.ref b38)])) rfl rfl (hb hby at_201)) ?_
    obtain ⟨T41, h41, X41, e41, W41, A41, st41⟩ := A_b38.store X40 hx hZ e40 (j := (2 : Int32)) (by decide) (Nat.le_of_ble_eq_true rfl) (g := (mkF m 202 #[.val (.int p0), .val (.int p1), .val (.int z2), .val (.int (3 : Int32)), .val (.ref t), .val (.ref o), .val (.int z6), .val (.ref b38), .unset, .unset] [(.int y2), (.int (2 : Int32)), (.ref b38)])) rfl rfl (hb hby at_202)
    replace A_b38 : Ai Z h41 b38 .int [y0, y1, y2] := A41
    replace A_o := A_o.other W41 ne_o_b38
    replace Z0 := Nat.le_trans Z0 (Keep.of_wr W41).1
    have N41 := Fr.snoc X41 N40 g_b38
    refine Go.st (S' := T41.setTop (mkF m 203 #[.val (.int p0), .val (.int p1), .val (.int z2), .val (.int (3 : Int32)), .val (.ref t), .val (.ref o), .val (.int z6), .val (.ref b38), .unset, .unset] [])) (st41) ?_
    refine Go.st (S' := T41.setTop (mkF m 204 #[.val (.int p0), .val (.int p1), .val (.int z2), .val (.int (3 : Int32)), .val (.ref t), .val (.ref o), .val (.int z6), .val (.ref b38), .unset, .unset] [(.int (3 : Int32))])) (fun _ k_ => XS.iloadN X41.here hx rfl (hb hby at_203) rfl k_) ?_
    refine Go.st (S' := T41.setTop (mkF m 205 #[.val (.int p0), .val (.int p1), .val (.int z2), .val (.int (3 : Int32)), .val (.ref t), .val (.ref o), .val (.int z6), .val (.ref b38), .unset, .unset] [(.int (3 : Int32)), (.int (3 : Int32))])) (fun _ k_ => XS.iconst X41.here hx rfl (hb hby at_204) k_) ?_
    refine Go.st (S' := T41.setTop (mkF m 216 #[.val (.int p0), .val (.int p1), .val (.int z2), .val (.int (3 : Int32)), .val (.ref t), .val (.ref o), .val (.int z6), .val (.ref b38), .unset, .unset] [])) (fun _ k_ => XS.icmpYes X41.here hx rfl (pc0 := 205) (pc' := 216) rfl (hb hby at_205) rfl (flt (by decide)).2.2.2 (by decide) (by decide) k_) ?_
    obtain ⟨T42, h42, X42, e42, E42, A42, D42, -, st42⟩ := newO X41 hx hZ hown (w6 hw) (w7 hw) (w8 hw) e41 (g := (mkF m 216 #[.val (.int p0), .val (.int p1), .val (.int z2), .val (.int (3 : Int32)), .val (.ref t), .val (.ref o), .val (.int z6), .val (.ref b38), .unset, .unset] [])) rfl (hb hby at_216) (by decide) (by decide)
    obtain ⟨b42, q42⟩ : ∃ z, z = h41.size := ⟨_, rfl⟩
    rw [← q42] at A42 D42 st42
    have ne_o_b42 : o ≠ b42 := Nat.ne_of_lt (Nat.lt_of_lt_of_le A_o.lt (Nat.le_of_eq q42.symm))
    have ne_b38_b42 : b38 ≠ b42 := Nat.ne_of_lt (Nat.lt_of_lt_of_le A_b38.lt (Nat.le_of_eq q42.symm))
    have g_b42 : n0 ≤ b42 := Nat.le_trans Z0 (Nat.le_of_eq q42.symm)
    replace A_o := A_o.ext E42
    replace A_b38 := A_b38.ext E42
    replace Z0 := Nat.le_trans Z0 E42.1
    have E_b42 := A42
    have F_label_b42 : Fld Z h42 b42 "io/isoproof/check/polygraph/NodeOrder" "label" "[J" .null := D42 (Or.inr (w17 hw)) (ty := (.array .long)) (by decide)
    have F_next_b42 : Fld Z h42 b42 "io/isoproof/check/polygraph/NodeOrder" "next" "[I" .null := D42 (Or.inr (w19 hw)) (ty := (.array .int)) (by decide)
    have F_previous_b42 : Fld Z h42 b42 "io/isoproof/check/polygraph/NodeOrder" "previous" "[I" .null := D42 (Or.inr (w21 hw)) (ty := (.array .int)) (by decide)
    have F_first_b42 : Fld Z h42 b42 "io/isoproof/check/polygraph/NodeOrder" "first" "I" (.int (0 : Int32)) := D42 (Or.inl (w23 hw)) (ty := .int) (by decide)
    refine Go.st (S' := T42.setTop (mkF m 219 #[.val (.int p0), .val (.int p1), .val (.int z2), .val (.int (3 : Int32)), .val (.ref t), .val (.ref o), .val (.int z6), .val (.ref b38), .unset, .unset] [(.ref b42)])) (st42) ?_
    refine Go.st (S' := T42.setTop (mkF m 220 #[.val (.int p0), .val (.int p1), .val (.int z2), .val (.int (3 : Int32)), .val (.ref t), .val (.ref o), .val (.int z6), .val (.ref b38), .unset, .unset] [(.ref b42), (.ref b42)])) (fun _ k_ => XS.dup X42.here hx rfl (hb hby at_219) rfl rfl k_) ?_
    refine Go.st (S' := T42.setTop (mkF m 222 #[.val (.int p0), .val (.int p1), .val (.int z2), .val (.int (3 : Int32)), .val (.ref t), .val (.ref o), .val (.int z6), .val (.ref b38), .unset, .unset] [(.ref b38), (.ref b42), (.ref b42)])) (fun _ k_ => XS.aload X42.here hx rfl (hb hby at_220) rfl rfl k_) ?_
    obtain ⟨v43, T43, h43, L43, X43, e43, hQ43, st43⟩ := callIn X42 hx hZ rfl hown (w9 hw) (w10 hw) (w8 hw) (w11 hw) (by decide) (W := 1) (argsL := [(.ref b38)]) (rest := [(.ref b42)]) e42 (no_init l Z a0 hw b42 b38 [y0, y1, y2] h42 n0 Z0 E_b42 F_label_b42 F_next_b42 F_previous_b42 F_first_b42 A_b38 (Ne.symm ne_b38_b42) g_b42 okk) (by decide) (by decide) pd2 rfl (g := (mkF m 222 #[.val (.int p0), .val (.int p1), .val (.int z2), .val (.int (3 : Int32)), .val (.ref t), .val (.ref o), .val (.int z6), .val (.ref b38), .unset, .unset] [(.ref b38), (.ref b42), (.ref b42)])) rfl (by rw [hml]; rfl) rfl (by show 2 * 0 + _ ≤ _; exact Nat.le_of_eq rfl) (hb hby at_222) (by decide) (by decide)
    obtain ⟨rfl, Nq43, Kq43, lb43, nx43, ls43, ns43, hl43, hn43, hln43, NO_b42⟩ := hQ43
    have N43 := Fr.app N41 Nq43
    have ne_o_lb43 : o ≠ lb43 := Nat.ne_of_lt (Nat.lt_of_lt_of_le A_o.lt hl43)
    have ne_b38_lb43 : b38 ≠ lb43 := Nat.ne_of_lt (Nat.lt_of_lt_of_le A_b38.lt hl43)
    have ne_b42_lb43 : b42 ≠ lb43 := Nat.ne_of_lt (Nat.lt_of_lt_of_le E_b42.lt hl43)
    have g_lb43 : n0 ≤ lb43 := Nat.le_trans Z0 hl43
    have ne_o_nx43 : o ≠ nx43 := Nat.ne_of_lt (Nat.lt_of_lt_of_le A_o.lt hn43)
    have ne_b38_nx43 : b38 ≠ nx43 := Nat.ne_of_lt (Nat.lt_of_lt_of_le A_b38.lt hn43)
    have ne_b42_nx43 : b42 ≠ nx43 := Nat.ne_of_lt (Nat.lt_of_lt_of_le E_b42.lt hn43)
    have g_nx43 : n0 ≤ nx43 := Nat.le_trans Z0 hn43
    replace A_o := A_o.keep Kq43 (ninS ne_o_b42 nin0)
    replace A_b38 := A_b38.keep Kq43 (ninS ne_b38_b42 nin0)
    replace Z0 := Nat.le_trans Z0 Kq43.1
    refine Go.st (S' := T43.setTop (mkF m 225 #[.val (.int p0), .val (.int p1), .val (.int z2), .val (.int (3 : Int32)), .val (.ref t), .val (.ref o), .val (.int z6), .val (.ref b38), .unset, .unset] [(.ref b42)])) (st43) ?_
    refine Go.st (S' := T43.setTop (mkF m 227 #[.val (.int p0), .val (.int p1), .val (.int z2), .val (.int (3 : Int32)), .val (.ref t), .val (.ref o), .val (.int z6), .val (.ref b38), .val (.ref b42), .unset] [])) (fun _ k_ => XS.astore X43.here hx rfl (hb hby at_225) rfl rfl (l' := #[.val (.int p0), .val (.int p1), .val (.int z2), .val (.int (3 : Int32)), .val (.ref t), .val (.ref o), .val (.int z6), .val (.ref b38), .val (.ref b42), .unset]) rfl k_) ?_
    refine Go.st (S' := T43.setTop (mkF m 229 #[.val (.int p0), .val (.int p1), .val (.int z2), .val (.int (3 : Int32)), .val (.ref t), .val (.ref o), .val (.int z6), .val (.ref b38), .val (.ref b42), .unset] [(.ref b42)])) (fun _ k_ => XS.aload X43.here hx rfl (hb hby at_227) rfl rfl k_) ?_
    obtain ⟨v44, T44, h44, L44, X44, e44, hQ44, st44⟩ := callVi X43 hx hZ hown (w33 hw) (w34 hw) (w36 hw) (w35 hw) (w8 hw) (w37 hw) (by decide) (W := 0) (argsL := []) (rest := []) e43 NO_b42.1 (no_positions l Z a0 hw b42 lb43 nx43 [y0, y1, y2] ns43 ls43 h43 n0 Z0 NO_b42 okk ne_b42_lb43 ne_b42_nx43 hln43 g_b42 g_lb43) (by decide) (by decide) pd3 rfl (g := (mkF m 229 #[.val (.int p0), .val (.int p1), .val (.int z2), .val (.int (3 : Int32)), .val (.ref t), .val (.ref o), .val (.int z6), .val (.ref b38), .val (.ref b42), .unset] [(.ref b42)])) rfl (by rw [hml]; rfl) rfl (by show 2 * 0 + _ ≤ _; exact Nat.le_of_eq rfl) (hb hby at_229) (by decide) (by decide)
    obtain ⟨Nq44, Kq44, r44, rfl, hr44, ps44, A_r44, hp44⟩ := hQ44
    have N44 := Fr.app N43 Nq44
    have ne_o_r44 : o ≠ r44 := Nat.ne_of_lt (Nat.lt_of_lt_of_le A_o.lt hr44)
    have ne_b38_r44 : b38 ≠ r44 := Nat.ne_of_lt (Nat.lt_of_lt_of_le A_b38.lt hr44)
    have ne_b42_r44 : b42 ≠ r44 := Nat.ne_of_lt (Nat.lt_of_lt_of_le NO_b42.1.lt hr44)
    have ne_lb43_r44 : lb43 ≠ r44 := Nat.ne_of_lt (Nat.lt_of_lt_of_le NO_b42.2.2.2.2.1.lt hr44)
    have ne_nx43_r44 : nx43 ≠ r44 := Nat.ne_of_lt (Nat.lt_of_lt_of_le NO_b42.2.2.2.2.2.1.lt hr44)
    have g_r44 : n0 ≤ r44 := Nat.le_trans Z0 hr44
    replace A_o := A_o.keep Kq44 nin0
    replace A_b38 := A_b38.keep Kq44 nin0
    replace Z0 := Nat.le_trans Z0 Kq44.1
    refine Go.st (S' := T44.setTop (mkF m 232 #[.val (.int p0), .val (.int p1), .val (.int z2), .val (.int (3 : Int32)), .val (.ref t), .val (.ref o), .val (.int z6), .val (.ref b38), .val (.ref b42), .unset] [(.ref r44)])) (st44) ?_
    refine Go.st (S' := T44.setTop (mkF m 234 #[.val (.int p0), .val (.int p1), .val (.int z2), .val (.int (3 : Int32)), .val (.ref t), .val (.ref o), .val (.int z6), .val (.ref b38), .val (.ref b42), .val (.ref r44)] [])) (fun _ k_ => XS.astore X44.here hx rfl (hb hby at_232) rfl rfl (l' := #[.val (.int p0), .val (.int p1), .val (.int z2), .val (.int (3 : Int32)), .val (.ref t), .val (.ref o), .val (.int z6), .val (.ref b38), .val (.ref b42), .val (.ref r44)]) rfl k_) ?_
    refine Go.st (S' := T44.setTop (mkF m 236 #[.val (.int p0), .val (.int p1), .val (.int z2), .val (.int (3 : Int32)), .val (.ref t), .val (.ref o), .val (.int z6), .val (.ref b38), .val (.ref b42), .val (.ref r44)] [(.ref r44)])) (fun _ k_ => XS.aload X44.here hx rfl (hb hby at_234) rfl rfl k_) ?_
    refine Go.st (S' := T44.setTop (mkF m 237 #[.val (.int p0), .val (.int p1), .val (.int z2), .val (.int (3 : Int32)), .val (.ref t), .val (.ref o), .val (.int z6), .val (.ref b38), .val (.ref b42), .val (.ref r44)] [(.int (3 : Int32))])) (A_r44.length X44 hx hZ e44 (n := (3 : Int32)) (by rw [hp44.1]; rfl) (g := (mkF m 236 #[.val (.int p0), .val (.int p1), .val (.int z2), .val (.int (3 : Int32)), .val (.ref t), .val (.ref o), .val (.int z6), .val (.ref b38), .val (.ref b42), .val (.ref r44)] [(.ref r44)])) rfl rfl (hb hby at_236)) ?_
    refine Go.st (S' := T44.setTop (mkF m 238 #[.val (.int p0), .val (.int p1), .val (.int z2), .val (.int (3 : Int32)), .val (.ref t), .val (.ref o), .val (.int z6), .val (.ref b38), .val (.ref b42), .val (.ref r44)] [(.int (3 : Int32)), (.int (3 : Int32))])) (fun _ k_ => XS.iloadN X44.here hx rfl (hb hby at_237) rfl k_) ?_
    refine Go.st (S' := T44.setTop (mkF m 243 #[.val (.int p0), .val (.int p1), .val (.int z2), .val (.int (3 : Int32)), .val (.ref t), .val (.ref o), .val (.int z6), .val (.ref b38), .val (.ref b42), .val (.ref r44)] [])) (fun _ k_ => XS.icmpYes X44.here hx rfl (pc0 := 238) (pc' := 243) rfl (hb hby at_238) rfl (teq (by decide)).1 (by decide) (by decide) k_) ?_
    refine Go.st (S' := T44.setTop (mkF m 245 #[.val (.int p0), .val (.int p1), .val (.int z2), .val (.int (3 : Int32)), .val (.ref t), .val (.ref o), .val (.int z6), .val (.ref b38), .val (.ref b42), .val (.ref r44)] [(.ref r44)])) (fun _ k_ => XS.aload X44.here hx rfl (hb hby at_243) rfl rfl k_) ?_
    refine Go.st (S' := T44.setTop (mkF m 247 #[.val (.int p0), .val (.int p1), .val (.int z2), .val (.int (3 : Int32)), .val (.ref t), .val (.ref o), .val (.int z6), .val (.ref b38), .val (.ref b42), .val (.ref r44)] [(.ref b38), (.ref r44)])) (fun _ k_ => XS.aload X44.here hx rfl (hb hby at_245) rfl rfl k_) ?_
    refine Go.st (S' := T44.setTop (mkF m 248 #[.val (.int p0), .val (.int p1), .val (.int z2), .val (.int (3 : Int32)), .val (.ref t), .val (.ref o), .val (.int z6), .val (.ref b38), .val (.ref b42), .val (.ref r44)] [(.int (0 : Int32)), (.ref b38), (.ref r44)])) (fun _ k_ => XS.iconst X44.here hx rfl (hb hby at_247) k_) ?_
    refine Go.st (S' := T44.setTop (mkF m 249 #[.val (.int p0), .val (.int p1), .val (.int z2), .val (.int (3 : Int32)), .val (.ref t), .val (.ref o), .val (.int z6), .val (.ref b38), .val (.ref b42), .val (.ref r44)] [(.int (3 : Int32)), (.int (0 : Int32)), (.ref b38), (.ref r44)])) (fun _ k_ => XS.iloadN X44.here hx rfl (hb hby at_248) rfl k_) ?_
    obtain ⟨v45, T45, h45, L45, X45, e45, hQ45, st45⟩ := callSt X44 hx hZ hown (w38 hw) (w39 hw) (w4 hw) (w40 hw) (by decide) (W := 0) (argsL := [(.ref r44), (.ref b38), (.int (0 : Int32)), (.int (3 : Int32))]) (rest := []) e44 (rm_at l Z a0 hw r44 b38 (0 : Int32) (3 : Int32) ps44 [y0, y1, y2] h44 n0 Z0 A_r44 A_b38 (fun _ => ⟨by decide, y0, rfl, (okk.2.1 0 _ rfl).1, hp44.2 0 (by simp) _ rfl⟩)) (by decide) (by decide) pd4 rfl (g := (mkF m 249 #[.val (.int p0), .val (.int p1), .val (.int z2), .val (.int (3 : Int32)), .val (.ref t), .val (.ref o), .val (.int z6), .val (.ref b38), .val (.ref b42), .val (.ref r44)] [(.int (3 : Int32)), (.int (0 : Int32)), (.ref b38), (.ref r44)])) rfl (by rw [hml]; rfl) rfl (by show 2 * 0 + _ ≤ _; exact Nat.le_of_eq rfl) (hb hby at_249) (by decide) (by decide)
    obtain ⟨rfl, Nq45, hh45⟩ := hQ45
    rw [hh45] at e45
    have N45 := Fr.app N44 Nq45
    refine Go.st (S' := T45.setTop (mkF m 252 #[.val (.int p0), .val (.int p1), .val (.int z2), .val (.int (3 : Int32)), .val (.ref t), .val (.ref o), .val (.int z6), .val (.ref b38), .val (.ref b42), .val (.ref r44)] [(.int (1 : Int32))])) (st45) ?_
    refine Go.st (S' := T45.setTop (mkF m 255 #[.val (.int p0), .val (.int p1), .val (.int z2), .val (.int (3 : Int32)), .val (.ref t), .val (.ref o), .val (.int z6), .val (.ref b38), .val (.ref b42), .val (.ref r44)] [])) (fun _ k_ => XS.ifNo X45.here hx rfl (hb hby at_252) rfl ((if0 _ _).trans (feq (by decide)).1) k_) ?_
    refine Go.st (S' := T45.setTop (mkF m 257 #[.val (.int p0), .val (.int p1), .val (.int z2), .val (.int (3 : Int32)), .val (.ref t), .val (.ref o), .val (.int z6), .val (.ref b38), .val (.ref b42), .val (.ref r44)] [(.ref r44)])) (fun _ k_ => XS.aload X45.here hx rfl (hb hby at_255) rfl rfl k_) ?_
    refine Go.st (S' := T45.setTop (mkF m 259 #[.val (.int p0), .val (.int p1), .val (.int z2), .val (.int (3 : Int32)), .val (.ref t), .val (.ref o), .val (.int z6), .val (.ref b38), .val (.ref b42), .val (.ref r44)] [(.ref b38), (.ref r44)])) (fun _ k_ => XS.aload X45.here hx rfl (hb hby at_257) rfl rfl k_) ?_
    refine Go.st (S' := T45.setTop (mkF m 260 #[.val (.int p0), .val (.int p1), .val (.int z2), .val (.int (3 : Int32)), .val (.ref t), .val (.ref o), .val (.int z6), .val (.ref b38), .val (.ref b42), .val (.ref r44)] [(.int (1 : Int32)), (.ref b38), (.ref r44)])) (fun _ k_ => XS.iconst X45.here hx rfl (hb hby at_259) k_) ?_
    refine Go.st (S' := T45.setTop (mkF m 261 #[.val (.int p0), .val (.int p1), .val (.int z2), .val (.int (3 : Int32)), .val (.ref t), .val (.ref o), .val (.int z6), .val (.ref b38), .val (.ref b42), .val (.ref r44)] [(.int (3 : Int32)), (.int (1 : Int32)), (.ref b38), (.ref r44)])) (fun _ k_ => XS.iloadN X45.here hx rfl (hb hby at_260) rfl k_) ?_
    obtain ⟨v46, T46, h46, L46, X46, e46, hQ46, st46⟩ := callSt X45 hx hZ hown (w38 hw) (w39 hw) (w4 hw) (w40 hw) (by decide) (W := 0) (argsL := [(.ref r44), (.ref b38), (.int (1 : Int32)), (.int (3 : Int32))]) (rest := []) e45 (rm_at l Z a0 hw r44 b38 (1 : Int32) (3 : Int32) ps44 [y0, y1, y2] h44 n0 Z0 A_r44 A_b38 (fun _ => ⟨by decide, y1, rfl, (okk.2.1 1 _ rfl).1, hp44.2 1 (by simp) _ rfl⟩)) (by decide) (by decide) pd4 rfl (g := (mkF m 261 #[.val (.int p0), .val (.int p1), .val (.int z2), .val (.int (3 : Int32)), .val (.ref t), .val (.ref o), .val (.int z6), .val (.ref b38), .val (.ref b42), .val (.ref r44)] [(.int (3 : Int32)), (.int (1 : Int32)), (.ref b38), (.ref r44)])) rfl (by rw [hml]; rfl) rfl (by show 2 * 0 + _ ≤ _; exact Nat.le_of_eq rfl) (hb hby at_261) (by decide) (by decide)
    obtain ⟨rfl, Nq46, hh46⟩ := hQ46
    rw [hh46] at e46
    have N46 := Fr.app N45 Nq46
    refine Go.st (S' := T46.setTop (mkF m 264 #[.val (.int p0), .val (.int p1), .val (.int z2), .val (.int (3 : Int32)), .val (.ref t), .val (.ref o), .val (.int z6), .val (.ref b38), .val (.ref b42), .val (.ref r44)] [(.int (1 : Int32))])) (st46) ?_
    refine Go.st (S' := T46.setTop (mkF m 267 #[.val (.int p0), .val (.int p1), .val (.int z2), .val (.int (3 : Int32)), .val (.ref t), .val (.ref o), .val (.int z6), .val (.ref b38), .val (.ref b42), .val (.ref r44)] [])) (fun _ k_ => XS.ifNo X46.here hx rfl (hb hby at_264) rfl ((if0 _ _).trans (feq (by decide)).1) k_) ?_
    refine Go.st (S' := T46.setTop (mkF m 269 #[.val (.int p0), .val (.int p1), .val (.int z2), .val (.int (3 : Int32)), .val (.ref t), .val (.ref o), .val (.int z6), .val (.ref b38), .val (.ref b42), .val (.ref r44)] [(.ref r44)])) (fun _ k_ => XS.aload X46.here hx rfl (hb hby at_267) rfl rfl k_) ?_
    refine Go.st (S' := T46.setTop (mkF m 271 #[.val (.int p0), .val (.int p1), .val (.int z2), .val (.int (3 : Int32)), .val (.ref t), .val (.ref o), .val (.int z6), .val (.ref b38), .val (.ref b42), .val (.ref r44)] [(.ref b38), (.ref r44)])) (fun _ k_ => XS.aload X46.here hx rfl (hb hby at_269) rfl rfl k_) ?_
    refine Go.st (S' := T46.setTop (mkF m 272 #[.val (.int p0), .val (.int p1), .val (.int z2), .val (.int (3 : Int32)), .val (.ref t), .val (.ref o), .val (.int z6), .val (.ref b38), .val (.ref b42), .val (.ref r44)] [(.int (2 : Int32)), (.ref b38), (.ref r44)])) (fun _ k_ => XS.iconst X46.here hx rfl (hb hby at_271) k_) ?_
    refine Go.st (S' := T46.setTop (mkF m 273 #[.val (.int p0), .val (.int p1), .val (.int z2), .val (.int (3 : Int32)), .val (.ref t), .val (.ref o), .val (.int z6), .val (.ref b38), .val (.ref b42), .val (.ref r44)] [(.int (3 : Int32)), (.int (2 : Int32)), (.ref b38), (.ref r44)])) (fun _ k_ => XS.iloadN X46.here hx rfl (hb hby at_272) rfl k_) ?_
    obtain ⟨v47, T47, h47, L47, X47, e47, hQ47, st47⟩ := callSt X46 hx hZ hown (w38 hw) (w39 hw) (w4 hw) (w40 hw) (by decide) (W := 0) (argsL := [(.ref r44), (.ref b38), (.int (2 : Int32)), (.int (3 : Int32))]) (rest := []) e46 (rm_at l Z a0 hw r44 b38 (2 : Int32) (3 : Int32) ps44 [y0, y1, y2] h44 n0 Z0 A_r44 A_b38 (fun _ => ⟨by decide, y2, rfl, (okk.2.1 2 _ rfl).1, hp44.2 2 (by simp) _ rfl⟩)) (by decide) (by decide) pd4 rfl (g := (mkF m 273 #[.val (.int p0), .val (.int p1), .val (.int z2), .val (.int (3 : Int32)), .val (.ref t), .val (.ref o), .val (.int z6), .val (.ref b38), .val (.ref b42), .val (.ref r44)] [(.int (3 : Int32)), (.int (2 : Int32)), (.ref b38), (.ref r44)])) rfl (by rw [hml]; rfl) rfl (by show 2 * 0 + _ ≤ _; exact Nat.le_of_eq rfl) (hb hby at_273) (by decide) (by decide)
    obtain ⟨rfl, Nq47, hh47⟩ := hQ47
    rw [hh47] at e47
    have N47 := Fr.app N46 Nq47
    refine Go.st (S' := T47.setTop (mkF m 276 #[.val (.int p0), .val (.int p1), .val (.int z2), .val (.int (3 : Int32)), .val (.ref t), .val (.ref o), .val (.int z6), .val (.ref b38), .val (.ref b42), .val (.ref r44)] [(.int (1 : Int32))])) (st47) ?_
    refine Go.st (S' := T47.setTop (mkF m 279 #[.val (.int p0), .val (.int p1), .val (.int z2), .val (.int (3 : Int32)), .val (.ref t), .val (.ref o), .val (.int z6), .val (.ref b38), .val (.ref b42), .val (.ref r44)] [])) (fun _ k_ => XS.ifNo X47.here hx rfl (hb hby at_276) rfl ((if0 _ _).trans (feq (by decide)).1) k_) ?_
    refine Go.st (S' := T47.setTop (mkF m 281 #[.val (.int p0), .val (.int p1), .val (.int z2), .val (.int (3 : Int32)), .val (.ref t), .val (.ref o), .val (.int z6), .val (.ref b38), .val (.ref b42), .val (.ref r44)] [(.ref r44)])) (fun _ k_ => XS.aload X47.here hx rfl (hb hby at_279) rfl rfl k_) ?_
    refine Go.st (S' := T47.setTop (mkF m 283 #[.val (.int p0), .val (.int p1), .val (.int z2), .val (.int (3 : Int32)), .val (.ref t), .val (.ref o), .val (.int z6), .val (.ref b38), .val (.ref b42), .val (.ref r44)] [(.ref b38), (.ref r44)])) (fun _ k_ => XS.aload X47.here hx rfl (hb hby at_281) rfl rfl k_) ?_
    refine Go.st (S' := T47.setTop (mkF m 284 #[.val (.int p0), .val (.int p1), .val (.int z2), .val (.int (3 : Int32)), .val (.ref t), .val (.ref o), .val (.int z6), .val (.ref b38), .val (.ref b42), .val (.ref r44)] [(.int (3 : Int32)), (.ref b38), (.ref r44)])) (fun _ k_ => XS.iconst X47.here hx rfl (hb hby at_283) k_) ?_
    refine Go.st (S' := T47.setTop (mkF m 285 #[.val (.int p0), .val (.int p1), .val (.int z2), .val (.int (3 : Int32)), .val (.ref t), .val (.ref o), .val (.int z6), .val (.ref b38), .val (.ref b42), .val (.ref r44)] [(.int (3 : Int32)), (.int (3 : Int32)), (.ref b38), (.ref r44)])) (fun _ k_ => XS.iloadN X47.here hx rfl (hb hby at_284) rfl k_) ?_
    obtain ⟨v48, T48, h48, L48, X48, e48, hQ48, st48⟩ := callSt X47 hx hZ hown (w38 hw) (w39 hw) (w4 hw) (w40 hw) (by decide) (W := 0) (argsL := [(.ref r44), (.ref b38), (.int (3 : Int32)), (.int (3 : Int32))]) (rest := []) e47 (rm_at l Z a0 hw r44 b38 (3 : Int32) (3 : Int32) ps44 [y0, y1, y2] h44 n0 Z0 A_r44 A_b38 (fun q => absurd q (by decide))) (by decide) (by decide) pd4 rfl (g := (mkF m 285 #[.val (.int p0), .val (.int p1), .val (.int z2), .val (.int (3 : Int32)), .val (.ref t), .val (.ref o), .val (.int z6), .val (.ref b38), .val (.ref b42), .val (.ref r44)] [(.int (3 : Int32)), (.int (3 : Int32)), (.ref b38), (.ref r44)])) rfl (by rw [hml]; rfl) rfl (by show 2 * 0 + _ ≤ _; exact Nat.le_of_eq rfl) (hb hby at_285) (by decide) (by decide)
    obtain ⟨rfl, Nq48, hh48⟩ := hQ48
    rw [hh48] at e48
    have N48 := Fr.app N47 Nq48
    refine Go.st (S' := T48.setTop (mkF m 288 #[.val (.int p0), .val (.int p1), .val (.int z2), .val (.int (3 : Int32)), .val (.ref t), .val (.ref o), .val (.int z6), .val (.ref b38), .val (.ref b42), .val (.ref r44)] [(.int (1 : Int32))])) (st48) ?_
    refine Go.st (S' := T48.setTop (mkF m 291 #[.val (.int p0), .val (.int p1), .val (.int z2), .val (.int (3 : Int32)), .val (.ref t), .val (.ref o), .val (.int z6), .val (.ref b38), .val (.ref b42), .val (.ref r44)] [])) (fun _ k_ => XS.ifNo X48.here hx rfl (hb hby at_288) rfl ((if0 _ _).trans (feq (by decide)).1) k_) ?_
    refine Go.st (S' := T48.setTop (mkF m 292 #[.val (.int p0), .val (.int p1), .val (.int z2), .val (.int (3 : Int32)), .val (.ref t), .val (.ref o), .val (.int z6), .val (.ref b38), .val (.ref b42), .val (.ref r44)] [(.int (1 : Int32))])) (fun _ k_ => XS.iconst X48.here hx rfl (hb hby at_291) k_) ?_
    refine Go.st (S' := T48.setTop (mkF m 296 #[.val (.int p0), .val (.int p1), .val (.int z2), .val (.int (3 : Int32)), .val (.ref t), .val (.ref o), .val (.int z6), .val (.ref b38), .val (.ref b42), .val (.ref r44)] [(.int (1 : Int32))])) (fun _ k_ => XS.goto X48.here hx rfl (pc0 := 292) (pc' := 296) rfl (hb hby at_292) (by decide) (by decide) k_) ?_
    exact Go.retN X48 hx (t := .boolean) hret (by simp) hlk (hb hby at_296) (by decide) (by decide) ⟨rfl, N48⟩
  have J4 : ∀ (z2 z6 : Int32) (T : State) (locs : List Loc) (h1 : Heap) (X : Stand p l e room_1 s m #[(.int p0), (.int p1)] below meth c T locs 2 8) (e1 : T.heap = h1) (N1 : Fr n0 locs) (Z0 : n0 ≤ h1.size) (t o : Addr) (y0 y1 y2 y3 : Int32) (A_o : Ai Z h1 o .int [y0, y1, y2, y3]) (g_o : n0 ≤ o) (okk : own_ok [y0, y1, y2, y3]), Go p e below s room_1 (fun v h L => v = some (.int 1) ∧ Fr n0 L) (T.setTop (mkF m 160 #[.val (.int p0), .val (.int p1), .val (.int z2), .val (.int (4 : Int32)), .val (.ref t), .val (.ref o), .val (.int z6), .unset, .unset, .unset] [])) := by
    intro z2 z6 T locs h1 X e1 N1 Z0 t o y0 y1 y2 y3 A_o g_o okk
    refine Go.st (S' := T.setTop (mkF m 161 #[.val (.int p0), .val (.int p1), .val (.int z2), .val (.int (4 : Int32)), .val (.ref t), .val (.ref o), .val (.int z6), .unset, .unset, .unset] [(.int (4 : Int32))])) (fun _ k_ => XS.iloadN X.here hx rfl (hb hby at_160) rfl k_) ?_
    obtain ⟨T49, h49, b49, X49, e49, q49, E49, A49, st49⟩ := Ai.new X hx hZ (aty := .int) (w1 hw) rfl e1 (n := (4 : Int32)) (by decide) 4 (by decide) (by decide) (by decide) (by decide) (g := (mkF m 161 #[.val (.int p0), .val (.int p1), .val (.int z2), .val (.int (4 : Int32)), .val (.ref t), .val (.ref o), .val (.int z6), .unset, .unset, .unset] [(.int (4 : Int32))])) rfl rfl (hb hby at_161)
    have ne_o_b49 : o ≠ b49 := Nat.ne_of_lt (Nat.lt_of_lt_of_le A_o.lt (Nat.le_of_eq q49.symm))
    have g_b49 : n0 ≤ b49 := Nat.le_trans Z0 (Nat.le_of_eq q49.symm)
    replace A_o := A_o.ext E49
    replace Z0 := Nat.le_trans Z0 E49.1
    have A_b49 : Ai Z h49 b49 .int [(0 : Int32), (0 : Int32), (0 : Int32), (0 : Int32)] := A49
    refine Go.st (S' := T49.setTop (mkF m 163 #[.val (.int p0), .val (.int p1), .val (.int z2), .val (.int (4 : Int32)), .val (.ref t), .val (.ref o), .val (.int z6), .unset, .unset, .unset] [(.ref b49)])) (st49) ?_
    refine Go.st (S' := T49.setTop (mkF m 165 #[.val (.int p0), .val (.int p1), .val (.int z2), .val (.int (4 : Int32)), .val (.ref t), .val (.ref o), .val (.int z6), .val (.ref b49), .unset, .unset] [])) (fun _ k_ => XS.astore X49.here hx rfl (hb hby at_163) rfl rfl (l' := #[.val (.int p0), .val (.int p1), .val (.int z2), .val (.int (4 : Int32)), .val (.ref t), .val (.ref o), .val (.int z6), .val (.ref b49), .unset, .unset]) rfl k_) ?_
    refine Go.st (S' := T49.setTop (mkF m 166 #[.val (.int p0), .val (.int p1), .val (.int z2), .val (.int (4 : Int32)), .val (.ref t), .val (.ref o), .val (.int z6), .val (.ref b49), .unset, .unset] [(.int (4 : Int32))])) (fun _ k_ => XS.iloadN X49.here hx rfl (hb hby at_165) rfl k_) ?_
    refine Go.st (S' := T49.setTop (mkF m 169 #[.val (.int p0), .val (.int p1), .val (.int z2), .val (.int (4 : Int32)), .val (.ref t), .val (.ref o), .val (.int z6), .val (.ref b49), .unset, .unset] [])) (fun _ k_ => XS.ifNo X49.here hx rfl (hb hby at_166) rfl ((if0 _ _).trans (tlt (by decide)).2.2.2) k_) ?_
    refine Go.st (S' := T49.setTop (mkF m 171 #[.val (.int p0), .val (.int p1), .val (.int z2), .val (.int (4 : Int32)), .val (.ref t), .val (.ref o), .val (.int z6), .val (.ref b49), .unset, .unset] [(.ref b49)])) (fun _ k_ => XS.aload X49.here hx rfl (hb hby at_169) rfl rfl k_) ?_
    refine Go.st (S' := T49.setTop (mkF m 172 #[.val (.int p0), .val (.int p1), .val (.int z2), .val (.int (4 : Int32)), .val (.ref t), .val (.ref o), .val (.int z6), .val (.ref b49), .unset, .unset] [(.int (0 : Int32)), (.ref b49)])) (fun _ k_ => XS.iconst X49.here hx rfl (hb hby at_171) k_) ?_
    refine Go.st (S' := T49.setTop (mkF m 174 #[.val (.int p0), .val (.int p1), .val (.int z2), .val (.int (4 : Int32)), .val (.ref t), .val (.ref o), .val (.int z6), .val (.ref b49), .unset, .unset] [(.ref o), (.int (0 : Int32)), (.ref b49)])) (fun _ k_ => XS.aload X49.here hx rfl (hb hby at_172) rfl rfl k_) ?_
    refine Go.st (S' := T49.setTop (mkF m 175 #[.val (.int p0), .val (.int p1), .val (.int z2), .val (.int (4 : Int32)), .val (.ref t), .val (.ref o), .val (.int z6), .val (.ref b49), .unset, .unset] [(.int (0 : Int32)), (.ref o), (.int (0 : Int32)), (.ref b49)])) (fun _ k_ => XS.iconst X49.here hx rfl (hb hby at_174) k_) ?_
    refine Go.st (S' := T49.setTop (mkF m 176 #[.val (.int p0), .val (.int p1), .val (.int z2), .val (.int (4 : Int32)), .val (.ref t), .val (.ref o), .val (.int z6), .val (.ref b49), .unset, .unset] [(.int y0), (.int (0 : Int32)), (.ref b49)])) (A_o.load X49 hx hZ e49 (j := (0 : Int32)) (v := y0) (by decide) rfl (g := (mkF m 175 #[.val (.int p0), .val (.int p1), .val (.int z2), .val (.int (4 : Int32)), .val (.ref t), .val (.ref o), .val (.int z6), .val (.ref b49), .unset, .unset] [(.int (0 : Int32)), (.ref o), (.int (0 : Int32)), (.ref b49)])) rfl rfl (hb hby at_175)) ?_
    obtain ⟨T50, h50, X50, e50, W50, A50, st50⟩ := A_b49.store X49 hx hZ e49 (j := (0 : Int32)) (by decide) (Nat.le_of_ble_eq_true rfl) (g := (mkF m 176 #[.val (.int p0), .val (.int p1), .val (.int z2), .val (.int (4 : Int32)), .val (.ref t), .val (.ref o), .val (.int z6), .val (.ref b49), .unset, .unset] [(.int y0), (.int (0 : Int32)), (.ref b49)])) rfl rfl (hb hby at_176)
    replace A_b49 : Ai Z h50 b49 .int [y0, (0 : Int32), (0 : Int32), (0 : Int32)] := A50
    replace A_o := A_o.other W50 ne_o_b49
    replace Z0 := Nat.le_trans Z0 (Keep.of_wr W50).1
    have N50 := Fr.snoc X50 N1 g_b49
    refine Go.st (S' := T50.setTop (mkF m 177 #[.val (.int p0), .val (.int p1), .val (.int z2), .val (.int (4 : Int32)), .val (.ref t), .val (.ref o), .val (.int z6), .val (.ref b49), .unset, .unset] [])) (st50) ?_
    refine Go.st (S' := T50.setTop (mkF m 178 #[.val (.int p0), .val (.int p1), .val (.int z2), .val (.int (4 : Int32)), .val (.ref t), .val (.ref o), .val (.int z6), .val (.ref b49), .unset, .unset] [(.int (4 : Int32))])) (fun _ k_ => XS.iloadN X50.here hx rfl (hb hby at_177) rfl k_) ?_
    refine Go.st (S' := T50.setTop (mkF m 179 #[.val (.int p0), .val (.int p1), .val (.int z2), .val (.int (4 : Int32)), .val (.ref t), .val (.ref o), .val (.int z6), .val (.ref b49), .unset, .unset] [(.int (1 : Int32)), (.int (4 : Int32))])) (fun _ k_ => XS.iconst X50.here hx rfl (hb hby at_178) k_) ?_
    refine Go.st (S' := T50.setTop (mkF m 182 #[.val (.int p0), .val (.int p1), .val (.int z2), .val (.int (4 : Int32)), .val (.ref t), .val (.ref o), .val (.int z6), .val (.ref b49), .unset, .unset] [])) (fun _ k_ => XS.icmpNo X50.here hx rfl (hb hby at_179) rfl (tlt (by decide)).2.2.2 k_) ?_
    refine Go.st (S' := T50.setTop (mkF m 184 #[.val (.int p0), .val (.int p1), .val (.int z2), .val (.int (4 : Int32)), .val (.ref t), .val (.ref o), .val (.int z6), .val (.ref b49), .unset, .unset] [(.ref b49)])) (fun _ k_ => XS.aload X50.here hx rfl (hb hby at_182) rfl rfl k_) ?_
    refine Go.st (S' := T50.setTop (mkF m 185 #[.val (.int p0), .val (.int p1), .val (.int z2), .val (.int (4 : Int32)), .val (.ref t), .val (.ref o), .val (.int z6), .val (.ref b49), .unset, .unset] [(.int (1 : Int32)), (.ref b49)])) (fun _ k_ => XS.iconst X50.here hx rfl (hb hby at_184) k_) ?_
    refine Go.st (S' := T50.setTop (mkF m 187 #[.val (.int p0), .val (.int p1), .val (.int z2), .val (.int (4 : Int32)), .val (.ref t), .val (.ref o), .val (.int z6), .val (.ref b49), .unset, .unset] [(.ref o), (.int (1 : Int32)), (.ref b49)])) (fun _ k_ => XS.aload X50.here hx rfl (hb hby at_185) rfl rfl k_) ?_
    refine Go.st (S' := T50.setTop (mkF m 188 #[.val (.int p0), .val (.int p1), .val (.int z2), .val (.int (4 : Int32)), .val (.ref t), .val (.ref o), .val (.int z6), .val (.ref b49), .unset, .unset] [(.int (1 : Int32)), (.ref o), (.int (1 : Int32)), (.ref b49)])) (fun _ k_ => XS.iconst X50.here hx rfl (hb hby at_187) k_) ?_
    refine Go.st (S' := T50.setTop (mkF m 189 #[.val (.int p0), .val (.int p1), .val (.int z2), .val (.int (4 : Int32)), .val (.ref t), .val (.ref o), .val (.int z6), .val (.ref b49), .unset, .unset] [(.int y1), (.int (1 : Int32)), (.ref b49)])) (A_o.load X50 hx hZ e50 (j := (1 : Int32)) (v := y1) (by decide) rfl (g := (mkF m 188 #[.val (.int p0), .val (.int p1), .val (.int z2), .val (.int (4 : Int32)), .val (.ref t), .val (.ref o), .val (.int z6), .val (.ref b49), .unset, .unset] [(.int (1 : Int32)), (.ref o), (.int (1 : Int32)), (.ref b49)])) rfl rfl (hb hby at_188)) ?_
    obtain ⟨T51, h51, X51, e51, W51, A51, st51⟩ := A_b49.store X50 hx hZ e50 (j := (1 : Int32)) (by decide) (Nat.le_of_ble_eq_true rfl) (g := (mkF m 189 #[.val (.int p0), .val (.int p1), .val (.int z2), .val (.int (4 : Int32)), .val (.ref t), .val (.ref o), .val (.int z6), .val (.ref b49), .unset, .unset] [(.int y1), (.int (1 : Int32)), (.ref b49)])) rfl rfl (hb hby at_189)
    replace A_b49 : Ai Z h51 b49 .int [y0, y1, (0 : Int32), (0 : Int32)] := A51
    replace A_o := A_o.other W51 ne_o_b49
    replace Z0 := Nat.le_trans Z0 (Keep.of_wr W51).1
    have N51 := Fr.snoc X51 N50 g_b49
    refine Go.st (S' := T51.setTop (mkF m 190 #[.val (.int p0), .val (.int p1), .val (.int z2), .val (.int (4 : Int32)), .val (.ref t), .val (.ref o), .val (.int z6), .val (.ref b49), .unset, .unset] [])) (st51) ?_
    refine Go.st (S' := T51.setTop (mkF m 191 #[.val (.int p0), .val (.int p1), .val (.int z2), .val (.int (4 : Int32)), .val (.ref t), .val (.ref o), .val (.int z6), .val (.ref b49), .unset, .unset] [(.int (4 : Int32))])) (fun _ k_ => XS.iloadN X51.here hx rfl (hb hby at_190) rfl k_) ?_
    refine Go.st (S' := T51.setTop (mkF m 192 #[.val (.int p0), .val (.int p1), .val (.int z2), .val (.int (4 : Int32)), .val (.ref t), .val (.ref o), .val (.int z6), .val (.ref b49), .unset, .unset] [(.int (2 : Int32)), (.int (4 : Int32))])) (fun _ k_ => XS.iconst X51.here hx rfl (hb hby at_191) k_) ?_
    refine Go.st (S' := T51.setTop (mkF m 195 #[.val (.int p0), .val (.int p1), .val (.int z2), .val (.int (4 : Int32)), .val (.ref t), .val (.ref o), .val (.int z6), .val (.ref b49), .unset, .unset] [])) (fun _ k_ => XS.icmpNo X51.here hx rfl (hb hby at_192) rfl (tlt (by decide)).2.2.2 k_) ?_
    refine Go.st (S' := T51.setTop (mkF m 197 #[.val (.int p0), .val (.int p1), .val (.int z2), .val (.int (4 : Int32)), .val (.ref t), .val (.ref o), .val (.int z6), .val (.ref b49), .unset, .unset] [(.ref b49)])) (fun _ k_ => XS.aload X51.here hx rfl (hb hby at_195) rfl rfl k_) ?_
    refine Go.st (S' := T51.setTop (mkF m 198 #[.val (.int p0), .val (.int p1), .val (.int z2), .val (.int (4 : Int32)), .val (.ref t), .val (.ref o), .val (.int z6), .val (.ref b49), .unset, .unset] [(.int (2 : Int32)), (.ref b49)])) (fun _ k_ => XS.iconst X51.here hx rfl (hb hby at_197) k_) ?_
    refine Go.st (S' := T51.setTop (mkF m 200 #[.val (.int p0), .val (.int p1), .val (.int z2), .val (.int (4 : Int32)), .val (.ref t), .val (.ref o), .val (.int z6), .val (.ref b49), .unset, .unset] [(.ref o), (.int (2 : Int32)), (.ref b49)])) (fun _ k_ => XS.aload X51.here hx rfl (hb hby at_198) rfl rfl k_) ?_
    refine Go.st (S' := T51.setTop (mkF m 201 #[.val (.int p0), .val (.int p1), .val (.int z2), .val (.int (4 : Int32)), .val (.ref t), .val (.ref o), .val (.int z6), .val (.ref b49), .unset, .unset] [(.int (2 : Int32)), (.ref o), (.int (2 : Int32)), (.ref b49)])) (fun _ k_ => XS.iconst X51.here hx rfl (hb hby at_200) k_) ?_
    refine Go.st (S' := T51.setTop (mkF m 202 #[.val (.int p0), .val (.int p1), .val (.int z2), .val (.int (4 : Int32)), .val (.ref t), .val (.ref o), .val (.int z6), .val (.ref b49), .unset, .unset] [(.int y2), (.int (2 : Int32)), (.ref b49)])) (A_o.load X51 hx hZ e51 (j := (2 : Int32)) (v := y2) (by decide) rfl (g := (mkF m 201 #[.val (.int p0), .val (.int p1), .val (.int z2), .val (.int (4 : Int32)), .val (.ref t), .val (.ref o), .val (.int z6), .val (.ref b49), .unset, .unset] [(.int (2 : Int32)), (.ref o), (.int (2 : Int32)), (.ref b49)])) rfl rfl (hb hby at_201)) ?_
    obtain ⟨T52, h52, X52, e52, W52, A52, st52⟩ := A_b49.store X51 hx hZ e51 (j := (2 : Int32)) (by decide) (Nat.le_of_ble_eq_true rfl) (g := (mkF m 202 #[.val (.int p0), .val (.int p1), .val (.int z2), .val (.int (4 : Int32)), .val (.ref t), .val (.ref o), .val (.int z6), .val (.ref b49), .unset, .unset] [(.int y2), (.int (2 : Int32)), (.ref b49)])) rfl rfl (hb hby at_202)
    replace A_b49 : Ai Z h52 b49 .int [y0, y1, y2, (0 : Int32)] := A52
    replace A_o := A_o.other W52 ne_o_b49
    replace Z0 := Nat.le_trans Z0 (Keep.of_wr W52).1
    have N52 := Fr.snoc X52 N51 g_b49
    refine Go.st (S' := T52.setTop (mkF m 203 #[.val (.int p0), .val (.int p1), .val (.int z2), .val (.int (4 : Int32)), .val (.ref t), .val (.ref o), .val (.int z6), .val (.ref b49), .unset, .unset] [])) (st52) ?_
    refine Go.st (S' := T52.setTop (mkF m 204 #[.val (.int p0), .val (.int p1), .val (.int z2), .val (.int (4 : Int32)), .val (.ref t), .val (.ref o), .val (.int z6), .val (.ref b49), .unset, .unset] [(.int (4 : Int32))])) (fun _ k_ => XS.iloadN X52.here hx rfl (hb hby at_203) rfl k_) ?_
    refine Go.st (S' := T52.setTop (mkF m 205 #[.val (.int p0), .val (.int p1), .val (.int z2), .val (.int (4 : Int32)), .val (.ref t), .val (.ref o), .val (.int z6), .val (.ref b49), .unset, .unset] [(.int (3 : Int32)), (.int (4 : Int32))])) (fun _ k_ => XS.iconst X52.here hx rfl (hb hby at_204) k_) ?_
    refine Go.st (S' := T52.setTop (mkF m 208 #[.val (.int p0), .val (.int p1), .val (.int z2), .val (.int (4 : Int32)), .val (.ref t), .val (.ref o), .val (.int z6), .val (.ref b49), .unset, .unset] [])) (fun _ k_ => XS.icmpNo X52.here hx rfl (hb hby at_205) rfl (tlt (by decide)).2.2.2 k_) ?_
    refine Go.st (S' := T52.setTop (mkF m 210 #[.val (.int p0), .val (.int p1), .val (.int z2), .val (.int (4 : Int32)), .val (.ref t), .val (.ref o), .val (.int z6), .val (.ref b49), .unset, .unset] [(.ref b49)])) (fun _ k_ => XS.aload X52.here hx rfl (hb hby at_208) rfl rfl k_) ?_
    refine Go.st (S' := T52.setTop (mkF m 211 #[.val (.int p0), .val (.int p1), .val (.int z2), .val (.int (4 : Int32)), .val (.ref t), .val (.ref o), .val (.int z6), .val (.ref b49), .unset, .unset] [(.int (3 : Int32)), (.ref b49)])) (fun _ k_ => XS.iconst X52.here hx rfl (hb hby at_210) k_) ?_
    refine Go.st (S' := T52.setTop (mkF m 213 #[.val (.int p0), .val (.int p1), .val (.int z2), .val (.int (4 : Int32)), .val (.ref t), .val (.ref o), .val (.int z6), .val (.ref b49), .unset, .unset] [(.ref o), (.int (3 : Int32)), (.ref b49)])) (fun _ k_ => XS.aload X52.here hx rfl (hb hby at_211) rfl rfl k_) ?_
    refine Go.st (S' := T52.setTop (mkF m 214 #[.val (.int p0), .val (.int p1), .val (.int z2), .val (.int (4 : Int32)), .val (.ref t), .val (.ref o), .val (.int z6), .val (.ref b49), .unset, .unset] [(.int (3 : Int32)), (.ref o), (.int (3 : Int32)), (.ref b49)])) (fun _ k_ => XS.iconst X52.here hx rfl (hb hby at_213) k_) ?_
    refine Go.st (S' := T52.setTop (mkF m 215 #[.val (.int p0), .val (.int p1), .val (.int z2), .val (.int (4 : Int32)), .val (.ref t), .val (.ref o), .val (.int z6), .val (.ref b49), .unset, .unset] [(.int y3), (.int (3 : Int32)), (.ref b49)])) (A_o.load X52 hx hZ e52 (j := (3 : Int32)) (v := y3) (by decide) rfl (g := (mkF m 214 #[.val (.int p0), .val (.int p1), .val (.int z2), .val (.int (4 : Int32)), .val (.ref t), .val (.ref o), .val (.int z6), .val (.ref b49), .unset, .unset] [(.int (3 : Int32)), (.ref o), (.int (3 : Int32)), (.ref b49)])) rfl rfl (hb hby at_214)) ?_
    obtain ⟨T53, h53, X53, e53, W53, A53, st53⟩ := A_b49.store X52 hx hZ e52 (j := (3 : Int32)) (by decide) (Nat.le_of_ble_eq_true rfl) (g := (mkF m 215 #[.val (.int p0), .val (.int p1), .val (.int z2), .val (.int (4 : Int32)), .val (.ref t), .val (.ref o), .val (.int z6), .val (.ref b49), .unset, .unset] [(.int y3), (.int (3 : Int32)), (.ref b49)])) rfl rfl (hb hby at_215)
    replace A_b49 : Ai Z h53 b49 .int [y0, y1, y2, y3] := A53
    replace A_o := A_o.other W53 ne_o_b49
    replace Z0 := Nat.le_trans Z0 (Keep.of_wr W53).1
    have N53 := Fr.snoc X53 N52 g_b49
    refine Go.st (S' := T53.setTop (mkF m 216 #[.val (.int p0), .val (.int p1), .val (.int z2), .val (.int (4 : Int32)), .val (.ref t), .val (.ref o), .val (.int z6), .val (.ref b49), .unset, .unset] [])) (st53) ?_
    obtain ⟨T54, h54, X54, e54, E54, A54, D54, -, st54⟩ := newO X53 hx hZ hown (w6 hw) (w7 hw) (w8 hw) e53 (g := (mkF m 216 #[.val (.int p0), .val (.int p1), .val (.int z2), .val (.int (4 : Int32)), .val (.ref t), .val (.ref o), .val (.int z6), .val (.ref b49), .unset, .unset] [])) rfl (hb hby at_216) (by decide) (by decide)
    obtain ⟨b54, q54⟩ : ∃ z, z = h53.size := ⟨_, rfl⟩
    rw [← q54] at A54 D54 st54
    have ne_o_b54 : o ≠ b54 := Nat.ne_of_lt (Nat.lt_of_lt_of_le A_o.lt (Nat.le_of_eq q54.symm))
    have ne_b49_b54 : b49 ≠ b54 := Nat.ne_of_lt (Nat.lt_of_lt_of_le A_b49.lt (Nat.le_of_eq q54.symm))
    have g_b54 : n0 ≤ b54 := Nat.le_trans Z0 (Nat.le_of_eq q54.symm)
    replace A_o := A_o.ext E54
    replace A_b49 := A_b49.ext E54
    replace Z0 := Nat.le_trans Z0 E54.1
    have E_b54 := A54
    have F_label_b54 : Fld Z h54 b54 "io/isoproof/check/polygraph/NodeOrder" "label" "[J" .null := D54 (Or.inr (w17 hw)) (ty := (.array .long)) (by decide)
    have F_next_b54 : Fld Z h54 b54 "io/isoproof/check/polygraph/NodeOrder" "next" "[I" .null := D54 (Or.inr (w19 hw)) (ty := (.array .int)) (by decide)
    have F_previous_b54 : Fld Z h54 b54 "io/isoproof/check/polygraph/NodeOrder" "previous" "[I" .null := D54 (Or.inr (w21 hw)) (ty := (.array .int)) (by decide)
    have F_first_b54 : Fld Z h54 b54 "io/isoproof/check/polygraph/NodeOrder" "first" "I" (.int (0 : Int32)) := D54 (Or.inl (w23 hw)) (ty := .int) (by decide)
    refine Go.st (S' := T54.setTop (mkF m 219 #[.val (.int p0), .val (.int p1), .val (.int z2), .val (.int (4 : Int32)), .val (.ref t), .val (.ref o), .val (.int z6), .val (.ref b49), .unset, .unset] [(.ref b54)])) (st54) ?_
    refine Go.st (S' := T54.setTop (mkF m 220 #[.val (.int p0), .val (.int p1), .val (.int z2), .val (.int (4 : Int32)), .val (.ref t), .val (.ref o), .val (.int z6), .val (.ref b49), .unset, .unset] [(.ref b54), (.ref b54)])) (fun _ k_ => XS.dup X54.here hx rfl (hb hby at_219) rfl rfl k_) ?_
    refine Go.st (S' := T54.setTop (mkF m 222 #[.val (.int p0), .val (.int p1), .val (.int z2), .val (.int (4 : Int32)), .val (.ref t), .val (.ref o), .val (.int z6), .val (.ref b49), .unset, .unset] [(.ref b49), (.ref b54), (.ref b54)])) (fun _ k_ => XS.aload X54.here hx rfl (hb hby at_220) rfl rfl k_) ?_
    obtain ⟨v55, T55, h55, L55, X55, e55, hQ55, st55⟩ := callIn X54 hx hZ rfl hown (w9 hw) (w10 hw) (w8 hw) (w11 hw) (by decide) (W := 1) (argsL := [(.ref b49)]) (rest := [(.ref b54)]) e54 (no_init l Z a0 hw b54 b49 [y0, y1, y2, y3] h54 n0 Z0 E_b54 F_label_b54 F_next_b54 F_previous_b54 F_first_b54 A_b49 (Ne.symm ne_b49_b54) g_b54 okk) (by decide) (by decide) pd2 rfl (g := (mkF m 222 #[.val (.int p0), .val (.int p1), .val (.int z2), .val (.int (4 : Int32)), .val (.ref t), .val (.ref o), .val (.int z6), .val (.ref b49), .unset, .unset] [(.ref b49), (.ref b54), (.ref b54)])) rfl (by rw [hml]; rfl) rfl (by show 2 * 0 + _ ≤ _; exact Nat.le_of_eq rfl) (hb hby at_222) (by decide) (by decide)
    obtain ⟨rfl, Nq55, Kq55, lb55, nx55, ls55, ns55, hl55, hn55, hln55, NO_b54⟩ := hQ55
    have N55 := Fr.app N53 Nq55
    have ne_o_lb55 : o ≠ lb55 := Nat.ne_of_lt (Nat.lt_of_lt_of_le A_o.lt hl55)
    have ne_b49_lb55 : b49 ≠ lb55 := Nat.ne_of_lt (Nat.lt_of_lt_of_le A_b49.lt hl55)
    have ne_b54_lb55 : b54 ≠ lb55 := Nat.ne_of_lt (Nat.lt_of_lt_of_le E_b54.lt hl55)
    have g_lb55 : n0 ≤ lb55 := Nat.le_trans Z0 hl55
    have ne_o_nx55 : o ≠ nx55 := Nat.ne_of_lt (Nat.lt_of_lt_of_le A_o.lt hn55)
    have ne_b49_nx55 : b49 ≠ nx55 := Nat.ne_of_lt (Nat.lt_of_lt_of_le A_b49.lt hn55)
    have ne_b54_nx55 : b54 ≠ nx55 := Nat.ne_of_lt (Nat.lt_of_lt_of_le E_b54.lt hn55)
    have g_nx55 : n0 ≤ nx55 := Nat.le_trans Z0 hn55
    replace A_o := A_o.keep Kq55 (ninS ne_o_b54 nin0)
    replace A_b49 := A_b49.keep Kq55 (ninS ne_b49_b54 nin0)
    replace Z0 := Nat.le_trans Z0 Kq55.1
    refine Go.st (S' := T55.setTop (mkF m 225 #[.val (.int p0), .val (.int p1), .val (.int z2), .val (.int (4 : Int32)), .val (.ref t), .val (.ref o), .val (.int z6), .val (.ref b49), .unset, .unset] [(.ref b54)])) (st55) ?_
    refine Go.st (S' := T55.setTop (mkF m 227 #[.val (.int p0), .val (.int p1), .val (.int z2), .val (.int (4 : Int32)), .val (.ref t), .val (.ref o), .val (.int z6), .val (.ref b49), .val (.ref b54), .unset] [])) (fun _ k_ => XS.astore X55.here hx rfl (hb hby at_225) rfl rfl (l' := #[.val (.int p0), .val (.int p1), .val (.int z2), .val (.int (4 : Int32)), .val (.ref t), .val (.ref o), .val (.int z6), .val (.ref b49), .val (.ref b54), .unset]) rfl k_) ?_
    refine Go.st (S' := T55.setTop (mkF m 229 #[.val (.int p0), .val (.int p1), .val (.int z2), .val (.int (4 : Int32)), .val (.ref t), .val (.ref o), .val (.int z6), .val (.ref b49), .val (.ref b54), .unset] [(.ref b54)])) (fun _ k_ => XS.aload X55.here hx rfl (hb hby at_227) rfl rfl k_) ?_
    obtain ⟨v56, T56, h56, L56, X56, e56, hQ56, st56⟩ := callVi X55 hx hZ hown (w33 hw) (w34 hw) (w36 hw) (w35 hw) (w8 hw) (w37 hw) (by decide) (W := 0) (argsL := []) (rest := []) e55 NO_b54.1 (no_positions l Z a0 hw b54 lb55 nx55 [y0, y1, y2, y3] ns55 ls55 h55 n0 Z0 NO_b54 okk ne_b54_lb55 ne_b54_nx55 hln55 g_b54 g_lb55) (by decide) (by decide) pd3 rfl (g := (mkF m 229 #[.val (.int p0), .val (.int p1), .val (.int z2), .val (.int (4 : Int32)), .val (.ref t), .val (.ref o), .val (.int z6), .val (.ref b49), .val (.ref b54), .unset] [(.ref b54)])) rfl (by rw [hml]; rfl) rfl (by show 2 * 0 + _ ≤ _; exact Nat.le_of_eq rfl) (hb hby at_229) (by decide) (by decide)
    obtain ⟨Nq56, Kq56, r56, rfl, hr56, ps56, A_r56, hp56⟩ := hQ56
    have N56 := Fr.app N55 Nq56
    have ne_o_r56 : o ≠ r56 := Nat.ne_of_lt (Nat.lt_of_lt_of_le A_o.lt hr56)
    have ne_b49_r56 : b49 ≠ r56 := Nat.ne_of_lt (Nat.lt_of_lt_of_le A_b49.lt hr56)
    have ne_b54_r56 : b54 ≠ r56 := Nat.ne_of_lt (Nat.lt_of_lt_of_le NO_b54.1.lt hr56)
    have ne_lb55_r56 : lb55 ≠ r56 := Nat.ne_of_lt (Nat.lt_of_lt_of_le NO_b54.2.2.2.2.1.lt hr56)
    have ne_nx55_r56 : nx55 ≠ r56 := Nat.ne_of_lt (Nat.lt_of_lt_of_le NO_b54.2.2.2.2.2.1.lt hr56)
    have g_r56 : n0 ≤ r56 := Nat.le_trans Z0 hr56
    replace A_o := A_o.keep Kq56 nin0
    replace A_b49 := A_b49.keep Kq56 nin0
    replace Z0 := Nat.le_trans Z0 Kq56.1
    refine Go.st (S' := T56.setTop (mkF m 232 #[.val (.int p0), .val (.int p1), .val (.int z2), .val (.int (4 : Int32)), .val (.ref t), .val (.ref o), .val (.int z6), .val (.ref b49), .val (.ref b54), .unset] [(.ref r56)])) (st56) ?_
    refine Go.st (S' := T56.setTop (mkF m 234 #[.val (.int p0), .val (.int p1), .val (.int z2), .val (.int (4 : Int32)), .val (.ref t), .val (.ref o), .val (.int z6), .val (.ref b49), .val (.ref b54), .val (.ref r56)] [])) (fun _ k_ => XS.astore X56.here hx rfl (hb hby at_232) rfl rfl (l' := #[.val (.int p0), .val (.int p1), .val (.int z2), .val (.int (4 : Int32)), .val (.ref t), .val (.ref o), .val (.int z6), .val (.ref b49), .val (.ref b54), .val (.ref r56)]) rfl k_) ?_
    refine Go.st (S' := T56.setTop (mkF m 236 #[.val (.int p0), .val (.int p1), .val (.int z2), .val (.int (4 : Int32)), .val (.ref t), .val (.ref o), .val (.int z6), .val (.ref b49), .val (.ref b54), .val (.ref r56)] [(.ref r56)])) (fun _ k_ => XS.aload X56.here hx rfl (hb hby at_234) rfl rfl k_) ?_
    refine Go.st (S' := T56.setTop (mkF m 237 #[.val (.int p0), .val (.int p1), .val (.int z2), .val (.int (4 : Int32)), .val (.ref t), .val (.ref o), .val (.int z6), .val (.ref b49), .val (.ref b54), .val (.ref r56)] [(.int (4 : Int32))])) (A_r56.length X56 hx hZ e56 (n := (4 : Int32)) (by rw [hp56.1]; rfl) (g := (mkF m 236 #[.val (.int p0), .val (.int p1), .val (.int z2), .val (.int (4 : Int32)), .val (.ref t), .val (.ref o), .val (.int z6), .val (.ref b49), .val (.ref b54), .val (.ref r56)] [(.ref r56)])) rfl rfl (hb hby at_236)) ?_
    refine Go.st (S' := T56.setTop (mkF m 238 #[.val (.int p0), .val (.int p1), .val (.int z2), .val (.int (4 : Int32)), .val (.ref t), .val (.ref o), .val (.int z6), .val (.ref b49), .val (.ref b54), .val (.ref r56)] [(.int (4 : Int32)), (.int (4 : Int32))])) (fun _ k_ => XS.iloadN X56.here hx rfl (hb hby at_237) rfl k_) ?_
    refine Go.st (S' := T56.setTop (mkF m 243 #[.val (.int p0), .val (.int p1), .val (.int z2), .val (.int (4 : Int32)), .val (.ref t), .val (.ref o), .val (.int z6), .val (.ref b49), .val (.ref b54), .val (.ref r56)] [])) (fun _ k_ => XS.icmpYes X56.here hx rfl (pc0 := 238) (pc' := 243) rfl (hb hby at_238) rfl (teq (by decide)).1 (by decide) (by decide) k_) ?_
    refine Go.st (S' := T56.setTop (mkF m 245 #[.val (.int p0), .val (.int p1), .val (.int z2), .val (.int (4 : Int32)), .val (.ref t), .val (.ref o), .val (.int z6), .val (.ref b49), .val (.ref b54), .val (.ref r56)] [(.ref r56)])) (fun _ k_ => XS.aload X56.here hx rfl (hb hby at_243) rfl rfl k_) ?_
    refine Go.st (S' := T56.setTop (mkF m 247 #[.val (.int p0), .val (.int p1), .val (.int z2), .val (.int (4 : Int32)), .val (.ref t), .val (.ref o), .val (.int z6), .val (.ref b49), .val (.ref b54), .val (.ref r56)] [(.ref b49), (.ref r56)])) (fun _ k_ => XS.aload X56.here hx rfl (hb hby at_245) rfl rfl k_) ?_
    refine Go.st (S' := T56.setTop (mkF m 248 #[.val (.int p0), .val (.int p1), .val (.int z2), .val (.int (4 : Int32)), .val (.ref t), .val (.ref o), .val (.int z6), .val (.ref b49), .val (.ref b54), .val (.ref r56)] [(.int (0 : Int32)), (.ref b49), (.ref r56)])) (fun _ k_ => XS.iconst X56.here hx rfl (hb hby at_247) k_) ?_
    refine Go.st (S' := T56.setTop (mkF m 249 #[.val (.int p0), .val (.int p1), .val (.int z2), .val (.int (4 : Int32)), .val (.ref t), .val (.ref o), .val (.int z6), .val (.ref b49), .val (.ref b54), .val (.ref r56)] [(.int (4 : Int32)), (.int (0 : Int32)), (.ref b49), (.ref r56)])) (fun _ k_ => XS.iloadN X56.here hx rfl (hb hby at_248) rfl k_) ?_
    obtain ⟨v57, T57, h57, L57, X57, e57, hQ57, st57⟩ := callSt X56 hx hZ hown (w38 hw) (w39 hw) (w4 hw) (w40 hw) (by decide) (W := 0) (argsL := [(.ref r56), (.ref b49), (.int (0 : Int32)), (.int (4 : Int32))]) (rest := []) e56 (rm_at l Z a0 hw r56 b49 (0 : Int32) (4 : Int32) ps56 [y0, y1, y2, y3] h56 n0 Z0 A_r56 A_b49 (fun _ => ⟨by decide, y0, rfl, (okk.2.1 0 _ rfl).1, hp56.2 0 (by simp) _ rfl⟩)) (by decide) (by decide) pd4 rfl (g := (mkF m 249 #[.val (.int p0), .val (.int p1), .val (.int z2), .val (.int (4 : Int32)), .val (.ref t), .val (.ref o), .val (.int z6), .val (.ref b49), .val (.ref b54), .val (.ref r56)] [(.int (4 : Int32)), (.int (0 : Int32)), (.ref b49), (.ref r56)])) rfl (by rw [hml]; rfl) rfl (by show 2 * 0 + _ ≤ _; exact Nat.le_of_eq rfl) (hb hby at_249) (by decide) (by decide)
    obtain ⟨rfl, Nq57, hh57⟩ := hQ57
    rw [hh57] at e57
    have N57 := Fr.app N56 Nq57
    refine Go.st (S' := T57.setTop (mkF m 252 #[.val (.int p0), .val (.int p1), .val (.int z2), .val (.int (4 : Int32)), .val (.ref t), .val (.ref o), .val (.int z6), .val (.ref b49), .val (.ref b54), .val (.ref r56)] [(.int (1 : Int32))])) (st57) ?_
    refine Go.st (S' := T57.setTop (mkF m 255 #[.val (.int p0), .val (.int p1), .val (.int z2), .val (.int (4 : Int32)), .val (.ref t), .val (.ref o), .val (.int z6), .val (.ref b49), .val (.ref b54), .val (.ref r56)] [])) (fun _ k_ => XS.ifNo X57.here hx rfl (hb hby at_252) rfl ((if0 _ _).trans (feq (by decide)).1) k_) ?_
    refine Go.st (S' := T57.setTop (mkF m 257 #[.val (.int p0), .val (.int p1), .val (.int z2), .val (.int (4 : Int32)), .val (.ref t), .val (.ref o), .val (.int z6), .val (.ref b49), .val (.ref b54), .val (.ref r56)] [(.ref r56)])) (fun _ k_ => XS.aload X57.here hx rfl (hb hby at_255) rfl rfl k_) ?_
    refine Go.st (S' := T57.setTop (mkF m 259 #[.val (.int p0), .val (.int p1), .val (.int z2), .val (.int (4 : Int32)), .val (.ref t), .val (.ref o), .val (.int z6), .val (.ref b49), .val (.ref b54), .val (.ref r56)] [(.ref b49), (.ref r56)])) (fun _ k_ => XS.aload X57.here hx rfl (hb hby at_257) rfl rfl k_) ?_
    refine Go.st (S' := T57.setTop (mkF m 260 #[.val (.int p0), .val (.int p1), .val (.int z2), .val (.int (4 : Int32)), .val (.ref t), .val (.ref o), .val (.int z6), .val (.ref b49), .val (.ref b54), .val (.ref r56)] [(.int (1 : Int32)), (.ref b49), (.ref r56)])) (fun _ k_ => XS.iconst X57.here hx rfl (hb hby at_259) k_) ?_
    refine Go.st (S' := T57.setTop (mkF m 261 #[.val (.int p0), .val (.int p1), .val (.int z2), .val (.int (4 : Int32)), .val (.ref t), .val (.ref o), .val (.int z6), .val (.ref b49), .val (.ref b54), .val (.ref r56)] [(.int (4 : Int32)), (.int (1 : Int32)), (.ref b49), (.ref r56)])) (fun _ k_ => XS.iloadN X57.here hx rfl (hb hby at_260) rfl k_) ?_
    obtain ⟨v58, T58, h58, L58, X58, e58, hQ58, st58⟩ := callSt X57 hx hZ hown (w38 hw) (w39 hw) (w4 hw) (w40 hw) (by decide) (W := 0) (argsL := [(.ref r56), (.ref b49), (.int (1 : Int32)), (.int (4 : Int32))]) (rest := []) e57 (rm_at l Z a0 hw r56 b49 (1 : Int32) (4 : Int32) ps56 [y0, y1, y2, y3] h56 n0 Z0 A_r56 A_b49 (fun _ => ⟨by decide, y1, rfl, (okk.2.1 1 _ rfl).1, hp56.2 1 (by simp) _ rfl⟩)) (by decide) (by decide) pd4 rfl (g := (mkF m 261 #[.val (.int p0), .val (.int p1), .val (.int z2), .val (.int (4 : Int32)), .val (.ref t), .val (.ref o), .val (.int z6), .val (.ref b49), .val (.ref b54), .val (.ref r56)] [(.int (4 : Int32)), (.int (1 : Int32)), (.ref b49), (.ref r56)])) rfl (by rw [hml]; rfl) rfl (by show 2 * 0 + _ ≤ _; exact Nat.le_of_eq rfl) (hb hby at_261) (by decide) (by decide)
    obtain ⟨rfl, Nq58, hh58⟩ := hQ58
    rw [hh58] at e58
    have N58 := Fr.app N57 Nq58
    refine Go.st (S' := T58.setTop (mkF m 264 #[.val (.int p0), .val (.int p1), .val (.int z2), .val (.int (4 : Int32)), .val (.ref t), .val (.ref o), .val (.int z6), .val (.ref b49), .val (.ref b54), .val (.ref r56)] [(.int (1 : Int32))])) (st58) ?_
    refine Go.st (S' := T58.setTop (mkF m 267 #[.val (.int p0), .val (.int p1), .val (.int z2), .val (.int (4 : Int32)), .val (.ref t), .val (.ref o), .val (.int z6), .val (.ref b49), .val (.ref b54), .val (.ref r56)] [])) (fun _ k_ => XS.ifNo X58.here hx rfl (hb hby at_264) rfl ((if0 _ _).trans (feq (by decide)).1) k_) ?_
    refine Go.st (S' := T58.setTop (mkF m 269 #[.val (.int p0), .val (.int p1), .val (.int z2), .val (.int (4 : Int32)), .val (.ref t), .val (.ref o), .val (.int z6), .val (.ref b49), .val (.ref b54), .val (.ref r56)] [(.ref r56)])) (fun _ k_ => XS.aload X58.here hx rfl (hb hby at_267) rfl rfl k_) ?_
    refine Go.st (S' := T58.setTop (mkF m 271 #[.val (.int p0), .val (.int p1), .val (.int z2), .val (.int (4 : Int32)), .val (.ref t), .val (.ref o), .val (.int z6), .val (.ref b49), .val (.ref b54), .val (.ref r56)] [(.ref b49), (.ref r56)])) (fun _ k_ => XS.aload X58.here hx rfl (hb hby at_269) rfl rfl k_) ?_
    refine Go.st (S' := T58.setTop (mkF m 272 #[.val (.int p0), .val (.int p1), .val (.int z2), .val (.int (4 : Int32)), .val (.ref t), .val (.ref o), .val (.int z6), .val (.ref b49), .val (.ref b54), .val (.ref r56)] [(.int (2 : Int32)), (.ref b49), (.ref r56)])) (fun _ k_ => XS.iconst X58.here hx rfl (hb hby at_271) k_) ?_
    refine Go.st (S' := T58.setTop (mkF m 273 #[.val (.int p0), .val (.int p1), .val (.int z2), .val (.int (4 : Int32)), .val (.ref t), .val (.ref o), .val (.int z6), .val (.ref b49), .val (.ref b54), .val (.ref r56)] [(.int (4 : Int32)), (.int (2 : Int32)), (.ref b49), (.ref r56)])) (fun _ k_ => XS.iloadN X58.here hx rfl (hb hby at_272) rfl k_) ?_
    obtain ⟨v59, T59, h59, L59, X59, e59, hQ59, st59⟩ := callSt X58 hx hZ hown (w38 hw) (w39 hw) (w4 hw) (w40 hw) (by decide) (W := 0) (argsL := [(.ref r56), (.ref b49), (.int (2 : Int32)), (.int (4 : Int32))]) (rest := []) e58 (rm_at l Z a0 hw r56 b49 (2 : Int32) (4 : Int32) ps56 [y0, y1, y2, y3] h56 n0 Z0 A_r56 A_b49 (fun _ => ⟨by decide, y2, rfl, (okk.2.1 2 _ rfl).1, hp56.2 2 (by simp) _ rfl⟩)) (by decide) (by decide) pd4 rfl (g := (mkF m 273 #[.val (.int p0), .val (.int p1), .val (.int z2), .val (.int (4 : Int32)), .val (.ref t), .val (.ref o), .val (.int z6), .val (.ref b49), .val (.ref b54), .val (.ref r56)] [(.int (4 : Int32)), (.int (2 : Int32)), (.ref b49), (.ref r56)])) rfl (by rw [hml]; rfl) rfl (by show 2 * 0 + _ ≤ _; exact Nat.le_of_eq rfl) (hb hby at_273) (by decide) (by decide)
    obtain ⟨rfl, Nq59, hh59⟩ := hQ59
    rw [hh59] at e59
    have N59 := Fr.app N58 Nq59
    refine Go.st (S' := T59.setTop (mkF m 276 #[.val (.int p0), .val (.int p1), .val (.int z2), .val (.int (4 : Int32)), .val (.ref t), .val (.ref o), .val (.int z6), .val (.ref b49), .val (.ref b54), .val (.ref r56)] [(.int (1 : Int32))])) (st59) ?_
    refine Go.st (S' := T59.setTop (mkF m 279 #[.val (.int p0), .val (.int p1), .val (.int z2), .val (.int (4 : Int32)), .val (.ref t), .val (.ref o), .val (.int z6), .val (.ref b49), .val (.ref b54), .val (.ref r56)] [])) (fun _ k_ => XS.ifNo X59.here hx rfl (hb hby at_276) rfl ((if0 _ _).trans (feq (by decide)).1) k_) ?_
    refine Go.st (S' := T59.setTop (mkF m 281 #[.val (.int p0), .val (.int p1), .val (.int z2), .val (.int (4 : Int32)), .val (.ref t), .val (.ref o), .val (.int z6), .val (.ref b49), .val (.ref b54), .val (.ref r56)] [(.ref r56)])) (fun _ k_ => XS.aload X59.here hx rfl (hb hby at_279) rfl rfl k_) ?_
    refine Go.st (S' := T59.setTop (mkF m 283 #[.val (.int p0), .val (.int p1), .val (.int z2), .val (.int (4 : Int32)), .val (.ref t), .val (.ref o), .val (.int z6), .val (.ref b49), .val (.ref b54), .val (.ref r56)] [(.ref b49), (.ref r56)])) (fun _ k_ => XS.aload X59.here hx rfl (hb hby at_281) rfl rfl k_) ?_
    refine Go.st (S' := T59.setTop (mkF m 284 #[.val (.int p0), .val (.int p1), .val (.int z2), .val (.int (4 : Int32)), .val (.ref t), .val (.ref o), .val (.int z6), .val (.ref b49), .val (.ref b54), .val (.ref r56)] [(.int (3 : Int32)), (.ref b49), (.ref r56)])) (fun _ k_ => XS.iconst X59.here hx rfl (hb hby at_283) k_) ?_
    refine Go.st (S' := T59.setTop (mkF m 285 #[.val (.int p0), .val (.int p1), .val (.int z2), .val (.int (4 : Int32)), .val (.ref t), .val (.ref o), .val (.int z6), .val (.ref b49), .val (.ref b54), .val (.ref r56)] [(.int (4 : Int32)), (.int (3 : Int32)), (.ref b49), (.ref r56)])) (fun _ k_ => XS.iloadN X59.here hx rfl (hb hby at_284) rfl k_) ?_
    obtain ⟨v60, T60, h60, L60, X60, e60, hQ60, st60⟩ := callSt X59 hx hZ hown (w38 hw) (w39 hw) (w4 hw) (w40 hw) (by decide) (W := 0) (argsL := [(.ref r56), (.ref b49), (.int (3 : Int32)), (.int (4 : Int32))]) (rest := []) e59 (rm_at l Z a0 hw r56 b49 (3 : Int32) (4 : Int32) ps56 [y0, y1, y2, y3] h56 n0 Z0 A_r56 A_b49 (fun _ => ⟨by decide, y3, rfl, (okk.2.1 3 _ rfl).1, hp56.2 3 (by simp) _ rfl⟩)) (by decide) (by decide) pd4 rfl (g := (mkF m 285 #[.val (.int p0), .val (.int p1), .val (.int z2), .val (.int (4 : Int32)), .val (.ref t), .val (.ref o), .val (.int z6), .val (.ref b49), .val (.ref b54), .val (.ref r56)] [(.int (4 : Int32)), (.int (3 : Int32)), (.ref b49), (.ref r56)])) rfl (by rw [hml]; rfl) rfl (by show 2 * 0 + _ ≤ _; exact Nat.le_of_eq rfl) (hb hby at_285) (by decide) (by decide)
    obtain ⟨rfl, Nq60, hh60⟩ := hQ60
    rw [hh60] at e60
    have N60 := Fr.app N59 Nq60
    refine Go.st (S' := T60.setTop (mkF m 288 #[.val (.int p0), .val (.int p1), .val (.int z2), .val (.int (4 : Int32)), .val (.ref t), .val (.ref o), .val (.int z6), .val (.ref b49), .val (.ref b54), .val (.ref r56)] [(.int (1 : Int32))])) (st60) ?_
    refine Go.st (S' := T60.setTop (mkF m 291 #[.val (.int p0), .val (.int p1), .val (.int z2), .val (.int (4 : Int32)), .val (.ref t), .val (.ref o), .val (.int z6), .val (.ref b49), .val (.ref b54), .val (.ref r56)] [])) (fun _ k_ => XS.ifNo X60.here hx rfl (hb hby at_288) rfl ((if0 _ _).trans (feq (by decide)).1) k_) ?_
    refine Go.st (S' := T60.setTop (mkF m 292 #[.val (.int p0), .val (.int p1), .val (.int z2), .val (.int (4 : Int32)), .val (.ref t), .val (.ref o), .val (.int z6), .val (.ref b49), .val (.ref b54), .val (.ref r56)] [(.int (1 : Int32))])) (fun _ k_ => XS.iconst X60.here hx rfl (hb hby at_291) k_) ?_
    refine Go.st (S' := T60.setTop (mkF m 296 #[.val (.int p0), .val (.int p1), .val (.int z2), .val (.int (4 : Int32)), .val (.ref t), .val (.ref o), .val (.int z6), .val (.ref b49), .val (.ref b54), .val (.ref r56)] [(.int (1 : Int32))])) (fun _ k_ => XS.goto X60.here hx rfl (pc0 := 292) (pc' := 296) rfl (hb hby at_292) (by decide) (by decide) k_) ?_
    exact Go.retN X60 hx (t := .boolean) hret (by simp) hlk (hb hby at_296) (by decide) (by decide) ⟨rfl, N60⟩
  refine Go.cast (ef_rm0 m p0 p1) ?_
  refine Go.st (S' := T0.setTop (mkF m 1 #[.val (.int p0), .val (.int p1), .unset, .unset, .unset, .unset, .unset, .unset, .unset, .unset] [(.int p0)])) (fun _ k_ => XS.iloadN X0.here hx rfl (hb hby at_0) rfl k_) ?_
  refine Go.st (S' := T0.setTop (mkF m 3 #[.val (.int p0), .val (.int p1), .unset, .unset, .unset, .unset, .unset, .unset, .unset, .unset] [(.int (2147483647 : Int32)), (.int p0)])) (X0.ldcInt hx hown (mvT hZ (w0 hw)) (g := (mkF m 1 #[.val (.int p0), .val (.int p1), .unset, .unset, .unset, .unset, .unset, .unset, .unset, .unset] [(.int p0)])) rfl (hb hby at_1)) ?_
  refine Go.st (S' := T0.setTop (mkF m 4 #[.val (.int p0), .val (.int p1), .unset, .unset, .unset, .unset, .unset, .unset, .unset, .unset] [(.int (p0 &&& (2147483647 : Int32)))])) (fun _ k_ => XS.iand X0.here hx rfl (hb hby at_3) rfl k_) ?_
  refine Go.st (S' := T0.setTop (mkF m 6 #[.val (.int p0), .val (.int p1), .unset, .unset, .unset, .unset, .unset, .unset, .unset, .unset] [(.int (24 : Int32)), (.int (p0 &&& (2147483647 : Int32)))])) (fun _ k_ => XS.bipush X0.here hx rfl (hb hby at_4) k_) ?_
  refine Go.st (S' := T0.setTop (mkF m 7 #[.val (.int p0), .val (.int p1), .unset, .unset, .unset, .unset, .unset, .unset, .unset, .unset] [(.int ((p0 &&& (2147483647 : Int32)) % (24 : Int32)))])) (fun _ k_ => iremM X0 hx rfl (hb hby at_6) rfl (by decide) k_) ?_
  have r_K := own_mod p0 24 (by decide)
  rw [show (24 : Int32).toInt = 24 from rfl] at r_K
  obtain ⟨K, q_K, rn_K⟩ := own_natI r_K.1
  rw [q_K]
  refine Go.st (S' := T0.setTop (mkF m 8 #[.val (.int p0), .val (.int p1), .val (.int K.toInt32), .unset, .unset, .unset, .unset, .unset, .unset, .unset] [])) (fun _ k_ => XS.istoreN X0.here hx rfl (hb hby at_7) rfl (l' := #[.val (.int p0), .val (.int p1), .val (.int K.toInt32), .unset, .unset, .unset, .unset, .unset, .unset, .unset]) rfl k_) ?_
  refine Go.st (S' := T0.setTop (mkF m 9 #[.val (.int p0), .val (.int p1), .val (.int K.toInt32), .unset, .unset, .unset, .unset, .unset, .unset, .unset] [(.int p1)])) (fun _ k_ => XS.iloadN X0.here hx rfl (hb hby at_8) rfl k_) ?_
  refine Go.st (S' := T0.setTop (mkF m 11 #[.val (.int p0), .val (.int p1), .val (.int K.toInt32), .unset, .unset, .unset, .unset, .unset, .unset, .unset] [(.int (2147483647 : Int32)), (.int p1)])) (X0.ldcInt hx hown (mvT hZ (w0 hw)) (g := (mkF m 9 #[.val (.int p0), .val (.int p1), .val (.int K.toInt32), .unset, .unset, .unset, .unset, .unset, .unset, .unset] [(.int p1)])) rfl (hb hby at_9)) ?_
  refine Go.st (S' := T0.setTop (mkF m 12 #[.val (.int p0), .val (.int p1), .val (.int K.toInt32), .unset, .unset, .unset, .unset, .unset, .unset, .unset] [(.int (p1 &&& (2147483647 : Int32)))])) (fun _ k_ => XS.iand X0.here hx rfl (hb hby at_11) rfl k_) ?_
  refine Go.st (S' := T0.setTop (mkF m 13 #[.val (.int p0), .val (.int p1), .val (.int K.toInt32), .unset, .unset, .unset, .unset, .unset, .unset, .unset] [(.int (5 : Int32)), (.int (p1 &&& (2147483647 : Int32)))])) (fun _ k_ => XS.iconst X0.here hx rfl (hb hby at_12) k_) ?_
  refine Go.st (S' := T0.setTop (mkF m 14 #[.val (.int p0), .val (.int p1), .val (.int K.toInt32), .unset, .unset, .unset, .unset, .unset, .unset, .unset] [(.int ((p1 &&& (2147483647 : Int32)) % (5 : Int32)))])) (fun _ k_ => iremM X0 hx rfl (hb hby at_13) rfl (by decide) k_) ?_
  have hn5 := own_n5 p1
  obtain ⟨nn, q_nn⟩ : ∃ z : Int32, z = ((p1 &&& (2147483647 : Int32)) % (5 : Int32)) := ⟨_, rfl⟩
  rw [← q_nn]
  rw [← q_nn] at hn5
  refine Go.st (S' := T0.setTop (mkF m 15 #[.val (.int p0), .val (.int p1), .val (.int K.toInt32), .val (.int nn), .unset, .unset, .unset, .unset, .unset, .unset] [])) (fun _ k_ => XS.istoreN X0.here hx rfl (hb hby at_14) rfl (l' := #[.val (.int p0), .val (.int p1), .val (.int K.toInt32), .val (.int nn), .unset, .unset, .unset, .unset, .unset, .unset]) rfl k_) ?_
  refine Go.st (S' := T0.setTop (mkF m 16 #[.val (.int p0), .val (.int p1), .val (.int K.toInt32), .val (.int nn), .unset, .unset, .unset, .unset, .unset, .unset] [(.int (4 : Int32))])) (fun _ k_ => XS.iconst X0.here hx rfl (hb hby at_15) k_) ?_
  obtain ⟨T61, h61, b61, X61, e61, q61, E61, A61, st61⟩ := Ai.new X0 hx hZ (aty := .int) (w1 hw) rfl e0 (n := (4 : Int32)) (by decide) 4 (by decide) (by decide) (by decide) (by decide) (g := (mkF m 16 #[.val (.int p0), .val (.int p1), .val (.int K.toInt32), .val (.int nn), .unset, .unset, .unset, .unset, .unset, .unset] [(.int (4 : Int32))])) rfl rfl (hb hby at_16)
  have g_b61 : n0 ≤ b61 := Nat.le_trans Z0 (Nat.le_of_eq q61.symm)
  replace Z0 := Nat.le_trans Z0 E61.1
  have A_b61 : Ai Z h61 b61 .int [(0 : Int32), (0 : Int32), (0 : Int32), (0 : Int32)] := A61
  refine Go.st (S' := T61.setTop (mkF m 18 #[.val (.int p0), .val (.int p1), .val (.int K.toInt32), .val (.int nn), .unset, .unset, .unset, .unset, .unset, .unset] [(.ref b61)])) (st61) ?_
  refine Go.st (S' := T61.setTop (mkF m 19 #[.val (.int p0), .val (.int p1), .val (.int K.toInt32), .val (.int nn), .unset, .unset, .unset, .unset, .unset, .unset] [(.ref b61), (.ref b61)])) (fun _ k_ => XS.dup X61.here hx rfl (hb hby at_18) rfl rfl k_) ?_
  refine Go.st (S' := T61.setTop (mkF m 20 #[.val (.int p0), .val (.int p1), .val (.int K.toInt32), .val (.int nn), .unset, .unset, .unset, .unset, .unset, .unset] [(.int (0 : Int32)), (.ref b61), (.ref b61)])) (fun _ k_ => XS.iconst X61.here hx rfl (hb hby at_19) k_) ?_
  refine Go.st (S' := T61.setTop (mkF m 21 #[.val (.int p0), .val (.int p1), .val (.int K.toInt32), .val (.int nn), .unset, .unset, .unset, .unset, .unset, .unset] [(.int (0 : Int32)), (.int (0 : Int32)), (.ref b61), (.ref b61)])) (fun _ k_ => XS.iconst X61.here hx rfl (hb hby at_20) k_) ?_
  obtain ⟨T62, h62, X62, e62, W62, A62, st62⟩ := A_b61.store X61 hx hZ e61 (j := (0 : Int32)) (by decide) (Nat.le_of_ble_eq_true rfl) (g := (mkF m 21 #[.val (.int p0), .val (.int p1), .val (.int K.toInt32), .val (.int nn), .unset, .unset, .unset, .unset, .unset, .unset] [(.int (0 : Int32)), (.int (0 : Int32)), (.ref b61), (.ref b61)])) rfl rfl (hb hby at_21)
  replace A_b61 : Ai Z h62 b61 .int [(0 : Int32), (0 : Int32), (0 : Int32), (0 : Int32)] := A62
  replace Z0 := Nat.le_trans Z0 (Keep.of_wr W62).1
  have N62 := Fr.snoc X62 N0 g_b61
  refine Go.st (S' := T62.setTop (mkF m 22 #[.val (.int p0), .val (.int p1), .val (.int K.toInt32), .val (.int nn), .unset, .unset, .unset, .unset, .unset, .unset] [(.ref b61)])) (st62) ?_
  refine Go.st (S' := T62.setTop (mkF m 23 #[.val (.int p0), .val (.int p1), .val (.int K.toInt32), .val (.int nn), .unset, .unset, .unset, .unset, .unset, .unset] [(.ref b61), (.ref b61)])) (fun _ k_ => XS.dup X62.here hx rfl (hb hby at_22) rfl rfl k_) ?_
  refine Go.st (S' := T62.setTop (mkF m 24 #[.val (.int p0), .val (.int p1), .val (.int K.toInt32), .val (.int nn), .unset, .unset, .unset, .unset, .unset, .unset] [(.int (1 : Int32)), (.ref b61), (.ref b61)])) (fun _ k_ => XS.iconst X62.here hx rfl (hb hby at_23) k_) ?_
  refine Go.st (S' := T62.setTop (mkF m 25 #[.val (.int p0), .val (.int p1), .val (.int K.toInt32), .val (.int nn), .unset, .unset, .unset, .unset, .unset, .unset] [(.int (1 : Int32)), (.int (1 : Int32)), (.ref b61), (.ref b61)])) (fun _ k_ => XS.iconst X62.here hx rfl (hb hby at_24) k_) ?_
  obtain ⟨T63, h63, X63, e63, W63, A63, st63⟩ := A_b61.store X62 hx hZ e62 (j := (1 : Int32)) (by decide) (Nat.le_of_ble_eq_true rfl) (g := (mkF m 25 #[.val (.int p0), .val (.int p1), .val (.int K.toInt32), .val (.int nn), .unset, .unset, .unset, .unset, .unset, .unset] [(.int (1 : Int32)), (.int (1 : Int32)), (.ref b61), (.ref b61)])) rfl rfl (hb hby at_25)
  replace A_b61 : Ai Z h63 b61 .int [(0 : Int32), (1 : Int32), (0 : Int32), (0 : Int32)] := A63
  replace Z0 := Nat.le_trans Z0 (Keep.of_wr W63).1
  have N63 := Fr.snoc X63 N62 g_b61
  refine Go.st (S' := T63.setTop (mkF m 26 #[.val (.int p0), .val (.int p1), .val (.int K.toInt32), .val (.int nn), .unset, .unset, .unset, .unset, .unset, .unset] [(.ref b61)])) (st63) ?_
  refine Go.st (S' := T63.setTop (mkF m 27 #[.val (.int p0), .val (.int p1), .val (.int K.toInt32), .val (.int nn), .unset, .unset, .unset, .unset, .unset, .unset] [(.ref b61), (.ref b61)])) (fun _ k_ => XS.dup X63.here hx rfl (hb hby at_26) rfl rfl k_) ?_
  refine Go.st (S' := T63.setTop (mkF m 28 #[.val (.int p0), .val (.int p1), .val (.int K.toInt32), .val (.int nn), .unset, .unset, .unset, .unset, .unset, .unset] [(.int (2 : Int32)), (.ref b61), (.ref b61)])) (fun _ k_ => XS.iconst X63.here hx rfl (hb hby at_27) k_) ?_
  refine Go.st (S' := T63.setTop (mkF m 29 #[.val (.int p0), .val (.int p1), .val (.int K.toInt32), .val (.int nn), .unset, .unset, .unset, .unset, .unset, .unset] [(.int (2 : Int32)), (.int (2 : Int32)), (.ref b61), (.ref b61)])) (fun _ k_ => XS.iconst X63.here hx rfl (hb hby at_28) k_) ?_
  obtain ⟨T64, h64, X64, e64, W64, A64, st64⟩ := A_b61.store X63 hx hZ e63 (j := (2 : Int32)) (by decide) (Nat.le_of_ble_eq_true rfl) (g := (mkF m 29 #[.val (.int p0), .val (.int p1), .val (.int K.toInt32), .val (.int nn), .unset, .unset, .unset, .unset, .unset, .unset] [(.int (2 : Int32)), (.int (2 : Int32)), (.ref b61), (.ref b61)])) rfl rfl (hb hby at_29)
  replace A_b61 : Ai Z h64 b61 .int [(0 : Int32), (1 : Int32), (2 : Int32), (0 : Int32)] := A64
  replace Z0 := Nat.le_trans Z0 (Keep.of_wr W64).1
  have N64 := Fr.snoc X64 N63 g_b61
  refine Go.st (S' := T64.setTop (mkF m 30 #[.val (.int p0), .val (.int p1), .val (.int K.toInt32), .val (.int nn), .unset, .unset, .unset, .unset, .unset, .unset] [(.ref b61)])) (st64) ?_
  refine Go.st (S' := T64.setTop (mkF m 31 #[.val (.int p0), .val (.int p1), .val (.int K.toInt32), .val (.int nn), .unset, .unset, .unset, .unset, .unset, .unset] [(.ref b61), (.ref b61)])) (fun _ k_ => XS.dup X64.here hx rfl (hb hby at_30) rfl rfl k_) ?_
  refine Go.st (S' := T64.setTop (mkF m 32 #[.val (.int p0), .val (.int p1), .val (.int K.toInt32), .val (.int nn), .unset, .unset, .unset, .unset, .unset, .unset] [(.int (3 : Int32)), (.ref b61), (.ref b61)])) (fun _ k_ => XS.iconst X64.here hx rfl (hb hby at_31) k_) ?_
  refine Go.st (S' := T64.setTop (mkF m 33 #[.val (.int p0), .val (.int p1), .val (.int K.toInt32), .val (.int nn), .unset, .unset, .unset, .unset, .unset, .unset] [(.int (3 : Int32)), (.int (3 : Int32)), (.ref b61), (.ref b61)])) (fun _ k_ => XS.iconst X64.here hx rfl (hb hby at_32) k_) ?_
  obtain ⟨T65, h65, X65, e65, W65, A65, st65⟩ := A_b61.store X64 hx hZ e64 (j := (3 : Int32)) (by decide) (Nat.le_of_ble_eq_true rfl) (g := (mkF m 33 #[.val (.int p0), .val (.int p1), .val (.int K.toInt32), .val (.int nn), .unset, .unset, .unset, .unset, .unset, .unset] [(.int (3 : Int32)), (.int (3 : Int32)), (.ref b61), (.ref b61)])) rfl rfl (hb hby at_33)
  replace A_b61 : Ai Z h65 b61 .int [(0 : Int32), (1 : Int32), (2 : Int32), (3 : Int32)] := A65
  replace Z0 := Nat.le_trans Z0 (Keep.of_wr W65).1
  have N65 := Fr.snoc X65 N64 g_b61
  refine Go.st (S' := T65.setTop (mkF m 34 #[.val (.int p0), .val (.int p1), .val (.int K.toInt32), .val (.int nn), .unset, .unset, .unset, .unset, .unset, .unset] [(.ref b61)])) (st65) ?_
  refine Go.st (S' := T65.setTop (mkF m 36 #[.val (.int p0), .val (.int p1), .val (.int K.toInt32), .val (.int nn), .val (.ref b61), .unset, .unset, .unset, .unset, .unset] [])) (fun _ k_ => XS.astore X65.here hx rfl (hb hby at_34) rfl rfl (l' := #[.val (.int p0), .val (.int p1), .val (.int K.toInt32), .val (.int nn), .val (.ref b61), .unset, .unset, .unset, .unset, .unset]) rfl k_) ?_
  refine Go.st (S' := T65.setTop (mkF m 38 #[.val (.int p0), .val (.int p1), .val (.int K.toInt32), .val (.int nn), .val (.ref b61), .unset, .unset, .unset, .unset, .unset] [(.ref b61)])) (fun _ k_ => XS.aload X65.here hx rfl (hb hby at_36) rfl rfl k_) ?_
  refine Go.st (S' := T65.setTop (mkF m 39 #[.val (.int p0), .val (.int p1), .val (.int K.toInt32), .val (.int nn), .val (.ref b61), .unset, .unset, .unset, .unset, .unset] [(.int (0 : Int32)), (.ref b61)])) (fun _ k_ => XS.iconst X65.here hx rfl (hb hby at_38) k_) ?_
  refine Go.st (S' := T65.setTop (mkF m 40 #[.val (.int p0), .val (.int p1), .val (.int K.toInt32), .val (.int nn), .val (.ref b61), .unset, .unset, .unset, .unset, .unset] [(.int K.toInt32), (.int (0 : Int32)), (.ref b61)])) (fun _ k_ => XS.iloadN X65.here hx rfl (hb hby at_39) rfl k_) ?_
  refine Go.st (S' := T65.setTop (mkF m 41 #[.val (.int p0), .val (.int p1), .val (.int K.toInt32), .val (.int nn), .val (.ref b61), .unset, .unset, .unset, .unset, .unset] [(.int (4 : Int32)), (.int K.toInt32), (.int (0 : Int32)), (.ref b61)])) (fun _ k_ => XS.iconst X65.here hx rfl (hb hby at_40) k_) ?_
  refine Go.st (S' := T65.setTop (mkF m 42 #[.val (.int p0), .val (.int p1), .val (.int K.toInt32), .val (.int nn), .val (.ref b61), .unset, .unset, .unset, .unset, .unset] [(.int (K.toInt32 % (4 : Int32))), (.int (0 : Int32)), (.ref b61)])) (fun _ k_ => iremM X65 hx rfl (hb hby at_41) rfl (by decide) k_) ?_
  rw [show (K.toInt32 % (4 : Int32)) = (K % 4).toInt32 from own_tmod K 4 (by omega) (by decide)]
  obtain ⟨j1, q_j1⟩ : ∃ z, z = K % 4 := ⟨_, rfl⟩
  rw [← q_j1]
  have hlen66 : ([(0 : Int32), (1 : Int32), (2 : Int32), (3 : Int32)] : List Int32).length = 4 := rfl
  obtain ⟨v66, T66, h66, L66, X66, e66, hQ66, st66⟩ := callSt X65 hx hZ hown (w2 hw) (w3 hw) (w4 hw) (w5 hw) (by decide) (W := 0) (argsL := [(.ref b61), (.int (0 : Int32)), (.int j1.toInt32)]) (rest := []) e65 (rm_swap l Z a0 hw b61 (0 : Int32) j1.toInt32 ([(0 : Int32), (1 : Int32), (2 : Int32), (3 : Int32)].getD 0 0) ([(0 : Int32), (1 : Int32), (2 : Int32), (3 : Int32)].getD j1 0) [(0 : Int32), (1 : Int32), (2 : Int32), (3 : Int32)] h65 n0 Z0 A_b61 g_b61 (by decide) (own_tpos (by omega)) (own_gd0 (by rw [hlen66]; decide)) (by rw [own_tn (by omega)]; exact own_gd0 (by rw [hlen66]; omega))) (by decide) (by decide) pd5 rfl (g := (mkF m 42 #[.val (.int p0), .val (.int p1), .val (.int K.toInt32), .val (.int nn), .val (.ref b61), .unset, .unset, .unset, .unset, .unset] [(.int j1.toInt32), (.int (0 : Int32)), (.ref b61)])) rfl (by rw [hml]; rfl) rfl (by show 2 * 0 + _ ≤ _; exact Nat.le_of_eq rfl) (hb hby at_42) (by decide) (by decide)
  obtain ⟨rfl, Nq66, Kq66, A_b61⟩ := hQ66
  have N66 := Fr.app N65 Nq66
  replace Z0 := Nat.le_trans Z0 Kq66.1
  have A_b61 : Ai Z h66 b61 .int (own_swap [(0 : Int32), (1 : Int32), (2 : Int32), (3 : Int32)] 0 j1) := by have q := A_b61; rw [own_tn (n := j1) (by omega)] at q; exact q
  refine Go.st (S' := T66.setTop (mkF m 45 #[.val (.int p0), .val (.int p1), .val (.int K.toInt32), .val (.int nn), .val (.ref b61), .unset, .unset, .unset, .unset, .unset] [])) (st66) ?_
  refine Go.st (S' := T66.setTop (mkF m 47 #[.val (.int p0), .val (.int p1), .val (.int K.toInt32), .val (.int nn), .val (.ref b61), .unset, .unset, .unset, .unset, .unset] [(.ref b61)])) (fun _ k_ => XS.aload X66.here hx rfl (hb hby at_45) rfl rfl k_) ?_
  refine Go.st (S' := T66.setTop (mkF m 48 #[.val (.int p0), .val (.int p1), .val (.int K.toInt32), .val (.int nn), .val (.ref b61), .unset, .unset, .unset, .unset, .unset] [(.int (1 : Int32)), (.ref b61)])) (fun _ k_ => XS.iconst X66.here hx rfl (hb hby at_47) k_) ?_
  refine Go.st (S' := T66.setTop (mkF m 49 #[.val (.int p0), .val (.int p1), .val (.int K.toInt32), .val (.int nn), .val (.ref b61), .unset, .unset, .unset, .unset, .unset] [(.int (1 : Int32)), (.int (1 : Int32)), (.ref b61)])) (fun _ k_ => XS.iconst X66.here hx rfl (hb hby at_48) k_) ?_
  refine Go.st (S' := T66.setTop (mkF m 50 #[.val (.int p0), .val (.int p1), .val (.int K.toInt32), .val (.int nn), .val (.ref b61), .unset, .unset, .unset, .unset, .unset] [(.int K.toInt32), (.int (1 : Int32)), (.int (1 : Int32)), (.ref b61)])) (fun _ k_ => XS.iloadN X66.here hx rfl (hb hby at_49) rfl k_) ?_
  refine Go.st (S' := T66.setTop (mkF m 51 #[.val (.int p0), .val (.int p1), .val (.int K.toInt32), .val (.int nn), .val (.ref b61), .unset, .unset, .unset, .unset, .unset] [(.int (4 : Int32)), (.int K.toInt32), (.int (1 : Int32)), (.int (1 : Int32)), (.ref b61)])) (fun _ k_ => XS.iconst X66.here hx rfl (hb hby at_50) k_) ?_
  refine Go.st (S' := T66.setTop (mkF m 52 #[.val (.int p0), .val (.int p1), .val (.int K.toInt32), .val (.int nn), .val (.ref b61), .unset, .unset, .unset, .unset, .unset] [(.int (K.toInt32 / (4 : Int32))), (.int (1 : Int32)), (.int (1 : Int32)), (.ref b61)])) (fun _ k_ => XS.idiv X66.here hx rfl (hb hby at_51) rfl (by decide) k_) ?_
  refine Go.st (S' := T66.setTop (mkF m 53 #[.val (.int p0), .val (.int p1), .val (.int K.toInt32), .val (.int nn), .val (.ref b61), .unset, .unset, .unset, .unset, .unset] [(.int (3 : Int32)), (.int (K.toInt32 / (4 : Int32))), (.int (1 : Int32)), (.int (1 : Int32)), (.ref b61)])) (fun _ k_ => XS.iconst X66.here hx rfl (hb hby at_52) k_) ?_
  refine Go.st (S' := T66.setTop (mkF m 54 #[.val (.int p0), .val (.int p1), .val (.int K.toInt32), .val (.int nn), .val (.ref b61), .unset, .unset, .unset, .unset, .unset] [(.int ((K.toInt32 / (4 : Int32)) % (3 : Int32))), (.int (1 : Int32)), (.int (1 : Int32)), (.ref b61)])) (fun _ k_ => iremM X66 hx rfl (hb hby at_53) rfl (by decide) k_) ?_
  refine Go.st (S' := T66.setTop (mkF m 55 #[.val (.int p0), .val (.int p1), .val (.int K.toInt32), .val (.int nn), .val (.ref b61), .unset, .unset, .unset, .unset, .unset] [(.int ((1 : Int32) + ((K.toInt32 / (4 : Int32)) % (3 : Int32)))), (.int (1 : Int32)), (.ref b61)])) (fun _ k_ => XS.iadd X66.here hx rfl (hb hby at_54) rfl k_) ?_
  rw [show ((1 : Int32) + ((K.toInt32 / (4 : Int32)) % (3 : Int32))) = (1 + (K / 4) % 3).toInt32 from by rw [show K.toInt32 / (4 : Int32) = (K / 4).toInt32 from own_tdiv K 4 (by omega) (by decide), show (K / 4).toInt32 % (3 : Int32) = ((K / 4) % 3).toInt32 from own_tmod _ 3 (by omega) (by decide)]; exact own_tadd 1 _]
  obtain ⟨k2, q_k2⟩ : ∃ z, z = (K / 4) % 3 := ⟨_, rfl⟩
  rw [← q_k2]
  obtain ⟨j2, q_j2⟩ : ∃ z, z = 1 + k2 := ⟨_, rfl⟩
  rw [← q_j2]
  have hlen67 : (own_swap [(0 : Int32), (1 : Int32), (2 : Int32), (3 : Int32)] 0 j1).length = 4 := by simp only [own_swlen]; rfl
  obtain ⟨v67, T67, h67, L67, X67, e67, hQ67, st67⟩ := callSt X66 hx hZ hown (w2 hw) (w3 hw) (w4 hw) (w5 hw) (by decide) (W := 0) (argsL := [(.ref b61), (.int (1 : Int32)), (.int j2.toInt32)]) (rest := []) e66 (rm_swap l Z a0 hw b61 (1 : Int32) j2.toInt32 ((own_swap [(0 : Int32), (1 : Int32), (2 : Int32), (3 : Int32)] 0 j1).getD 1 0) ((own_swap [(0 : Int32), (1 : Int32), (2 : Int32), (3 : Int32)] 0 j1).getD j2 0) (own_swap [(0 : Int32), (1 : Int32), (2 : Int32), (3 : Int32)] 0 j1) h66 n0 Z0 A_b61 g_b61 (by decide) (own_tpos (by omega)) (own_gd0 (by rw [hlen67]; decide)) (by rw [own_tn (by omega)]; exact own_gd0 (by rw [hlen67]; omega))) (by decide) (by decide) pd5 rfl (g := (mkF m 55 #[.val (.int p0), .val (.int p1), .val (.int K.toInt32), .val (.int nn), .val (.ref b61), .unset, .unset, .unset, .unset, .unset] [(.int j2.toInt32), (.int (1 : Int32)), (.ref b61)])) rfl (by rw [hml]; rfl) rfl (by show 2 * 0 + _ ≤ _; exact Nat.le_of_eq rfl) (hb hby at_55) (by decide) (by decide)
  obtain ⟨rfl, Nq67, Kq67, A_b61⟩ := hQ67
  have N67 := Fr.app N66 Nq67
  replace Z0 := Nat.le_trans Z0 Kq67.1
  have A_b61 : Ai Z h67 b61 .int (own_swap (own_swap [(0 : Int32), (1 : Int32), (2 : Int32), (3 : Int32)] 0 j1) 1 j2) := by have q := A_b61; rw [own_tn (n := j2) (by omega)] at q; exact q
  refine Go.st (S' := T67.setTop (mkF m 58 #[.val (.int p0), .val (.int p1), .val (.int K.toInt32), .val (.int nn), .val (.ref b61), .unset, .unset, .unset, .unset, .unset] [])) (st67) ?_
  refine Go.st (S' := T67.setTop (mkF m 60 #[.val (.int p0), .val (.int p1), .val (.int K.toInt32), .val (.int nn), .val (.ref b61), .unset, .unset, .unset, .unset, .unset] [(.ref b61)])) (fun _ k_ => XS.aload X67.here hx rfl (hb hby at_58) rfl rfl k_) ?_
  refine Go.st (S' := T67.setTop (mkF m 61 #[.val (.int p0), .val (.int p1), .val (.int K.toInt32), .val (.int nn), .val (.ref b61), .unset, .unset, .unset, .unset, .unset] [(.int (2 : Int32)), (.ref b61)])) (fun _ k_ => XS.iconst X67.here hx rfl (hb hby at_60) k_) ?_
  refine Go.st (S' := T67.setTop (mkF m 62 #[.val (.int p0), .val (.int p1), .val (.int K.toInt32), .val (.int nn), .val (.ref b61), .unset, .unset, .unset, .unset, .unset] [(.int (2 : Int32)), (.int (2 : Int32)), (.ref b61)])) (fun _ k_ => XS.iconst X67.here hx rfl (hb hby at_61) k_) ?_
  refine Go.st (S' := T67.setTop (mkF m 63 #[.val (.int p0), .val (.int p1), .val (.int K.toInt32), .val (.int nn), .val (.ref b61), .unset, .unset, .unset, .unset, .unset] [(.int K.toInt32), (.int (2 : Int32)), (.int (2 : Int32)), (.ref b61)])) (fun _ k_ => XS.iloadN X67.here hx rfl (hb hby at_62) rfl k_) ?_
  refine Go.st (S' := T67.setTop (mkF m 65 #[.val (.int p0), .val (.int p1), .val (.int K.toInt32), .val (.int nn), .val (.ref b61), .unset, .unset, .unset, .unset, .unset] [(.int (12 : Int32)), (.int K.toInt32), (.int (2 : Int32)), (.int (2 : Int32)), (.ref b61)])) (fun _ k_ => XS.bipush X67.here hx rfl (hb hby at_63) k_) ?_
  refine Go.st (S' := T67.setTop (mkF m 66 #[.val (.int p0), .val (.int p1), .val (.int K.toInt32), .val (.int nn), .val (.ref b61), .unset, .unset, .unset, .unset, .unset] [(.int (K.toInt32 / (12 : Int32))), (.int (2 : Int32)), (.int (2 : Int32)), (.ref b61)])) (fun _ k_ => XS.idiv X67.here hx rfl (hb hby at_65) rfl (by decide) k_) ?_
  refine Go.st (S' := T67.setTop (mkF m 67 #[.val (.int p0), .val (.int p1), .val (.int K.toInt32), .val (.int nn), .val (.ref b61), .unset, .unset, .unset, .unset, .unset] [(.int (2 : Int32)), (.int (K.toInt32 / (12 : Int32))), (.int (2 : Int32)), (.int (2 : Int32)), (.ref b61)])) (fun _ k_ => XS.iconst X67.here hx rfl (hb hby at_66) k_) ?_
  refine Go.st (S' := T67.setTop (mkF m 68 #[.val (.int p0), .val (.int p1), .val (.int K.toInt32), .val (.int nn), .val (.ref b61), .unset, .unset, .unset, .unset, .unset] [(.int ((K.toInt32 / (12 : Int32)) % (2 : Int32))), (.int (2 : Int32)), (.int (2 : Int32)), (.ref b61)])) (fun _ k_ => iremM X67 hx rfl (hb hby at_67) rfl (by decide) k_) ?_
  refine Go.st (S' := T67.setTop (mkF m 69 #[.val (.int p0), .val (.int p1), .val (.int K.toInt32), .val (.int nn), .val (.ref b61), .unset, .unset, .unset, .unset, .unset] [(.int ((2 : Int32) + ((K.toInt32 / (12 : Int32)) % (2 : Int32)))), (.int (2 : Int32)), (.ref b61)])) (fun _ k_ => XS.iadd X67.here hx rfl (hb hby at_68) rfl k_) ?_
  rw [show ((2 : Int32) + ((K.toInt32 / (12 : Int32)) % (2 : Int32))) = (2 + (K / 12) % 2).toInt32 from by rw [show K.toInt32 / (12 : Int32) = (K / 12).toInt32 from own_tdiv K 12 (by omega) (by decide), show (K / 12).toInt32 % (2 : Int32) = ((K / 12) % 2).toInt32 from own_tmod _ 2 (by omega) (by decide)]; exact own_tadd 2 _]
  obtain ⟨k3, q_k3⟩ : ∃ z, z = (K / 12) % 2 := ⟨_, rfl⟩
  rw [← q_k3]
  obtain ⟨j3, q_j3⟩ : ∃ z, z = 2 + k3 := ⟨_, rfl⟩
  rw [← q_j3]
  have hlen68 : (own_swap (own_swap [(0 : Int32), (1 : Int32), (2 : Int32), (3 : Int32)] 0 j1) 1 j2).length = 4 := by simp only [own_swlen]; rfl
  obtain ⟨v68, T68, h68, L68, X68, e68, hQ68, st68⟩ := callSt X67 hx hZ hown (w2 hw) (w3 hw) (w4 hw) (w5 hw) (by decide) (W := 0) (argsL := [(.ref b61), (.int (2 : Int32)), (.int j3.toInt32)]) (rest := []) e67 (rm_swap l Z a0 hw b61 (2 : Int32) j3.toInt32 ((own_swap (own_swap [(0 : Int32), (1 : Int32), (2 : Int32), (3 : Int32)] 0 j1) 1 j2).getD 2 0) ((own_swap (own_swap [(0 : Int32), (1 : Int32), (2 : Int32), (3 : Int32)] 0 j1) 1 j2).getD j3 0) (own_swap (own_swap [(0 : Int32), (1 : Int32), (2 : Int32), (3 : Int32)] 0 j1) 1 j2) h67 n0 Z0 A_b61 g_b61 (by decide) (own_tpos (by omega)) (own_gd0 (by rw [hlen68]; decide)) (by rw [own_tn (by omega)]; exact own_gd0 (by rw [hlen68]; omega))) (by decide) (by decide) pd5 rfl (g := (mkF m 69 #[.val (.int p0), .val (.int p1), .val (.int K.toInt32), .val (.int nn), .val (.ref b61), .unset, .unset, .unset, .unset, .unset] [(.int j3.toInt32), (.int (2 : Int32)), (.ref b61)])) rfl (by rw [hml]; rfl) rfl (by show 2 * 0 + _ ≤ _; exact Nat.le_of_eq rfl) (hb hby at_69) (by decide) (by decide)
  obtain ⟨rfl, Nq68, Kq68, A_b61⟩ := hQ68
  have N68 := Fr.app N67 Nq68
  replace Z0 := Nat.le_trans Z0 Kq68.1
  have A_b61 : Ai Z h68 b61 .int (own_swap (own_swap (own_swap [(0 : Int32), (1 : Int32), (2 : Int32), (3 : Int32)] 0 j1) 1 j2) 2 j3) := by have q := A_b61; rw [own_tn (n := j3) (by omega)] at q; exact q
  refine Go.st (S' := T68.setTop (mkF m 72 #[.val (.int p0), .val (.int p1), .val (.int K.toInt32), .val (.int nn), .val (.ref b61), .unset, .unset, .unset, .unset, .unset] [])) (st68) ?_
  obtain ⟨x0, x1, x2, x3, hP⟩ := own_four (P := (own_swap (own_swap (own_swap [(0 : Int32), (1 : Int32), (2 : Int32), (3 : Int32)] 0 j1) 1 j2) 2 j3)) (by simp only [own_swlen]; rfl)
  rw [hP] at A_b61
  have hfil := fun n hn => own_fil j1 k2 k3 n (by omega) (by omega) (by omega) hn
  rw [← q_j2, ← q_j3] at hfil
  simp only [hP] at hfil
  refine Go.st (S' := T68.setTop (mkF m 73 #[.val (.int p0), .val (.int p1), .val (.int K.toInt32), .val (.int nn), .val (.ref b61), .unset, .unset, .unset, .unset, .unset] [(.int (4 : Int32))])) (fun _ k_ => XS.iconst X68.here hx rfl (hb hby at_72) k_) ?_
  obtain ⟨T69, h69, b69, X69, e69, q69, E69, A69, st69⟩ := Ai.new X68 hx hZ (aty := .int) (w1 hw) rfl e68 (n := (4 : Int32)) (by decide) 4 (by decide) (by decide) (by decide) (by decide) (g := (mkF m 73 #[.val (.int p0), .val (.int p1), .val (.int K.toInt32), .val (.int nn), .val (.ref b61), .unset, .unset, .unset, .unset, .unset] [(.int (4 : Int32))])) rfl rfl (hb hby at_73)
  have ne_b61_b69 : b61 ≠ b69 := Nat.ne_of_lt (Nat.lt_of_lt_of_le A_b61.lt (Nat.le_of_eq q69.symm))
  have g_b69 : n0 ≤ b69 := Nat.le_trans Z0 (Nat.le_of_eq q69.symm)
  replace A_b61 := A_b61.ext E69
  replace Z0 := Nat.le_trans Z0 E69.1
  have A_b69 : Ai Z h69 b69 .int [(0 : Int32), (0 : Int32), (0 : Int32), (0 : Int32)] := A69
  refine Go.st (S' := T69.setTop (mkF m 75 #[.val (.int p0), .val (.int p1), .val (.int K.toInt32), .val (.int nn), .val (.ref b61), .unset, .unset, .unset, .unset, .unset] [(.ref b69)])) (st69) ?_
  refine Go.st (S' := T69.setTop (mkF m 77 #[.val (.int p0), .val (.int p1), .val (.int K.toInt32), .val (.int nn), .val (.ref b61), .val (.ref b69), .unset, .unset, .unset, .unset] [])) (fun _ k_ => XS.astore X69.here hx rfl (hb hby at_75) rfl rfl (l' := #[.val (.int p0), .val (.int p1), .val (.int K.toInt32), .val (.int nn), .val (.ref b61), .val (.ref b69), .unset, .unset, .unset, .unset]) rfl k_) ?_
  refine Go.st (S' := T69.setTop (mkF m 78 #[.val (.int p0), .val (.int p1), .val (.int K.toInt32), .val (.int nn), .val (.ref b61), .val (.ref b69), .unset, .unset, .unset, .unset] [(.int (0 : Int32))])) (fun _ k_ => XS.iconst X69.here hx rfl (hb hby at_77) k_) ?_
  refine Go.st (S' := T69.setTop (mkF m 80 #[.val (.int p0), .val (.int p1), .val (.int K.toInt32), .val (.int nn), .val (.ref b61), .val (.ref b69), .val (.int (0 : Int32)), .unset, .unset, .unset] [])) (fun _ k_ => XS.istore X69.here hx rfl (hb hby at_78) rfl (l' := #[.val (.int p0), .val (.int p1), .val (.int K.toInt32), .val (.int nn), .val (.ref b61), .val (.ref b69), .val (.int (0 : Int32)), .unset, .unset, .unset]) rfl k_) ?_
  rcases hn5 with rfl | rfl | rfl | rfl | rfl
  · skip
    have hf := hfil 0 (by decide)
    refine Go.st (S' := T69.setTop (mkF m 82 #[.val (.int p0), .val (.int p1), .val (.int K.toInt32), .val (.int (0 : Int32)), .val (.ref b61), .val (.ref b69), .val (.int (0 : Int32)), .unset, .unset, .unset] [(.ref b61)])) (fun _ k_ => XS.aload X69.here hx rfl (hb hby at_80) rfl rfl k_) ?_
    refine Go.st (S' := T69.setTop (mkF m 83 #[.val (.int p0), .val (.int p1), .val (.int K.toInt32), .val (.int (0 : Int32)), .val (.ref b61), .val (.ref b69), .val (.int (0 : Int32)), .unset, .unset, .unset] [(.int (0 : Int32)), (.ref b61)])) (fun _ k_ => XS.iconst X69.here hx rfl (hb hby at_82) k_) ?_
    refine Go.st (S' := T69.setTop (mkF m 84 #[.val (.int p0), .val (.int p1), .val (.int K.toInt32), .val (.int (0 : Int32)), .val (.ref b61), .val (.ref b69), .val (.int (0 : Int32)), .unset, .unset, .unset] [(.int x0)])) (A_b61.load X69 hx hZ e69 (j := (0 : Int32)) (v := x0) (by decide) rfl (g := (mkF m 83 #[.val (.int p0), .val (.int p1), .val (.int K.toInt32), .val (.int (0 : Int32)), .val (.ref b61), .val (.ref b69), .val (.int (0 : Int32)), .unset, .unset, .unset] [(.int (0 : Int32)), (.ref b61)])) rfl rfl (hb hby at_83)) ?_
    refine Go.st (S' := T69.setTop (mkF m 85 #[.val (.int p0), .val (.int p1), .val (.int K.toInt32), .val (.int (0 : Int32)), .val (.ref b61), .val (.ref b69), .val (.int (0 : Int32)), .unset, .unset, .unset] [(.int (0 : Int32)), (.int x0)])) (fun _ k_ => XS.iloadN X69.here hx rfl (hb hby at_84) rfl k_) ?_
    by_cases hc85 : x0 < (0 : Int32)
    · skip
      refine Go.st (S' := T69.setTop (mkF m 88 #[.val (.int p0), .val (.int p1), .val (.int K.toInt32), .val (.int (0 : Int32)), .val (.ref b61), .val (.ref b69), .val (.int (0 : Int32)), .unset, .unset, .unset] [])) (fun _ k_ => XS.icmpNo X69.here hx rfl (hb hby at_85) rfl (tlt hc85).2.1 k_) ?_
      refine Go.st (S' := T69.setTop (mkF m 90 #[.val (.int p0), .val (.int p1), .val (.int K.toInt32), .val (.int (0 : Int32)), .val (.ref b61), .val (.ref b69), .val (.int (0 : Int32)), .unset, .unset, .unset] [(.ref b69)])) (fun _ k_ => XS.aload X69.here hx rfl (hb hby at_88) rfl rfl k_) ?_
      refine Go.st (S' := T69.setTop (mkF m 92 #[.val (.int p0), .val (.int p1), .val (.int K.toInt32), .val (.int (0 : Int32)), .val (.ref b61), .val (.ref b69), .val (.int (0 : Int32)), .unset, .unset, .unset] [(.int (0 : Int32)), (.ref b69)])) (fun _ k_ => XS.iload X69.here hx rfl (hb hby at_90) rfl k_) ?_
      refine Go.st (S' := T69.setTop (mkF m 94 #[.val (.int p0), .val (.int p1), .val (.int K.toInt32), .val (.int (0 : Int32)), .val (.ref b61), .val (.ref b69), .val (.int (0 : Int32)), .unset, .unset, .unset] [(.ref b61), (.int (0 : Int32)), (.ref b69)])) (fun _ k_ => XS.aload X69.here hx rfl (hb hby at_92) rfl rfl k_) ?_
      refine Go.st (S' := T69.setTop (mkF m 95 #[.val (.int p0), .val (.int p1), .val (.int K.toInt32), .val (.int (0 : Int32)), .val (.ref b61), .val (.ref b69), .val (.int (0 : Int32)), .unset, .unset, .unset] [(.int (0 : Int32)), (.ref b61), (.int (0 : Int32)), (.ref b69)])) (fun _ k_ => XS.iconst X69.here hx rfl (hb hby at_94) k_) ?_
      refine Go.st (S' := T69.setTop (mkF m 96 #[.val (.int p0), .val (.int p1), .val (.int K.toInt32), .val (.int (0 : Int32)), .val (.ref b61), .val (.ref b69), .val (.int (0 : Int32)), .unset, .unset, .unset] [(.int x0), (.int (0 : Int32)), (.ref b69)])) (A_b61.load X69 hx hZ e69 (j := (0 : Int32)) (v := x0) (by decide) rfl (g := (mkF m 95 #[.val (.int p0), .val (.int p1), .val (.int K.toInt32), .val (.int (0 : Int32)), .val (.ref b61), .val (.ref b69), .val (.int (0 : Int32)), .unset, .unset, .unset] [(.int (0 : Int32)), (.ref b61), (.int (0 : Int32)), (.ref b69)])) rfl rfl (hb hby at_95)) ?_
      obtain ⟨T70, h70, X70, e70, W70, A70, st70⟩ := A_b69.store X69 hx hZ e69 (j := (0 : Int32)) (by decide) (Nat.le_of_ble_eq_true rfl) (g := (mkF m 96 #[.val (.int p0), .val (.int p1), .val (.int K.toInt32), .val (.int (0 : Int32)), .val (.ref b61), .val (.ref b69), .val (.int (0 : Int32)), .unset, .unset, .unset] [(.int x0), (.int (0 : Int32)), (.ref b69)])) rfl rfl (hb hby at_96)
      replace A_b69 : Ai Z h70 b69 .int [x0, (0 : Int32), (0 : Int32), (0 : Int32)] := A70
      replace A_b61 := A_b61.other W70 ne_b61_b69
      replace Z0 := Nat.le_trans Z0 (Keep.of_wr W70).1
      have N70 := Fr.snoc X70 N68 g_b69
      refine Go.st (S' := T70.setTop (mkF m 97 #[.val (.int p0), .val (.int p1), .val (.int K.toInt32), .val (.int (0 : Int32)), .val (.ref b61), .val (.ref b69), .val (.int (0 : Int32)), .unset, .unset, .unset] [])) (st70) ?_
      refine Go.st (S' := T70.setTop (mkF m 100 #[.val (.int p0), .val (.int p1), .val (.int K.toInt32), .val (.int (0 : Int32)), .val (.ref b61), .val (.ref b69), .val (.int ((0 : Int32) + (1 : Int32))), .unset, .unset, .unset] [])) (fun _ k_ => XS.iinc X70.here hx rfl (hb hby at_97) rfl (l' := #[.val (.int p0), .val (.int p1), .val (.int K.toInt32), .val (.int (0 : Int32)), .val (.ref b61), .val (.ref b69), .val (.int ((0 : Int32) + (1 : Int32))), .unset, .unset, .unset]) rfl k_) ?_
      rw [show ((0 : Int32) + (1 : Int32)) = (1 : Int32) from rfl]
      refine Go.st (S' := T70.setTop (mkF m 102 #[.val (.int p0), .val (.int p1), .val (.int K.toInt32), .val (.int (0 : Int32)), .val (.ref b61), .val (.ref b69), .val (.int (1 : Int32)), .unset, .unset, .unset] [(.ref b61)])) (fun _ k_ => XS.aload X70.here hx rfl (hb hby at_100) rfl rfl k_) ?_
      refine Go.st (S' := T70.setTop (mkF m 103 #[.val (.int p0), .val (.int p1), .val (.int K.toInt32), .val (.int (0 : Int32)), .val (.ref b61), .val (.ref b69), .val (.int (1 : Int32)), .unset, .unset, .unset] [(.int (1 : Int32)), (.ref b61)])) (fun _ k_ => XS.iconst X70.here hx rfl (hb hby at_102) k_) ?_
      refine Go.st (S' := T70.setTop (mkF m 104 #[.val (.int p0), .val (.int p1), .val (.int K.toInt32), .val (.int (0 : Int32)), .val (.ref b61), .val (.ref b69), .val (.int (1 : Int32)), .unset, .unset, .unset] [(.int x1)])) (A_b61.load X70 hx hZ e70 (j := (1 : Int32)) (v := x1) (by decide) rfl (g := (mkF m 103 #[.val (.int p0), .val (.int p1), .val (.int K.toInt32), .val (.int (0 : Int32)), .val (.ref b61), .val (.ref b69), .val (.int (1 : Int32)), .unset, .unset, .unset] [(.int (1 : Int32)), (.ref b61)])) rfl rfl (hb hby at_103)) ?_
      refine Go.st (S' := T70.setTop (mkF m 105 #[.val (.int p0), .val (.int p1), .val (.int K.toInt32), .val (.int (0 : Int32)), .val (.ref b61), .val (.ref b69), .val (.int (1 : Int32)), .unset, .unset, .unset] [(.int (0 : Int32)), (.int x1)])) (fun _ k_ => XS.iloadN X70.here hx rfl (hb hby at_104) rfl k_) ?_
      by_cases hc105 : x1 < (0 : Int32)
      · skip
        refine Go.st (S' := T70.setTop (mkF m 108 #[.val (.int p0), .val (.int p1), .val (.int K.toInt32), .val (.int (0 : Int32)), .val (.ref b61), .val (.ref b69), .val (.int (1 : Int32)), .unset, .unset, .unset] [])) (fun _ k_ => XS.icmpNo X70.here hx rfl (hb hby at_105) rfl (tlt hc105).2.1 k_) ?_
        refine Go.st (S' := T70.setTop (mkF m 110 #[.val (.int p0), .val (.int p1), .val (.int K.toInt32), .val (.int (0 : Int32)), .val (.ref b61), .val (.ref b69), .val (.int (1 : Int32)), .unset, .unset, .unset] [(.ref b69)])) (fun _ k_ => XS.aload X70.here hx rfl (hb hby at_108) rfl rfl k_) ?_
        refine Go.st (S' := T70.setTop (mkF m 112 #[.val (.int p0), .val (.int p1), .val (.int K.toInt32), .val (.int (0 : Int32)), .val (.ref b61), .val (.ref b69), .val (.int (1 : Int32)), .unset, .unset, .unset] [(.int (1 : Int32)), (.ref b69)])) (fun _ k_ => XS.iload X70.here hx rfl (hb hby at_110) rfl k_) ?_
        refine Go.st (S' := T70.setTop (mkF m 114 #[.val (.int p0), .val (.int p1), .val (.int K.toInt32), .val (.int (0 : Int32)), .val (.ref b61), .val (.ref b69), .val (.int (1 : Int32)), .unset, .unset, .unset] [(.ref b61), (.int (1 : Int32)), (.ref b69)])) (fun _ k_ => XS.aload X70.here hx rfl (hb hby at_112) rfl rfl k_) ?_
        refine Go.st (S' := T70.setTop (mkF m 115 #[.val (.int p0), .val (.int p1), .val (.int K.toInt32), .val (.int (0 : Int32)), .val (.ref b61), .val (.ref b69), .val (.int (1 : Int32)), .unset, .unset, .unset] [(.int (1 : Int32)), (.ref b61), (.int (1 : Int32)), (.ref b69)])) (fun _ k_ => XS.iconst X70.here hx rfl (hb hby at_114) k_) ?_
        refine Go.st (S' := T70.setTop (mkF m 116 #[.val (.int p0), .val (.int p1), .val (.int K.toInt32), .val (.int (0 : Int32)), .val (.ref b61), .val (.ref b69), .val (.int (1 : Int32)), .unset, .unset, .unset] [(.int x1), (.int (1 : Int32)), (.ref b69)])) (A_b61.load X70 hx hZ e70 (j := (1 : Int32)) (v := x1) (by decide) rfl (g := (mkF m 115 #[.val (.int p0), .val (.int p1), .val (.int K.toInt32), .val (.int (0 : Int32)), .val (.ref b61), .val (.ref b69), .val (.int (1 : Int32)), .unset, .unset, .unset] [(.int (1 : Int32)), (.ref b61), (.int (1 : Int32)), (.ref b69)])) rfl rfl (hb hby at_115)) ?_
        obtain ⟨T71, h71, X71, e71, W71, A71, st71⟩ := A_b69.store X70 hx hZ e70 (j := (1 : Int32)) (by decide) (Nat.le_of_ble_eq_true rfl) (g := (mkF m 116 #[.val (.int p0), .val (.int p1), .val (.int K.toInt32), .val (.int (0 : Int32)), .val (.ref b61), .val (.ref b69), .val (.int (1 : Int32)), .unset, .unset, .unset] [(.int x1), (.int (1 : Int32)), (.ref b69)])) rfl rfl (hb hby at_116)
        replace A_b69 : Ai Z h71 b69 .int [x0, x1, (0 : Int32), (0 : Int32)] := A71
        replace A_b61 := A_b61.other W71 ne_b61_b69
        replace Z0 := Nat.le_trans Z0 (Keep.of_wr W71).1
        have N71 := Fr.snoc X71 N70 g_b69
        refine Go.st (S' := T71.setTop (mkF m 117 #[.val (.int p0), .val (.int p1), .val (.int K.toInt32), .val (.int (0 : Int32)), .val (.ref b61), .val (.ref b69), .val (.int (1 : Int32)), .unset, .unset, .unset] [])) (st71) ?_
        refine Go.st (S' := T71.setTop (mkF m 120 #[.val (.int p0), .val (.int p1), .val (.int K.toInt32), .val (.int (0 : Int32)), .val (.ref b61), .val (.ref b69), .val (.int ((1 : Int32) + (1 : Int32))), .unset, .unset, .unset] [])) (fun _ k_ => XS.iinc X71.here hx rfl (hb hby at_117) rfl (l' := #[.val (.int p0), .val (.int p1), .val (.int K.toInt32), .val (.int (0 : Int32)), .val (.ref b61), .val (.ref b69), .val (.int ((1 : Int32) + (1 : Int32))), .unset, .unset, .unset]) rfl k_) ?_
        rw [show ((1 : Int32) + (1 : Int32)) = (2 : Int32) from rfl]
        refine Go.st (S' := T71.setTop (mkF m 122 #[.val (.int p0), .val (.int p1), .val (.int K.toInt32), .val (.int (0 : Int32)), .val (.ref b61), .val (.ref b69), .val (.int (2 : Int32)), .unset, .unset, .unset] [(.ref b61)])) (fun _ k_ => XS.aload X71.here hx rfl (hb hby at_120) rfl rfl k_) ?_
        refine Go.st (S' := T71.setTop (mkF m 123 #[.val (.int p0), .val (.int p1), .val (.int K.toInt32), .val (.int (0 : Int32)), .val (.ref b61), .val (.ref b69), .val (.int (2 : Int32)), .unset, .unset, .unset] [(.int (2 : Int32)), (.ref b61)])) (fun _ k_ => XS.iconst X71.here hx rfl (hb hby at_122) k_) ?_
        refine Go.st (S' := T71.setTop (mkF m 124 #[.val (.int p0), .val (.int p1), .val (.int K.toInt32), .val (.int (0 : Int32)), .val (.ref b61), .val (.ref b69), .val (.int (2 : Int32)), .unset, .unset, .unset] [(.int x2)])) (A_b61.load X71 hx hZ e71 (j := (2 : Int32)) (v := x2) (by decide) rfl (g := (mkF m 123 #[.val (.int p0), .val (.int p1), .val (.int K.toInt32), .val (.int (0 : Int32)), .val (.ref b61), .val (.ref b69), .val (.int (2 : Int32)), .unset, .unset, .unset] [(.int (2 : Int32)), (.ref b61)])) rfl rfl (hb hby at_123)) ?_
        refine Go.st (S' := T71.setTop (mkF m 125 #[.val (.int p0), .val (.int p1), .val (.int K.toInt32), .val (.int (0 : Int32)), .val (.ref b61), .val (.ref b69), .val (.int (2 : Int32)), .unset, .unset, .unset] [(.int (0 : Int32)), (.int x2)])) (fun _ k_ => XS.iloadN X71.here hx rfl (hb hby at_124) rfl k_) ?_
        by_cases hc125 : x2 < (0 : Int32)
        · skip
          refine Go.st (S' := T71.setTop (mkF m 128 #[.val (.int p0), .val (.int p1), .val (.int K.toInt32), .val (.int (0 : Int32)), .val (.ref b61), .val (.ref b69), .val (.int (2 : Int32)), .unset, .unset, .unset] [])) (fun _ k_ => XS.icmpNo X71.here hx rfl (hb hby at_125) rfl (tlt hc125).2.1 k_) ?_
          refine Go.st (S' := T71.setTop (mkF m 130 #[.val (.int p0), .val (.int p1), .val (.int K.toInt32), .val (.int (0 : Int32)), .val (.ref b61), .val (.ref b69), .val (.int (2 : Int32)), .unset, .unset, .unset] [(.ref b69)])) (fun _ k_ => XS.aload X71.here hx rfl (hb hby at_128) rfl rfl k_) ?_
          refine Go.st (S' := T71.setTop (mkF m 132 #[.val (.int p0), .val (.int p1), .val (.int K.toInt32), .val (.int (0 : Int32)), .val (.ref b61), .val (.ref b69), .val (.int (2 : Int32)), .unset, .unset, .unset] [(.int (2 : Int32)), (.ref b69)])) (fun _ k_ => XS.iload X71.here hx rfl (hb hby at_130) rfl k_) ?_
          refine Go.st (S' := T71.setTop (mkF m 134 #[.val (.int p0), .val (.int p1), .val (.int K.toInt32), .val (.int (0 : Int32)), .val (.ref b61), .val (.ref b69), .val (.int (2 : Int32)), .unset, .unset, .unset] [(.ref b61), (.int (2 : Int32)), (.ref b69)])) (fun _ k_ => XS.aload X71.here hx rfl (hb hby at_132) rfl rfl k_) ?_
          refine Go.st (S' := T71.setTop (mkF m 135 #[.val (.int p0), .val (.int p1), .val (.int K.toInt32), .val (.int (0 : Int32)), .val (.ref b61), .val (.ref b69), .val (.int (2 : Int32)), .unset, .unset, .unset] [(.int (2 : Int32)), (.ref b61), (.int (2 : Int32)), (.ref b69)])) (fun _ k_ => XS.iconst X71.here hx rfl (hb hby at_134) k_) ?_
          refine Go.st (S' := T71.setTop (mkF m 136 #[.val (.int p0), .val (.int p1), .val (.int K.toInt32), .val (.int (0 : Int32)), .val (.ref b61), .val (.ref b69), .val (.int (2 : Int32)), .unset, .unset, .unset] [(.int x2), (.int (2 : Int32)), (.ref b69)])) (A_b61.load X71 hx hZ e71 (j := (2 : Int32)) (v := x2) (by decide) rfl (g := (mkF m 135 #[.val (.int p0), .val (.int p1), .val (.int K.toInt32), .val (.int (0 : Int32)), .val (.ref b61), .val (.ref b69), .val (.int (2 : Int32)), .unset, .unset, .unset] [(.int (2 : Int32)), (.ref b61), (.int (2 : Int32)), (.ref b69)])) rfl rfl (hb hby at_135)) ?_
          obtain ⟨T72, h72, X72, e72, W72, A72, st72⟩ := A_b69.store X71 hx hZ e71 (j := (2 : Int32)) (by decide) (Nat.le_of_ble_eq_true rfl) (g := (mkF m 136 #[.val (.int p0), .val (.int p1), .val (.int K.toInt32), .val (.int (0 : Int32)), .val (.ref b61), .val (.ref b69), .val (.int (2 : Int32)), .unset, .unset, .unset] [(.int x2), (.int (2 : Int32)), (.ref b69)])) rfl rfl (hb hby at_136)
          replace A_b69 : Ai Z h72 b69 .int [x0, x1, x2, (0 : Int32)] := A72
          replace A_b61 := A_b61.other W72 ne_b61_b69
          replace Z0 := Nat.le_trans Z0 (Keep.of_wr W72).1
          have N72 := Fr.snoc X72 N71 g_b69
          refine Go.st (S' := T72.setTop (mkF m 137 #[.val (.int p0), .val (.int p1), .val (.int K.toInt32), .val (.int (0 : Int32)), .val (.ref b61), .val (.ref b69), .val (.int (2 : Int32)), .unset, .unset, .unset] [])) (st72) ?_
          refine Go.st (S' := T72.setTop (mkF m 140 #[.val (.int p0), .val (.int p1), .val (.int K.toInt32), .val (.int (0 : Int32)), .val (.ref b61), .val (.ref b69), .val (.int ((2 : Int32) + (1 : Int32))), .unset, .unset, .unset] [])) (fun _ k_ => XS.iinc X72.here hx rfl (hb hby at_137) rfl (l' := #[.val (.int p0), .val (.int p1), .val (.int K.toInt32), .val (.int (0 : Int32)), .val (.ref b61), .val (.ref b69), .val (.int ((2 : Int32) + (1 : Int32))), .unset, .unset, .unset]) rfl k_) ?_
          rw [show ((2 : Int32) + (1 : Int32)) = (3 : Int32) from rfl]
          refine Go.st (S' := T72.setTop (mkF m 142 #[.val (.int p0), .val (.int p1), .val (.int K.toInt32), .val (.int (0 : Int32)), .val (.ref b61), .val (.ref b69), .val (.int (3 : Int32)), .unset, .unset, .unset] [(.ref b61)])) (fun _ k_ => XS.aload X72.here hx rfl (hb hby at_140) rfl rfl k_) ?_
          refine Go.st (S' := T72.setTop (mkF m 143 #[.val (.int p0), .val (.int p1), .val (.int K.toInt32), .val (.int (0 : Int32)), .val (.ref b61), .val (.ref b69), .val (.int (3 : Int32)), .unset, .unset, .unset] [(.int (3 : Int32)), (.ref b61)])) (fun _ k_ => XS.iconst X72.here hx rfl (hb hby at_142) k_) ?_
          refine Go.st (S' := T72.setTop (mkF m 144 #[.val (.int p0), .val (.int p1), .val (.int K.toInt32), .val (.int (0 : Int32)), .val (.ref b61), .val (.ref b69), .val (.int (3 : Int32)), .unset, .unset, .unset] [(.int x3)])) (A_b61.load X72 hx hZ e72 (j := (3 : Int32)) (v := x3) (by decide) rfl (g := (mkF m 143 #[.val (.int p0), .val (.int p1), .val (.int K.toInt32), .val (.int (0 : Int32)), .val (.ref b61), .val (.ref b69), .val (.int (3 : Int32)), .unset, .unset, .unset] [(.int (3 : Int32)), (.ref b61)])) rfl rfl (hb hby at_143)) ?_
          refine Go.st (S' := T72.setTop (mkF m 145 #[.val (.int p0), .val (.int p1), .val (.int K.toInt32), .val (.int (0 : Int32)), .val (.ref b61), .val (.ref b69), .val (.int (3 : Int32)), .unset, .unset, .unset] [(.int (0 : Int32)), (.int x3)])) (fun _ k_ => XS.iloadN X72.here hx rfl (hb hby at_144) rfl k_) ?_
          by_cases hc145 : x3 < (0 : Int32)
          · skip
            refine Go.st (S' := T72.setTop (mkF m 148 #[.val (.int p0), .val (.int p1), .val (.int K.toInt32), .val (.int (0 : Int32)), .val (.ref b61), .val (.ref b69), .val (.int (3 : Int32)), .unset, .unset, .unset] [])) (fun _ k_ => XS.icmpNo X72.here hx rfl (hb hby at_145) rfl (tlt hc145).2.1 k_) ?_
            refine Go.st (S' := T72.setTop (mkF m 150 #[.val (.int p0), .val (.int p1), .val (.int K.toInt32), .val (.int (0 : Int32)), .val (.ref b61), .val (.ref b69), .val (.int (3 : Int32)), .unset, .unset, .unset] [(.ref b69)])) (fun _ k_ => XS.aload X72.here hx rfl (hb hby at_148) rfl rfl k_) ?_
            refine Go.st (S' := T72.setTop (mkF m 152 #[.val (.int p0), .val (.int p1), .val (.int K.toInt32), .val (.int (0 : Int32)), .val (.ref b61), .val (.ref b69), .val (.int (3 : Int32)), .unset, .unset, .unset] [(.int (3 : Int32)), (.ref b69)])) (fun _ k_ => XS.iload X72.here hx rfl (hb hby at_150) rfl k_) ?_
            refine Go.st (S' := T72.setTop (mkF m 154 #[.val (.int p0), .val (.int p1), .val (.int K.toInt32), .val (.int (0 : Int32)), .val (.ref b61), .val (.ref b69), .val (.int (3 : Int32)), .unset, .unset, .unset] [(.ref b61), (.int (3 : Int32)), (.ref b69)])) (fun _ k_ => XS.aload X72.here hx rfl (hb hby at_152) rfl rfl k_) ?_
            refine Go.st (S' := T72.setTop (mkF m 155 #[.val (.int p0), .val (.int p1), .val (.int K.toInt32), .val (.int (0 : Int32)), .val (.ref b61), .val (.ref b69), .val (.int (3 : Int32)), .unset, .unset, .unset] [(.int (3 : Int32)), (.ref b61), (.int (3 : Int32)), (.ref b69)])) (fun _ k_ => XS.iconst X72.here hx rfl (hb hby at_154) k_) ?_
            refine Go.st (S' := T72.setTop (mkF m 156 #[.val (.int p0), .val (.int p1), .val (.int K.toInt32), .val (.int (0 : Int32)), .val (.ref b61), .val (.ref b69), .val (.int (3 : Int32)), .unset, .unset, .unset] [(.int x3), (.int (3 : Int32)), (.ref b69)])) (A_b61.load X72 hx hZ e72 (j := (3 : Int32)) (v := x3) (by decide) rfl (g := (mkF m 155 #[.val (.int p0), .val (.int p1), .val (.int K.toInt32), .val (.int (0 : Int32)), .val (.ref b61), .val (.ref b69), .val (.int (3 : Int32)), .unset, .unset, .unset] [(.int (3 : Int32)), (.ref b61), (.int (3 : Int32)), (.ref b69)])) rfl rfl (hb hby at_155)) ?_
            obtain ⟨T73, h73, X73, e73, W73, A73, st73⟩ := A_b69.store X72 hx hZ e72 (j := (3 : Int32)) (by decide) (Nat.le_of_ble_eq_true rfl) (g := (mkF m 156 #[.val (.int p0), .val (.int p1), .val (.int K.toInt32), .val (.int (0 : Int32)), .val (.ref b61), .val (.ref b69), .val (.int (3 : Int32)), .unset, .unset, .unset] [(.int x3), (.int (3 : Int32)), (.ref b69)])) rfl rfl (hb hby at_156)
            replace A_b69 : Ai Z h73 b69 .int [x0, x1, x2, x3] := A73
            replace A_b61 := A_b61.other W73 ne_b61_b69
            replace Z0 := Nat.le_trans Z0 (Keep.of_wr W73).1
            have N73 := Fr.snoc X73 N72 g_b69
            refine Go.st (S' := T73.setTop (mkF m 157 #[.val (.int p0), .val (.int p1), .val (.int K.toInt32), .val (.int (0 : Int32)), .val (.ref b61), .val (.ref b69), .val (.int (3 : Int32)), .unset, .unset, .unset] [])) (st73) ?_
            refine Go.st (S' := T73.setTop (mkF m 160 #[.val (.int p0), .val (.int p1), .val (.int K.toInt32), .val (.int (0 : Int32)), .val (.ref b61), .val (.ref b69), .val (.int ((3 : Int32) + (1 : Int32))), .unset, .unset, .unset] [])) (fun _ k_ => XS.iinc X73.here hx rfl (hb hby at_157) rfl (l' := #[.val (.int p0), .val (.int p1), .val (.int K.toInt32), .val (.int (0 : Int32)), .val (.ref b61), .val (.ref b69), .val (.int ((3 : Int32) + (1 : Int32))), .unset, .unset, .unset]) rfl k_) ?_
            rw [show ((3 : Int32) + (1 : Int32)) = (4 : Int32) from rfl]
            have hf2 : own_okb [x0, x1, x2, x3] = true ∧ ([x0, x1, x2, x3] : List Int32).length = 0 := by
              have q := hf
              rw [List.filter_cons, List.filter_cons, List.filter_cons, List.filter_cons, List.filter_nil] at q
              simp only [show (0 : Nat).toInt32 = (0 : Int32) from rfl, hc85, hc105, hc125, hc145, decide_true, decide_false, if_true, if_false, Bool.false_eq_true] at q
              exact q
            exact absurd hf2.2 (by show ¬ (4 = 0); decide)
          · skip
            refine Go.st (S' := T72.setTop (mkF m 160 #[.val (.int p0), .val (.int p1), .val (.int K.toInt32), .val (.int (0 : Int32)), .val (.ref b61), .val (.ref b69), .val (.int (3 : Int32)), .unset, .unset, .unset] [])) (fun _ k_ => XS.icmpYes X72.here hx rfl (pc0 := 145) (pc' := 160) rfl (hb hby at_145) rfl (flt hc145).2.1 (by decide) (by decide) k_) ?_
            have hf2 : own_okb [x0, x1, x2] = true ∧ ([x0, x1, x2] : List Int32).length = 0 := by
              have q := hf
              rw [List.filter_cons, List.filter_cons, List.filter_cons, List.filter_cons, List.filter_nil] at q
              simp only [show (0 : Nat).toInt32 = (0 : Int32) from rfl, hc85, hc105, hc125, hc145, decide_true, decide_false, if_true, if_false, Bool.false_eq_true] at q
              exact q
            exact absurd hf2.2 (by show ¬ (3 = 0); decide)
        · skip
          refine Go.st (S' := T71.setTop (mkF m 140 #[.val (.int p0), .val (.int p1), .val (.int K.toInt32), .val (.int (0 : Int32)), .val (.ref b61), .val (.ref b69), .val (.int (2 : Int32)), .unset, .unset, .unset] [])) (fun _ k_ => XS.icmpYes X71.here hx rfl (pc0 := 125) (pc' := 140) rfl (hb hby at_125) rfl (flt hc125).2.1 (by decide) (by decide) k_) ?_
          refine Go.st (S' := T71.setTop (mkF m 142 #[.val (.int p0), .val (.int p1), .val (.int K.toInt32), .val (.int (0 : Int32)), .val (.ref b61), .val (.ref b69), .val (.int (2 : Int32)), .unset, .unset, .unset] [(.ref b61)])) (fun _ k_ => XS.aload X71.here hx rfl (hb hby at_140) rfl rfl k_) ?_
          refine Go.st (S' := T71.setTop (mkF m 143 #[.val (.int p0), .val (.int p1), .val (.int K.toInt32), .val (.int (0 : Int32)), .val (.ref b61), .val (.ref b69), .val (.int (2 : Int32)), .unset, .unset, .unset] [(.int (3 : Int32)), (.ref b61)])) (fun _ k_ => XS.iconst X71.here hx rfl (hb hby at_142) k_) ?_
          refine Go.st (S' := T71.setTop (mkF m 144 #[.val (.int p0), .val (.int p1), .val (.int K.toInt32), .val (.int (0 : Int32)), .val (.ref b61), .val (.ref b69), .val (.int (2 : Int32)), .unset, .unset, .unset] [(.int x3)])) (A_b61.load X71 hx hZ e71 (j := (3 : Int32)) (v := x3) (by decide) rfl (g := (mkF m 143 #[.val (.int p0), .val (.int p1), .val (.int K.toInt32), .val (.int (0 : Int32)), .val (.ref b61), .val (.ref b69), .val (.int (2 : Int32)), .unset, .unset, .unset] [(.int (3 : Int32)), (.ref b61)])) rfl rfl (hb hby at_143)) ?_
          refine Go.st (S' := T71.setTop (mkF m 145 #[.val (.int p0), .val (.int p1), .val (.int K.toInt32), .val (.int (0 : Int32)), .val (.ref b61), .val (.ref b69), .val (.int (2 : Int32)), .unset, .unset, .unset] [(.int (0 : Int32)), (.int x3)])) (fun _ k_ => XS.iloadN X71.here hx rfl (hb hby at_144) rfl k_) ?_
          by_cases hc145 : x3 < (0 : Int32)
          · skip
            refine Go.st (S' := T71.setTop (mkF m 148 #[.val (.int p0), .val (.int p1), .val (.int K.toInt32), .val (.int (0 : Int32)), .val (.ref b61), .val (.ref b69), .val (.int (2 : Int32)), .unset, .unset, .unset] [])) (fun _ k_ => XS.icmpNo X71.here hx rfl (hb hby at_145) rfl (tlt hc145).2.1 k_) ?_
            refine Go.st (S' := T71.setTop (mkF m 150 #[.val (.int p0), .val (.int p1), .val (.int K.toInt32), .val (.int (0 : Int32)), .val (.ref b61), .val (.ref b69), .val (.int (2 : Int32)), .unset, .unset, .unset] [(.ref b69)])) (fun _ k_ => XS.aload X71.here hx rfl (hb hby at_148) rfl rfl k_) ?_
            refine Go.st (S' := T71.setTop (mkF m 152 #[.val (.int p0), .val (.int p1), .val (.int K.toInt32), .val (.int (0 : Int32)), .val (.ref b61), .val (.ref b69), .val (.int (2 : Int32)), .unset, .unset, .unset] [(.int (2 : Int32)), (.ref b69)])) (fun _ k_ => XS.iload X71.here hx rfl (hb hby at_150) rfl k_) ?_
            refine Go.st (S' := T71.setTop (mkF m 154 #[.val (.int p0), .val (.int p1), .val (.int K.toInt32), .val (.int (0 : Int32)), .val (.ref b61), .val (.ref b69), .val (.int (2 : Int32)), .unset, .unset, .unset] [(.ref b61), (.int (2 : Int32)), (.ref b69)])) (fun _ k_ => XS.aload X71.here hx rfl (hb hby at_152) rfl rfl k_) ?_
            refine Go.st (S' := T71.setTop (mkF m 155 #[.val (.int p0), .val (.int p1), .val (.int K.toInt32), .val (.int (0 : Int32)), .val (.ref b61), .val (.ref b69), .val (.int (2 : Int32)), .unset, .unset, .unset] [(.int (3 : Int32)), (.ref b61), (.int (2 : Int32)), (.ref b69)])) (fun _ k_ => XS.iconst X71.here hx rfl (hb hby at_154) k_) ?_
            refine Go.st (S' := T71.setTop (mkF m 156 #[.val (.int p0), .val (.int p1), .val (.int K.toInt32), .val (.int (0 : Int32)), .val (.ref b61), .val (.ref b69), .val (.int (2 : Int32)), .unset, .unset, .unset] [(.int x3), (.int (2 : Int32)), (.ref b69)])) (A_b61.load X71 hx hZ e71 (j := (3 : Int32)) (v := x3) (by decide) rfl (g := (mkF m 155 #[.val (.int p0), .val (.int p1), .val (.int K.toInt32), .val (.int (0 : Int32)), .val (.ref b61), .val (.ref b69), .val (.int (2 : Int32)), .unset, .unset, .unset] [(.int (3 : Int32)), (.ref b61), (.int (2 : Int32)), (.ref b69)])) rfl rfl (hb hby at_155)) ?_
            obtain ⟨T74, h74, X74, e74, W74, A74, st74⟩ := A_b69.store X71 hx hZ e71 (j := (2 : Int32)) (by decide) (Nat.le_of_ble_eq_true rfl) (g := (mkF m 156 #[.val (.int p0), .val (.int p1), .val (.int K.toInt32), .val (.int (0 : Int32)), .val (.ref b61), .val (.ref b69), .val (.int (2 : Int32)), .unset, .unset, .unset] [(.int x3), (.int (2 : Int32)), (.ref b69)])) rfl rfl (hb hby at_156)
            replace A_b69 : Ai Z h74 b69 .int [x0, x1, x3, (0 : Int32)] := A74
            replace A_b61 := A_b61.other W74 ne_b61_b69
            replace Z0 := Nat.le_trans Z0 (Keep.of_wr W74).1
            have N74 := Fr.snoc X74 N71 g_b69
            refine Go.st (S' := T74.setTop (mkF m 157 #[.val (.int p0), .val (.int p1), .val (.int K.toInt32), .val (.int (0 : Int32)), .val (.ref b61), .val (.ref b69), .val (.int (2 : Int32)), .unset, .unset, .unset] [])) (st74) ?_
            refine Go.st (S' := T74.setTop (mkF m 160 #[.val (.int p0), .val (.int p1), .val (.int K.toInt32), .val (.int (0 : Int32)), .val (.ref b61), .val (.ref b69), .val (.int ((2 : Int32) + (1 : Int32))), .unset, .unset, .unset] [])) (fun _ k_ => XS.iinc X74.here hx rfl (hb hby at_157) rfl (l' := #[.val (.int p0), .val (.int p1), .val (.int K.toInt32), .val (.int (0 : Int32)), .val (.ref b61), .val (.ref b69), .val (.int ((2 : Int32) + (1 : Int32))), .unset, .unset, .unset]) rfl k_) ?_
            rw [show ((2 : Int32) + (1 : Int32)) = (3 : Int32) from rfl]
            have hf2 : own_okb [x0, x1, x3] = true ∧ ([x0, x1, x3] : List Int32).length = 0 := by
              have q := hf
              rw [List.filter_cons, List.filter_cons, List.filter_cons, List.filter_cons, List.filter_nil] at q
              simp only [show (0 : Nat).toInt32 = (0 : Int32) from rfl, hc85, hc105, hc125, hc145, decide_true, decide_false, if_true, if_false, Bool.false_eq_true] at q
              exact q
            exact absurd hf2.2 (by show ¬ (3 = 0); decide)
          · skip
            refine Go.st (S' := T71.setTop (mkF m 160 #[.val (.int p0), .val (.int p1), .val (.int K.toInt32), .val (.int (0 : Int32)), .val (.ref b61), .val (.ref b69), .val (.int (2 : Int32)), .unset, .unset, .unset] [])) (fun _ k_ => XS.icmpYes X71.here hx rfl (pc0 := 145) (pc' := 160) rfl (hb hby at_145) rfl (flt hc145).2.1 (by decide) (by decide) k_) ?_
            have hf2 : own_okb [x0, x1] = true ∧ ([x0, x1] : List Int32).length = 0 := by
              have q := hf
              rw [List.filter_cons, List.filter_cons, List.filter_cons, List.filter_cons, List.filter_nil] at q
              simp only [show (0 : Nat).toInt32 = (0 : Int32) from rfl, hc85, hc105, hc125, hc145, decide_true, decide_false, if_true, if_false, Bool.false_eq_true] at q
              exact q
            exact absurd hf2.2 (by show ¬ (2 = 0); decide)
      · skip
        refine Go.st (S' := T70.setTop (mkF m 120 #[.val (.int p0), .val (.int p1), .val (.int K.toInt32), .val (.int (0 : Int32)), .val (.ref b61), .val (.ref b69), .val (.int (1 : Int32)), .unset, .unset, .unset] [])) (fun _ k_ => XS.icmpYes X70.here hx rfl (pc0 := 105) (pc' := 120) rfl (hb hby at_105) rfl (flt hc105).2.1 (by decide) (by decide) k_) ?_
        refine Go.st (S' := T70.setTop (mkF m 122 #[.val (.int p0), .val (.int p1), .val (.int K.toInt32), .val (.int (0 : Int32)), .val (.ref b61), .val (.ref b69), .val (.int (1 : Int32)), .unset, .unset, .unset] [(.ref b61)])) (fun _ k_ => XS.aload X70.here hx rfl (hb hby at_120) rfl rfl k_) ?_
        refine Go.st (S' := T70.setTop (mkF m 123 #[.val (.int p0), .val (.int p1), .val (.int K.toInt32), .val (.int (0 : Int32)), .val (.ref b61), .val (.ref b69), .val (.int (1 : Int32)), .unset, .unset, .unset] [(.int (2 : Int32)), (.ref b61)])) (fun _ k_ => XS.iconst X70.here hx rfl (hb hby at_122) k_) ?_
        refine Go.st (S' := T70.setTop (mkF m 124 #[.val (.int p0), .val (.int p1), .val (.int K.toInt32), .val (.int (0 : Int32)), .val (.ref b61), .val (.ref b69), .val (.int (1 : Int32)), .unset, .unset, .unset] [(.int x2)])) (A_b61.load X70 hx hZ e70 (j := (2 : Int32)) (v := x2) (by decide) rfl (g := (mkF m 123 #[.val (.int p0), .val (.int p1), .val (.int K.toInt32), .val (.int (0 : Int32)), .val (.ref b61), .val (.ref b69), .val (.int (1 : Int32)), .unset, .unset, .unset] [(.int (2 : Int32)), (.ref b61)])) rfl rfl (hb hby at_123)) ?_
        refine Go.st (S' := T70.setTop (mkF m 125 #[.val (.int p0), .val (.int p1), .val (.int K.toInt32), .val (.int (0 : Int32)), .val (.ref b61), .val (.ref b69), .val (.int (1 : Int32)), .unset, .unset, .unset] [(.int (0 : Int32)), (.int x2)])) (fun _ k_ => XS.iloadN X70.here hx rfl (hb hby at_124) rfl k_) ?_
        by_cases hc125 : x2 < (0 : Int32)
        · skip
          refine Go.st (S' := T70.setTop (mkF m 128 #[.val (.int p0), .val (.int p1), .val (.int K.toInt32), .val (.int (0 : Int32)), .val (.ref b61), .val (.ref b69), .val (.int (1 : Int32)), .unset, .unset, .unset] [])) (fun _ k_ => XS.icmpNo X70.here hx rfl (hb hby at_125) rfl (tlt hc125).2.1 k_) ?_
          refine Go.st (S' := T70.setTop (mkF m 130 #[.val (.int p0), .val (.int p1), .val (.int K.toInt32), .val (.int (0 : Int32)), .val (.ref b61), .val (.ref b69), .val (.int (1 : Int32)), .unset, .unset, .unset] [(.ref b69)])) (fun _ k_ => XS.aload X70.here hx rfl (hb hby at_128) rfl rfl k_) ?_
          refine Go.st (S' := T70.setTop (mkF m 132 #[.val (.int p0), .val (.int p1), .val (.int K.toInt32), .val (.int (0 : Int32)), .val (.ref b61), .val (.ref b69), .val (.int (1 : Int32)), .unset, .unset, .unset] [(.int (1 : Int32)), (.ref b69)])) (fun _ k_ => XS.iload X70.here hx rfl (hb hby at_130) rfl k_) ?_
          refine Go.st (S' := T70.setTop (mkF m 134 #[.val (.int p0), .val (.int p1), .val (.int K.toInt32), .val (.int (0 : Int32)), .val (.ref b61), .val (.ref b69), .val (.int (1 : Int32)), .unset, .unset, .unset] [(.ref b61), (.int (1 : Int32)), (.ref b69)])) (fun _ k_ => XS.aload X70.here hx rfl (hb hby at_132) rfl rfl k_) ?_
          refine Go.st (S' := T70.setTop (mkF m 135 #[.val (.int p0), .val (.int p1), .val (.int K.toInt32), .val (.int (0 : Int32)), .val (.ref b61), .val (.ref b69), .val (.int (1 : Int32)), .unset, .unset, .unset] [(.int (2 : Int32)), (.ref b61), (.int (1 : Int32)), (.ref b69)])) (fun _ k_ => XS.iconst X70.here hx rfl (hb hby at_134) k_) ?_
          refine Go.st (S' := T70.setTop (mkF m 136 #[.val (.int p0), .val (.int p1), .val (.int K.toInt32), .val (.int (0 : Int32)), .val (.ref b61), .val (.ref b69), .val (.int (1 : Int32)), .unset, .unset, .unset] [(.int x2), (.int (1 : Int32)), (.ref b69)])) (A_b61.load X70 hx hZ e70 (j := (2 : Int32)) (v := x2) (by decide) rfl (g := (mkF m 135 #[.val (.int p0), .val (.int p1), .val (.int K.toInt32), .val (.int (0 : Int32)), .val (.ref b61), .val (.ref b69), .val (.int (1 : Int32)), .unset, .unset, .unset] [(.int (2 : Int32)), (.ref b61), (.int (1 : Int32)), (.ref b69)])) rfl rfl (hb hby at_135)) ?_
          obtain ⟨T75, h75, X75, e75, W75, A75, st75⟩ := A_b69.store X70 hx hZ e70 (j := (1 : Int32)) (by decide) (Nat.le_of_ble_eq_true rfl) (g := (mkF m 136 #[.val (.int p0), .val (.int p1), .val (.int K.toInt32), .val (.int (0 : Int32)), .val (.ref b61), .val (.ref b69), .val (.int (1 : Int32)), .unset, .unset, .unset] [(.int x2), (.int (1 : Int32)), (.ref b69)])) rfl rfl (hb hby at_136)
          replace A_b69 : Ai Z h75 b69 .int [x0, x2, (0 : Int32), (0 : Int32)] := A75
          replace A_b61 := A_b61.other W75 ne_b61_b69
          replace Z0 := Nat.le_trans Z0 (Keep.of_wr W75).1
          have N75 := Fr.snoc X75 N70 g_b69
          refine Go.st (S' := T75.setTop (mkF m 137 #[.val (.int p0), .val (.int p1), .val (.int K.toInt32), .val (.int (0 : Int32)), .val (.ref b61), .val (.ref b69), .val (.int (1 : Int32)), .unset, .unset, .unset] [])) (st75) ?_
          refine Go.st (S' := T75.setTop (mkF m 140 #[.val (.int p0), .val (.int p1), .val (.int K.toInt32), .val (.int (0 : Int32)), .val (.ref b61), .val (.ref b69), .val (.int ((1 : Int32) + (1 : Int32))), .unset, .unset, .unset] [])) (fun _ k_ => XS.iinc X75.here hx rfl (hb hby at_137) rfl (l' := #[.val (.int p0), .val (.int p1), .val (.int K.toInt32), .val (.int (0 : Int32)), .val (.ref b61), .val (.ref b69), .val (.int ((1 : Int32) + (1 : Int32))), .unset, .unset, .unset]) rfl k_) ?_
          rw [show ((1 : Int32) + (1 : Int32)) = (2 : Int32) from rfl]
          refine Go.st (S' := T75.setTop (mkF m 142 #[.val (.int p0), .val (.int p1), .val (.int K.toInt32), .val (.int (0 : Int32)), .val (.ref b61), .val (.ref b69), .val (.int (2 : Int32)), .unset, .unset, .unset] [(.ref b61)])) (fun _ k_ => XS.aload X75.here hx rfl (hb hby at_140) rfl rfl k_) ?_
          refine Go.st (S' := T75.setTop (mkF m 143 #[.val (.int p0), .val (.int p1), .val (.int K.toInt32), .val (.int (0 : Int32)), .val (.ref b61), .val (.ref b69), .val (.int (2 : Int32)), .unset, .unset, .unset] [(.int (3 : Int32)), (.ref b61)])) (fun _ k_ => XS.iconst X75.here hx rfl (hb hby at_142) k_) ?_
          refine Go.st (S' := T75.setTop (mkF m 144 #[.val (.int p0), .val (.int p1), .val (.int K.toInt32), .val (.int (0 : Int32)), .val (.ref b61), .val (.ref b69), .val (.int (2 : Int32)), .unset, .unset, .unset] [(.int x3)])) (A_b61.load X75 hx hZ e75 (j := (3 : Int32)) (v := x3) (by decide) rfl (g := (mkF m 143 #[.val (.int p0), .val (.int p1), .val (.int K.toInt32), .val (.int (0 : Int32)), .val (.ref b61), .val (.ref b69), .val (.int (2 : Int32)), .unset, .unset, .unset] [(.int (3 : Int32)), (.ref b61)])) rfl rfl (hb hby at_143)) ?_
          refine Go.st (S' := T75.setTop (mkF m 145 #[.val (.int p0), .val (.int p1), .val (.int K.toInt32), .val (.int (0 : Int32)), .val (.ref b61), .val (.ref b69), .val (.int (2 : Int32)), .unset, .unset, .unset] [(.int (0 : Int32)), (.int x3)])) (fun _ k_ => XS.iloadN X75.here hx rfl (hb hby at_144) rfl k_) ?_
          by_cases hc145 : x3 < (0 : Int32)
          · skip
            refine Go.st (S' := T75.setTop (mkF m 148 #[.val (.int p0), .val (.int p1), .val (.int K.toInt32), .val (.int (0 : Int32)), .val (.ref b61), .val (.ref b69), .val (.int (2 : Int32)), .unset, .unset, .unset] [])) (fun _ k_ => XS.icmpNo X75.here hx rfl (hb hby at_145) rfl (tlt hc145).2.1 k_) ?_
            refine Go.st (S' := T75.setTop (mkF m 150 #[.val (.int p0), .val (.int p1), .val (.int K.toInt32), .val (.int (0 : Int32)), .val (.ref b61), .val (.ref b69), .val (.int (2 : Int32)), .unset, .unset, .unset] [(.ref b69)])) (fun _ k_ => XS.aload X75.here hx rfl (hb hby at_148) rfl rfl k_) ?_
            refine Go.st (S' := T75.setTop (mkF m 152 #[.val (.int p0), .val (.int p1), .val (.int K.toInt32), .val (.int (0 : Int32)), .val (.ref b61), .val (.ref b69), .val (.int (2 : Int32)), .unset, .unset, .unset] [(.int (2 : Int32)), (.ref b69)])) (fun _ k_ => XS.iload X75.here hx rfl (hb hby at_150) rfl k_) ?_
            refine Go.st (S' := T75.setTop (mkF m 154 #[.val (.int p0), .val (.int p1), .val (.int K.toInt32), .val (.int (0 : Int32)), .val (.ref b61), .val (.ref b69), .val (.int (2 : Int32)), .unset, .unset, .unset] [(.ref b61), (.int (2 : Int32)), (.ref b69)])) (fun _ k_ => XS.aload X75.here hx rfl (hb hby at_152) rfl rfl k_) ?_
            refine Go.st (S' := T75.setTop (mkF m 155 #[.val (.int p0), .val (.int p1), .val (.int K.toInt32), .val (.int (0 : Int32)), .val (.ref b61), .val (.ref b69), .val (.int (2 : Int32)), .unset, .unset, .unset] [(.int (3 : Int32)), (.ref b61), (.int (2 : Int32)), (.ref b69)])) (fun _ k_ => XS.iconst X75.here hx rfl (hb hby at_154) k_) ?_
            refine Go.st (S' := T75.setTop (mkF m 156 #[.val (.int p0), .val (.int p1), .val (.int K.toInt32), .val (.int (0 : Int32)), .val (.ref b61), .val (.ref b69), .val (.int (2 : Int32)), .unset, .unset, .unset] [(.int x3), (.int (2 : Int32)), (.ref b69)])) (A_b61.load X75 hx hZ e75 (j := (3 : Int32)) (v := x3) (by decide) rfl (g := (mkF m 155 #[.val (.int p0), .val (.int p1), .val (.int K.toInt32), .val (.int (0 : Int32)), .val (.ref b61), .val (.ref b69), .val (.int (2 : Int32)), .unset, .unset, .unset] [(.int (3 : Int32)), (.ref b61), (.int (2 : Int32)), (.ref b69)])) rfl rfl (hb hby at_155)) ?_
            obtain ⟨T76, h76, X76, e76, W76, A76, st76⟩ := A_b69.store X75 hx hZ e75 (j := (2 : Int32)) (by decide) (Nat.le_of_ble_eq_true rfl) (g := (mkF m 156 #[.val (.int p0), .val (.int p1), .val (.int K.toInt32), .val (.int (0 : Int32)), .val (.ref b61), .val (.ref b69), .val (.int (2 : Int32)), .unset, .unset, .unset] [(.int x3), (.int (2 : Int32)), (.ref b69)])) rfl rfl (hb hby at_156)
            replace A_b69 : Ai Z h76 b69 .int [x0, x2, x3, (0 : Int32)] := A76
            replace A_b61 := A_b61.other W76 ne_b61_b69
            replace Z0 := Nat.le_trans Z0 (Keep.of_wr W76).1
            have N76 := Fr.snoc X76 N75 g_b69
            refine Go.st (S' := T76.setTop (mkF m 157 #[.val (.int p0), .val (.int p1), .val (.int K.toInt32), .val (.int (0 : Int32)), .val (.ref b61), .val (.ref b69), .val (.int (2 : Int32)), .unset, .unset, .unset] [])) (st76) ?_
            refine Go.st (S' := T76.setTop (mkF m 160 #[.val (.int p0), .val (.int p1), .val (.int K.toInt32), .val (.int (0 : Int32)), .val (.ref b61), .val (.ref b69), .val (.int ((2 : Int32) + (1 : Int32))), .unset, .unset, .unset] [])) (fun _ k_ => XS.iinc X76.here hx rfl (hb hby at_157) rfl (l' := #[.val (.int p0), .val (.int p1), .val (.int K.toInt32), .val (.int (0 : Int32)), .val (.ref b61), .val (.ref b69), .val (.int ((2 : Int32) + (1 : Int32))), .unset, .unset, .unset]) rfl k_) ?_
            rw [show ((2 : Int32) + (1 : Int32)) = (3 : Int32) from rfl]
            have hf2 : own_okb [x0, x2, x3] = true ∧ ([x0, x2, x3] : List Int32).length = 0 := by
              have q := hf
              rw [List.filter_cons, List.filter_cons, List.filter_cons, List.filter_cons, List.filter_nil] at q
              simp only [show (0 : Nat).toInt32 = (0 : Int32) from rfl, hc85, hc105, hc125, hc145, decide_true, decide_false, if_true, if_false, Bool.false_eq_true] at q
              exact q
            exact absurd hf2.2 (by show ¬ (3 = 0); decide)
          · skip
            refine Go.st (S' := T75.setTop (mkF m 160 #[.val (.int p0), .val (.int p1), .val (.int K.toInt32), .val (.int (0 : Int32)), .val (.ref b61), .val (.ref b69), .val (.int (2 : Int32)), .unset, .unset, .unset] [])) (fun _ k_ => XS.icmpYes X75.here hx rfl (pc0 := 145) (pc' := 160) rfl (hb hby at_145) rfl (flt hc145).2.1 (by decide) (by decide) k_) ?_
            have hf2 : own_okb [x0, x2] = true ∧ ([x0, x2] : List Int32).length = 0 := by
              have q := hf
              rw [List.filter_cons, List.filter_cons, List.filter_cons, List.filter_cons, List.filter_nil] at q
              simp only [show (0 : Nat).toInt32 = (0 : Int32) from rfl, hc85, hc105, hc125, hc145, decide_true, decide_false, if_true, if_false, Bool.false_eq_true] at q
              exact q
            exact absurd hf2.2 (by show ¬ (2 = 0); decide)
        · skip
          refine Go.st (S' := T70.setTop (mkF m 140 #[.val (.int p0), .val (.int p1), .val (.int K.toInt32), .val (.int (0 : Int32)), .val (.ref b61), .val (.ref b69), .val (.int (1 : Int32)), .unset, .unset, .unset] [])) (fun _ k_ => XS.icmpYes X70.here hx rfl (pc0 := 125) (pc' := 140) rfl (hb hby at_125) rfl (flt hc125).2.1 (by decide) (by decide) k_) ?_
          refine Go.st (S' := T70.setTop (mkF m 142 #[.val (.int p0), .val (.int p1), .val (.int K.toInt32), .val (.int (0 : Int32)), .val (.ref b61), .val (.ref b69), .val (.int (1 : Int32)), .unset, .unset, .unset] [(.ref b61)])) (fun _ k_ => XS.aload X70.here hx rfl (hb hby at_140) rfl rfl k_) ?_
          refine Go.st (S' := T70.setTop (mkF m 143 #[.val (.int p0), .val (.int p1), .val (.int K.toInt32), .val (.int (0 : Int32)), .val (.ref b61), .val (.ref b69), .val (.int (1 : Int32)), .unset, .unset, .unset] [(.int (3 : Int32)), (.ref b61)])) (fun _ k_ => XS.iconst X70.here hx rfl (hb hby at_142) k_) ?_
          refine Go.st (S' := T70.setTop (mkF m 144 #[.val (.int p0), .val (.int p1), .val (.int K.toInt32), .val (.int (0 : Int32)), .val (.ref b61), .val (.ref b69), .val (.int (1 : Int32)), .unset, .unset, .unset] [(.int x3)])) (A_b61.load X70 hx hZ e70 (j := (3 : Int32)) (v := x3) (by decide) rfl (g := (mkF m 143 #[.val (.int p0), .val (.int p1), .val (.int K.toInt32), .val (.int (0 : Int32)), .val (.ref b61), .val (.ref b69), .val (.int (1 : Int32)), .unset, .unset, .unset] [(.int (3 : Int32)), (.ref b61)])) rfl rfl (hb hby at_143)) ?_
          refine Go.st (S' := T70.setTop (mkF m 145 #[.val (.int p0), .val (.int p1), .val (.int K.toInt32), .val (.int (0 : Int32)), .val (.ref b61), .val (.ref b69), .val (.int (1 : Int32)), .unset, .unset, .unset] [(.int (0 : Int32)), (.int x3)])) (fun _ k_ => XS.iloadN X70.here hx rfl (hb hby at_144) rfl k_) ?_
          by_cases hc145 : x3 < (0 : Int32)
          · skip
            refine Go.st (S' := T70.setTop (mkF m 148 #[.val (.int p0), .val (.int p1), .val (.int K.toInt32), .val (.int (0 : Int32)), .val (.ref b61), .val (.ref b69), .val (.int (1 : Int32)), .unset, .unset, .unset] [])) (fun _ k_ => XS.icmpNo X70.here hx rfl (hb hby at_145) rfl (tlt hc145).2.1 k_) ?_
            refine Go.st (S' := T70.setTop (mkF m 150 #[.val (.int p0), .val (.int p1), .val (.int K.toInt32), .val (.int (0 : Int32)), .val (.ref b61), .val (.ref b69), .val (.int (1 : Int32)), .unset, .unset, .unset] [(.ref b69)])) (fun _ k_ => XS.aload X70.here hx rfl (hb hby at_148) rfl rfl k_) ?_
            refine Go.st (S' := T70.setTop (mkF m 152 #[.val (.int p0), .val (.int p1), .val (.int K.toInt32), .val (.int (0 : Int32)), .val (.ref b61), .val (.ref b69), .val (.int (1 : Int32)), .unset, .unset, .unset] [(.int (1 : Int32)), (.ref b69)])) (fun _ k_ => XS.iload X70.here hx rfl (hb hby at_150) rfl k_) ?_
            refine Go.st (S' := T70.setTop (mkF m 154 #[.val (.int p0), .val (.int p1), .val (.int K.toInt32), .val (.int (0 : Int32)), .val (.ref b61), .val (.ref b69), .val (.int (1 : Int32)), .unset, .unset, .unset] [(.ref b61), (.int (1 : Int32)), (.ref b69)])) (fun _ k_ => XS.aload X70.here hx rfl (hb hby at_152) rfl rfl k_) ?_
            refine Go.st (S' := T70.setTop (mkF m 155 #[.val (.int p0), .val (.int p1), .val (.int K.toInt32), .val (.int (0 : Int32)), .val (.ref b61), .val (.ref b69), .val (.int (1 : Int32)), .unset, .unset, .unset] [(.int (3 : Int32)), (.ref b61), (.int (1 : Int32)), (.ref b69)])) (fun _ k_ => XS.iconst X70.here hx rfl (hb hby at_154) k_) ?_
            refine Go.st (S' := T70.setTop (mkF m 156 #[.val (.int p0), .val (.int p1), .val (.int K.toInt32), .val (.int (0 : Int32)), .val (.ref b61), .val (.ref b69), .val (.int (1 : Int32)), .unset, .unset, .unset] [(.int x3), (.int (1 : Int32)), (.ref b69)])) (A_b61.load X70 hx hZ e70 (j := (3 : Int32)) (v := x3) (by decide) rfl (g := (mkF m 155 #[.val (.int p0), .val (.int p1), .val (.int K.toInt32), .val (.int (0 : Int32)), .val (.ref b61), .val (.ref b69), .val (.int (1 : Int32)), .unset, .unset, .unset] [(.int (3 : Int32)), (.ref b61), (.int (1 : Int32)), (.ref b69)])) rfl rfl (hb hby at_155)) ?_
            obtain ⟨T77, h77, X77, e77, W77, A77, st77⟩ := A_b69.store X70 hx hZ e70 (j := (1 : Int32)) (by decide) (Nat.le_of_ble_eq_true rfl) (g := (mkF m 156 #[.val (.int p0), .val (.int p1), .val (.int K.toInt32), .val (.int (0 : Int32)), .val (.ref b61), .val (.ref b69), .val (.int (1 : Int32)), .unset, .unset, .unset] [(.int x3), (.int (1 : Int32)), (.ref b69)])) rfl rfl (hb hby at_156)
            replace A_b69 : Ai Z h77 b69 .int [x0, x3, (0 : Int32), (0 : Int32)] := A77
            replace A_b61 := A_b61.other W77 ne_b61_b69
            replace Z0 := Nat.le_trans Z0 (Keep.of_wr W77).1
            have N77 := Fr.snoc X77 N70 g_b69
            refine Go.st (S' := T77.setTop (mkF m 157 #[.val (.int p0), .val (.int p1), .val (.int K.toInt32), .val (.int (0 : Int32)), .val (.ref b61), .val (.ref b69), .val (.int (1 : Int32)), .unset, .unset, .unset] [])) (st77) ?_
            refine Go.st (S' := T77.setTop (mkF m 160 #[.val (.int p0), .val (.int p1), .val (.int K.toInt32), .val (.int (0 : Int32)), .val (.ref b61), .val (.ref b69), .val (.int ((1 : Int32) + (1 : Int32))), .unset, .unset, .unset] [])) (fun _ k_ => XS.iinc X77.here hx rfl (hb hby at_157) rfl (l' := #[.val (.int p0), .val (.int p1), .val (.int K.toInt32), .val (.int (0 : Int32)), .val (.ref b61), .val (.ref b69), .val (.int ((1 : Int32) + (1 : Int32))), .unset, .unset, .unset]) rfl k_) ?_
            rw [show ((1 : Int32) + (1 : Int32)) = (2 : Int32) from rfl]
            have hf2 : own_okb [x0, x3] = true ∧ ([x0, x3] : List Int32).length = 0 := by
              have q := hf
              rw [List.filter_cons, List.filter_cons, List.filter_cons, List.filter_cons, List.filter_nil] at q
              simp only [show (0 : Nat).toInt32 = (0 : Int32) from rfl, hc85, hc105, hc125, hc145, decide_true, decide_false, if_true, if_false, Bool.false_eq_true] at q
              exact q
            exact absurd hf2.2 (by show ¬ (2 = 0); decide)
          · skip
            refine Go.st (S' := T70.setTop (mkF m 160 #[.val (.int p0), .val (.int p1), .val (.int K.toInt32), .val (.int (0 : Int32)), .val (.ref b61), .val (.ref b69), .val (.int (1 : Int32)), .unset, .unset, .unset] [])) (fun _ k_ => XS.icmpYes X70.here hx rfl (pc0 := 145) (pc' := 160) rfl (hb hby at_145) rfl (flt hc145).2.1 (by decide) (by decide) k_) ?_
            have hf2 : own_okb [x0] = true ∧ ([x0] : List Int32).length = 0 := by
              have q := hf
              rw [List.filter_cons, List.filter_cons, List.filter_cons, List.filter_cons, List.filter_nil] at q
              simp only [show (0 : Nat).toInt32 = (0 : Int32) from rfl, hc85, hc105, hc125, hc145, decide_true, decide_false, if_true, if_false, Bool.false_eq_true] at q
              exact q
            exact absurd hf2.2 (by show ¬ (1 = 0); decide)
    · skip
      refine Go.st (S' := T69.setTop (mkF m 100 #[.val (.int p0), .val (.int p1), .val (.int K.toInt32), .val (.int (0 : Int32)), .val (.ref b61), .val (.ref b69), .val (.int (0 : Int32)), .unset, .unset, .unset] [])) (fun _ k_ => XS.icmpYes X69.here hx rfl (pc0 := 85) (pc' := 100) rfl (hb hby at_85) rfl (flt hc85).2.1 (by decide) (by decide) k_) ?_
      refine Go.st (S' := T69.setTop (mkF m 102 #[.val (.int p0), .val (.int p1), .val (.int K.toInt32), .val (.int (0 : Int32)), .val (.ref b61), .val (.ref b69), .val (.int (0 : Int32)), .unset, .unset, .unset] [(.ref b61)])) (fun _ k_ => XS.aload X69.here hx rfl (hb hby at_100) rfl rfl k_) ?_
      refine Go.st (S' := T69.setTop (mkF m 103 #[.val (.int p0), .val (.int p1), .val (.int K.toInt32), .val (.int (0 : Int32)), .val (.ref b61), .val (.ref b69), .val (.int (0 : Int32)), .unset, .unset, .unset] [(.int (1 : Int32)), (.ref b61)])) (fun _ k_ => XS.iconst X69.here hx rfl (hb hby at_102) k_) ?_
      refine Go.st (S' := T69.setTop (mkF m 104 #[.val (.int p0), .val (.int p1), .val (.int K.toInt32), .val (.int (0 : Int32)), .val (.ref b61), .val (.ref b69), .val (.int (0 : Int32)), .unset, .unset, .unset] [(.int x1)])) (A_b61.load X69 hx hZ e69 (j := (1 : Int32)) (v := x1) (by decide) rfl (g := (mkF m 103 #[.val (.int p0), .val (.int p1), .val (.int K.toInt32), .val (.int (0 : Int32)), .val (.ref b61), .val (.ref b69), .val (.int (0 : Int32)), .unset, .unset, .unset] [(.int (1 : Int32)), (.ref b61)])) rfl rfl (hb hby at_103)) ?_
      refine Go.st (S' := T69.setTop (mkF m 105 #[.val (.int p0), .val (.int p1), .val (.int K.toInt32), .val (.int (0 : Int32)), .val (.ref b61), .val (.ref b69), .val (.int (0 : Int32)), .unset, .unset, .unset] [(.int (0 : Int32)), (.int x1)])) (fun _ k_ => XS.iloadN X69.here hx rfl (hb hby at_104) rfl k_) ?_
      by_cases hc105 : x1 < (0 : Int32)
      · skip
        refine Go.st (S' := T69.setTop (mkF m 108 #[.val (.int p0), .val (.int p1), .val (.int K.toInt32), .val (.int (0 : Int32)), .val (.ref b61), .val (.ref b69), .val (.int (0 : Int32)), .unset, .unset, .unset] [])) (fun _ k_ => XS.icmpNo X69.here hx rfl (hb hby at_105) rfl (tlt hc105).2.1 k_) ?_
        refine Go.st (S' := T69.setTop (mkF m 110 #[.val (.int p0), .val (.int p1), .val (.int K.toInt32), .val (.int (0 : Int32)), .val (.ref b61), .val (.ref b69), .val (.int (0 : Int32)), .unset, .unset, .unset] [(.ref b69)])) (fun _ k_ => XS.aload X69.here hx rfl (hb hby at_108) rfl rfl k_) ?_
        refine Go.st (S' := T69.setTop (mkF m 112 #[.val (.int p0), .val (.int p1), .val (.int K.toInt32), .val (.int (0 : Int32)), .val (.ref b61), .val (.ref b69), .val (.int (0 : Int32)), .unset, .unset, .unset] [(.int (0 : Int32)), (.ref b69)])) (fun _ k_ => XS.iload X69.here hx rfl (hb hby at_110) rfl k_) ?_
        refine Go.st (S' := T69.setTop (mkF m 114 #[.val (.int p0), .val (.int p1), .val (.int K.toInt32), .val (.int (0 : Int32)), .val (.ref b61), .val (.ref b69), .val (.int (0 : Int32)), .unset, .unset, .unset] [(.ref b61), (.int (0 : Int32)), (.ref b69)])) (fun _ k_ => XS.aload X69.here hx rfl (hb hby at_112) rfl rfl k_) ?_
        refine Go.st (S' := T69.setTop (mkF m 115 #[.val (.int p0), .val (.int p1), .val (.int K.toInt32), .val (.int (0 : Int32)), .val (.ref b61), .val (.ref b69), .val (.int (0 : Int32)), .unset, .unset, .unset] [(.int (1 : Int32)), (.ref b61), (.int (0 : Int32)), (.ref b69)])) (fun _ k_ => XS.iconst X69.here hx rfl (hb hby at_114) k_) ?_
        refine Go.st (S' := T69.setTop (mkF m 116 #[.val (.int p0), .val (.int p1), .val (.int K.toInt32), .val (.int (0 : Int32)), .val (.ref b61), .val (.ref b69), .val (.int (0 : Int32)), .unset, .unset, .unset] [(.int x1), (.int (0 : Int32)), (.ref b69)])) (A_b61.load X69 hx hZ e69 (j := (1 : Int32)) (v := x1) (by decide) rfl (g := (mkF m 115 #[.val (.int p0), .val (.int p1), .val (.int K.toInt32), .val (.int (0 : Int32)), .val (.ref b61), .val (.ref b69), .val (.int (0 : Int32)), .unset, .unset, .unset] [(.int (1 : Int32)), (.ref b61), (.int (0 : Int32)), (.ref b69)])) rfl rfl (hb hby at_115)) ?_
        obtain ⟨T78, h78, X78, e78, W78, A78, st78⟩ := A_b69.store X69 hx hZ e69 (j := (0 : Int32)) (by decide) (Nat.le_of_ble_eq_true rfl) (g := (mkF m 116 #[.val (.int p0), .val (.int p1), .val (.int K.toInt32), .val (.int (0 : Int32)), .val (.ref b61), .val (.ref b69), .val (.int (0 : Int32)), .unset, .unset, .unset] [(.int x1), (.int (0 : Int32)), (.ref b69)])) rfl rfl (hb hby at_116)
        replace A_b69 : Ai Z h78 b69 .int [x1, (0 : Int32), (0 : Int32), (0 : Int32)] := A78
        replace A_b61 := A_b61.other W78 ne_b61_b69
        replace Z0 := Nat.le_trans Z0 (Keep.of_wr W78).1
        have N78 := Fr.snoc X78 N68 g_b69
        refine Go.st (S' := T78.setTop (mkF m 117 #[.val (.int p0), .val (.int p1), .val (.int K.toInt32), .val (.int (0 : Int32)), .val (.ref b61), .val (.ref b69), .val (.int (0 : Int32)), .unset, .unset, .unset] [])) (st78) ?_
        refine Go.st (S' := T78.setTop (mkF m 120 #[.val (.int p0), .val (.int p1), .val (.int K.toInt32), .val (.int (0 : Int32)), .val (.ref b61), .val (.ref b69), .val (.int ((0 : Int32) + (1 : Int32))), .unset, .unset, .unset] [])) (fun _ k_ => XS.iinc X78.here hx rfl (hb hby at_117) rfl (l' := #[.val (.int p0), .val (.int p1), .val (.int K.toInt32), .val (.int (0 : Int32)), .val (.ref b61), .val (.ref b69), .val (.int ((0 : Int32) + (1 : Int32))), .unset, .unset, .unset]) rfl k_) ?_
        rw [show ((0 : Int32) + (1 : Int32)) = (1 : Int32) from rfl]
        refine Go.st (S' := T78.setTop (mkF m 122 #[.val (.int p0), .val (.int p1), .val (.int K.toInt32), .val (.int (0 : Int32)), .val (.ref b61), .val (.ref b69), .val (.int (1 : Int32)), .unset, .unset, .unset] [(.ref b61)])) (fun _ k_ => XS.aload X78.here hx rfl (hb hby at_120) rfl rfl k_) ?_
        refine Go.st (S' := T78.setTop (mkF m 123 #[.val (.int p0), .val (.int p1), .val (.int K.toInt32), .val (.int (0 : Int32)), .val (.ref b61), .val (.ref b69), .val (.int (1 : Int32)), .unset, .unset, .unset] [(.int (2 : Int32)), (.ref b61)])) (fun _ k_ => XS.iconst X78.here hx rfl (hb hby at_122) k_) ?_
        refine Go.st (S' := T78.setTop (mkF m 124 #[.val (.int p0), .val (.int p1), .val (.int K.toInt32), .val (.int (0 : Int32)), .val (.ref b61), .val (.ref b69), .val (.int (1 : Int32)), .unset, .unset, .unset] [(.int x2)])) (A_b61.load X78 hx hZ e78 (j := (2 : Int32)) (v := x2) (by decide) rfl (g := (mkF m 123 #[.val (.int p0), .val (.int p1), .val (.int K.toInt32), .val (.int (0 : Int32)), .val (.ref b61), .val (.ref b69), .val (.int (1 : Int32)), .unset, .unset, .unset] [(.int (2 : Int32)), (.ref b61)])) rfl rfl (hb hby at_123)) ?_
        refine Go.st (S' := T78.setTop (mkF m 125 #[.val (.int p0), .val (.int p1), .val (.int K.toInt32), .val (.int (0 : Int32)), .val (.ref b61), .val (.ref b69), .val (.int (1 : Int32)), .unset, .unset, .unset] [(.int (0 : Int32)), (.int x2)])) (fun _ k_ => XS.iloadN X78.here hx rfl (hb hby at_124) rfl k_) ?_
        by_cases hc125 : x2 < (0 : Int32)
        · skip
          refine Go.st (S' := T78.setTop (mkF m 128 #[.val (.int p0), .val (.int p1), .val (.int K.toInt32), .val (.int (0 : Int32)), .val (.ref b61), .val (.ref b69), .val (.int (1 : Int32)), .unset, .unset, .unset] [])) (fun _ k_ => XS.icmpNo X78.here hx rfl (hb hby at_125) rfl (tlt hc125).2.1 k_) ?_
          refine Go.st (S' := T78.setTop (mkF m 130 #[.val (.int p0), .val (.int p1), .val (.int K.toInt32), .val (.int (0 : Int32)), .val (.ref b61), .val (.ref b69), .val (.int (1 : Int32)), .unset, .unset, .unset] [(.ref b69)])) (fun _ k_ => XS.aload X78.here hx rfl (hb hby at_128) rfl rfl k_) ?_
          refine Go.st (S' := T78.setTop (mkF m 132 #[.val (.int p0), .val (.int p1), .val (.int K.toInt32), .val (.int (0 : Int32)), .val (.ref b61), .val (.ref b69), .val (.int (1 : Int32)), .unset, .unset, .unset] [(.int (1 : Int32)), (.ref b69)])) (fun _ k_ => XS.iload X78.here hx rfl (hb hby at_130) rfl k_) ?_
          refine Go.st (S' := T78.setTop (mkF m 134 #[.val (.int p0), .val (.int p1), .val (.int K.toInt32), .val (.int (0 : Int32)), .val (.ref b61), .val (.ref b69), .val (.int (1 : Int32)), .unset, .unset, .unset] [(.ref b61), (.int (1 : Int32)), (.ref b69)])) (fun _ k_ => XS.aload X78.here hx rfl (hb hby at_132) rfl rfl k_) ?_
          refine Go.st (S' := T78.setTop (mkF m 135 #[.val (.int p0), .val (.int p1), .val (.int K.toInt32), .val (.int (0 : Int32)), .val (.ref b61), .val (.ref b69), .val (.int (1 : Int32)), .unset, .unset, .unset] [(.int (2 : Int32)), (.ref b61), (.int (1 : Int32)), (.ref b69)])) (fun _ k_ => XS.iconst X78.here hx rfl (hb hby at_134) k_) ?_
          refine Go.st (S' := T78.setTop (mkF m 136 #[.val (.int p0), .val (.int p1), .val (.int K.toInt32), .val (.int (0 : Int32)), .val (.ref b61), .val (.ref b69), .val (.int (1 : Int32)), .unset, .unset, .unset] [(.int x2), (.int (1 : Int32)), (.ref b69)])) (A_b61.load X78 hx hZ e78 (j := (2 : Int32)) (v := x2) (by decide) rfl (g := (mkF m 135 #[.val (.int p0), .val (.int p1), .val (.int K.toInt32), .val (.int (0 : Int32)), .val (.ref b61), .val (.ref b69), .val (.int (1 : Int32)), .unset, .unset, .unset] [(.int (2 : Int32)), (.ref b61), (.int (1 : Int32)), (.ref b69)])) rfl rfl (hb hby at_135)) ?_
          obtain ⟨T79, h79, X79, e79, W79, A79, st79⟩ := A_b69.store X78 hx hZ e78 (j := (1 : Int32)) (by decide) (Nat.le_of_ble_eq_true rfl) (g := (mkF m 136 #[.val (.int p0), .val (.int p1), .val (.int K.toInt32), .val (.int (0 : Int32)), .val (.ref b61), .val (.ref b69), .val (.int (1 : Int32)), .unset, .unset, .unset] [(.int x2), (.int (1 : Int32)), (.ref b69)])) rfl rfl (hb hby at_136)
          replace A_b69 : Ai Z h79 b69 .int [x1, x2, (0 : Int32), (0 : Int32)] := A79
          replace A_b61 := A_b61.other W79 ne_b61_b69
          replace Z0 := Nat.le_trans Z0 (Keep.of_wr W79).1
          have N79 := Fr.snoc X79 N78 g_b69
          refine Go.st (S' := T79.setTop (mkF m 137 #[.val (.int p0), .val (.int p1), .val (.int K.toInt32), .val (.int (0 : Int32)), .val (.ref b61), .val (.ref b69), .val (.int (1 : Int32)), .unset, .unset, .unset] [])) (st79) ?_
          refine Go.st (S' := T79.setTop (mkF m 140 #[.val (.int p0), .val (.int p1), .val (.int K.toInt32), .val (.int (0 : Int32)), .val (.ref b61), .val (.ref b69), .val (.int ((1 : Int32) + (1 : Int32))), .unset, .unset, .unset] [])) (fun _ k_ => XS.iinc X79.here hx rfl (hb hby at_137) rfl (l' := #[.val (.int p0), .val (.int p1), .val (.int K.toInt32), .val (.int (0 : Int32)), .val (.ref b61), .val (.ref b69), .val (.int ((1 : Int32) + (1 : Int32))), .unset, .unset, .unset]) rfl k_) ?_
          rw [show ((1 : Int32) + (1 : Int32)) = (2 : Int32) from rfl]
          refine Go.st (S' := T79.setTop (mkF m 142 #[.val (.int p0), .val (.int p1), .val (.int K.toInt32), .val (.int (0 : Int32)), .val (.ref b61), .val (.ref b69), .val (.int (2 : Int32)), .unset, .unset, .unset] [(.ref b61)])) (fun _ k_ => XS.aload X79.here hx rfl (hb hby at_140) rfl rfl k_) ?_
          refine Go.st (S' := T79.setTop (mkF m 143 #[.val (.int p0), .val (.int p1), .val (.int K.toInt32), .val (.int (0 : Int32)), .val (.ref b61), .val (.ref b69), .val (.int (2 : Int32)), .unset, .unset, .unset] [(.int (3 : Int32)), (.ref b61)])) (fun _ k_ => XS.iconst X79.here hx rfl (hb hby at_142) k_) ?_
          refine Go.st (S' := T79.setTop (mkF m 144 #[.val (.int p0), .val (.int p1), .val (.int K.toInt32), .val (.int (0 : Int32)), .val (.ref b61), .val (.ref b69), .val (.int (2 : Int32)), .unset, .unset, .unset] [(.int x3)])) (A_b61.load X79 hx hZ e79 (j := (3 : Int32)) (v := x3) (by decide) rfl (g := (mkF m 143 #[.val (.int p0), .val (.int p1), .val (.int K.toInt32), .val (.int (0 : Int32)), .val (.ref b61), .val (.ref b69), .val (.int (2 : Int32)), .unset, .unset, .unset] [(.int (3 : Int32)), (.ref b61)])) rfl rfl (hb hby at_143)) ?_
          refine Go.st (S' := T79.setTop (mkF m 145 #[.val (.int p0), .val (.int p1), .val (.int K.toInt32), .val (.int (0 : Int32)), .val (.ref b61), .val (.ref b69), .val (.int (2 : Int32)), .unset, .unset, .unset] [(.int (0 : Int32)), (.int x3)])) (fun _ k_ => XS.iloadN X79.here hx rfl (hb hby at_144) rfl k_) ?_
          by_cases hc145 : x3 < (0 : Int32)
          · skip
            refine Go.st (S' := T79.setTop (mkF m 148 #[.val (.int p0), .val (.int p1), .val (.int K.toInt32), .val (.int (0 : Int32)), .val (.ref b61), .val (.ref b69), .val (.int (2 : Int32)), .unset, .unset, .unset] [])) (fun _ k_ => XS.icmpNo X79.here hx rfl (hb hby at_145) rfl (tlt hc145).2.1 k_) ?_
            refine Go.st (S' := T79.setTop (mkF m 150 #[.val (.int p0), .val (.int p1), .val (.int K.toInt32), .val (.int (0 : Int32)), .val (.ref b61), .val (.ref b69), .val (.int (2 : Int32)), .unset, .unset, .unset] [(.ref b69)])) (fun _ k_ => XS.aload X79.here hx rfl (hb hby at_148) rfl rfl k_) ?_
            refine Go.st (S' := T79.setTop (mkF m 152 #[.val (.int p0), .val (.int p1), .val (.int K.toInt32), .val (.int (0 : Int32)), .val (.ref b61), .val (.ref b69), .val (.int (2 : Int32)), .unset, .unset, .unset] [(.int (2 : Int32)), (.ref b69)])) (fun _ k_ => XS.iload X79.here hx rfl (hb hby at_150) rfl k_) ?_
            refine Go.st (S' := T79.setTop (mkF m 154 #[.val (.int p0), .val (.int p1), .val (.int K.toInt32), .val (.int (0 : Int32)), .val (.ref b61), .val (.ref b69), .val (.int (2 : Int32)), .unset, .unset, .unset] [(.ref b61), (.int (2 : Int32)), (.ref b69)])) (fun _ k_ => XS.aload X79.here hx rfl (hb hby at_152) rfl rfl k_) ?_
            refine Go.st (S' := T79.setTop (mkF m 155 #[.val (.int p0), .val (.int p1), .val (.int K.toInt32), .val (.int (0 : Int32)), .val (.ref b61), .val (.ref b69), .val (.int (2 : Int32)), .unset, .unset, .unset] [(.int (3 : Int32)), (.ref b61), (.int (2 : Int32)), (.ref b69)])) (fun _ k_ => XS.iconst X79.here hx rfl (hb hby at_154) k_) ?_
            refine Go.st (S' := T79.setTop (mkF m 156 #[.val (.int p0), .val (.int p1), .val (.int K.toInt32), .val (.int (0 : Int32)), .val (.ref b61), .val (.ref b69), .val (.int (2 : Int32)), .unset, .unset, .unset] [(.int x3), (.int (2 : Int32)), (.ref b69)])) (A_b61.load X79 hx hZ e79 (j := (3 : Int32)) (v := x3) (by decide) rfl (g := (mkF m 155 #[.val (.int p0), .val (.int p1), .val (.int K.toInt32), .val (.int (0 : Int32)), .val (.ref b61), .val (.ref b69), .val (.int (2 : Int32)), .unset, .unset, .unset] [(.int (3 : Int32)), (.ref b61), (.int (2 : Int32)), (.ref b69)])) rfl rfl (hb hby at_155)) ?_
            obtain ⟨T80, h80, X80, e80, W80, A80, st80⟩ := A_b69.store X79 hx hZ e79 (j := (2 : Int32)) (by decide) (Nat.le_of_ble_eq_true rfl) (g := (mkF m 156 #[.val (.int p0), .val (.int p1), .val (.int K.toInt32), .val (.int (0 : Int32)), .val (.ref b61), .val (.ref b69), .val (.int (2 : Int32)), .unset, .unset, .unset] [(.int x3), (.int (2 : Int32)), (.ref b69)])) rfl rfl (hb hby at_156)
            replace A_b69 : Ai Z h80 b69 .int [x1, x2, x3, (0 : Int32)] := A80
            replace A_b61 := A_b61.other W80 ne_b61_b69
            replace Z0 := Nat.le_trans Z0 (Keep.of_wr W80).1
            have N80 := Fr.snoc X80 N79 g_b69
            refine Go.st (S' := T80.setTop (mkF m 157 #[.val (.int p0), .val (.int p1), .val (.int K.toInt32), .val (.int (0 : Int32)), .val (.ref b61), .val (.ref b69), .val (.int (2 : Int32)), .unset, .unset, .unset] [])) (st80) ?_
            refine Go.st (S' := T80.setTop (mkF m 160 #[.val (.int p0), .val (.int p1), .val (.int K.toInt32), .val (.int (0 : Int32)), .val (.ref b61), .val (.ref b69), .val (.int ((2 : Int32) + (1 : Int32))), .unset, .unset, .unset] [])) (fun _ k_ => XS.iinc X80.here hx rfl (hb hby at_157) rfl (l' := #[.val (.int p0), .val (.int p1), .val (.int K.toInt32), .val (.int (0 : Int32)), .val (.ref b61), .val (.ref b69), .val (.int ((2 : Int32) + (1 : Int32))), .unset, .unset, .unset]) rfl k_) ?_
            rw [show ((2 : Int32) + (1 : Int32)) = (3 : Int32) from rfl]
            have hf2 : own_okb [x1, x2, x3] = true ∧ ([x1, x2, x3] : List Int32).length = 0 := by
              have q := hf
              rw [List.filter_cons, List.filter_cons, List.filter_cons, List.filter_cons, List.filter_nil] at q
              simp only [show (0 : Nat).toInt32 = (0 : Int32) from rfl, hc85, hc105, hc125, hc145, decide_true, decide_false, if_true, if_false, Bool.false_eq_true] at q
              exact q
            exact absurd hf2.2 (by show ¬ (3 = 0); decide)
          · skip
            refine Go.st (S' := T79.setTop (mkF m 160 #[.val (.int p0), .val (.int p1), .val (.int K.toInt32), .val (.int (0 : Int32)), .val (.ref b61), .val (.ref b69), .val (.int (2 : Int32)), .unset, .unset, .unset] [])) (fun _ k_ => XS.icmpYes X79.here hx rfl (pc0 := 145) (pc' := 160) rfl (hb hby at_145) rfl (flt hc145).2.1 (by decide) (by decide) k_) ?_
            have hf2 : own_okb [x1, x2] = true ∧ ([x1, x2] : List Int32).length = 0 := by
              have q := hf
              rw [List.filter_cons, List.filter_cons, List.filter_cons, List.filter_cons, List.filter_nil] at q
              simp only [show (0 : Nat).toInt32 = (0 : Int32) from rfl, hc85, hc105, hc125, hc145, decide_true, decide_false, if_true, if_false, Bool.false_eq_true] at q
              exact q
            exact absurd hf2.2 (by show ¬ (2 = 0); decide)
        · skip
          refine Go.st (S' := T78.setTop (mkF m 140 #[.val (.int p0), .val (.int p1), .val (.int K.toInt32), .val (.int (0 : Int32)), .val (.ref b61), .val (.ref b69), .val (.int (1 : Int32)), .unset, .unset, .unset] [])) (fun _ k_ => XS.icmpYes X78.here hx rfl (pc0 := 125) (pc' := 140) rfl (hb hby at_125) rfl (flt hc125).2.1 (by decide) (by decide) k_) ?_
          refine Go.st (S' := T78.setTop (mkF m 142 #[.val (.int p0), .val (.int p1), .val (.int K.toInt32), .val (.int (0 : Int32)), .val (.ref b61), .val (.ref b69), .val (.int (1 : Int32)), .unset, .unset, .unset] [(.ref b61)])) (fun _ k_ => XS.aload X78.here hx rfl (hb hby at_140) rfl rfl k_) ?_
          refine Go.st (S' := T78.setTop (mkF m 143 #[.val (.int p0), .val (.int p1), .val (.int K.toInt32), .val (.int (0 : Int32)), .val (.ref b61), .val (.ref b69), .val (.int (1 : Int32)), .unset, .unset, .unset] [(.int (3 : Int32)), (.ref b61)])) (fun _ k_ => XS.iconst X78.here hx rfl (hb hby at_142) k_) ?_
          refine Go.st (S' := T78.setTop (mkF m 144 #[.val (.int p0), .val (.int p1), .val (.int K.toInt32), .val (.int (0 : Int32)), .val (.ref b61), .val (.ref b69), .val (.int (1 : Int32)), .unset, .unset, .unset] [(.int x3)])) (A_b61.load X78 hx hZ e78 (j := (3 : Int32)) (v := x3) (by decide) rfl (g := (mkF m 143 #[.val (.int p0), .val (.int p1), .val (.int K.toInt32), .val (.int (0 : Int32)), .val (.ref b61), .val (.ref b69), .val (.int (1 : Int32)), .unset, .unset, .unset] [(.int (3 : Int32)), (.ref b61)])) rfl rfl (hb hby at_143)) ?_
          refine Go.st (S' := T78.setTop (mkF m 145 #[.val (.int p0), .val (.int p1), .val (.int K.toInt32), .val (.int (0 : Int32)), .val (.ref b61), .val (.ref b69), .val (.int (1 : Int32)), .unset, .unset, .unset] [(.int (0 : Int32)), (.int x3)])) (fun _ k_ => XS.iloadN X78.here hx rfl (hb hby at_144) rfl k_) ?_
          by_cases hc145 : x3 < (0 : Int32)
          · skip
            refine Go.st (S' := T78.setTop (mkF m 148 #[.val (.int p0), .val (.int p1), .val (.int K.toInt32), .val (.int (0 : Int32)), .val (.ref b61), .val (.ref b69), .val (.int (1 : Int32)), .unset, .unset, .unset] [])) (fun _ k_ => XS.icmpNo X78.here hx rfl (hb hby at_145) rfl (tlt hc145).2.1 k_) ?_
            refine Go.st (S' := T78.setTop (mkF m 150 #[.val (.int p0), .val (.int p1), .val (.int K.toInt32), .val (.int (0 : Int32)), .val (.ref b61), .val (.ref b69), .val (.int (1 : Int32)), .unset, .unset, .unset] [(.ref b69)])) (fun _ k_ => XS.aload X78.here hx rfl (hb hby at_148) rfl rfl k_) ?_
            refine Go.st (S' := T78.setTop (mkF m 152 #[.val (.int p0), .val (.int p1), .val (.int K.toInt32), .val (.int (0 : Int32)), .val (.ref b61), .val (.ref b69), .val (.int (1 : Int32)), .unset, .unset, .unset] [(.int (1 : Int32)), (.ref b69)])) (fun _ k_ => XS.iload X78.here hx rfl (hb hby at_150) rfl k_) ?_
            refine Go.st (S' := T78.setTop (mkF m 154 #[.val (.int p0), .val (.int p1), .val (.int K.toInt32), .val (.int (0 : Int32)), .val (.ref b61), .val (.ref b69), .val (.int (1 : Int32)), .unset, .unset, .unset] [(.ref b61), (.int (1 : Int32)), (.ref b69)])) (fun _ k_ => XS.aload X78.here hx rfl (hb hby at_152) rfl rfl k_) ?_
            refine Go.st (S' := T78.setTop (mkF m 155 #[.val (.int p0), .val (.int p1), .val (.int K.toInt32), .val (.int (0 : Int32)), .val (.ref b61), .val (.ref b69), .val (.int (1 : Int32)), .unset, .unset, .unset] [(.int (3 : Int32)), (.ref b61), (.int (1 : Int32)), (.ref b69)])) (fun _ k_ => XS.iconst X78.here hx rfl (hb hby at_154) k_) ?_
            refine Go.st (S' := T78.setTop (mkF m 156 #[.val (.int p0), .val (.int p1), .val (.int K.toInt32), .val (.int (0 : Int32)), .val (.ref b61), .val (.ref b69), .val (.int (1 : Int32)), .unset, .unset, .unset] [(.int x3), (.int (1 : Int32)), (.ref b69)])) (A_b61.load X78 hx hZ e78 (j := (3 : Int32)) (v := x3) (by decide) rfl (g := (mkF m 155 #[.val (.int p0), .val (.int p1), .val (.int K.toInt32), .val (.int (0 : Int32)), .val (.ref b61), .val (.ref b69), .val (.int (1 : Int32)), .unset, .unset, .unset] [(.int (3 : Int32)), (.ref b61), (.int (1 : Int32)), (.ref b69)])) rfl rfl (hb hby at_155)) ?_
            obtain ⟨T81, h81, X81, e81, W81, A81, st81⟩ := A_b69.store X78 hx hZ e78 (j := (1 : Int32)) (by decide) (Nat.le_of_ble_eq_true rfl) (g := (mkF m 156 #[.val (.int p0), .val (.int p1), .val (.int K.toInt32), .val (.int (0 : Int32)), .val (.ref b61), .val (.ref b69), .val (.int (1 : Int32)), .unset, .unset, .unset] [(.int x3), (.int (1 : Int32)), (.ref b69)])) rfl rfl (hb hby at_156)
            replace A_b69 : Ai Z h81 b69 .int [x1, x3, (0 : Int32), (0 : Int32)] := A81
            replace A_b61 := A_b61.other W81 ne_b61_b69
            replace Z0 := Nat.le_trans Z0 (Keep.of_wr W81).1
            have N81 := Fr.snoc X81 N78 g_b69
            refine Go.st (S' := T81.setTop (mkF m 157 #[.val (.int p0), .val (.int p1), .val (.int K.toInt32), .val (.int (0 : Int32)), .val (.ref b61), .val (.ref b69), .val (.int (1 : Int32)), .unset, .unset, .unset] [])) (st81) ?_
            refine Go.st (S' := T81.setTop (mkF m 160 #[.val (.int p0), .val (.int p1), .val (.int K.toInt32), .val (.int (0 : Int32)), .val (.ref b61), .val (.ref b69), .val (.int ((1 : Int32) + (1 : Int32))), .unset, .unset, .unset] [])) (fun _ k_ => XS.iinc X81.here hx rfl (hb hby at_157) rfl (l' := #[.val (.int p0), .val (.int p1), .val (.int K.toInt32), .val (.int (0 : Int32)), .val (.ref b61), .val (.ref b69), .val (.int ((1 : Int32) + (1 : Int32))), .unset, .unset, .unset]) rfl k_) ?_
            rw [show ((1 : Int32) + (1 : Int32)) = (2 : Int32) from rfl]
            have hf2 : own_okb [x1, x3] = true ∧ ([x1, x3] : List Int32).length = 0 := by
              have q := hf
              rw [List.filter_cons, List.filter_cons, List.filter_cons, List.filter_cons, List.filter_nil] at q
              simp only [show (0 : Nat).toInt32 = (0 : Int32) from rfl, hc85, hc105, hc125, hc145, decide_true, decide_false, if_true, if_false, Bool.false_eq_true] at q
              exact q
            exact absurd hf2.2 (by show ¬ (2 = 0); decide)
          · skip
            refine Go.st (S' := T78.setTop (mkF m 160 #[.val (.int p0), .val (.int p1), .val (.int K.toInt32), .val (.int (0 : Int32)), .val (.ref b61), .val (.ref b69), .val (.int (1 : Int32)), .unset, .unset, .unset] [])) (fun _ k_ => XS.icmpYes X78.here hx rfl (pc0 := 145) (pc' := 160) rfl (hb hby at_145) rfl (flt hc145).2.1 (by decide) (by decide) k_) ?_
            have hf2 : own_okb [x1] = true ∧ ([x1] : List Int32).length = 0 := by
              have q := hf
              rw [List.filter_cons, List.filter_cons, List.filter_cons, List.filter_cons, List.filter_nil] at q
              simp only [show (0 : Nat).toInt32 = (0 : Int32) from rfl, hc85, hc105, hc125, hc145, decide_true, decide_false, if_true, if_false, Bool.false_eq_true] at q
              exact q
            exact absurd hf2.2 (by show ¬ (1 = 0); decide)
      · skip
        refine Go.st (S' := T69.setTop (mkF m 120 #[.val (.int p0), .val (.int p1), .val (.int K.toInt32), .val (.int (0 : Int32)), .val (.ref b61), .val (.ref b69), .val (.int (0 : Int32)), .unset, .unset, .unset] [])) (fun _ k_ => XS.icmpYes X69.here hx rfl (pc0 := 105) (pc' := 120) rfl (hb hby at_105) rfl (flt hc105).2.1 (by decide) (by decide) k_) ?_
        refine Go.st (S' := T69.setTop (mkF m 122 #[.val (.int p0), .val (.int p1), .val (.int K.toInt32), .val (.int (0 : Int32)), .val (.ref b61), .val (.ref b69), .val (.int (0 : Int32)), .unset, .unset, .unset] [(.ref b61)])) (fun _ k_ => XS.aload X69.here hx rfl (hb hby at_120) rfl rfl k_) ?_
        refine Go.st (S' := T69.setTop (mkF m 123 #[.val (.int p0), .val (.int p1), .val (.int K.toInt32), .val (.int (0 : Int32)), .val (.ref b61), .val (.ref b69), .val (.int (0 : Int32)), .unset, .unset, .unset] [(.int (2 : Int32)), (.ref b61)])) (fun _ k_ => XS.iconst X69.here hx rfl (hb hby at_122) k_) ?_
        refine Go.st (S' := T69.setTop (mkF m 124 #[.val (.int p0), .val (.int p1), .val (.int K.toInt32), .val (.int (0 : Int32)), .val (.ref b61), .val (.ref b69), .val (.int (0 : Int32)), .unset, .unset, .unset] [(.int x2)])) (A_b61.load X69 hx hZ e69 (j := (2 : Int32)) (v := x2) (by decide) rfl (g := (mkF m 123 #[.val (.int p0), .val (.int p1), .val (.int K.toInt32), .val (.int (0 : Int32)), .val (.ref b61), .val (.ref b69), .val (.int (0 : Int32)), .unset, .unset, .unset] [(.int (2 : Int32)), (.ref b61)])) rfl rfl (hb hby at_123)) ?_
        refine Go.st (S' := T69.setTop (mkF m 125 #[.val (.int p0), .val (.int p1), .val (.int K.toInt32), .val (.int (0 : Int32)), .val (.ref b61), .val (.ref b69), .val (.int (0 : Int32)), .unset, .unset, .unset] [(.int (0 : Int32)), (.int x2)])) (fun _ k_ => XS.iloadN X69.here hx rfl (hb hby at_124) rfl k_) ?_
        by_cases hc125 : x2 < (0 : Int32)
        · skip
          refine Go.st (S' := T69.setTop (mkF m 128 #[.val (.int p0), .val (.int p1), .val (.int K.toInt32), .val (.int (0 : Int32)), .val (.ref b61), .val (.ref b69), .val (.int (0 : Int32)), .unset, .unset, .unset] [])) (fun _ k_ => XS.icmpNo X69.here hx rfl (hb hby at_125) rfl (tlt hc125).2.1 k_) ?_
          refine Go.st (S' := T69.setTop (mkF m 130 #[.val (.int p0), .val (.int p1), .val (.int K.toInt32), .val (.int (0 : Int32)), .val (.ref b61), .val (.ref b69), .val (.int (0 : Int32)), .unset, .unset, .unset] [(.ref b69)])) (fun _ k_ => XS.aload X69.here hx rfl (hb hby at_128) rfl rfl k_) ?_
          refine Go.st (S' := T69.setTop (mkF m 132 #[.val (.int p0), .val (.int p1), .val (.int K.toInt32), .val (.int (0 : Int32)), .val (.ref b61), .val (.ref b69), .val (.int (0 : Int32)), .unset, .unset, .unset] [(.int (0 : Int32)), (.ref b69)])) (fun _ k_ => XS.iload X69.here hx rfl (hb hby at_130) rfl k_) ?_
          refine Go.st (S' := T69.setTop (mkF m 134 #[.val (.int p0), .val (.int p1), .val (.int K.toInt32), .val (.int (0 : Int32)), .val (.ref b61), .val (.ref b69), .val (.int (0 : Int32)), .unset, .unset, .unset] [(.ref b61), (.int (0 : Int32)), (.ref b69)])) (fun _ k_ => XS.aload X69.here hx rfl (hb hby at_132) rfl rfl k_) ?_
          refine Go.st (S' := T69.setTop (mkF m 135 #[.val (.int p0), .val (.int p1), .val (.int K.toInt32), .val (.int (0 : Int32)), .val (.ref b61), .val (.ref b69), .val (.int (0 : Int32)), .unset, .unset, .unset] [(.int (2 : Int32)), (.ref b61), (.int (0 : Int32)), (.ref b69)])) (fun _ k_ => XS.iconst X69.here hx rfl (hb hby at_134) k_) ?_
          refine Go.st (S' := T69.setTop (mkF m 136 #[.val (.int p0), .val (.int p1), .val (.int K.toInt32), .val (.int (0 : Int32)), .val (.ref b61), .val (.ref b69), .val (.int (0 : Int32)), .unset, .unset, .unset] [(.int x2), (.int (0 : Int32)), (.ref b69)])) (A_b61.load X69 hx hZ e69 (j := (2 : Int32)) (v := x2) (by decide) rfl (g := (mkF m 135 #[.val (.int p0), .val (.int p1), .val (.int K.toInt32), .val (.int (0 : Int32)), .val (.ref b61), .val (.ref b69), .val (.int (0 : Int32)), .unset, .unset, .unset] [(.int (2 : Int32)), (.ref b61), (.int (0 : Int32)), (.ref b69)])) rfl rfl (hb hby at_135)) ?_
          obtain ⟨T82, h82, X82, e82, W82, A82, st82⟩ := A_b69.store X69 hx hZ e69 (j := (0 : Int32)) (by decide) (Nat.le_of_ble_eq_true rfl) (g := (mkF m 136 #[.val (.int p0), .val (.int p1), .val (.int K.toInt32), .val (.int (0 : Int32)), .val (.ref b61), .val (.ref b69), .val (.int (0 : Int32)), .unset, .unset, .unset] [(.int x2), (.int (0 : Int32)), (.ref b69)])) rfl rfl (hb hby at_136)
          replace A_b69 : Ai Z h82 b69 .int [x2, (0 : Int32), (0 : Int32), (0 : Int32)] := A82
          replace A_b61 := A_b61.other W82 ne_b61_b69
          replace Z0 := Nat.le_trans Z0 (Keep.of_wr W82).1
          have N82 := Fr.snoc X82 N68 g_b69
          refine Go.st (S' := T82.setTop (mkF m 137 #[.val (.int p0), .val (.int p1), .val (.int K.toInt32), .val (.int (0 : Int32)), .val (.ref b61), .val (.ref b69), .val (.int (0 : Int32)), .unset, .unset, .unset] [])) (st82) ?_
          refine Go.st (S' := T82.setTop (mkF m 140 #[.val (.int p0), .val (.int p1), .val (.int K.toInt32), .val (.int (0 : Int32)), .val (.ref b61), .val (.ref b69), .val (.int ((0 : Int32) + (1 : Int32))), .unset, .unset, .unset] [])) (fun _ k_ => XS.iinc X82.here hx rfl (hb hby at_137) rfl (l' := #[.val (.int p0), .val (.int p1), .val (.int K.toInt32), .val (.int (0 : Int32)), .val (.ref b61), .val (.ref b69), .val (.int ((0 : Int32) + (1 : Int32))), .unset, .unset, .unset]) rfl k_) ?_
          rw [show ((0 : Int32) + (1 : Int32)) = (1 : Int32) from rfl]
          refine Go.st (S' := T82.setTop (mkF m 142 #[.val (.int p0), .val (.int p1), .val (.int K.toInt32), .val (.int (0 : Int32)), .val (.ref b61), .val (.ref b69), .val (.int (1 : Int32)), .unset, .unset, .unset] [(.ref b61)])) (fun _ k_ => XS.aload X82.here hx rfl (hb hby at_140) rfl rfl k_) ?_
          refine Go.st (S' := T82.setTop (mkF m 143 #[.val (.int p0), .val (.int p1), .val (.int K.toInt32), .val (.int (0 : Int32)), .val (.ref b61), .val (.ref b69), .val (.int (1 : Int32)), .unset, .unset, .unset] [(.int (3 : Int32)), (.ref b61)])) (fun _ k_ => XS.iconst X82.here hx rfl (hb hby at_142) k_) ?_
          refine Go.st (S' := T82.setTop (mkF m 144 #[.val (.int p0), .val (.int p1), .val (.int K.toInt32), .val (.int (0 : Int32)), .val (.ref b61), .val (.ref b69), .val (.int (1 : Int32)), .unset, .unset, .unset] [(.int x3)])) (A_b61.load X82 hx hZ e82 (j := (3 : Int32)) (v := x3) (by decide) rfl (g := (mkF m 143 #[.val (.int p0), .val (.int p1), .val (.int K.toInt32), .val (.int (0 : Int32)), .val (.ref b61), .val (.ref b69), .val (.int (1 : Int32)), .unset, .unset, .unset] [(.int (3 : Int32)), (.ref b61)])) rfl rfl (hb hby at_143)) ?_
          refine Go.st (S' := T82.setTop (mkF m 145 #[.val (.int p0), .val (.int p1), .val (.int K.toInt32), .val (.int (0 : Int32)), .val (.ref b61), .val (.ref b69), .val (.int (1 : Int32)), .unset, .unset, .unset] [(.int (0 : Int32)), (.int x3)])) (fun _ k_ => XS.iloadN X82.here hx rfl (hb hby at_144) rfl k_) ?_
          by_cases hc145 : x3 < (0 : Int32)
          · skip
            refine Go.st (S' := T82.setTop (mkF m 148 #[.val (.int p0), .val (.int p1), .val (.int K.toInt32), .val (.int (0 : Int32)), .val (.ref b61), .val (.ref b69), .val (.int (1 : Int32)), .unset, .unset, .unset] [])) (fun _ k_ => XS.icmpNo X82.here hx rfl (hb hby at_145) rfl (tlt hc145).2.1 k_) ?_
            refine Go.st (S' := T82.setTop (mkF m 150 #[.val (.int p0), .val (.int p1), .val (.int K.toInt32), .val (.int (0 : Int32)), .val (.ref b61), .val (.ref b69), .val (.int (1 : Int32)), .unset, .unset, .unset] [(.ref b69)])) (fun _ k_ => XS.aload X82.here hx rfl (hb hby at_148) rfl rfl k_) ?_
            refine Go.st (S' := T82.setTop (mkF m 152 #[.val (.int p0), .val (.int p1), .val (.int K.toInt32), .val (.int (0 : Int32)), .val (.ref b61), .val (.ref b69), .val (.int (1 : Int32)), .unset, .unset, .unset] [(.int (1 : Int32)), (.ref b69)])) (fun _ k_ => XS.iload X82.here hx rfl (hb hby at_150) rfl k_) ?_
            refine Go.st (S' := T82.setTop (mkF m 154 #[.val (.int p0), .val (.int p1), .val (.int K.toInt32), .val (.int (0 : Int32)), .val (.ref b61), .val (.ref b69), .val (.int (1 : Int32)), .unset, .unset, .unset] [(.ref b61), (.int (1 : Int32)), (.ref b69)])) (fun _ k_ => XS.aload X82.here hx rfl (hb hby at_152) rfl rfl k_) ?_
            refine Go.st (S' := T82.setTop (mkF m 155 #[.val (.int p0), .val (.int p1), .val (.int K.toInt32), .val (.int (0 : Int32)), .val (.ref b61), .val (.ref b69), .val (.int (1 : Int32)), .unset, .unset, .unset] [(.int (3 : Int32)), (.ref b61), (.int (1 : Int32)), (.ref b69)])) (fun _ k_ => XS.iconst X82.here hx rfl (hb hby at_154) k_) ?_
            refine Go.st (S' := T82.setTop (mkF m 156 #[.val (.int p0), .val (.int p1), .val (.int K.toInt32), .val (.int (0 : Int32)), .val (.ref b61), .val (.ref b69), .val (.int (1 : Int32)), .unset, .unset, .unset] [(.int x3), (.int (1 : Int32)), (.ref b69)])) (A_b61.load X82 hx hZ e82 (j := (3 : Int32)) (v := x3) (by decide) rfl (g := (mkF m 155 #[.val (.int p0), .val (.int p1), .val (.int K.toInt32), .val (.int (0 : Int32)), .val (.ref b61), .val (.ref b69), .val (.int (1 : Int32)), .unset, .unset, .unset] [(.int (3 : Int32)), (.ref b61), (.int (1 : Int32)), (.ref b69)])) rfl rfl (hb hby at_155)) ?_
            obtain ⟨T83, h83, X83, e83, W83, A83, st83⟩ := A_b69.store X82 hx hZ e82 (j := (1 : Int32)) (by decide) (Nat.le_of_ble_eq_true rfl) (g := (mkF m 156 #[.val (.int p0), .val (.int p1), .val (.int K.toInt32), .val (.int (0 : Int32)), .val (.ref b61), .val (.ref b69), .val (.int (1 : Int32)), .unset, .unset, .unset] [(.int x3), (.int (1 : Int32)), (.ref b69)])) rfl rfl (hb hby at_156)
            replace A_b69 : Ai Z h83 b69 .int [x2, x3, (0 : Int32), (0 : Int32)] := A83
            replace A_b61 := A_b61.other W83 ne_b61_b69
            replace Z0 := Nat.le_trans Z0 (Keep.of_wr W83).1
            have N83 := Fr.snoc X83 N82 g_b69
            refine Go.st (S' := T83.setTop (mkF m 157 #[.val (.int p0), .val (.int p1), .val (.int K.toInt32), .val (.int (0 : Int32)), .val (.ref b61), .val (.ref b69), .val (.int (1 : Int32)), .unset, .unset, .unset] [])) (st83) ?_
            refine Go.st (S' := T83.setTop (mkF m 160 #[.val (.int p0), .val (.int p1), .val (.int K.toInt32), .val (.int (0 : Int32)), .val (.ref b61), .val (.ref b69), .val (.int ((1 : Int32) + (1 : Int32))), .unset, .unset, .unset] [])) (fun _ k_ => XS.iinc X83.here hx rfl (hb hby at_157) rfl (l' := #[.val (.int p0), .val (.int p1), .val (.int K.toInt32), .val (.int (0 : Int32)), .val (.ref b61), .val (.ref b69), .val (.int ((1 : Int32) + (1 : Int32))), .unset, .unset, .unset]) rfl k_) ?_
            rw [show ((1 : Int32) + (1 : Int32)) = (2 : Int32) from rfl]
            have hf2 : own_okb [x2, x3] = true ∧ ([x2, x3] : List Int32).length = 0 := by
              have q := hf
              rw [List.filter_cons, List.filter_cons, List.filter_cons, List.filter_cons, List.filter_nil] at q
              simp only [show (0 : Nat).toInt32 = (0 : Int32) from rfl, hc85, hc105, hc125, hc145, decide_true, decide_false, if_true, if_false, Bool.false_eq_true] at q
              exact q
            exact absurd hf2.2 (by show ¬ (2 = 0); decide)
          · skip
            refine Go.st (S' := T82.setTop (mkF m 160 #[.val (.int p0), .val (.int p1), .val (.int K.toInt32), .val (.int (0 : Int32)), .val (.ref b61), .val (.ref b69), .val (.int (1 : Int32)), .unset, .unset, .unset] [])) (fun _ k_ => XS.icmpYes X82.here hx rfl (pc0 := 145) (pc' := 160) rfl (hb hby at_145) rfl (flt hc145).2.1 (by decide) (by decide) k_) ?_
            have hf2 : own_okb [x2] = true ∧ ([x2] : List Int32).length = 0 := by
              have q := hf
              rw [List.filter_cons, List.filter_cons, List.filter_cons, List.filter_cons, List.filter_nil] at q
              simp only [show (0 : Nat).toInt32 = (0 : Int32) from rfl, hc85, hc105, hc125, hc145, decide_true, decide_false, if_true, if_false, Bool.false_eq_true] at q
              exact q
            exact absurd hf2.2 (by show ¬ (1 = 0); decide)
        · skip
          refine Go.st (S' := T69.setTop (mkF m 140 #[.val (.int p0), .val (.int p1), .val (.int K.toInt32), .val (.int (0 : Int32)), .val (.ref b61), .val (.ref b69), .val (.int (0 : Int32)), .unset, .unset, .unset] [])) (fun _ k_ => XS.icmpYes X69.here hx rfl (pc0 := 125) (pc' := 140) rfl (hb hby at_125) rfl (flt hc125).2.1 (by decide) (by decide) k_) ?_
          refine Go.st (S' := T69.setTop (mkF m 142 #[.val (.int p0), .val (.int p1), .val (.int K.toInt32), .val (.int (0 : Int32)), .val (.ref b61), .val (.ref b69), .val (.int (0 : Int32)), .unset, .unset, .unset] [(.ref b61)])) (fun _ k_ => XS.aload X69.here hx rfl (hb hby at_140) rfl rfl k_) ?_
          refine Go.st (S' := T69.setTop (mkF m 143 #[.val (.int p0), .val (.int p1), .val (.int K.toInt32), .val (.int (0 : Int32)), .val (.ref b61), .val (.ref b69), .val (.int (0 : Int32)), .unset, .unset, .unset] [(.int (3 : Int32)), (.ref b61)])) (fun _ k_ => XS.iconst X69.here hx rfl (hb hby at_142) k_) ?_
          refine Go.st (S' := T69.setTop (mkF m 144 #[.val (.int p0), .val (.int p1), .val (.int K.toInt32), .val (.int (0 : Int32)), .val (.ref b61), .val (.ref b69), .val (.int (0 : Int32)), .unset, .unset, .unset] [(.int x3)])) (A_b61.load X69 hx hZ e69 (j := (3 : Int32)) (v := x3) (by decide) rfl (g := (mkF m 143 #[.val (.int p0), .val (.int p1), .val (.int K.toInt32), .val (.int (0 : Int32)), .val (.ref b61), .val (.ref b69), .val (.int (0 : Int32)), .unset, .unset, .unset] [(.int (3 : Int32)), (.ref b61)])) rfl rfl (hb hby at_143)) ?_
          refine Go.st (S' := T69.setTop (mkF m 145 #[.val (.int p0), .val (.int p1), .val (.int K.toInt32), .val (.int (0 : Int32)), .val (.ref b61), .val (.ref b69), .val (.int (0 : Int32)), .unset, .unset, .unset] [(.int (0 : Int32)), (.int x3)])) (fun _ k_ => XS.iloadN X69.here hx rfl (hb hby at_144) rfl k_) ?_
          by_cases hc145 : x3 < (0 : Int32)
          · skip
            refine Go.st (S' := T69.setTop (mkF m 148 #[.val (.int p0), .val (.int p1), .val (.int K.toInt32), .val (.int (0 : Int32)), .val (.ref b61), .val (.ref b69), .val (.int (0 : Int32)), .unset, .unset, .unset] [])) (fun _ k_ => XS.icmpNo X69.here hx rfl (hb hby at_145) rfl (tlt hc145).2.1 k_) ?_
            refine Go.st (S' := T69.setTop (mkF m 150 #[.val (.int p0), .val (.int p1), .val (.int K.toInt32), .val (.int (0 : Int32)), .val (.ref b61), .val (.ref b69), .val (.int (0 : Int32)), .unset, .unset, .unset] [(.ref b69)])) (fun _ k_ => XS.aload X69.here hx rfl (hb hby at_148) rfl rfl k_) ?_
            refine Go.st (S' := T69.setTop (mkF m 152 #[.val (.int p0), .val (.int p1), .val (.int K.toInt32), .val (.int (0 : Int32)), .val (.ref b61), .val (.ref b69), .val (.int (0 : Int32)), .unset, .unset, .unset] [(.int (0 : Int32)), (.ref b69)])) (fun _ k_ => XS.iload X69.here hx rfl (hb hby at_150) rfl k_) ?_
            refine Go.st (S' := T69.setTop (mkF m 154 #[.val (.int p0), .val (.int p1), .val (.int K.toInt32), .val (.int (0 : Int32)), .val (.ref b61), .val (.ref b69), .val (.int (0 : Int32)), .unset, .unset, .unset] [(.ref b61), (.int (0 : Int32)), (.ref b69)])) (fun _ k_ => XS.aload X69.here hx rfl (hb hby at_152) rfl rfl k_) ?_
            refine Go.st (S' := T69.setTop (mkF m 155 #[.val (.int p0), .val (.int p1), .val (.int K.toInt32), .val (.int (0 : Int32)), .val (.ref b61), .val (.ref b69), .val (.int (0 : Int32)), .unset, .unset, .unset] [(.int (3 : Int32)), (.ref b61), (.int (0 : Int32)), (.ref b69)])) (fun _ k_ => XS.iconst X69.here hx rfl (hb hby at_154) k_) ?_
            refine Go.st (S' := T69.setTop (mkF m 156 #[.val (.int p0), .val (.int p1), .val (.int K.toInt32), .val (.int (0 : Int32)), .val (.ref b61), .val (.ref b69), .val (.int (0 : Int32)), .unset, .unset, .unset] [(.int x3), (.int (0 : Int32)), (.ref b69)])) (A_b61.load X69 hx hZ e69 (j := (3 : Int32)) (v := x3) (by decide) rfl (g := (mkF m 155 #[.val (.int p0), .val (.int p1), .val (.int K.toInt32), .val (.int (0 : Int32)), .val (.ref b61), .val (.ref b69), .val (.int (0 : Int32)), .unset, .unset, .unset] [(.int (3 : Int32)), (.ref b61), (.int (0 : Int32)), (.ref b69)])) rfl rfl (hb hby at_155)) ?_
            obtain ⟨T84, h84, X84, e84, W84, A84, st84⟩ := A_b69.store X69 hx hZ e69 (j := (0 : Int32)) (by decide) (Nat.le_of_ble_eq_true rfl) (g := (mkF m 156 #[.val (.int p0), .val (.int p1), .val (.int K.toInt32), .val (.int (0 : Int32)), .val (.ref b61), .val (.ref b69), .val (.int (0 : Int32)), .unset, .unset, .unset] [(.int x3), (.int (0 : Int32)), (.ref b69)])) rfl rfl (hb hby at_156)
            replace A_b69 : Ai Z h84 b69 .int [x3, (0 : Int32), (0 : Int32), (0 : Int32)] := A84
            replace A_b61 := A_b61.other W84 ne_b61_b69
            replace Z0 := Nat.le_trans Z0 (Keep.of_wr W84).1
            have N84 := Fr.snoc X84 N68 g_b69
            refine Go.st (S' := T84.setTop (mkF m 157 #[.val (.int p0), .val (.int p1), .val (.int K.toInt32), .val (.int (0 : Int32)), .val (.ref b61), .val (.ref b69), .val (.int (0 : Int32)), .unset, .unset, .unset] [])) (st84) ?_
            refine Go.st (S' := T84.setTop (mkF m 160 #[.val (.int p0), .val (.int p1), .val (.int K.toInt32), .val (.int (0 : Int32)), .val (.ref b61), .val (.ref b69), .val (.int ((0 : Int32) + (1 : Int32))), .unset, .unset, .unset] [])) (fun _ k_ => XS.iinc X84.here hx rfl (hb hby at_157) rfl (l' := #[.val (.int p0), .val (.int p1), .val (.int K.toInt32), .val (.int (0 : Int32)), .val (.ref b61), .val (.ref b69), .val (.int ((0 : Int32) + (1 : Int32))), .unset, .unset, .unset]) rfl k_) ?_
            rw [show ((0 : Int32) + (1 : Int32)) = (1 : Int32) from rfl]
            have hf2 : own_okb [x3] = true ∧ ([x3] : List Int32).length = 0 := by
              have q := hf
              rw [List.filter_cons, List.filter_cons, List.filter_cons, List.filter_cons, List.filter_nil] at q
              simp only [show (0 : Nat).toInt32 = (0 : Int32) from rfl, hc85, hc105, hc125, hc145, decide_true, decide_false, if_true, if_false, Bool.false_eq_true] at q
              exact q
            exact absurd hf2.2 (by show ¬ (1 = 0); decide)
          · skip
            refine Go.st (S' := T69.setTop (mkF m 160 #[.val (.int p0), .val (.int p1), .val (.int K.toInt32), .val (.int (0 : Int32)), .val (.ref b61), .val (.ref b69), .val (.int (0 : Int32)), .unset, .unset, .unset] [])) (fun _ k_ => XS.icmpYes X69.here hx rfl (pc0 := 145) (pc' := 160) rfl (hb hby at_145) rfl (flt hc145).2.1 (by decide) (by decide) k_) ?_
            have hf2 : own_okb [] = true ∧ ([] : List Int32).length = 0 := by
              have q := hf
              rw [List.filter_cons, List.filter_cons, List.filter_cons, List.filter_cons, List.filter_nil] at q
              simp only [show (0 : Nat).toInt32 = (0 : Int32) from rfl, hc85, hc105, hc125, hc145, decide_true, decide_false, if_true, if_false, Bool.false_eq_true] at q
              exact q
            exact J0 _ _ _ _ _ (X69.more (by decide) (by decide)) e69 N68 Z0 b61 b69 (0 : Int32) (0 : Int32) (0 : Int32) (0 : Int32) A_b69 g_b69 (own_ok_of hf2.1)
  · skip
    have hf := hfil 1 (by decide)
    refine Go.st (S' := T69.setTop (mkF m 82 #[.val (.int p0), .val (.int p1), .val (.int K.toInt32), .val (.int (1 : Int32)), .val (.ref b61), .val (.ref b69), .val (.int (0 : Int32)), .unset, .unset, .unset] [(.ref b61)])) (fun _ k_ => XS.aload X69.here hx rfl (hb hby at_80) rfl rfl k_) ?_
    refine Go.st (S' := T69.setTop (mkF m 83 #[.val (.int p0), .val (.int p1), .val (.int K.toInt32), .val (.int (1 : Int32)), .val (.ref b61), .val (.ref b69), .val (.int (0 : Int32)), .unset, .unset, .unset] [(.int (0 : Int32)), (.ref b61)])) (fun _ k_ => XS.iconst X69.here hx rfl (hb hby at_82) k_) ?_
    refine Go.st (S' := T69.setTop (mkF m 84 #[.val (.int p0), .val (.int p1), .val (.int K.toInt32), .val (.int (1 : Int32)), .val (.ref b61), .val (.ref b69), .val (.int (0 : Int32)), .unset, .unset, .unset] [(.int x0)])) (A_b61.load X69 hx hZ e69 (j := (0 : Int32)) (v := x0) (by decide) rfl (g := (mkF m 83 #[.val (.int p0), .val (.int p1), .val (.int K.toInt32), .val (.int (1 : Int32)), .val (.ref b61), .val (.ref b69), .val (.int (0 : Int32)), .unset, .unset, .unset] [(.int (0 : Int32)), (.ref b61)])) rfl rfl (hb hby at_83)) ?_
    refine Go.st (S' := T69.setTop (mkF m 85 #[.val (.int p0), .val (.int p1), .val (.int K.toInt32), .val (.int (1 : Int32)), .val (.ref b61), .val (.ref b69), .val (.int (0 : Int32)), .unset, .unset, .unset] [(.int (1 : Int32)), (.int x0)])) (fun _ k_ => XS.iloadN X69.here hx rfl (hb hby at_84) rfl k_) ?_
    by_cases hc85 : x0 < (1 : Int32)
    · skip
      refine Go.st (S' := T69.setTop (mkF m 88 #[.val (.int p0), .val (.int p1), .val (.int K.toInt32), .val (.int (1 : Int32)), .val (.ref b61), .val (.ref b69), .val (.int (0 : Int32)), .unset, .unset, .unset] [])) (fun _ k_ => XS.icmpNo X69.here hx rfl (hb hby at_85) rfl (tlt hc85).2.1 k_) ?_
      refine Go.st (S' := T69.setTop (mkF m 90 #[.val (.int p0), .val (.int p1), .val (.int K.toInt32), .val (.int (1 : Int32)), .val (.ref b61), .val (.ref b69), .val (.int (0 : Int32)), .unset, .unset, .unset] [(.ref b69)])) (fun _ k_ => XS.aload X69.here hx rfl (hb hby at_88) rfl rfl k_) ?_
      refine Go.st (S' := T69.setTop (mkF m 92 #[.val (.int p0), .val (.int p1), .val (.int K.toInt32), .val (.int (1 : Int32)), .val (.ref b61), .val (.ref b69), .val (.int (0 : Int32)), .unset, .unset, .unset] [(.int (0 : Int32)), (.ref b69)])) (fun _ k_ => XS.iload X69.here hx rfl (hb hby at_90) rfl k_) ?_
      refine Go.st (S' := T69.setTop (mkF m 94 #[.val (.int p0), .val (.int p1), .val (.int K.toInt32), .val (.int (1 : Int32)), .val (.ref b61), .val (.ref b69), .val (.int (0 : Int32)), .unset, .unset, .unset] [(.ref b61), (.int (0 : Int32)), (.ref b69)])) (fun _ k_ => XS.aload X69.here hx rfl (hb hby at_92) rfl rfl k_) ?_
      refine Go.st (S' := T69.setTop (mkF m 95 #[.val (.int p0), .val (.int p1), .val (.int K.toInt32), .val (.int (1 : Int32)), .val (.ref b61), .val (.ref b69), .val (.int (0 : Int32)), .unset, .unset, .unset] [(.int (0 : Int32)), (.ref b61), (.int (0 : Int32)), (.ref b69)])) (fun _ k_ => XS.iconst X69.here hx rfl (hb hby at_94) k_) ?_
      refine Go.st (S' := T69.setTop (mkF m 96 #[.val (.int p0), .val (.int p1), .val (.int K.toInt32), .val (.int (1 : Int32)), .val (.ref b61), .val (.ref b69), .val (.int (0 : Int32)), .unset, .unset, .unset] [(.int x0), (.int (0 : Int32)), (.ref b69)])) (A_b61.load X69 hx hZ e69 (j := (0 : Int32)) (v := x0) (by decide) rfl (g := (mkF m 95 #[.val (.int p0), .val (.int p1), .val (.int K.toInt32), .val (.int (1 : Int32)), .val (.ref b61), .val (.ref b69), .val (.int (0 : Int32)), .unset, .unset, .unset] [(.int (0 : Int32)), (.ref b61), (.int (0 : Int32)), (.ref b69)])) rfl rfl (hb hby at_95)) ?_
      obtain ⟨T85, h85, X85, e85, W85, A85, st85⟩ := A_b69.store X69 hx hZ e69 (j := (0 : Int32)) (by decide) (Nat.le_of_ble_eq_true rfl) (g := (mkF m 96 #[.val (.int p0), .val (.int p1), .val (.int K.toInt32), .val (.int (1 : Int32)), .val (.ref b61), .val (.ref b69), .val (.int (0 : Int32)), .unset, .unset, .unset] [(.int x0), (.int (0 : Int32)), (.ref b69)])) rfl rfl (hb hby at_96)
      replace A_b69 : Ai Z h85 b69 .int [x0, (0 : Int32), (0 : Int32), (0 : Int32)] := A85
      replace A_b61 := A_b61.other W85 ne_b61_b69
      replace Z0 := Nat.le_trans Z0 (Keep.of_wr W85).1
      have N85 := Fr.snoc X85 N68 g_b69
      refine Go.st (S' := T85.setTop (mkF m 97 #[.val (.int p0), .val (.int p1), .val (.int K.toInt32), .val (.int (1 : Int32)), .val (.ref b61), .val (.ref b69), .val (.int (0 : Int32)), .unset, .unset, .unset] [])) (st85) ?_
      refine Go.st (S' := T85.setTop (mkF m 100 #[.val (.int p0), .val (.int p1), .val (.int K.toInt32), .val (.int (1 : Int32)), .val (.ref b61), .val (.ref b69), .val (.int ((0 : Int32) + (1 : Int32))), .unset, .unset, .unset] [])) (fun _ k_ => XS.iinc X85.here hx rfl (hb hby at_97) rfl (l' := #[.val (.int p0), .val (.int p1), .val (.int K.toInt32), .val (.int (1 : Int32)), .val (.ref b61), .val (.ref b69), .val (.int ((0 : Int32) + (1 : Int32))), .unset, .unset, .unset]) rfl k_) ?_
      rw [show ((0 : Int32) + (1 : Int32)) = (1 : Int32) from rfl]
      refine Go.st (S' := T85.setTop (mkF m 102 #[.val (.int p0), .val (.int p1), .val (.int K.toInt32), .val (.int (1 : Int32)), .val (.ref b61), .val (.ref b69), .val (.int (1 : Int32)), .unset, .unset, .unset] [(.ref b61)])) (fun _ k_ => XS.aload X85.here hx rfl (hb hby at_100) rfl rfl k_) ?_
      refine Go.st (S' := T85.setTop (mkF m 103 #[.val (.int p0), .val (.int p1), .val (.int K.toInt32), .val (.int (1 : Int32)), .val (.ref b61), .val (.ref b69), .val (.int (1 : Int32)), .unset, .unset, .unset] [(.int (1 : Int32)), (.ref b61)])) (fun _ k_ => XS.iconst X85.here hx rfl (hb hby at_102) k_) ?_
      refine Go.st (S' := T85.setTop (mkF m 104 #[.val (.int p0), .val (.int p1), .val (.int K.toInt32), .val (.int (1 : Int32)), .val (.ref b61), .val (.ref b69), .val (.int (1 : Int32)), .unset, .unset, .unset] [(.int x1)])) (A_b61.load X85 hx hZ e85 (j := (1 : Int32)) (v := x1) (by decide) rfl (g := (mkF m 103 #[.val (.int p0), .val (.int p1), .val (.int K.toInt32), .val (.int (1 : Int32)), .val (.ref b61), .val (.ref b69), .val (.int (1 : Int32)), .unset, .unset, .unset] [(.int (1 : Int32)), (.ref b61)])) rfl rfl (hb hby at_103)) ?_
      refine Go.st (S' := T85.setTop (mkF m 105 #[.val (.int p0), .val (.int p1), .val (.int K.toInt32), .val (.int (1 : Int32)), .val (.ref b61), .val (.ref b69), .val (.int (1 : Int32)), .unset, .unset, .unset] [(.int (1 : Int32)), (.int x1)])) (fun _ k_ => XS.iloadN X85.here hx rfl (hb hby at_104) rfl k_) ?_
      by_cases hc105 : x1 < (1 : Int32)
      · skip
        refine Go.st (S' := T85.setTop (mkF m 108 #[.val (.int p0), .val (.int p1), .val (.int K.toInt32), .val (.int (1 : Int32)), .val (.ref b61), .val (.ref b69), .val (.int (1 : Int32)), .unset, .unset, .unset] [])) (fun _ k_ => XS.icmpNo X85.here hx rfl (hb hby at_105) rfl (tlt hc105).2.1 k_) ?_
        refine Go.st (S' := T85.setTop (mkF m 110 #[.val (.int p0), .val (.int p1), .val (.int K.toInt32), .val (.int (1 : Int32)), .val (.ref b61), .val (.ref b69), .val (.int (1 : Int32)), .unset, .unset, .unset] [(.ref b69)])) (fun _ k_ => XS.aload X85.here hx rfl (hb hby at_108) rfl rfl k_) ?_
        refine Go.st (S' := T85.setTop (mkF m 112 #[.val (.int p0), .val (.int p1), .val (.int K.toInt32), .val (.int (1 : Int32)), .val (.ref b61), .val (.ref b69), .val (.int (1 : Int32)), .unset, .unset, .unset] [(.int (1 : Int32)), (.ref b69)])) (fun _ k_ => XS.iload X85.here hx rfl (hb hby at_110) rfl k_) ?_
        refine Go.st (S' := T85.setTop (mkF m 114 #[.val (.int p0), .val (.int p1), .val (.int K.toInt32), .val (.int (1 : Int32)), .val (.ref b61), .val (.ref b69), .val (.int (1 : Int32)), .unset, .unset, .unset] [(.ref b61), (.int (1 : Int32)), (.ref b69)])) (fun _ k_ => XS.aload X85.here hx rfl (hb hby at_112) rfl rfl k_) ?_
        refine Go.st (S' := T85.setTop (mkF m 115 #[.val (.int p0), .val (.int p1), .val (.int K.toInt32), .val (.int (1 : Int32)), .val (.ref b61), .val (.ref b69), .val (.int (1 : Int32)), .unset, .unset, .unset] [(.int (1 : Int32)), (.ref b61), (.int (1 : Int32)), (.ref b69)])) (fun _ k_ => XS.iconst X85.here hx rfl (hb hby at_114) k_) ?_
        refine Go.st (S' := T85.setTop (mkF m 116 #[.val (.int p0), .val (.int p1), .val (.int K.toInt32), .val (.int (1 : Int32)), .val (.ref b61), .val (.ref b69), .val (.int (1 : Int32)), .unset, .unset, .unset] [(.int x1), (.int (1 : Int32)), (.ref b69)])) (A_b61.load X85 hx hZ e85 (j := (1 : Int32)) (v := x1) (by decide) rfl (g := (mkF m 115 #[.val (.int p0), .val (.int p1), .val (.int K.toInt32), .val (.int (1 : Int32)), .val (.ref b61), .val (.ref b69), .val (.int (1 : Int32)), .unset, .unset, .unset] [(.int (1 : Int32)), (.ref b61), (.int (1 : Int32)), (.ref b69)])) rfl rfl (hb hby at_115)) ?_
        obtain ⟨T86, h86, X86, e86, W86, A86, st86⟩ := A_b69.store X85 hx hZ e85 (j := (1 : Int32)) (by decide) (Nat.le_of_ble_eq_true rfl) (g := (mkF m 116 #[.val (.int p0), .val (.int p1), .val (.int K.toInt32), .val (.int (1 : Int32)), .val (.ref b61), .val (.ref b69), .val (.int (1 : Int32)), .unset, .unset, .unset] [(.int x1), (.int (1 : Int32)), (.ref b69)])) rfl rfl (hb hby at_116)
        replace A_b69 : Ai Z h86 b69 .int [x0, x1, (0 : Int32), (0 : Int32)] := A86
        replace A_b61 := A_b61.other W86 ne_b61_b69
        replace Z0 := Nat.le_trans Z0 (Keep.of_wr W86).1
        have N86 := Fr.snoc X86 N85 g_b69
        refine Go.st (S' := T86.setTop (mkF m 117 #[.val (.int p0), .val (.int p1), .val (.int K.toInt32), .val (.int (1 : Int32)), .val (.ref b61), .val (.ref b69), .val (.int (1 : Int32)), .unset, .unset, .unset] [])) (st86) ?_
        refine Go.st (S' := T86.setTop (mkF m 120 #[.val (.int p0), .val (.int p1), .val (.int K.toInt32), .val (.int (1 : Int32)), .val (.ref b61), .val (.ref b69), .val (.int ((1 : Int32) + (1 : Int32))), .unset, .unset, .unset] [])) (fun _ k_ => XS.iinc X86.here hx rfl (hb hby at_117) rfl (l' := #[.val (.int p0), .val (.int p1), .val (.int K.toInt32), .val (.int (1 : Int32)), .val (.ref b61), .val (.ref b69), .val (.int ((1 : Int32) + (1 : Int32))), .unset, .unset, .unset]) rfl k_) ?_
        rw [show ((1 : Int32) + (1 : Int32)) = (2 : Int32) from rfl]
        refine Go.st (S' := T86.setTop (mkF m 122 #[.val (.int p0), .val (.int p1), .val (.int K.toInt32), .val (.int (1 : Int32)), .val (.ref b61), .val (.ref b69), .val (.int (2 : Int32)), .unset, .unset, .unset] [(.ref b61)])) (fun _ k_ => XS.aload X86.here hx rfl (hb hby at_120) rfl rfl k_) ?_
        refine Go.st (S' := T86.setTop (mkF m 123 #[.val (.int p0), .val (.int p1), .val (.int K.toInt32), .val (.int (1 : Int32)), .val (.ref b61), .val (.ref b69), .val (.int (2 : Int32)), .unset, .unset, .unset] [(.int (2 : Int32)), (.ref b61)])) (fun _ k_ => XS.iconst X86.here hx rfl (hb hby at_122) k_) ?_
        refine Go.st (S' := T86.setTop (mkF m 124 #[.val (.int p0), .val (.int p1), .val (.int K.toInt32), .val (.int (1 : Int32)), .val (.ref b61), .val (.ref b69), .val (.int (2 : Int32)), .unset, .unset, .unset] [(.int x2)])) (A_b61.load X86 hx hZ e86 (j := (2 : Int32)) (v := x2) (by decide) rfl (g := (mkF m 123 #[.val (.int p0), .val (.int p1), .val (.int K.toInt32), .val (.int (1 : Int32)), .val (.ref b61), .val (.ref b69), .val (.int (2 : Int32)), .unset, .unset, .unset] [(.int (2 : Int32)), (.ref b61)])) rfl rfl (hb hby at_123)) ?_
        refine Go.st (S' := T86.setTop (mkF m 125 #[.val (.int p0), .val (.int p1), .val (.int K.toInt32), .val (.int (1 : Int32)), .val (.ref b61), .val (.ref b69), .val (.int (2 : Int32)), .unset, .unset, .unset] [(.int (1 : Int32)), (.int x2)])) (fun _ k_ => XS.iloadN X86.here hx rfl (hb hby at_124) rfl k_) ?_
        by_cases hc125 : x2 < (1 : Int32)
        · skip
          refine Go.st (S' := T86.setTop (mkF m 128 #[.val (.int p0), .val (.int p1), .val (.int K.toInt32), .val (.int (1 : Int32)), .val (.ref b61), .val (.ref b69), .val (.int (2 : Int32)), .unset, .unset, .unset] [])) (fun _ k_ => XS.icmpNo X86.here hx rfl (hb hby at_125) rfl (tlt hc125).2.1 k_) ?_
          refine Go.st (S' := T86.setTop (mkF m 130 #[.val (.int p0), .val (.int p1), .val (.int K.toInt32), .val (.int (1 : Int32)), .val (.ref b61), .val (.ref b69), .val (.int (2 : Int32)), .unset, .unset, .unset] [(.ref b69)])) (fun _ k_ => XS.aload X86.here hx rfl (hb hby at_128) rfl rfl k_) ?_
          refine Go.st (S' := T86.setTop (mkF m 132 #[.val (.int p0), .val (.int p1), .val (.int K.toInt32), .val (.int (1 : Int32)), .val (.ref b61), .val (.ref b69), .val (.int (2 : Int32)), .unset, .unset, .unset] [(.int (2 : Int32)), (.ref b69)])) (fun _ k_ => XS.iload X86.here hx rfl (hb hby at_130) rfl k_) ?_
          refine Go.st (S' := T86.setTop (mkF m 134 #[.val (.int p0), .val (.int p1), .val (.int K.toInt32), .val (.int (1 : Int32)), .val (.ref b61), .val (.ref b69), .val (.int (2 : Int32)), .unset, .unset, .unset] [(.ref b61), (.int (2 : Int32)), (.ref b69)])) (fun _ k_ => XS.aload X86.here hx rfl (hb hby at_132) rfl rfl k_) ?_
          refine Go.st (S' := T86.setTop (mkF m 135 #[.val (.int p0), .val (.int p1), .val (.int K.toInt32), .val (.int (1 : Int32)), .val (.ref b61), .val (.ref b69), .val (.int (2 : Int32)), .unset, .unset, .unset] [(.int (2 : Int32)), (.ref b61), (.int (2 : Int32)), (.ref b69)])) (fun _ k_ => XS.iconst X86.here hx rfl (hb hby at_134) k_) ?_
          refine Go.st (S' := T86.setTop (mkF m 136 #[.val (.int p0), .val (.int p1), .val (.int K.toInt32), .val (.int (1 : Int32)), .val (.ref b61), .val (.ref b69), .val (.int (2 : Int32)), .unset, .unset, .unset] [(.int x2), (.int (2 : Int32)), (.ref b69)])) (A_b61.load X86 hx hZ e86 (j := (2 : Int32)) (v := x2) (by decide) rfl (g := (mkF m 135 #[.val (.int p0), .val (.int p1), .val (.int K.toInt32), .val (.int (1 : Int32)), .val (.ref b61), .val (.ref b69), .val (.int (2 : Int32)), .unset, .unset, .unset] [(.int (2 : Int32)), (.ref b61), (.int (2 : Int32)), (.ref b69)])) rfl rfl (hb hby at_135)) ?_
          obtain ⟨T87, h87, X87, e87, W87, A87, st87⟩ := A_b69.store X86 hx hZ e86 (j := (2 : Int32)) (by decide) (Nat.le_of_ble_eq_true rfl) (g := (mkF m 136 #[.val (.int p0), .val (.int p1), .val (.int K.toInt32), .val (.int (1 : Int32)), .val (.ref b61), .val (.ref b69), .val (.int (2 : Int32)), .unset, .unset, .unset] [(.int x2), (.int (2 : Int32)), (.ref b69)])) rfl rfl (hb hby at_136)
          replace A_b69 : Ai Z h87 b69 .int [x0, x1, x2, (0 : Int32)] := A87
          replace A_b61 := A_b61.other W87 ne_b61_b69
          replace Z0 := Nat.le_trans Z0 (Keep.of_wr W87).1
          have N87 := Fr.snoc X87 N86 g_b69
          refine Go.st (S' := T87.setTop (mkF m 137 #[.val (.int p0), .val (.int p1), .val (.int K.toInt32), .val (.int (1 : Int32)), .val (.ref b61), .val (.ref b69), .val (.int (2 : Int32)), .unset, .unset, .unset] [])) (st87) ?_
          refine Go.st (S' := T87.setTop (mkF m 140 #[.val (.int p0), .val (.int p1), .val (.int K.toInt32), .val (.int (1 : Int32)), .val (.ref b61), .val (.ref b69), .val (.int ((2 : Int32) + (1 : Int32))), .unset, .unset, .unset] [])) (fun _ k_ => XS.iinc X87.here hx rfl (hb hby at_137) rfl (l' := #[.val (.int p0), .val (.int p1), .val (.int K.toInt32), .val (.int (1 : Int32)), .val (.ref b61), .val (.ref b69), .val (.int ((2 : Int32) + (1 : Int32))), .unset, .unset, .unset]) rfl k_) ?_
          rw [show ((2 : Int32) + (1 : Int32)) = (3 : Int32) from rfl]
          refine Go.st (S' := T87.setTop (mkF m 142 #[.val (.int p0), .val (.int p1), .val (.int K.toInt32), .val (.int (1 : Int32)), .val (.ref b61), .val (.ref b69), .val (.int (3 : Int32)), .unset, .unset, .unset] [(.ref b61)])) (fun _ k_ => XS.aload X87.here hx rfl (hb hby at_140) rfl rfl k_) ?_
          refine Go.st (S' := T87.setTop (mkF m 143 #[.val (.int p0), .val (.int p1), .val (.int K.toInt32), .val (.int (1 : Int32)), .val (.ref b61), .val (.ref b69), .val (.int (3 : Int32)), .unset, .unset, .unset] [(.int (3 : Int32)), (.ref b61)])) (fun _ k_ => XS.iconst X87.here hx rfl (hb hby at_142) k_) ?_
          refine Go.st (S' := T87.setTop (mkF m 144 #[.val (.int p0), .val (.int p1), .val (.int K.toInt32), .val (.int (1 : Int32)), .val (.ref b61), .val (.ref b69), .val (.int (3 : Int32)), .unset, .unset, .unset] [(.int x3)])) (A_b61.load X87 hx hZ e87 (j := (3 : Int32)) (v := x3) (by decide) rfl (g := (mkF m 143 #[.val (.int p0), .val (.int p1), .val (.int K.toInt32), .val (.int (1 : Int32)), .val (.ref b61), .val (.ref b69), .val (.int (3 : Int32)), .unset, .unset, .unset] [(.int (3 : Int32)), (.ref b61)])) rfl rfl (hb hby at_143)) ?_
          refine Go.st (S' := T87.setTop (mkF m 145 #[.val (.int p0), .val (.int p1), .val (.int K.toInt32), .val (.int (1 : Int32)), .val (.ref b61), .val (.ref b69), .val (.int (3 : Int32)), .unset, .unset, .unset] [(.int (1 : Int32)), (.int x3)])) (fun _ k_ => XS.iloadN X87.here hx rfl (hb hby at_144) rfl k_) ?_
          by_cases hc145 : x3 < (1 : Int32)
          · skip
            refine Go.st (S' := T87.setTop (mkF m 148 #[.val (.int p0), .val (.int p1), .val (.int K.toInt32), .val (.int (1 : Int32)), .val (.ref b61), .val (.ref b69), .val (.int (3 : Int32)), .unset, .unset, .unset] [])) (fun _ k_ => XS.icmpNo X87.here hx rfl (hb hby at_145) rfl (tlt hc145).2.1 k_) ?_
            refine Go.st (S' := T87.setTop (mkF m 150 #[.val (.int p0), .val (.int p1), .val (.int K.toInt32), .val (.int (1 : Int32)), .val (.ref b61), .val (.ref b69), .val (.int (3 : Int32)), .unset, .unset, .unset] [(.ref b69)])) (fun _ k_ => XS.aload X87.here hx rfl (hb hby at_148) rfl rfl k_) ?_
            refine Go.st (S' := T87.setTop (mkF m 152 #[.val (.int p0), .val (.int p1), .val (.int K.toInt32), .val (.int (1 : Int32)), .val (.ref b61), .val (.ref b69), .val (.int (3 : Int32)), .unset, .unset, .unset] [(.int (3 : Int32)), (.ref b69)])) (fun _ k_ => XS.iload X87.here hx rfl (hb hby at_150) rfl k_) ?_
            refine Go.st (S' := T87.setTop (mkF m 154 #[.val (.int p0), .val (.int p1), .val (.int K.toInt32), .val (.int (1 : Int32)), .val (.ref b61), .val (.ref b69), .val (.int (3 : Int32)), .unset, .unset, .unset] [(.ref b61), (.int (3 : Int32)), (.ref b69)])) (fun _ k_ => XS.aload X87.here hx rfl (hb hby at_152) rfl rfl k_) ?_
            refine Go.st (S' := T87.setTop (mkF m 155 #[.val (.int p0), .val (.int p1), .val (.int K.toInt32), .val (.int (1 : Int32)), .val (.ref b61), .val (.ref b69), .val (.int (3 : Int32)), .unset, .unset, .unset] [(.int (3 : Int32)), (.ref b61), (.int (3 : Int32)), (.ref b69)])) (fun _ k_ => XS.iconst X87.here hx rfl (hb hby at_154) k_) ?_
            refine Go.st (S' := T87.setTop (mkF m 156 #[.val (.int p0), .val (.int p1), .val (.int K.toInt32), .val (.int (1 : Int32)), .val (.ref b61), .val (.ref b69), .val (.int (3 : Int32)), .unset, .unset, .unset] [(.int x3), (.int (3 : Int32)), (.ref b69)])) (A_b61.load X87 hx hZ e87 (j := (3 : Int32)) (v := x3) (by decide) rfl (g := (mkF m 155 #[.val (.int p0), .val (.int p1), .val (.int K.toInt32), .val (.int (1 : Int32)), .val (.ref b61), .val (.ref b69), .val (.int (3 : Int32)), .unset, .unset, .unset] [(.int (3 : Int32)), (.ref b61), (.int (3 : Int32)), (.ref b69)])) rfl rfl (hb hby at_155)) ?_
            obtain ⟨T88, h88, X88, e88, W88, A88, st88⟩ := A_b69.store X87 hx hZ e87 (j := (3 : Int32)) (by decide) (Nat.le_of_ble_eq_true rfl) (g := (mkF m 156 #[.val (.int p0), .val (.int p1), .val (.int K.toInt32), .val (.int (1 : Int32)), .val (.ref b61), .val (.ref b69), .val (.int (3 : Int32)), .unset, .unset, .unset] [(.int x3), (.int (3 : Int32)), (.ref b69)])) rfl rfl (hb hby at_156)
            replace A_b69 : Ai Z h88 b69 .int [x0, x1, x2, x3] := A88
            replace A_b61 := A_b61.other W88 ne_b61_b69
            replace Z0 := Nat.le_trans Z0 (Keep.of_wr W88).1
            have N88 := Fr.snoc X88 N87 g_b69
            refine Go.st (S' := T88.setTop (mkF m 157 #[.val (.int p0), .val (.int p1), .val (.int K.toInt32), .val (.int (1 : Int32)), .val (.ref b61), .val (.ref b69), .val (.int (3 : Int32)), .unset, .unset, .unset] [])) (st88) ?_
            refine Go.st (S' := T88.setTop (mkF m 160 #[.val (.int p0), .val (.int p1), .val (.int K.toInt32), .val (.int (1 : Int32)), .val (.ref b61), .val (.ref b69), .val (.int ((3 : Int32) + (1 : Int32))), .unset, .unset, .unset] [])) (fun _ k_ => XS.iinc X88.here hx rfl (hb hby at_157) rfl (l' := #[.val (.int p0), .val (.int p1), .val (.int K.toInt32), .val (.int (1 : Int32)), .val (.ref b61), .val (.ref b69), .val (.int ((3 : Int32) + (1 : Int32))), .unset, .unset, .unset]) rfl k_) ?_
            rw [show ((3 : Int32) + (1 : Int32)) = (4 : Int32) from rfl]
            have hf2 : own_okb [x0, x1, x2, x3] = true ∧ ([x0, x1, x2, x3] : List Int32).length = 1 := by
              have q := hf
              rw [List.filter_cons, List.filter_cons, List.filter_cons, List.filter_cons, List.filter_nil] at q
              simp only [show (1 : Nat).toInt32 = (1 : Int32) from rfl, hc85, hc105, hc125, hc145, decide_true, decide_false, if_true, if_false, Bool.false_eq_true] at q
              exact q
            exact absurd hf2.2 (by show ¬ (4 = 1); decide)
          · skip
            refine Go.st (S' := T87.setTop (mkF m 160 #[.val (.int p0), .val (.int p1), .val (.int K.toInt32), .val (.int (1 : Int32)), .val (.ref b61), .val (.ref b69), .val (.int (3 : Int32)), .unset, .unset, .unset] [])) (fun _ k_ => XS.icmpYes X87.here hx rfl (pc0 := 145) (pc' := 160) rfl (hb hby at_145) rfl (flt hc145).2.1 (by decide) (by decide) k_) ?_
            have hf2 : own_okb [x0, x1, x2] = true ∧ ([x0, x1, x2] : List Int32).length = 1 := by
              have q := hf
              rw [List.filter_cons, List.filter_cons, List.filter_cons, List.filter_cons, List.filter_nil] at q
              simp only [show (1 : Nat).toInt32 = (1 : Int32) from rfl, hc85, hc105, hc125, hc145, decide_true, decide_false, if_true, if_false, Bool.false_eq_true] at q
              exact q
            exact absurd hf2.2 (by show ¬ (3 = 1); decide)
        · skip
          refine Go.st (S' := T86.setTop (mkF m 140 #[.val (.int p0), .val (.int p1), .val (.int K.toInt32), .val (.int (1 : Int32)), .val (.ref b61), .val (.ref b69), .val (.int (2 : Int32)), .unset, .unset, .unset] [])) (fun _ k_ => XS.icmpYes X86.here hx rfl (pc0 := 125) (pc' := 140) rfl (hb hby at_125) rfl (flt hc125).2.1 (by decide) (by decide) k_) ?_
          refine Go.st (S' := T86.setTop (mkF m 142 #[.val (.int p0), .val (.int p1), .val (.int K.toInt32), .val (.int (1 : Int32)), .val (.ref b61), .val (.ref b69), .val (.int (2 : Int32)), .unset, .unset, .unset] [(.ref b61)])) (fun _ k_ => XS.aload X86.here hx rfl (hb hby at_140) rfl rfl k_) ?_
          refine Go.st (S' := T86.setTop (mkF m 143 #[.val (.int p0), .val (.int p1), .val (.int K.toInt32), .val (.int (1 : Int32)), .val (.ref b61), .val (.ref b69), .val (.int (2 : Int32)), .unset, .unset, .unset] [(.int (3 : Int32)), (.ref b61)])) (fun _ k_ => XS.iconst X86.here hx rfl (hb hby at_142) k_) ?_
          refine Go.st (S' := T86.setTop (mkF m 144 #[.val (.int p0), .val (.int p1), .val (.int K.toInt32), .val (.int (1 : Int32)), .val (.ref b61), .val (.ref b69), .val (.int (2 : Int32)), .unset, .unset, .unset] [(.int x3)])) (A_b61.load X86 hx hZ e86 (j := (3 : Int32)) (v := x3) (by decide) rfl (g := (mkF m 143 #[.val (.int p0), .val (.int p1), .val (.int K.toInt32), .val (.int (1 : Int32)), .val (.ref b61), .val (.ref b69), .val (.int (2 : Int32)), .unset, .unset, .unset] [(.int (3 : Int32)), (.ref b61)])) rfl rfl (hb hby at_143)) ?_
          refine Go.st (S' := T86.setTop (mkF m 145 #[.val (.int p0), .val (.int p1), .val (.int K.toInt32), .val (.int (1 : Int32)), .val (.ref b61), .val (.ref b69), .val (.int (2 : Int32)), .unset, .unset, .unset] [(.int (1 : Int32)), (.int x3)])) (fun _ k_ => XS.iloadN X86.here hx rfl (hb hby at_144) rfl k_) ?_
          by_cases hc145 : x3 < (1 : Int32)
          · skip
            refine Go.st (S' := T86.setTop (mkF m 148 #[.val (.int p0), .val (.int p1), .val (.int K.toInt32), .val (.int (1 : Int32)), .val (.ref b61), .val (.ref b69), .val (.int (2 : Int32)), .unset, .unset, .unset] [])) (fun _ k_ => XS.icmpNo X86.here hx rfl (hb hby at_145) rfl (tlt hc145).2.1 k_) ?_
            refine Go.st (S' := T86.setTop (mkF m 150 #[.val (.int p0), .val (.int p1), .val (.int K.toInt32), .val (.int (1 : Int32)), .val (.ref b61), .val (.ref b69), .val (.int (2 : Int32)), .unset, .unset, .unset] [(.ref b69)])) (fun _ k_ => XS.aload X86.here hx rfl (hb hby at_148) rfl rfl k_) ?_
            refine Go.st (S' := T86.setTop (mkF m 152 #[.val (.int p0), .val (.int p1), .val (.int K.toInt32), .val (.int (1 : Int32)), .val (.ref b61), .val (.ref b69), .val (.int (2 : Int32)), .unset, .unset, .unset] [(.int (2 : Int32)), (.ref b69)])) (fun _ k_ => XS.iload X86.here hx rfl (hb hby at_150) rfl k_) ?_
            refine Go.st (S' := T86.setTop (mkF m 154 #[.val (.int p0), .val (.int p1), .val (.int K.toInt32), .val (.int (1 : Int32)), .val (.ref b61), .val (.ref b69), .val (.int (2 : Int32)), .unset, .unset, .unset] [(.ref b61), (.int (2 : Int32)), (.ref b69)])) (fun _ k_ => XS.aload X86.here hx rfl (hb hby at_152) rfl rfl k_) ?_
            refine Go.st (S' := T86.setTop (mkF m 155 #[.val (.int p0), .val (.int p1), .val (.int K.toInt32), .val (.int (1 : Int32)), .val (.ref b61), .val (.ref b69), .val (.int (2 : Int32)), .unset, .unset, .unset] [(.int (3 : Int32)), (.ref b61), (.int (2 : Int32)), (.ref b69)])) (fun _ k_ => XS.iconst X86.here hx rfl (hb hby at_154) k_) ?_
            refine Go.st (S' := T86.setTop (mkF m 156 #[.val (.int p0), .val (.int p1), .val (.int K.toInt32), .val (.int (1 : Int32)), .val (.ref b61), .val (.ref b69), .val (.int (2 : Int32)), .unset, .unset, .unset] [(.int x3), (.int (2 : Int32)), (.ref b69)])) (A_b61.load X86 hx hZ e86 (j := (3 : Int32)) (v := x3) (by decide) rfl (g := (mkF m 155 #[.val (.int p0), .val (.int p1), .val (.int K.toInt32), .val (.int (1 : Int32)), .val (.ref b61), .val (.ref b69), .val (.int (2 : Int32)), .unset, .unset, .unset] [(.int (3 : Int32)), (.ref b61), (.int (2 : Int32)), (.ref b69)])) rfl rfl (hb hby at_155)) ?_
            obtain ⟨T89, h89, X89, e89, W89, A89, st89⟩ := A_b69.store X86 hx hZ e86 (j := (2 : Int32)) (by decide) (Nat.le_of_ble_eq_true rfl) (g := (mkF m 156 #[.val (.int p0), .val (.int p1), .val (.int K.toInt32), .val (.int (1 : Int32)), .val (.ref b61), .val (.ref b69), .val (.int (2 : Int32)), .unset, .unset, .unset] [(.int x3), (.int (2 : Int32)), (.ref b69)])) rfl rfl (hb hby at_156)
            replace A_b69 : Ai Z h89 b69 .int [x0, x1, x3, (0 : Int32)] := A89
            replace A_b61 := A_b61.other W89 ne_b61_b69
            replace Z0 := Nat.le_trans Z0 (Keep.of_wr W89).1
            have N89 := Fr.snoc X89 N86 g_b69
            refine Go.st (S' := T89.setTop (mkF m 157 #[.val (.int p0), .val (.int p1), .val (.int K.toInt32), .val (.int (1 : Int32)), .val (.ref b61), .val (.ref b69), .val (.int (2 : Int32)), .unset, .unset, .unset] [])) (st89) ?_
            refine Go.st (S' := T89.setTop (mkF m 160 #[.val (.int p0), .val (.int p1), .val (.int K.toInt32), .val (.int (1 : Int32)), .val (.ref b61), .val (.ref b69), .val (.int ((2 : Int32) + (1 : Int32))), .unset, .unset, .unset] [])) (fun _ k_ => XS.iinc X89.here hx rfl (hb hby at_157) rfl (l' := #[.val (.int p0), .val (.int p1), .val (.int K.toInt32), .val (.int (1 : Int32)), .val (.ref b61), .val (.ref b69), .val (.int ((2 : Int32) + (1 : Int32))), .unset, .unset, .unset]) rfl k_) ?_
            rw [show ((2 : Int32) + (1 : Int32)) = (3 : Int32) from rfl]
            have hf2 : own_okb [x0, x1, x3] = true ∧ ([x0, x1, x3] : List Int32).length = 1 := by
              have q := hf
              rw [List.filter_cons, List.filter_cons, List.filter_cons, List.filter_cons, List.filter_nil] at q
              simp only [show (1 : Nat).toInt32 = (1 : Int32) from rfl, hc85, hc105, hc125, hc145, decide_true, decide_false, if_true, if_false, Bool.false_eq_true] at q
              exact q
            exact absurd hf2.2 (by show ¬ (3 = 1); decide)
          · skip
            refine Go.st (S' := T86.setTop (mkF m 160 #[.val (.int p0), .val (.int p1), .val (.int K.toInt32), .val (.int (1 : Int32)), .val (.ref b61), .val (.ref b69), .val (.int (2 : Int32)), .unset, .unset, .unset] [])) (fun _ k_ => XS.icmpYes X86.here hx rfl (pc0 := 145) (pc' := 160) rfl (hb hby at_145) rfl (flt hc145).2.1 (by decide) (by decide) k_) ?_
            have hf2 : own_okb [x0, x1] = true ∧ ([x0, x1] : List Int32).length = 1 := by
              have q := hf
              rw [List.filter_cons, List.filter_cons, List.filter_cons, List.filter_cons, List.filter_nil] at q
              simp only [show (1 : Nat).toInt32 = (1 : Int32) from rfl, hc85, hc105, hc125, hc145, decide_true, decide_false, if_true, if_false, Bool.false_eq_true] at q
              exact q
            exact absurd hf2.2 (by show ¬ (2 = 1); decide)
      · skip
        refine Go.st (S' := T85.setTop (mkF m 120 #[.val (.int p0), .val (.int p1), .val (.int K.toInt32), .val (.int (1 : Int32)), .val (.ref b61), .val (.ref b69), .val (.int (1 : Int32)), .unset, .unset, .unset] [])) (fun _ k_ => XS.icmpYes X85.here hx rfl (pc0 := 105) (pc' := 120) rfl (hb hby at_105) rfl (flt hc105).2.1 (by decide) (by decide) k_) ?_
        refine Go.st (S' := T85.setTop (mkF m 122 #[.val (.int p0), .val (.int p1), .val (.int K.toInt32), .val (.int (1 : Int32)), .val (.ref b61), .val (.ref b69), .val (.int (1 : Int32)), .unset, .unset, .unset] [(.ref b61)])) (fun _ k_ => XS.aload X85.here hx rfl (hb hby at_120) rfl rfl k_) ?_
        refine Go.st (S' := T85.setTop (mkF m 123 #[.val (.int p0), .val (.int p1), .val (.int K.toInt32), .val (.int (1 : Int32)), .val (.ref b61), .val (.ref b69), .val (.int (1 : Int32)), .unset, .unset, .unset] [(.int (2 : Int32)), (.ref b61)])) (fun _ k_ => XS.iconst X85.here hx rfl (hb hby at_122) k_) ?_
        refine Go.st (S' := T85.setTop (mkF m 124 #[.val (.int p0), .val (.int p1), .val (.int K.toInt32), .val (.int (1 : Int32)), .val (.ref b61), .val (.ref b69), .val (.int (1 : Int32)), .unset, .unset, .unset] [(.int x2)])) (A_b61.load X85 hx hZ e85 (j := (2 : Int32)) (v := x2) (by decide) rfl (g := (mkF m 123 #[.val (.int p0), .val (.int p1), .val (.int K.toInt32), .val (.int (1 : Int32)), .val (.ref b61), .val (.ref b69), .val (.int (1 : Int32)), .unset, .unset, .unset] [(.int (2 : Int32)), (.ref b61)])) rfl rfl (hb hby at_123)) ?_
        refine Go.st (S' := T85.setTop (mkF m 125 #[.val (.int p0), .val (.int p1), .val (.int K.toInt32), .val (.int (1 : Int32)), .val (.ref b61), .val (.ref b69), .val (.int (1 : Int32)), .unset, .unset, .unset] [(.int (1 : Int32)), (.int x2)])) (fun _ k_ => XS.iloadN X85.here hx rfl (hb hby at_124) rfl k_) ?_
        by_cases hc125 : x2 < (1 : Int32)
        · skip
          refine Go.st (S' := T85.setTop (mkF m 128 #[.val (.int p0), .val (.int p1), .val (.int K.toInt32), .val (.int (1 : Int32)), .val (.ref b61), .val (.ref b69), .val (.int (1 : Int32)), .unset, .unset, .unset] [])) (fun _ k_ => XS.icmpNo X85.here hx rfl (hb hby at_125) rfl (tlt hc125).2.1 k_) ?_
          refine Go.st (S' := T85.setTop (mkF m 130 #[.val (.int p0), .val (.int p1), .val (.int K.toInt32), .val (.int (1 : Int32)), .val (.ref b61), .val (.ref b69), .val (.int (1 : Int32)), .unset, .unset, .unset] [(.ref b69)])) (fun _ k_ => XS.aload X85.here hx rfl (hb hby at_128) rfl rfl k_) ?_
          refine Go.st (S' := T85.setTop (mkF m 132 #[.val (.int p0), .val (.int p1), .val (.int K.toInt32), .val (.int (1 : Int32)), .val (.ref b61), .val (.ref b69), .val (.int (1 : Int32)), .unset, .unset, .unset] [(.int (1 : Int32)), (.ref b69)])) (fun _ k_ => XS.iload X85.here hx rfl (hb hby at_130) rfl k_) ?_
          refine Go.st (S' := T85.setTop (mkF m 134 #[.val (.int p0), .val (.int p1), .val (.int K.toInt32), .val (.int (1 : Int32)), .val (.ref b61), .val (.ref b69), .val (.int (1 : Int32)), .unset, .unset, .unset] [(.ref b61), (.int (1 : Int32)), (.ref b69)])) (fun _ k_ => XS.aload X85.here hx rfl (hb hby at_132) rfl rfl k_) ?_
          refine Go.st (S' := T85.setTop (mkF m 135 #[.val (.int p0), .val (.int p1), .val (.int K.toInt32), .val (.int (1 : Int32)), .val (.ref b61), .val (.ref b69), .val (.int (1 : Int32)), .unset, .unset, .unset] [(.int (2 : Int32)), (.ref b61), (.int (1 : Int32)), (.ref b69)])) (fun _ k_ => XS.iconst X85.here hx rfl (hb hby at_134) k_) ?_
          refine Go.st (S' := T85.setTop (mkF m 136 #[.val (.int p0), .val (.int p1), .val (.int K.toInt32), .val (.int (1 : Int32)), .val (.ref b61), .val (.ref b69), .val (.int (1 : Int32)), .unset, .unset, .unset] [(.int x2), (.int (1 : Int32)), (.ref b69)])) (A_b61.load X85 hx hZ e85 (j := (2 : Int32)) (v := x2) (by decide) rfl (g := (mkF m 135 #[.val (.int p0), .val (.int p1), .val (.int K.toInt32), .val (.int (1 : Int32)), .val (.ref b61), .val (.ref b69), .val (.int (1 : Int32)), .unset, .unset, .unset] [(.int (2 : Int32)), (.ref b61), (.int (1 : Int32)), (.ref b69)])) rfl rfl (hb hby at_135)) ?_
          obtain ⟨T90, h90, X90, e90, W90, A90, st90⟩ := A_b69.store X85 hx hZ e85 (j := (1 : Int32)) (by decide) (Nat.le_of_ble_eq_true rfl) (g := (mkF m 136 #[.val (.int p0), .val (.int p1), .val (.int K.toInt32), .val (.int (1 : Int32)), .val (.ref b61), .val (.ref b69), .val (.int (1 : Int32)), .unset, .unset, .unset] [(.int x2), (.int (1 : Int32)), (.ref b69)])) rfl rfl (hb hby at_136)
          replace A_b69 : Ai Z h90 b69 .int [x0, x2, (0 : Int32), (0 : Int32)] := A90
          replace A_b61 := A_b61.other W90 ne_b61_b69
          replace Z0 := Nat.le_trans Z0 (Keep.of_wr W90).1
          have N90 := Fr.snoc X90 N85 g_b69
          refine Go.st (S' := T90.setTop (mkF m 137 #[.val (.int p0), .val (.int p1), .val (.int K.toInt32), .val (.int (1 : Int32)), .val (.ref b61), .val (.ref b69), .val (.int (1 : Int32)), .unset, .unset, .unset] [])) (st90) ?_
          refine Go.st (S' := T90.setTop (mkF m 140 #[.val (.int p0), .val (.int p1), .val (.int K.toInt32), .val (.int (1 : Int32)), .val (.ref b61), .val (.ref b69), .val (.int ((1 : Int32) + (1 : Int32))), .unset, .unset, .unset] [])) (fun _ k_ => XS.iinc X90.here hx rfl (hb hby at_137) rfl (l' := #[.val (.int p0), .val (.int p1), .val (.int K.toInt32), .val (.int (1 : Int32)), .val (.ref b61), .val (.ref b69), .val (.int ((1 : Int32) + (1 : Int32))), .unset, .unset, .unset]) rfl k_) ?_
          rw [show ((1 : Int32) + (1 : Int32)) = (2 : Int32) from rfl]
          refine Go.st (S' := T90.setTop (mkF m 142 #[.val (.int p0), .val (.int p1), .val (.int K.toInt32), .val (.int (1 : Int32)), .val (.ref b61), .val (.ref b69), .val (.int (2 : Int32)), .unset, .unset, .unset] [(.ref b61)])) (fun _ k_ => XS.aload X90.here hx rfl (hb hby at_140) rfl rfl k_) ?_
          refine Go.st (S' := T90.setTop (mkF m 143 #[.val (.int p0), .val (.int p1), .val (.int K.toInt32), .val (.int (1 : Int32)), .val (.ref b61), .val (.ref b69), .val (.int (2 : Int32)), .unset, .unset, .unset] [(.int (3 : Int32)), (.ref b61)])) (fun _ k_ => XS.iconst X90.here hx rfl (hb hby at_142) k_) ?_
          refine Go.st (S' := T90.setTop (mkF m 144 #[.val (.int p0), .val (.int p1), .val (.int K.toInt32), .val (.int (1 : Int32)), .val (.ref b61), .val (.ref b69), .val (.int (2 : Int32)), .unset, .unset, .unset] [(.int x3)])) (A_b61.load X90 hx hZ e90 (j := (3 : Int32)) (v := x3) (by decide) rfl (g := (mkF m 143 #[.val (.int p0), .val (.int p1), .val (.int K.toInt32), .val (.int (1 : Int32)), .val (.ref b61), .val (.ref b69), .val (.int (2 : Int32)), .unset, .unset, .unset] [(.int (3 : Int32)), (.ref b61)])) rfl rfl (hb hby at_143)) ?_
          refine Go.st (S' := T90.setTop (mkF m 145 #[.val (.int p0), .val (.int p1), .val (.int K.toInt32), .val (.int (1 : Int32)), .val (.ref b61), .val (.ref b69), .val (.int (2 : Int32)), .unset, .unset, .unset] [(.int (1 : Int32)), (.int x3)])) (fun _ k_ => XS.iloadN X90.here hx rfl (hb hby at_144) rfl k_) ?_
          by_cases hc145 : x3 < (1 : Int32)
          · skip
            refine Go.st (S' := T90.setTop (mkF m 148 #[.val (.int p0), .val (.int p1), .val (.int K.toInt32), .val (.int (1 : Int32)), .val (.ref b61), .val (.ref b69), .val (.int (2 : Int32)), .unset, .unset, .unset] [])) (fun _ k_ => XS.icmpNo X90.here hx rfl (hb hby at_145) rfl (tlt hc145).2.1 k_) ?_
            refine Go.st (S' := T90.setTop (mkF m 150 #[.val (.int p0), .val (.int p1), .val (.int K.toInt32), .val (.int (1 : Int32)), .val (.ref b61), .val (.ref b69), .val (.int (2 : Int32)), .unset, .unset, .unset] [(.ref b69)])) (fun _ k_ => XS.aload X90.here hx rfl (hb hby at_148) rfl rfl k_) ?_
            refine Go.st (S' := T90.setTop (mkF m 152 #[.val (.int p0), .val (.int p1), .val (.int K.toInt32), .val (.int (1 : Int32)), .val (.ref b61), .val (.ref b69), .val (.int (2 : Int32)), .unset, .unset, .unset] [(.int (2 : Int32)), (.ref b69)])) (fun _ k_ => XS.iload X90.here hx rfl (hb hby at_150) rfl k_) ?_
            refine Go.st (S' := T90.setTop (mkF m 154 #[.val (.int p0), .val (.int p1), .val (.int K.toInt32), .val (.int (1 : Int32)), .val (.ref b61), .val (.ref b69), .val (.int (2 : Int32)), .unset, .unset, .unset] [(.ref b61), (.int (2 : Int32)), (.ref b69)])) (fun _ k_ => XS.aload X90.here hx rfl (hb hby at_152) rfl rfl k_) ?_
            refine Go.st (S' := T90.setTop (mkF m 155 #[.val (.int p0), .val (.int p1), .val (.int K.toInt32), .val (.int (1 : Int32)), .val (.ref b61), .val (.ref b69), .val (.int (2 : Int32)), .unset, .unset, .unset] [(.int (3 : Int32)), (.ref b61), (.int (2 : Int32)), (.ref b69)])) (fun _ k_ => XS.iconst X90.here hx rfl (hb hby at_154) k_) ?_
            refine Go.st (S' := T90.setTop (mkF m 156 #[.val (.int p0), .val (.int p1), .val (.int K.toInt32), .val (.int (1 : Int32)), .val (.ref b61), .val (.ref b69), .val (.int (2 : Int32)), .unset, .unset, .unset] [(.int x3), (.int (2 : Int32)), (.ref b69)])) (A_b61.load X90 hx hZ e90 (j := (3 : Int32)) (v := x3) (by decide) rfl (g := (mkF m 155 #[.val (.int p0), .val (.int p1), .val (.int K.toInt32), .val (.int (1 : Int32)), .val (.ref b61), .val (.ref b69), .val (.int (2 : Int32)), .unset, .unset, .unset] [(.int (3 : Int32)), (.ref b61), (.int (2 : Int32)), (.ref b69)])) rfl rfl (hb hby at_155)) ?_
            obtain ⟨T91, h91, X91, e91, W91, A91, st91⟩ := A_b69.store X90 hx hZ e90 (j := (2 : Int32)) (by decide) (Nat.le_of_ble_eq_true rfl) (g := (mkF m 156 #[.val (.int p0), .val (.int p1), .val (.int K.toInt32), .val (.int (1 : Int32)), .val (.ref b61), .val (.ref b69), .val (.int (2 : Int32)), .unset, .unset, .unset] [(.int x3), (.int (2 : Int32)), (.ref b69)])) rfl rfl (hb hby at_156)
            replace A_b69 : Ai Z h91 b69 .int [x0, x2, x3, (0 : Int32)] := A91
            replace A_b61 := A_b61.other W91 ne_b61_b69
            replace Z0 := Nat.le_trans Z0 (Keep.of_wr W91).1
            have N91 := Fr.snoc X91 N90 g_b69
            refine Go.st (S' := T91.setTop (mkF m 157 #[.val (.int p0), .val (.int p1), .val (.int K.toInt32), .val (.int (1 : Int32)), .val (.ref b61), .val (.ref b69), .val (.int (2 : Int32)), .unset, .unset, .unset] [])) (st91) ?_
            refine Go.st (S' := T91.setTop (mkF m 160 #[.val (.int p0), .val (.int p1), .val (.int K.toInt32), .val (.int (1 : Int32)), .val (.ref b61), .val (.ref b69), .val (.int ((2 : Int32) + (1 : Int32))), .unset, .unset, .unset] [])) (fun _ k_ => XS.iinc X91.here hx rfl (hb hby at_157) rfl (l' := #[.val (.int p0), .val (.int p1), .val (.int K.toInt32), .val (.int (1 : Int32)), .val (.ref b61), .val (.ref b69), .val (.int ((2 : Int32) + (1 : Int32))), .unset, .unset, .unset]) rfl k_) ?_
            rw [show ((2 : Int32) + (1 : Int32)) = (3 : Int32) from rfl]
            have hf2 : own_okb [x0, x2, x3] = true ∧ ([x0, x2, x3] : List Int32).length = 1 := by
              have q := hf
              rw [List.filter_cons, List.filter_cons, List.filter_cons, List.filter_cons, List.filter_nil] at q
              simp only [show (1 : Nat).toInt32 = (1 : Int32) from rfl, hc85, hc105, hc125, hc145, decide_true, decide_false, if_true, if_false, Bool.false_eq_true] at q
              exact q
            exact absurd hf2.2 (by show ¬ (3 = 1); decide)
          · skip
            refine Go.st (S' := T90.setTop (mkF m 160 #[.val (.int p0), .val (.int p1), .val (.int K.toInt32), .val (.int (1 : Int32)), .val (.ref b61), .val (.ref b69), .val (.int (2 : Int32)), .unset, .unset, .unset] [])) (fun _ k_ => XS.icmpYes X90.here hx rfl (pc0 := 145) (pc' := 160) rfl (hb hby at_145) rfl (flt hc145).2.1 (by decide) (by decide) k_) ?_
            have hf2 : own_okb [x0, x2] = true ∧ ([x0, x2] : List Int32).length = 1 := by
              have q := hf
              rw [List.filter_cons, List.filter_cons, List.filter_cons, List.filter_cons, List.filter_nil] at q
              simp only [show (1 : Nat).toInt32 = (1 : Int32) from rfl, hc85, hc105, hc125, hc145, decide_true, decide_false, if_true, if_false, Bool.false_eq_true] at q
              exact q
            exact absurd hf2.2 (by show ¬ (2 = 1); decide)
        · skip
          refine Go.st (S' := T85.setTop (mkF m 140 #[.val (.int p0), .val (.int p1), .val (.int K.toInt32), .val (.int (1 : Int32)), .val (.ref b61), .val (.ref b69), .val (.int (1 : Int32)), .unset, .unset, .unset] [])) (fun _ k_ => XS.icmpYes X85.here hx rfl (pc0 := 125) (pc' := 140) rfl (hb hby at_125) rfl (flt hc125).2.1 (by decide) (by decide) k_) ?_
          refine Go.st (S' := T85.setTop (mkF m 142 #[.val (.int p0), .val (.int p1), .val (.int K.toInt32), .val (.int (1 : Int32)), .val (.ref b61), .val (.ref b69), .val (.int (1 : Int32)), .unset, .unset, .unset] [(.ref b61)])) (fun _ k_ => XS.aload X85.here hx rfl (hb hby at_140) rfl rfl k_) ?_
          refine Go.st (S' := T85.setTop (mkF m 143 #[.val (.int p0), .val (.int p1), .val (.int K.toInt32), .val (.int (1 : Int32)), .val (.ref b61), .val (.ref b69), .val (.int (1 : Int32)), .unset, .unset, .unset] [(.int (3 : Int32)), (.ref b61)])) (fun _ k_ => XS.iconst X85.here hx rfl (hb hby at_142) k_) ?_
          refine Go.st (S' := T85.setTop (mkF m 144 #[.val (.int p0), .val (.int p1), .val (.int K.toInt32), .val (.int (1 : Int32)), .val (.ref b61), .val (.ref b69), .val (.int (1 : Int32)), .unset, .unset, .unset] [(.int x3)])) (A_b61.load X85 hx hZ e85 (j := (3 : Int32)) (v := x3) (by decide) rfl (g := (mkF m 143 #[.val (.int p0), .val (.int p1), .val (.int K.toInt32), .val (.int (1 : Int32)), .val (.ref b61), .val (.ref b69), .val (.int (1 : Int32)), .unset, .unset, .unset] [(.int (3 : Int32)), (.ref b61)])) rfl rfl (hb hby at_143)) ?_
          refine Go.st (S' := T85.setTop (mkF m 145 #[.val (.int p0), .val (.int p1), .val (.int K.toInt32), .val (.int (1 : Int32)), .val (.ref b61), .val (.ref b69), .val (.int (1 : Int32)), .unset, .unset, .unset] [(.int (1 : Int32)), (.int x3)])) (fun _ k_ => XS.iloadN X85.here hx rfl (hb hby at_144) rfl k_) ?_
          by_cases hc145 : x3 < (1 : Int32)
          · skip
            refine Go.st (S' := T85.setTop (mkF m 148 #[.val (.int p0), .val (.int p1), .val (.int K.toInt32), .val (.int (1 : Int32)), .val (.ref b61), .val (.ref b69), .val (.int (1 : Int32)), .unset, .unset, .unset] [])) (fun _ k_ => XS.icmpNo X85.here hx rfl (hb hby at_145) rfl (tlt hc145).2.1 k_) ?_
            refine Go.st (S' := T85.setTop (mkF m 150 #[.val (.int p0), .val (.int p1), .val (.int K.toInt32), .val (.int (1 : Int32)), .val (.ref b61), .val (.ref b69), .val (.int (1 : Int32)), .unset, .unset, .unset] [(.ref b69)])) (fun _ k_ => XS.aload X85.here hx rfl (hb hby at_148) rfl rfl k_) ?_
            refine Go.st (S' := T85.setTop (mkF m 152 #[.val (.int p0), .val (.int p1), .val (.int K.toInt32), .val (.int (1 : Int32)), .val (.ref b61), .val (.ref b69), .val (.int (1 : Int32)), .unset, .unset, .unset] [(.int (1 : Int32)), (.ref b69)])) (fun _ k_ => XS.iload X85.here hx rfl (hb hby at_150) rfl k_) ?_
            refine Go.st (S' := T85.setTop (mkF m 154 #[.val (.int p0), .val (.int p1), .val (.int K.toInt32), .val (.int (1 : Int32)), .val (.ref b61), .val (.ref b69), .val (.int (1 : Int32)), .unset, .unset, .unset] [(.ref b61), (.int (1 : Int32)), (.ref b69)])) (fun _ k_ => XS.aload X85.here hx rfl (hb hby at_152) rfl rfl k_) ?_
            refine Go.st (S' := T85.setTop (mkF m 155 #[.val (.int p0), .val (.int p1), .val (.int K.toInt32), .val (.int (1 : Int32)), .val (.ref b61), .val (.ref b69), .val (.int (1 : Int32)), .unset, .unset, .unset] [(.int (3 : Int32)), (.ref b61), (.int (1 : Int32)), (.ref b69)])) (fun _ k_ => XS.iconst X85.here hx rfl (hb hby at_154) k_) ?_
            refine Go.st (S' := T85.setTop (mkF m 156 #[.val (.int p0), .val (.int p1), .val (.int K.toInt32), .val (.int (1 : Int32)), .val (.ref b61), .val (.ref b69), .val (.int (1 : Int32)), .unset, .unset, .unset] [(.int x3), (.int (1 : Int32)), (.ref b69)])) (A_b61.load X85 hx hZ e85 (j := (3 : Int32)) (v := x3) (by decide) rfl (g := (mkF m 155 #[.val (.int p0), .val (.int p1), .val (.int K.toInt32), .val (.int (1 : Int32)), .val (.ref b61), .val (.ref b69), .val (.int (1 : Int32)), .unset, .unset, .unset] [(.int (3 : Int32)), (.ref b61), (.int (1 : Int32)), (.ref b69)])) rfl rfl (hb hby at_155)) ?_
            obtain ⟨T92, h92, X92, e92, W92, A92, st92⟩ := A_b69.store X85 hx hZ e85 (j := (1 : Int32)) (by decide) (Nat.le_of_ble_eq_true rfl) (g := (mkF m 156 #[.val (.int p0), .val (.int p1), .val (.int K.toInt32), .val (.int (1 : Int32)), .val (.ref b61), .val (.ref b69), .val (.int (1 : Int32)), .unset, .unset, .unset] [(.int x3), (.int (1 : Int32)), (.ref b69)])) rfl rfl (hb hby at_156)
            replace A_b69 : Ai Z h92 b69 .int [x0, x3, (0 : Int32), (0 : Int32)] := A92
            replace A_b61 := A_b61.other W92 ne_b61_b69
            replace Z0 := Nat.le_trans Z0 (Keep.of_wr W92).1
            have N92 := Fr.snoc X92 N85 g_b69
            refine Go.st (S' := T92.setTop (mkF m 157 #[.val (.int p0), .val (.int p1), .val (.int K.toInt32), .val (.int (1 : Int32)), .val (.ref b61), .val (.ref b69), .val (.int (1 : Int32)), .unset, .unset, .unset] [])) (st92) ?_
            refine Go.st (S' := T92.setTop (mkF m 160 #[.val (.int p0), .val (.int p1), .val (.int K.toInt32), .val (.int (1 : Int32)), .val (.ref b61), .val (.ref b69), .val (.int ((1 : Int32) + (1 : Int32))), .unset, .unset, .unset] [])) (fun _ k_ => XS.iinc X92.here hx rfl (hb hby at_157) rfl (l' := #[.val (.int p0), .val (.int p1), .val (.int K.toInt32), .val (.int (1 : Int32)), .val (.ref b61), .val (.ref b69), .val (.int ((1 : Int32) + (1 : Int32))), .unset, .unset, .unset]) rfl k_) ?_
            rw [show ((1 : Int32) + (1 : Int32)) = (2 : Int32) from rfl]
            have hf2 : own_okb [x0, x3] = true ∧ ([x0, x3] : List Int32).length = 1 := by
              have q := hf
              rw [List.filter_cons, List.filter_cons, List.filter_cons, List.filter_cons, List.filter_nil] at q
              simp only [show (1 : Nat).toInt32 = (1 : Int32) from rfl, hc85, hc105, hc125, hc145, decide_true, decide_false, if_true, if_false, Bool.false_eq_true] at q
              exact q
            exact absurd hf2.2 (by show ¬ (2 = 1); decide)
          · skip
            refine Go.st (S' := T85.setTop (mkF m 160 #[.val (.int p0), .val (.int p1), .val (.int K.toInt32), .val (.int (1 : Int32)), .val (.ref b61), .val (.ref b69), .val (.int (1 : Int32)), .unset, .unset, .unset] [])) (fun _ k_ => XS.icmpYes X85.here hx rfl (pc0 := 145) (pc' := 160) rfl (hb hby at_145) rfl (flt hc145).2.1 (by decide) (by decide) k_) ?_
            have hf2 : own_okb [x0] = true ∧ ([x0] : List Int32).length = 1 := by
              have q := hf
              rw [List.filter_cons, List.filter_cons, List.filter_cons, List.filter_cons, List.filter_nil] at q
              simp only [show (1 : Nat).toInt32 = (1 : Int32) from rfl, hc85, hc105, hc125, hc145, decide_true, decide_false, if_true, if_false, Bool.false_eq_true] at q
              exact q
            exact J1 _ _ _ _ _ (X85.more (by decide) (by decide)) e85 N85 Z0 b61 b69 x0 (0 : Int32) (0 : Int32) (0 : Int32) A_b69 g_b69 (own_ok_of hf2.1)
    · skip
      refine Go.st (S' := T69.setTop (mkF m 100 #[.val (.int p0), .val (.int p1), .val (.int K.toInt32), .val (.int (1 : Int32)), .val (.ref b61), .val (.ref b69), .val (.int (0 : Int32)), .unset, .unset, .unset] [])) (fun _ k_ => XS.icmpYes X69.here hx rfl (pc0 := 85) (pc' := 100) rfl (hb hby at_85) rfl (flt hc85).2.1 (by decide) (by decide) k_) ?_
      refine Go.st (S' := T69.setTop (mkF m 102 #[.val (.int p0), .val (.int p1), .val (.int K.toInt32), .val (.int (1 : Int32)), .val (.ref b61), .val (.ref b69), .val (.int (0 : Int32)), .unset, .unset, .unset] [(.ref b61)])) (fun _ k_ => XS.aload X69.here hx rfl (hb hby at_100) rfl rfl k_) ?_
      refine Go.st (S' := T69.setTop (mkF m 103 #[.val (.int p0), .val (.int p1), .val (.int K.toInt32), .val (.int (1 : Int32)), .val (.ref b61), .val (.ref b69), .val (.int (0 : Int32)), .unset, .unset, .unset] [(.int (1 : Int32)), (.ref b61)])) (fun _ k_ => XS.iconst X69.here hx rfl (hb hby at_102) k_) ?_
      refine Go.st (S' := T69.setTop (mkF m 104 #[.val (.int p0), .val (.int p1), .val (.int K.toInt32), .val (.int (1 : Int32)), .val (.ref b61), .val (.ref b69), .val (.int (0 : Int32)), .unset, .unset, .unset] [(.int x1)])) (A_b61.load X69 hx hZ e69 (j := (1 : Int32)) (v := x1) (by decide) rfl (g := (mkF m 103 #[.val (.int p0), .val (.int p1), .val (.int K.toInt32), .val (.int (1 : Int32)), .val (.ref b61), .val (.ref b69), .val (.int (0 : Int32)), .unset, .unset, .unset] [(.int (1 : Int32)), (.ref b61)])) rfl rfl (hb hby at_103)) ?_
      refine Go.st (S' := T69.setTop (mkF m 105 #[.val (.int p0), .val (.int p1), .val (.int K.toInt32), .val (.int (1 : Int32)), .val (.ref b61), .val (.ref b69), .val (.int (0 : Int32)), .unset, .unset, .unset] [(.int (1 : Int32)), (.int x1)])) (fun _ k_ => XS.iloadN X69.here hx rfl (hb hby at_104) rfl k_) ?_
      by_cases hc105 : x1 < (1 : Int32)
      · skip
        refine Go.st (S' := T69.setTop (mkF m 108 #[.val (.int p0), .val (.int p1), .val (.int K.toInt32), .val (.int (1 : Int32)), .val (.ref b61), .val (.ref b69), .val (.int (0 : Int32)), .unset, .unset, .unset] [])) (fun _ k_ => XS.icmpNo X69.here hx rfl (hb hby at_105) rfl (tlt hc105).2.1 k_) ?_
        refine Go.st (S' := T69.setTop (mkF m 110 #[.val (.int p0), .val (.int p1), .val (.int K.toInt32), .val (.int (1 : Int32)), .val (.ref b61), .val (.ref b69), .val (.int (0 : Int32)), .unset, .unset, .unset] [(.ref b69)])) (fun _ k_ => XS.aload X69.here hx rfl (hb hby at_108) rfl rfl k_) ?_
        refine Go.st (S' := T69.setTop (mkF m 112 #[.val (.int p0), .val (.int p1), .val (.int K.toInt32), .val (.int (1 : Int32)), .val (.ref b61), .val (.ref b69), .val (.int (0 : Int32)), .unset, .unset, .unset] [(.int (0 : Int32)), (.ref b69)])) (fun _ k_ => XS.iload X69.here hx rfl (hb hby at_110) rfl k_) ?_
        refine Go.st (S' := T69.setTop (mkF m 114 #[.val (.int p0), .val (.int p1), .val (.int K.toInt32), .val (.int (1 : Int32)), .val (.ref b61), .val (.ref b69), .val (.int (0 : Int32)), .unset, .unset, .unset] [(.ref b61), (.int (0 : Int32)), (.ref b69)])) (fun _ k_ => XS.aload X69.here hx rfl (hb hby at_112) rfl rfl k_) ?_
        refine Go.st (S' := T69.setTop (mkF m 115 #[.val (.int p0), .val (.int p1), .val (.int K.toInt32), .val (.int (1 : Int32)), .val (.ref b61), .val (.ref b69), .val (.int (0 : Int32)), .unset, .unset, .unset] [(.int (1 : Int32)), (.ref b61), (.int (0 : Int32)), (.ref b69)])) (fun _ k_ => XS.iconst X69.here hx rfl (hb hby at_114) k_) ?_
        refine Go.st (S' := T69.setTop (mkF m 116 #[.val (.int p0), .val (.int p1), .val (.int K.toInt32), .val (.int (1 : Int32)), .val (.ref b61), .val (.ref b69), .val (.int (0 : Int32)), .unset, .unset, .unset] [(.int x1), (.int (0 : Int32)), (.ref b69)])) (A_b61.load X69 hx hZ e69 (j := (1 : Int32)) (v := x1) (by decide) rfl (g := (mkF m 115 #[.val (.int p0), .val (.int p1), .val (.int K.toInt32), .val (.int (1 : Int32)), .val (.ref b61), .val (.ref b69), .val (.int (0 : Int32)), .unset, .unset, .unset] [(.int (1 : Int32)), (.ref b61), (.int (0 : Int32)), (.ref b69)])) rfl rfl (hb hby at_115)) ?_
        obtain ⟨T93, h93, X93, e93, W93, A93, st93⟩ := A_b69.store X69 hx hZ e69 (j := (0 : Int32)) (by decide) (Nat.le_of_ble_eq_true rfl) (g := (mkF m 116 #[.val (.int p0), .val (.int p1), .val (.int K.toInt32), .val (.int (1 : Int32)), .val (.ref b61), .val (.ref b69), .val (.int (0 : Int32)), .unset, .unset, .unset] [(.int x1), (.int (0 : Int32)), (.ref b69)])) rfl rfl (hb hby at_116)
        replace A_b69 : Ai Z h93 b69 .int [x1, (0 : Int32), (0 : Int32), (0 : Int32)] := A93
        replace A_b61 := A_b61.other W93 ne_b61_b69
        replace Z0 := Nat.le_trans Z0 (Keep.of_wr W93).1
        have N93 := Fr.snoc X93 N68 g_b69
        refine Go.st (S' := T93.setTop (mkF m 117 #[.val (.int p0), .val (.int p1), .val (.int K.toInt32), .val (.int (1 : Int32)), .val (.ref b61), .val (.ref b69), .val (.int (0 : Int32)), .unset, .unset, .unset] [])) (st93) ?_
        refine Go.st (S' := T93.setTop (mkF m 120 #[.val (.int p0), .val (.int p1), .val (.int K.toInt32), .val (.int (1 : Int32)), .val (.ref b61), .val (.ref b69), .val (.int ((0 : Int32) + (1 : Int32))), .unset, .unset, .unset] [])) (fun _ k_ => XS.iinc X93.here hx rfl (hb hby at_117) rfl (l' := #[.val (.int p0), .val (.int p1), .val (.int K.toInt32), .val (.int (1 : Int32)), .val (.ref b61), .val (.ref b69), .val (.int ((0 : Int32) + (1 : Int32))), .unset, .unset, .unset]) rfl k_) ?_
        rw [show ((0 : Int32) + (1 : Int32)) = (1 : Int32) from rfl]
        refine Go.st (S' := T93.setTop (mkF m 122 #[.val (.int p0), .val (.int p1), .val (.int K.toInt32), .val (.int (1 : Int32)), .val (.ref b61), .val (.ref b69), .val (.int (1 : Int32)), .unset, .unset, .unset] [(.ref b61)])) (fun _ k_ => XS.aload X93.here hx rfl (hb hby at_120) rfl rfl k_) ?_
        refine Go.st (S' := T93.setTop (mkF m 123 #[.val (.int p0), .val (.int p1), .val (.int K.toInt32), .val (.int (1 : Int32)), .val (.ref b61), .val (.ref b69), .val (.int (1 : Int32)), .unset, .unset, .unset] [(.int (2 : Int32)), (.ref b61)])) (fun _ k_ => XS.iconst X93.here hx rfl (hb hby at_122) k_) ?_
        refine Go.st (S' := T93.setTop (mkF m 124 #[.val (.int p0), .val (.int p1), .val (.int K.toInt32), .val (.int (1 : Int32)), .val (.ref b61), .val (.ref b69), .val (.int (1 : Int32)), .unset, .unset, .unset] [(.int x2)])) (A_b61.load X93 hx hZ e93 (j := (2 : Int32)) (v := x2) (by decide) rfl (g := (mkF m 123 #[.val (.int p0), .val (.int p1), .val (.int K.toInt32), .val (.int (1 : Int32)), .val (.ref b61), .val (.ref b69), .val (.int (1 : Int32)), .unset, .unset, .unset] [(.int (2 : Int32)), (.ref b61)])) rfl rfl (hb hby at_123)) ?_
        refine Go.st (S' := T93.setTop (mkF m 125 #[.val (.int p0), .val (.int p1), .val (.int K.toInt32), .val (.int (1 : Int32)), .val (.ref b61), .val (.ref b69), .val (.int (1 : Int32)), .unset, .unset, .unset] [(.int (1 : Int32)), (.int x2)])) (fun _ k_ => XS.iloadN X93.here hx rfl (hb hby at_124) rfl k_) ?_
        by_cases hc125 : x2 < (1 : Int32)
        · skip
          refine Go.st (S' := T93.setTop (mkF m 128 #[.val (.int p0), .val (.int p1), .val (.int K.toInt32), .val (.int (1 : Int32)), .val (.ref b61), .val (.ref b69), .val (.int (1 : Int32)), .unset, .unset, .unset] [])) (fun _ k_ => XS.icmpNo X93.here hx rfl (hb hby at_125) rfl (tlt hc125).2.1 k_) ?_
          refine Go.st (S' := T93.setTop (mkF m 130 #[.val (.int p0), .val (.int p1), .val (.int K.toInt32), .val (.int (1 : Int32)), .val (.ref b61), .val (.ref b69), .val (.int (1 : Int32)), .unset, .unset, .unset] [(.ref b69)])) (fun _ k_ => XS.aload X93.here hx rfl (hb hby at_128) rfl rfl k_) ?_
          refine Go.st (S' := T93.setTop (mkF m 132 #[.val (.int p0), .val (.int p1), .val (.int K.toInt32), .val (.int (1 : Int32)), .val (.ref b61), .val (.ref b69), .val (.int (1 : Int32)), .unset, .unset, .unset] [(.int (1 : Int32)), (.ref b69)])) (fun _ k_ => XS.iload X93.here hx rfl (hb hby at_130) rfl k_) ?_
          refine Go.st (S' := T93.setTop (mkF m 134 #[.val (.int p0), .val (.int p1), .val (.int K.toInt32), .val (.int (1 : Int32)), .val (.ref b61), .val (.ref b69), .val (.int (1 : Int32)), .unset, .unset, .unset] [(.ref b61), (.int (1 : Int32)), (.ref b69)])) (fun _ k_ => XS.aload X93.here hx rfl (hb hby at_132) rfl rfl k_) ?_
          refine Go.st (S' := T93.setTop (mkF m 135 #[.val (.int p0), .val (.int p1), .val (.int K.toInt32), .val (.int (1 : Int32)), .val (.ref b61), .val (.ref b69), .val (.int (1 : Int32)), .unset, .unset, .unset] [(.int (2 : Int32)), (.ref b61), (.int (1 : Int32)), (.ref b69)])) (fun _ k_ => XS.iconst X93.here hx rfl (hb hby at_134) k_) ?_
          refine Go.st (S' := T93.setTop (mkF m 136 #[.val (.int p0), .val (.int p1), .val (.int K.toInt32), .val (.int (1 : Int32)), .val (.ref b61), .val (.ref b69), .val (.int (1 : Int32)), .unset, .unset, .unset] [(.int x2), (.int (1 : Int32)), (.ref b69)])) (A_b61.load X93 hx hZ e93 (j := (2 : Int32)) (v := x2) (by decide) rfl (g := (mkF m 135 #[.val (.int p0), .val (.int p1), .val (.int K.toInt32), .val (.int (1 : Int32)), .val (.ref b61), .val (.ref b69), .val (.int (1 : Int32)), .unset, .unset, .unset] [(.int (2 : Int32)), (.ref b61), (.int (1 : Int32)), (.ref b69)])) rfl rfl (hb hby at_135)) ?_
          obtain ⟨T94, h94, X94, e94, W94, A94, st94⟩ := A_b69.store X93 hx hZ e93 (j := (1 : Int32)) (by decide) (Nat.le_of_ble_eq_true rfl) (g := (mkF m 136 #[.val (.int p0), .val (.int p1), .val (.int K.toInt32), .val (.int (1 : Int32)), .val (.ref b61), .val (.ref b69), .val (.int (1 : Int32)), .unset, .unset, .unset] [(.int x2), (.int (1 : Int32)), (.ref b69)])) rfl rfl (hb hby at_136)
          replace A_b69 : Ai Z h94 b69 .int [x1, x2, (0 : Int32), (0 : Int32)] := A94
          replace A_b61 := A_b61.other W94 ne_b61_b69
          replace Z0 := Nat.le_trans Z0 (Keep.of_wr W94).1
          have N94 := Fr.snoc X94 N93 g_b69
          refine Go.st (S' := T94.setTop (mkF m 137 #[.val (.int p0), .val (.int p1), .val (.int K.toInt32), .val (.int (1 : Int32)), .val (.ref b61), .val (.ref b69), .val (.int (1 : Int32)), .unset, .unset, .unset] [])) (st94) ?_
          refine Go.st (S' := T94.setTop (mkF m 140 #[.val (.int p0), .val (.int p1), .val (.int K.toInt32), .val (.int (1 : Int32)), .val (.ref b61), .val (.ref b69), .val (.int ((1 : Int32) + (1 : Int32))), .unset, .unset, .unset] [])) (fun _ k_ => XS.iinc X94.here hx rfl (hb hby at_137) rfl (l' := #[.val (.int p0), .val (.int p1), .val (.int K.toInt32), .val (.int (1 : Int32)), .val (.ref b61), .val (.ref b69), .val (.int ((1 : Int32) + (1 : Int32))), .unset, .unset, .unset]) rfl k_) ?_
          rw [show ((1 : Int32) + (1 : Int32)) = (2 : Int32) from rfl]
          refine Go.st (S' := T94.setTop (mkF m 142 #[.val (.int p0), .val (.int p1), .val (.int K.toInt32), .val (.int (1 : Int32)), .val (.ref b61), .val (.ref b69), .val (.int (2 : Int32)), .unset, .unset, .unset] [(.ref b61)])) (fun _ k_ => XS.aload X94.here hx rfl (hb hby at_140) rfl rfl k_) ?_
          refine Go.st (S' := T94.setTop (mkF m 143 #[.val (.int p0), .val (.int p1), .val (.int K.toInt32), .val (.int (1 : Int32)), .val (.ref b61), .val (.ref b69), .val (.int (2 : Int32)), .unset, .unset, .unset] [(.int (3 : Int32)), (.ref b61)])) (fun _ k_ => XS.iconst X94.here hx rfl (hb hby at_142) k_) ?_
          refine Go.st (S' := T94.setTop (mkF m 144 #[.val (.int p0), .val (.int p1), .val (.int K.toInt32), .val (.int (1 : Int32)), .val (.ref b61), .val (.ref b69), .val (.int (2 : Int32)), .unset, .unset, .unset] [(.int x3)])) (A_b61.load X94 hx hZ e94 (j := (3 : Int32)) (v := x3) (by decide) rfl (g := (mkF m 143 #[.val (.int p0), .val (.int p1), .val (.int K.toInt32), .val (.int (1 : Int32)), .val (.ref b61), .val (.ref b69), .val (.int (2 : Int32)), .unset, .unset, .unset] [(.int (3 : Int32)), (.ref b61)])) rfl rfl (hb hby at_143)) ?_
          refine Go.st (S' := T94.setTop (mkF m 145 #[.val (.int p0), .val (.int p1), .val (.int K.toInt32), .val (.int (1 : Int32)), .val (.ref b61), .val (.ref b69), .val (.int (2 : Int32)), .unset, .unset, .unset] [(.int (1 : Int32)), (.int x3)])) (fun _ k_ => XS.iloadN X94.here hx rfl (hb hby at_144) rfl k_) ?_
          by_cases hc145 : x3 < (1 : Int32)
          · skip
            refine Go.st (S' := T94.setTop (mkF m 148 #[.val (.int p0), .val (.int p1), .val (.int K.toInt32), .val (.int (1 : Int32)), .val (.ref b61), .val (.ref b69), .val (.int (2 : Int32)), .unset, .unset, .unset] [])) (fun _ k_ => XS.icmpNo X94.here hx rfl (hb hby at_145) rfl (tlt hc145).2.1 k_) ?_
            refine Go.st (S' := T94.setTop (mkF m 150 #[.val (.int p0), .val (.int p1), .val (.int K.toInt32), .val (.int (1 : Int32)), .val (.ref b61), .val (.ref b69), .val (.int (2 : Int32)), .unset, .unset, .unset] [(.ref b69)])) (fun _ k_ => XS.aload X94.here hx rfl (hb hby at_148) rfl rfl k_) ?_
            refine Go.st (S' := T94.setTop (mkF m 152 #[.val (.int p0), .val (.int p1), .val (.int K.toInt32), .val (.int (1 : Int32)), .val (.ref b61), .val (.ref b69), .val (.int (2 : Int32)), .unset, .unset, .unset] [(.int (2 : Int32)), (.ref b69)])) (fun _ k_ => XS.iload X94.here hx rfl (hb hby at_150) rfl k_) ?_
            refine Go.st (S' := T94.setTop (mkF m 154 #[.val (.int p0), .val (.int p1), .val (.int K.toInt32), .val (.int (1 : Int32)), .val (.ref b61), .val (.ref b69), .val (.int (2 : Int32)), .unset, .unset, .unset] [(.ref b61), (.int (2 : Int32)), (.ref b69)])) (fun _ k_ => XS.aload X94.here hx rfl (hb hby at_152) rfl rfl k_) ?_
            refine Go.st (S' := T94.setTop (mkF m 155 #[.val (.int p0), .val (.int p1), .val (.int K.toInt32), .val (.int (1 : Int32)), .val (.ref b61), .val (.ref b69), .val (.int (2 : Int32)), .unset, .unset, .unset] [(.int (3 : Int32)), (.ref b61), (.int (2 : Int32)), (.ref b69)])) (fun _ k_ => XS.iconst X94.here hx rfl (hb hby at_154) k_) ?_
            refine Go.st (S' := T94.setTop (mkF m 156 #[.val (.int p0), .val (.int p1), .val (.int K.toInt32), .val (.int (1 : Int32)), .val (.ref b61), .val (.ref b69), .val (.int (2 : Int32)), .unset, .unset, .unset] [(.int x3), (.int (2 : Int32)), (.ref b69)])) (A_b61.load X94 hx hZ e94 (j := (3 : Int32)) (v := x3) (by decide) rfl (g := (mkF m 155 #[.val (.int p0), .val (.int p1), .val (.int K.toInt32), .val (.int (1 : Int32)), .val (.ref b61), .val (.ref b69), .val (.int (2 : Int32)), .unset, .unset, .unset] [(.int (3 : Int32)), (.ref b61), (.int (2 : Int32)), (.ref b69)])) rfl rfl (hb hby at_155)) ?_
            obtain ⟨T95, h95, X95, e95, W95, A95, st95⟩ := A_b69.store X94 hx hZ e94 (j := (2 : Int32)) (by decide) (Nat.le_of_ble_eq_true rfl) (g := (mkF m 156 #[.val (.int p0), .val (.int p1), .val (.int K.toInt32), .val (.int (1 : Int32)), .val (.ref b61), .val (.ref b69), .val (.int (2 : Int32)), .unset, .unset, .unset] [(.int x3), (.int (2 : Int32)), (.ref b69)])) rfl rfl (hb hby at_156)
            replace A_b69 : Ai Z h95 b69 .int [x1, x2, x3, (0 : Int32)] := A95
            replace A_b61 := A_b61.other W95 ne_b61_b69
            replace Z0 := Nat.le_trans Z0 (Keep.of_wr W95).1
            have N95 := Fr.snoc X95 N94 g_b69
            refine Go.st (S' := T95.setTop (mkF m 157 #[.val (.int p0), .val (.int p1), .val (.int K.toInt32), .val (.int (1 : Int32)), .val (.ref b61), .val (.ref b69), .val (.int (2 : Int32)), .unset, .unset, .unset] [])) (st95) ?_
            refine Go.st (S' := T95.setTop (mkF m 160 #[.val (.int p0), .val (.int p1), .val (.int K.toInt32), .val (.int (1 : Int32)), .val (.ref b61), .val (.ref b69), .val (.int ((2 : Int32) + (1 : Int32))), .unset, .unset, .unset] [])) (fun _ k_ => XS.iinc X95.here hx rfl (hb hby at_157) rfl (l' := #[.val (.int p0), .val (.int p1), .val (.int K.toInt32), .val (.int (1 : Int32)), .val (.ref b61), .val (.ref b69), .val (.int ((2 : Int32) + (1 : Int32))), .unset, .unset, .unset]) rfl k_) ?_
            rw [show ((2 : Int32) + (1 : Int32)) = (3 : Int32) from rfl]
            have hf2 : own_okb [x1, x2, x3] = true ∧ ([x1, x2, x3] : List Int32).length = 1 := by
              have q := hf
              rw [List.filter_cons, List.filter_cons, List.filter_cons, List.filter_cons, List.filter_nil] at q
              simp only [show (1 : Nat).toInt32 = (1 : Int32) from rfl, hc85, hc105, hc125, hc145, decide_true, decide_false, if_true, if_false, Bool.false_eq_true] at q
              exact q
            exact absurd hf2.2 (by show ¬ (3 = 1); decide)
          · skip
            refine Go.st (S' := T94.setTop (mkF m 160 #[.val (.int p0), .val (.int p1), .val (.int K.toInt32), .val (.int (1 : Int32)), .val (.ref b61), .val (.ref b69), .val (.int (2 : Int32)), .unset, .unset, .unset] [])) (fun _ k_ => XS.icmpYes X94.here hx rfl (pc0 := 145) (pc' := 160) rfl (hb hby at_145) rfl (flt hc145).2.1 (by decide) (by decide) k_) ?_
            have hf2 : own_okb [x1, x2] = true ∧ ([x1, x2] : List Int32).length = 1 := by
              have q := hf
              rw [List.filter_cons, List.filter_cons, List.filter_cons, List.filter_cons, List.filter_nil] at q
              simp only [show (1 : Nat).toInt32 = (1 : Int32) from rfl, hc85, hc105, hc125, hc145, decide_true, decide_false, if_true, if_false, Bool.false_eq_true] at q
              exact q
            exact absurd hf2.2 (by show ¬ (2 = 1); decide)
        · skip
          refine Go.st (S' := T93.setTop (mkF m 140 #[.val (.int p0), .val (.int p1), .val (.int K.toInt32), .val (.int (1 : Int32)), .val (.ref b61), .val (.ref b69), .val (.int (1 : Int32)), .unset, .unset, .unset] [])) (fun _ k_ => XS.icmpYes X93.here hx rfl (pc0 := 125) (pc' := 140) rfl (hb hby at_125) rfl (flt hc125).2.1 (by decide) (by decide) k_) ?_
          refine Go.st (S' := T93.setTop (mkF m 142 #[.val (.int p0), .val (.int p1), .val (.int K.toInt32), .val (.int (1 : Int32)), .val (.ref b61), .val (.ref b69), .val (.int (1 : Int32)), .unset, .unset, .unset] [(.ref b61)])) (fun _ k_ => XS.aload X93.here hx rfl (hb hby at_140) rfl rfl k_) ?_
          refine Go.st (S' := T93.setTop (mkF m 143 #[.val (.int p0), .val (.int p1), .val (.int K.toInt32), .val (.int (1 : Int32)), .val (.ref b61), .val (.ref b69), .val (.int (1 : Int32)), .unset, .unset, .unset] [(.int (3 : Int32)), (.ref b61)])) (fun _ k_ => XS.iconst X93.here hx rfl (hb hby at_142) k_) ?_
          refine Go.st (S' := T93.setTop (mkF m 144 #[.val (.int p0), .val (.int p1), .val (.int K.toInt32), .val (.int (1 : Int32)), .val (.ref b61), .val (.ref b69), .val (.int (1 : Int32)), .unset, .unset, .unset] [(.int x3)])) (A_b61.load X93 hx hZ e93 (j := (3 : Int32)) (v := x3) (by decide) rfl (g := (mkF m 143 #[.val (.int p0), .val (.int p1), .val (.int K.toInt32), .val (.int (1 : Int32)), .val (.ref b61), .val (.ref b69), .val (.int (1 : Int32)), .unset, .unset, .unset] [(.int (3 : Int32)), (.ref b61)])) rfl rfl (hb hby at_143)) ?_
          refine Go.st (S' := T93.setTop (mkF m 145 #[.val (.int p0), .val (.int p1), .val (.int K.toInt32), .val (.int (1 : Int32)), .val (.ref b61), .val (.ref b69), .val (.int (1 : Int32)), .unset, .unset, .unset] [(.int (1 : Int32)), (.int x3)])) (fun _ k_ => XS.iloadN X93.here hx rfl (hb hby at_144) rfl k_) ?_
          by_cases hc145 : x3 < (1 : Int32)
          · skip
            refine Go.st (S' := T93.setTop (mkF m 148 #[.val (.int p0), .val (.int p1), .val (.int K.toInt32), .val (.int (1 : Int32)), .val (.ref b61), .val (.ref b69), .val (.int (1 : Int32)), .unset, .unset, .unset] [])) (fun _ k_ => XS.icmpNo X93.here hx rfl (hb hby at_145) rfl (tlt hc145).2.1 k_) ?_
            refine Go.st (S' := T93.setTop (mkF m 150 #[.val (.int p0), .val (.int p1), .val (.int K.toInt32), .val (.int (1 : Int32)), .val (.ref b61), .val (.ref b69), .val (.int (1 : Int32)), .unset, .unset, .unset] [(.ref b69)])) (fun _ k_ => XS.aload X93.here hx rfl (hb hby at_148) rfl rfl k_) ?_
            refine Go.st (S' := T93.setTop (mkF m 152 #[.val (.int p0), .val (.int p1), .val (.int K.toInt32), .val (.int (1 : Int32)), .val (.ref b61), .val (.ref b69), .val (.int (1 : Int32)), .unset, .unset, .unset] [(.int (1 : Int32)), (.ref b69)])) (fun _ k_ => XS.iload X93.here hx rfl (hb hby at_150) rfl k_) ?_
            refine Go.st (S' := T93.setTop (mkF m 154 #[.val (.int p0), .val (.int p1), .val (.int K.toInt32), .val (.int (1 : Int32)), .val (.ref b61), .val (.ref b69), .val (.int (1 : Int32)), .unset, .unset, .unset] [(.ref b61), (.int (1 : Int32)), (.ref b69)])) (fun _ k_ => XS.aload X93.here hx rfl (hb hby at_152) rfl rfl k_) ?_
            refine Go.st (S' := T93.setTop (mkF m 155 #[.val (.int p0), .val (.int p1), .val (.int K.toInt32), .val (.int (1 : Int32)), .val (.ref b61), .val (.ref b69), .val (.int (1 : Int32)), .unset, .unset, .unset] [(.int (3 : Int32)), (.ref b61), (.int (1 : Int32)), (.ref b69)])) (fun _ k_ => XS.iconst X93.here hx rfl (hb hby at_154) k_) ?_
            refine Go.st (S' := T93.setTop (mkF m 156 #[.val (.int p0), .val (.int p1), .val (.int K.toInt32), .val (.int (1 : Int32)), .val (.ref b61), .val (.ref b69), .val (.int (1 : Int32)), .unset, .unset, .unset] [(.int x3), (.int (1 : Int32)), (.ref b69)])) (A_b61.load X93 hx hZ e93 (j := (3 : Int32)) (v := x3) (by decide) rfl (g := (mkF m 155 #[.val (.int p0), .val (.int p1), .val (.int K.toInt32), .val (.int (1 : Int32)), .val (.ref b61), .val (.ref b69), .val (.int (1 : Int32)), .unset, .unset, .unset] [(.int (3 : Int32)), (.ref b61), (.int (1 : Int32)), (.ref b69)])) rfl rfl (hb hby at_155)) ?_
            obtain ⟨T96, h96, X96, e96, W96, A96, st96⟩ := A_b69.store X93 hx hZ e93 (j := (1 : Int32)) (by decide) (Nat.le_of_ble_eq_true rfl) (g := (mkF m 156 #[.val (.int p0), .val (.int p1), .val (.int K.toInt32), .val (.int (1 : Int32)), .val (.ref b61), .val (.ref b69), .val (.int (1 : Int32)), .unset, .unset, .unset] [(.int x3), (.int (1 : Int32)), (.ref b69)])) rfl rfl (hb hby at_156)
            replace A_b69 : Ai Z h96 b69 .int [x1, x3, (0 : Int32), (0 : Int32)] := A96
            replace A_b61 := A_b61.other W96 ne_b61_b69
            replace Z0 := Nat.le_trans Z0 (Keep.of_wr W96).1
            have N96 := Fr.snoc X96 N93 g_b69
            refine Go.st (S' := T96.setTop (mkF m 157 #[.val (.int p0), .val (.int p1), .val (.int K.toInt32), .val (.int (1 : Int32)), .val (.ref b61), .val (.ref b69), .val (.int (1 : Int32)), .unset, .unset, .unset] [])) (st96) ?_
            refine Go.st (S' := T96.setTop (mkF m 160 #[.val (.int p0), .val (.int p1), .val (.int K.toInt32), .val (.int (1 : Int32)), .val (.ref b61), .val (.ref b69), .val (.int ((1 : Int32) + (1 : Int32))), .unset, .unset, .unset] [])) (fun _ k_ => XS.iinc X96.here hx rfl (hb hby at_157) rfl (l' := #[.val (.int p0), .val (.int p1), .val (.int K.toInt32), .val (.int (1 : Int32)), .val (.ref b61), .val (.ref b69), .val (.int ((1 : Int32) + (1 : Int32))), .unset, .unset, .unset]) rfl k_) ?_
            rw [show ((1 : Int32) + (1 : Int32)) = (2 : Int32) from rfl]
            have hf2 : own_okb [x1, x3] = true ∧ ([x1, x3] : List Int32).length = 1 := by
              have q := hf
              rw [List.filter_cons, List.filter_cons, List.filter_cons, List.filter_cons, List.filter_nil] at q
              simp only [show (1 : Nat).toInt32 = (1 : Int32) from rfl, hc85, hc105, hc125, hc145, decide_true, decide_false, if_true, if_false, Bool.false_eq_true] at q
              exact q
            exact absurd hf2.2 (by show ¬ (2 = 1); decide)
          · skip
            refine Go.st (S' := T93.setTop (mkF m 160 #[.val (.int p0), .val (.int p1), .val (.int K.toInt32), .val (.int (1 : Int32)), .val (.ref b61), .val (.ref b69), .val (.int (1 : Int32)), .unset, .unset, .unset] [])) (fun _ k_ => XS.icmpYes X93.here hx rfl (pc0 := 145) (pc' := 160) rfl (hb hby at_145) rfl (flt hc145).2.1 (by decide) (by decide) k_) ?_
            have hf2 : own_okb [x1] = true ∧ ([x1] : List Int32).length = 1 := by
              have q := hf
              rw [List.filter_cons, List.filter_cons, List.filter_cons, List.filter_cons, List.filter_nil] at q
              simp only [show (1 : Nat).toInt32 = (1 : Int32) from rfl, hc85, hc105, hc125, hc145, decide_true, decide_false, if_true, if_false, Bool.false_eq_true] at q
              exact q
            exact J1 _ _ _ _ _ (X93.more (by decide) (by decide)) e93 N93 Z0 b61 b69 x1 (0 : Int32) (0 : Int32) (0 : Int32) A_b69 g_b69 (own_ok_of hf2.1)
      · skip
        refine Go.st (S' := T69.setTop (mkF m 120 #[.val (.int p0), .val (.int p1), .val (.int K.toInt32), .val (.int (1 : Int32)), .val (.ref b61), .val (.ref b69), .val (.int (0 : Int32)), .unset, .unset, .unset] [])) (fun _ k_ => XS.icmpYes X69.here hx rfl (pc0 := 105) (pc' := 120) rfl (hb hby at_105) rfl (flt hc105).2.1 (by decide) (by decide) k_) ?_
        refine Go.st (S' := T69.setTop (mkF m 122 #[.val (.int p0), .val (.int p1), .val (.int K.toInt32), .val (.int (1 : Int32)), .val (.ref b61), .val (.ref b69), .val (.int (0 : Int32)), .unset, .unset, .unset] [(.ref b61)])) (fun _ k_ => XS.aload X69.here hx rfl (hb hby at_120) rfl rfl k_) ?_
        refine Go.st (S' := T69.setTop (mkF m 123 #[.val (.int p0), .val (.int p1), .val (.int K.toInt32), .val (.int (1 : Int32)), .val (.ref b61), .val (.ref b69), .val (.int (0 : Int32)), .unset, .unset, .unset] [(.int (2 : Int32)), (.ref b61)])) (fun _ k_ => XS.iconst X69.here hx rfl (hb hby at_122) k_) ?_
        refine Go.st (S' := T69.setTop (mkF m 124 #[.val (.int p0), .val (.int p1), .val (.int K.toInt32), .val (.int (1 : Int32)), .val (.ref b61), .val (.ref b69), .val (.int (0 : Int32)), .unset, .unset, .unset] [(.int x2)])) (A_b61.load X69 hx hZ e69 (j := (2 : Int32)) (v := x2) (by decide) rfl (g := (mkF m 123 #[.val (.int p0), .val (.int p1), .val (.int K.toInt32), .val (.int (1 : Int32)), .val (.ref b61), .val (.ref b69), .val (.int (0 : Int32)), .unset, .unset, .unset] [(.int (2 : Int32)), (.ref b61)])) rfl rfl (hb hby at_123)) ?_
        refine Go.st (S' := T69.setTop (mkF m 125 #[.val (.int p0), .val (.int p1), .val (.int K.toInt32), .val (.int (1 : Int32)), .val (.ref b61), .val (.ref b69), .val (.int (0 : Int32)), .unset, .unset, .unset] [(.int (1 : Int32)), (.int x2)])) (fun _ k_ => XS.iloadN X69.here hx rfl (hb hby at_124) rfl k_) ?_
        by_cases hc125 : x2 < (1 : Int32)
        · skip
          refine Go.st (S' := T69.setTop (mkF m 128 #[.val (.int p0), .val (.int p1), .val (.int K.toInt32), .val (.int (1 : Int32)), .val (.ref b61), .val (.ref b69), .val (.int (0 : Int32)), .unset, .unset, .unset] [])) (fun _ k_ => XS.icmpNo X69.here hx rfl (hb hby at_125) rfl (tlt hc125).2.1 k_) ?_
          refine Go.st (S' := T69.setTop (mkF m 130 #[.val (.int p0), .val (.int p1), .val (.int K.toInt32), .val (.int (1 : Int32)), .val (.ref b61), .val (.ref b69), .val (.int (0 : Int32)), .unset, .unset, .unset] [(.ref b69)])) (fun _ k_ => XS.aload X69.here hx rfl (hb hby at_128) rfl rfl k_) ?_
          refine Go.st (S' := T69.setTop (mkF m 132 #[.val (.int p0), .val (.int p1), .val (.int K.toInt32), .val (.int (1 : Int32)), .val (.ref b61), .val (.ref b69), .val (.int (0 : Int32)), .unset, .unset, .unset] [(.int (0 : Int32)), (.ref b69)])) (fun _ k_ => XS.iload X69.here hx rfl (hb hby at_130) rfl k_) ?_
          refine Go.st (S' := T69.setTop (mkF m 134 #[.val (.int p0), .val (.int p1), .val (.int K.toInt32), .val (.int (1 : Int32)), .val (.ref b61), .val (.ref b69), .val (.int (0 : Int32)), .unset, .unset, .unset] [(.ref b61), (.int (0 : Int32)), (.ref b69)])) (fun _ k_ => XS.aload X69.here hx rfl (hb hby at_132) rfl rfl k_) ?_
          refine Go.st (S' := T69.setTop (mkF m 135 #[.val (.int p0), .val (.int p1), .val (.int K.toInt32), .val (.int (1 : Int32)), .val (.ref b61), .val (.ref b69), .val (.int (0 : Int32)), .unset, .unset, .unset] [(.int (2 : Int32)), (.ref b61), (.int (0 : Int32)), (.ref b69)])) (fun _ k_ => XS.iconst X69.here hx rfl (hb hby at_134) k_) ?_
          refine Go.st (S' := T69.setTop (mkF m 136 #[.val (.int p0), .val (.int p1), .val (.int K.toInt32), .val (.int (1 : Int32)), .val (.ref b61), .val (.ref b69), .val (.int (0 : Int32)), .unset, .unset, .unset] [(.int x2), (.int (0 : Int32)), (.ref b69)])) (A_b61.load X69 hx hZ e69 (j := (2 : Int32)) (v := x2) (by decide) rfl (g := (mkF m 135 #[.val (.int p0), .val (.int p1), .val (.int K.toInt32), .val (.int (1 : Int32)), .val (.ref b61), .val (.ref b69), .val (.int (0 : Int32)), .unset, .unset, .unset] [(.int (2 : Int32)), (.ref b61), (.int (0 : Int32)), (.ref b69)])) rfl rfl (hb hby at_135)) ?_
          obtain ⟨T97, h97, X97, e97, W97, A97, st97⟩ := A_b69.store X69 hx hZ e69 (j := (0 : Int32)) (by decide) (Nat.le_of_ble_eq_true rfl) (g := (mkF m 136 #[.val (.int p0), .val (.int p1), .val (.int K.toInt32), .val (.int (1 : Int32)), .val (.ref b61), .val (.ref b69), .val (.int (0 : Int32)), .unset, .unset, .unset] [(.int x2), (.int (0 : Int32)), (.ref b69)])) rfl rfl (hb hby at_136)
          replace A_b69 : Ai Z h97 b69 .int [x2, (0 : Int32), (0 : Int32), (0 : Int32)] := A97
          replace A_b61 := A_b61.other W97 ne_b61_b69
          replace Z0 := Nat.le_trans Z0 (Keep.of_wr W97).1
          have N97 := Fr.snoc X97 N68 g_b69
          refine Go.st (S' := T97.setTop (mkF m 137 #[.val (.int p0), .val (.int p1), .val (.int K.toInt32), .val (.int (1 : Int32)), .val (.ref b61), .val (.ref b69), .val (.int (0 : Int32)), .unset, .unset, .unset] [])) (st97) ?_
          refine Go.st (S' := T97.setTop (mkF m 140 #[.val (.int p0), .val (.int p1), .val (.int K.toInt32), .val (.int (1 : Int32)), .val (.ref b61), .val (.ref b69), .val (.int ((0 : Int32) + (1 : Int32))), .unset, .unset, .unset] [])) (fun _ k_ => XS.iinc X97.here hx rfl (hb hby at_137) rfl (l' := #[.val (.int p0), .val (.int p1), .val (.int K.toInt32), .val (.int (1 : Int32)), .val (.ref b61), .val (.ref b69), .val (.int ((0 : Int32) + (1 : Int32))), .unset, .unset, .unset]) rfl k_) ?_
          rw [show ((0 : Int32) + (1 : Int32)) = (1 : Int32) from rfl]
          refine Go.st (S' := T97.setTop (mkF m 142 #[.val (.int p0), .val (.int p1), .val (.int K.toInt32), .val (.int (1 : Int32)), .val (.ref b61), .val (.ref b69), .val (.int (1 : Int32)), .unset, .unset, .unset] [(.ref b61)])) (fun _ k_ => XS.aload X97.here hx rfl (hb hby at_140) rfl rfl k_) ?_
          refine Go.st (S' := T97.setTop (mkF m 143 #[.val (.int p0), .val (.int p1), .val (.int K.toInt32), .val (.int (1 : Int32)), .val (.ref b61), .val (.ref b69), .val (.int (1 : Int32)), .unset, .unset, .unset] [(.int (3 : Int32)), (.ref b61)])) (fun _ k_ => XS.iconst X97.here hx rfl (hb hby at_142) k_) ?_
          refine Go.st (S' := T97.setTop (mkF m 144 #[.val (.int p0), .val (.int p1), .val (.int K.toInt32), .val (.int (1 : Int32)), .val (.ref b61), .val (.ref b69), .val (.int (1 : Int32)), .unset, .unset, .unset] [(.int x3)])) (A_b61.load X97 hx hZ e97 (j := (3 : Int32)) (v := x3) (by decide) rfl (g := (mkF m 143 #[.val (.int p0), .val (.int p1), .val (.int K.toInt32), .val (.int (1 : Int32)), .val (.ref b61), .val (.ref b69), .val (.int (1 : Int32)), .unset, .unset, .unset] [(.int (3 : Int32)), (.ref b61)])) rfl rfl (hb hby at_143)) ?_
          refine Go.st (S' := T97.setTop (mkF m 145 #[.val (.int p0), .val (.int p1), .val (.int K.toInt32), .val (.int (1 : Int32)), .val (.ref b61), .val (.ref b69), .val (.int (1 : Int32)), .unset, .unset, .unset] [(.int (1 : Int32)), (.int x3)])) (fun _ k_ => XS.iloadN X97.here hx rfl (hb hby at_144) rfl k_) ?_
          by_cases hc145 : x3 < (1 : Int32)
          · skip
            refine Go.st (S' := T97.setTop (mkF m 148 #[.val (.int p0), .val (.int p1), .val (.int K.toInt32), .val (.int (1 : Int32)), .val (.ref b61), .val (.ref b69), .val (.int (1 : Int32)), .unset, .unset, .unset] [])) (fun _ k_ => XS.icmpNo X97.here hx rfl (hb hby at_145) rfl (tlt hc145).2.1 k_) ?_
            refine Go.st (S' := T97.setTop (mkF m 150 #[.val (.int p0), .val (.int p1), .val (.int K.toInt32), .val (.int (1 : Int32)), .val (.ref b61), .val (.ref b69), .val (.int (1 : Int32)), .unset, .unset, .unset] [(.ref b69)])) (fun _ k_ => XS.aload X97.here hx rfl (hb hby at_148) rfl rfl k_) ?_
            refine Go.st (S' := T97.setTop (mkF m 152 #[.val (.int p0), .val (.int p1), .val (.int K.toInt32), .val (.int (1 : Int32)), .val (.ref b61), .val (.ref b69), .val (.int (1 : Int32)), .unset, .unset, .unset] [(.int (1 : Int32)), (.ref b69)])) (fun _ k_ => XS.iload X97.here hx rfl (hb hby at_150) rfl k_) ?_
            refine Go.st (S' := T97.setTop (mkF m 154 #[.val (.int p0), .val (.int p1), .val (.int K.toInt32), .val (.int (1 : Int32)), .val (.ref b61), .val (.ref b69), .val (.int (1 : Int32)), .unset, .unset, .unset] [(.ref b61), (.int (1 : Int32)), (.ref b69)])) (fun _ k_ => XS.aload X97.here hx rfl (hb hby at_152) rfl rfl k_) ?_
            refine Go.st (S' := T97.setTop (mkF m 155 #[.val (.int p0), .val (.int p1), .val (.int K.toInt32), .val (.int (1 : Int32)), .val (.ref b61), .val (.ref b69), .val (.int (1 : Int32)), .unset, .unset, .unset] [(.int (3 : Int32)), (.ref b61), (.int (1 : Int32)), (.ref b69)])) (fun _ k_ => XS.iconst X97.here hx rfl (hb hby at_154) k_) ?_
            refine Go.st (S' := T97.setTop (mkF m 156 #[.val (.int p0), .val (.int p1), .val (.int K.toInt32), .val (.int (1 : Int32)), .val (.ref b61), .val (.ref b69), .val (.int (1 : Int32)), .unset, .unset, .unset] [(.int x3), (.int (1 : Int32)), (.ref b69)])) (A_b61.load X97 hx hZ e97 (j := (3 : Int32)) (v := x3) (by decide) rfl (g := (mkF m 155 #[.val (.int p0), .val (.int p1), .val (.int K.toInt32), .val (.int (1 : Int32)), .val (.ref b61), .val (.ref b69), .val (.int (1 : Int32)), .unset, .unset, .unset] [(.int (3 : Int32)), (.ref b61), (.int (1 : Int32)), (.ref b69)])) rfl rfl (hb hby at_155)) ?_
            obtain ⟨T98, h98, X98, e98, W98, A98, st98⟩ := A_b69.store X97 hx hZ e97 (j := (1 : Int32)) (by decide) (Nat.le_of_ble_eq_true rfl) (g := (mkF m 156 #[.val (.int p0), .val (.int p1), .val (.int K.toInt32), .val (.int (1 : Int32)), .val (.ref b61), .val (.ref b69), .val (.int (1 : Int32)), .unset, .unset, .unset] [(.int x3), (.int (1 : Int32)), (.ref b69)])) rfl rfl (hb hby at_156)
            replace A_b69 : Ai Z h98 b69 .int [x2, x3, (0 : Int32), (0 : Int32)] := A98
            replace A_b61 := A_b61.other W98 ne_b61_b69
            replace Z0 := Nat.le_trans Z0 (Keep.of_wr W98).1
            have N98 := Fr.snoc X98 N97 g_b69
            refine Go.st (S' := T98.setTop (mkF m 157 #[.val (.int p0), .val (.int p1), .val (.int K.toInt32), .val (.int (1 : Int32)), .val (.ref b61), .val (.ref b69), .val (.int (1 : Int32)), .unset, .unset, .unset] [])) (st98) ?_
            refine Go.st (S' := T98.setTop (mkF m 160 #[.val (.int p0), .val (.int p1), .val (.int K.toInt32), .val (.int (1 : Int32)), .val (.ref b61), .val (.ref b69), .val (.int ((1 : Int32) + (1 : Int32))), .unset, .unset, .unset] [])) (fun _ k_ => XS.iinc X98.here hx rfl (hb hby at_157) rfl (l' := #[.val (.int p0), .val (.int p1), .val (.int K.toInt32), .val (.int (1 : Int32)), .val (.ref b61), .val (.ref b69), .val (.int ((1 : Int32) + (1 : Int32))), .unset, .unset, .unset]) rfl k_) ?_
            rw [show ((1 : Int32) + (1 : Int32)) = (2 : Int32) from rfl]
            have hf2 : own_okb [x2, x3] = true ∧ ([x2, x3] : List Int32).length = 1 := by
              have q := hf
              rw [List.filter_cons, List.filter_cons, List.filter_cons, List.filter_cons, List.filter_nil] at q
              simp only [show (1 : Nat).toInt32 = (1 : Int32) from rfl, hc85, hc105, hc125, hc145, decide_true, decide_false, if_true, if_false, Bool.false_eq_true] at q
              exact q
            exact absurd hf2.2 (by show ¬ (2 = 1); decide)
          · skip
            refine Go.st (S' := T97.setTop (mkF m 160 #[.val (.int p0), .val (.int p1), .val (.int K.toInt32), .val (.int (1 : Int32)), .val (.ref b61), .val (.ref b69), .val (.int (1 : Int32)), .unset, .unset, .unset] [])) (fun _ k_ => XS.icmpYes X97.here hx rfl (pc0 := 145) (pc' := 160) rfl (hb hby at_145) rfl (flt hc145).2.1 (by decide) (by decide) k_) ?_
            have hf2 : own_okb [x2] = true ∧ ([x2] : List Int32).length = 1 := by
              have q := hf
              rw [List.filter_cons, List.filter_cons, List.filter_cons, List.filter_cons, List.filter_nil] at q
              simp only [show (1 : Nat).toInt32 = (1 : Int32) from rfl, hc85, hc105, hc125, hc145, decide_true, decide_false, if_true, if_false, Bool.false_eq_true] at q
              exact q
            exact J1 _ _ _ _ _ (X97.more (by decide) (by decide)) e97 N97 Z0 b61 b69 x2 (0 : Int32) (0 : Int32) (0 : Int32) A_b69 g_b69 (own_ok_of hf2.1)
        · skip
          refine Go.st (S' := T69.setTop (mkF m 140 #[.val (.int p0), .val (.int p1), .val (.int K.toInt32), .val (.int (1 : Int32)), .val (.ref b61), .val (.ref b69), .val (.int (0 : Int32)), .unset, .unset, .unset] [])) (fun _ k_ => XS.icmpYes X69.here hx rfl (pc0 := 125) (pc' := 140) rfl (hb hby at_125) rfl (flt hc125).2.1 (by decide) (by decide) k_) ?_
          refine Go.st (S' := T69.setTop (mkF m 142 #[.val (.int p0), .val (.int p1), .val (.int K.toInt32), .val (.int (1 : Int32)), .val (.ref b61), .val (.ref b69), .val (.int (0 : Int32)), .unset, .unset, .unset] [(.ref b61)])) (fun _ k_ => XS.aload X69.here hx rfl (hb hby at_140) rfl rfl k_) ?_
          refine Go.st (S' := T69.setTop (mkF m 143 #[.val (.int p0), .val (.int p1), .val (.int K.toInt32), .val (.int (1 : Int32)), .val (.ref b61), .val (.ref b69), .val (.int (0 : Int32)), .unset, .unset, .unset] [(.int (3 : Int32)), (.ref b61)])) (fun _ k_ => XS.iconst X69.here hx rfl (hb hby at_142) k_) ?_
          refine Go.st (S' := T69.setTop (mkF m 144 #[.val (.int p0), .val (.int p1), .val (.int K.toInt32), .val (.int (1 : Int32)), .val (.ref b61), .val (.ref b69), .val (.int (0 : Int32)), .unset, .unset, .unset] [(.int x3)])) (A_b61.load X69 hx hZ e69 (j := (3 : Int32)) (v := x3) (by decide) rfl (g := (mkF m 143 #[.val (.int p0), .val (.int p1), .val (.int K.toInt32), .val (.int (1 : Int32)), .val (.ref b61), .val (.ref b69), .val (.int (0 : Int32)), .unset, .unset, .unset] [(.int (3 : Int32)), (.ref b61)])) rfl rfl (hb hby at_143)) ?_
          refine Go.st (S' := T69.setTop (mkF m 145 #[.val (.int p0), .val (.int p1), .val (.int K.toInt32), .val (.int (1 : Int32)), .val (.ref b61), .val (.ref b69), .val (.int (0 : Int32)), .unset, .unset, .unset] [(.int (1 : Int32)), (.int x3)])) (fun _ k_ => XS.iloadN X69.here hx rfl (hb hby at_144) rfl k_) ?_
          by_cases hc145 : x3 < (1 : Int32)
          · skip
            refine Go.st (S' := T69.setTop (mkF m 148 #[.val (.int p0), .val (.int p1), .val (.int K.toInt32), .val (.int (1 : Int32)), .val (.ref b61), .val (.ref b69), .val (.int (0 : Int32)), .unset, .unset, .unset] [])) (fun _ k_ => XS.icmpNo X69.here hx rfl (hb hby at_145) rfl (tlt hc145).2.1 k_) ?_
            refine Go.st (S' := T69.setTop (mkF m 150 #[.val (.int p0), .val (.int p1), .val (.int K.toInt32), .val (.int (1 : Int32)), .val (.ref b61), .val (.ref b69), .val (.int (0 : Int32)), .unset, .unset, .unset] [(.ref b69)])) (fun _ k_ => XS.aload X69.here hx rfl (hb hby at_148) rfl rfl k_) ?_
            refine Go.st (S' := T69.setTop (mkF m 152 #[.val (.int p0), .val (.int p1), .val (.int K.toInt32), .val (.int (1 : Int32)), .val (.ref b61), .val (.ref b69), .val (.int (0 : Int32)), .unset, .unset, .unset] [(.int (0 : Int32)), (.ref b69)])) (fun _ k_ => XS.iload X69.here hx rfl (hb hby at_150) rfl k_) ?_
            refine Go.st (S' := T69.setTop (mkF m 154 #[.val (.int p0), .val (.int p1), .val (.int K.toInt32), .val (.int (1 : Int32)), .val (.ref b61), .val (.ref b69), .val (.int (0 : Int32)), .unset, .unset, .unset] [(.ref b61), (.int (0 : Int32)), (.ref b69)])) (fun _ k_ => XS.aload X69.here hx rfl (hb hby at_152) rfl rfl k_) ?_
            refine Go.st (S' := T69.setTop (mkF m 155 #[.val (.int p0), .val (.int p1), .val (.int K.toInt32), .val (.int (1 : Int32)), .val (.ref b61), .val (.ref b69), .val (.int (0 : Int32)), .unset, .unset, .unset] [(.int (3 : Int32)), (.ref b61), (.int (0 : Int32)), (.ref b69)])) (fun _ k_ => XS.iconst X69.here hx rfl (hb hby at_154) k_) ?_
            refine Go.st (S' := T69.setTop (mkF m 156 #[.val (.int p0), .val (.int p1), .val (.int K.toInt32), .val (.int (1 : Int32)), .val (.ref b61), .val (.ref b69), .val (.int (0 : Int32)), .unset, .unset, .unset] [(.int x3), (.int (0 : Int32)), (.ref b69)])) (A_b61.load X69 hx hZ e69 (j := (3 : Int32)) (v := x3) (by decide) rfl (g := (mkF m 155 #[.val (.int p0), .val (.int p1), .val (.int K.toInt32), .val (.int (1 : Int32)), .val (.ref b61), .val (.ref b69), .val (.int (0 : Int32)), .unset, .unset, .unset] [(.int (3 : Int32)), (.ref b61), (.int (0 : Int32)), (.ref b69)])) rfl rfl (hb hby at_155)) ?_
            obtain ⟨T99, h99, X99, e99, W99, A99, st99⟩ := A_b69.store X69 hx hZ e69 (j := (0 : Int32)) (by decide) (Nat.le_of_ble_eq_true rfl) (g := (mkF m 156 #[.val (.int p0), .val (.int p1), .val (.int K.toInt32), .val (.int (1 : Int32)), .val (.ref b61), .val (.ref b69), .val (.int (0 : Int32)), .unset, .unset, .unset] [(.int x3), (.int (0 : Int32)), (.ref b69)])) rfl rfl (hb hby at_156)
            replace A_b69 : Ai Z h99 b69 .int [x3, (0 : Int32), (0 : Int32), (0 : Int32)] := A99
            replace A_b61 := A_b61.other W99 ne_b61_b69
            replace Z0 := Nat.le_trans Z0 (Keep.of_wr W99).1
            have N99 := Fr.snoc X99 N68 g_b69
            refine Go.st (S' := T99.setTop (mkF m 157 #[.val (.int p0), .val (.int p1), .val (.int K.toInt32), .val (.int (1 : Int32)), .val (.ref b61), .val (.ref b69), .val (.int (0 : Int32)), .unset, .unset, .unset] [])) (st99) ?_
            refine Go.st (S' := T99.setTop (mkF m 160 #[.val (.int p0), .val (.int p1), .val (.int K.toInt32), .val (.int (1 : Int32)), .val (.ref b61), .val (.ref b69), .val (.int ((0 : Int32) + (1 : Int32))), .unset, .unset, .unset] [])) (fun _ k_ => XS.iinc X99.here hx rfl (hb hby at_157) rfl (l' := #[.val (.int p0), .val (.int p1), .val (.int K.toInt32), .val (.int (1 : Int32)), .val (.ref b61), .val (.ref b69), .val (.int ((0 : Int32) + (1 : Int32))), .unset, .unset, .unset]) rfl k_) ?_
            rw [show ((0 : Int32) + (1 : Int32)) = (1 : Int32) from rfl]
            have hf2 : own_okb [x3] = true ∧ ([x3] : List Int32).length = 1 := by
              have q := hf
              rw [List.filter_cons, List.filter_cons, List.filter_cons, List.filter_cons, List.filter_nil] at q
              simp only [show (1 : Nat).toInt32 = (1 : Int32) from rfl, hc85, hc105, hc125, hc145, decide_true, decide_false, if_true, if_false, Bool.false_eq_true] at q
              exact q
            exact J1 _ _ _ _ _ (X99.more (by decide) (by decide)) e99 N99 Z0 b61 b69 x3 (0 : Int32) (0 : Int32) (0 : Int32) A_b69 g_b69 (own_ok_of hf2.1)
          · skip
            refine Go.st (S' := T69.setTop (mkF m 160 #[.val (.int p0), .val (.int p1), .val (.int K.toInt32), .val (.int (1 : Int32)), .val (.ref b61), .val (.ref b69), .val (.int (0 : Int32)), .unset, .unset, .unset] [])) (fun _ k_ => XS.icmpYes X69.here hx rfl (pc0 := 145) (pc' := 160) rfl (hb hby at_145) rfl (flt hc145).2.1 (by decide) (by decide) k_) ?_
            have hf2 : own_okb [] = true ∧ ([] : List Int32).length = 1 := by
              have q := hf
              rw [List.filter_cons, List.filter_cons, List.filter_cons, List.filter_cons, List.filter_nil] at q
              simp only [show (1 : Nat).toInt32 = (1 : Int32) from rfl, hc85, hc105, hc125, hc145, decide_true, decide_false, if_true, if_false, Bool.false_eq_true] at q
              exact q
            exact absurd hf2.2 (by show ¬ (0 = 1); decide)
  · skip
    have hf := hfil 2 (by decide)
    refine Go.st (S' := T69.setTop (mkF m 82 #[.val (.int p0), .val (.int p1), .val (.int K.toInt32), .val (.int (2 : Int32)), .val (.ref b61), .val (.ref b69), .val (.int (0 : Int32)), .unset, .unset, .unset] [(.ref b61)])) (fun _ k_ => XS.aload X69.here hx rfl (hb hby at_80) rfl rfl k_) ?_
    refine Go.st (S' := T69.setTop (mkF m 83 #[.val (.int p0), .val (.int p1), .val (.int K.toInt32), .val (.int (2 : Int32)), .val (.ref b61), .val (.ref b69), .val (.int (0 : Int32)), .unset, .unset, .unset] [(.int (0 : Int32)), (.ref b61)])) (fun _ k_ => XS.iconst X69.here hx rfl (hb hby at_82) k_) ?_
    refine Go.st (S' := T69.setTop (mkF m 84 #[.val (.int p0), .val (.int p1), .val (.int K.toInt32), .val (.int (2 : Int32)), .val (.ref b61), .val (.ref b69), .val (.int (0 : Int32)), .unset, .unset, .unset] [(.int x0)])) (A_b61.load X69 hx hZ e69 (j := (0 : Int32)) (v := x0) (by decide) rfl (g := (mkF m 83 #[.val (.int p0), .val (.int p1), .val (.int K.toInt32), .val (.int (2 : Int32)), .val (.ref b61), .val (.ref b69), .val (.int (0 : Int32)), .unset, .unset, .unset] [(.int (0 : Int32)), (.ref b61)])) rfl rfl (hb hby at_83)) ?_
    refine Go.st (S' := T69.setTop (mkF m 85 #[.val (.int p0), .val (.int p1), .val (.int K.toInt32), .val (.int (2 : Int32)), .val (.ref b61), .val (.ref b69), .val (.int (0 : Int32)), .unset, .unset, .unset] [(.int (2 : Int32)), (.int x0)])) (fun _ k_ => XS.iloadN X69.here hx rfl (hb hby at_84) rfl k_) ?_
    by_cases hc85 : x0 < (2 : Int32)
    · skip
      refine Go.st (S' := T69.setTop (mkF m 88 #[.val (.int p0), .val (.int p1), .val (.int K.toInt32), .val (.int (2 : Int32)), .val (.ref b61), .val (.ref b69), .val (.int (0 : Int32)), .unset, .unset, .unset] [])) (fun _ k_ => XS.icmpNo X69.here hx rfl (hb hby at_85) rfl (tlt hc85).2.1 k_) ?_
      refine Go.st (S' := T69.setTop (mkF m 90 #[.val (.int p0), .val (.int p1), .val (.int K.toInt32), .val (.int (2 : Int32)), .val (.ref b61), .val (.ref b69), .val (.int (0 : Int32)), .unset, .unset, .unset] [(.ref b69)])) (fun _ k_ => XS.aload X69.here hx rfl (hb hby at_88) rfl rfl k_) ?_
      refine Go.st (S' := T69.setTop (mkF m 92 #[.val (.int p0), .val (.int p1), .val (.int K.toInt32), .val (.int (2 : Int32)), .val (.ref b61), .val (.ref b69), .val (.int (0 : Int32)), .unset, .unset, .unset] [(.int (0 : Int32)), (.ref b69)])) (fun _ k_ => XS.iload X69.here hx rfl (hb hby at_90) rfl k_) ?_
      refine Go.st (S' := T69.setTop (mkF m 94 #[.val (.int p0), .val (.int p1), .val (.int K.toInt32), .val (.int (2 : Int32)), .val (.ref b61), .val (.ref b69), .val (.int (0 : Int32)), .unset, .unset, .unset] [(.ref b61), (.int (0 : Int32)), (.ref b69)])) (fun _ k_ => XS.aload X69.here hx rfl (hb hby at_92) rfl rfl k_) ?_
      refine Go.st (S' := T69.setTop (mkF m 95 #[.val (.int p0), .val (.int p1), .val (.int K.toInt32), .val (.int (2 : Int32)), .val (.ref b61), .val (.ref b69), .val (.int (0 : Int32)), .unset, .unset, .unset] [(.int (0 : Int32)), (.ref b61), (.int (0 : Int32)), (.ref b69)])) (fun _ k_ => XS.iconst X69.here hx rfl (hb hby at_94) k_) ?_
      refine Go.st (S' := T69.setTop (mkF m 96 #[.val (.int p0), .val (.int p1), .val (.int K.toInt32), .val (.int (2 : Int32)), .val (.ref b61), .val (.ref b69), .val (.int (0 : Int32)), .unset, .unset, .unset] [(.int x0), (.int (0 : Int32)), (.ref b69)])) (A_b61.load X69 hx hZ e69 (j := (0 : Int32)) (v := x0) (by decide) rfl (g := (mkF m 95 #[.val (.int p0), .val (.int p1), .val (.int K.toInt32), .val (.int (2 : Int32)), .val (.ref b61), .val (.ref b69), .val (.int (0 : Int32)), .unset, .unset, .unset] [(.int (0 : Int32)), (.ref b61), (.int (0 : Int32)), (.ref b69)])) rfl rfl (hb hby at_95)) ?_
      obtain ⟨T100, h100, X100, e100, W100, A100, st100⟩ := A_b69.store X69 hx hZ e69 (j := (0 : Int32)) (by decide) (Nat.le_of_ble_eq_true rfl) (g := (mkF m 96 #[.val (.int p0), .val (.int p1), .val (.int K.toInt32), .val (.int (2 : Int32)), .val (.ref b61), .val (.ref b69), .val (.int (0 : Int32)), .unset, .unset, .unset] [(.int x0), (.int (0 : Int32)), (.ref b69)])) rfl rfl (hb hby at_96)
      replace A_b69 : Ai Z h100 b69 .int [x0, (0 : Int32), (0 : Int32), (0 : Int32)] := A100
      replace A_b61 := A_b61.other W100 ne_b61_b69
      replace Z0 := Nat.le_trans Z0 (Keep.of_wr W100).1
      have N100 := Fr.snoc X100 N68 g_b69
      refine Go.st (S' := T100.setTop (mkF m 97 #[.val (.int p0), .val (.int p1), .val (.int K.toInt32), .val (.int (2 : Int32)), .val (.ref b61), .val (.ref b69), .val (.int (0 : Int32)), .unset, .unset, .unset] [])) (st100) ?_
      refine Go.st (S' := T100.setTop (mkF m 100 #[.val (.int p0), .val (.int p1), .val (.int K.toInt32), .val (.int (2 : Int32)), .val (.ref b61), .val (.ref b69), .val (.int ((0 : Int32) + (1 : Int32))), .unset, .unset, .unset] [])) (fun _ k_ => XS.iinc X100.here hx rfl (hb hby at_97) rfl (l' := #[.val (.int p0), .val (.int p1), .val (.int K.toInt32), .val (.int (2 : Int32)), .val (.ref b61), .val (.ref b69), .val (.int ((0 : Int32) + (1 : Int32))), .unset, .unset, .unset]) rfl k_) ?_
      rw [show ((0 : Int32) + (1 : Int32)) = (1 : Int32) from rfl]
      refine Go.st (S' := T100.setTop (mkF m 102 #[.val (.int p0), .val (.int p1), .val (.int K.toInt32), .val (.int (2 : Int32)), .val (.ref b61), .val (.ref b69), .val (.int (1 : Int32)), .unset, .unset, .unset] [(.ref b61)])) (fun _ k_ => XS.aload X100.here hx rfl (hb hby at_100) rfl rfl k_) ?_
      refine Go.st (S' := T100.setTop (mkF m 103 #[.val (.int p0), .val (.int p1), .val (.int K.toInt32), .val (.int (2 : Int32)), .val (.ref b61), .val (.ref b69), .val (.int (1 : Int32)), .unset, .unset, .unset] [(.int (1 : Int32)), (.ref b61)])) (fun _ k_ => XS.iconst X100.here hx rfl (hb hby at_102) k_) ?_
      refine Go.st (S' := T100.setTop (mkF m 104 #[.val (.int p0), .val (.int p1), .val (.int K.toInt32), .val (.int (2 : Int32)), .val (.ref b61), .val (.ref b69), .val (.int (1 : Int32)), .unset, .unset, .unset] [(.int x1)])) (A_b61.load X100 hx hZ e100 (j := (1 : Int32)) (v := x1) (by decide) rfl (g := (mkF m 103 #[.val (.int p0), .val (.int p1), .val (.int K.toInt32), .val (.int (2 : Int32)), .val (.ref b61), .val (.ref b69), .val (.int (1 : Int32)), .unset, .unset, .unset] [(.int (1 : Int32)), (.ref b61)])) rfl rfl (hb hby at_103)) ?_
      refine Go.st (S' := T100.setTop (mkF m 105 #[.val (.int p0), .val (.int p1), .val (.int K.toInt32), .val (.int (2 : Int32)), .val (.ref b61), .val (.ref b69), .val (.int (1 : Int32)), .unset, .unset, .unset] [(.int (2 : Int32)), (.int x1)])) (fun _ k_ => XS.iloadN X100.here hx rfl (hb hby at_104) rfl k_) ?_
      by_cases hc105 : x1 < (2 : Int32)
      · skip
        refine Go.st (S' := T100.setTop (mkF m 108 #[.val (.int p0), .val (.int p1), .val (.int K.toInt32), .val (.int (2 : Int32)), .val (.ref b61), .val (.ref b69), .val (.int (1 : Int32)), .unset, .unset, .unset] [])) (fun _ k_ => XS.icmpNo X100.here hx rfl (hb hby at_105) rfl (tlt hc105).2.1 k_) ?_
        refine Go.st (S' := T100.setTop (mkF m 110 #[.val (.int p0), .val (.int p1), .val (.int K.toInt32), .val (.int (2 : Int32)), .val (.ref b61), .val (.ref b69), .val (.int (1 : Int32)), .unset, .unset, .unset] [(.ref b69)])) (fun _ k_ => XS.aload X100.here hx rfl (hb hby at_108) rfl rfl k_) ?_
        refine Go.st (S' := T100.setTop (mkF m 112 #[.val (.int p0), .val (.int p1), .val (.int K.toInt32), .val (.int (2 : Int32)), .val (.ref b61), .val (.ref b69), .val (.int (1 : Int32)), .unset, .unset, .unset] [(.int (1 : Int32)), (.ref b69)])) (fun _ k_ => XS.iload X100.here hx rfl (hb hby at_110) rfl k_) ?_
        refine Go.st (S' := T100.setTop (mkF m 114 #[.val (.int p0), .val (.int p1), .val (.int K.toInt32), .val (.int (2 : Int32)), .val (.ref b61), .val (.ref b69), .val (.int (1 : Int32)), .unset, .unset, .unset] [(.ref b61), (.int (1 : Int32)), (.ref b69)])) (fun _ k_ => XS.aload X100.here hx rfl (hb hby at_112) rfl rfl k_) ?_
        refine Go.st (S' := T100.setTop (mkF m 115 #[.val (.int p0), .val (.int p1), .val (.int K.toInt32), .val (.int (2 : Int32)), .val (.ref b61), .val (.ref b69), .val (.int (1 : Int32)), .unset, .unset, .unset] [(.int (1 : Int32)), (.ref b61), (.int (1 : Int32)), (.ref b69)])) (fun _ k_ => XS.iconst X100.here hx rfl (hb hby at_114) k_) ?_
        refine Go.st (S' := T100.setTop (mkF m 116 #[.val (.int p0), .val (.int p1), .val (.int K.toInt32), .val (.int (2 : Int32)), .val (.ref b61), .val (.ref b69), .val (.int (1 : Int32)), .unset, .unset, .unset] [(.int x1), (.int (1 : Int32)), (.ref b69)])) (A_b61.load X100 hx hZ e100 (j := (1 : Int32)) (v := x1) (by decide) rfl (g := (mkF m 115 #[.val (.int p0), .val (.int p1), .val (.int K.toInt32), .val (.int (2 : Int32)), .val (.ref b61), .val (.ref b69), .val (.int (1 : Int32)), .unset, .unset, .unset] [(.int (1 : Int32)), (.ref b61), (.int (1 : Int32)), (.ref b69)])) rfl rfl (hb hby at_115)) ?_
        obtain ⟨T101, h101, X101, e101, W101, A101, st101⟩ := A_b69.store X100 hx hZ e100 (j := (1 : Int32)) (by decide) (Nat.le_of_ble_eq_true rfl) (g := (mkF m 116 #[.val (.int p0), .val (.int p1), .val (.int K.toInt32), .val (.int (2 : Int32)), .val (.ref b61), .val (.ref b69), .val (.int (1 : Int32)), .unset, .unset, .unset] [(.int x1), (.int (1 : Int32)), (.ref b69)])) rfl rfl (hb hby at_116)
        replace A_b69 : Ai Z h101 b69 .int [x0, x1, (0 : Int32), (0 : Int32)] := A101
        replace A_b61 := A_b61.other W101 ne_b61_b69
        replace Z0 := Nat.le_trans Z0 (Keep.of_wr W101).1
        have N101 := Fr.snoc X101 N100 g_b69
        refine Go.st (S' := T101.setTop (mkF m 117 #[.val (.int p0), .val (.int p1), .val (.int K.toInt32), .val (.int (2 : Int32)), .val (.ref b61), .val (.ref b69), .val (.int (1 : Int32)), .unset, .unset, .unset] [])) (st101) ?_
        refine Go.st (S' := T101.setTop (mkF m 120 #[.val (.int p0), .val (.int p1), .val (.int K.toInt32), .val (.int (2 : Int32)), .val (.ref b61), .val (.ref b69), .val (.int ((1 : Int32) + (1 : Int32))), .unset, .unset, .unset] [])) (fun _ k_ => XS.iinc X101.here hx rfl (hb hby at_117) rfl (l' := #[.val (.int p0), .val (.int p1), .val (.int K.toInt32), .val (.int (2 : Int32)), .val (.ref b61), .val (.ref b69), .val (.int ((1 : Int32) + (1 : Int32))), .unset, .unset, .unset]) rfl k_) ?_
        rw [show ((1 : Int32) + (1 : Int32)) = (2 : Int32) from rfl]
        refine Go.st (S' := T101.setTop (mkF m 122 #[.val (.int p0), .val (.int p1), .val (.int K.toInt32), .val (.int (2 : Int32)), .val (.ref b61), .val (.ref b69), .val (.int (2 : Int32)), .unset, .unset, .unset] [(.ref b61)])) (fun _ k_ => XS.aload X101.here hx rfl (hb hby at_120) rfl rfl k_) ?_
        refine Go.st (S' := T101.setTop (mkF m 123 #[.val (.int p0), .val (.int p1), .val (.int K.toInt32), .val (.int (2 : Int32)), .val (.ref b61), .val (.ref b69), .val (.int (2 : Int32)), .unset, .unset, .unset] [(.int (2 : Int32)), (.ref b61)])) (fun _ k_ => XS.iconst X101.here hx rfl (hb hby at_122) k_) ?_
        refine Go.st (S' := T101.setTop (mkF m 124 #[.val (.int p0), .val (.int p1), .val (.int K.toInt32), .val (.int (2 : Int32)), .val (.ref b61), .val (.ref b69), .val (.int (2 : Int32)), .unset, .unset, .unset] [(.int x2)])) (A_b61.load X101 hx hZ e101 (j := (2 : Int32)) (v := x2) (by decide) rfl (g := (mkF m 123 #[.val (.int p0), .val (.int p1), .val (.int K.toInt32), .val (.int (2 : Int32)), .val (.ref b61), .val (.ref b69), .val (.int (2 : Int32)), .unset, .unset, .unset] [(.int (2 : Int32)), (.ref b61)])) rfl rfl (hb hby at_123)) ?_
        refine Go.st (S' := T101.setTop (mkF m 125 #[.val (.int p0), .val (.int p1), .val (.int K.toInt32), .val (.int (2 : Int32)), .val (.ref b61), .val (.ref b69), .val (.int (2 : Int32)), .unset, .unset, .unset] [(.int (2 : Int32)), (.int x2)])) (fun _ k_ => XS.iloadN X101.here hx rfl (hb hby at_124) rfl k_) ?_
        by_cases hc125 : x2 < (2 : Int32)
        · skip
          refine Go.st (S' := T101.setTop (mkF m 128 #[.val (.int p0), .val (.int p1), .val (.int K.toInt32), .val (.int (2 : Int32)), .val (.ref b61), .val (.ref b69), .val (.int (2 : Int32)), .unset, .unset, .unset] [])) (fun _ k_ => XS.icmpNo X101.here hx rfl (hb hby at_125) rfl (tlt hc125).2.1 k_) ?_
          refine Go.st (S' := T101.setTop (mkF m 130 #[.val (.int p0), .val (.int p1), .val (.int K.toInt32), .val (.int (2 : Int32)), .val (.ref b61), .val (.ref b69), .val (.int (2 : Int32)), .unset, .unset, .unset] [(.ref b69)])) (fun _ k_ => XS.aload X101.here hx rfl (hb hby at_128) rfl rfl k_) ?_
          refine Go.st (S' := T101.setTop (mkF m 132 #[.val (.int p0), .val (.int p1), .val (.int K.toInt32), .val (.int (2 : Int32)), .val (.ref b61), .val (.ref b69), .val (.int (2 : Int32)), .unset, .unset, .unset] [(.int (2 : Int32)), (.ref b69)])) (fun _ k_ => XS.iload X101.here hx rfl (hb hby at_130) rfl k_) ?_
          refine Go.st (S' := T101.setTop (mkF m 134 #[.val (.int p0), .val (.int p1), .val (.int K.toInt32), .val (.int (2 : Int32)), .val (.ref b61), .val (.ref b69), .val (.int (2 : Int32)), .unset, .unset, .unset] [(.ref b61), (.int (2 : Int32)), (.ref b69)])) (fun _ k_ => XS.aload X101.here hx rfl (hb hby at_132) rfl rfl k_) ?_
          refine Go.st (S' := T101.setTop (mkF m 135 #[.val (.int p0), .val (.int p1), .val (.int K.toInt32), .val (.int (2 : Int32)), .val (.ref b61), .val (.ref b69), .val (.int (2 : Int32)), .unset, .unset, .unset] [(.int (2 : Int32)), (.ref b61), (.int (2 : Int32)), (.ref b69)])) (fun _ k_ => XS.iconst X101.here hx rfl (hb hby at_134) k_) ?_
          refine Go.st (S' := T101.setTop (mkF m 136 #[.val (.int p0), .val (.int p1), .val (.int K.toInt32), .val (.int (2 : Int32)), .val (.ref b61), .val (.ref b69), .val (.int (2 : Int32)), .unset, .unset, .unset] [(.int x2), (.int (2 : Int32)), (.ref b69)])) (A_b61.load X101 hx hZ e101 (j := (2 : Int32)) (v := x2) (by decide) rfl (g := (mkF m 135 #[.val (.int p0), .val (.int p1), .val (.int K.toInt32), .val (.int (2 : Int32)), .val (.ref b61), .val (.ref b69), .val (.int (2 : Int32)), .unset, .unset, .unset] [(.int (2 : Int32)), (.ref b61), (.int (2 : Int32)), (.ref b69)])) rfl rfl (hb hby at_135)) ?_
          obtain ⟨T102, h102, X102, e102, W102, A102, st102⟩ := A_b69.store X101 hx hZ e101 (j := (2 : Int32)) (by decide) (Nat.le_of_ble_eq_true rfl) (g := (mkF m 136 #[.val (.int p0), .val (.int p1), .val (.int K.toInt32), .val (.int (2 : Int32)), .val (.ref b61), .val (.ref b69), .val (.int (2 : Int32)), .unset, .unset, .unset] [(.int x2), (.int (2 : Int32)), (.ref b69)])) rfl rfl (hb hby at_136)
          replace A_b69 : Ai Z h102 b69 .int [x0, x1, x2, (0 : Int32)] := A102
          replace A_b61 := A_b61.other W102 ne_b61_b69
          replace Z0 := Nat.le_trans Z0 (Keep.of_wr W102).1
          have N102 := Fr.snoc X102 N101 g_b69
          refine Go.st (S' := T102.setTop (mkF m 137 #[.val (.int p0), .val (.int p1), .val (.int K.toInt32), .val (.int (2 : Int32)), .val (.ref b61), .val (.ref b69), .val (.int (2 : Int32)), .unset, .unset, .unset] [])) (st102) ?_
          refine Go.st (S' := T102.setTop (mkF m 140 #[.val (.int p0), .val (.int p1), .val (.int K.toInt32), .val (.int (2 : Int32)), .val (.ref b61), .val (.ref b69), .val (.int ((2 : Int32) + (1 : Int32))), .unset, .unset, .unset] [])) (fun _ k_ => XS.iinc X102.here hx rfl (hb hby at_137) rfl (l' := #[.val (.int p0), .val (.int p1), .val (.int K.toInt32), .val (.int (2 : Int32)), .val (.ref b61), .val (.ref b69), .val (.int ((2 : Int32) + (1 : Int32))), .unset, .unset, .unset]) rfl k_) ?_
          rw [show ((2 : Int32) + (1 : Int32)) = (3 : Int32) from rfl]
          refine Go.st (S' := T102.setTop (mkF m 142 #[.val (.int p0), .val (.int p1), .val (.int K.toInt32), .val (.int (2 : Int32)), .val (.ref b61), .val (.ref b69), .val (.int (3 : Int32)), .unset, .unset, .unset] [(.ref b61)])) (fun _ k_ => XS.aload X102.here hx rfl (hb hby at_140) rfl rfl k_) ?_
          refine Go.st (S' := T102.setTop (mkF m 143 #[.val (.int p0), .val (.int p1), .val (.int K.toInt32), .val (.int (2 : Int32)), .val (.ref b61), .val (.ref b69), .val (.int (3 : Int32)), .unset, .unset, .unset] [(.int (3 : Int32)), (.ref b61)])) (fun _ k_ => XS.iconst X102.here hx rfl (hb hby at_142) k_) ?_
          refine Go.st (S' := T102.setTop (mkF m 144 #[.val (.int p0), .val (.int p1), .val (.int K.toInt32), .val (.int (2 : Int32)), .val (.ref b61), .val (.ref b69), .val (.int (3 : Int32)), .unset, .unset, .unset] [(.int x3)])) (A_b61.load X102 hx hZ e102 (j := (3 : Int32)) (v := x3) (by decide) rfl (g := (mkF m 143 #[.val (.int p0), .val (.int p1), .val (.int K.toInt32), .val (.int (2 : Int32)), .val (.ref b61), .val (.ref b69), .val (.int (3 : Int32)), .unset, .unset, .unset] [(.int (3 : Int32)), (.ref b61)])) rfl rfl (hb hby at_143)) ?_
          refine Go.st (S' := T102.setTop (mkF m 145 #[.val (.int p0), .val (.int p1), .val (.int K.toInt32), .val (.int (2 : Int32)), .val (.ref b61), .val (.ref b69), .val (.int (3 : Int32)), .unset, .unset, .unset] [(.int (2 : Int32)), (.int x3)])) (fun _ k_ => XS.iloadN X102.here hx rfl (hb hby at_144) rfl k_) ?_
          by_cases hc145 : x3 < (2 : Int32)
          · skip
            refine Go.st (S' := T102.setTop (mkF m 148 #[.val (.int p0), .val (.int p1), .val (.int K.toInt32), .val (.int (2 : Int32)), .val (.ref b61), .val (.ref b69), .val (.int (3 : Int32)), .unset, .unset, .unset] [])) (fun _ k_ => XS.icmpNo X102.here hx rfl (hb hby at_145) rfl (tlt hc145).2.1 k_) ?_
            refine Go.st (S' := T102.setTop (mkF m 150 #[.val (.int p0), .val (.int p1), .val (.int K.toInt32), .val (.int (2 : Int32)), .val (.ref b61), .val (.ref b69), .val (.int (3 : Int32)), .unset, .unset, .unset] [(.ref b69)])) (fun _ k_ => XS.aload X102.here hx rfl (hb hby at_148) rfl rfl k_) ?_
            refine Go.st (S' := T102.setTop (mkF m 152 #[.val (.int p0), .val (.int p1), .val (.int K.toInt32), .val (.int (2 : Int32)), .val (.ref b61), .val (.ref b69), .val (.int (3 : Int32)), .unset, .unset, .unset] [(.int (3 : Int32)), (.ref b69)])) (fun _ k_ => XS.iload X102.here hx rfl (hb hby at_150) rfl k_) ?_
            refine Go.st (S' := T102.setTop (mkF m 154 #[.val (.int p0), .val (.int p1), .val (.int K.toInt32), .val (.int (2 : Int32)), .val (.ref b61), .val (.ref b69), .val (.int (3 : Int32)), .unset, .unset, .unset] [(.ref b61), (.int (3 : Int32)), (.ref b69)])) (fun _ k_ => XS.aload X102.here hx rfl (hb hby at_152) rfl rfl k_) ?_
            refine Go.st (S' := T102.setTop (mkF m 155 #[.val (.int p0), .val (.int p1), .val (.int K.toInt32), .val (.int (2 : Int32)), .val (.ref b61), .val (.ref b69), .val (.int (3 : Int32)), .unset, .unset, .unset] [(.int (3 : Int32)), (.ref b61), (.int (3 : Int32)), (.ref b69)])) (fun _ k_ => XS.iconst X102.here hx rfl (hb hby at_154) k_) ?_
            refine Go.st (S' := T102.setTop (mkF m 156 #[.val (.int p0), .val (.int p1), .val (.int K.toInt32), .val (.int (2 : Int32)), .val (.ref b61), .val (.ref b69), .val (.int (3 : Int32)), .unset, .unset, .unset] [(.int x3), (.int (3 : Int32)), (.ref b69)])) (A_b61.load X102 hx hZ e102 (j := (3 : Int32)) (v := x3) (by decide) rfl (g := (mkF m 155 #[.val (.int p0), .val (.int p1), .val (.int K.toInt32), .val (.int (2 : Int32)), .val (.ref b61), .val (.ref b69), .val (.int (3 : Int32)), .unset, .unset, .unset] [(.int (3 : Int32)), (.ref b61), (.int (3 : Int32)), (.ref b69)])) rfl rfl (hb hby at_155)) ?_
            obtain ⟨T103, h103, X103, e103, W103, A103, st103⟩ := A_b69.store X102 hx hZ e102 (j := (3 : Int32)) (by decide) (Nat.le_of_ble_eq_true rfl) (g := (mkF m 156 #[.val (.int p0), .val (.int p1), .val (.int K.toInt32), .val (.int (2 : Int32)), .val (.ref b61), .val (.ref b69), .val (.int (3 : Int32)), .unset, .unset, .unset] [(.int x3), (.int (3 : Int32)), (.ref b69)])) rfl rfl (hb hby at_156)
            replace A_b69 : Ai Z h103 b69 .int [x0, x1, x2, x3] := A103
            replace A_b61 := A_b61.other W103 ne_b61_b69
            replace Z0 := Nat.le_trans Z0 (Keep.of_wr W103).1
            have N103 := Fr.snoc X103 N102 g_b69
            refine Go.st (S' := T103.setTop (mkF m 157 #[.val (.int p0), .val (.int p1), .val (.int K.toInt32), .val (.int (2 : Int32)), .val (.ref b61), .val (.ref b69), .val (.int (3 : Int32)), .unset, .unset, .unset] [])) (st103) ?_
            refine Go.st (S' := T103.setTop (mkF m 160 #[.val (.int p0), .val (.int p1), .val (.int K.toInt32), .val (.int (2 : Int32)), .val (.ref b61), .val (.ref b69), .val (.int ((3 : Int32) + (1 : Int32))), .unset, .unset, .unset] [])) (fun _ k_ => XS.iinc X103.here hx rfl (hb hby at_157) rfl (l' := #[.val (.int p0), .val (.int p1), .val (.int K.toInt32), .val (.int (2 : Int32)), .val (.ref b61), .val (.ref b69), .val (.int ((3 : Int32) + (1 : Int32))), .unset, .unset, .unset]) rfl k_) ?_
            rw [show ((3 : Int32) + (1 : Int32)) = (4 : Int32) from rfl]
            have hf2 : own_okb [x0, x1, x2, x3] = true ∧ ([x0, x1, x2, x3] : List Int32).length = 2 := by
              have q := hf
              rw [List.filter_cons, List.filter_cons, List.filter_cons, List.filter_cons, List.filter_nil] at q
              simp only [show (2 : Nat).toInt32 = (2 : Int32) from rfl, hc85, hc105, hc125, hc145, decide_true, decide_false, if_true, if_false, Bool.false_eq_true] at q
              exact q
            exact absurd hf2.2 (by show ¬ (4 = 2); decide)
          · skip
            refine Go.st (S' := T102.setTop (mkF m 160 #[.val (.int p0), .val (.int p1), .val (.int K.toInt32), .val (.int (2 : Int32)), .val (.ref b61), .val (.ref b69), .val (.int (3 : Int32)), .unset, .unset, .unset] [])) (fun _ k_ => XS.icmpYes X102.here hx rfl (pc0 := 145) (pc' := 160) rfl (hb hby at_145) rfl (flt hc145).2.1 (by decide) (by decide) k_) ?_
            have hf2 : own_okb [x0, x1, x2] = true ∧ ([x0, x1, x2] : List Int32).length = 2 := by
              have q := hf
              rw [List.filter_cons, List.filter_cons, List.filter_cons, List.filter_cons, List.filter_nil] at q
              simp only [show (2 : Nat).toInt32 = (2 : Int32) from rfl, hc85, hc105, hc125, hc145, decide_true, decide_false, if_true, if_false, Bool.false_eq_true] at q
              exact q
            exact absurd hf2.2 (by show ¬ (3 = 2); decide)
        · skip
          refine Go.st (S' := T101.setTop (mkF m 140 #[.val (.int p0), .val (.int p1), .val (.int K.toInt32), .val (.int (2 : Int32)), .val (.ref b61), .val (.ref b69), .val (.int (2 : Int32)), .unset, .unset, .unset] [])) (fun _ k_ => XS.icmpYes X101.here hx rfl (pc0 := 125) (pc' := 140) rfl (hb hby at_125) rfl (flt hc125).2.1 (by decide) (by decide) k_) ?_
          refine Go.st (S' := T101.setTop (mkF m 142 #[.val (.int p0), .val (.int p1), .val (.int K.toInt32), .val (.int (2 : Int32)), .val (.ref b61), .val (.ref b69), .val (.int (2 : Int32)), .unset, .unset, .unset] [(.ref b61)])) (fun _ k_ => XS.aload X101.here hx rfl (hb hby at_140) rfl rfl k_) ?_
          refine Go.st (S' := T101.setTop (mkF m 143 #[.val (.int p0), .val (.int p1), .val (.int K.toInt32), .val (.int (2 : Int32)), .val (.ref b61), .val (.ref b69), .val (.int (2 : Int32)), .unset, .unset, .unset] [(.int (3 : Int32)), (.ref b61)])) (fun _ k_ => XS.iconst X101.here hx rfl (hb hby at_142) k_) ?_
          refine Go.st (S' := T101.setTop (mkF m 144 #[.val (.int p0), .val (.int p1), .val (.int K.toInt32), .val (.int (2 : Int32)), .val (.ref b61), .val (.ref b69), .val (.int (2 : Int32)), .unset, .unset, .unset] [(.int x3)])) (A_b61.load X101 hx hZ e101 (j := (3 : Int32)) (v := x3) (by decide) rfl (g := (mkF m 143 #[.val (.int p0), .val (.int p1), .val (.int K.toInt32), .val (.int (2 : Int32)), .val (.ref b61), .val (.ref b69), .val (.int (2 : Int32)), .unset, .unset, .unset] [(.int (3 : Int32)), (.ref b61)])) rfl rfl (hb hby at_143)) ?_
          refine Go.st (S' := T101.setTop (mkF m 145 #[.val (.int p0), .val (.int p1), .val (.int K.toInt32), .val (.int (2 : Int32)), .val (.ref b61), .val (.ref b69), .val (.int (2 : Int32)), .unset, .unset, .unset] [(.int (2 : Int32)), (.int x3)])) (fun _ k_ => XS.iloadN X101.here hx rfl (hb hby at_144) rfl k_) ?_
          by_cases hc145 : x3 < (2 : Int32)
          · skip
            refine Go.st (S' := T101.setTop (mkF m 148 #[.val (.int p0), .val (.int p1), .val (.int K.toInt32), .val (.int (2 : Int32)), .val (.ref b61), .val (.ref b69), .val (.int (2 : Int32)), .unset, .unset, .unset] [])) (fun _ k_ => XS.icmpNo X101.here hx rfl (hb hby at_145) rfl (tlt hc145).2.1 k_) ?_
            refine Go.st (S' := T101.setTop (mkF m 150 #[.val (.int p0), .val (.int p1), .val (.int K.toInt32), .val (.int (2 : Int32)), .val (.ref b61), .val (.ref b69), .val (.int (2 : Int32)), .unset, .unset, .unset] [(.ref b69)])) (fun _ k_ => XS.aload X101.here hx rfl (hb hby at_148) rfl rfl k_) ?_
            refine Go.st (S' := T101.setTop (mkF m 152 #[.val (.int p0), .val (.int p1), .val (.int K.toInt32), .val (.int (2 : Int32)), .val (.ref b61), .val (.ref b69), .val (.int (2 : Int32)), .unset, .unset, .unset] [(.int (2 : Int32)), (.ref b69)])) (fun _ k_ => XS.iload X101.here hx rfl (hb hby at_150) rfl k_) ?_
            refine Go.st (S' := T101.setTop (mkF m 154 #[.val (.int p0), .val (.int p1), .val (.int K.toInt32), .val (.int (2 : Int32)), .val (.ref b61), .val (.ref b69), .val (.int (2 : Int32)), .unset, .unset, .unset] [(.ref b61), (.int (2 : Int32)), (.ref b69)])) (fun _ k_ => XS.aload X101.here hx rfl (hb hby at_152) rfl rfl k_) ?_
            refine Go.st (S' := T101.setTop (mkF m 155 #[.val (.int p0), .val (.int p1), .val (.int K.toInt32), .val (.int (2 : Int32)), .val (.ref b61), .val (.ref b69), .val (.int (2 : Int32)), .unset, .unset, .unset] [(.int (3 : Int32)), (.ref b61), (.int (2 : Int32)), (.ref b69)])) (fun _ k_ => XS.iconst X101.here hx rfl (hb hby at_154) k_) ?_
            refine Go.st (S' := T101.setTop (mkF m 156 #[.val (.int p0), .val (.int p1), .val (.int K.toInt32), .val (.int (2 : Int32)), .val (.ref b61), .val (.ref b69), .val (.int (2 : Int32)), .unset, .unset, .unset] [(.int x3), (.int (2 : Int32)), (.ref b69)])) (A_b61.load X101 hx hZ e101 (j := (3 : Int32)) (v := x3) (by decide) rfl (g := (mkF m 155 #[.val (.int p0), .val (.int p1), .val (.int K.toInt32), .val (.int (2 : Int32)), .val (.ref b61), .val (.ref b69), .val (.int (2 : Int32)), .unset, .unset, .unset] [(.int (3 : Int32)), (.ref b61), (.int (2 : Int32)), (.ref b69)])) rfl rfl (hb hby at_155)) ?_
            obtain ⟨T104, h104, X104, e104, W104, A104, st104⟩ := A_b69.store X101 hx hZ e101 (j := (2 : Int32)) (by decide) (Nat.le_of_ble_eq_true rfl) (g := (mkF m 156 #[.val (.int p0), .val (.int p1), .val (.int K.toInt32), .val (.int (2 : Int32)), .val (.ref b61), .val (.ref b69), .val (.int (2 : Int32)), .unset, .unset, .unset] [(.int x3), (.int (2 : Int32)), (.ref b69)])) rfl rfl (hb hby at_156)
            replace A_b69 : Ai Z h104 b69 .int [x0, x1, x3, (0 : Int32)] := A104
            replace A_b61 := A_b61.other W104 ne_b61_b69
            replace Z0 := Nat.le_trans Z0 (Keep.of_wr W104).1
            have N104 := Fr.snoc X104 N101 g_b69
            refine Go.st (S' := T104.setTop (mkF m 157 #[.val (.int p0), .val (.int p1), .val (.int K.toInt32), .val (.int (2 : Int32)), .val (.ref b61), .val (.ref b69), .val (.int (2 : Int32)), .unset, .unset, .unset] [])) (st104) ?_
            refine Go.st (S' := T104.setTop (mkF m 160 #[.val (.int p0), .val (.int p1), .val (.int K.toInt32), .val (.int (2 : Int32)), .val (.ref b61), .val (.ref b69), .val (.int ((2 : Int32) + (1 : Int32))), .unset, .unset, .unset] [])) (fun _ k_ => XS.iinc X104.here hx rfl (hb hby at_157) rfl (l' := #[.val (.int p0), .val (.int p1), .val (.int K.toInt32), .val (.int (2 : Int32)), .val (.ref b61), .val (.ref b69), .val (.int ((2 : Int32) + (1 : Int32))), .unset, .unset, .unset]) rfl k_) ?_
            rw [show ((2 : Int32) + (1 : Int32)) = (3 : Int32) from rfl]
            have hf2 : own_okb [x0, x1, x3] = true ∧ ([x0, x1, x3] : List Int32).length = 2 := by
              have q := hf
              rw [List.filter_cons, List.filter_cons, List.filter_cons, List.filter_cons, List.filter_nil] at q
              simp only [show (2 : Nat).toInt32 = (2 : Int32) from rfl, hc85, hc105, hc125, hc145, decide_true, decide_false, if_true, if_false, Bool.false_eq_true] at q
              exact q
            exact absurd hf2.2 (by show ¬ (3 = 2); decide)
          · skip
            refine Go.st (S' := T101.setTop (mkF m 160 #[.val (.int p0), .val (.int p1), .val (.int K.toInt32), .val (.int (2 : Int32)), .val (.ref b61), .val (.ref b69), .val (.int (2 : Int32)), .unset, .unset, .unset] [])) (fun _ k_ => XS.icmpYes X101.here hx rfl (pc0 := 145) (pc' := 160) rfl (hb hby at_145) rfl (flt hc145).2.1 (by decide) (by decide) k_) ?_
            have hf2 : own_okb [x0, x1] = true ∧ ([x0, x1] : List Int32).length = 2 := by
              have q := hf
              rw [List.filter_cons, List.filter_cons, List.filter_cons, List.filter_cons, List.filter_nil] at q
              simp only [show (2 : Nat).toInt32 = (2 : Int32) from rfl, hc85, hc105, hc125, hc145, decide_true, decide_false, if_true, if_false, Bool.false_eq_true] at q
              exact q
            exact J2 _ _ _ _ _ (X101.more (by decide) (by decide)) e101 N101 Z0 b61 b69 x0 x1 (0 : Int32) (0 : Int32) A_b69 g_b69 (own_ok_of hf2.1)
      · skip
        refine Go.st (S' := T100.setTop (mkF m 120 #[.val (.int p0), .val (.int p1), .val (.int K.toInt32), .val (.int (2 : Int32)), .val (.ref b61), .val (.ref b69), .val (.int (1 : Int32)), .unset, .unset, .unset] [])) (fun _ k_ => XS.icmpYes X100.here hx rfl (pc0 := 105) (pc' := 120) rfl (hb hby at_105) rfl (flt hc105).2.1 (by decide) (by decide) k_) ?_
        refine Go.st (S' := T100.setTop (mkF m 122 #[.val (.int p0), .val (.int p1), .val (.int K.toInt32), .val (.int (2 : Int32)), .val (.ref b61), .val (.ref b69), .val (.int (1 : Int32)), .unset, .unset, .unset] [(.ref b61)])) (fun _ k_ => XS.aload X100.here hx rfl (hb hby at_120) rfl rfl k_) ?_
        refine Go.st (S' := T100.setTop (mkF m 123 #[.val (.int p0), .val (.int p1), .val (.int K.toInt32), .val (.int (2 : Int32)), .val (.ref b61), .val (.ref b69), .val (.int (1 : Int32)), .unset, .unset, .unset] [(.int (2 : Int32)), (.ref b61)])) (fun _ k_ => XS.iconst X100.here hx rfl (hb hby at_122) k_) ?_
        refine Go.st (S' := T100.setTop (mkF m 124 #[.val (.int p0), .val (.int p1), .val (.int K.toInt32), .val (.int (2 : Int32)), .val (.ref b61), .val (.ref b69), .val (.int (1 : Int32)), .unset, .unset, .unset] [(.int x2)])) (A_b61.load X100 hx hZ e100 (j := (2 : Int32)) (v := x2) (by decide) rfl (g := (mkF m 123 #[.val (.int p0), .val (.int p1), .val (.int K.toInt32), .val (.int (2 : Int32)), .val (.ref b61), .val (.ref b69), .val (.int (1 : Int32)), .unset, .unset, .unset] [(.int (2 : Int32)), (.ref b61)])) rfl rfl (hb hby at_123)) ?_
        refine Go.st (S' := T100.setTop (mkF m 125 #[.val (.int p0), .val (.int p1), .val (.int K.toInt32), .val (.int (2 : Int32)), .val (.ref b61), .val (.ref b69), .val (.int (1 : Int32)), .unset, .unset, .unset] [(.int (2 : Int32)), (.int x2)])) (fun _ k_ => XS.iloadN X100.here hx rfl (hb hby at_124) rfl k_) ?_
        by_cases hc125 : x2 < (2 : Int32)
        · skip
          refine Go.st (S' := T100.setTop (mkF m 128 #[.val (.int p0), .val (.int p1), .val (.int K.toInt32), .val (.int (2 : Int32)), .val (.ref b61), .val (.ref b69), .val (.int (1 : Int32)), .unset, .unset, .unset] [])) (fun _ k_ => XS.icmpNo X100.here hx rfl (hb hby at_125) rfl (tlt hc125).2.1 k_) ?_
          refine Go.st (S' := T100.setTop (mkF m 130 #[.val (.int p0), .val (.int p1), .val (.int K.toInt32), .val (.int (2 : Int32)), .val (.ref b61), .val (.ref b69), .val (.int (1 : Int32)), .unset, .unset, .unset] [(.ref b69)])) (fun _ k_ => XS.aload X100.here hx rfl (hb hby at_128) rfl rfl k_) ?_
          refine Go.st (S' := T100.setTop (mkF m 132 #[.val (.int p0), .val (.int p1), .val (.int K.toInt32), .val (.int (2 : Int32)), .val (.ref b61), .val (.ref b69), .val (.int (1 : Int32)), .unset, .unset, .unset] [(.int (1 : Int32)), (.ref b69)])) (fun _ k_ => XS.iload X100.here hx rfl (hb hby at_130) rfl k_) ?_
          refine Go.st (S' := T100.setTop (mkF m 134 #[.val (.int p0), .val (.int p1), .val (.int K.toInt32), .val (.int (2 : Int32)), .val (.ref b61), .val (.ref b69), .val (.int (1 : Int32)), .unset, .unset, .unset] [(.ref b61), (.int (1 : Int32)), (.ref b69)])) (fun _ k_ => XS.aload X100.here hx rfl (hb hby at_132) rfl rfl k_) ?_
          refine Go.st (S' := T100.setTop (mkF m 135 #[.val (.int p0), .val (.int p1), .val (.int K.toInt32), .val (.int (2 : Int32)), .val (.ref b61), .val (.ref b69), .val (.int (1 : Int32)), .unset, .unset, .unset] [(.int (2 : Int32)), (.ref b61), (.int (1 : Int32)), (.ref b69)])) (fun _ k_ => XS.iconst X100.here hx rfl (hb hby at_134) k_) ?_
          refine Go.st (S' := T100.setTop (mkF m 136 #[.val (.int p0), .val (.int p1), .val (.int K.toInt32), .val (.int (2 : Int32)), .val (.ref b61), .val (.ref b69), .val (.int (1 : Int32)), .unset, .unset, .unset] [(.int x2), (.int (1 : Int32)), (.ref b69)])) (A_b61.load X100 hx hZ e100 (j := (2 : Int32)) (v := x2) (by decide) rfl (g := (mkF m 135 #[.val (.int p0), .val (.int p1), .val (.int K.toInt32), .val (.int (2 : Int32)), .val (.ref b61), .val (.ref b69), .val (.int (1 : Int32)), .unset, .unset, .unset] [(.int (2 : Int32)), (.ref b61), (.int (1 : Int32)), (.ref b69)])) rfl rfl (hb hby at_135)) ?_
          obtain ⟨T105, h105, X105, e105, W105, A105, st105⟩ := A_b69.store X100 hx hZ e100 (j := (1 : Int32)) (by decide) (Nat.le_of_ble_eq_true rfl) (g := (mkF m 136 #[.val (.int p0), .val (.int p1), .val (.int K.toInt32), .val (.int (2 : Int32)), .val (.ref b61), .val (.ref b69), .val (.int (1 : Int32)), .unset, .unset, .unset] [(.int x2), (.int (1 : Int32)), (.ref b69)])) rfl rfl (hb hby at_136)
          replace A_b69 : Ai Z h105 b69 .int [x0, x2, (0 : Int32), (0 : Int32)] := A105
          replace A_b61 := A_b61.other W105 ne_b61_b69
          replace Z0 := Nat.le_trans Z0 (Keep.of_wr W105).1
          have N105 := Fr.snoc X105 N100 g_b69
          refine Go.st (S' := T105.setTop (mkF m 137 #[.val (.int p0), .val (.int p1), .val (.int K.toInt32), .val (.int (2 : Int32)), .val (.ref b61), .val (.ref b69), .val (.int (1 : Int32)), .unset, .unset, .unset] [])) (st105) ?_
          refine Go.st (S' := T105.setTop (mkF m 140 #[.val (.int p0), .val (.int p1), .val (.int K.toInt32), .val (.int (2 : Int32)), .val (.ref b61), .val (.ref b69), .val (.int ((1 : Int32) + (1 : Int32))), .unset, .unset, .unset] [])) (fun _ k_ => XS.iinc X105.here hx rfl (hb hby at_137) rfl (l' := #[.val (.int p0), .val (.int p1), .val (.int K.toInt32), .val (.int (2 : Int32)), .val (.ref b61), .val (.ref b69), .val (.int ((1 : Int32) + (1 : Int32))), .unset, .unset, .unset]) rfl k_) ?_
          rw [show ((1 : Int32) + (1 : Int32)) = (2 : Int32) from rfl]
          refine Go.st (S' := T105.setTop (mkF m 142 #[.val (.int p0), .val (.int p1), .val (.int K.toInt32), .val (.int (2 : Int32)), .val (.ref b61), .val (.ref b69), .val (.int (2 : Int32)), .unset, .unset, .unset] [(.ref b61)])) (fun _ k_ => XS.aload X105.here hx rfl (hb hby at_140) rfl rfl k_) ?_
          refine Go.st (S' := T105.setTop (mkF m 143 #[.val (.int p0), .val (.int p1), .val (.int K.toInt32), .val (.int (2 : Int32)), .val (.ref b61), .val (.ref b69), .val (.int (2 : Int32)), .unset, .unset, .unset] [(.int (3 : Int32)), (.ref b61)])) (fun _ k_ => XS.iconst X105.here hx rfl (hb hby at_142) k_) ?_
          refine Go.st (S' := T105.setTop (mkF m 144 #[.val (.int p0), .val (.int p1), .val (.int K.toInt32), .val (.int (2 : Int32)), .val (.ref b61), .val (.ref b69), .val (.int (2 : Int32)), .unset, .unset, .unset] [(.int x3)])) (A_b61.load X105 hx hZ e105 (j := (3 : Int32)) (v := x3) (by decide) rfl (g := (mkF m 143 #[.val (.int p0), .val (.int p1), .val (.int K.toInt32), .val (.int (2 : Int32)), .val (.ref b61), .val (.ref b69), .val (.int (2 : Int32)), .unset, .unset, .unset] [(.int (3 : Int32)), (.ref b61)])) rfl rfl (hb hby at_143)) ?_
          refine Go.st (S' := T105.setTop (mkF m 145 #[.val (.int p0), .val (.int p1), .val (.int K.toInt32), .val (.int (2 : Int32)), .val (.ref b61), .val (.ref b69), .val (.int (2 : Int32)), .unset, .unset, .unset] [(.int (2 : Int32)), (.int x3)])) (fun _ k_ => XS.iloadN X105.here hx rfl (hb hby at_144) rfl k_) ?_
          by_cases hc145 : x3 < (2 : Int32)
          · skip
            refine Go.st (S' := T105.setTop (mkF m 148 #[.val (.int p0), .val (.int p1), .val (.int K.toInt32), .val (.int (2 : Int32)), .val (.ref b61), .val (.ref b69), .val (.int (2 : Int32)), .unset, .unset, .unset] [])) (fun _ k_ => XS.icmpNo X105.here hx rfl (hb hby at_145) rfl (tlt hc145).2.1 k_) ?_
            refine Go.st (S' := T105.setTop (mkF m 150 #[.val (.int p0), .val (.int p1), .val (.int K.toInt32), .val (.int (2 : Int32)), .val (.ref b61), .val (.ref b69), .val (.int (2 : Int32)), .unset, .unset, .unset] [(.ref b69)])) (fun _ k_ => XS.aload X105.here hx rfl (hb hby at_148) rfl rfl k_) ?_
            refine Go.st (S' := T105.setTop (mkF m 152 #[.val (.int p0), .val (.int p1), .val (.int K.toInt32), .val (.int (2 : Int32)), .val (.ref b61), .val (.ref b69), .val (.int (2 : Int32)), .unset, .unset, .unset] [(.int (2 : Int32)), (.ref b69)])) (fun _ k_ => XS.iload X105.here hx rfl (hb hby at_150) rfl k_) ?_
            refine Go.st (S' := T105.setTop (mkF m 154 #[.val (.int p0), .val (.int p1), .val (.int K.toInt32), .val (.int (2 : Int32)), .val (.ref b61), .val (.ref b69), .val (.int (2 : Int32)), .unset, .unset, .unset] [(.ref b61), (.int (2 : Int32)), (.ref b69)])) (fun _ k_ => XS.aload X105.here hx rfl (hb hby at_152) rfl rfl k_) ?_
            refine Go.st (S' := T105.setTop (mkF m 155 #[.val (.int p0), .val (.int p1), .val (.int K.toInt32), .val (.int (2 : Int32)), .val (.ref b61), .val (.ref b69), .val (.int (2 : Int32)), .unset, .unset, .unset] [(.int (3 : Int32)), (.ref b61), (.int (2 : Int32)), (.ref b69)])) (fun _ k_ => XS.iconst X105.here hx rfl (hb hby at_154) k_) ?_
            refine Go.st (S' := T105.setTop (mkF m 156 #[.val (.int p0), .val (.int p1), .val (.int K.toInt32), .val (.int (2 : Int32)), .val (.ref b61), .val (.ref b69), .val (.int (2 : Int32)), .unset, .unset, .unset] [(.int x3), (.int (2 : Int32)), (.ref b69)])) (A_b61.load X105 hx hZ e105 (j := (3 : Int32)) (v := x3) (by decide) rfl (g := (mkF m 155 #[.val (.int p0), .val (.int p1), .val (.int K.toInt32), .val (.int (2 : Int32)), .val (.ref b61), .val (.ref b69), .val (.int (2 : Int32)), .unset, .unset, .unset] [(.int (3 : Int32)), (.ref b61), (.int (2 : Int32)), (.ref b69)])) rfl rfl (hb hby at_155)) ?_
            obtain ⟨T106, h106, X106, e106, W106, A106, st106⟩ := A_b69.store X105 hx hZ e105 (j := (2 : Int32)) (by decide) (Nat.le_of_ble_eq_true rfl) (g := (mkF m 156 #[.val (.int p0), .val (.int p1), .val (.int K.toInt32), .val (.int (2 : Int32)), .val (.ref b61), .val (.ref b69), .val (.int (2 : Int32)), .unset, .unset, .unset] [(.int x3), (.int (2 : Int32)), (.ref b69)])) rfl rfl (hb hby at_156)
            replace A_b69 : Ai Z h106 b69 .int [x0, x2, x3, (0 : Int32)] := A106
            replace A_b61 := A_b61.other W106 ne_b61_b69
            replace Z0 := Nat.le_trans Z0 (Keep.of_wr W106).1
            have N106 := Fr.snoc X106 N105 g_b69
            refine Go.st (S' := T106.setTop (mkF m 157 #[.val (.int p0), .val (.int p1), .val (.int K.toInt32), .val (.int (2 : Int32)), .val (.ref b61), .val (.ref b69), .val (.int (2 : Int32)), .unset, .unset, .unset] [])) (st106) ?_
            refine Go.st (S' := T106.setTop (mkF m 160 #[.val (.int p0), .val (.int p1), .val (.int K.toInt32), .val (.int (2 : Int32)), .val (.ref b61), .val (.ref b69), .val (.int ((2 : Int32) + (1 : Int32))), .unset, .unset, .unset] [])) (fun _ k_ => XS.iinc X106.here hx rfl (hb hby at_157) rfl (l' := #[.val (.int p0), .val (.int p1), .val (.int K.toInt32), .val (.int (2 : Int32)), .val (.ref b61), .val (.ref b69), .val (.int ((2 : Int32) + (1 : Int32))), .unset, .unset, .unset]) rfl k_) ?_
            rw [show ((2 : Int32) + (1 : Int32)) = (3 : Int32) from rfl]
            have hf2 : own_okb [x0, x2, x3] = true ∧ ([x0, x2, x3] : List Int32).length = 2 := by
              have q := hf
              rw [List.filter_cons, List.filter_cons, List.filter_cons, List.filter_cons, List.filter_nil] at q
              simp only [show (2 : Nat).toInt32 = (2 : Int32) from rfl, hc85, hc105, hc125, hc145, decide_true, decide_false, if_true, if_false, Bool.false_eq_true] at q
              exact q
            exact absurd hf2.2 (by show ¬ (3 = 2); decide)
          · skip
            refine Go.st (S' := T105.setTop (mkF m 160 #[.val (.int p0), .val (.int p1), .val (.int K.toInt32), .val (.int (2 : Int32)), .val (.ref b61), .val (.ref b69), .val (.int (2 : Int32)), .unset, .unset, .unset] [])) (fun _ k_ => XS.icmpYes X105.here hx rfl (pc0 := 145) (pc' := 160) rfl (hb hby at_145) rfl (flt hc145).2.1 (by decide) (by decide) k_) ?_
            have hf2 : own_okb [x0, x2] = true ∧ ([x0, x2] : List Int32).length = 2 := by
              have q := hf
              rw [List.filter_cons, List.filter_cons, List.filter_cons, List.filter_cons, List.filter_nil] at q
              simp only [show (2 : Nat).toInt32 = (2 : Int32) from rfl, hc85, hc105, hc125, hc145, decide_true, decide_false, if_true, if_false, Bool.false_eq_true] at q
              exact q
            exact J2 _ _ _ _ _ (X105.more (by decide) (by decide)) e105 N105 Z0 b61 b69 x0 x2 (0 : Int32) (0 : Int32) A_b69 g_b69 (own_ok_of hf2.1)
        · skip
          refine Go.st (S' := T100.setTop (mkF m 140 #[.val (.int p0), .val (.int p1), .val (.int K.toInt32), .val (.int (2 : Int32)), .val (.ref b61), .val (.ref b69), .val (.int (1 : Int32)), .unset, .unset, .unset] [])) (fun _ k_ => XS.icmpYes X100.here hx rfl (pc0 := 125) (pc' := 140) rfl (hb hby at_125) rfl (flt hc125).2.1 (by decide) (by decide) k_) ?_
          refine Go.st (S' := T100.setTop (mkF m 142 #[.val (.int p0), .val (.int p1), .val (.int K.toInt32), .val (.int (2 : Int32)), .val (.ref b61), .val (.ref b69), .val (.int (1 : Int32)), .unset, .unset, .unset] [(.ref b61)])) (fun _ k_ => XS.aload X100.here hx rfl (hb hby at_140) rfl rfl k_) ?_
          refine Go.st (S' := T100.setTop (mkF m 143 #[.val (.int p0), .val (.int p1), .val (.int K.toInt32), .val (.int (2 : Int32)), .val (.ref b61), .val (.ref b69), .val (.int (1 : Int32)), .unset, .unset, .unset] [(.int (3 : Int32)), (.ref b61)])) (fun _ k_ => XS.iconst X100.here hx rfl (hb hby at_142) k_) ?_
          refine Go.st (S' := T100.setTop (mkF m 144 #[.val (.int p0), .val (.int p1), .val (.int K.toInt32), .val (.int (2 : Int32)), .val (.ref b61), .val (.ref b69), .val (.int (1 : Int32)), .unset, .unset, .unset] [(.int x3)])) (A_b61.load X100 hx hZ e100 (j := (3 : Int32)) (v := x3) (by decide) rfl (g := (mkF m 143 #[.val (.int p0), .val (.int p1), .val (.int K.toInt32), .val (.int (2 : Int32)), .val (.ref b61), .val (.ref b69), .val (.int (1 : Int32)), .unset, .unset, .unset] [(.int (3 : Int32)), (.ref b61)])) rfl rfl (hb hby at_143)) ?_
          refine Go.st (S' := T100.setTop (mkF m 145 #[.val (.int p0), .val (.int p1), .val (.int K.toInt32), .val (.int (2 : Int32)), .val (.ref b61), .val (.ref b69), .val (.int (1 : Int32)), .unset, .unset, .unset] [(.int (2 : Int32)), (.int x3)])) (fun _ k_ => XS.iloadN X100.here hx rfl (hb hby at_144) rfl k_) ?_
          by_cases hc145 : x3 < (2 : Int32)
          · skip
            refine Go.st (S' := T100.setTop (mkF m 148 #[.val (.int p0), .val (.int p1), .val (.int K.toInt32), .val (.int (2 : Int32)), .val (.ref b61), .val (.ref b69), .val (.int (1 : Int32)), .unset, .unset, .unset] [])) (fun _ k_ => XS.icmpNo X100.here hx rfl (hb hby at_145) rfl (tlt hc145).2.1 k_) ?_
            refine Go.st (S' := T100.setTop (mkF m 150 #[.val (.int p0), .val (.int p1), .val (.int K.toInt32), .val (.int (2 : Int32)), .val (.ref b61), .val (.ref b69), .val (.int (1 : Int32)), .unset, .unset, .unset] [(.ref b69)])) (fun _ k_ => XS.aload X100.here hx rfl (hb hby at_148) rfl rfl k_) ?_
            refine Go.st (S' := T100.setTop (mkF m 152 #[.val (.int p0), .val (.int p1), .val (.int K.toInt32), .val (.int (2 : Int32)), .val (.ref b61), .val (.ref b69), .val (.int (1 : Int32)), .unset, .unset, .unset] [(.int (1 : Int32)), (.ref b69)])) (fun _ k_ => XS.iload X100.here hx rfl (hb hby at_150) rfl k_) ?_
            refine Go.st (S' := T100.setTop (mkF m 154 #[.val (.int p0), .val (.int p1), .val (.int K.toInt32), .val (.int (2 : Int32)), .val (.ref b61), .val (.ref b69), .val (.int (1 : Int32)), .unset, .unset, .unset] [(.ref b61), (.int (1 : Int32)), (.ref b69)])) (fun _ k_ => XS.aload X100.here hx rfl (hb hby at_152) rfl rfl k_) ?_
            refine Go.st (S' := T100.setTop (mkF m 155 #[.val (.int p0), .val (.int p1), .val (.int K.toInt32), .val (.int (2 : Int32)), .val (.ref b61), .val (.ref b69), .val (.int (1 : Int32)), .unset, .unset, .unset] [(.int (3 : Int32)), (.ref b61), (.int (1 : Int32)), (.ref b69)])) (fun _ k_ => XS.iconst X100.here hx rfl (hb hby at_154) k_) ?_
            refine Go.st (S' := T100.setTop (mkF m 156 #[.val (.int p0), .val (.int p1), .val (.int K.toInt32), .val (.int (2 : Int32)), .val (.ref b61), .val (.ref b69), .val (.int (1 : Int32)), .unset, .unset, .unset] [(.int x3), (.int (1 : Int32)), (.ref b69)])) (A_b61.load X100 hx hZ e100 (j := (3 : Int32)) (v := x3) (by decide) rfl (g := (mkF m 155 #[.val (.int p0), .val (.int p1), .val (.int K.toInt32), .val (.int (2 : Int32)), .val (.ref b61), .val (.ref b69), .val (.int (1 : Int32)), .unset, .unset, .unset] [(.int (3 : Int32)), (.ref b61), (.int (1 : Int32)), (.ref b69)])) rfl rfl (hb hby at_155)) ?_
            obtain ⟨T107, h107, X107, e107, W107, A107, st107⟩ := A_b69.store X100 hx hZ e100 (j := (1 : Int32)) (by decide) (Nat.le_of_ble_eq_true rfl) (g := (mkF m 156 #[.val (.int p0), .val (.int p1), .val (.int K.toInt32), .val (.int (2 : Int32)), .val (.ref b61), .val (.ref b69), .val (.int (1 : Int32)), .unset, .unset, .unset] [(.int x3), (.int (1 : Int32)), (.ref b69)])) rfl rfl (hb hby at_156)
            replace A_b69 : Ai Z h107 b69 .int [x0, x3, (0 : Int32), (0 : Int32)] := A107
            replace A_b61 := A_b61.other W107 ne_b61_b69
            replace Z0 := Nat.le_trans Z0 (Keep.of_wr W107).1
            have N107 := Fr.snoc X107 N100 g_b69
            refine Go.st (S' := T107.setTop (mkF m 157 #[.val (.int p0), .val (.int p1), .val (.int K.toInt32), .val (.int (2 : Int32)), .val (.ref b61), .val (.ref b69), .val (.int (1 : Int32)), .unset, .unset, .unset] [])) (st107) ?_
            refine Go.st (S' := T107.setTop (mkF m 160 #[.val (.int p0), .val (.int p1), .val (.int K.toInt32), .val (.int (2 : Int32)), .val (.ref b61), .val (.ref b69), .val (.int ((1 : Int32) + (1 : Int32))), .unset, .unset, .unset] [])) (fun _ k_ => XS.iinc X107.here hx rfl (hb hby at_157) rfl (l' := #[.val (.int p0), .val (.int p1), .val (.int K.toInt32), .val (.int (2 : Int32)), .val (.ref b61), .val (.ref b69), .val (.int ((1 : Int32) + (1 : Int32))), .unset, .unset, .unset]) rfl k_) ?_
            rw [show ((1 : Int32) + (1 : Int32)) = (2 : Int32) from rfl]
            have hf2 : own_okb [x0, x3] = true ∧ ([x0, x3] : List Int32).length = 2 := by
              have q := hf
              rw [List.filter_cons, List.filter_cons, List.filter_cons, List.filter_cons, List.filter_nil] at q
              simp only [show (2 : Nat).toInt32 = (2 : Int32) from rfl, hc85, hc105, hc125, hc145, decide_true, decide_false, if_true, if_false, Bool.false_eq_true] at q
              exact q
            exact J2 _ _ _ _ _ (X107.more (by decide) (by decide)) e107 N107 Z0 b61 b69 x0 x3 (0 : Int32) (0 : Int32) A_b69 g_b69 (own_ok_of hf2.1)
          · skip
            refine Go.st (S' := T100.setTop (mkF m 160 #[.val (.int p0), .val (.int p1), .val (.int K.toInt32), .val (.int (2 : Int32)), .val (.ref b61), .val (.ref b69), .val (.int (1 : Int32)), .unset, .unset, .unset] [])) (fun _ k_ => XS.icmpYes X100.here hx rfl (pc0 := 145) (pc' := 160) rfl (hb hby at_145) rfl (flt hc145).2.1 (by decide) (by decide) k_) ?_
            have hf2 : own_okb [x0] = true ∧ ([x0] : List Int32).length = 2 := by
              have q := hf
              rw [List.filter_cons, List.filter_cons, List.filter_cons, List.filter_cons, List.filter_nil] at q
              simp only [show (2 : Nat).toInt32 = (2 : Int32) from rfl, hc85, hc105, hc125, hc145, decide_true, decide_false, if_true, if_false, Bool.false_eq_true] at q
              exact q
            exact absurd hf2.2 (by show ¬ (1 = 2); decide)
    · skip
      refine Go.st (S' := T69.setTop (mkF m 100 #[.val (.int p0), .val (.int p1), .val (.int K.toInt32), .val (.int (2 : Int32)), .val (.ref b61), .val (.ref b69), .val (.int (0 : Int32)), .unset, .unset, .unset] [])) (fun _ k_ => XS.icmpYes X69.here hx rfl (pc0 := 85) (pc' := 100) rfl (hb hby at_85) rfl (flt hc85).2.1 (by decide) (by decide) k_) ?_
      refine Go.st (S' := T69.setTop (mkF m 102 #[.val (.int p0), .val (.int p1), .val (.int K.toInt32), .val (.int (2 : Int32)), .val (.ref b61), .val (.ref b69), .val (.int (0 : Int32)), .unset, .unset, .unset] [(.ref b61)])) (fun _ k_ => XS.aload X69.here hx rfl (hb hby at_100) rfl rfl k_) ?_
      refine Go.st (S' := T69.setTop (mkF m 103 #[.val (.int p0), .val (.int p1), .val (.int K.toInt32), .val (.int (2 : Int32)), .val (.ref b61), .val (.ref b69), .val (.int (0 : Int32)), .unset, .unset, .unset] [(.int (1 : Int32)), (.ref b61)])) (fun _ k_ => XS.iconst X69.here hx rfl (hb hby at_102) k_) ?_
      refine Go.st (S' := T69.setTop (mkF m 104 #[.val (.int p0), .val (.int p1), .val (.int K.toInt32), .val (.int (2 : Int32)), .val (.ref b61), .val (.ref b69), .val (.int (0 : Int32)), .unset, .unset, .unset] [(.int x1)])) (A_b61.load X69 hx hZ e69 (j := (1 : Int32)) (v := x1) (by decide) rfl (g := (mkF m 103 #[.val (.int p0), .val (.int p1), .val (.int K.toInt32), .val (.int (2 : Int32)), .val (.ref b61), .val (.ref b69), .val (.int (0 : Int32)), .unset, .unset, .unset] [(.int (1 : Int32)), (.ref b61)])) rfl rfl (hb hby at_103)) ?_
      refine Go.st (S' := T69.setTop (mkF m 105 #[.val (.int p0), .val (.int p1), .val (.int K.toInt32), .val (.int (2 : Int32)), .val (.ref b61), .val (.ref b69), .val (.int (0 : Int32)), .unset, .unset, .unset] [(.int (2 : Int32)), (.int x1)])) (fun _ k_ => XS.iloadN X69.here hx rfl (hb hby at_104) rfl k_) ?_
      by_cases hc105 : x1 < (2 : Int32)
      · skip
        refine Go.st (S' := T69.setTop (mkF m 108 #[.val (.int p0), .val (.int p1), .val (.int K.toInt32), .val (.int (2 : Int32)), .val (.ref b61), .val (.ref b69), .val (.int (0 : Int32)), .unset, .unset, .unset] [])) (fun _ k_ => XS.icmpNo X69.here hx rfl (hb hby at_105) rfl (tlt hc105).2.1 k_) ?_
        refine Go.st (S' := T69.setTop (mkF m 110 #[.val (.int p0), .val (.int p1), .val (.int K.toInt32), .val (.int (2 : Int32)), .val (.ref b61), .val (.ref b69), .val (.int (0 : Int32)), .unset, .unset, .unset] [(.ref b69)])) (fun _ k_ => XS.aload X69.here hx rfl (hb hby at_108) rfl rfl k_) ?_
        refine Go.st (S' := T69.setTop (mkF m 112 #[.val (.int p0), .val (.int p1), .val (.int K.toInt32), .val (.int (2 : Int32)), .val (.ref b61), .val (.ref b69), .val (.int (0 : Int32)), .unset, .unset, .unset] [(.int (0 : Int32)), (.ref b69)])) (fun _ k_ => XS.iload X69.here hx rfl (hb hby at_110) rfl k_) ?_
        refine Go.st (S' := T69.setTop (mkF m 114 #[.val (.int p0), .val (.int p1), .val (.int K.toInt32), .val (.int (2 : Int32)), .val (.ref b61), .val (.ref b69), .val (.int (0 : Int32)), .unset, .unset, .unset] [(.ref b61), (.int (0 : Int32)), (.ref b69)])) (fun _ k_ => XS.aload X69.here hx rfl (hb hby at_112) rfl rfl k_) ?_
        refine Go.st (S' := T69.setTop (mkF m 115 #[.val (.int p0), .val (.int p1), .val (.int K.toInt32), .val (.int (2 : Int32)), .val (.ref b61), .val (.ref b69), .val (.int (0 : Int32)), .unset, .unset, .unset] [(.int (1 : Int32)), (.ref b61), (.int (0 : Int32)), (.ref b69)])) (fun _ k_ => XS.iconst X69.here hx rfl (hb hby at_114) k_) ?_
        refine Go.st (S' := T69.setTop (mkF m 116 #[.val (.int p0), .val (.int p1), .val (.int K.toInt32), .val (.int (2 : Int32)), .val (.ref b61), .val (.ref b69), .val (.int (0 : Int32)), .unset, .unset, .unset] [(.int x1), (.int (0 : Int32)), (.ref b69)])) (A_b61.load X69 hx hZ e69 (j := (1 : Int32)) (v := x1) (by decide) rfl (g := (mkF m 115 #[.val (.int p0), .val (.int p1), .val (.int K.toInt32), .val (.int (2 : Int32)), .val (.ref b61), .val (.ref b69), .val (.int (0 : Int32)), .unset, .unset, .unset] [(.int (1 : Int32)), (.ref b61), (.int (0 : Int32)), (.ref b69)])) rfl rfl (hb hby at_115)) ?_
        obtain ⟨T108, h108, X108, e108, W108, A108, st108⟩ := A_b69.store X69 hx hZ e69 (j := (0 : Int32)) (by decide) (Nat.le_of_ble_eq_true rfl) (g := (mkF m 116 #[.val (.int p0), .val (.int p1), .val (.int K.toInt32), .val (.int (2 : Int32)), .val (.ref b61), .val (.ref b69), .val (.int (0 : Int32)), .unset, .unset, .unset] [(.int x1), (.int (0 : Int32)), (.ref b69)])) rfl rfl (hb hby at_116)
        replace A_b69 : Ai Z h108 b69 .int [x1, (0 : Int32), (0 : Int32), (0 : Int32)] := A108
        replace A_b61 := A_b61.other W108 ne_b61_b69
        replace Z0 := Nat.le_trans Z0 (Keep.of_wr W108).1
        have N108 := Fr.snoc X108 N68 g_b69
        refine Go.st (S' := T108.setTop (mkF m 117 #[.val (.int p0), .val (.int p1), .val (.int K.toInt32), .val (.int (2 : Int32)), .val (.ref b61), .val (.ref b69), .val (.int (0 : Int32)), .unset, .unset, .unset] [])) (st108) ?_
        refine Go.st (S' := T108.setTop (mkF m 120 #[.val (.int p0), .val (.int p1), .val (.int K.toInt32), .val (.int (2 : Int32)), .val (.ref b61), .val (.ref b69), .val (.int ((0 : Int32) + (1 : Int32))), .unset, .unset, .unset] [])) (fun _ k_ => XS.iinc X108.here hx rfl (hb hby at_117) rfl (l' := #[.val (.int p0), .val (.int p1), .val (.int K.toInt32), .val (.int (2 : Int32)), .val (.ref b61), .val (.ref b69), .val (.int ((0 : Int32) + (1 : Int32))), .unset, .unset, .unset]) rfl k_) ?_
        rw [show ((0 : Int32) + (1 : Int32)) = (1 : Int32) from rfl]
        refine Go.st (S' := T108.setTop (mkF m 122 #[.val (.int p0), .val (.int p1), .val (.int K.toInt32), .val (.int (2 : Int32)), .val (.ref b61), .val (.ref b69), .val (.int (1 : Int32)), .unset, .unset, .unset] [(.ref b61)])) (fun _ k_ => XS.aload X108.here hx rfl (hb hby at_120) rfl rfl k_) ?_
        refine Go.st (S' := T108.setTop (mkF m 123 #[.val (.int p0), .val (.int p1), .val (.int K.toInt32), .val (.int (2 : Int32)), .val (.ref b61), .val (.ref b69), .val (.int (1 : Int32)), .unset, .unset, .unset] [(.int (2 : Int32)), (.ref b61)])) (fun _ k_ => XS.iconst X108.here hx rfl (hb hby at_122) k_) ?_
        refine Go.st (S' := T108.setTop (mkF m 124 #[.val (.int p0), .val (.int p1), .val (.int K.toInt32), .val (.int (2 : Int32)), .val (.ref b61), .val (.ref b69), .val (.int (1 : Int32)), .unset, .unset, .unset] [(.int x2)])) (A_b61.load X108 hx hZ e108 (j := (2 : Int32)) (v := x2) (by decide) rfl (g := (mkF m 123 #[.val (.int p0), .val (.int p1), .val (.int K.toInt32), .val (.int (2 : Int32)), .val (.ref b61), .val (.ref b69), .val (.int (1 : Int32)), .unset, .unset, .unset] [(.int (2 : Int32)), (.ref b61)])) rfl rfl (hb hby at_123)) ?_
        refine Go.st (S' := T108.setTop (mkF m 125 #[.val (.int p0), .val (.int p1), .val (.int K.toInt32), .val (.int (2 : Int32)), .val (.ref b61), .val (.ref b69), .val (.int (1 : Int32)), .unset, .unset, .unset] [(.int (2 : Int32)), (.int x2)])) (fun _ k_ => XS.iloadN X108.here hx rfl (hb hby at_124) rfl k_) ?_
        by_cases hc125 : x2 < (2 : Int32)
        · skip
          refine Go.st (S' := T108.setTop (mkF m 128 #[.val (.int p0), .val (.int p1), .val (.int K.toInt32), .val (.int (2 : Int32)), .val (.ref b61), .val (.ref b69), .val (.int (1 : Int32)), .unset, .unset, .unset] [])) (fun _ k_ => XS.icmpNo X108.here hx rfl (hb hby at_125) rfl (tlt hc125).2.1 k_) ?_
          refine Go.st (S' := T108.setTop (mkF m 130 #[.val (.int p0), .val (.int p1), .val (.int K.toInt32), .val (.int (2 : Int32)), .val (.ref b61), .val (.ref b69), .val (.int (1 : Int32)), .unset, .unset, .unset] [(.ref b69)])) (fun _ k_ => XS.aload X108.here hx rfl (hb hby at_128) rfl rfl k_) ?_
          refine Go.st (S' := T108.setTop (mkF m 132 #[.val (.int p0), .val (.int p1), .val (.int K.toInt32), .val (.int (2 : Int32)), .val (.ref b61), .val (.ref b69), .val (.int (1 : Int32)), .unset, .unset, .unset] [(.int (1 : Int32)), (.ref b69)])) (fun _ k_ => XS.iload X108.here hx rfl (hb hby at_130) rfl k_) ?_
          refine Go.st (S' := T108.setTop (mkF m 134 #[.val (.int p0), .val (.int p1), .val (.int K.toInt32), .val (.int (2 : Int32)), .val (.ref b61), .val (.ref b69), .val (.int (1 : Int32)), .unset, .unset, .unset] [(.ref b61), (.int (1 : Int32)), (.ref b69)])) (fun _ k_ => XS.aload X108.here hx rfl (hb hby at_132) rfl rfl k_) ?_
          refine Go.st (S' := T108.setTop (mkF m 135 #[.val (.int p0), .val (.int p1), .val (.int K.toInt32), .val (.int (2 : Int32)), .val (.ref b61), .val (.ref b69), .val (.int (1 : Int32)), .unset, .unset, .unset] [(.int (2 : Int32)), (.ref b61), (.int (1 : Int32)), (.ref b69)])) (fun _ k_ => XS.iconst X108.here hx rfl (hb hby at_134) k_) ?_
          refine Go.st (S' := T108.setTop (mkF m 136 #[.val (.int p0), .val (.int p1), .val (.int K.toInt32), .val (.int (2 : Int32)), .val (.ref b61), .val (.ref b69), .val (.int (1 : Int32)), .unset, .unset, .unset] [(.int x2), (.int (1 : Int32)), (.ref b69)])) (A_b61.load X108 hx hZ e108 (j := (2 : Int32)) (v := x2) (by decide) rfl (g := (mkF m 135 #[.val (.int p0), .val (.int p1), .val (.int K.toInt32), .val (.int (2 : Int32)), .val (.ref b61), .val (.ref b69), .val (.int (1 : Int32)), .unset, .unset, .unset] [(.int (2 : Int32)), (.ref b61), (.int (1 : Int32)), (.ref b69)])) rfl rfl (hb hby at_135)) ?_
          obtain ⟨T109, h109, X109, e109, W109, A109, st109⟩ := A_b69.store X108 hx hZ e108 (j := (1 : Int32)) (by decide) (Nat.le_of_ble_eq_true rfl) (g := (mkF m 136 #[.val (.int p0), .val (.int p1), .val (.int K.toInt32), .val (.int (2 : Int32)), .val (.ref b61), .val (.ref b69), .val (.int (1 : Int32)), .unset, .unset, .unset] [(.int x2), (.int (1 : Int32)), (.ref b69)])) rfl rfl (hb hby at_136)
          replace A_b69 : Ai Z h109 b69 .int [x1, x2, (0 : Int32), (0 : Int32)] := A109
          replace A_b61 := A_b61.other W109 ne_b61_b69
          replace Z0 := Nat.le_trans Z0 (Keep.of_wr W109).1
          have N109 := Fr.snoc X109 N108 g_b69
          refine Go.st (S' := T109.setTop (mkF m 137 #[.val (.int p0), .val (.int p1), .val (.int K.toInt32), .val (.int (2 : Int32)), .val (.ref b61), .val (.ref b69), .val (.int (1 : Int32)), .unset, .unset, .unset] [])) (st109) ?_
          refine Go.st (S' := T109.setTop (mkF m 140 #[.val (.int p0), .val (.int p1), .val (.int K.toInt32), .val (.int (2 : Int32)), .val (.ref b61), .val (.ref b69), .val (.int ((1 : Int32) + (1 : Int32))), .unset, .unset, .unset] [])) (fun _ k_ => XS.iinc X109.here hx rfl (hb hby at_137) rfl (l' := #[.val (.int p0), .val (.int p1), .val (.int K.toInt32), .val (.int (2 : Int32)), .val (.ref b61), .val (.ref b69), .val (.int ((1 : Int32) + (1 : Int32))), .unset, .unset, .unset]) rfl k_) ?_
          rw [show ((1 : Int32) + (1 : Int32)) = (2 : Int32) from rfl]
          refine Go.st (S' := T109.setTop (mkF m 142 #[.val (.int p0), .val (.int p1), .val (.int K.toInt32), .val (.int (2 : Int32)), .val (.ref b61), .val (.ref b69), .val (.int (2 : Int32)), .unset, .unset, .unset] [(.ref b61)])) (fun _ k_ => XS.aload X109.here hx rfl (hb hby at_140) rfl rfl k_) ?_
          refine Go.st (S' := T109.setTop (mkF m 143 #[.val (.int p0), .val (.int p1), .val (.int K.toInt32), .val (.int (2 : Int32)), .val (.ref b61), .val (.ref b69), .val (.int (2 : Int32)), .unset, .unset, .unset] [(.int (3 : Int32)), (.ref b61)])) (fun _ k_ => XS.iconst X109.here hx rfl (hb hby at_142) k_) ?_
          refine Go.st (S' := T109.setTop (mkF m 144 #[.val (.int p0), .val (.int p1), .val (.int K.toInt32), .val (.int (2 : Int32)), .val (.ref b61), .val (.ref b69), .val (.int (2 : Int32)), .unset, .unset, .unset] [(.int x3)])) (A_b61.load X109 hx hZ e109 (j := (3 : Int32)) (v := x3) (by decide) rfl (g := (mkF m 143 #[.val (.int p0), .val (.int p1), .val (.int K.toInt32), .val (.int (2 : Int32)), .val (.ref b61), .val (.ref b69), .val (.int (2 : Int32)), .unset, .unset, .unset] [(.int (3 : Int32)), (.ref b61)])) rfl rfl (hb hby at_143)) ?_
          refine Go.st (S' := T109.setTop (mkF m 145 #[.val (.int p0), .val (.int p1), .val (.int K.toInt32), .val (.int (2 : Int32)), .val (.ref b61), .val (.ref b69), .val (.int (2 : Int32)), .unset, .unset, .unset] [(.int (2 : Int32)), (.int x3)])) (fun _ k_ => XS.iloadN X109.here hx rfl (hb hby at_144) rfl k_) ?_
          by_cases hc145 : x3 < (2 : Int32)
          · skip
            refine Go.st (S' := T109.setTop (mkF m 148 #[.val (.int p0), .val (.int p1), .val (.int K.toInt32), .val (.int (2 : Int32)), .val (.ref b61), .val (.ref b69), .val (.int (2 : Int32)), .unset, .unset, .unset] [])) (fun _ k_ => XS.icmpNo X109.here hx rfl (hb hby at_145) rfl (tlt hc145).2.1 k_) ?_
            refine Go.st (S' := T109.setTop (mkF m 150 #[.val (.int p0), .val (.int p1), .val (.int K.toInt32), .val (.int (2 : Int32)), .val (.ref b61), .val (.ref b69), .val (.int (2 : Int32)), .unset, .unset, .unset] [(.ref b69)])) (fun _ k_ => XS.aload X109.here hx rfl (hb hby at_148) rfl rfl k_) ?_
            refine Go.st (S' := T109.setTop (mkF m 152 #[.val (.int p0), .val (.int p1), .val (.int K.toInt32), .val (.int (2 : Int32)), .val (.ref b61), .val (.ref b69), .val (.int (2 : Int32)), .unset, .unset, .unset] [(.int (2 : Int32)), (.ref b69)])) (fun _ k_ => XS.iload X109.here hx rfl (hb hby at_150) rfl k_) ?_
            refine Go.st (S' := T109.setTop (mkF m 154 #[.val (.int p0), .val (.int p1), .val (.int K.toInt32), .val (.int (2 : Int32)), .val (.ref b61), .val (.ref b69), .val (.int (2 : Int32)), .unset, .unset, .unset] [(.ref b61), (.int (2 : Int32)), (.ref b69)])) (fun _ k_ => XS.aload X109.here hx rfl (hb hby at_152) rfl rfl k_) ?_
            refine Go.st (S' := T109.setTop (mkF m 155 #[.val (.int p0), .val (.int p1), .val (.int K.toInt32), .val (.int (2 : Int32)), .val (.ref b61), .val (.ref b69), .val (.int (2 : Int32)), .unset, .unset, .unset] [(.int (3 : Int32)), (.ref b61), (.int (2 : Int32)), (.ref b69)])) (fun _ k_ => XS.iconst X109.here hx rfl (hb hby at_154) k_) ?_
            refine Go.st (S' := T109.setTop (mkF m 156 #[.val (.int p0), .val (.int p1), .val (.int K.toInt32), .val (.int (2 : Int32)), .val (.ref b61), .val (.ref b69), .val (.int (2 : Int32)), .unset, .unset, .unset] [(.int x3), (.int (2 : Int32)), (.ref b69)])) (A_b61.load X109 hx hZ e109 (j := (3 : Int32)) (v := x3) (by decide) rfl (g := (mkF m 155 #[.val (.int p0), .val (.int p1), .val (.int K.toInt32), .val (.int (2 : Int32)), .val (.ref b61), .val (.ref b69), .val (.int (2 : Int32)), .unset, .unset, .unset] [(.int (3 : Int32)), (.ref b61), (.int (2 : Int32)), (.ref b69)])) rfl rfl (hb hby at_155)) ?_
            obtain ⟨T110, h110, X110, e110, W110, A110, st110⟩ := A_b69.store X109 hx hZ e109 (j := (2 : Int32)) (by decide) (Nat.le_of_ble_eq_true rfl) (g := (mkF m 156 #[.val (.int p0), .val (.int p1), .val (.int K.toInt32), .val (.int (2 : Int32)), .val (.ref b61), .val (.ref b69), .val (.int (2 : Int32)), .unset, .unset, .unset] [(.int x3), (.int (2 : Int32)), (.ref b69)])) rfl rfl (hb hby at_156)
            replace A_b69 : Ai Z h110 b69 .int [x1, x2, x3, (0 : Int32)] := A110
            replace A_b61 := A_b61.other W110 ne_b61_b69
            replace Z0 := Nat.le_trans Z0 (Keep.of_wr W110).1
            have N110 := Fr.snoc X110 N109 g_b69
            refine Go.st (S' := T110.setTop (mkF m 157 #[.val (.int p0), .val (.int p1), .val (.int K.toInt32), .val (.int (2 : Int32)), .val (.ref b61), .val (.ref b69), .val (.int (2 : Int32)), .unset, .unset, .unset] [])) (st110) ?_
            refine Go.st (S' := T110.setTop (mkF m 160 #[.val (.int p0), .val (.int p1), .val (.int K.toInt32), .val (.int (2 : Int32)), .val (.ref b61), .val (.ref b69), .val (.int ((2 : Int32) + (1 : Int32))), .unset, .unset, .unset] [])) (fun _ k_ => XS.iinc X110.here hx rfl (hb hby at_157) rfl (l' := #[.val (.int p0), .val (.int p1), .val (.int K.toInt32), .val (.int (2 : Int32)), .val (.ref b61), .val (.ref b69), .val (.int ((2 : Int32) + (1 : Int32))), .unset, .unset, .unset]) rfl k_) ?_
            rw [show ((2 : Int32) + (1 : Int32)) = (3 : Int32) from rfl]
            have hf2 : own_okb [x1, x2, x3] = true ∧ ([x1, x2, x3] : List Int32).length = 2 := by
              have q := hf
              rw [List.filter_cons, List.filter_cons, List.filter_cons, List.filter_cons, List.filter_nil] at q
              simp only [show (2 : Nat).toInt32 = (2 : Int32) from rfl, hc85, hc105, hc125, hc145, decide_true, decide_false, if_true, if_false, Bool.false_eq_true] at q
              exact q
            exact absurd hf2.2 (by show ¬ (3 = 2); decide)
          · skip
            refine Go.st (S' := T109.setTop (mkF m 160 #[.val (.int p0), .val (.int p1), .val (.int K.toInt32), .val (.int (2 : Int32)), .val (.ref b61), .val (.ref b69), .val (.int (2 : Int32)), .unset, .unset, .unset] [])) (fun _ k_ => XS.icmpYes X109.here hx rfl (pc0 := 145) (pc' := 160) rfl (hb hby at_145) rfl (flt hc145).2.1 (by decide) (by decide) k_) ?_
            have hf2 : own_okb [x1, x2] = true ∧ ([x1, x2] : List Int32).length = 2 := by
              have q := hf
              rw [List.filter_cons, List.filter_cons, List.filter_cons, List.filter_cons, List.filter_nil] at q
              simp only [show (2 : Nat).toInt32 = (2 : Int32) from rfl, hc85, hc105, hc125, hc145, decide_true, decide_false, if_true, if_false, Bool.false_eq_true] at q
              exact q
            exact J2 _ _ _ _ _ (X109.more (by decide) (by decide)) e109 N109 Z0 b61 b69 x1 x2 (0 : Int32) (0 : Int32) A_b69 g_b69 (own_ok_of hf2.1)
        · skip
          refine Go.st (S' := T108.setTop (mkF m 140 #[.val (.int p0), .val (.int p1), .val (.int K.toInt32), .val (.int (2 : Int32)), .val (.ref b61), .val (.ref b69), .val (.int (1 : Int32)), .unset, .unset, .unset] [])) (fun _ k_ => XS.icmpYes X108.here hx rfl (pc0 := 125) (pc' := 140) rfl (hb hby at_125) rfl (flt hc125).2.1 (by decide) (by decide) k_) ?_
          refine Go.st (S' := T108.setTop (mkF m 142 #[.val (.int p0), .val (.int p1), .val (.int K.toInt32), .val (.int (2 : Int32)), .val (.ref b61), .val (.ref b69), .val (.int (1 : Int32)), .unset, .unset, .unset] [(.ref b61)])) (fun _ k_ => XS.aload X108.here hx rfl (hb hby at_140) rfl rfl k_) ?_
          refine Go.st (S' := T108.setTop (mkF m 143 #[.val (.int p0), .val (.int p1), .val (.int K.toInt32), .val (.int (2 : Int32)), .val (.ref b61), .val (.ref b69), .val (.int (1 : Int32)), .unset, .unset, .unset] [(.int (3 : Int32)), (.ref b61)])) (fun _ k_ => XS.iconst X108.here hx rfl (hb hby at_142) k_) ?_
          refine Go.st (S' := T108.setTop (mkF m 144 #[.val (.int p0), .val (.int p1), .val (.int K.toInt32), .val (.int (2 : Int32)), .val (.ref b61), .val (.ref b69), .val (.int (1 : Int32)), .unset, .unset, .unset] [(.int x3)])) (A_b61.load X108 hx hZ e108 (j := (3 : Int32)) (v := x3) (by decide) rfl (g := (mkF m 143 #[.val (.int p0), .val (.int p1), .val (.int K.toInt32), .val (.int (2 : Int32)), .val (.ref b61), .val (.ref b69), .val (.int (1 : Int32)), .unset, .unset, .unset] [(.int (3 : Int32)), (.ref b61)])) rfl rfl (hb hby at_143)) ?_
          refine Go.st (S' := T108.setTop (mkF m 145 #[.val (.int p0), .val (.int p1), .val (.int K.toInt32), .val (.int (2 : Int32)), .val (.ref b61), .val (.ref b69), .val (.int (1 : Int32)), .unset, .unset, .unset] [(.int (2 : Int32)), (.int x3)])) (fun _ k_ => XS.iloadN X108.here hx rfl (hb hby at_144) rfl k_) ?_
          by_cases hc145 : x3 < (2 : Int32)
          · skip
            refine Go.st (S' := T108.setTop (mkF m 148 #[.val (.int p0), .val (.int p1), .val (.int K.toInt32), .val (.int (2 : Int32)), .val (.ref b61), .val (.ref b69), .val (.int (1 : Int32)), .unset, .unset, .unset] [])) (fun _ k_ => XS.icmpNo X108.here hx rfl (hb hby at_145) rfl (tlt hc145).2.1 k_) ?_
            refine Go.st (S' := T108.setTop (mkF m 150 #[.val (.int p0), .val (.int p1), .val (.int K.toInt32), .val (.int (2 : Int32)), .val (.ref b61), .val (.ref b69), .val (.int (1 : Int32)), .unset, .unset, .unset] [(.ref b69)])) (fun _ k_ => XS.aload X108.here hx rfl (hb hby at_148) rfl rfl k_) ?_
            refine Go.st (S' := T108.setTop (mkF m 152 #[.val (.int p0), .val (.int p1), .val (.int K.toInt32), .val (.int (2 : Int32)), .val (.ref b61), .val (.ref b69), .val (.int (1 : Int32)), .unset, .unset, .unset] [(.int (1 : Int32)), (.ref b69)])) (fun _ k_ => XS.iload X108.here hx rfl (hb hby at_150) rfl k_) ?_
            refine Go.st (S' := T108.setTop (mkF m 154 #[.val (.int p0), .val (.int p1), .val (.int K.toInt32), .val (.int (2 : Int32)), .val (.ref b61), .val (.ref b69), .val (.int (1 : Int32)), .unset, .unset, .unset] [(.ref b61), (.int (1 : Int32)), (.ref b69)])) (fun _ k_ => XS.aload X108.here hx rfl (hb hby at_152) rfl rfl k_) ?_
            refine Go.st (S' := T108.setTop (mkF m 155 #[.val (.int p0), .val (.int p1), .val (.int K.toInt32), .val (.int (2 : Int32)), .val (.ref b61), .val (.ref b69), .val (.int (1 : Int32)), .unset, .unset, .unset] [(.int (3 : Int32)), (.ref b61), (.int (1 : Int32)), (.ref b69)])) (fun _ k_ => XS.iconst X108.here hx rfl (hb hby at_154) k_) ?_
            refine Go.st (S' := T108.setTop (mkF m 156 #[.val (.int p0), .val (.int p1), .val (.int K.toInt32), .val (.int (2 : Int32)), .val (.ref b61), .val (.ref b69), .val (.int (1 : Int32)), .unset, .unset, .unset] [(.int x3), (.int (1 : Int32)), (.ref b69)])) (A_b61.load X108 hx hZ e108 (j := (3 : Int32)) (v := x3) (by decide) rfl (g := (mkF m 155 #[.val (.int p0), .val (.int p1), .val (.int K.toInt32), .val (.int (2 : Int32)), .val (.ref b61), .val (.ref b69), .val (.int (1 : Int32)), .unset, .unset, .unset] [(.int (3 : Int32)), (.ref b61), (.int (1 : Int32)), (.ref b69)])) rfl rfl (hb hby at_155)) ?_
            obtain ⟨T111, h111, X111, e111, W111, A111, st111⟩ := A_b69.store X108 hx hZ e108 (j := (1 : Int32)) (by decide) (Nat.le_of_ble_eq_true rfl) (g := (mkF m 156 #[.val (.int p0), .val (.int p1), .val (.int K.toInt32), .val (.int (2 : Int32)), .val (.ref b61), .val (.ref b69), .val (.int (1 : Int32)), .unset, .unset, .unset] [(.int x3), (.int (1 : Int32)), (.ref b69)])) rfl rfl (hb hby at_156)
            replace A_b69 : Ai Z h111 b69 .int [x1, x3, (0 : Int32), (0 : Int32)] := A111
            replace A_b61 := A_b61.other W111 ne_b61_b69
            replace Z0 := Nat.le_trans Z0 (Keep.of_wr W111).1
            have N111 := Fr.snoc X111 N108 g_b69
            refine Go.st (S' := T111.setTop (mkF m 157 #[.val (.int p0), .val (.int p1), .val (.int K.toInt32), .val (.int (2 : Int32)), .val (.ref b61), .val (.ref b69), .val (.int (1 : Int32)), .unset, .unset, .unset] [])) (st111) ?_
            refine Go.st (S' := T111.setTop (mkF m 160 #[.val (.int p0), .val (.int p1), .val (.int K.toInt32), .val (.int (2 : Int32)), .val (.ref b61), .val (.ref b69), .val (.int ((1 : Int32) + (1 : Int32))), .unset, .unset, .unset] [])) (fun _ k_ => XS.iinc X111.here hx rfl (hb hby at_157) rfl (l' := #[.val (.int p0), .val (.int p1), .val (.int K.toInt32), .val (.int (2 : Int32)), .val (.ref b61), .val (.ref b69), .val (.int ((1 : Int32) + (1 : Int32))), .unset, .unset, .unset]) rfl k_) ?_
            rw [show ((1 : Int32) + (1 : Int32)) = (2 : Int32) from rfl]
            have hf2 : own_okb [x1, x3] = true ∧ ([x1, x3] : List Int32).length = 2 := by
              have q := hf
              rw [List.filter_cons, List.filter_cons, List.filter_cons, List.filter_cons, List.filter_nil] at q
              simp only [show (2 : Nat).toInt32 = (2 : Int32) from rfl, hc85, hc105, hc125, hc145, decide_true, decide_false, if_true, if_false, Bool.false_eq_true] at q
              exact q
            exact J2 _ _ _ _ _ (X111.more (by decide) (by decide)) e111 N111 Z0 b61 b69 x1 x3 (0 : Int32) (0 : Int32) A_b69 g_b69 (own_ok_of hf2.1)
          · skip
            refine Go.st (S' := T108.setTop (mkF m 160 #[.val (.int p0), .val (.int p1), .val (.int K.toInt32), .val (.int (2 : Int32)), .val (.ref b61), .val (.ref b69), .val (.int (1 : Int32)), .unset, .unset, .unset] [])) (fun _ k_ => XS.icmpYes X108.here hx rfl (pc0 := 145) (pc' := 160) rfl (hb hby at_145) rfl (flt hc145).2.1 (by decide) (by decide) k_) ?_
            have hf2 : own_okb [x1] = true ∧ ([x1] : List Int32).length = 2 := by
              have q := hf
              rw [List.filter_cons, List.filter_cons, List.filter_cons, List.filter_cons, List.filter_nil] at q
              simp only [show (2 : Nat).toInt32 = (2 : Int32) from rfl, hc85, hc105, hc125, hc145, decide_true, decide_false, if_true, if_false, Bool.false_eq_true] at q
              exact q
            exact absurd hf2.2 (by show ¬ (1 = 2); decide)
      · skip
        refine Go.st (S' := T69.setTop (mkF m 120 #[.val (.int p0), .val (.int p1), .val (.int K.toInt32), .val (.int (2 : Int32)), .val (.ref b61), .val (.ref b69), .val (.int (0 : Int32)), .unset, .unset, .unset] [])) (fun _ k_ => XS.icmpYes X69.here hx rfl (pc0 := 105) (pc' := 120) rfl (hb hby at_105) rfl (flt hc105).2.1 (by decide) (by decide) k_) ?_
        refine Go.st (S' := T69.setTop (mkF m 122 #[.val (.int p0), .val (.int p1), .val (.int K.toInt32), .val (.int (2 : Int32)), .val (.ref b61), .val (.ref b69), .val (.int (0 : Int32)), .unset, .unset, .unset] [(.ref b61)])) (fun _ k_ => XS.aload X69.here hx rfl (hb hby at_120) rfl rfl k_) ?_
        refine Go.st (S' := T69.setTop (mkF m 123 #[.val (.int p0), .val (.int p1), .val (.int K.toInt32), .val (.int (2 : Int32)), .val (.ref b61), .val (.ref b69), .val (.int (0 : Int32)), .unset, .unset, .unset] [(.int (2 : Int32)), (.ref b61)])) (fun _ k_ => XS.iconst X69.here hx rfl (hb hby at_122) k_) ?_
        refine Go.st (S' := T69.setTop (mkF m 124 #[.val (.int p0), .val (.int p1), .val (.int K.toInt32), .val (.int (2 : Int32)), .val (.ref b61), .val (.ref b69), .val (.int (0 : Int32)), .unset, .unset, .unset] [(.int x2)])) (A_b61.load X69 hx hZ e69 (j := (2 : Int32)) (v := x2) (by decide) rfl (g := (mkF m 123 #[.val (.int p0), .val (.int p1), .val (.int K.toInt32), .val (.int (2 : Int32)), .val (.ref b61), .val (.ref b69), .val (.int (0 : Int32)), .unset, .unset, .unset] [(.int (2 : Int32)), (.ref b61)])) rfl rfl (hb hby at_123)) ?_
        refine Go.st (S' := T69.setTop (mkF m 125 #[.val (.int p0), .val (.int p1), .val (.int K.toInt32), .val (.int (2 : Int32)), .val (.ref b61), .val (.ref b69), .val (.int (0 : Int32)), .unset, .unset, .unset] [(.int (2 : Int32)), (.int x2)])) (fun _ k_ => XS.iloadN X69.here hx rfl (hb hby at_124) rfl k_) ?_
        by_cases hc125 : x2 < (2 : Int32)
        · skip
          refine Go.st (S' := T69.setTop (mkF m 128 #[.val (.int p0), .val (.int p1), .val (.int K.toInt32), .val (.int (2 : Int32)), .val (.ref b61), .val (.ref b69), .val (.int (0 : Int32)), .unset, .unset, .unset] [])) (fun _ k_ => XS.icmpNo X69.here hx rfl (hb hby at_125) rfl (tlt hc125).2.1 k_) ?_
          refine Go.st (S' := T69.setTop (mkF m 130 #[.val (.int p0), .val (.int p1), .val (.int K.toInt32), .val (.int (2 : Int32)), .val (.ref b61), .val (.ref b69), .val (.int (0 : Int32)), .unset, .unset, .unset] [(.ref b69)])) (fun _ k_ => XS.aload X69.here hx rfl (hb hby at_128) rfl rfl k_) ?_
          refine Go.st (S' := T69.setTop (mkF m 132 #[.val (.int p0), .val (.int p1), .val (.int K.toInt32), .val (.int (2 : Int32)), .val (.ref b61), .val (.ref b69), .val (.int (0 : Int32)), .unset, .unset, .unset] [(.int (0 : Int32)), (.ref b69)])) (fun _ k_ => XS.iload X69.here hx rfl (hb hby at_130) rfl k_) ?_
          refine Go.st (S' := T69.setTop (mkF m 134 #[.val (.int p0), .val (.int p1), .val (.int K.toInt32), .val (.int (2 : Int32)), .val (.ref b61), .val (.ref b69), .val (.int (0 : Int32)), .unset, .unset, .unset] [(.ref b61), (.int (0 : Int32)), (.ref b69)])) (fun _ k_ => XS.aload X69.here hx rfl (hb hby at_132) rfl rfl k_) ?_
          refine Go.st (S' := T69.setTop (mkF m 135 #[.val (.int p0), .val (.int p1), .val (.int K.toInt32), .val (.int (2 : Int32)), .val (.ref b61), .val (.ref b69), .val (.int (0 : Int32)), .unset, .unset, .unset] [(.int (2 : Int32)), (.ref b61), (.int (0 : Int32)), (.ref b69)])) (fun _ k_ => XS.iconst X69.here hx rfl (hb hby at_134) k_) ?_
          refine Go.st (S' := T69.setTop (mkF m 136 #[.val (.int p0), .val (.int p1), .val (.int K.toInt32), .val (.int (2 : Int32)), .val (.ref b61), .val (.ref b69), .val (.int (0 : Int32)), .unset, .unset, .unset] [(.int x2), (.int (0 : Int32)), (.ref b69)])) (A_b61.load X69 hx hZ e69 (j := (2 : Int32)) (v := x2) (by decide) rfl (g := (mkF m 135 #[.val (.int p0), .val (.int p1), .val (.int K.toInt32), .val (.int (2 : Int32)), .val (.ref b61), .val (.ref b69), .val (.int (0 : Int32)), .unset, .unset, .unset] [(.int (2 : Int32)), (.ref b61), (.int (0 : Int32)), (.ref b69)])) rfl rfl (hb hby at_135)) ?_
          obtain ⟨T112, h112, X112, e112, W112, A112, st112⟩ := A_b69.store X69 hx hZ e69 (j := (0 : Int32)) (by decide) (Nat.le_of_ble_eq_true rfl) (g := (mkF m 136 #[.val (.int p0), .val (.int p1), .val (.int K.toInt32), .val (.int (2 : Int32)), .val (.ref b61), .val (.ref b69), .val (.int (0 : Int32)), .unset, .unset, .unset] [(.int x2), (.int (0 : Int32)), (.ref b69)])) rfl rfl (hb hby at_136)
          replace A_b69 : Ai Z h112 b69 .int [x2, (0 : Int32), (0 : Int32), (0 : Int32)] := A112
          replace A_b61 := A_b61.other W112 ne_b61_b69
          replace Z0 := Nat.le_trans Z0 (Keep.of_wr W112).1
          have N112 := Fr.snoc X112 N68 g_b69
          refine Go.st (S' := T112.setTop (mkF m 137 #[.val (.int p0), .val (.int p1), .val (.int K.toInt32), .val (.int (2 : Int32)), .val (.ref b61), .val (.ref b69), .val (.int (0 : Int32)), .unset, .unset, .unset] [])) (st112) ?_
          refine Go.st (S' := T112.setTop (mkF m 140 #[.val (.int p0), .val (.int p1), .val (.int K.toInt32), .val (.int (2 : Int32)), .val (.ref b61), .val (.ref b69), .val (.int ((0 : Int32) + (1 : Int32))), .unset, .unset, .unset] [])) (fun _ k_ => XS.iinc X112.here hx rfl (hb hby at_137) rfl (l' := #[.val (.int p0), .val (.int p1), .val (.int K.toInt32), .val (.int (2 : Int32)), .val (.ref b61), .val (.ref b69), .val (.int ((0 : Int32) + (1 : Int32))), .unset, .unset, .unset]) rfl k_) ?_
          rw [show ((0 : Int32) + (1 : Int32)) = (1 : Int32) from rfl]
          refine Go.st (S' := T112.setTop (mkF m 142 #[.val (.int p0), .val (.int p1), .val (.int K.toInt32), .val (.int (2 : Int32)), .val (.ref b61), .val (.ref b69), .val (.int (1 : Int32)), .unset, .unset, .unset] [(.ref b61)])) (fun _ k_ => XS.aload X112.here hx rfl (hb hby at_140) rfl rfl k_) ?_
          refine Go.st (S' := T112.setTop (mkF m 143 #[.val (.int p0), .val (.int p1), .val (.int K.toInt32), .val (.int (2 : Int32)), .val (.ref b61), .val (.ref b69), .val (.int (1 : Int32)), .unset, .unset, .unset] [(.int (3 : Int32)), (.ref b61)])) (fun _ k_ => XS.iconst X112.here hx rfl (hb hby at_142) k_) ?_
          refine Go.st (S' := T112.setTop (mkF m 144 #[.val (.int p0), .val (.int p1), .val (.int K.toInt32), .val (.int (2 : Int32)), .val (.ref b61), .val (.ref b69), .val (.int (1 : Int32)), .unset, .unset, .unset] [(.int x3)])) (A_b61.load X112 hx hZ e112 (j := (3 : Int32)) (v := x3) (by decide) rfl (g := (mkF m 143 #[.val (.int p0), .val (.int p1), .val (.int K.toInt32), .val (.int (2 : Int32)), .val (.ref b61), .val (.ref b69), .val (.int (1 : Int32)), .unset, .unset, .unset] [(.int (3 : Int32)), (.ref b61)])) rfl rfl (hb hby at_143)) ?_
          refine Go.st (S' := T112.setTop (mkF m 145 #[.val (.int p0), .val (.int p1), .val (.int K.toInt32), .val (.int (2 : Int32)), .val (.ref b61), .val (.ref b69), .val (.int (1 : Int32)), .unset, .unset, .unset] [(.int (2 : Int32)), (.int x3)])) (fun _ k_ => XS.iloadN X112.here hx rfl (hb hby at_144) rfl k_) ?_
          by_cases hc145 : x3 < (2 : Int32)
          · skip
            refine Go.st (S' := T112.setTop (mkF m 148 #[.val (.int p0), .val (.int p1), .val (.int K.toInt32), .val (.int (2 : Int32)), .val (.ref b61), .val (.ref b69), .val (.int (1 : Int32)), .unset, .unset, .unset] [])) (fun _ k_ => XS.icmpNo X112.here hx rfl (hb hby at_145) rfl (tlt hc145).2.1 k_) ?_
            refine Go.st (S' := T112.setTop (mkF m 150 #[.val (.int p0), .val (.int p1), .val (.int K.toInt32), .val (.int (2 : Int32)), .val (.ref b61), .val (.ref b69), .val (.int (1 : Int32)), .unset, .unset, .unset] [(.ref b69)])) (fun _ k_ => XS.aload X112.here hx rfl (hb hby at_148) rfl rfl k_) ?_
            refine Go.st (S' := T112.setTop (mkF m 152 #[.val (.int p0), .val (.int p1), .val (.int K.toInt32), .val (.int (2 : Int32)), .val (.ref b61), .val (.ref b69), .val (.int (1 : Int32)), .unset, .unset, .unset] [(.int (1 : Int32)), (.ref b69)])) (fun _ k_ => XS.iload X112.here hx rfl (hb hby at_150) rfl k_) ?_
            refine Go.st (S' := T112.setTop (mkF m 154 #[.val (.int p0), .val (.int p1), .val (.int K.toInt32), .val (.int (2 : Int32)), .val (.ref b61), .val (.ref b69), .val (.int (1 : Int32)), .unset, .unset, .unset] [(.ref b61), (.int (1 : Int32)), (.ref b69)])) (fun _ k_ => XS.aload X112.here hx rfl (hb hby at_152) rfl rfl k_) ?_
            refine Go.st (S' := T112.setTop (mkF m 155 #[.val (.int p0), .val (.int p1), .val (.int K.toInt32), .val (.int (2 : Int32)), .val (.ref b61), .val (.ref b69), .val (.int (1 : Int32)), .unset, .unset, .unset] [(.int (3 : Int32)), (.ref b61), (.int (1 : Int32)), (.ref b69)])) (fun _ k_ => XS.iconst X112.here hx rfl (hb hby at_154) k_) ?_
            refine Go.st (S' := T112.setTop (mkF m 156 #[.val (.int p0), .val (.int p1), .val (.int K.toInt32), .val (.int (2 : Int32)), .val (.ref b61), .val (.ref b69), .val (.int (1 : Int32)), .unset, .unset, .unset] [(.int x3), (.int (1 : Int32)), (.ref b69)])) (A_b61.load X112 hx hZ e112 (j := (3 : Int32)) (v := x3) (by decide) rfl (g := (mkF m 155 #[.val (.int p0), .val (.int p1), .val (.int K.toInt32), .val (.int (2 : Int32)), .val (.ref b61), .val (.ref b69), .val (.int (1 : Int32)), .unset, .unset, .unset] [(.int (3 : Int32)), (.ref b61), (.int (1 : Int32)), (.ref b69)])) rfl rfl (hb hby at_155)) ?_
            obtain ⟨T113, h113, X113, e113, W113, A113, st113⟩ := A_b69.store X112 hx hZ e112 (j := (1 : Int32)) (by decide) (Nat.le_of_ble_eq_true rfl) (g := (mkF m 156 #[.val (.int p0), .val (.int p1), .val (.int K.toInt32), .val (.int (2 : Int32)), .val (.ref b61), .val (.ref b69), .val (.int (1 : Int32)), .unset, .unset, .unset] [(.int x3), (.int (1 : Int32)), (.ref b69)])) rfl rfl (hb hby at_156)
            replace A_b69 : Ai Z h113 b69 .int [x2, x3, (0 : Int32), (0 : Int32)] := A113
            replace A_b61 := A_b61.other W113 ne_b61_b69
            replace Z0 := Nat.le_trans Z0 (Keep.of_wr W113).1
            have N113 := Fr.snoc X113 N112 g_b69
            refine Go.st (S' := T113.setTop (mkF m 157 #[.val (.int p0), .val (.int p1), .val (.int K.toInt32), .val (.int (2 : Int32)), .val (.ref b61), .val (.ref b69), .val (.int (1 : Int32)), .unset, .unset, .unset] [])) (st113) ?_
            refine Go.st (S' := T113.setTop (mkF m 160 #[.val (.int p0), .val (.int p1), .val (.int K.toInt32), .val (.int (2 : Int32)), .val (.ref b61), .val (.ref b69), .val (.int ((1 : Int32) + (1 : Int32))), .unset, .unset, .unset] [])) (fun _ k_ => XS.iinc X113.here hx rfl (hb hby at_157) rfl (l' := #[.val (.int p0), .val (.int p1), .val (.int K.toInt32), .val (.int (2 : Int32)), .val (.ref b61), .val (.ref b69), .val (.int ((1 : Int32) + (1 : Int32))), .unset, .unset, .unset]) rfl k_) ?_
            rw [show ((1 : Int32) + (1 : Int32)) = (2 : Int32) from rfl]
            have hf2 : own_okb [x2, x3] = true ∧ ([x2, x3] : List Int32).length = 2 := by
              have q := hf
              rw [List.filter_cons, List.filter_cons, List.filter_cons, List.filter_cons, List.filter_nil] at q
              simp only [show (2 : Nat).toInt32 = (2 : Int32) from rfl, hc85, hc105, hc125, hc145, decide_true, decide_false, if_true, if_false, Bool.false_eq_true] at q
              exact q
            exact J2 _ _ _ _ _ (X113.more (by decide) (by decide)) e113 N113 Z0 b61 b69 x2 x3 (0 : Int32) (0 : Int32) A_b69 g_b69 (own_ok_of hf2.1)
          · skip
            refine Go.st (S' := T112.setTop (mkF m 160 #[.val (.int p0), .val (.int p1), .val (.int K.toInt32), .val (.int (2 : Int32)), .val (.ref b61), .val (.ref b69), .val (.int (1 : Int32)), .unset, .unset, .unset] [])) (fun _ k_ => XS.icmpYes X112.here hx rfl (pc0 := 145) (pc' := 160) rfl (hb hby at_145) rfl (flt hc145).2.1 (by decide) (by decide) k_) ?_
            have hf2 : own_okb [x2] = true ∧ ([x2] : List Int32).length = 2 := by
              have q := hf
              rw [List.filter_cons, List.filter_cons, List.filter_cons, List.filter_cons, List.filter_nil] at q
              simp only [show (2 : Nat).toInt32 = (2 : Int32) from rfl, hc85, hc105, hc125, hc145, decide_true, decide_false, if_true, if_false, Bool.false_eq_true] at q
              exact q
            exact absurd hf2.2 (by show ¬ (1 = 2); decide)
        · skip
          refine Go.st (S' := T69.setTop (mkF m 140 #[.val (.int p0), .val (.int p1), .val (.int K.toInt32), .val (.int (2 : Int32)), .val (.ref b61), .val (.ref b69), .val (.int (0 : Int32)), .unset, .unset, .unset] [])) (fun _ k_ => XS.icmpYes X69.here hx rfl (pc0 := 125) (pc' := 140) rfl (hb hby at_125) rfl (flt hc125).2.1 (by decide) (by decide) k_) ?_
          refine Go.st (S' := T69.setTop (mkF m 142 #[.val (.int p0), .val (.int p1), .val (.int K.toInt32), .val (.int (2 : Int32)), .val (.ref b61), .val (.ref b69), .val (.int (0 : Int32)), .unset, .unset, .unset] [(.ref b61)])) (fun _ k_ => XS.aload X69.here hx rfl (hb hby at_140) rfl rfl k_) ?_
          refine Go.st (S' := T69.setTop (mkF m 143 #[.val (.int p0), .val (.int p1), .val (.int K.toInt32), .val (.int (2 : Int32)), .val (.ref b61), .val (.ref b69), .val (.int (0 : Int32)), .unset, .unset, .unset] [(.int (3 : Int32)), (.ref b61)])) (fun _ k_ => XS.iconst X69.here hx rfl (hb hby at_142) k_) ?_
          refine Go.st (S' := T69.setTop (mkF m 144 #[.val (.int p0), .val (.int p1), .val (.int K.toInt32), .val (.int (2 : Int32)), .val (.ref b61), .val (.ref b69), .val (.int (0 : Int32)), .unset, .unset, .unset] [(.int x3)])) (A_b61.load X69 hx hZ e69 (j := (3 : Int32)) (v := x3) (by decide) rfl (g := (mkF m 143 #[.val (.int p0), .val (.int p1), .val (.int K.toInt32), .val (.int (2 : Int32)), .val (.ref b61), .val (.ref b69), .val (.int (0 : Int32)), .unset, .unset, .unset] [(.int (3 : Int32)), (.ref b61)])) rfl rfl (hb hby at_143)) ?_
          refine Go.st (S' := T69.setTop (mkF m 145 #[.val (.int p0), .val (.int p1), .val (.int K.toInt32), .val (.int (2 : Int32)), .val (.ref b61), .val (.ref b69), .val (.int (0 : Int32)), .unset, .unset, .unset] [(.int (2 : Int32)), (.int x3)])) (fun _ k_ => XS.iloadN X69.here hx rfl (hb hby at_144) rfl k_) ?_
          by_cases hc145 : x3 < (2 : Int32)
          · skip
            refine Go.st (S' := T69.setTop (mkF m 148 #[.val (.int p0), .val (.int p1), .val (.int K.toInt32), .val (.int (2 : Int32)), .val (.ref b61), .val (.ref b69), .val (.int (0 : Int32)), .unset, .unset, .unset] [])) (fun _ k_ => XS.icmpNo X69.here hx rfl (hb hby at_145) rfl (tlt hc145).2.1 k_) ?_
            refine Go.st (S' := T69.setTop (mkF m 150 #[.val (.int p0), .val (.int p1), .val (.int K.toInt32), .val (.int (2 : Int32)), .val (.ref b61), .val (.ref b69), .val (.int (0 : Int32)), .unset, .unset, .unset] [(.ref b69)])) (fun _ k_ => XS.aload X69.here hx rfl (hb hby at_148) rfl rfl k_) ?_
            refine Go.st (S' := T69.setTop (mkF m 152 #[.val (.int p0), .val (.int p1), .val (.int K.toInt32), .val (.int (2 : Int32)), .val (.ref b61), .val (.ref b69), .val (.int (0 : Int32)), .unset, .unset, .unset] [(.int (0 : Int32)), (.ref b69)])) (fun _ k_ => XS.iload X69.here hx rfl (hb hby at_150) rfl k_) ?_
            refine Go.st (S' := T69.setTop (mkF m 154 #[.val (.int p0), .val (.int p1), .val (.int K.toInt32), .val (.int (2 : Int32)), .val (.ref b61), .val (.ref b69), .val (.int (0 : Int32)), .unset, .unset, .unset] [(.ref b61), (.int (0 : Int32)), (.ref b69)])) (fun _ k_ => XS.aload X69.here hx rfl (hb hby at_152) rfl rfl k_) ?_
            refine Go.st (S' := T69.setTop (mkF m 155 #[.val (.int p0), .val (.int p1), .val (.int K.toInt32), .val (.int (2 : Int32)), .val (.ref b61), .val (.ref b69), .val (.int (0 : Int32)), .unset, .unset, .unset] [(.int (3 : Int32)), (.ref b61), (.int (0 : Int32)), (.ref b69)])) (fun _ k_ => XS.iconst X69.here hx rfl (hb hby at_154) k_) ?_
            refine Go.st (S' := T69.setTop (mkF m 156 #[.val (.int p0), .val (.int p1), .val (.int K.toInt32), .val (.int (2 : Int32)), .val (.ref b61), .val (.ref b69), .val (.int (0 : Int32)), .unset, .unset, .unset] [(.int x3), (.int (0 : Int32)), (.ref b69)])) (A_b61.load X69 hx hZ e69 (j := (3 : Int32)) (v := x3) (by decide) rfl (g := (mkF m 155 #[.val (.int p0), .val (.int p1), .val (.int K.toInt32), .val (.int (2 : Int32)), .val (.ref b61), .val (.ref b69), .val (.int (0 : Int32)), .unset, .unset, .unset] [(.int (3 : Int32)), (.ref b61), (.int (0 : Int32)), (.ref b69)])) rfl rfl (hb hby at_155)) ?_
            obtain ⟨T114, h114, X114, e114, W114, A114, st114⟩ := A_b69.store X69 hx hZ e69 (j := (0 : Int32)) (by decide) (Nat.le_of_ble_eq_true rfl) (g := (mkF m 156 #[.val (.int p0), .val (.int p1), .val (.int K.toInt32), .val (.int (2 : Int32)), .val (.ref b61), .val (.ref b69), .val (.int (0 : Int32)), .unset, .unset, .unset] [(.int x3), (.int (0 : Int32)), (.ref b69)])) rfl rfl (hb hby at_156)
            replace A_b69 : Ai Z h114 b69 .int [x3, (0 : Int32), (0 : Int32), (0 : Int32)] := A114
            replace A_b61 := A_b61.other W114 ne_b61_b69
            replace Z0 := Nat.le_trans Z0 (Keep.of_wr W114).1
            have N114 := Fr.snoc X114 N68 g_b69
            refine Go.st (S' := T114.setTop (mkF m 157 #[.val (.int p0), .val (.int p1), .val (.int K.toInt32), .val (.int (2 : Int32)), .val (.ref b61), .val (.ref b69), .val (.int (0 : Int32)), .unset, .unset, .unset] [])) (st114) ?_
            refine Go.st (S' := T114.setTop (mkF m 160 #[.val (.int p0), .val (.int p1), .val (.int K.toInt32), .val (.int (2 : Int32)), .val (.ref b61), .val (.ref b69), .val (.int ((0 : Int32) + (1 : Int32))), .unset, .unset, .unset] [])) (fun _ k_ => XS.iinc X114.here hx rfl (hb hby at_157) rfl (l' := #[.val (.int p0), .val (.int p1), .val (.int K.toInt32), .val (.int (2 : Int32)), .val (.ref b61), .val (.ref b69), .val (.int ((0 : Int32) + (1 : Int32))), .unset, .unset, .unset]) rfl k_) ?_
            rw [show ((0 : Int32) + (1 : Int32)) = (1 : Int32) from rfl]
            have hf2 : own_okb [x3] = true ∧ ([x3] : List Int32).length = 2 := by
              have q := hf
              rw [List.filter_cons, List.filter_cons, List.filter_cons, List.filter_cons, List.filter_nil] at q
              simp only [show (2 : Nat).toInt32 = (2 : Int32) from rfl, hc85, hc105, hc125, hc145, decide_true, decide_false, if_true, if_false, Bool.false_eq_true] at q
              exact q
            exact absurd hf2.2 (by show ¬ (1 = 2); decide)
          · skip
            refine Go.st (S' := T69.setTop (mkF m 160 #[.val (.int p0), .val (.int p1), .val (.int K.toInt32), .val (.int (2 : Int32)), .val (.ref b61), .val (.ref b69), .val (.int (0 : Int32)), .unset, .unset, .unset] [])) (fun _ k_ => XS.icmpYes X69.here hx rfl (pc0 := 145) (pc' := 160) rfl (hb hby at_145) rfl (flt hc145).2.1 (by decide) (by decide) k_) ?_
            have hf2 : own_okb [] = true ∧ ([] : List Int32).length = 2 := by
              have q := hf
              rw [List.filter_cons, List.filter_cons, List.filter_cons, List.filter_cons, List.filter_nil] at q
              simp only [show (2 : Nat).toInt32 = (2 : Int32) from rfl, hc85, hc105, hc125, hc145, decide_true, decide_false, if_true, if_false, Bool.false_eq_true] at q
              exact q
            exact absurd hf2.2 (by show ¬ (0 = 2); decide)
  · skip
    have hf := hfil 3 (by decide)
    refine Go.st (S' := T69.setTop (mkF m 82 #[.val (.int p0), .val (.int p1), .val (.int K.toInt32), .val (.int (3 : Int32)), .val (.ref b61), .val (.ref b69), .val (.int (0 : Int32)), .unset, .unset, .unset] [(.ref b61)])) (fun _ k_ => XS.aload X69.here hx rfl (hb hby at_80) rfl rfl k_) ?_
    refine Go.st (S' := T69.setTop (mkF m 83 #[.val (.int p0), .val (.int p1), .val (.int K.toInt32), .val (.int (3 : Int32)), .val (.ref b61), .val (.ref b69), .val (.int (0 : Int32)), .unset, .unset, .unset] [(.int (0 : Int32)), (.ref b61)])) (fun _ k_ => XS.iconst X69.here hx rfl (hb hby at_82) k_) ?_
    refine Go.st (S' := T69.setTop (mkF m 84 #[.val (.int p0), .val (.int p1), .val (.int K.toInt32), .val (.int (3 : Int32)), .val (.ref b61), .val (.ref b69), .val (.int (0 : Int32)), .unset, .unset, .unset] [(.int x0)])) (A_b61.load X69 hx hZ e69 (j := (0 : Int32)) (v := x0) (by decide) rfl (g := (mkF m 83 #[.val (.int p0), .val (.int p1), .val (.int K.toInt32), .val (.int (3 : Int32)), .val (.ref b61), .val (.ref b69), .val (.int (0 : Int32)), .unset, .unset, .unset] [(.int (0 : Int32)), (.ref b61)])) rfl rfl (hb hby at_83)) ?_
    refine Go.st (S' := T69.setTop (mkF m 85 #[.val (.int p0), .val (.int p1), .val (.int K.toInt32), .val (.int (3 : Int32)), .val (.ref b61), .val (.ref b69), .val (.int (0 : Int32)), .unset, .unset, .unset] [(.int (3 : Int32)), (.int x0)])) (fun _ k_ => XS.iloadN X69.here hx rfl (hb hby at_84) rfl k_) ?_
    by_cases hc85 : x0 < (3 : Int32)
    · skip
      refine Go.st (S' := T69.setTop (mkF m 88 #[.val (.int p0), .val (.int p1), .val (.int K.toInt32), .val (.int (3 : Int32)), .val (.ref b61), .val (.ref b69), .val (.int (0 : Int32)), .unset, .unset, .unset] [])) (fun _ k_ => XS.icmpNo X69.here hx rfl (hb hby at_85) rfl (tlt hc85).2.1 k_) ?_
      refine Go.st (S' := T69.setTop (mkF m 90 #[.val (.int p0), .val (.int p1), .val (.int K.toInt32), .val (.int (3 : Int32)), .val (.ref b61), .val (.ref b69), .val (.int (0 : Int32)), .unset, .unset, .unset] [(.ref b69)])) (fun _ k_ => XS.aload X69.here hx rfl (hb hby at_88) rfl rfl k_) ?_
      refine Go.st (S' := T69.setTop (mkF m 92 #[.val (.int p0), .val (.int p1), .val (.int K.toInt32), .val (.int (3 : Int32)), .val (.ref b61), .val (.ref b69), .val (.int (0 : Int32)), .unset, .unset, .unset] [(.int (0 : Int32)), (.ref b69)])) (fun _ k_ => XS.iload X69.here hx rfl (hb hby at_90) rfl k_) ?_
      refine Go.st (S' := T69.setTop (mkF m 94 #[.val (.int p0), .val (.int p1), .val (.int K.toInt32), .val (.int (3 : Int32)), .val (.ref b61), .val (.ref b69), .val (.int (0 : Int32)), .unset, .unset, .unset] [(.ref b61), (.int (0 : Int32)), (.ref b69)])) (fun _ k_ => XS.aload X69.here hx rfl (hb hby at_92) rfl rfl k_) ?_
      refine Go.st (S' := T69.setTop (mkF m 95 #[.val (.int p0), .val (.int p1), .val (.int K.toInt32), .val (.int (3 : Int32)), .val (.ref b61), .val (.ref b69), .val (.int (0 : Int32)), .unset, .unset, .unset] [(.int (0 : Int32)), (.ref b61), (.int (0 : Int32)), (.ref b69)])) (fun _ k_ => XS.iconst X69.here hx rfl (hb hby at_94) k_) ?_
      refine Go.st (S' := T69.setTop (mkF m 96 #[.val (.int p0), .val (.int p1), .val (.int K.toInt32), .val (.int (3 : Int32)), .val (.ref b61), .val (.ref b69), .val (.int (0 : Int32)), .unset, .unset, .unset] [(.int x0), (.int (0 : Int32)), (.ref b69)])) (A_b61.load X69 hx hZ e69 (j := (0 : Int32)) (v := x0) (by decide) rfl (g := (mkF m 95 #[.val (.int p0), .val (.int p1), .val (.int K.toInt32), .val (.int (3 : Int32)), .val (.ref b61), .val (.ref b69), .val (.int (0 : Int32)), .unset, .unset, .unset] [(.int (0 : Int32)), (.ref b61), (.int (0 : Int32)), (.ref b69)])) rfl rfl (hb hby at_95)) ?_
      obtain ⟨T115, h115, X115, e115, W115, A115, st115⟩ := A_b69.store X69 hx hZ e69 (j := (0 : Int32)) (by decide) (Nat.le_of_ble_eq_true rfl) (g := (mkF m 96 #[.val (.int p0), .val (.int p1), .val (.int K.toInt32), .val (.int (3 : Int32)), .val (.ref b61), .val (.ref b69), .val (.int (0 : Int32)), .unset, .unset, .unset] [(.int x0), (.int (0 : Int32)), (.ref b69)])) rfl rfl (hb hby at_96)
      replace A_b69 : Ai Z h115 b69 .int [x0, (0 : Int32), (0 : Int32), (0 : Int32)] := A115
      replace A_b61 := A_b61.other W115 ne_b61_b69
      replace Z0 := Nat.le_trans Z0 (Keep.of_wr W115).1
      have N115 := Fr.snoc X115 N68 g_b69
      refine Go.st (S' := T115.setTop (mkF m 97 #[.val (.int p0), .val (.int p1), .val (.int K.toInt32), .val (.int (3 : Int32)), .val (.ref b61), .val (.ref b69), .val (.int (0 : Int32)), .unset, .unset, .unset] [])) (st115) ?_
      refine Go.st (S' := T115.setTop (mkF m 100 #[.val (.int p0), .val (.int p1), .val (.int K.toInt32), .val (.int (3 : Int32)), .val (.ref b61), .val (.ref b69), .val (.int ((0 : Int32) + (1 : Int32))), .unset, .unset, .unset] [])) (fun _ k_ => XS.iinc X115.here hx rfl (hb hby at_97) rfl (l' := #[.val (.int p0), .val (.int p1), .val (.int K.toInt32), .val (.int (3 : Int32)), .val (.ref b61), .val (.ref b69), .val (.int ((0 : Int32) + (1 : Int32))), .unset, .unset, .unset]) rfl k_) ?_
      rw [show ((0 : Int32) + (1 : Int32)) = (1 : Int32) from rfl]
      refine Go.st (S' := T115.setTop (mkF m 102 #[.val (.int p0), .val (.int p1), .val (.int K.toInt32), .val (.int (3 : Int32)), .val (.ref b61), .val (.ref b69), .val (.int (1 : Int32)), .unset, .unset, .unset] [(.ref b61)])) (fun _ k_ => XS.aload X115.here hx rfl (hb hby at_100) rfl rfl k_) ?_
      refine Go.st (S' := T115.setTop (mkF m 103 #[.val (.int p0), .val (.int p1), .val (.int K.toInt32), .val (.int (3 : Int32)), .val (.ref b61), .val (.ref b69), .val (.int (1 : Int32)), .unset, .unset, .unset] [(.int (1 : Int32)), (.ref b61)])) (fun _ k_ => XS.iconst X115.here hx rfl (hb hby at_102) k_) ?_
      refine Go.st (S' := T115.setTop (mkF m 104 #[.val (.int p0), .val (.int p1), .val (.int K.toInt32), .val (.int (3 : Int32)), .val (.ref b61), .val (.ref b69), .val (.int (1 : Int32)), .unset, .unset, .unset] [(.int x1)])) (A_b61.load X115 hx hZ e115 (j := (1 : Int32)) (v := x1) (by decide) rfl (g := (mkF m 103 #[.val (.int p0), .val (.int p1), .val (.int K.toInt32), .val (.int (3 : Int32)), .val (.ref b61), .val (.ref b69), .val (.int (1 : Int32)), .unset, .unset, .unset] [(.int (1 : Int32)), (.ref b61)])) rfl rfl (hb hby at_103)) ?_
      refine Go.st (S' := T115.setTop (mkF m 105 #[.val (.int p0), .val (.int p1), .val (.int K.toInt32), .val (.int (3 : Int32)), .val (.ref b61), .val (.ref b69), .val (.int (1 : Int32)), .unset, .unset, .unset] [(.int (3 : Int32)), (.int x1)])) (fun _ k_ => XS.iloadN X115.here hx rfl (hb hby at_104) rfl k_) ?_
      by_cases hc105 : x1 < (3 : Int32)
      · skip
        refine Go.st (S' := T115.setTop (mkF m 108 #[.val (.int p0), .val (.int p1), .val (.int K.toInt32), .val (.int (3 : Int32)), .val (.ref b61), .val (.ref b69), .val (.int (1 : Int32)), .unset, .unset, .unset] [])) (fun _ k_ => XS.icmpNo X115.here hx rfl (hb hby at_105) rfl (tlt hc105).2.1 k_) ?_
        refine Go.st (S' := T115.setTop (mkF m 110 #[.val (.int p0), .val (.int p1), .val (.int K.toInt32), .val (.int (3 : Int32)), .val (.ref b61), .val (.ref b69), .val (.int (1 : Int32)), .unset, .unset, .unset] [(.ref b69)])) (fun _ k_ => XS.aload X115.here hx rfl (hb hby at_108) rfl rfl k_) ?_
        refine Go.st (S' := T115.setTop (mkF m 112 #[.val (.int p0), .val (.int p1), .val (.int K.toInt32), .val (.int (3 : Int32)), .val (.ref b61), .val (.ref b69), .val (.int (1 : Int32)), .unset, .unset, .unset] [(.int (1 : Int32)), (.ref b69)])) (fun _ k_ => XS.iload X115.here hx rfl (hb hby at_110) rfl k_) ?_
        refine Go.st (S' := T115.setTop (mkF m 114 #[.val (.int p0), .val (.int p1), .val (.int K.toInt32), .val (.int (3 : Int32)), .val (.ref b61), .val (.ref b69), .val (.int (1 : Int32)), .unset, .unset, .unset] [(.ref b61), (.int (1 : Int32)), (.ref b69)])) (fun _ k_ => XS.aload X115.here hx rfl (hb hby at_112) rfl rfl k_) ?_
        refine Go.st (S' := T115.setTop (mkF m 115 #[.val (.int p0), .val (.int p1), .val (.int K.toInt32), .val (.int (3 : Int32)), .val (.ref b61), .val (.ref b69), .val (.int (1 : Int32)), .unset, .unset, .unset] [(.int (1 : Int32)), (.ref b61), (.int (1 : Int32)), (.ref b69)])) (fun _ k_ => XS.iconst X115.here hx rfl (hb hby at_114) k_) ?_
        refine Go.st (S' := T115.setTop (mkF m 116 #[.val (.int p0), .val (.int p1), .val (.int K.toInt32), .val (.int (3 : Int32)), .val (.ref b61), .val (.ref b69), .val (.int (1 : Int32)), .unset, .unset, .unset] [(.int x1), (.int (1 : Int32)), (.ref b69)])) (A_b61.load X115 hx hZ e115 (j := (1 : Int32)) (v := x1) (by decide) rfl (g := (mkF m 115 #[.val (.int p0), .val (.int p1), .val (.int K.toInt32), .val (.int (3 : Int32)), .val (.ref b61), .val (.ref b69), .val (.int (1 : Int32)), .unset, .unset, .unset] [(.int (1 : Int32)), (.ref b61), (.int (1 : Int32)), (.ref b69)])) rfl rfl (hb hby at_115)) ?_
        obtain ⟨T116, h116, X116, e116, W116, A116, st116⟩ := A_b69.store X115 hx hZ e115 (j := (1 : Int32)) (by decide) (Nat.le_of_ble_eq_true rfl) (g := (mkF m 116 #[.val (.int p0), .val (.int p1), .val (.int K.toInt32), .val (.int (3 : Int32)), .val (.ref b61), .val (.ref b69), .val (.int (1 : Int32)), .unset, .unset, .unset] [(.int x1), (.int (1 : Int32)), (.ref b69)])) rfl rfl (hb hby at_116)
        replace A_b69 : Ai Z h116 b69 .int [x0, x1, (0 : Int32), (0 : Int32)] := A116
        replace A_b61 := A_b61.other W116 ne_b61_b69
        replace Z0 := Nat.le_trans Z0 (Keep.of_wr W116).1
        have N116 := Fr.snoc X116 N115 g_b69
        refine Go.st (S' := T116.setTop (mkF m 117 #[.val (.int p0), .val (.int p1), .val (.int K.toInt32), .val (.int (3 : Int32)), .val (.ref b61), .val (.ref b69), .val (.int (1 : Int32)), .unset, .unset, .unset] [])) (st116) ?_
        refine Go.st (S' := T116.setTop (mkF m 120 #[.val (.int p0), .val (.int p1), .val (.int K.toInt32), .val (.int (3 : Int32)), .val (.ref b61), .val (.ref b69), .val (.int ((1 : Int32) + (1 : Int32))), .unset, .unset, .unset] [])) (fun _ k_ => XS.iinc X116.here hx rfl (hb hby at_117) rfl (l' := #[.val (.int p0), .val (.int p1), .val (.int K.toInt32), .val (.int (3 : Int32)), .val (.ref b61), .val (.ref b69), .val (.int ((1 : Int32) + (1 : Int32))), .unset, .unset, .unset]) rfl k_) ?_
        rw [show ((1 : Int32) + (1 : Int32)) = (2 : Int32) from rfl]
        refine Go.st (S' := T116.setTop (mkF m 122 #[.val (.int p0), .val (.int p1), .val (.int K.toInt32), .val (.int (3 : Int32)), .val (.ref b61), .val (.ref b69), .val (.int (2 : Int32)), .unset, .unset, .unset] [(.ref b61)])) (fun _ k_ => XS.aload X116.here hx rfl (hb hby at_120) rfl rfl k_) ?_
        refine Go.st (S' := T116.setTop (mkF m 123 #[.val (.int p0), .val (.int p1), .val (.int K.toInt32), .val (.int (3 : Int32)), .val (.ref b61), .val (.ref b69), .val (.int (2 : Int32)), .unset, .unset, .unset] [(.int (2 : Int32)), (.ref b61)])) (fun _ k_ => XS.iconst X116.here hx rfl (hb hby at_122) k_) ?_
        refine Go.st (S' := T116.setTop (mkF m 124 #[.val (.int p0), .val (.int p1), .val (.int K.toInt32), .val (.int (3 : Int32)), .val (.ref b61), .val (.ref b69), .val (.int (2 : Int32)), .unset, .unset, .unset] [(.int x2)])) (A_b61.load X116 hx hZ e116 (j := (2 : Int32)) (v := x2) (by decide) rfl (g := (mkF m 123 #[.val (.int p0), .val (.int p1), .val (.int K.toInt32), .val (.int (3 : Int32)), .val (.ref b61), .val (.ref b69), .val (.int (2 : Int32)), .unset, .unset, .unset] [(.int (2 : Int32)), (.ref b61)])) rfl rfl (hb hby at_123)) ?_
        refine Go.st (S' := T116.setTop (mkF m 125 #[.val (.int p0), .val (.int p1), .val (.int K.toInt32), .val (.int (3 : Int32)), .val (.ref b61), .val (.ref b69), .val (.int (2 : Int32)), .unset, .unset, .unset] [(.int (3 : Int32)), (.int x2)])) (fun _ k_ => XS.iloadN X116.here hx rfl (hb hby at_124) rfl k_) ?_
        by_cases hc125 : x2 < (3 : Int32)
        · skip
          refine Go.st (S' := T116.setTop (mkF m 128 #[.val (.int p0), .val (.int p1), .val (.int K.toInt32), .val (.int (3 : Int32)), .val (.ref b61), .val (.ref b69), .val (.int (2 : Int32)), .unset, .unset, .unset] [])) (fun _ k_ => XS.icmpNo X116.here hx rfl (hb hby at_125) rfl (tlt hc125).2.1 k_) ?_
          refine Go.st (S' := T116.setTop (mkF m 130 #[.val (.int p0), .val (.int p1), .val (.int K.toInt32), .val (.int (3 : Int32)), .val (.ref b61), .val (.ref b69), .val (.int (2 : Int32)), .unset, .unset, .unset] [(.ref b69)])) (fun _ k_ => XS.aload X116.here hx rfl (hb hby at_128) rfl rfl k_) ?_
          refine Go.st (S' := T116.setTop (mkF m 132 #[.val (.int p0), .val (.int p1), .val (.int K.toInt32), .val (.int (3 : Int32)), .val (.ref b61), .val (.ref b69), .val (.int (2 : Int32)), .unset, .unset, .unset] [(.int (2 : Int32)), (.ref b69)])) (fun _ k_ => XS.iload X116.here hx rfl (hb hby at_130) rfl k_) ?_
          refine Go.st (S' := T116.setTop (mkF m 134 #[.val (.int p0), .val (.int p1), .val (.int K.toInt32), .val (.int (3 : Int32)), .val (.ref b61), .val (.ref b69), .val (.int (2 : Int32)), .unset, .unset, .unset] [(.ref b61), (.int (2 : Int32)), (.ref b69)])) (fun _ k_ => XS.aload X116.here hx rfl (hb hby at_132) rfl rfl k_) ?_
          refine Go.st (S' := T116.setTop (mkF m 135 #[.val (.int p0), .val (.int p1), .val (.int K.toInt32), .val (.int (3 : Int32)), .val (.ref b61), .val (.ref b69), .val (.int (2 : Int32)), .unset, .unset, .unset] [(.int (2 : Int32)), (.ref b61), (.int (2 : Int32)), (.ref b69)])) (fun _ k_ => XS.iconst X116.here hx rfl (hb hby at_134) k_) ?_
          refine Go.st (S' := T116.setTop (mkF m 136 #[.val (.int p0), .val (.int p1), .val (.int K.toInt32), .val (.int (3 : Int32)), .val (.ref b61), .val (.ref b69), .val (.int (2 : Int32)), .unset, .unset, .unset] [(.int x2), (.int (2 : Int32)), (.ref b69)])) (A_b61.load X116 hx hZ e116 (j := (2 : Int32)) (v := x2) (by decide) rfl (g := (mkF m 135 #[.val (.int p0), .val (.int p1), .val (.int K.toInt32), .val (.int (3 : Int32)), .val (.ref b61), .val (.ref b69), .val (.int (2 : Int32)), .unset, .unset, .unset] [(.int (2 : Int32)), (.ref b61), (.int (2 : Int32)), (.ref b69)])) rfl rfl (hb hby at_135)) ?_
          obtain ⟨T117, h117, X117, e117, W117, A117, st117⟩ := A_b69.store X116 hx hZ e116 (j := (2 : Int32)) (by decide) (Nat.le_of_ble_eq_true rfl) (g := (mkF m 136 #[.val (.int p0), .val (.int p1), .val (.int K.toInt32), .val (.int (3 : Int32)), .val (.ref b61), .val (.ref b69), .val (.int (2 : Int32)), .unset, .unset, .unset] [(.int x2), (.int (2 : Int32)), (.ref b69)])) rfl rfl (hb hby at_136)
          replace A_b69 : Ai Z h117 b69 .int [x0, x1, x2, (0 : Int32)] := A117
          replace A_b61 := A_b61.other W117 ne_b61_b69
          replace Z0 := Nat.le_trans Z0 (Keep.of_wr W117).1
          have N117 := Fr.snoc X117 N116 g_b69
          refine Go.st (S' := T117.setTop (mkF m 137 #[.val (.int p0), .val (.int p1), .val (.int K.toInt32), .val (.int (3 : Int32)), .val (.ref b61), .val (.ref b69), .val (.int (2 : Int32)), .unset, .unset, .unset] [])) (st117) ?_
          refine Go.st (S' := T117.setTop (mkF m 140 #[.val (.int p0), .val (.int p1), .val (.int K.toInt32), .val (.int (3 : Int32)), .val (.ref b61), .val (.ref b69), .val (.int ((2 : Int32) + (1 : Int32))), .unset, .unset, .unset] [])) (fun _ k_ => XS.iinc X117.here hx rfl (hb hby at_137) rfl (l' := #[.val (.int p0), .val (.int p1), .val (.int K.toInt32), .val (.int (3 : Int32)), .val (.ref b61), .val (.ref b69), .val (.int ((2 : Int32) + (1 : Int32))), .unset, .unset, .unset]) rfl k_) ?_
          rw [show ((2 : Int32) + (1 : Int32)) = (3 : Int32) from rfl]
          refine Go.st (S' := T117.setTop (mkF m 142 #[.val (.int p0), .val (.int p1), .val (.int K.toInt32), .val (.int (3 : Int32)), .val (.ref b61), .val (.ref b69), .val (.int (3 : Int32)), .unset, .unset, .unset] [(.ref b61)])) (fun _ k_ => XS.aload X117.here hx rfl (hb hby at_140) rfl rfl k_) ?_
          refine Go.st (S' := T117.setTop (mkF m 143 #[.val (.int p0), .val (.int p1), .val (.int K.toInt32), .val (.int (3 : Int32)), .val (.ref b61), .val (.ref b69), .val (.int (3 : Int32)), .unset, .unset, .unset] [(.int (3 : Int32)), (.ref b61)])) (fun _ k_ => XS.iconst X117.here hx rfl (hb hby at_142) k_) ?_
          refine Go.st (S' := T117.setTop (mkF m 144 #[.val (.int p0), .val (.int p1), .val (.int K.toInt32), .val (.int (3 : Int32)), .val (.ref b61), .val (.ref b69), .val (.int (3 : Int32)), .unset, .unset, .unset] [(.int x3)])) (A_b61.load X117 hx hZ e117 (j := (3 : Int32)) (v := x3) (by decide) rfl (g := (mkF m 143 #[.val (.int p0), .val (.int p1), .val (.int K.toInt32), .val (.int (3 : Int32)), .val (.ref b61), .val (.ref b69), .val (.int (3 : Int32)), .unset, .unset, .unset] [(.int (3 : Int32)), (.ref b61)])) rfl rfl (hb hby at_143)) ?_
          refine Go.st (S' := T117.setTop (mkF m 145 #[.val (.int p0), .val (.int p1), .val (.int K.toInt32), .val (.int (3 : Int32)), .val (.ref b61), .val (.ref b69), .val (.int (3 : Int32)), .unset, .unset, .unset] [(.int (3 : Int32)), (.int x3)])) (fun _ k_ => XS.iloadN X117.here hx rfl (hb hby at_144) rfl k_) ?_
          by_cases hc145 : x3 < (3 : Int32)
          · skip
            refine Go.st (S' := T117.setTop (mkF m 148 #[.val (.int p0), .val (.int p1), .val (.int K.toInt32), .val (.int (3 : Int32)), .val (.ref b61), .val (.ref b69), .val (.int (3 : Int32)), .unset, .unset, .unset] [])) (fun _ k_ => XS.icmpNo X117.here hx rfl (hb hby at_145) rfl (tlt hc145).2.1 k_) ?_
            refine Go.st (S' := T117.setTop (mkF m 150 #[.val (.int p0), .val (.int p1), .val (.int K.toInt32), .val (.int (3 : Int32)), .val (.ref b61), .val (.ref b69), .val (.int (3 : Int32)), .unset, .unset, .unset] [(.ref b69)])) (fun _ k_ => XS.aload X117.here hx rfl (hb hby at_148) rfl rfl k_) ?_
            refine Go.st (S' := T117.setTop (mkF m 152 #[.val (.int p0), .val (.int p1), .val (.int K.toInt32), .val (.int (3 : Int32)), .val (.ref b61), .val (.ref b69), .val (.int (3 : Int32)), .unset, .unset, .unset] [(.int (3 : Int32)), (.ref b69)])) (fun _ k_ => XS.iload X117.here hx rfl (hb hby at_150) rfl k_) ?_
            refine Go.st (S' := T117.setTop (mkF m 154 #[.val (.int p0), .val (.int p1), .val (.int K.toInt32), .val (.int (3 : Int32)), .val (.ref b61), .val (.ref b69), .val (.int (3 : Int32)), .unset, .unset, .unset] [(.ref b61), (.int (3 : Int32)), (.ref b69)])) (fun _ k_ => XS.aload X117.here hx rfl (hb hby at_152) rfl rfl k_) ?_
            refine Go.st (S' := T117.setTop (mkF m 155 #[.val (.int p0), .val (.int p1), .val (.int K.toInt32), .val (.int (3 : Int32)), .val (.ref b61), .val (.ref b69), .val (.int (3 : Int32)), .unset, .unset, .unset] [(.int (3 : Int32)), (.ref b61), (.int (3 : Int32)), (.ref b69)])) (fun _ k_ => XS.iconst X117.here hx rfl (hb hby at_154) k_) ?_
            refine Go.st (S' := T117.setTop (mkF m 156 #[.val (.int p0), .val (.int p1), .val (.int K.toInt32), .val (.int (3 : Int32)), .val (.ref b61), .val (.ref b69), .val (.int (3 : Int32)), .unset, .unset, .unset] [(.int x3), (.int (3 : Int32)), (.ref b69)])) (A_b61.load X117 hx hZ e117 (j := (3 : Int32)) (v := x3) (by decide) rfl (g := (mkF m 155 #[.val (.int p0), .val (.int p1), .val (.int K.toInt32), .val (.int (3 : Int32)), .val (.ref b61), .val (.ref b69), .val (.int (3 : Int32)), .unset, .unset, .unset] [(.int (3 : Int32)), (.ref b61), (.int (3 : Int32)), (.ref b69)])) rfl rfl (hb hby at_155)) ?_
            obtain ⟨T118, h118, X118, e118, W118, A118, st118⟩ := A_b69.store X117 hx hZ e117 (j := (3 : Int32)) (by decide) (Nat.le_of_ble_eq_true rfl) (g := (mkF m 156 #[.val (.int p0), .val (.int p1), .val (.int K.toInt32), .val (.int (3 : Int32)), .val (.ref b61), .val (.ref b69), .val (.int (3 : Int32)), .unset, .unset, .unset] [(.int x3), (.int (3 : Int32)), (.ref b69)])) rfl rfl (hb hby at_156)
            replace A_b69 : Ai Z h118 b69 .int [x0, x1, x2, x3] := A118
            replace A_b61 := A_b61.other W118 ne_b61_b69
            replace Z0 := Nat.le_trans Z0 (Keep.of_wr W118).1
            have N118 := Fr.snoc X118 N117 g_b69
            refine Go.st (S' := T118.setTop (mkF m 157 #[.val (.int p0), .val (.int p1), .val (.int K.toInt32), .val (.int (3 : Int32)), .val (.ref b61), .val (.ref b69), .val (.int (3 : Int32)), .unset, .unset, .unset] [])) (st118) ?_
            refine Go.st (S' := T118.setTop (mkF m 160 #[.val (.int p0), .val (.int p1), .val (.int K.toInt32), .val (.int (3 : Int32)), .val (.ref b61), .val (.ref b69), .val (.int ((3 : Int32) + (1 : Int32))), .unset, .unset, .unset] [])) (fun _ k_ => XS.iinc X118.here hx rfl (hb hby at_157) rfl (l' := #[.val (.int p0), .val (.int p1), .val (.int K.toInt32), .val (.int (3 : Int32)), .val (.ref b61), .val (.ref b69), .val (.int ((3 : Int32) + (1 : Int32))), .unset, .unset, .unset]) rfl k_) ?_
            rw [show ((3 : Int32) + (1 : Int32)) = (4 : Int32) from rfl]
            have hf2 : own_okb [x0, x1, x2, x3] = true ∧ ([x0, x1, x2, x3] : List Int32).length = 3 := by
              have q := hf
              rw [List.filter_cons, List.filter_cons, List.filter_cons, List.filter_cons, List.filter_nil] at q
              simp only [show (3 : Nat).toInt32 = (3 : Int32) from rfl, hc85, hc105, hc125, hc145, decide_true, decide_false, if_true, if_false, Bool.false_eq_true] at q
              exact q
            exact absurd hf2.2 (by show ¬ (4 = 3); decide)
          · skip
            refine Go.st (S' := T117.setTop (mkF m 160 #[.val (.int p0), .val (.int p1), .val (.int K.toInt32), .val (.int (3 : Int32)), .val (.ref b61), .val (.ref b69), .val (.int (3 : Int32)), .unset, .unset, .unset] [])) (fun _ k_ => XS.icmpYes X117.here hx rfl (pc0 := 145) (pc' := 160) rfl (hb hby at_145) rfl (flt hc145).2.1 (by decide) (by decide) k_) ?_
            have hf2 : own_okb [x0, x1, x2] = true ∧ ([x0, x1, x2] : List Int32).length = 3 := by
              have q := hf
              rw [List.filter_cons, List.filter_cons, List.filter_cons, List.filter_cons, List.filter_nil] at q
              simp only [show (3 : Nat).toInt32 = (3 : Int32) from rfl, hc85, hc105, hc125, hc145, decide_true, decide_false, if_true, if_false, Bool.false_eq_true] at q
              exact q
            exact J3 _ _ _ _ _ (X117.more (by decide) (by decide)) e117 N117 Z0 b61 b69 x0 x1 x2 (0 : Int32) A_b69 g_b69 (own_ok_of hf2.1)
        · skip
          refine Go.st (S' := T116.setTop (mkF m 140 #[.val (.int p0), .val (.int p1), .val (.int K.toInt32), .val (.int (3 : Int32)), .val (.ref b61), .val (.ref b69), .val (.int (2 : Int32)), .unset, .unset, .unset] [])) (fun _ k_ => XS.icmpYes X116.here hx rfl (pc0 := 125) (pc' := 140) rfl (hb hby at_125) rfl (flt hc125).2.1 (by decide) (by decide) k_) ?_
          refine Go.st (S' := T116.setTop (mkF m 142 #[.val (.int p0), .val (.int p1), .val (.int K.toInt32), .val (.int (3 : Int32)), .val (.ref b61), .val (.ref b69), .val (.int (2 : Int32)), .unset, .unset, .unset] [(.ref b61)])) (fun _ k_ => XS.aload X116.here hx rfl (hb hby at_140) rfl rfl k_) ?_
          refine Go.st (S' := T116.setTop (mkF m 143 #[.val (.int p0), .val (.int p1), .val (.int K.toInt32), .val (.int (3 : Int32)), .val (.ref b61), .val (.ref b69), .val (.int (2 : Int32)), .unset, .unset, .unset] [(.int (3 : Int32)), (.ref b61)])) (fun _ k_ => XS.iconst X116.here hx rfl (hb hby at_142) k_) ?_
          refine Go.st (S' := T116.setTop (mkF m 144 #[.val (.int p0), .val (.int p1), .val (.int K.toInt32), .val (.int (3 : Int32)), .val (.ref b61), .val (.ref b69), .val (.int (2 : Int32)), .unset, .unset, .unset] [(.int x3)])) (A_b61.load X116 hx hZ e116 (j := (3 : Int32)) (v := x3) (by decide) rfl (g := (mkF m 143 #[.val (.int p0), .val (.int p1), .val (.int K.toInt32), .val (.int (3 : Int32)), .val (.ref b61), .val (.ref b69), .val (.int (2 : Int32)), .unset, .unset, .unset] [(.int (3 : Int32)), (.ref b61)])) rfl rfl (hb hby at_143)) ?_
          refine Go.st (S' := T116.setTop (mkF m 145 #[.val (.int p0), .val (.int p1), .val (.int K.toInt32), .val (.int (3 : Int32)), .val (.ref b61), .val (.ref b69), .val (.int (2 : Int32)), .unset, .unset, .unset] [(.int (3 : Int32)), (.int x3)])) (fun _ k_ => XS.iloadN X116.here hx rfl (hb hby at_144) rfl k_) ?_
          by_cases hc145 : x3 < (3 : Int32)
          · skip
            refine Go.st (S' := T116.setTop (mkF m 148 #[.val (.int p0), .val (.int p1), .val (.int K.toInt32), .val (.int (3 : Int32)), .val (.ref b61), .val (.ref b69), .val (.int (2 : Int32)), .unset, .unset, .unset] [])) (fun _ k_ => XS.icmpNo X116.here hx rfl (hb hby at_145) rfl (tlt hc145).2.1 k_) ?_
            refine Go.st (S' := T116.setTop (mkF m 150 #[.val (.int p0), .val (.int p1), .val (.int K.toInt32), .val (.int (3 : Int32)), .val (.ref b61), .val (.ref b69), .val (.int (2 : Int32)), .unset, .unset, .unset] [(.ref b69)])) (fun _ k_ => XS.aload X116.here hx rfl (hb hby at_148) rfl rfl k_) ?_
            refine Go.st (S' := T116.setTop (mkF m 152 #[.val (.int p0), .val (.int p1), .val (.int K.toInt32), .val (.int (3 : Int32)), .val (.ref b61), .val (.ref b69), .val (.int (2 : Int32)), .unset, .unset, .unset] [(.int (2 : Int32)), (.ref b69)])) (fun _ k_ => XS.iload X116.here hx rfl (hb hby at_150) rfl k_) ?_
            refine Go.st (S' := T116.setTop (mkF m 154 #[.val (.int p0), .val (.int p1), .val (.int K.toInt32), .val (.int (3 : Int32)), .val (.ref b61), .val (.ref b69), .val (.int (2 : Int32)), .unset, .unset, .unset] [(.ref b61), (.int (2 : Int32)), (.ref b69)])) (fun _ k_ => XS.aload X116.here hx rfl (hb hby at_152) rfl rfl k_) ?_
            refine Go.st (S' := T116.setTop (mkF m 155 #[.val (.int p0), .val (.int p1), .val (.int K.toInt32), .val (.int (3 : Int32)), .val (.ref b61), .val (.ref b69), .val (.int (2 : Int32)), .unset, .unset, .unset] [(.int (3 : Int32)), (.ref b61), (.int (2 : Int32)), (.ref b69)])) (fun _ k_ => XS.iconst X116.here hx rfl (hb hby at_154) k_) ?_
            refine Go.st (S' := T116.setTop (mkF m 156 #[.val (.int p0), .val (.int p1), .val (.int K.toInt32), .val (.int (3 : Int32)), .val (.ref b61), .val (.ref b69), .val (.int (2 : Int32)), .unset, .unset, .unset] [(.int x3), (.int (2 : Int32)), (.ref b69)])) (A_b61.load X116 hx hZ e116 (j := (3 : Int32)) (v := x3) (by decide) rfl (g := (mkF m 155 #[.val (.int p0), .val (.int p1), .val (.int K.toInt32), .val (.int (3 : Int32)), .val (.ref b61), .val (.ref b69), .val (.int (2 : Int32)), .unset, .unset, .unset] [(.int (3 : Int32)), (.ref b61), (.int (2 : Int32)), (.ref b69)])) rfl rfl (hb hby at_155)) ?_
            obtain ⟨T119, h119, X119, e119, W119, A119, st119⟩ := A_b69.store X116 hx hZ e116 (j := (2 : Int32)) (by decide) (Nat.le_of_ble_eq_true rfl) (g := (mkF m 156 #[.val (.int p0), .val (.int p1), .val (.int K.toInt32), .val (.int (3 : Int32)), .val (.ref b61), .val (.ref b69), .val (.int (2 : Int32)), .unset, .unset, .unset] [(.int x3), (.int (2 : Int32)), (.ref b69)])) rfl rfl (hb hby at_156)
            replace A_b69 : Ai Z h119 b69 .int [x0, x1, x3, (0 : Int32)] := A119
            replace A_b61 := A_b61.other W119 ne_b61_b69
            replace Z0 := Nat.le_trans Z0 (Keep.of_wr W119).1
            have N119 := Fr.snoc X119 N116 g_b69
            refine Go.st (S' := T119.setTop (mkF m 157 #[.val (.int p0), .val (.int p1), .val (.int K.toInt32), .val (.int (3 : Int32)), .val (.ref b61), .val (.ref b69), .val (.int (2 : Int32)), .unset, .unset, .unset] [])) (st119) ?_
            refine Go.st (S' := T119.setTop (mkF m 160 #[.val (.int p0), .val (.int p1), .val (.int K.toInt32), .val (.int (3 : Int32)), .val (.ref b61), .val (.ref b69), .val (.int ((2 : Int32) + (1 : Int32))), .unset, .unset, .unset] [])) (fun _ k_ => XS.iinc X119.here hx rfl (hb hby at_157) rfl (l' := #[.val (.int p0), .val (.int p1), .val (.int K.toInt32), .val (.int (3 : Int32)), .val (.ref b61), .val (.ref b69), .val (.int ((2 : Int32) + (1 : Int32))), .unset, .unset, .unset]) rfl k_) ?_
            rw [show ((2 : Int32) + (1 : Int32)) = (3 : Int32) from rfl]
            have hf2 : own_okb [x0, x1, x3] = true ∧ ([x0, x1, x3] : List Int32).length = 3 := by
              have q := hf
              rw [List.filter_cons, List.filter_cons, List.filter_cons, List.filter_cons, List.filter_nil] at q
              simp only [show (3 : Nat).toInt32 = (3 : Int32) from rfl, hc85, hc105, hc125, hc145, decide_true, decide_false, if_true, if_false, Bool.false_eq_true] at q
              exact q
            exact J3 _ _ _ _ _ (X119.more (by decide) (by decide)) e119 N119 Z0 b61 b69 x0 x1 x3 (0 : Int32) A_b69 g_b69 (own_ok_of hf2.1)
          · skip
            refine Go.st (S' := T116.setTop (mkF m 160 #[.val (.int p0), .val (.int p1), .val (.int K.toInt32), .val (.int (3 : Int32)), .val (.ref b61), .val (.ref b69), .val (.int (2 : Int32)), .unset, .unset, .unset] [])) (fun _ k_ => XS.icmpYes X116.here hx rfl (pc0 := 145) (pc' := 160) rfl (hb hby at_145) rfl (flt hc145).2.1 (by decide) (by decide) k_) ?_
            have hf2 : own_okb [x0, x1] = true ∧ ([x0, x1] : List Int32).length = 3 := by
              have q := hf
              rw [List.filter_cons, List.filter_cons, List.filter_cons, List.filter_cons, List.filter_nil] at q
              simp only [show (3 : Nat).toInt32 = (3 : Int32) from rfl, hc85, hc105, hc125, hc145, decide_true, decide_false, if_true, if_false, Bool.false_eq_true] at q
              exact q
            exact absurd hf2.2 (by show ¬ (2 = 3); decide)
      · skip
        refine Go.st (S' := T115.setTop (mkF m 120 #[.val (.int p0), .val (.int p1), .val (.int K.toInt32), .val (.int (3 : Int32)), .val (.ref b61), .val (.ref b69), .val (.int (1 : Int32)), .unset, .unset, .unset] [])) (fun _ k_ => XS.icmpYes X115.here hx rfl (pc0 := 105) (pc' := 120) rfl (hb hby at_105) rfl (flt hc105).2.1 (by decide) (by decide) k_) ?_
        refine Go.st (S' := T115.setTop (mkF m 122 #[.val (.int p0), .val (.int p1), .val (.int K.toInt32), .val (.int (3 : Int32)), .val (.ref b61), .val (.ref b69), .val (.int (1 : Int32)), .unset, .unset, .unset] [(.ref b61)])) (fun _ k_ => XS.aload X115.here hx rfl (hb hby at_120) rfl rfl k_) ?_
        refine Go.st (S' := T115.setTop (mkF m 123 #[.val (.int p0), .val (.int p1), .val (.int K.toInt32), .val (.int (3 : Int32)), .val (.ref b61), .val (.ref b69), .val (.int (1 : Int32)), .unset, .unset, .unset] [(.int (2 : Int32)), (.ref b61)])) (fun _ k_ => XS.iconst X115.here hx rfl (hb hby at_122) k_) ?_
        refine Go.st (S' := T115.setTop (mkF m 124 #[.val (.int p0), .val (.int p1), .val (.int K.toInt32), .val (.int (3 : Int32)), .val (.ref b61), .val (.ref b69), .val (.int (1 : Int32)), .unset, .unset, .unset] [(.int x2)])) (A_b61.load X115 hx hZ e115 (j := (2 : Int32)) (v := x2) (by decide) rfl (g := (mkF m 123 #[.val (.int p0), .val (.int p1), .val (.int K.toInt32), .val (.int (3 : Int32)), .val (.ref b61), .val (.ref b69), .val (.int (1 : Int32)), .unset, .unset, .unset] [(.int (2 : Int32)), (.ref b61)])) rfl rfl (hb hby at_123)) ?_
        refine Go.st (S' := T115.setTop (mkF m 125 #[.val (.int p0), .val (.int p1), .val (.int K.toInt32), .val (.int (3 : Int32)), .val (.ref b61), .val (.ref b69), .val (.int (1 : Int32)), .unset, .unset, .unset] [(.int (3 : Int32)), (.int x2)])) (fun _ k_ => XS.iloadN X115.here hx rfl (hb hby at_124) rfl k_) ?_
        by_cases hc125 : x2 < (3 : Int32)
        · skip
          refine Go.st (S' := T115.setTop (mkF m 128 #[.val (.int p0), .val (.int p1), .val (.int K.toInt32), .val (.int (3 : Int32)), .val (.ref b61), .val (.ref b69), .val (.int (1 : Int32)), .unset, .unset, .unset] [])) (fun _ k_ => XS.icmpNo X115.here hx rfl (hb hby at_125) rfl (tlt hc125).2.1 k_) ?_
          refine Go.st (S' := T115.setTop (mkF m 130 #[.val (.int p0), .val (.int p1), .val (.int K.toInt32), .val (.int (3 : Int32)), .val (.ref b61), .val (.ref b69), .val (.int (1 : Int32)), .unset, .unset, .unset] [(.ref b69)])) (fun _ k_ => XS.aload X115.here hx rfl (hb hby at_128) rfl rfl k_) ?_
          refine Go.st (S' := T115.setTop (mkF m 132 #[.val (.int p0), .val (.int p1), .val (.int K.toInt32), .val (.int (3 : Int32)), .val (.ref b61), .val (.ref b69), .val (.int (1 : Int32)), .unset, .unset, .unset] [(.int (1 : Int32)), (.ref b69)])) (fun _ k_ => XS.iload X115.here hx rfl (hb hby at_130) rfl k_) ?_
          refine Go.st (S' := T115.setTop (mkF m 134 #[.val (.int p0), .val (.int p1), .val (.int K.toInt32), .val (.int (3 : Int32)), .val (.ref b61), .val (.ref b69), .val (.int (1 : Int32)), .unset, .unset, .unset] [(.ref b61), (.int (1 : Int32)), (.ref b69)])) (fun _ k_ => XS.aload X115.here hx rfl (hb hby at_132) rfl rfl k_) ?_
          refine Go.st (S' := T115.setTop (mkF m 135 #[.val (.int p0), .val (.int p1), .val (.int K.toInt32), .val (.int (3 : Int32)), .val (.ref b61), .val (.ref b69), .val (.int (1 : Int32)), .unset, .unset, .unset] [(.int (2 : Int32)), (.ref b61), (.int (1 : Int32)), (.ref b69)])) (fun _ k_ => XS.iconst X115.here hx rfl (hb hby at_134) k_) ?_
          refine Go.st (S' := T115.setTop (mkF m 136 #[.val (.int p0), .val (.int p1), .val (.int K.toInt32), .val (.int (3 : Int32)), .val (.ref b61), .val (.ref b69), .val (.int (1 : Int32)), .unset, .unset, .unset] [(.int x2), (.int (1 : Int32)), (.ref b69)])) (A_b61.load X115 hx hZ e115 (j := (2 : Int32)) (v := x2) (by decide) rfl (g := (mkF m 135 #[.val (.int p0), .val (.int p1), .val (.int K.toInt32), .val (.int (3 : Int32)), .val (.ref b61), .val (.ref b69), .val (.int (1 : Int32)), .unset, .unset, .unset] [(.int (2 : Int32)), (.ref b61), (.int (1 : Int32)), (.ref b69)])) rfl rfl (hb hby at_135)) ?_
          obtain ⟨T120, h120, X120, e120, W120, A120, st120⟩ := A_b69.store X115 hx hZ e115 (j := (1 : Int32)) (by decide) (Nat.le_of_ble_eq_true rfl) (g := (mkF m 136 #[.val (.int p0), .val (.int p1), .val (.int K.toInt32), .val (.int (3 : Int32)), .val (.ref b61), .val (.ref b69), .val (.int (1 : Int32)), .unset, .unset, .unset] [(.int x2), (.int (1 : Int32)), (.ref b69)])) rfl rfl (hb hby at_136)
          replace A_b69 : Ai Z h120 b69 .int [x0, x2, (0 : Int32), (0 : Int32)] := A120
          replace A_b61 := A_b61.other W120 ne_b61_b69
          replace Z0 := Nat.le_trans Z0 (Keep.of_wr W120).1
          have N120 := Fr.snoc X120 N115 g_b69
          refine Go.st (S' := T120.setTop (mkF m 137 #[.val (.int p0), .val (.int p1), .val (.int K.toInt32), .val (.int (3 : Int32)), .val (.ref b61), .val (.ref b69), .val (.int (1 : Int32)), .unset, .unset, .unset] [])) (st120) ?_
          refine Go.st (S' := T120.setTop (mkF m 140 #[.val (.int p0), .val (.int p1), .val (.int K.toInt32), .val (.int (3 : Int32)), .val (.ref b61), .val (.ref b69), .val (.int ((1 : Int32) + (1 : Int32))), .unset, .unset, .unset] [])) (fun _ k_ => XS.iinc X120.here hx rfl (hb hby at_137) rfl (l' := #[.val (.int p0), .val (.int p1), .val (.int K.toInt32), .val (.int (3 : Int32)), .val (.ref b61), .val (.ref b69), .val (.int ((1 : Int32) + (1 : Int32))), .unset, .unset, .unset]) rfl k_) ?_
          rw [show ((1 : Int32) + (1 : Int32)) = (2 : Int32) from rfl]
          refine Go.st (S' := T120.setTop (mkF m 142 #[.val (.int p0), .val (.int p1), .val (.int K.toInt32), .val (.int (3 : Int32)), .val (.ref b61), .val (.ref b69), .val (.int (2 : Int32)), .unset, .unset, .unset] [(.ref b61)])) (fun _ k_ => XS.aload X120.here hx rfl (hb hby at_140) rfl rfl k_) ?_
          refine Go.st (S' := T120.setTop (mkF m 143 #[.val (.int p0), .val (.int p1), .val (.int K.toInt32), .val (.int (3 : Int32)), .val (.ref b61), .val (.ref b69), .val (.int (2 : Int32)), .unset, .unset, .unset] [(.int (3 : Int32)), (.ref b61)])) (fun _ k_ => XS.iconst X120.here hx rfl (hb hby at_142) k_) ?_
          refine Go.st (S' := T120.setTop (mkF m 144 #[.val (.int p0), .val (.int p1), .val (.int K.toInt32), .val (.int (3 : Int32)), .val (.ref b61), .val (.ref b69), .val (.int (2 : Int32)), .unset, .unset, .unset] [(.int x3)])) (A_b61.load X120 hx hZ e120 (j := (3 : Int32)) (v := x3) (by decide) rfl (g := (mkF m 143 #[.val (.int p0), .val (.int p1), .val (.int K.toInt32), .val (.int (3 : Int32)), .val (.ref b61), .val (.ref b69), .val (.int (2 : Int32)), .unset, .unset, .unset] [(.int (3 : Int32)), (.ref b61)])) rfl rfl (hb hby at_143)) ?_
          refine Go.st (S' := T120.setTop (mkF m 145 #[.val (.int p0), .val (.int p1), .val (.int K.toInt32), .val (.int (3 : Int32)), .val (.ref b61), .val (.ref b69), .val (.int (2 : Int32)), .unset, .unset, .unset] [(.int (3 : Int32)), (.int x3)])) (fun _ k_ => XS.iloadN X120.here hx rfl (hb hby at_144) rfl k_) ?_
          by_cases hc145 : x3 < (3 : Int32)
          · skip
            refine Go.st (S' := T120.setTop (mkF m 148 #[.val (.int p0), .val (.int p1), .val (.int K.toInt32), .val (.int (3 : Int32)), .val (.ref b61), .val (.ref b69), .val (.int (2 : Int32)), .unset, .unset, .unset] [])) (fun _ k_ => XS.icmpNo X120.here hx rfl (hb hby at_145) rfl (tlt hc145).2.1 k_) ?_
            refine Go.st (S' := T120.setTop (mkF m 150 #[.val (.int p0), .val (.int p1), .val (.int K.toInt32), .val (.int (3 : Int32)), .val (.ref b61), .val (.ref b69), .val (.int (2 : Int32)), .unset, .unset, .unset] [(.ref b69)])) (fun _ k_ => XS.aload X120.here hx rfl (hb hby at_148) rfl rfl k_) ?_
            refine Go.st (S' := T120.setTop (mkF m 152 #[.val (.int p0), .val (.int p1), .val (.int K.toInt32), .val (.int (3 : Int32)), .val (.ref b61), .val (.ref b69), .val (.int (2 : Int32)), .unset, .unset, .unset] [(.int (2 : Int32)), (.ref b69)])) (fun _ k_ => XS.iload X120.here hx rfl (hb hby at_150) rfl k_) ?_
            refine Go.st (S' := T120.setTop (mkF m 154 #[.val (.int p0), .val (.int p1), .val (.int K.toInt32), .val (.int (3 : Int32)), .val (.ref b61), .val (.ref b69), .val (.int (2 : Int32)), .unset, .unset, .unset] [(.ref b61), (.int (2 : Int32)), (.ref b69)])) (fun _ k_ => XS.aload X120.here hx rfl (hb hby at_152) rfl rfl k_) ?_
            refine Go.st (S' := T120.setTop (mkF m 155 #[.val (.int p0), .val (.int p1), .val (.int K.toInt32), .val (.int (3 : Int32)), .val (.ref b61), .val (.ref b69), .val (.int (2 : Int32)), .unset, .unset, .unset] [(.int (3 : Int32)), (.ref b61), (.int (2 : Int32)), (.ref b69)])) (fun _ k_ => XS.iconst X120.here hx rfl (hb hby at_154) k_) ?_
            refine Go.st (S' := T120.setTop (mkF m 156 #[.val (.int p0), .val (.int p1), .val (.int K.toInt32), .val (.int (3 : Int32)), .val (.ref b61), .val (.ref b69), .val (.int (2 : Int32)), .unset, .unset, .unset] [(.int x3), (.int (2 : Int32)), (.ref b69)])) (A_b61.load X120 hx hZ e120 (j := (3 : Int32)) (v := x3) (by decide) rfl (g := (mkF m 155 #[.val (.int p0), .val (.int p1), .val (.int K.toInt32), .val (.int (3 : Int32)), .val (.ref b61), .val (.ref b69), .val (.int (2 : Int32)), .unset, .unset, .unset] [(.int (3 : Int32)), (.ref b61), (.int (2 : Int32)), (.ref b69)])) rfl rfl (hb hby at_155)) ?_
            obtain ⟨T121, h121, X121, e121, W121, A121, st121⟩ := A_b69.store X120 hx hZ e120 (j := (2 : Int32)) (by decide) (Nat.le_of_ble_eq_true rfl) (g := (mkF m 156 #[.val (.int p0), .val (.int p1), .val (.int K.toInt32), .val (.int (3 : Int32)), .val (.ref b61), .val (.ref b69), .val (.int (2 : Int32)), .unset, .unset, .unset] [(.int x3), (.int (2 : Int32)), (.ref b69)])) rfl rfl (hb hby at_156)
            replace A_b69 : Ai Z h121 b69 .int [x0, x2, x3, (0 : Int32)] := A121
            replace A_b61 := A_b61.other W121 ne_b61_b69
            replace Z0 := Nat.le_trans Z0 (Keep.of_wr W121).1
            have N121 := Fr.snoc X121 N120 g_b69
            refine Go.st (S' := T121.setTop (mkF m 157 #[.val (.int p0), .val (.int p1), .val (.int K.toInt32), .val (.int (3 : Int32)), .val (.ref b61), .val (.ref b69), .val (.int (2 : Int32)), .unset, .unset, .unset] [])) (st121) ?_
            refine Go.st (S' := T121.setTop (mkF m 160 #[.val (.int p0), .val (.int p1), .val (.int K.toInt32), .val (.int (3 : Int32)), .val (.ref b61), .val (.ref b69), .val (.int ((2 : Int32) + (1 : Int32))), .unset, .unset, .unset] [])) (fun _ k_ => XS.iinc X121.here hx rfl (hb hby at_157) rfl (l' := #[.val (.int p0), .val (.int p1), .val (.int K.toInt32), .val (.int (3 : Int32)), .val (.ref b61), .val (.ref b69), .val (.int ((2 : Int32) + (1 : Int32))), .unset, .unset, .unset]) rfl k_) ?_
            rw [show ((2 : Int32) + (1 : Int32)) = (3 : Int32) from rfl]
            have hf2 : own_okb [x0, x2, x3] = true ∧ ([x0, x2, x3] : List Int32).length = 3 := by
              have q := hf
              rw [List.filter_cons, List.filter_cons, List.filter_cons, List.filter_cons, List.filter_nil] at q
              simp only [show (3 : Nat).toInt32 = (3 : Int32) from rfl, hc85, hc105, hc125, hc145, decide_true, decide_false, if_true, if_false, Bool.false_eq_true] at q
              exact q
            exact J3 _ _ _ _ _ (X121.more (by decide) (by decide)) e121 N121 Z0 b61 b69 x0 x2 x3 (0 : Int32) A_b69 g_b69 (own_ok_of hf2.1)
          · skip
            refine Go.st (S' := T120.setTop (mkF m 160 #[.val (.int p0), .val (.int p1), .val (.int K.toInt32), .val (.int (3 : Int32)), .val (.ref b61), .val (.ref b69), .val (.int (2 : Int32)), .unset, .unset, .unset] [])) (fun _ k_ => XS.icmpYes X120.here hx rfl (pc0 := 145) (pc' := 160) rfl (hb hby at_145) rfl (flt hc145).2.1 (by decide) (by decide) k_) ?_
            have hf2 : own_okb [x0, x2] = true ∧ ([x0, x2] : List Int32).length = 3 := by
              have q := hf
              rw [List.filter_cons, List.filter_cons, List.filter_cons, List.filter_cons, List.filter_nil] at q
              simp only [show (3 : Nat).toInt32 = (3 : Int32) from rfl, hc85, hc105, hc125, hc145, decide_true, decide_false, if_true, if_false, Bool.false_eq_true] at q
              exact q
            exact absurd hf2.2 (by show ¬ (2 = 3); decide)
        · skip
          refine Go.st (S' := T115.setTop (mkF m 140 #[.val (.int p0), .val (.int p1), .val (.int K.toInt32), .val (.int (3 : Int32)), .val (.ref b61), .val (.ref b69), .val (.int (1 : Int32)), .unset, .unset, .unset] [])) (fun _ k_ => XS.icmpYes X115.here hx rfl (pc0 := 125) (pc' := 140) rfl (hb hby at_125) rfl (flt hc125).2.1 (by decide) (by decide) k_) ?_
          refine Go.st (S' := T115.setTop (mkF m 142 #[.val (.int p0), .val (.int p1), .val (.int K.toInt32), .val (.int (3 : Int32)), .val (.ref b61), .val (.ref b69), .val (.int (1 : Int32)), .unset, .unset, .unset] [(.ref b61)])) (fun _ k_ => XS.aload X115.here hx rfl (hb hby at_140) rfl rfl k_) ?_
          refine Go.st (S' := T115.setTop (mkF m 143 #[.val (.int p0), .val (.int p1), .val (.int K.toInt32), .val (.int (3 : Int32)), .val (.ref b61), .val (.ref b69), .val (.int (1 : Int32)), .unset, .unset, .unset] [(.int (3 : Int32)), (.ref b61)])) (fun _ k_ => XS.iconst X115.here hx rfl (hb hby at_142) k_) ?_
          refine Go.st (S' := T115.setTop (mkF m 144 #[.val (.int p0), .val (.int p1), .val (.int K.toInt32), .val (.int (3 : Int32)), .val (.ref b61), .val (.ref b69), .val (.int (1 : Int32)), .unset, .unset, .unset] [(.int x3)])) (A_b61.load X115 hx hZ e115 (j := (3 : Int32)) (v := x3) (by decide) rfl (g := (mkF m 143 #[.val (.int p0), .val (.int p1), .val (.int K.toInt32), .val (.int (3 : Int32)), .val (.ref b61), .val (.ref b69), .val (.int (1 : Int32)), .unset, .unset, .unset] [(.int (3 : Int32)), (.ref b61)])) rfl rfl (hb hby at_143)) ?_
          refine Go.st (S' := T115.setTop (mkF m 145 #[.val (.int p0), .val (.int p1), .val (.int K.toInt32), .val (.int (3 : Int32)), .val (.ref b61), .val (.ref b69), .val (.int (1 : Int32)), .unset, .unset, .unset] [(.int (3 : Int32)), (.int x3)])) (fun _ k_ => XS.iloadN X115.here hx rfl (hb hby at_144) rfl k_) ?_
          by_cases hc145 : x3 < (3 : Int32)
          · skip
            refine Go.st (S' := T115.setTop (mkF m 148 #[.val (.int p0), .val (.int p1), .val (.int K.toInt32), .val (.int (3 : Int32)), .val (.ref b61), .val (.ref b69), .val (.int (1 : Int32)), .unset, .unset, .unset] [])) (fun _ k_ => XS.icmpNo X115.here hx rfl (hb hby at_145) rfl (tlt hc145).2.1 k_) ?_
            refine Go.st (S' := T115.setTop (mkF m 150 #[.val (.int p0), .val (.int p1), .val (.int K.toInt32), .val (.int (3 : Int32)), .val (.ref b61), .val (.ref b69), .val (.int (1 : Int32)), .unset, .unset, .unset] [(.ref b69)])) (fun _ k_ => XS.aload X115.here hx rfl (hb hby at_148) rfl rfl k_) ?_
            refine Go.st (S' := T115.setTop (mkF m 152 #[.val (.int p0), .val (.int p1), .val (.int K.toInt32), .val (.int (3 : Int32)), .val (.ref b61), .val (.ref b69), .val (.int (1 : Int32)), .unset, .unset, .unset] [(.int (1 : Int32)), (.ref b69)])) (fun _ k_ => XS.iload X115.here hx rfl (hb hby at_150) rfl k_) ?_
            refine Go.st (S' := T115.setTop (mkF m 154 #[.val (.int p0), .val (.int p1), .val (.int K.toInt32), .val (.int (3 : Int32)), .val (.ref b61), .val (.ref b69), .val (.int (1 : Int32)), .unset, .unset, .unset] [(.ref b61), (.int (1 : Int32)), (.ref b69)])) (fun _ k_ => XS.aload X115.here hx rfl (hb hby at_152) rfl rfl k_) ?_
            refine Go.st (S' := T115.setTop (mkF m 155 #[.val (.int p0), .val (.int p1), .val (.int K.toInt32), .val (.int (3 : Int32)), .val (.ref b61), .val (.ref b69), .val (.int (1 : Int32)), .unset, .unset, .unset] [(.int (3 : Int32)), (.ref b61), (.int (1 : Int32)), (.ref b69)])) (fun _ k_ => XS.iconst X115.here hx rfl (hb hby at_154) k_) ?_
            refine Go.st (S' := T115.setTop (mkF m 156 #[.val (.int p0), .val (.int p1), .val (.int K.toInt32), .val (.int (3 : Int32)), .val (.ref b61), .val (.ref b69), .val (.int (1 : Int32)), .unset, .unset, .unset] [(.int x3), (.int (1 : Int32)), (.ref b69)])) (A_b61.load X115 hx hZ e115 (j := (3 : Int32)) (v := x3) (by decide) rfl (g := (mkF m 155 #[.val (.int p0), .val (.int p1), .val (.int K.toInt32), .val (.int (3 : Int32)), .val (.ref b61), .val (.ref b69), .val (.int (1 : Int32)), .unset, .unset, .unset] [(.int (3 : Int32)), (.ref b61), (.int (1 : Int32)), (.ref b69)])) rfl rfl (hb hby at_155)) ?_
            obtain ⟨T122, h122, X122, e122, W122, A122, st122⟩ := A_b69.store X115 hx hZ e115 (j := (1 : Int32)) (by decide) (Nat.le_of_ble_eq_true rfl) (g := (mkF m 156 #[.val (.int p0), .val (.int p1), .val (.int K.toInt32), .val (.int (3 : Int32)), .val (.ref b61), .val (.ref b69), .val (.int (1 : Int32)), .unset, .unset, .unset] [(.int x3), (.int (1 : Int32)), (.ref b69)])) rfl rfl (hb hby at_156)
            replace A_b69 : Ai Z h122 b69 .int [x0, x3, (0 : Int32), (0 : Int32)] := A122
            replace A_b61 := A_b61.other W122 ne_b61_b69
            replace Z0 := Nat.le_trans Z0 (Keep.of_wr W122).1
            have N122 := Fr.snoc X122 N115 g_b69
            refine Go.st (S' := T122.setTop (mkF m 157 #[.val (.int p0), .val (.int p1), .val (.int K.toInt32), .val (.int (3 : Int32)), .val (.ref b61), .val (.ref b69), .val (.int (1 : Int32)), .unset, .unset, .unset] [])) (st122) ?_
            refine Go.st (S' := T122.setTop (mkF m 160 #[.val (.int p0), .val (.int p1), .val (.int K.toInt32), .val (.int (3 : Int32)), .val (.ref b61), .val (.ref b69), .val (.int ((1 : Int32) + (1 : Int32))), .unset, .unset, .unset] [])) (fun _ k_ => XS.iinc X122.here hx rfl (hb hby at_157) rfl (l' := #[.val (.int p0), .val (.int p1), .val (.int K.toInt32), .val (.int (3 : Int32)), .val (.ref b61), .val (.ref b69), .val (.int ((1 : Int32) + (1 : Int32))), .unset, .unset, .unset]) rfl k_) ?_
            rw [show ((1 : Int32) + (1 : Int32)) = (2 : Int32) from rfl]
            have hf2 : own_okb [x0, x3] = true ∧ ([x0, x3] : List Int32).length = 3 := by
              have q := hf
              rw [List.filter_cons, List.filter_cons, List.filter_cons, List.filter_cons, List.filter_nil] at q
              simp only [show (3 : Nat).toInt32 = (3 : Int32) from rfl, hc85, hc105, hc125, hc145, decide_true, decide_false, if_true, if_false, Bool.false_eq_true] at q
              exact q
            exact absurd hf2.2 (by show ¬ (2 = 3); decide)
          · skip
            refine Go.st (S' := T115.setTop (mkF m 160 #[.val (.int p0), .val (.int p1), .val (.int K.toInt32), .val (.int (3 : Int32)), .val (.ref b61), .val (.ref b69), .val (.int (1 : Int32)), .unset, .unset, .unset] [])) (fun _ k_ => XS.icmpYes X115.here hx rfl (pc0 := 145) (pc' := 160) rfl (hb hby at_145) rfl (flt hc145).2.1 (by decide) (by decide) k_) ?_
            have hf2 : own_okb [x0] = true ∧ ([x0] : List Int32).length = 3 := by
              have q := hf
              rw [List.filter_cons, List.filter_cons, List.filter_cons, List.filter_cons, List.filter_nil] at q
              simp only [show (3 : Nat).toInt32 = (3 : Int32) from rfl, hc85, hc105, hc125, hc145, decide_true, decide_false, if_true, if_false, Bool.false_eq_true] at q
              exact q
            exact absurd hf2.2 (by show ¬ (1 = 3); decide)
    · skip
      refine Go.st (S' := T69.setTop (mkF m 100 #[.val (.int p0), .val (.int p1), .val (.int K.toInt32), .val (.int (3 : Int32)), .val (.ref b61), .val (.ref b69), .val (.int (0 : Int32)), .unset, .unset, .unset] [])) (fun _ k_ => XS.icmpYes X69.here hx rfl (pc0 := 85) (pc' := 100) rfl (hb hby at_85) rfl (flt hc85).2.1 (by decide) (by decide) k_) ?_
      refine Go.st (S' := T69.setTop (mkF m 102 #[.val (.int p0), .val (.int p1), .val (.int K.toInt32), .val (.int (3 : Int32)), .val (.ref b61), .val (.ref b69), .val (.int (0 : Int32)), .unset, .unset, .unset] [(.ref b61)])) (fun _ k_ => XS.aload X69.here hx rfl (hb hby at_100) rfl rfl k_) ?_
      refine Go.st (S' := T69.setTop (mkF m 103 #[.val (.int p0), .val (.int p1), .val (.int K.toInt32), .val (.int (3 : Int32)), .val (.ref b61), .val (.ref b69), .val (.int (0 : Int32)), .unset, .unset, .unset] [(.int (1 : Int32)), (.ref b61)])) (fun _ k_ => XS.iconst X69.here hx rfl (hb hby at_102) k_) ?_
      refine Go.st (S' := T69.setTop (mkF m 104 #[.val (.int p0), .val (.int p1), .val (.int K.toInt32), .val (.int (3 : Int32)), .val (.ref b61), .val (.ref b69), .val (.int (0 : Int32)), .unset, .unset, .unset] [(.int x1)])) (A_b61.load X69 hx hZ e69 (j := (1 : Int32)) (v := x1) (by decide) rfl (g := (mkF m 103 #[.val (.int p0), .val (.int p1), .val (.int K.toInt32), .val (.int (3 : Int32)), .val (.ref b61), .val (.ref b69), .val (.int (0 : Int32)), .unset, .unset, .unset] [(.int (1 : Int32)), (.ref b61)])) rfl rfl (hb hby at_103)) ?_
      refine Go.st (S' := T69.setTop (mkF m 105 #[.val (.int p0), .val (.int p1), .val (.int K.toInt32), .val (.int (3 : Int32)), .val (.ref b61), .val (.ref b69), .val (.int (0 : Int32)), .unset, .unset, .unset] [(.int (3 : Int32)), (.int x1)])) (fun _ k_ => XS.iloadN X69.here hx rfl (hb hby at_104) rfl k_) ?_
      by_cases hc105 : x1 < (3 : Int32)
      · skip
        refine Go.st (S' := T69.setTop (mkF m 108 #[.val (.int p0), .val (.int p1), .val (.int K.toInt32), .val (.int (3 : Int32)), .val (.ref b61), .val (.ref b69), .val (.int (0 : Int32)), .unset, .unset, .unset] [])) (fun _ k_ => XS.icmpNo X69.here hx rfl (hb hby at_105) rfl (tlt hc105).2.1 k_) ?_
        refine Go.st (S' := T69.setTop (mkF m 110 #[.val (.int p0), .val (.int p1), .val (.int K.toInt32), .val (.int (3 : Int32)), .val (.ref b61), .val (.ref b69), .val (.int (0 : Int32)), .unset, .unset, .unset] [(.ref b69)])) (fun _ k_ => XS.aload X69.here hx rfl (hb hby at_108) rfl rfl k_) ?_
        refine Go.st (S' := T69.setTop (mkF m 112 #[.val (.int p0), .val (.int p1), .val (.int K.toInt32), .val (.int (3 : Int32)), .val (.ref b61), .val (.ref b69), .val (.int (0 : Int32)), .unset, .unset, .unset] [(.int (0 : Int32)), (.ref b69)])) (fun _ k_ => XS.iload X69.here hx rfl (hb hby at_110) rfl k_) ?_
        refine Go.st (S' := T69.setTop (mkF m 114 #[.val (.int p0), .val (.int p1), .val (.int K.toInt32), .val (.int (3 : Int32)), .val (.ref b61), .val (.ref b69), .val (.int (0 : Int32)), .unset, .unset, .unset] [(.ref b61), (.int (0 : Int32)), (.ref b69)])) (fun _ k_ => XS.aload X69.here hx rfl (hb hby at_112) rfl rfl k_) ?_
        refine Go.st (S' := T69.setTop (mkF m 115 #[.val (.int p0), .val (.int p1), .val (.int K.toInt32), .val (.int (3 : Int32)), .val (.ref b61), .val (.ref b69), .val (.int (0 : Int32)), .unset, .unset, .unset] [(.int (1 : Int32)), (.ref b61), (.int (0 : Int32)), (.ref b69)])) (fun _ k_ => XS.iconst X69.here hx rfl (hb hby at_114) k_) ?_
        refine Go.st (S' := T69.setTop (mkF m 116 #[.val (.int p0), .val (.int p1), .val (.int K.toInt32), .val (.int (3 : Int32)), .val (.ref b61), .val (.ref b69), .val (.int (0 : Int32)), .unset, .unset, .unset] [(.int x1), (.int (0 : Int32)), (.ref b69)])) (A_b61.load X69 hx hZ e69 (j := (1 : Int32)) (v := x1) (by decide) rfl (g := (mkF m 115 #[.val (.int p0), .val (.int p1), .val (.int K.toInt32), .val (.int (3 : Int32)), .val (.ref b61), .val (.ref b69), .val (.int (0 : Int32)), .unset, .unset, .unset] [(.int (1 : Int32)), (.ref b61), (.int (0 : Int32)), (.ref b69)])) rfl rfl (hb hby at_115)) ?_
        obtain ⟨T123, h123, X123, e123, W123, A123, st123⟩ := A_b69.store X69 hx hZ e69 (j := (0 : Int32)) (by decide) (Nat.le_of_ble_eq_true rfl) (g := (mkF m 116 #[.val (.int p0), .val (.int p1), .val (.int K.toInt32), .val (.int (3 : Int32)), .val (.ref b61), .val (.ref b69), .val (.int (0 : Int32)), .unset, .unset, .unset] [(.int x1), (.int (0 : Int32)), (.ref b69)])) rfl rfl (hb hby at_116)
        replace A_b69 : Ai Z h123 b69 .int [x1, (0 : Int32), (0 : Int32), (0 : Int32)] := A123
        replace A_b61 := A_b61.other W123 ne_b61_b69
        replace Z0 := Nat.le_trans Z0 (Keep.of_wr W123).1
        have N123 := Fr.snoc X123 N68 g_b69
        refine Go.st (S' := T123.setTop (mkF m 117 #[.val (.int p0), .val (.int p1), .val (.int K.toInt32), .val (.int (3 : Int32)), .val (.ref b61), .val (.ref b69), .val (.int (0 : Int32)), .unset, .unset, .unset] [])) (st123) ?_
        refine Go.st (S' := T123.setTop (mkF m 120 #[.val (.int p0), .val (.int p1), .val (.int K.toInt32), .val (.int (3 : Int32)), .val (.ref b61), .val (.ref b69), .val (.int ((0 : Int32) + (1 : Int32))), .unset, .unset, .unset] [])) (fun _ k_ => XS.iinc X123.here hx rfl (hb hby at_117) rfl (l' := #[.val (.int p0), .val (.int p1), .val (.int K.toInt32), .val (.int (3 : Int32)), .val (.ref b61), .val (.ref b69), .val (.int ((0 : Int32) + (1 : Int32))), .unset, .unset, .unset]) rfl k_) ?_
        rw [show ((0 : Int32) + (1 : Int32)) = (1 : Int32) from rfl]
        refine Go.st (S' := T123.setTop (mkF m 122 #[.val (.int p0), .val (.int p1), .val (.int K.toInt32), .val (.int (3 : Int32)), .val (.ref b61), .val (.ref b69), .val (.int (1 : Int32)), .unset, .unset, .unset] [(.ref b61)])) (fun _ k_ => XS.aload X123.here hx rfl (hb hby at_120) rfl rfl k_) ?_
        refine Go.st (S' := T123.setTop (mkF m 123 #[.val (.int p0), .val (.int p1), .val (.int K.toInt32), .val (.int (3 : Int32)), .val (.ref b61), .val (.ref b69), .val (.int (1 : Int32)), .unset, .unset, .unset] [(.int (2 : Int32)), (.ref b61)])) (fun _ k_ => XS.iconst X123.here hx rfl (hb hby at_122) k_) ?_
        refine Go.st (S' := T123.setTop (mkF m 124 #[.val (.int p0), .val (.int p1), .val (.int K.toInt32), .val (.int (3 : Int32)), .val (.ref b61), .val (.ref b69), .val (.int (1 : Int32)), .unset, .unset, .unset] [(.int x2)])) (A_b61.load X123 hx hZ e123 (j := (2 : Int32)) (v := x2) (by decide) rfl (g := (mkF m 123 #[.val (.int p0), .val (.int p1), .val (.int K.toInt32), .val (.int (3 : Int32)), .val (.ref b61), .val (.ref b69), .val (.int (1 : Int32)), .unset, .unset, .unset] [(.int (2 : Int32)), (.ref b61)])) rfl rfl (hb hby at_123)) ?_
        refine Go.st (S' := T123.setTop (mkF m 125 #[.val (.int p0), .val (.int p1), .val (.int K.toInt32), .val (.int (3 : Int32)), .val (.ref b61), .val (.ref b69), .val (.int (1 : Int32)), .unset, .unset, .unset] [(.int (3 : Int32)), (.int x2)])) (fun _ k_ => XS.iloadN X123.here hx rfl (hb hby at_124) rfl k_) ?_
        by_cases hc125 : x2 < (3 : Int32)
        · skip
          refine Go.st (S' := T123.setTop (mkF m 128 #[.val (.int p0), .val (.int p1), .val (.int K.toInt32), .val (.int (3 : Int32)), .val (.ref b61), .val (.ref b69), .val (.int (1 : Int32)), .unset, .unset, .unset] [])) (fun _ k_ => XS.icmpNo X123.here hx rfl (hb hby at_125) rfl (tlt hc125).2.1 k_) ?_
          refine Go.st (S' := T123.setTop (mkF m 130 #[.val (.int p0), .val (.int p1), .val (.int K.toInt32), .val (.int (3 : Int32)), .val (.ref b61), .val (.ref b69), .val (.int (1 : Int32)), .unset, .unset, .unset] [(.ref b69)])) (fun _ k_ => XS.aload X123.here hx rfl (hb hby at_128) rfl rfl k_) ?_
          refine Go.st (S' := T123.setTop (mkF m 132 #[.val (.int p0), .val (.int p1), .val (.int K.toInt32), .val (.int (3 : Int32)), .val (.ref b61), .val (.ref b69), .val (.int (1 : Int32)), .unset, .unset, .unset] [(.int (1 : Int32)), (.ref b69)])) (fun _ k_ => XS.iload X123.here hx rfl (hb hby at_130) rfl k_) ?_
          refine Go.st (S' := T123.setTop (mkF m 134 #[.val (.int p0), .val (.int p1), .val (.int K.toInt32), .val (.int (3 : Int32)), .val (.ref b61), .val (.ref b69), .val (.int (1 : Int32)), .unset, .unset, .unset] [(.ref b61), (.int (1 : Int32)), (.ref b69)])) (fun _ k_ => XS.aload X123.here hx rfl (hb hby at_132) rfl rfl k_) ?_
          refine Go.st (S' := T123.setTop (mkF m 135 #[.val (.int p0), .val (.int p1), .val (.int K.toInt32), .val (.int (3 : Int32)), .val (.ref b61), .val (.ref b69), .val (.int (1 : Int32)), .unset, .unset, .unset] [(.int (2 : Int32)), (.ref b61), (.int (1 : Int32)), (.ref b69)])) (fun _ k_ => XS.iconst X123.here hx rfl (hb hby at_134) k_) ?_
          refine Go.st (S' := T123.setTop (mkF m 136 #[.val (.int p0), .val (.int p1), .val (.int K.toInt32), .val (.int (3 : Int32)), .val (.ref b61), .val (.ref b69), .val (.int (1 : Int32)), .unset, .unset, .unset] [(.int x2), (.int (1 : Int32)), (.ref b69)])) (A_b61.load X123 hx hZ e123 (j := (2 : Int32)) (v := x2) (by decide) rfl (g := (mkF m 135 #[.val (.int p0), .val (.int p1), .val (.int K.toInt32), .val (.int (3 : Int32)), .val (.ref b61), .val (.ref b69), .val (.int (1 : Int32)), .unset, .unset, .unset] [(.int (2 : Int32)), (.ref b61), (.int (1 : Int32)), (.ref b69)])) rfl rfl (hb hby at_135)) ?_
          obtain ⟨T124, h124, X124, e124, W124, A124, st124⟩ := A_b69.store X123 hx hZ e123 (j := (1 : Int32)) (by decide) (Nat.le_of_ble_eq_true rfl) (g := (mkF m 136 #[.val (.int p0), .val (.int p1), .val (.int K.toInt32), .val (.int (3 : Int32)), .val (.ref b61), .val (.ref b69), .val (.int (1 : Int32)), .unset, .unset, .unset] [(.int x2), (.int (1 : Int32)), (.ref b69)])) rfl rfl (hb hby at_136)
          replace A_b69 : Ai Z h124 b69 .int [x1, x2, (0 : Int32), (0 : Int32)] := A124
          replace A_b61 := A_b61.other W124 ne_b61_b69
          replace Z0 := Nat.le_trans Z0 (Keep.of_wr W124).1
          have N124 := Fr.snoc X124 N123 g_b69
          refine Go.st (S' := T124.setTop (mkF m 137 #[.val (.int p0), .val (.int p1), .val (.int K.toInt32), .val (.int (3 : Int32)), .val (.ref b61), .val (.ref b69), .val (.int (1 : Int32)), .unset, .unset, .unset] [])) (st124) ?_
          refine Go.st (S' := T124.setTop (mkF m 140 #[.val (.int p0), .val (.int p1), .val (.int K.toInt32), .val (.int (3 : Int32)), .val (.ref b61), .val (.ref b69), .val (.int ((1 : Int32) + (1 : Int32))), .unset, .unset, .unset] [])) (fun _ k_ => XS.iinc X124.here hx rfl (hb hby at_137) rfl (l' := #[.val (.int p0), .val (.int p1), .val (.int K.toInt32), .val (.int (3 : Int32)), .val (.ref b61), .val (.ref b69), .val (.int ((1 : Int32) + (1 : Int32))), .unset, .unset, .unset]) rfl k_) ?_
          rw [show ((1 : Int32) + (1 : Int32)) = (2 : Int32) from rfl]
          refine Go.st (S' := T124.setTop (mkF m 142 #[.val (.int p0), .val (.int p1), .val (.int K.toInt32), .val (.int (3 : Int32)), .val (.ref b61), .val (.ref b69), .val (.int (2 : Int32)), .unset, .unset, .unset] [(.ref b61)])) (fun _ k_ => XS.aload X124.here hx rfl (hb hby at_140) rfl rfl k_) ?_
          refine Go.st (S' := T124.setTop (mkF m 143 #[.val (.int p0), .val (.int p1), .val (.int K.toInt32), .val (.int (3 : Int32)), .val (.ref b61), .val (.ref b69), .val (.int (2 : Int32)), .unset, .unset, .unset] [(.int (3 : Int32)), (.ref b61)])) (fun _ k_ => XS.iconst X124.here hx rfl (hb hby at_142) k_) ?_
          refine Go.st (S' := T124.setTop (mkF m 144 #[.val (.int p0), .val (.int p1), .val (.int K.toInt32), .val (.int (3 : Int32)), .val (.ref b61), .val (.ref b69), .val (.int (2 : Int32)), .unset, .unset, .unset] [(.int x3)])) (A_b61.load X124 hx hZ e124 (j := (3 : Int32)) (v := x3) (by decide) rfl (g := (mkF m 143 #[.val (.int p0), .val (.int p1), .val (.int K.toInt32), .val (.int (3 : Int32)), .val (.ref b61), .val (.ref b69), .val (.int (2 : Int32)), .unset, .unset, .unset] [(.int (3 : Int32)), (.ref b61)])) rfl rfl (hb hby at_143)) ?_
          refine Go.st (S' := T124.setTop (mkF m 145 #[.val (.int p0), .val (.int p1), .val (.int K.toInt32), .val (.int (3 : Int32)), .val (.ref b61), .val (.ref b69), .val (.int (2 : Int32)), .unset, .unset, .unset] [(.int (3 : Int32)), (.int x3)])) (fun _ k_ => XS.iloadN X124.here hx rfl (hb hby at_144) rfl k_) ?_
          by_cases hc145 : x3 < (3 : Int32)
          · skip
            refine Go.st (S' := T124.setTop (mkF m 148 #[.val (.int p0), .val (.int p1), .val (.int K.toInt32), .val (.int (3 : Int32)), .val (.ref b61), .val (.ref b69), .val (.int (2 : Int32)), .unset, .unset, .unset] [])) (fun _ k_ => XS.icmpNo X124.here hx rfl (hb hby at_145) rfl (tlt hc145).2.1 k_) ?_
            refine Go.st (S' := T124.setTop (mkF m 150 #[.val (.int p0), .val (.int p1), .val (.int K.toInt32), .val (.int (3 : Int32)), .val (.ref b61), .val (.ref b69), .val (.int (2 : Int32)), .unset, .unset, .unset] [(.ref b69)])) (fun _ k_ => XS.aload X124.here hx rfl (hb hby at_148) rfl rfl k_) ?_
            refine Go.st (S' := T124.setTop (mkF m 152 #[.val (.int p0), .val (.int p1), .val (.int K.toInt32), .val (.int (3 : Int32)), .val (.ref b61), .val (.ref b69), .val (.int (2 : Int32)), .unset, .unset, .unset] [(.int (2 : Int32)), (.ref b69)])) (fun _ k_ => XS.iload X124.here hx rfl (hb hby at_150) rfl k_) ?_
            refine Go.st (S' := T124.setTop (mkF m 154 #[.val (.int p0), .val (.int p1), .val (.int K.toInt32), .val (.int (3 : Int32)), .val (.ref b61), .val (.ref b69), .val (.int (2 : Int32)), .unset, .unset, .unset] [(.ref b61), (.int (2 : Int32)), (.ref b69)])) (fun _ k_ => XS.aload X124.here hx rfl (hb hby at_152) rfl rfl k_) ?_
            refine Go.st (S' := T124.setTop (mkF m 155 #[.val (.int p0), .val (.int p1), .val (.int K.toInt32), .val (.int (3 : Int32)), .val (.ref b61), .val (.ref b69), .val (.int (2 : Int32)), .unset, .unset, .unset] [(.int (3 : Int32)), (.ref b61), (.int (2 : Int32)), (.ref b69)])) (fun _ k_ => XS.iconst X124.here hx rfl (hb hby at_154) k_) ?_
            refine Go.st (S' := T124.setTop (mkF m 156 #[.val (.int p0), .val (.int p1), .val (.int K.toInt32), .val (.int (3 : Int32)), .val (.ref b61), .val (.ref b69), .val (.int (2 : Int32)), .unset, .unset, .unset] [(.int x3), (.int (2 : Int32)), (.ref b69)])) (A_b61.load X124 hx hZ e124 (j := (3 : Int32)) (v := x3) (by decide) rfl (g := (mkF m 155 #[.val (.int p0), .val (.int p1), .val (.int K.toInt32), .val (.int (3 : Int32)), .val (.ref b61), .val (.ref b69), .val (.int (2 : Int32)), .unset, .unset, .unset] [(.int (3 : Int32)), (.ref b61), (.int (2 : Int32)), (.ref b69)])) rfl rfl (hb hby at_155)) ?_
            obtain ⟨T125, h125, X125, e125, W125, A125, st125⟩ := A_b69.store X124 hx hZ e124 (j := (2 : Int32)) (by decide) (Nat.le_of_ble_eq_true rfl) (g := (mkF m 156 #[.val (.int p0), .val (.int p1), .val (.int K.toInt32), .val (.int (3 : Int32)), .val (.ref b61), .val (.ref b69), .val (.int (2 : Int32)), .unset, .unset, .unset] [(.int x3), (.int (2 : Int32)), (.ref b69)])) rfl rfl (hb hby at_156)
            replace A_b69 : Ai Z h125 b69 .int [x1, x2, x3, (0 : Int32)] := A125
            replace A_b61 := A_b61.other W125 ne_b61_b69
            replace Z0 := Nat.le_trans Z0 (Keep.of_wr W125).1
            have N125 := Fr.snoc X125 N124 g_b69
            refine Go.st (S' := T125.setTop (mkF m 157 #[.val (.int p0), .val (.int p1), .val (.int K.toInt32), .val (.int (3 : Int32)), .val (.ref b61), .val (.ref b69), .val (.int (2 : Int32)), .unset, .unset, .unset] [])) (st125) ?_
            refine Go.st (S' := T125.setTop (mkF m 160 #[.val (.int p0), .val (.int p1), .val (.int K.toInt32), .val (.int (3 : Int32)), .val (.ref b61), .val (.ref b69), .val (.int ((2 : Int32) + (1 : Int32))), .unset, .unset, .unset] [])) (fun _ k_ => XS.iinc X125.here hx rfl (hb hby at_157) rfl (l' := #[.val (.int p0), .val (.int p1), .val (.int K.toInt32), .val (.int (3 : Int32)), .val (.ref b61), .val (.ref b69), .val (.int ((2 : Int32) + (1 : Int32))), .unset, .unset, .unset]) rfl k_) ?_
            rw [show ((2 : Int32) + (1 : Int32)) = (3 : Int32) from rfl]
            have hf2 : own_okb [x1, x2, x3] = true ∧ ([x1, x2, x3] : List Int32).length = 3 := by
              have q := hf
              rw [List.filter_cons, List.filter_cons, List.filter_cons, List.filter_cons, List.filter_nil] at q
              simp only [show (3 : Nat).toInt32 = (3 : Int32) from rfl, hc85, hc105, hc125, hc145, decide_true, decide_false, if_true, if_false, Bool.false_eq_true] at q
              exact q
            exact J3 _ _ _ _ _ (X125.more (by decide) (by decide)) e125 N125 Z0 b61 b69 x1 x2 x3 (0 : Int32) A_b69 g_b69 (own_ok_of hf2.1)
          · skip
            refine Go.st (S' := T124.setTop (mkF m 160 #[.val (.int p0), .val (.int p1), .val (.int K.toInt32), .val (.int (3 : Int32)), .val (.ref b61), .val (.ref b69), .val (.int (2 : Int32)), .unset, .unset, .unset] [])) (fun _ k_ => XS.icmpYes X124.here hx rfl (pc0 := 145) (pc' := 160) rfl (hb hby at_145) rfl (flt hc145).2.1 (by decide) (by decide) k_) ?_
            have hf2 : own_okb [x1, x2] = true ∧ ([x1, x2] : List Int32).length = 3 := by
              have q := hf
              rw [List.filter_cons, List.filter_cons, List.filter_cons, List.filter_cons, List.filter_nil] at q
              simp only [show (3 : Nat).toInt32 = (3 : Int32) from rfl, hc85, hc105, hc125, hc145, decide_true, decide_false, if_true, if_false, Bool.false_eq_true] at q
              exact q
            exact absurd hf2.2 (by show ¬ (2 = 3); decide)
        · skip
          refine Go.st (S' := T123.setTop (mkF m 140 #[.val (.int p0), .val (.int p1), .val (.int K.toInt32), .val (.int (3 : Int32)), .val (.ref b61), .val (.ref b69), .val (.int (1 : Int32)), .unset, .unset, .unset] [])) (fun _ k_ => XS.icmpYes X123.here hx rfl (pc0 := 125) (pc' := 140) rfl (hb hby at_125) rfl (flt hc125).2.1 (by decide) (by decide) k_) ?_
          refine Go.st (S' := T123.setTop (mkF m 142 #[.val (.int p0), .val (.int p1), .val (.int K.toInt32), .val (.int (3 : Int32)), .val (.ref b61), .val (.ref b69), .val (.int (1 : Int32)), .unset, .unset, .unset] [(.ref b61)])) (fun _ k_ => XS.aload X123.here hx rfl (hb hby at_140) rfl rfl k_) ?_
          refine Go.st (S' := T123.setTop (mkF m 143 #[.val (.int p0), .val (.int p1), .val (.int K.toInt32), .val (.int (3 : Int32)), .val (.ref b61), .val (.ref b69), .val (.int (1 : Int32)), .unset, .unset, .unset] [(.int (3 : Int32)), (.ref b61)])) (fun _ k_ => XS.iconst X123.here hx rfl (hb hby at_142) k_) ?_
          refine Go.st (S' := T123.setTop (mkF m 144 #[.val (.int p0), .val (.int p1), .val (.int K.toInt32), .val (.int (3 : Int32)), .val (.ref b61), .val (.ref b69), .val (.int (1 : Int32)), .unset, .unset, .unset] [(.int x3)])) (A_b61.load X123 hx hZ e123 (j := (3 : Int32)) (v := x3) (by decide) rfl (g := (mkF m 143 #[.val (.int p0), .val (.int p1), .val (.int K.toInt32), .val (.int (3 : Int32)), .val (.ref b61), .val (.ref b69), .val (.int (1 : Int32)), .unset, .unset, .unset] [(.int (3 : Int32)), (.ref b61)])) rfl rfl (hb hby at_143)) ?_
          refine Go.st (S' := T123.setTop (mkF m 145 #[.val (.int p0), .val (.int p1), .val (.int K.toInt32), .val (.int (3 : Int32)), .val (.ref b61), .val (.ref b69), .val (.int (1 : Int32)), .unset, .unset, .unset] [(.int (3 : Int32)), (.int x3)])) (fun _ k_ => XS.iloadN X123.here hx rfl (hb hby at_144) rfl k_) ?_
          by_cases hc145 : x3 < (3 : Int32)
          · skip
            refine Go.st (S' := T123.setTop (mkF m 148 #[.val (.int p0), .val (.int p1), .val (.int K.toInt32), .val (.int (3 : Int32)), .val (.ref b61), .val (.ref b69), .val (.int (1 : Int32)), .unset, .unset, .unset] [])) (fun _ k_ => XS.icmpNo X123.here hx rfl (hb hby at_145) rfl (tlt hc145).2.1 k_) ?_
            refine Go.st (S' := T123.setTop (mkF m 150 #[.val (.int p0), .val (.int p1), .val (.int K.toInt32), .val (.int (3 : Int32)), .val (.ref b61), .val (.ref b69), .val (.int (1 : Int32)), .unset, .unset, .unset] [(.ref b69)])) (fun _ k_ => XS.aload X123.here hx rfl (hb hby at_148) rfl rfl k_) ?_
            refine Go.st (S' := T123.setTop (mkF m 152 #[.val (.int p0), .val (.int p1), .val (.int K.toInt32), .val (.int (3 : Int32)), .val (.ref b61), .val (.ref b69), .val (.int (1 : Int32)), .unset, .unset, .unset] [(.int (1 : Int32)), (.ref b69)])) (fun _ k_ => XS.iload X123.here hx rfl (hb hby at_150) rfl k_) ?_
            refine Go.st (S' := T123.setTop (mkF m 154 #[.val (.int p0), .val (.int p1), .val (.int K.toInt32), .val (.int (3 : Int32)), .val (.ref b61), .val (.ref b69), .val (.int (1 : Int32)), .unset, .unset, .unset] [(.ref b61), (.int (1 : Int32)), (.ref b69)])) (fun _ k_ => XS.aload X123.here hx rfl (hb hby at_152) rfl rfl k_) ?_
            refine Go.st (S' := T123.setTop (mkF m 155 #[.val (.int p0), .val (.int p1), .val (.int K.toInt32), .val (.int (3 : Int32)), .val (.ref b61), .val (.ref b69), .val (.int (1 : Int32)), .unset, .unset, .unset] [(.int (3 : Int32)), (.ref b61), (.int (1 : Int32)), (.ref b69)])) (fun _ k_ => XS.iconst X123.here hx rfl (hb hby at_154) k_) ?_
            refine Go.st (S' := T123.setTop (mkF m 156 #[.val (.int p0), .val (.int p1), .val (.int K.toInt32), .val (.int (3 : Int32)), .val (.ref b61), .val (.ref b69), .val (.int (1 : Int32)), .unset, .unset, .unset] [(.int x3), (.int (1 : Int32)), (.ref b69)])) (A_b61.load X123 hx hZ e123 (j := (3 : Int32)) (v := x3) (by decide) rfl (g := (mkF m 155 #[.val (.int p0), .val (.int p1), .val (.int K.toInt32), .val (.int (3 : Int32)), .val (.ref b61), .val (.ref b69), .val (.int (1 : Int32)), .unset, .unset, .unset] [(.int (3 : Int32)), (.ref b61), (.int (1 : Int32)), (.ref b69)])) rfl rfl (hb hby at_155)) ?_
            obtain ⟨T126, h126, X126, e126, W126, A126, st126⟩ := A_b69.store X123 hx hZ e123 (j := (1 : Int32)) (by decide) (Nat.le_of_ble_eq_true rfl) (g := (mkF m 156 #[.val (.int p0), .val (.int p1), .val (.int K.toInt32), .val (.int (3 : Int32)), .val (.ref b61), .val (.ref b69), .val (.int (1 : Int32)), .unset, .unset, .unset] [(.int x3), (.int (1 : Int32)), (.ref b69)])) rfl rfl (hb hby at_156)
            replace A_b69 : Ai Z h126 b69 .int [x1, x3, (0 : Int32), (0 : Int32)] := A126
            replace A_b61 := A_b61.other W126 ne_b61_b69
            replace Z0 := Nat.le_trans Z0 (Keep.of_wr W126).1
            have N126 := Fr.snoc X126 N123 g_b69
            refine Go.st (S' := T126.setTop (mkF m 157 #[.val (.int p0), .val (.int p1), .val (.int K.toInt32), .val (.int (3 : Int32)), .val (.ref b61), .val (.ref b69), .val (.int (1 : Int32)), .unset, .unset, .unset] [])) (st126) ?_
            refine Go.st (S' := T126.setTop (mkF m 160 #[.val (.int p0), .val (.int p1), .val (.int K.toInt32), .val (.int (3 : Int32)), .val (.ref b61), .val (.ref b69), .val (.int ((1 : Int32) + (1 : Int32))), .unset, .unset, .unset] [])) (fun _ k_ => XS.iinc X126.here hx rfl (hb hby at_157) rfl (l' := #[.val (.int p0), .val (.int p1), .val (.int K.toInt32), .val (.int (3 : Int32)), .val (.ref b61), .val (.ref b69), .val (.int ((1 : Int32) + (1 : Int32))), .unset, .unset, .unset]) rfl k_) ?_
            rw [show ((1 : Int32) + (1 : Int32)) = (2 : Int32) from rfl]
            have hf2 : own_okb [x1, x3] = true ∧ ([x1, x3] : List Int32).length = 3 := by
              have q := hf
              rw [List.filter_cons, List.filter_cons, List.filter_cons, List.filter_cons, List.filter_nil] at q
              simp only [show (3 : Nat).toInt32 = (3 : Int32) from rfl, hc85, hc105, hc125, hc145, decide_true, decide_false, if_true, if_false, Bool.false_eq_true] at q
              exact q
            exact absurd hf2.2 (by show ¬ (2 = 3); decide)
          · skip
            refine Go.st (S' := T123.setTop (mkF m 160 #[.val (.int p0), .val (.int p1), .val (.int K.toInt32), .val (.int (3 : Int32)), .val (.ref b61), .val (.ref b69), .val (.int (1 : Int32)), .unset, .unset, .unset] [])) (fun _ k_ => XS.icmpYes X123.here hx rfl (pc0 := 145) (pc' := 160) rfl (hb hby at_145) rfl (flt hc145).2.1 (by decide) (by decide) k_) ?_
            have hf2 : own_okb [x1] = true ∧ ([x1] : List Int32).length = 3 := by
              have q := hf
              rw [List.filter_cons, List.filter_cons, List.filter_cons, List.filter_cons, List.filter_nil] at q
              simp only [show (3 : Nat).toInt32 = (3 : Int32) from rfl, hc85, hc105, hc125, hc145, decide_true, decide_false, if_true, if_false, Bool.false_eq_true] at q
              exact q
            exact absurd hf2.2 (by show ¬ (1 = 3); decide)
      · skip
        refine Go.st (S' := T69.setTop (mkF m 120 #[.val (.int p0), .val (.int p1), .val (.int K.toInt32), .val (.int (3 : Int32)), .val (.ref b61), .val (.ref b69), .val (.int (0 : Int32)), .unset, .unset, .unset] [])) (fun _ k_ => XS.icmpYes X69.here hx rfl (pc0 := 105) (pc' := 120) rfl (hb hby at_105) rfl (flt hc105).2.1 (by decide) (by decide) k_) ?_
        refine Go.st (S' := T69.setTop (mkF m 122 #[.val (.int p0), .val (.int p1), .val (.int K.toInt32), .val (.int (3 : Int32)), .val (.ref b61), .val (.ref b69), .val (.int (0 : Int32)), .unset, .unset, .unset] [(.ref b61)])) (fun _ k_ => XS.aload X69.here hx rfl (hb hby at_120) rfl rfl k_) ?_
        refine Go.st (S' := T69.setTop (mkF m 123 #[.val (.int p0), .val (.int p1), .val (.int K.toInt32), .val (.int (3 : Int32)), .val (.ref b61), .val (.ref b69), .val (.int (0 : Int32)), .unset, .unset, .unset] [(.int (2 : Int32)), (.ref b61)])) (fun _ k_ => XS.iconst X69.here hx rfl (hb hby at_122) k_) ?_
        refine Go.st (S' := T69.setTop (mkF m 124 #[.val (.int p0), .val (.int p1), .val (.int K.toInt32), .val (.int (3 : Int32)), .val (.ref b61), .val (.ref b69), .val (.int (0 : Int32)), .unset, .unset, .unset] [(.int x2)])) (A_b61.load X69 hx hZ e69 (j := (2 : Int32)) (v := x2) (by decide) rfl (g := (mkF m 123 #[.val (.int p0), .val (.int p1), .val (.int K.toInt32), .val (.int (3 : Int32)), .val (.ref b61), .val (.ref b69), .val (.int (0 : Int32)), .unset, .unset, .unset] [(.int (2 : Int32)), (.ref b61)])) rfl rfl (hb hby at_123)) ?_
        refine Go.st (S' := T69.setTop (mkF m 125 #[.val (.int p0), .val (.int p1), .val (.int K.toInt32), .val (.int (3 : Int32)), .val (.ref b61), .val (.ref b69), .val (.int (0 : Int32)), .unset, .unset, .unset] [(.int (3 : Int32)), (.int x2)])) (fun _ k_ => XS.iloadN X69.here hx rfl (hb hby at_124) rfl k_) ?_
        by_cases hc125 : x2 < (3 : Int32)
        · skip
          refine Go.st (S' := T69.setTop (mkF m 128 #[.val (.int p0), .val (.int p1), .val (.int K.toInt32), .val (.int (3 : Int32)), .val (.ref b61), .val (.ref b69), .val (.int (0 : Int32)), .unset, .unset, .unset] [])) (fun _ k_ => XS.icmpNo X69.here hx rfl (hb hby at_125) rfl (tlt hc125).2.1 k_) ?_
          refine Go.st (S' := T69.setTop (mkF m 130 #[.val (.int p0), .val (.int p1), .val (.int K.toInt32), .val (.int (3 : Int32)), .val (.ref b61), .val (.ref b69), .val (.int (0 : Int32)), .unset, .unset, .unset] [(.ref b69)])) (fun _ k_ => XS.aload X69.here hx rfl (hb hby at_128) rfl rfl k_) ?_
          refine Go.st (S' := T69.setTop (mkF m 132 #[.val (.int p0), .val (.int p1), .val (.int K.toInt32), .val (.int (3 : Int32)), .val (.ref b61), .val (.ref b69), .val (.int (0 : Int32)), .unset, .unset, .unset] [(.int (0 : Int32)), (.ref b69)])) (fun _ k_ => XS.iload X69.here hx rfl (hb hby at_130) rfl k_) ?_
          refine Go.st (S' := T69.setTop (mkF m 134 #[.val (.int p0), .val (.int p1), .val (.int K.toInt32), .val (.int (3 : Int32)), .val (.ref b61), .val (.ref b69), .val (.int (0 : Int32)), .unset, .unset, .unset] [(.ref b61), (.int (0 : Int32)), (.ref b69)])) (fun _ k_ => XS.aload X69.here hx rfl (hb hby at_132) rfl rfl k_) ?_
          refine Go.st (S' := T69.setTop (mkF m 135 #[.val (.int p0), .val (.int p1), .val (.int K.toInt32), .val (.int (3 : Int32)), .val (.ref b61), .val (.ref b69), .val (.int (0 : Int32)), .unset, .unset, .unset] [(.int (2 : Int32)), (.ref b61), (.int (0 : Int32)), (.ref b69)])) (fun _ k_ => XS.iconst X69.here hx rfl (hb hby at_134) k_) ?_
          refine Go.st (S' := T69.setTop (mkF m 136 #[.val (.int p0), .val (.int p1), .val (.int K.toInt32), .val (.int (3 : Int32)), .val (.ref b61), .val (.ref b69), .val (.int (0 : Int32)), .unset, .unset, .unset] [(.int x2), (.int (0 : Int32)), (.ref b69)])) (A_b61.load X69 hx hZ e69 (j := (2 : Int32)) (v := x2) (by decide) rfl (g := (mkF m 135 #[.val (.int p0), .val (.int p1), .val (.int K.toInt32), .val (.int (3 : Int32)), .val (.ref b61), .val (.ref b69), .val (.int (0 : Int32)), .unset, .unset, .unset] [(.int (2 : Int32)), (.ref b61), (.int (0 : Int32)), (.ref b69)])) rfl rfl (hb hby at_135)) ?_
          obtain ⟨T127, h127, X127, e127, W127, A127, st127⟩ := A_b69.store X69 hx hZ e69 (j := (0 : Int32)) (by decide) (Nat.le_of_ble_eq_true rfl) (g := (mkF m 136 #[.val (.int p0), .val (.int p1), .val (.int K.toInt32), .val (.int (3 : Int32)), .val (.ref b61), .val (.ref b69), .val (.int (0 : Int32)), .unset, .unset, .unset] [(.int x2), (.int (0 : Int32)), (.ref b69)])) rfl rfl (hb hby at_136)
          replace A_b69 : Ai Z h127 b69 .int [x2, (0 : Int32), (0 : Int32), (0 : Int32)] := A127
          replace A_b61 := A_b61.other W127 ne_b61_b69
          replace Z0 := Nat.le_trans Z0 (Keep.of_wr W127).1
          have N127 := Fr.snoc X127 N68 g_b69
          refine Go.st (S' := T127.setTop (mkF m 137 #[.val (.int p0), .val (.int p1), .val (.int K.toInt32), .val (.int (3 : Int32)), .val (.ref b61), .val (.ref b69), .val (.int (0 : Int32)), .unset, .unset, .unset] [])) (st127) ?_
          refine Go.st (S' := T127.setTop (mkF m 140 #[.val (.int p0), .val (.int p1), .val (.int K.toInt32), .val (.int (3 : Int32)), .val (.ref b61), .val (.ref b69), .val (.int ((0 : Int32) + (1 : Int32))), .unset, .unset, .unset] [])) (fun _ k_ => XS.iinc X127.here hx rfl (hb hby at_137) rfl (l' := #[.val (.int p0), .val (.int p1), .val (.int K.toInt32), .val (.int (3 : Int32)), .val (.ref b61), .val (.ref b69), .val (.int ((0 : Int32) + (1 : Int32))), .unset, .unset, .unset]) rfl k_) ?_
          rw [show ((0 : Int32) + (1 : Int32)) = (1 : Int32) from rfl]
          refine Go.st (S' := T127.setTop (mkF m 142 #[.val (.int p0), .val (.int p1), .val (.int K.toInt32), .val (.int (3 : Int32)), .val (.ref b61), .val (.ref b69), .val (.int (1 : Int32)), .unset, .unset, .unset] [(.ref b61)])) (fun _ k_ => XS.aload X127.here hx rfl (hb hby at_140) rfl rfl k_) ?_
          refine Go.st (S' := T127.setTop (mkF m 143 #[.val (.int p0), .val (.int p1), .val (.int K.toInt32), .val (.int (3 : Int32)), .val (.ref b61), .val (.ref b69), .val (.int (1 : Int32)), .unset, .unset, .unset] [(.int (3 : Int32)), (.ref b61)])) (fun _ k_ => XS.iconst X127.here hx rfl (hb hby at_142) k_) ?_
          refine Go.st (S' := T127.setTop (mkF m 144 #[.val (.int p0), .val (.int p1), .val (.int K.toInt32), .val (.int (3 : Int32)), .val (.ref b61), .val (.ref b69), .val (.int (1 : Int32)), .unset, .unset, .unset] [(.int x3)])) (A_b61.load X127 hx hZ e127 (j := (3 : Int32)) (v := x3) (by decide) rfl (g := (mkF m 143 #[.val (.int p0), .val (.int p1), .val (.int K.toInt32), .val (.int (3 : Int32)), .val (.ref b61), .val (.ref b69), .val (.int (1 : Int32)), .unset, .unset, .unset] [(.int (3 : Int32)), (.ref b61)])) rfl rfl (hb hby at_143)) ?_
          refine Go.st (S' := T127.setTop (mkF m 145 #[.val (.int p0), .val (.int p1), .val (.int K.toInt32), .val (.int (3 : Int32)), .val (.ref b61), .val (.ref b69), .val (.int (1 : Int32)), .unset, .unset, .unset] [(.int (3 : Int32)), (.int x3)])) (fun _ k_ => XS.iloadN X127.here hx rfl (hb hby at_144) rfl k_) ?_
          by_cases hc145 : x3 < (3 : Int32)
          · skip
            refine Go.st (S' := T127.setTop (mkF m 148 #[.val (.int p0), .val (.int p1), .val (.int K.toInt32), .val (.int (3 : Int32)), .val (.ref b61), .val (.ref b69), .val (.int (1 : Int32)), .unset, .unset, .unset] [])) (fun _ k_ => XS.icmpNo X127.here hx rfl (hb hby at_145) rfl (tlt hc145).2.1 k_) ?_
            refine Go.st (S' := T127.setTop (mkF m 150 #[.val (.int p0), .val (.int p1), .val (.int K.toInt32), .val (.int (3 : Int32)), .val (.ref b61), .val (.ref b69), .val (.int (1 : Int32)), .unset, .unset, .unset] [(.ref b69)])) (fun _ k_ => XS.aload X127.here hx rfl (hb hby at_148) rfl rfl k_) ?_
            refine Go.st (S' := T127.setTop (mkF m 152 #[.val (.int p0), .val (.int p1), .val (.int K.toInt32), .val (.int (3 : Int32)), .val (.ref b61), .val (.ref b69), .val (.int (1 : Int32)), .unset, .unset, .unset] [(.int (1 : Int32)), (.ref b69)])) (fun _ k_ => XS.iload X127.here hx rfl (hb hby at_150) rfl k_) ?_
            refine Go.st (S' := T127.setTop (mkF m 154 #[.val (.int p0), .val (.int p1), .val (.int K.toInt32), .val (.int (3 : Int32)), .val (.ref b61), .val (.ref b69), .val (.int (1 : Int32)), .unset, .unset, .unset] [(.ref b61), (.int (1 : Int32)), (.ref b69)])) (fun _ k_ => XS.aload X127.here hx rfl (hb hby at_152) rfl rfl k_) ?_
            refine Go.st (S' := T127.setTop (mkF m 155 #[.val (.int p0), .val (.int p1), .val (.int K.toInt32), .val (.int (3 : Int32)), .val (.ref b61), .val (.ref b69), .val (.int (1 : Int32)), .unset, .unset, .unset] [(.int (3 : Int32)), (.ref b61), (.int (1 : Int32)), (.ref b69)])) (fun _ k_ => XS.iconst X127.here hx rfl (hb hby at_154) k_) ?_
            refine Go.st (S' := T127.setTop (mkF m 156 #[.val (.int p0), .val (.int p1), .val (.int K.toInt32), .val (.int (3 : Int32)), .val (.ref b61), .val (.ref b69), .val (.int (1 : Int32)), .unset, .unset, .unset] [(.int x3), (.int (1 : Int32)), (.ref b69)])) (A_b61.load X127 hx hZ e127 (j := (3 : Int32)) (v := x3) (by decide) rfl (g := (mkF m 155 #[.val (.int p0), .val (.int p1), .val (.int K.toInt32), .val (.int (3 : Int32)), .val (.ref b61), .val (.ref b69), .val (.int (1 : Int32)), .unset, .unset, .unset] [(.int (3 : Int32)), (.ref b61), (.int (1 : Int32)), (.ref b69)])) rfl rfl (hb hby at_155)) ?_
            obtain ⟨T128, h128, X128, e128, W128, A128, st128⟩ := A_b69.store X127 hx hZ e127 (j := (1 : Int32)) (by decide) (Nat.le_of_ble_eq_true rfl) (g := (mkF m 156 #[.val (.int p0), .val (.int p1), .val (.int K.toInt32), .val (.int (3 : Int32)), .val (.ref b61), .val (.ref b69), .val (.int (1 : Int32)), .unset, .unset, .unset] [(.int x3), (.int (1 : Int32)), (.ref b69)])) rfl rfl (hb hby at_156)
            replace A_b69 : Ai Z h128 b69 .int [x2, x3, (0 : Int32), (0 : Int32)] := A128
            replace A_b61 := A_b61.other W128 ne_b61_b69
            replace Z0 := Nat.le_trans Z0 (Keep.of_wr W128).1
            have N128 := Fr.snoc X128 N127 g_b69
            refine Go.st (S' := T128.setTop (mkF m 157 #[.val (.int p0), .val (.int p1), .val (.int K.toInt32), .val (.int (3 : Int32)), .val (.ref b61), .val (.ref b69), .val (.int (1 : Int32)), .unset, .unset, .unset] [])) (st128) ?_
            refine Go.st (S' := T128.setTop (mkF m 160 #[.val (.int p0), .val (.int p1), .val (.int K.toInt32), .val (.int (3 : Int32)), .val (.ref b61), .val (.ref b69), .val (.int ((1 : Int32) + (1 : Int32))), .unset, .unset, .unset] [])) (fun _ k_ => XS.iinc X128.here hx rfl (hb hby at_157) rfl (l' := #[.val (.int p0), .val (.int p1), .val (.int K.toInt32), .val (.int (3 : Int32)), .val (.ref b61), .val (.ref b69), .val (.int ((1 : Int32) + (1 : Int32))), .unset, .unset, .unset]) rfl k_) ?_
            rw [show ((1 : Int32) + (1 : Int32)) = (2 : Int32) from rfl]
            have hf2 : own_okb [x2, x3] = true ∧ ([x2, x3] : List Int32).length = 3 := by
              have q := hf
              rw [List.filter_cons, List.filter_cons, List.filter_cons, List.filter_cons, List.filter_nil] at q
              simp only [show (3 : Nat).toInt32 = (3 : Int32) from rfl, hc85, hc105, hc125, hc145, decide_true, decide_false, if_true, if_false, Bool.false_eq_true] at q
              exact q
            exact absurd hf2.2 (by show ¬ (2 = 3); decide)
          · skip
            refine Go.st (S' := T127.setTop (mkF m 160 #[.val (.int p0), .val (.int p1), .val (.int K.toInt32), .val (.int (3 : Int32)), .val (.ref b61), .val (.ref b69), .val (.int (1 : Int32)), .unset, .unset, .unset] [])) (fun _ k_ => XS.icmpYes X127.here hx rfl (pc0 := 145) (pc' := 160) rfl (hb hby at_145) rfl (flt hc145).2.1 (by decide) (by decide) k_) ?_
            have hf2 : own_okb [x2] = true ∧ ([x2] : List Int32).length = 3 := by
              have q := hf
              rw [List.filter_cons, List.filter_cons, List.filter_cons, List.filter_cons, List.filter_nil] at q
              simp only [show (3 : Nat).toInt32 = (3 : Int32) from rfl, hc85, hc105, hc125, hc145, decide_true, decide_false, if_true, if_false, Bool.false_eq_true] at q
              exact q
            exact absurd hf2.2 (by show ¬ (1 = 3); decide)
        · skip
          refine Go.st (S' := T69.setTop (mkF m 140 #[.val (.int p0), .val (.int p1), .val (.int K.toInt32), .val (.int (3 : Int32)), .val (.ref b61), .val (.ref b69), .val (.int (0 : Int32)), .unset, .unset, .unset] [])) (fun _ k_ => XS.icmpYes X69.here hx rfl (pc0 := 125) (pc' := 140) rfl (hb hby at_125) rfl (flt hc125).2.1 (by decide) (by decide) k_) ?_
          refine Go.st (S' := T69.setTop (mkF m 142 #[.val (.int p0), .val (.int p1), .val (.int K.toInt32), .val (.int (3 : Int32)), .val (.ref b61), .val (.ref b69), .val (.int (0 : Int32)), .unset, .unset, .unset] [(.ref b61)])) (fun _ k_ => XS.aload X69.here hx rfl (hb hby at_140) rfl rfl k_) ?_
          refine Go.st (S' := T69.setTop (mkF m 143 #[.val (.int p0), .val (.int p1), .val (.int K.toInt32), .val (.int (3 : Int32)), .val (.ref b61), .val (.ref b69), .val (.int (0 : Int32)), .unset, .unset, .unset] [(.int (3 : Int32)), (.ref b61)])) (fun _ k_ => XS.iconst X69.here hx rfl (hb hby at_142) k_) ?_
          refine Go.st (S' := T69.setTop (mkF m 144 #[.val (.int p0), .val (.int p1), .val (.int K.toInt32), .val (.int (3 : Int32)), .val (.ref b61), .val (.ref b69), .val (.int (0 : Int32)), .unset, .unset, .unset] [(.int x3)])) (A_b61.load X69 hx hZ e69 (j := (3 : Int32)) (v := x3) (by decide) rfl (g := (mkF m 143 #[.val (.int p0), .val (.int p1), .val (.int K.toInt32), .val (.int (3 : Int32)), .val (.ref b61), .val (.ref b69), .val (.int (0 : Int32)), .unset, .unset, .unset] [(.int (3 : Int32)), (.ref b61)])) rfl rfl (hb hby at_143)) ?_
          refine Go.st (S' := T69.setTop (mkF m 145 #[.val (.int p0), .val (.int p1), .val (.int K.toInt32), .val (.int (3 : Int32)), .val (.ref b61), .val (.ref b69), .val (.int (0 : Int32)), .unset, .unset, .unset] [(.int (3 : Int32)), (.int x3)])) (fun _ k_ => XS.iloadN X69.here hx rfl (hb hby at_144) rfl k_) ?_
          by_cases hc145 : x3 < (3 : Int32)
          · skip
            refine Go.st (S' := T69.setTop (mkF m 148 #[.val (.int p0), .val (.int p1), .val (.int K.toInt32), .val (.int (3 : Int32)), .val (.ref b61), .val (.ref b69), .val (.int (0 : Int32)), .unset, .unset, .unset] [])) (fun _ k_ => XS.icmpNo X69.here hx rfl (hb hby at_145) rfl (tlt hc145).2.1 k_) ?_
            refine Go.st (S' := T69.setTop (mkF m 150 #[.val (.int p0), .val (.int p1), .val (.int K.toInt32), .val (.int (3 : Int32)), .val (.ref b61), .val (.ref b69), .val (.int (0 : Int32)), .unset, .unset, .unset] [(.ref b69)])) (fun _ k_ => XS.aload X69.here hx rfl (hb hby at_148) rfl rfl k_) ?_
            refine Go.st (S' := T69.setTop (mkF m 152 #[.val (.int p0), .val (.int p1), .val (.int K.toInt32), .val (.int (3 : Int32)), .val (.ref b61), .val (.ref b69), .val (.int (0 : Int32)), .unset, .unset, .unset] [(.int (0 : Int32)), (.ref b69)])) (fun _ k_ => XS.iload X69.here hx rfl (hb hby at_150) rfl k_) ?_
            refine Go.st (S' := T69.setTop (mkF m 154 #[.val (.int p0), .val (.int p1), .val (.int K.toInt32), .val (.int (3 : Int32)), .val (.ref b61), .val (.ref b69), .val (.int (0 : Int32)), .unset, .unset, .unset] [(.ref b61), (.int (0 : Int32)), (.ref b69)])) (fun _ k_ => XS.aload X69.here hx rfl (hb hby at_152) rfl rfl k_) ?_
            refine Go.st (S' := T69.setTop (mkF m 155 #[.val (.int p0), .val (.int p1), .val (.int K.toInt32), .val (.int (3 : Int32)), .val (.ref b61), .val (.ref b69), .val (.int (0 : Int32)), .unset, .unset, .unset] [(.int (3 : Int32)), (.ref b61), (.int (0 : Int32)), (.ref b69)])) (fun _ k_ => XS.iconst X69.here hx rfl (hb hby at_154) k_) ?_
            refine Go.st (S' := T69.setTop (mkF m 156 #[.val (.int p0), .val (.int p1), .val (.int K.toInt32), .val (.int (3 : Int32)), .val (.ref b61), .val (.ref b69), .val (.int (0 : Int32)), .unset, .unset, .unset] [(.int x3), (.int (0 : Int32)), (.ref b69)])) (A_b61.load X69 hx hZ e69 (j := (3 : Int32)) (v := x3) (by decide) rfl (g := (mkF m 155 #[.val (.int p0), .val (.int p1), .val (.int K.toInt32), .val (.int (3 : Int32)), .val (.ref b61), .val (.ref b69), .val (.int (0 : Int32)), .unset, .unset, .unset] [(.int (3 : Int32)), (.ref b61), (.int (0 : Int32)), (.ref b69)])) rfl rfl (hb hby at_155)) ?_
            obtain ⟨T129, h129, X129, e129, W129, A129, st129⟩ := A_b69.store X69 hx hZ e69 (j := (0 : Int32)) (by decide) (Nat.le_of_ble_eq_true rfl) (g := (mkF m 156 #[.val (.int p0), .val (.int p1), .val (.int K.toInt32), .val (.int (3 : Int32)), .val (.ref b61), .val (.ref b69), .val (.int (0 : Int32)), .unset, .unset, .unset] [(.int x3), (.int (0 : Int32)), (.ref b69)])) rfl rfl (hb hby at_156)
            replace A_b69 : Ai Z h129 b69 .int [x3, (0 : Int32), (0 : Int32), (0 : Int32)] := A129
            replace A_b61 := A_b61.other W129 ne_b61_b69
            replace Z0 := Nat.le_trans Z0 (Keep.of_wr W129).1
            have N129 := Fr.snoc X129 N68 g_b69
            refine Go.st (S' := T129.setTop (mkF m 157 #[.val (.int p0), .val (.int p1), .val (.int K.toInt32), .val (.int (3 : Int32)), .val (.ref b61), .val (.ref b69), .val (.int (0 : Int32)), .unset, .unset, .unset] [])) (st129) ?_
            refine Go.st (S' := T129.setTop (mkF m 160 #[.val (.int p0), .val (.int p1), .val (.int K.toInt32), .val (.int (3 : Int32)), .val (.ref b61), .val (.ref b69), .val (.int ((0 : Int32) + (1 : Int32))), .unset, .unset, .unset] [])) (fun _ k_ => XS.iinc X129.here hx rfl (hb hby at_157) rfl (l' := #[.val (.int p0), .val (.int p1), .val (.int K.toInt32), .val (.int (3 : Int32)), .val (.ref b61), .val (.ref b69), .val (.int ((0 : Int32) + (1 : Int32))), .unset, .unset, .unset]) rfl k_) ?_
            rw [show ((0 : Int32) + (1 : Int32)) = (1 : Int32) from rfl]
            have hf2 : own_okb [x3] = true ∧ ([x3] : List Int32).length = 3 := by
              have q := hf
              rw [List.filter_cons, List.filter_cons, List.filter_cons, List.filter_cons, List.filter_nil] at q
              simp only [show (3 : Nat).toInt32 = (3 : Int32) from rfl, hc85, hc105, hc125, hc145, decide_true, decide_false, if_true, if_false, Bool.false_eq_true] at q
              exact q
            exact absurd hf2.2 (by show ¬ (1 = 3); decide)
          · skip
            refine Go.st (S' := T69.setTop (mkF m 160 #[.val (.int p0), .val (.int p1), .val (.int K.toInt32), .val (.int (3 : Int32)), .val (.ref b61), .val (.ref b69), .val (.int (0 : Int32)), .unset, .unset, .unset] [])) (fun _ k_ => XS.icmpYes X69.here hx rfl (pc0 := 145) (pc' := 160) rfl (hb hby at_145) rfl (flt hc145).2.1 (by decide) (by decide) k_) ?_
            have hf2 : own_okb [] = true ∧ ([] : List Int32).length = 3 := by
              have q := hf
              rw [List.filter_cons, List.filter_cons, List.filter_cons, List.filter_cons, List.filter_nil] at q
              simp only [show (3 : Nat).toInt32 = (3 : Int32) from rfl, hc85, hc105, hc125, hc145, decide_true, decide_false, if_true, if_false, Bool.false_eq_true] at q
              exact q
            exact absurd hf2.2 (by show ¬ (0 = 3); decide)
  · skip
    have hf := hfil 4 (by decide)
    refine Go.st (S' := T69.setTop (mkF m 82 #[.val (.int p0), .val (.int p1), .val (.int K.toInt32), .val (.int (4 : Int32)), .val (.ref b61), .val (.ref b69), .val (.int (0 : Int32)), .unset, .unset, .unset] [(.ref b61)])) (fun _ k_ => XS.aload X69.here hx rfl (hb hby at_80) rfl rfl k_) ?_
    refine Go.st (S' := T69.setTop (mkF m 83 #[.val (.int p0), .val (.int p1), .val (.int K.toInt32), .val (.int (4 : Int32)), .val (.ref b61), .val (.ref b69), .val (.int (0 : Int32)), .unset, .unset, .unset] [(.int (0 : Int32)), (.ref b61)])) (fun _ k_ => XS.iconst X69.here hx rfl (hb hby at_82) k_) ?_
    refine Go.st (S' := T69.setTop (mkF m 84 #[.val (.int p0), .val (.int p1), .val (.int K.toInt32), .val (.int (4 : Int32)), .val (.ref b61), .val (.ref b69), .val (.int (0 : Int32)), .unset, .unset, .unset] [(.int x0)])) (A_b61.load X69 hx hZ e69 (j := (0 : Int32)) (v := x0) (by decide) rfl (g := (mkF m 83 #[.val (.int p0), .val (.int p1), .val (.int K.toInt32), .val (.int (4 : Int32)), .val (.ref b61), .val (.ref b69), .val (.int (0 : Int32)), .unset, .unset, .unset] [(.int (0 : Int32)), (.ref b61)])) rfl rfl (hb hby at_83)) ?_
    refine Go.st (S' := T69.setTop (mkF m 85 #[.val (.int p0), .val (.int p1), .val (.int K.toInt32), .val (.int (4 : Int32)), .val (.ref b61), .val (.ref b69), .val (.int (0 : Int32)), .unset, .unset, .unset] [(.int (4 : Int32)), (.int x0)])) (fun _ k_ => XS.iloadN X69.here hx rfl (hb hby at_84) rfl k_) ?_
    by_cases hc85 : x0 < (4 : Int32)
    · skip
      refine Go.st (S' := T69.setTop (mkF m 88 #[.val (.int p0), .val (.int p1), .val (.int K.toInt32), .val (.int (4 : Int32)), .val (.ref b61), .val (.ref b69), .val (.int (0 : Int32)), .unset, .unset, .unset] [])) (fun _ k_ => XS.icmpNo X69.here hx rfl (hb hby at_85) rfl (tlt hc85).2.1 k_) ?_
      refine Go.st (S' := T69.setTop (mkF m 90 #[.val (.int p0), .val (.int p1), .val (.int K.toInt32), .val (.int (4 : Int32)), .val (.ref b61), .val (.ref b69), .val (.int (0 : Int32)), .unset, .unset, .unset] [(.ref b69)])) (fun _ k_ => XS.aload X69.here hx rfl (hb hby at_88) rfl rfl k_) ?_
      refine Go.st (S' := T69.setTop (mkF m 92 #[.val (.int p0), .val (.int p1), .val (.int K.toInt32), .val (.int (4 : Int32)), .val (.ref b61), .val (.ref b69), .val (.int (0 : Int32)), .unset, .unset, .unset] [(.int (0 : Int32)), (.ref b69)])) (fun _ k_ => XS.iload X69.here hx rfl (hb hby at_90) rfl k_) ?_
      refine Go.st (S' := T69.setTop (mkF m 94 #[.val (.int p0), .val (.int p1), .val (.int K.toInt32), .val (.int (4 : Int32)), .val (.ref b61), .val (.ref b69), .val (.int (0 : Int32)), .unset, .unset, .unset] [(.ref b61), (.int (0 : Int32)), (.ref b69)])) (fun _ k_ => XS.aload X69.here hx rfl (hb hby at_92) rfl rfl k_) ?_
      refine Go.st (S' := T69.setTop (mkF m 95 #[.val (.int p0), .val (.int p1), .val (.int K.toInt32), .val (.int (4 : Int32)), .val (.ref b61), .val (.ref b69), .val (.int (0 : Int32)), .unset, .unset, .unset] [(.int (0 : Int32)), (.ref b61), (.int (0 : Int32)), (.ref b69)])) (fun _ k_ => XS.iconst X69.here hx rfl (hb hby at_94) k_) ?_
      refine Go.st (S' := T69.setTop (mkF m 96 #[.val (.int p0), .val (.int p1), .val (.int K.toInt32), .val (.int (4 : Int32)), .val (.ref b61), .val (.ref b69), .val (.int (0 : Int32)), .unset, .unset, .unset] [(.int x0), (.int (0 : Int32)), (.ref b69)])) (A_b61.load X69 hx hZ e69 (j := (0 : Int32)) (v := x0) (by decide) rfl (g := (mkF m 95 #[.val (.int p0), .val (.int p1), .val (.int K.toInt32), .val (.int (4 : Int32)), .val (.ref b61), .val (.ref b69), .val (.int (0 : Int32)), .unset, .unset, .unset] [(.int (0 : Int32)), (.ref b61), (.int (0 : Int32)), (.ref b69)])) rfl rfl (hb hby at_95)) ?_
      obtain ⟨T130, h130, X130, e130, W130, A130, st130⟩ := A_b69.store X69 hx hZ e69 (j := (0 : Int32)) (by decide) (Nat.le_of_ble_eq_true rfl) (g := (mkF m 96 #[.val (.int p0), .val (.int p1), .val (.int K.toInt32), .val (.int (4 : Int32)), .val (.ref b61), .val (.ref b69), .val (.int (0 : Int32)), .unset, .unset, .unset] [(.int x0), (.int (0 : Int32)), (.ref b69)])) rfl rfl (hb hby at_96)
      replace A_b69 : Ai Z h130 b69 .int [x0, (0 : Int32), (0 : Int32), (0 : Int32)] := A130
      replace A_b61 := A_b61.other W130 ne_b61_b69
      replace Z0 := Nat.le_trans Z0 (Keep.of_wr W130).1
      have N130 := Fr.snoc X130 N68 g_b69
      refine Go.st (S' := T130.setTop (mkF m 97 #[.val (.int p0), .val (.int p1), .val (.int K.toInt32), .val (.int (4 : Int32)), .val (.ref b61), .val (.ref b69), .val (.int (0 : Int32)), .unset, .unset, .unset] [])) (st130) ?_
      refine Go.st (S' := T130.setTop (mkF m 100 #[.val (.int p0), .val (.int p1), .val (.int K.toInt32), .val (.int (4 : Int32)), .val (.ref b61), .val (.ref b69), .val (.int ((0 : Int32) + (1 : Int32))), .unset, .unset, .unset] [])) (fun _ k_ => XS.iinc X130.here hx rfl (hb hby at_97) rfl (l' := #[.val (.int p0), .val (.int p1), .val (.int K.toInt32), .val (.int (4 : Int32)), .val (.ref b61), .val (.ref b69), .val (.int ((0 : Int32) + (1 : Int32))), .unset, .unset, .unset]) rfl k_) ?_
      rw [show ((0 : Int32) + (1 : Int32)) = (1 : Int32) from rfl]
      refine Go.st (S' := T130.setTop (mkF m 102 #[.val (.int p0), .val (.int p1), .val (.int K.toInt32), .val (.int (4 : Int32)), .val (.ref b61), .val (.ref b69), .val (.int (1 : Int32)), .unset, .unset, .unset] [(.ref b61)])) (fun _ k_ => XS.aload X130.here hx rfl (hb hby at_100) rfl rfl k_) ?_
      refine Go.st (S' := T130.setTop (mkF m 103 #[.val (.int p0), .val (.int p1), .val (.int K.toInt32), .val (.int (4 : Int32)), .val (.ref b61), .val (.ref b69), .val (.int (1 : Int32)), .unset, .unset, .unset] [(.int (1 : Int32)), (.ref b61)])) (fun _ k_ => XS.iconst X130.here hx rfl (hb hby at_102) k_) ?_
      refine Go.st (S' := T130.setTop (mkF m 104 #[.val (.int p0), .val (.int p1), .val (.int K.toInt32), .val (.int (4 : Int32)), .val (.ref b61), .val (.ref b69), .val (.int (1 : Int32)), .unset, .unset, .unset] [(.int x1)])) (A_b61.load X130 hx hZ e130 (j := (1 : Int32)) (v := x1) (by decide) rfl (g := (mkF m 103 #[.val (.int p0), .val (.int p1), .val (.int K.toInt32), .val (.int (4 : Int32)), .val (.ref b61), .val (.ref b69), .val (.int (1 : Int32)), .unset, .unset, .unset] [(.int (1 : Int32)), (.ref b61)])) rfl rfl (hb hby at_103)) ?_
      refine Go.st (S' := T130.setTop (mkF m 105 #[.val (.int p0), .val (.int p1), .val (.int K.toInt32), .val (.int (4 : Int32)), .val (.ref b61), .val (.ref b69), .val (.int (1 : Int32)), .unset, .unset, .unset] [(.int (4 : Int32)), (.int x1)])) (fun _ k_ => XS.iloadN X130.here hx rfl (hb hby at_104) rfl k_) ?_
      by_cases hc105 : x1 < (4 : Int32)
      · skip
        refine Go.st (S' := T130.setTop (mkF m 108 #[.val (.int p0), .val (.int p1), .val (.int K.toInt32), .val (.int (4 : Int32)), .val (.ref b61), .val (.ref b69), .val (.int (1 : Int32)), .unset, .unset, .unset] [])) (fun _ k_ => XS.icmpNo X130.here hx rfl (hb hby at_105) rfl (tlt hc105).2.1 k_) ?_
        refine Go.st (S' := T130.setTop (mkF m 110 #[.val (.int p0), .val (.int p1), .val (.int K.toInt32), .val (.int (4 : Int32)), .val (.ref b61), .val (.ref b69), .val (.int (1 : Int32)), .unset, .unset, .unset] [(.ref b69)])) (fun _ k_ => XS.aload X130.here hx rfl (hb hby at_108) rfl rfl k_) ?_
        refine Go.st (S' := T130.setTop (mkF m 112 #[.val (.int p0), .val (.int p1), .val (.int K.toInt32), .val (.int (4 : Int32)), .val (.ref b61), .val (.ref b69), .val (.int (1 : Int32)), .unset, .unset, .unset] [(.int (1 : Int32)), (.ref b69)])) (fun _ k_ => XS.iload X130.here hx rfl (hb hby at_110) rfl k_) ?_
        refine Go.st (S' := T130.setTop (mkF m 114 #[.val (.int p0), .val (.int p1), .val (.int K.toInt32), .val (.int (4 : Int32)), .val (.ref b61), .val (.ref b69), .val (.int (1 : Int32)), .unset, .unset, .unset] [(.ref b61), (.int (1 : Int32)), (.ref b69)])) (fun _ k_ => XS.aload X130.here hx rfl (hb hby at_112) rfl rfl k_) ?_
        refine Go.st (S' := T130.setTop (mkF m 115 #[.val (.int p0), .val (.int p1), .val (.int K.toInt32), .val (.int (4 : Int32)), .val (.ref b61), .val (.ref b69), .val (.int (1 : Int32)), .unset, .unset, .unset] [(.int (1 : Int32)), (.ref b61), (.int (1 : Int32)), (.ref b69)])) (fun _ k_ => XS.iconst X130.here hx rfl (hb hby at_114) k_) ?_
        refine Go.st (S' := T130.setTop (mkF m 116 #[.val (.int p0), .val (.int p1), .val (.int K.toInt32), .val (.int (4 : Int32)), .val (.ref b61), .val (.ref b69), .val (.int (1 : Int32)), .unset, .unset, .unset] [(.int x1), (.int (1 : Int32)), (.ref b69)])) (A_b61.load X130 hx hZ e130 (j := (1 : Int32)) (v := x1) (by decide) rfl (g := (mkF m 115 #[.val (.int p0), .val (.int p1), .val (.int K.toInt32), .val (.int (4 : Int32)), .val (.ref b61), .val (.ref b69), .val (.int (1 : Int32)), .unset, .unset, .unset] [(.int (1 : Int32)), (.ref b61), (.int (1 : Int32)), (.ref b69)])) rfl rfl (hb hby at_115)) ?_
        obtain ⟨T131, h131, X131, e131, W131, A131, st131⟩ := A_b69.store X130 hx hZ e130 (j := (1 : Int32)) (by decide) (Nat.le_of_ble_eq_true rfl) (g := (mkF m 116 #[.val (.int p0), .val (.int p1), .val (.int K.toInt32), .val (.int (4 : Int32)), .val (.ref b61), .val (.ref b69), .val (.int (1 : Int32)), .unset, .unset, .unset] [(.int x1), (.int (1 : Int32)), (.ref b69)])) rfl rfl (hb hby at_116)
        replace A_b69 : Ai Z h131 b69 .int [x0, x1, (0 : Int32), (0 : Int32)] := A131
        replace A_b61 := A_b61.other W131 ne_b61_b69
        replace Z0 := Nat.le_trans Z0 (Keep.of_wr W131).1
        have N131 := Fr.snoc X131 N130 g_b69
        refine Go.st (S' := T131.setTop (mkF m 117 #[.val (.int p0), .val (.int p1), .val (.int K.toInt32), .val (.int (4 : Int32)), .val (.ref b61), .val (.ref b69), .val (.int (1 : Int32)), .unset, .unset, .unset] [])) (st131) ?_
        refine Go.st (S' := T131.setTop (mkF m 120 #[.val (.int p0), .val (.int p1), .val (.int K.toInt32), .val (.int (4 : Int32)), .val (.ref b61), .val (.ref b69), .val (.int ((1 : Int32) + (1 : Int32))), .unset, .unset, .unset] [])) (fun _ k_ => XS.iinc X131.here hx rfl (hb hby at_117) rfl (l' := #[.val (.int p0), .val (.int p1), .val (.int K.toInt32), .val (.int (4 : Int32)), .val (.ref b61), .val (.ref b69), .val (.int ((1 : Int32) + (1 : Int32))), .unset, .unset, .unset]) rfl k_) ?_
        rw [show ((1 : Int32) + (1 : Int32)) = (2 : Int32) from rfl]
        refine Go.st (S' := T131.setTop (mkF m 122 #[.val (.int p0), .val (.int p1), .val (.int K.toInt32), .val (.int (4 : Int32)), .val (.ref b61), .val (.ref b69), .val (.int (2 : Int32)), .unset, .unset, .unset] [(.ref b61)])) (fun _ k_ => XS.aload X131.here hx rfl (hb hby at_120) rfl rfl k_) ?_
        refine Go.st (S' := T131.setTop (mkF m 123 #[.val (.int p0), .val (.int p1), .val (.int K.toInt32), .val (.int (4 : Int32)), .val (.ref b61), .val (.ref b69), .val (.int (2 : Int32)), .unset, .unset, .unset] [(.int (2 : Int32)), (.ref b61)])) (fun _ k_ => XS.iconst X131.here hx rfl (hb hby at_122) k_) ?_
        refine Go.st (S' := T131.setTop (mkF m 124 #[.val (.int p0), .val (.int p1), .val (.int K.toInt32), .val (.int (4 : Int32)), .val (.ref b61), .val (.ref b69), .val (.int (2 : Int32)), .unset, .unset, .unset] [(.int x2)])) (A_b61.load X131 hx hZ e131 (j := (2 : Int32)) (v := x2) (by decide) rfl (g := (mkF m 123 #[.val (.int p0), .val (.int p1), .val (.int K.toInt32), .val (.int (4 : Int32)), .val (.ref b61), .val (.ref b69), .val (.int (2 : Int32)), .unset, .unset, .unset] [(.int (2 : Int32)), (.ref b61)])) rfl rfl (hb hby at_123)) ?_
        refine Go.st (S' := T131.setTop (mkF m 125 #[.val (.int p0), .val (.int p1), .val (.int K.toInt32), .val (.int (4 : Int32)), .val (.ref b61), .val (.ref b69), .val (.int (2 : Int32)), .unset, .unset, .unset] [(.int (4 : Int32)), (.int x2)])) (fun _ k_ => XS.iloadN X131.here hx rfl (hb hby at_124) rfl k_) ?_
        by_cases hc125 : x2 < (4 : Int32)
        · skip
          refine Go.st (S' := T131.setTop (mkF m 128 #[.val (.int p0), .val (.int p1), .val (.int K.toInt32), .val (.int (4 : Int32)), .val (.ref b61), .val (.ref b69), .val (.int (2 : Int32)), .unset, .unset, .unset] [])) (fun _ k_ => XS.icmpNo X131.here hx rfl (hb hby at_125) rfl (tlt hc125).2.1 k_) ?_
          refine Go.st (S' := T131.setTop (mkF m 130 #[.val (.int p0), .val (.int p1), .val (.int K.toInt32), .val (.int (4 : Int32)), .val (.ref b61), .val (.ref b69), .val (.int (2 : Int32)), .unset, .unset, .unset] [(.ref b69)])) (fun _ k_ => XS.aload X131.here hx rfl (hb hby at_128) rfl rfl k_) ?_
          refine Go.st (S' := T131.setTop (mkF m 132 #[.val (.int p0), .val (.int p1), .val (.int K.toInt32), .val (.int (4 : Int32)), .val (.ref b61), .val (.ref b69), .val (.int (2 : Int32)), .unset, .unset, .unset] [(.int (2 : Int32)), (.ref b69)])) (fun _ k_ => XS.iload X131.here hx rfl (hb hby at_130) rfl k_) ?_
          refine Go.st (S' := T131.setTop (mkF m 134 #[.val (.int p0), .val (.int p1), .val (.int K.toInt32), .val (.int (4 : Int32)), .val (.ref b61), .val (.ref b69), .val (.int (2 : Int32)), .unset, .unset, .unset] [(.ref b61), (.int (2 : Int32)), (.ref b69)])) (fun _ k_ => XS.aload X131.here hx rfl (hb hby at_132) rfl rfl k_) ?_
          refine Go.st (S' := T131.setTop (mkF m 135 #[.val (.int p0), .val (.int p1), .val (.int K.toInt32), .val (.int (4 : Int32)), .val (.ref b61), .val (.ref b69), .val (.int (2 : Int32)), .unset, .unset, .unset] [(.int (2 : Int32)), (.ref b61), (.int (2 : Int32)), (.ref b69)])) (fun _ k_ => XS.iconst X131.here hx rfl (hb hby at_134) k_) ?_
          refine Go.st (S' := T131.setTop (mkF m 136 #[.val (.int p0), .val (.int p1), .val (.int K.toInt32), .val (.int (4 : Int32)), .val (.ref b61), .val (.ref b69), .val (.int (2 : Int32)), .unset, .unset, .unset] [(.int x2), (.int (2 : Int32)), (.ref b69)])) (A_b61.load X131 hx hZ e131 (j := (2 : Int32)) (v := x2) (by decide) rfl (g := (mkF m 135 #[.val (.int p0), .val (.int p1), .val (.int K.toInt32), .val (.int (4 : Int32)), .val (.ref b61), .val (.ref b69), .val (.int (2 : Int32)), .unset, .unset, .unset] [(.int (2 : Int32)), (.ref b61), (.int (2 : Int32)), (.ref b69)])) rfl rfl (hb hby at_135)) ?_
          obtain ⟨T132, h132, X132, e132, W132, A132, st132⟩ := A_b69.store X131 hx hZ e131 (j := (2 : Int32)) (by decide) (Nat.le_of_ble_eq_true rfl) (g := (mkF m 136 #[.val (.int p0), .val (.int p1), .val (.int K.toInt32), .val (.int (4 : Int32)), .val (.ref b61), .val (.ref b69), .val (.int (2 : Int32)), .unset, .unset, .unset] [(.int x2), (.int (2 : Int32)), (.ref b69)])) rfl rfl (hb hby at_136)
          replace A_b69 : Ai Z h132 b69 .int [x0, x1, x2, (0 : Int32)] := A132
          replace A_b61 := A_b61.other W132 ne_b61_b69
          replace Z0 := Nat.le_trans Z0 (Keep.of_wr W132).1
          have N132 := Fr.snoc X132 N131 g_b69
          refine Go.st (S' := T132.setTop (mkF m 137 #[.val (.int p0), .val (.int p1), .val (.int K.toInt32), .val (.int (4 : Int32)), .val (.ref b61), .val (.ref b69), .val (.int (2 : Int32)), .unset, .unset, .unset] [])) (st132) ?_
          refine Go.st (S' := T132.setTop (mkF m 140 #[.val (.int p0), .val (.int p1), .val (.int K.toInt32), .val (.int (4 : Int32)), .val (.ref b61), .val (.ref b69), .val (.int ((2 : Int32) + (1 : Int32))), .unset, .unset, .unset] [])) (fun _ k_ => XS.iinc X132.here hx rfl (hb hby at_137) rfl (l' := #[.val (.int p0), .val (.int p1), .val (.int K.toInt32), .val (.int (4 : Int32)), .val (.ref b61), .val (.ref b69), .val (.int ((2 : Int32) + (1 : Int32))), .unset, .unset, .unset]) rfl k_) ?_
          rw [show ((2 : Int32) + (1 : Int32)) = (3 : Int32) from rfl]
          refine Go.st (S' := T132.setTop (mkF m 142 #[.val (.int p0), .val (.int p1), .val (.int K.toInt32), .val (.int (4 : Int32)), .val (.ref b61), .val (.ref b69), .val (.int (3 : Int32)), .unset, .unset, .unset] [(.ref b61)])) (fun _ k_ => XS.aload X132.here hx rfl (hb hby at_140) rfl rfl k_) ?_
          refine Go.st (S' := T132.setTop (mkF m 143 #[.val (.int p0), .val (.int p1), .val (.int K.toInt32), .val (.int (4 : Int32)), .val (.ref b61), .val (.ref b69), .val (.int (3 : Int32)), .unset, .unset, .unset] [(.int (3 : Int32)), (.ref b61)])) (fun _ k_ => XS.iconst X132.here hx rfl (hb hby at_142) k_) ?_
          refine Go.st (S' := T132.setTop (mkF m 144 #[.val (.int p0), .val (.int p1), .val (.int K.toInt32), .val (.int (4 : Int32)), .val (.ref b61), .val (.ref b69), .val (.int (3 : Int32)), .unset, .unset, .unset] [(.int x3)])) (A_b61.load X132 hx hZ e132 (j := (3 : Int32)) (v := x3) (by decide) rfl (g := (mkF m 143 #[.val (.int p0), .val (.int p1), .val (.int K.toInt32), .val (.int (4 : Int32)), .val (.ref b61), .val (.ref b69), .val (.int (3 : Int32)), .unset, .unset, .unset] [(.int (3 : Int32)), (.ref b61)])) rfl rfl (hb hby at_143)) ?_
          refine Go.st (S' := T132.setTop (mkF m 145 #[.val (.int p0), .val (.int p1), .val (.int K.toInt32), .val (.int (4 : Int32)), .val (.ref b61), .val (.ref b69), .val (.int (3 : Int32)), .unset, .unset, .unset] [(.int (4 : Int32)), (.int x3)])) (fun _ k_ => XS.iloadN X132.here hx rfl (hb hby at_144) rfl k_) ?_
          by_cases hc145 : x3 < (4 : Int32)
          · skip
            refine Go.st (S' := T132.setTop (mkF m 148 #[.val (.int p0), .val (.int p1), .val (.int K.toInt32), .val (.int (4 : Int32)), .val (.ref b61), .val (.ref b69), .val (.int (3 : Int32)), .unset, .unset, .unset] [])) (fun _ k_ => XS.icmpNo X132.here hx rfl (hb hby at_145) rfl (tlt hc145).2.1 k_) ?_
            refine Go.st (S' := T132.setTop (mkF m 150 #[.val (.int p0), .val (.int p1), .val (.int K.toInt32), .val (.int (4 : Int32)), .val (.ref b61), .val (.ref b69), .val (.int (3 : Int32)), .unset, .unset, .unset] [(.ref b69)])) (fun _ k_ => XS.aload X132.here hx rfl (hb hby at_148) rfl rfl k_) ?_
            refine Go.st (S' := T132.setTop (mkF m 152 #[.val (.int p0), .val (.int p1), .val (.int K.toInt32), .val (.int (4 : Int32)), .val (.ref b61), .val (.ref b69), .val (.int (3 : Int32)), .unset, .unset, .unset] [(.int (3 : Int32)), (.ref b69)])) (fun _ k_ => XS.iload X132.here hx rfl (hb hby at_150) rfl k_) ?_
            refine Go.st (S' := T132.setTop (mkF m 154 #[.val (.int p0), .val (.int p1), .val (.int K.toInt32), .val (.int (4 : Int32)), .val (.ref b61), .val (.ref b69), .val (.int (3 : Int32)), .unset, .unset, .unset] [(.ref b61), (.int (3 : Int32)), (.ref b69)])) (fun _ k_ => XS.aload X132.here hx rfl (hb hby at_152) rfl rfl k_) ?_
            refine Go.st (S' := T132.setTop (mkF m 155 #[.val (.int p0), .val (.int p1), .val (.int K.toInt32), .val (.int (4 : Int32)), .val (.ref b61), .val (.ref b69), .val (.int (3 : Int32)), .unset, .unset, .unset] [(.int (3 : Int32)), (.ref b61), (.int (3 : Int32)), (.ref b69)])) (fun _ k_ => XS.iconst X132.here hx rfl (hb hby at_154) k_) ?_
            refine Go.st (S' := T132.setTop (mkF m 156 #[.val (.int p0), .val (.int p1), .val (.int K.toInt32), .val (.int (4 : Int32)), .val (.ref b61), .val (.ref b69), .val (.int (3 : Int32)), .unset, .unset, .unset] [(.int x3), (.int (3 : Int32)), (.ref b69)])) (A_b61.load X132 hx hZ e132 (j := (3 : Int32)) (v := x3) (by decide) rfl (g := (mkF m 155 #[.val (.int p0), .val (.int p1), .val (.int K.toInt32), .val (.int (4 : Int32)), .val (.ref b61), .val (.ref b69), .val (.int (3 : Int32)), .unset, .unset, .unset] [(.int (3 : Int32)), (.ref b61), (.int (3 : Int32)), (.ref b69)])) rfl rfl (hb hby at_155)) ?_
            obtain ⟨T133, h133, X133, e133, W133, A133, st133⟩ := A_b69.store X132 hx hZ e132 (j := (3 : Int32)) (by decide) (Nat.le_of_ble_eq_true rfl) (g := (mkF m 156 #[.val (.int p0), .val (.int p1), .val (.int K.toInt32), .val (.int (4 : Int32)), .val (.ref b61), .val (.ref b69), .val (.int (3 : Int32)), .unset, .unset, .unset] [(.int x3), (.int (3 : Int32)), (.ref b69)])) rfl rfl (hb hby at_156)
            replace A_b69 : Ai Z h133 b69 .int [x0, x1, x2, x3] := A133
            replace A_b61 := A_b61.other W133 ne_b61_b69
            replace Z0 := Nat.le_trans Z0 (Keep.of_wr W133).1
            have N133 := Fr.snoc X133 N132 g_b69
            refine Go.st (S' := T133.setTop (mkF m 157 #[.val (.int p0), .val (.int p1), .val (.int K.toInt32), .val (.int (4 : Int32)), .val (.ref b61), .val (.ref b69), .val (.int (3 : Int32)), .unset, .unset, .unset] [])) (st133) ?_
            refine Go.st (S' := T133.setTop (mkF m 160 #[.val (.int p0), .val (.int p1), .val (.int K.toInt32), .val (.int (4 : Int32)), .val (.ref b61), .val (.ref b69), .val (.int ((3 : Int32) + (1 : Int32))), .unset, .unset, .unset] [])) (fun _ k_ => XS.iinc X133.here hx rfl (hb hby at_157) rfl (l' := #[.val (.int p0), .val (.int p1), .val (.int K.toInt32), .val (.int (4 : Int32)), .val (.ref b61), .val (.ref b69), .val (.int ((3 : Int32) + (1 : Int32))), .unset, .unset, .unset]) rfl k_) ?_
            rw [show ((3 : Int32) + (1 : Int32)) = (4 : Int32) from rfl]
            have hf2 : own_okb [x0, x1, x2, x3] = true ∧ ([x0, x1, x2, x3] : List Int32).length = 4 := by
              have q := hf
              rw [List.filter_cons, List.filter_cons, List.filter_cons, List.filter_cons, List.filter_nil] at q
              simp only [show (4 : Nat).toInt32 = (4 : Int32) from rfl, hc85, hc105, hc125, hc145, decide_true, decide_false, if_true, if_false, Bool.false_eq_true] at q
              exact q
            exact J4 _ _ _ _ _ (X133.more (by decide) (by decide)) e133 N133 Z0 b61 b69 x0 x1 x2 x3 A_b69 g_b69 (own_ok_of hf2.1)
          · skip
            refine Go.st (S' := T132.setTop (mkF m 160 #[.val (.int p0), .val (.int p1), .val (.int K.toInt32), .val (.int (4 : Int32)), .val (.ref b61), .val (.ref b69), .val (.int (3 : Int32)), .unset, .unset, .unset] [])) (fun _ k_ => XS.icmpYes X132.here hx rfl (pc0 := 145) (pc' := 160) rfl (hb hby at_145) rfl (flt hc145).2.1 (by decide) (by decide) k_) ?_
            have hf2 : own_okb [x0, x1, x2] = true ∧ ([x0, x1, x2] : List Int32).length = 4 := by
              have q := hf
              rw [List.filter_cons, List.filter_cons, List.filter_cons, List.filter_cons, List.filter_nil] at q
              simp only [show (4 : Nat).toInt32 = (4 : Int32) from rfl, hc85, hc105, hc125, hc145, decide_true, decide_false, if_true, if_false, Bool.false_eq_true] at q
              exact q
            exact absurd hf2.2 (by show ¬ (3 = 4); decide)
        · skip
          refine Go.st (S' := T131.setTop (mkF m 140 #[.val (.int p0), .val (.int p1), .val (.int K.toInt32), .val (.int (4 : Int32)), .val (.ref b61), .val (.ref b69), .val (.int (2 : Int32)), .unset, .unset, .unset] [])) (fun _ k_ => XS.icmpYes X131.here hx rfl (pc0 := 125) (pc' := 140) rfl (hb hby at_125) rfl (flt hc125).2.1 (by decide) (by decide) k_) ?_
          refine Go.st (S' := T131.setTop (mkF m 142 #[.val (.int p0), .val (.int p1), .val (.int K.toInt32), .val (.int (4 : Int32)), .val (.ref b61), .val (.ref b69), .val (.int (2 : Int32)), .unset, .unset, .unset] [(.ref b61)])) (fun _ k_ => XS.aload X131.here hx rfl (hb hby at_140) rfl rfl k_) ?_
          refine Go.st (S' := T131.setTop (mkF m 143 #[.val (.int p0), .val (.int p1), .val (.int K.toInt32), .val (.int (4 : Int32)), .val (.ref b61), .val (.ref b69), .val (.int (2 : Int32)), .unset, .unset, .unset] [(.int (3 : Int32)), (.ref b61)])) (fun _ k_ => XS.iconst X131.here hx rfl (hb hby at_142) k_) ?_
          refine Go.st (S' := T131.setTop (mkF m 144 #[.val (.int p0), .val (.int p1), .val (.int K.toInt32), .val (.int (4 : Int32)), .val (.ref b61), .val (.ref b69), .val (.int (2 : Int32)), .unset, .unset, .unset] [(.int x3)])) (A_b61.load X131 hx hZ e131 (j := (3 : Int32)) (v := x3) (by decide) rfl (g := (mkF m 143 #[.val (.int p0), .val (.int p1), .val (.int K.toInt32), .val (.int (4 : Int32)), .val (.ref b61), .val (.ref b69), .val (.int (2 : Int32)), .unset, .unset, .unset] [(.int (3 : Int32)), (.ref b61)])) rfl rfl (hb hby at_143)) ?_
          refine Go.st (S' := T131.setTop (mkF m 145 #[.val (.int p0), .val (.int p1), .val (.int K.toInt32), .val (.int (4 : Int32)), .val (.ref b61), .val (.ref b69), .val (.int (2 : Int32)), .unset, .unset, .unset] [(.int (4 : Int32)), (.int x3)])) (fun _ k_ => XS.iloadN X131.here hx rfl (hb hby at_144) rfl k_) ?_
          by_cases hc145 : x3 < (4 : Int32)
          · skip
            refine Go.st (S' := T131.setTop (mkF m 148 #[.val (.int p0), .val (.int p1), .val (.int K.toInt32), .val (.int (4 : Int32)), .val (.ref b61), .val (.ref b69), .val (.int (2 : Int32)), .unset, .unset, .unset] [])) (fun _ k_ => XS.icmpNo X131.here hx rfl (hb hby at_145) rfl (tlt hc145).2.1 k_) ?_
            refine Go.st (S' := T131.setTop (mkF m 150 #[.val (.int p0), .val (.int p1), .val (.int K.toInt32), .val (.int (4 : Int32)), .val (.ref b61), .val (.ref b69), .val (.int (2 : Int32)), .unset, .unset, .unset] [(.ref b69)])) (fun _ k_ => XS.aload X131.here hx rfl (hb hby at_148) rfl rfl k_) ?_
            refine Go.st (S' := T131.setTop (mkF m 152 #[.val (.int p0), .val (.int p1), .val (.int K.toInt32), .val (.int (4 : Int32)), .val (.ref b61), .val (.ref b69), .val (.int (2 : Int32)), .unset, .unset, .unset] [(.int (2 : Int32)), (.ref b69)])) (fun _ k_ => XS.iload X131.here hx rfl (hb hby at_150) rfl k_) ?_
            refine Go.st (S' := T131.setTop (mkF m 154 #[.val (.int p0), .val (.int p1), .val (.int K.toInt32), .val (.int (4 : Int32)), .val (.ref b61), .val (.ref b69), .val (.int (2 : Int32)), .unset, .unset, .unset] [(.ref b61), (.int (2 : Int32)), (.ref b69)])) (fun _ k_ => XS.aload X131.here hx rfl (hb hby at_152) rfl rfl k_) ?_
            refine Go.st (S' := T131.setTop (mkF m 155 #[.val (.int p0), .val (.int p1), .val (.int K.toInt32), .val (.int (4 : Int32)), .val (.ref b61), .val (.ref b69), .val (.int (2 : Int32)), .unset, .unset, .unset] [(.int (3 : Int32)), (.ref b61), (.int (2 : Int32)), (.ref b69)])) (fun _ k_ => XS.iconst X131.here hx rfl (hb hby at_154) k_) ?_
            refine Go.st (S' := T131.setTop (mkF m 156 #[.val (.int p0), .val (.int p1), .val (.int K.toInt32), .val (.int (4 : Int32)), .val (.ref b61), .val (.ref b69), .val (.int (2 : Int32)), .unset, .unset, .unset] [(.int x3), (.int (2 : Int32)), (.ref b69)])) (A_b61.load X131 hx hZ e131 (j := (3 : Int32)) (v := x3) (by decide) rfl (g := (mkF m 155 #[.val (.int p0), .val (.int p1), .val (.int K.toInt32), .val (.int (4 : Int32)), .val (.ref b61), .val (.ref b69), .val (.int (2 : Int32)), .unset, .unset, .unset] [(.int (3 : Int32)), (.ref b61), (.int (2 : Int32)), (.ref b69)])) rfl rfl (hb hby at_155)) ?_
            obtain ⟨T134, h134, X134, e134, W134, A134, st134⟩ := A_b69.store X131 hx hZ e131 (j := (2 : Int32)) (by decide) (Nat.le_of_ble_eq_true rfl) (g := (mkF m 156 #[.val (.int p0), .val (.int p1), .val (.int K.toInt32), .val (.int (4 : Int32)), .val (.ref b61), .val (.ref b69), .val (.int (2 : Int32)), .unset, .unset, .unset] [(.int x3), (.int (2 : Int32)), (.ref b69)])) rfl rfl (hb hby at_156)
            replace A_b69 : Ai Z h134 b69 .int [x0, x1, x3, (0 : Int32)] := A134
            replace A_b61 := A_b61.other W134 ne_b61_b69
            replace Z0 := Nat.le_trans Z0 (Keep.of_wr W134).1
            have N134 := Fr.snoc X134 N131 g_b69
            refine Go.st (S' := T134.setTop (mkF m 157 #[.val (.int p0), .val (.int p1), .val (.int K.toInt32), .val (.int (4 : Int32)), .val (.ref b61), .val (.ref b69), .val (.int (2 : Int32)), .unset, .unset, .unset] [])) (st134) ?_
            refine Go.st (S' := T134.setTop (mkF m 160 #[.val (.int p0), .val (.int p1), .val (.int K.toInt32), .val (.int (4 : Int32)), .val (.ref b61), .val (.ref b69), .val (.int ((2 : Int32) + (1 : Int32))), .unset, .unset, .unset] [])) (fun _ k_ => XS.iinc X134.here hx rfl (hb hby at_157) rfl (l' := #[.val (.int p0), .val (.int p1), .val (.int K.toInt32), .val (.int (4 : Int32)), .val (.ref b61), .val (.ref b69), .val (.int ((2 : Int32) + (1 : Int32))), .unset, .unset, .unset]) rfl k_) ?_
            rw [show ((2 : Int32) + (1 : Int32)) = (3 : Int32) from rfl]
            have hf2 : own_okb [x0, x1, x3] = true ∧ ([x0, x1, x3] : List Int32).length = 4 := by
              have q := hf
              rw [List.filter_cons, List.filter_cons, List.filter_cons, List.filter_cons, List.filter_nil] at q
              simp only [show (4 : Nat).toInt32 = (4 : Int32) from rfl, hc85, hc105, hc125, hc145, decide_true, decide_false, if_true, if_false, Bool.false_eq_true] at q
              exact q
            exact absurd hf2.2 (by show ¬ (3 = 4); decide)
          · skip
            refine Go.st (S' := T131.setTop (mkF m 160 #[.val (.int p0), .val (.int p1), .val (.int K.toInt32), .val (.int (4 : Int32)), .val (.ref b61), .val (.ref b69), .val (.int (2 : Int32)), .unset, .unset, .unset] [])) (fun _ k_ => XS.icmpYes X131.here hx rfl (pc0 := 145) (pc' := 160) rfl (hb hby at_145) rfl (flt hc145).2.1 (by decide) (by decide) k_) ?_
            have hf2 : own_okb [x0, x1] = true ∧ ([x0, x1] : List Int32).length = 4 := by
              have q := hf
              rw [List.filter_cons, List.filter_cons, List.filter_cons, List.filter_cons, List.filter_nil] at q
              simp only [show (4 : Nat).toInt32 = (4 : Int32) from rfl, hc85, hc105, hc125, hc145, decide_true, decide_false, if_true, if_false, Bool.false_eq_true] at q
              exact q
            exact absurd hf2.2 (by show ¬ (2 = 4); decide)
      · skip
        refine Go.st (S' := T130.setTop (mkF m 120 #[.val (.int p0), .val (.int p1), .val (.int K.toInt32), .val (.int (4 : Int32)), .val (.ref b61), .val (.ref b69), .val (.int (1 : Int32)), .unset, .unset, .unset] [])) (fun _ k_ => XS.icmpYes X130.here hx rfl (pc0 := 105) (pc' := 120) rfl (hb hby at_105) rfl (flt hc105).2.1 (by decide) (by decide) k_) ?_
        refine Go.st (S' := T130.setTop (mkF m 122 #[.val (.int p0), .val (.int p1), .val (.int K.toInt32), .val (.int (4 : Int32)), .val (.ref b61), .val (.ref b69), .val (.int (1 : Int32)), .unset, .unset, .unset] [(.ref b61)])) (fun _ k_ => XS.aload X130.here hx rfl (hb hby at_120) rfl rfl k_) ?_
        refine Go.st (S' := T130.setTop (mkF m 123 #[.val (.int p0), .val (.int p1), .val (.int K.toInt32), .val (.int (4 : Int32)), .val (.ref b61), .val (.ref b69), .val (.int (1 : Int32)), .unset, .unset, .unset] [(.int (2 : Int32)), (.ref b61)])) (fun _ k_ => XS.iconst X130.here hx rfl (hb hby at_122) k_) ?_
        refine Go.st (S' := T130.setTop (mkF m 124 #[.val (.int p0), .val (.int p1), .val (.int K.toInt32), .val (.int (4 : Int32)), .val (.ref b61), .val (.ref b69), .val (.int (1 : Int32)), .unset, .unset, .unset] [(.int x2)])) (A_b61.load X130 hx hZ e130 (j := (2 : Int32)) (v := x2) (by decide) rfl (g := (mkF m 123 #[.val (.int p0), .val (.int p1), .val (.int K.toInt32), .val (.int (4 : Int32)), .val (.ref b61), .val (.ref b69), .val (.int (1 : Int32)), .unset, .unset, .unset] [(.int (2 : Int32)), (.ref b61)])) rfl rfl (hb hby at_123)) ?_
        refine Go.st (S' := T130.setTop (mkF m 125 #[.val (.int p0), .val (.int p1), .val (.int K.toInt32), .val (.int (4 : Int32)), .val (.ref b61), .val (.ref b69), .val (.int (1 : Int32)), .unset, .unset, .unset] [(.int (4 : Int32)), (.int x2)])) (fun _ k_ => XS.iloadN X130.here hx rfl (hb hby at_124) rfl k_) ?_
        by_cases hc125 : x2 < (4 : Int32)
        · skip
          refine Go.st (S' := T130.setTop (mkF m 128 #[.val (.int p0), .val (.int p1), .val (.int K.toInt32), .val (.int (4 : Int32)), .val (.ref b61), .val (.ref b69), .val (.int (1 : Int32)), .unset, .unset, .unset] [])) (fun _ k_ => XS.icmpNo X130.here hx rfl (hb hby at_125) rfl (tlt hc125).2.1 k_) ?_
          refine Go.st (S' := T130.setTop (mkF m 130 #[.val (.int p0), .val (.int p1), .val (.int K.toInt32), .val (.int (4 : Int32)), .val (.ref b61), .val (.ref b69), .val (.int (1 : Int32)), .unset, .unset, .unset] [(.ref b69)])) (fun _ k_ => XS.aload X130.here hx rfl (hb hby at_128) rfl rfl k_) ?_
          refine Go.st (S' := T130.setTop (mkF m 132 #[.val (.int p0), .val (.int p1), .val (.int K.toInt32), .val (.int (4 : Int32)), .val (.ref b61), .val (.ref b69), .val (.int (1 : Int32)), .unset, .unset, .unset] [(.int (1 : Int32)), (.ref b69)])) (fun _ k_ => XS.iload X130.here hx rfl (hb hby at_130) rfl k_) ?_
          refine Go.st (S' := T130.setTop (mkF m 134 #[.val (.int p0), .val (.int p1), .val (.int K.toInt32), .val (.int (4 : Int32)), .val (.ref b61), .val (.ref b69), .val (.int (1 : Int32)), .unset, .unset, .unset] [(.ref b61), (.int (1 : Int32)), (.ref b69)])) (fun _ k_ => XS.aload X130.here hx rfl (hb hby at_132) rfl rfl k_) ?_
          refine Go.st (S' := T130.setTop (mkF m 135 #[.val (.int p0), .val (.int p1), .val (.int K.toInt32), .val (.int (4 : Int32)), .val (.ref b61), .val (.ref b69), .val (.int (1 : Int32)), .unset, .unset, .unset] [(.int (2 : Int32)), (.ref b61), (.int (1 : Int32)), (.ref b69)])) (fun _ k_ => XS.iconst X130.here hx rfl (hb hby at_134) k_) ?_
          refine Go.st (S' := T130.setTop (mkF m 136 #[.val (.int p0), .val (.int p1), .val (.int K.toInt32), .val (.int (4 : Int32)), .val (.ref b61), .val (.ref b69), .val (.int (1 : Int32)), .unset, .unset, .unset] [(.int x2), (.int (1 : Int32)), (.ref b69)])) (A_b61.load X130 hx hZ e130 (j := (2 : Int32)) (v := x2) (by decide) rfl (g := (mkF m 135 #[.val (.int p0), .val (.int p1), .val (.int K.toInt32), .val (.int (4 : Int32)), .val (.ref b61), .val (.ref b69), .val (.int (1 : Int32)), .unset, .unset, .unset] [(.int (2 : Int32)), (.ref b61), (.int (1 : Int32)), (.ref b69)])) rfl rfl (hb hby at_135)) ?_
          obtain ⟨T135, h135, X135, e135, W135, A135, st135⟩ := A_b69.store X130 hx hZ e130 (j := (1 : Int32)) (by decide) (Nat.le_of_ble_eq_true rfl) (g := (mkF m 136 #[.val (.int p0), .val (.int p1), .val (.int K.toInt32), .val (.int (4 : Int32)), .val (.ref b61), .val (.ref b69), .val (.int (1 : Int32)), .unset, .unset, .unset] [(.int x2), (.int (1 : Int32)), (.ref b69)])) rfl rfl (hb hby at_136)
          replace A_b69 : Ai Z h135 b69 .int [x0, x2, (0 : Int32), (0 : Int32)] := A135
          replace A_b61 := A_b61.other W135 ne_b61_b69
          replace Z0 := Nat.le_trans Z0 (Keep.of_wr W135).1
          have N135 := Fr.snoc X135 N130 g_b69
          refine Go.st (S' := T135.setTop (mkF m 137 #[.val (.int p0), .val (.int p1), .val (.int K.toInt32), .val (.int (4 : Int32)), .val (.ref b61), .val (.ref b69), .val (.int (1 : Int32)), .unset, .unset, .unset] [])) (st135) ?_
          refine Go.st (S' := T135.setTop (mkF m 140 #[.val (.int p0), .val (.int p1), .val (.int K.toInt32), .val (.int (4 : Int32)), .val (.ref b61), .val (.ref b69), .val (.int ((1 : Int32) + (1 : Int32))), .unset, .unset, .unset] [])) (fun _ k_ => XS.iinc X135.here hx rfl (hb hby at_137) rfl (l' := #[.val (.int p0), .val (.int p1), .val (.int K.toInt32), .val (.int (4 : Int32)), .val (.ref b61), .val (.ref b69), .val (.int ((1 : Int32) + (1 : Int32))), .unset, .unset, .unset]) rfl k_) ?_
          rw [show ((1 : Int32) + (1 : Int32)) = (2 : Int32) from rfl]
          refine Go.st (S' := T135.setTop (mkF m 142 #[.val (.int p0), .val (.int p1), .val (.int K.toInt32), .val (.int (4 : Int32)), .val (.ref b61), .val (.ref b69), .val (.int (2 : Int32)), .unset, .unset, .unset] [(.ref b61)])) (fun _ k_ => XS.aload X135.here hx rfl (hb hby at_140) rfl rfl k_) ?_
          refine Go.st (S' := T135.setTop (mkF m 143 #[.val (.int p0), .val (.int p1), .val (.int K.toInt32), .val (.int (4 : Int32)), .val (.ref b61), .val (.ref b69), .val (.int (2 : Int32)), .unset, .unset, .unset] [(.int (3 : Int32)), (.ref b61)])) (fun _ k_ => XS.iconst X135.here hx rfl (hb hby at_142) k_) ?_
          refine Go.st (S' := T135.setTop (mkF m 144 #[.val (.int p0), .val (.int p1), .val (.int K.toInt32), .val (.int (4 : Int32)), .val (.ref b61), .val (.ref b69), .val (.int (2 : Int32)), .unset, .unset, .unset] [(.int x3)])) (A_b61.load X135 hx hZ e135 (j := (3 : Int32)) (v := x3) (by decide) rfl (g := (mkF m 143 #[.val (.int p0), .val (.int p1), .val (.int K.toInt32), .val (.int (4 : Int32)), .val (.ref b61), .val (.ref b69), .val (.int (2 : Int32)), .unset, .unset, .unset] [(.int (3 : Int32)), (.ref b61)])) rfl rfl (hb hby at_143)) ?_
          refine Go.st (S' := T135.setTop (mkF m 145 #[.val (.int p0), .val (.int p1), .val (.int K.toInt32), .val (.int (4 : Int32)), .val (.ref b61), .val (.ref b69), .val (.int (2 : Int32)), .unset, .unset, .unset] [(.int (4 : Int32)), (.int x3)])) (fun _ k_ => XS.iloadN X135.here hx rfl (hb hby at_144) rfl k_) ?_
          by_cases hc145 : x3 < (4 : Int32)
          · skip
            refine Go.st (S' := T135.setTop (mkF m 148 #[.val (.int p0), .val (.int p1), .val (.int K.toInt32), .val (.int (4 : Int32)), .val (.ref b61), .val (.ref b69), .val (.int (2 : Int32)), .unset, .unset, .unset] [])) (fun _ k_ => XS.icmpNo X135.here hx rfl (hb hby at_145) rfl (tlt hc145).2.1 k_) ?_
            refine Go.st (S' := T135.setTop (mkF m 150 #[.val (.int p0), .val (.int p1), .val (.int K.toInt32), .val (.int (4 : Int32)), .val (.ref b61), .val (.ref b69), .val (.int (2 : Int32)), .unset, .unset, .unset] [(.ref b69)])) (fun _ k_ => XS.aload X135.here hx rfl (hb hby at_148) rfl rfl k_) ?_
            refine Go.st (S' := T135.setTop (mkF m 152 #[.val (.int p0), .val (.int p1), .val (.int K.toInt32), .val (.int (4 : Int32)), .val (.ref b61), .val (.ref b69), .val (.int (2 : Int32)), .unset, .unset, .unset] [(.int (2 : Int32)), (.ref b69)])) (fun _ k_ => XS.iload X135.here hx rfl (hb hby at_150) rfl k_) ?_
            refine Go.st (S' := T135.setTop (mkF m 154 #[.val (.int p0), .val (.int p1), .val (.int K.toInt32), .val (.int (4 : Int32)), .val (.ref b61), .val (.ref b69), .val (.int (2 : Int32)), .unset, .unset, .unset] [(.ref b61), (.int (2 : Int32)), (.ref b69)])) (fun _ k_ => XS.aload X135.here hx rfl (hb hby at_152) rfl rfl k_) ?_
            refine Go.st (S' := T135.setTop (mkF m 155 #[.val (.int p0), .val (.int p1), .val (.int K.toInt32), .val (.int (4 : Int32)), .val (.ref b61), .val (.ref b69), .val (.int (2 : Int32)), .unset, .unset, .unset] [(.int (3 : Int32)), (.ref b61), (.int (2 : Int32)), (.ref b69)])) (fun _ k_ => XS.iconst X135.here hx rfl (hb hby at_154) k_) ?_
            refine Go.st (S' := T135.setTop (mkF m 156 #[.val (.int p0), .val (.int p1), .val (.int K.toInt32), .val (.int (4 : Int32)), .val (.ref b61), .val (.ref b69), .val (.int (2 : Int32)), .unset, .unset, .unset] [(.int x3), (.int (2 : Int32)), (.ref b69)])) (A_b61.load X135 hx hZ e135 (j := (3 : Int32)) (v := x3) (by decide) rfl (g := (mkF m 155 #[.val (.int p0), .val (.int p1), .val (.int K.toInt32), .val (.int (4 : Int32)), .val (.ref b61), .val (.ref b69), .val (.int (2 : Int32)), .unset, .unset, .unset] [(.int (3 : Int32)), (.ref b61), (.int (2 : Int32)), (.ref b69)])) rfl rfl (hb hby at_155)) ?_
            obtain ⟨T136, h136, X136, e136, W136, A136, st136⟩ := A_b69.store X135 hx hZ e135 (j := (2 : Int32)) (by decide) (Nat.le_of_ble_eq_true rfl) (g := (mkF m 156 #[.val (.int p0), .val (.int p1), .val (.int K.toInt32), .val (.int (4 : Int32)), .val (.ref b61), .val (.ref b69), .val (.int (2 : Int32)), .unset, .unset, .unset] [(.int x3), (.int (2 : Int32)), (.ref b69)])) rfl rfl (hb hby at_156)
            replace A_b69 : Ai Z h136 b69 .int [x0, x2, x3, (0 : Int32)] := A136
            replace A_b61 := A_b61.other W136 ne_b61_b69
            replace Z0 := Nat.le_trans Z0 (Keep.of_wr W136).1
            have N136 := Fr.snoc X136 N135 g_b69
            refine Go.st (S' := T136.setTop (mkF m 157 #[.val (.int p0), .val (.int p1), .val (.int K.toInt32), .val (.int (4 : Int32)), .val (.ref b61), .val (.ref b69), .val (.int (2 : Int32)), .unset, .unset, .unset] [])) (st136) ?_
            refine Go.st (S' := T136.setTop (mkF m 160 #[.val (.int p0), .val (.int p1), .val (.int K.toInt32), .val (.int (4 : Int32)), .val (.ref b61), .val (.ref b69), .val (.int ((2 : Int32) + (1 : Int32))), .unset, .unset, .unset] [])) (fun _ k_ => XS.iinc X136.here hx rfl (hb hby at_157) rfl (l' := #[.val (.int p0), .val (.int p1), .val (.int K.toInt32), .val (.int (4 : Int32)), .val (.ref b61), .val (.ref b69), .val (.int ((2 : Int32) + (1 : Int32))), .unset, .unset, .unset]) rfl k_) ?_
            rw [show ((2 : Int32) + (1 : Int32)) = (3 : Int32) from rfl]
            have hf2 : own_okb [x0, x2, x3] = true ∧ ([x0, x2, x3] : List Int32).length = 4 := by
              have q := hf
              rw [List.filter_cons, List.filter_cons, List.filter_cons, List.filter_cons, List.filter_nil] at q
              simp only [show (4 : Nat).toInt32 = (4 : Int32) from rfl, hc85, hc105, hc125, hc145, decide_true, decide_false, if_true, if_false, Bool.false_eq_true] at q
              exact q
            exact absurd hf2.2 (by show ¬ (3 = 4); decide)
          · skip
            refine Go.st (S' := T135.setTop (mkF m 160 #[.val (.int p0), .val (.int p1), .val (.int K.toInt32), .val (.int (4 : Int32)), .val (.ref b61), .val (.ref b69), .val (.int (2 : Int32)), .unset, .unset, .unset] [])) (fun _ k_ => XS.icmpYes X135.here hx rfl (pc0 := 145) (pc' := 160) rfl (hb hby at_145) rfl (flt hc145).2.1 (by decide) (by decide) k_) ?_
            have hf2 : own_okb [x0, x2] = true ∧ ([x0, x2] : List Int32).length = 4 := by
              have q := hf
              rw [List.filter_cons, List.filter_cons, List.filter_cons, List.filter_cons, List.filter_nil] at q
              simp only [show (4 : Nat).toInt32 = (4 : Int32) from rfl, hc85, hc105, hc125, hc145, decide_true, decide_false, if_true, if_false, Bool.false_eq_true] at q
              exact q
            exact absurd hf2.2 (by show ¬ (2 = 4); decide)
        · skip
          refine Go.st (S' := T130.setTop (mkF m 140 #[.val (.int p0), .val (.int p1), .val (.int K.toInt32), .val (.int (4 : Int32)), .val (.ref b61), .val (.ref b69), .val (.int (1 : Int32)), .unset, .unset, .unset] [])) (fun _ k_ => XS.icmpYes X130.here hx rfl (pc0 := 125) (pc' := 140) rfl (hb hby at_125) rfl (flt hc125).2.1 (by decide) (by decide) k_) ?_
          refine Go.st (S' := T130.setTop (mkF m 142 #[.val (.int p0), .val (.int p1), .val (.int K.toInt32), .val (.int (4 : Int32)), .val (.ref b61), .val (.ref b69), .val (.int (1 : Int32)), .unset, .unset, .unset] [(.ref b61)])) (fun _ k_ => XS.aload X130.here hx rfl (hb hby at_140) rfl rfl k_) ?_
          refine Go.st (S' := T130.setTop (mkF m 143 #[.val (.int p0), .val (.int p1), .val (.int K.toInt32), .val (.int (4 : Int32)), .val (.ref b61), .val (.ref b69), .val (.int (1 : Int32)), .unset, .unset, .unset] [(.int (3 : Int32)), (.ref b61)])) (fun _ k_ => XS.iconst X130.here hx rfl (hb hby at_142) k_) ?_
          refine Go.st (S' := T130.setTop (mkF m 144 #[.val (.int p0), .val (.int p1), .val (.int K.toInt32), .val (.int (4 : Int32)), .val (.ref b61), .val (.ref b69), .val (.int (1 : Int32)), .unset, .unset, .unset] [(.int x3)])) (A_b61.load X130 hx hZ e130 (j := (3 : Int32)) (v := x3) (by decide) rfl (g := (mkF m 143 #[.val (.int p0), .val (.int p1), .val (.int K.toInt32), .val (.int (4 : Int32)), .val (.ref b61), .val (.ref b69), .val (.int (1 : Int32)), .unset, .unset, .unset] [(.int (3 : Int32)), (.ref b61)])) rfl rfl (hb hby at_143)) ?_
          refine Go.st (S' := T130.setTop (mkF m 145 #[.val (.int p0), .val (.int p1), .val (.int K.toInt32), .val (.int (4 : Int32)), .val (.ref b61), .val (.ref b69), .val (.int (1 : Int32)), .unset, .unset, .unset] [(.int (4 : Int32)), (.int x3)])) (fun _ k_ => XS.iloadN X130.here hx rfl (hb hby at_144) rfl k_) ?_
          by_cases hc145 : x3 < (4 : Int32)
          · skip
            refine Go.st (S' := T130.setTop (mkF m 148 #[.val (.int p0), .val (.int p1), .val (.int K.toInt32), .val (.int (4 : Int32)), .val (.ref b61), .val (.ref b69), .val (.int (1 : Int32)), .unset, .unset, .unset] [])) (fun _ k_ => XS.icmpNo X130.here hx rfl (hb hby at_145) rfl (tlt hc145).2.1 k_) ?_
            refine Go.st (S' := T130.setTop (mkF m 150 #[.val (.int p0), .val (.int p1), .val (.int K.toInt32), .val (.int (4 : Int32)), .val (.ref b61), .val (.ref b69), .val (.int (1 : Int32)), .unset, .unset, .unset] [(.ref b69)])) (fun _ k_ => XS.aload X130.here hx rfl (hb hby at_148) rfl rfl k_) ?_
            refine Go.st (S' := T130.setTop (mkF m 152 #[.val (.int p0), .val (.int p1), .val (.int K.toInt32), .val (.int (4 : Int32)), .val (.ref b61), .val (.ref b69), .val (.int (1 : Int32)), .unset, .unset, .unset] [(.int (1 : Int32)), (.ref b69)])) (fun _ k_ => XS.iload X130.here hx rfl (hb hby at_150) rfl k_) ?_
            refine Go.st (S' := T130.setTop (mkF m 154 #[.val (.int p0), .val (.int p1), .val (.int K.toInt32), .val (.int (4 : Int32)), .val (.ref b61), .val (.ref b69), .val (.int (1 : Int32)), .unset, .unset, .unset] [(.ref b61), (.int (1 : Int32)), (.ref b69)])) (fun _ k_ => XS.aload X130.here hx rfl (hb hby at_152) rfl rfl k_) ?_
            refine Go.st (S' := T130.setTop (mkF m 155 #[.val (.int p0), .val (.int p1), .val (.int K.toInt32), .val (.int (4 : Int32)), .val (.ref b61), .val (.ref b69), .val (.int (1 : Int32)), .unset, .unset, .unset] [(.int (3 : Int32)), (.ref b61), (.int (1 : Int32)), (.ref b69)])) (fun _ k_ => XS.iconst X130.here hx rfl (hb hby at_154) k_) ?_
            refine Go.st (S' := T130.setTop (mkF m 156 #[.val (.int p0), .val (.int p1), .val (.int K.toInt32), .val (.int (4 : Int32)), .val (.ref b61), .val (.ref b69), .val (.int (1 : Int32)), .unset, .unset, .unset] [(.int x3), (.int (1 : Int32)), (.ref b69)])) (A_b61.load X130 hx hZ e130 (j := (3 : Int32)) (v := x3) (by decide) rfl (g := (mkF m 155 #[.val (.int p0), .val (.int p1), .val (.int K.toInt32), .val (.int (4 : Int32)), .val (.ref b61), .val (.ref b69), .val (.int (1 : Int32)), .unset, .unset, .unset] [(.int (3 : Int32)), (.ref b61), (.int (1 : Int32)), (.ref b69)])) rfl rfl (hb hby at_155)) ?_
            obtain ⟨T137, h137, X137, e137, W137, A137, st137⟩ := A_b69.store X130 hx hZ e130 (j := (1 : Int32)) (by decide) (Nat.le_of_ble_eq_true rfl) (g := (mkF m 156 #[.val (.int p0), .val (.int p1), .val (.int K.toInt32), .val (.int (4 : Int32)), .val (.ref b61), .val (.ref b69), .val (.int (1 : Int32)), .unset, .unset, .unset] [(.int x3), (.int (1 : Int32)), (.ref b69)])) rfl rfl (hb hby at_156)
            replace A_b69 : Ai Z h137 b69 .int [x0, x3, (0 : Int32), (0 : Int32)] := A137
            replace A_b61 := A_b61.other W137 ne_b61_b69
            replace Z0 := Nat.le_trans Z0 (Keep.of_wr W137).1
            have N137 := Fr.snoc X137 N130 g_b69
            refine Go.st (S' := T137.setTop (mkF m 157 #[.val (.int p0), .val (.int p1), .val (.int K.toInt32), .val (.int (4 : Int32)), .val (.ref b61), .val (.ref b69), .val (.int (1 : Int32)), .unset, .unset, .unset] [])) (st137) ?_
            refine Go.st (S' := T137.setTop (mkF m 160 #[.val (.int p0), .val (.int p1), .val (.int K.toInt32), .val (.int (4 : Int32)), .val (.ref b61), .val (.ref b69), .val (.int ((1 : Int32) + (1 : Int32))), .unset, .unset, .unset] [])) (fun _ k_ => XS.iinc X137.here hx rfl (hb hby at_157) rfl (l' := #[.val (.int p0), .val (.int p1), .val (.int K.toInt32), .val (.int (4 : Int32)), .val (.ref b61), .val (.ref b69), .val (.int ((1 : Int32) + (1 : Int32))), .unset, .unset, .unset]) rfl k_) ?_
            rw [show ((1 : Int32) + (1 : Int32)) = (2 : Int32) from rfl]
            have hf2 : own_okb [x0, x3] = true ∧ ([x0, x3] : List Int32).length = 4 := by
              have q := hf
              rw [List.filter_cons, List.filter_cons, List.filter_cons, List.filter_cons, List.filter_nil] at q
              simp only [show (4 : Nat).toInt32 = (4 : Int32) from rfl, hc85, hc105, hc125, hc145, decide_true, decide_false, if_true, if_false, Bool.false_eq_true] at q
              exact q
            exact absurd hf2.2 (by show ¬ (2 = 4); decide)
          · skip
            refine Go.st (S' := T130.setTop (mkF m 160 #[.val (.int p0), .val (.int p1), .val (.int K.toInt32), .val (.int (4 : Int32)), .val (.ref b61), .val (.ref b69), .val (.int (1 : Int32)), .unset, .unset, .unset] [])) (fun _ k_ => XS.icmpYes X130.here hx rfl (pc0 := 145) (pc' := 160) rfl (hb hby at_145) rfl (flt hc145).2.1 (by decide) (by decide) k_) ?_
            have hf2 : own_okb [x0] = true ∧ ([x0] : List Int32).length = 4 := by
              have q := hf
              rw [List.filter_cons, List.filter_cons, List.filter_cons, List.filter_cons, List.filter_nil] at q
              simp only [show (4 : Nat).toInt32 = (4 : Int32) from rfl, hc85, hc105, hc125, hc145, decide_true, decide_false, if_true, if_false, Bool.false_eq_true] at q
              exact q
            exact absurd hf2.2 (by show ¬ (1 = 4); decide)
    · skip
      refine Go.st (S' := T69.setTop (mkF m 100 #[.val (.int p0), .val (.int p1), .val (.int K.toInt32), .val (.int (4 : Int32)), .val (.ref b61), .val (.ref b69), .val (.int (0 : Int32)), .unset, .unset, .unset] [])) (fun _ k_ => XS.icmpYes X69.here hx rfl (pc0 := 85) (pc' := 100) rfl (hb hby at_85) rfl (flt hc85).2.1 (by decide) (by decide) k_) ?_
      refine Go.st (S' := T69.setTop (mkF m 102 #[.val (.int p0), .val (.int p1), .val (.int K.toInt32), .val (.int (4 : Int32)), .val (.ref b61), .val (.ref b69), .val (.int (0 : Int32)), .unset, .unset, .unset] [(.ref b61)])) (fun _ k_ => XS.aload X69.here hx rfl (hb hby at_100) rfl rfl k_) ?_
      refine Go.st (S' := T69.setTop (mkF m 103 #[.val (.int p0), .val (.int p1), .val (.int K.toInt32), .val (.int (4 : Int32)), .val (.ref b61), .val (.ref b69), .val (.int (0 : Int32)), .unset, .unset, .unset] [(.int (1 : Int32)), (.ref b61)])) (fun _ k_ => XS.iconst X69.here hx rfl (hb hby at_102) k_) ?_
      refine Go.st (S' := T69.setTop (mkF m 104 #[.val (.int p0), .val (.int p1), .val (.int K.toInt32), .val (.int (4 : Int32)), .val (.ref b61), .val (.ref b69), .val (.int (0 : Int32)), .unset, .unset, .unset] [(.int x1)])) (A_b61.load X69 hx hZ e69 (j := (1 : Int32)) (v := x1) (by decide) rfl (g := (mkF m 103 #[.val (.int p0), .val (.int p1), .val (.int K.toInt32), .val (.int (4 : Int32)), .val (.ref b61), .val (.ref b69), .val (.int (0 : Int32)), .unset, .unset, .unset] [(.int (1 : Int32)), (.ref b61)])) rfl rfl (hb hby at_103)) ?_
      refine Go.st (S' := T69.setTop (mkF m 105 #[.val (.int p0), .val (.int p1), .val (.int K.toInt32), .val (.int (4 : Int32)), .val (.ref b61), .val (.ref b69), .val (.int (0 : Int32)), .unset, .unset, .unset] [(.int (4 : Int32)), (.int x1)])) (fun _ k_ => XS.iloadN X69.here hx rfl (hb hby at_104) rfl k_) ?_
      by_cases hc105 : x1 < (4 : Int32)
      · skip
        refine Go.st (S' := T69.setTop (mkF m 108 #[.val (.int p0), .val (.int p1), .val (.int K.toInt32), .val (.int (4 : Int32)), .val (.ref b61), .val (.ref b69), .val (.int (0 : Int32)), .unset, .unset, .unset] [])) (fun _ k_ => XS.icmpNo X69.here hx rfl (hb hby at_105) rfl (tlt hc105).2.1 k_) ?_
        refine Go.st (S' := T69.setTop (mkF m 110 #[.val (.int p0), .val (.int p1), .val (.int K.toInt32), .val (.int (4 : Int32)), .val (.ref b61), .val (.ref b69), .val (.int (0 : Int32)), .unset, .unset, .unset] [(.ref b69)])) (fun _ k_ => XS.aload X69.here hx rfl (hb hby at_108) rfl rfl k_) ?_
        refine Go.st (S' := T69.setTop (mkF m 112 #[.val (.int p0), .val (.int p1), .val (.int K.toInt32), .val (.int (4 : Int32)), .val (.ref b61), .val (.ref b69), .val (.int (0 : Int32)), .unset, .unset, .unset] [(.int (0 : Int32)), (.ref b69)])) (fun _ k_ => XS.iload X69.here hx rfl (hb hby at_110) rfl k_) ?_
        refine Go.st (S' := T69.setTop (mkF m 114 #[.val (.int p0), .val (.int p1), .val (.int K.toInt32), .val (.int (4 : Int32)), .val (.ref b61), .val (.ref b69), .val (.int (0 : Int32)), .unset, .unset, .unset] [(.ref b61), (.int (0 : Int32)), (.ref b69)])) (fun _ k_ => XS.aload X69.here hx rfl (hb hby at_112) rfl rfl k_) ?_
        refine Go.st (S' := T69.setTop (mkF m 115 #[.val (.int p0), .val (.int p1), .val (.int K.toInt32), .val (.int (4 : Int32)), .val (.ref b61), .val (.ref b69), .val (.int (0 : Int32)), .unset, .unset, .unset] [(.int (1 : Int32)), (.ref b61), (.int (0 : Int32)), (.ref b69)])) (fun _ k_ => XS.iconst X69.here hx rfl (hb hby at_114) k_) ?_
        refine Go.st (S' := T69.setTop (mkF m 116 #[.val (.int p0), .val (.int p1), .val (.int K.toInt32), .val (.int (4 : Int32)), .val (.ref b61), .val (.ref b69), .val (.int (0 : Int32)), .unset, .unset, .unset] [(.int x1), (.int (0 : Int32)), (.ref b69)])) (A_b61.load X69 hx hZ e69 (j := (1 : Int32)) (v := x1) (by decide) rfl (g := (mkF m 115 #[.val (.int p0), .val (.int p1), .val (.int K.toInt32), .val (.int (4 : Int32)), .val (.ref b61), .val (.ref b69), .val (.int (0 : Int32)), .unset, .unset, .unset] [(.int (1 : Int32)), (.ref b61), (.int (0 : Int32)), (.ref b69)])) rfl rfl (hb hby at_115)) ?_
        obtain ⟨T138, h138, X138, e138, W138, A138, st138⟩ := A_b69.store X69 hx hZ e69 (j := (0 : Int32)) (by decide) (Nat.le_of_ble_eq_true rfl) (g := (mkF m 116 #[.val (.int p0), .val (.int p1), .val (.int K.toInt32), .val (.int (4 : Int32)), .val (.ref b61), .val (.ref b69), .val (.int (0 : Int32)), .unset, .unset, .unset] [(.int x1), (.int (0 : Int32)), (.ref b69)])) rfl rfl (hb hby at_116)
        replace A_b69 : Ai Z h138 b69 .int [x1, (0 : Int32), (0 : Int32), (0 : Int32)] := A138
        replace A_b61 := A_b61.other W138 ne_b61_b69
        replace Z0 := Nat.le_trans Z0 (Keep.of_wr W138).1
        have N138 := Fr.snoc X138 N68 g_b69
        refine Go.st (S' := T138.setTop (mkF m 117 #[.val (.int p0), .val (.int p1), .val (.int K.toInt32), .val (.int (4 : Int32)), .val (.ref b61), .val (.ref b69), .val (.int (0 : Int32)), .unset, .unset, .unset] [])) (st138) ?_
        refine Go.st (S' := T138.setTop (mkF m 120 #[.val (.int p0), .val (.int p1), .val (.int K.toInt32), .val (.int (4 : Int32)), .val (.ref b61), .val (.ref b69), .val (.int ((0 : Int32) + (1 : Int32))), .unset, .unset, .unset] [])) (fun _ k_ => XS.iinc X138.here hx rfl (hb hby at_117) rfl (l' := #[.val (.int p0), .val (.int p1), .val (.int K.toInt32), .val (.int (4 : Int32)), .val (.ref b61), .val (.ref b69), .val (.int ((0 : Int32) + (1 : Int32))), .unset, .unset, .unset]) rfl k_) ?_
        rw [show ((0 : Int32) + (1 : Int32)) = (1 : Int32) from rfl]
        refine Go.st (S' := T138.setTop (mkF m 122 #[.val (.int p0), .val (.int p1), .val (.int K.toInt32), .val (.int (4 : Int32)), .val (.ref b61), .val (.ref b69), .val (.int (1 : Int32)), .unset, .unset, .unset] [(.ref b61)])) (fun _ k_ => XS.aload X138.here hx rfl (hb hby at_120) rfl rfl k_) ?_
        refine Go.st (S' := T138.setTop (mkF m 123 #[.val (.int p0), .val (.int p1), .val (.int K.toInt32), .val (.int (4 : Int32)), .val (.ref b61), .val (.ref b69), .val (.int (1 : Int32)), .unset, .unset, .unset] [(.int (2 : Int32)), (.ref b61)])) (fun _ k_ => XS.iconst X138.here hx rfl (hb hby at_122) k_) ?_
        refine Go.st (S' := T138.setTop (mkF m 124 #[.val (.int p0), .val (.int p1), .val (.int K.toInt32), .val (.int (4 : Int32)), .val (.ref b61), .val (.ref b69), .val (.int (1 : Int32)), .unset, .unset, .unset] [(.int x2)])) (A_b61.load X138 hx hZ e138 (j := (2 : Int32)) (v := x2) (by decide) rfl (g := (mkF m 123 #[.val (.int p0), .val (.int p1), .val (.int K.toInt32), .val (.int (4 : Int32)), .val (.ref b61), .val (.ref b69), .val (.int (1 : Int32)), .unset, .unset, .unset] [(.int (2 : Int32)), (.ref b61)])) rfl rfl (hb hby at_123)) ?_
        refine Go.st (S' := T138.setTop (mkF m 125 #[.val (.int p0), .val (.int p1), .val (.int K.toInt32), .val (.int (4 : Int32)), .val (.ref b61), .val (.ref b69), .val (.int (1 : Int32)), .unset, .unset, .unset] [(.int (4 : Int32)), (.int x2)])) (fun _ k_ => XS.iloadN X138.here hx rfl (hb hby at_124) rfl k_) ?_
        by_cases hc125 : x2 < (4 : Int32)
        · skip
          refine Go.st (S' := T138.setTop (mkF m 128 #[.val (.int p0), .val (.int p1), .val (.int K.toInt32), .val (.int (4 : Int32)), .val (.ref b61), .val (.ref b69), .val (.int (1 : Int32)), .unset, .unset, .unset] [])) (fun _ k_ => XS.icmpNo X138.here hx rfl (hb hby at_125) rfl (tlt hc125).2.1 k_) ?_
          refine Go.st (S' := T138.setTop (mkF m 130 #[.val (.int p0), .val (.int p1), .val (.int K.toInt32), .val (.int (4 : Int32)), .val (.ref b61), .val (.ref b69), .val (.int (1 : Int32)), .unset, .unset, .unset] [(.ref b69)])) (fun _ k_ => XS.aload X138.here hx rfl (hb hby at_128) rfl rfl k_) ?_
          refine Go.st (S' := T138.setTop (mkF m 132 #[.val (.int p0), .val (.int p1), .val (.int K.toInt32), .val (.int (4 : Int32)), .val (.ref b61), .val (.ref b69), .val (.int (1 : Int32)), .unset, .unset, .unset] [(.int (1 : Int32)), (.ref b69)])) (fun _ k_ => XS.iload X138.here hx rfl (hb hby at_130) rfl k_) ?_
          refine Go.st (S' := T138.setTop (mkF m 134 #[.val (.int p0), .val (.int p1), .val (.int K.toInt32), .val (.int (4 : Int32)), .val (.ref b61), .val (.ref b69), .val (.int (1 : Int32)), .unset, .unset, .unset] [(.ref b61), (.int (1 : Int32)), (.ref b69)])) (fun _ k_ => XS.aload X138.here hx rfl (hb hby at_132) rfl rfl k_) ?_
          refine Go.st (S' := T138.setTop (mkF m 135 #[.val (.int p0), .val (.int p1), .val (.int K.toInt32), .val (.int (4 : Int32)), .val (.ref b61), .val (.ref b69), .val (.int (1 : Int32)), .unset, .unset, .unset] [(.int (2 : Int32)), (.ref b61), (.int (1 : Int32)), (.ref b69)])) (fun _ k_ => XS.iconst X138.here hx rfl (hb hby at_134) k_) ?_
          refine Go.st (S' := T138.setTop (mkF m 136 #[.val (.int p0), .val (.int p1), .val (.int K.toInt32), .val (.int (4 : Int32)), .val (.ref b61), .val (.ref b69), .val (.int (1 : Int32)), .unset, .unset, .unset] [(.int x2), (.int (1 : Int32)), (.ref b69)])) (A_b61.load X138 hx hZ e138 (j := (2 : Int32)) (v := x2) (by decide) rfl (g := (mkF m 135 #[.val (.int p0), .val (.int p1), .val (.int K.toInt32), .val (.int (4 : Int32)), .val (.ref b61), .val (.ref b69), .val (.int (1 : Int32)), .unset, .unset, .unset] [(.int (2 : Int32)), (.ref b61), (.int (1 : Int32)), (.ref b69)])) rfl rfl (hb hby at_135)) ?_
          obtain ⟨T139, h139, X139, e139, W139, A139, st139⟩ := A_b69.store X138 hx hZ e138 (j := (1 : Int32)) (by decide) (Nat.le_of_ble_eq_true rfl) (g := (mkF m 136 #[.val (.int p0), .val (.int p1), .val (.int K.toInt32), .val (.int (4 : Int32)), .val (.ref b61), .val (.ref b69), .val (.int (1 : Int32)), .unset, .unset, .unset] [(.int x2), (.int (1 : Int32)), (.ref b69)])) rfl rfl (hb hby at_136)
          replace A_b69 : Ai Z h139 b69 .int [x1, x2, (0 : Int32), (0 : Int32)] := A139
          replace A_b61 := A_b61.other W139 ne_b61_b69
          replace Z0 := Nat.le_trans Z0 (Keep.of_wr W139).1
          have N139 := Fr.snoc X139 N138 g_b69
          refine Go.st (S' := T139.setTop (mkF m 137 #[.val (.int p0), .val (.int p1), .val (.int K.toInt32), .val (.int (4 : Int32)), .val (.ref b61), .val (.ref b69), .val (.int (1 : Int32)), .unset, .unset, .unset] [])) (st139) ?_
          refine Go.st (S' := T139.setTop (mkF m 140 #[.val (.int p0), .val (.int p1), .val (.int K.toInt32), .val (.int (4 : Int32)), .val (.ref b61), .val (.ref b69), .val (.int ((1 : Int32) + (1 : Int32))), .unset, .unset, .unset] [])) (fun _ k_ => XS.iinc X139.here hx rfl (hb hby at_137) rfl (l' := #[.val (.int p0), .val (.int p1), .val (.int K.toInt32), .val (.int (4 : Int32)), .val (.ref b61), .val (.ref b69), .val (.int ((1 : Int32) + (1 : Int32))), .unset, .unset, .unset]) rfl k_) ?_
          rw [show ((1 : Int32) + (1 : Int32)) = (2 : Int32) from rfl]
          refine Go.st (S' := T139.setTop (mkF m 142 #[.val (.int p0), .val (.int p1), .val (.int K.toInt32), .val (.int (4 : Int32)), .val (.ref b61), .val (.ref b69), .val (.int (2 : Int32)), .unset, .unset, .unset] [(.ref b61)])) (fun _ k_ => XS.aload X139.here hx rfl (hb hby at_140) rfl rfl k_) ?_
          refine Go.st (S' := T139.setTop (mkF m 143 #[.val (.int p0), .val (.int p1), .val (.int K.toInt32), .val (.int (4 : Int32)), .val (.ref b61), .val (.ref b69), .val (.int (2 : Int32)), .unset, .unset, .unset] [(.int (3 : Int32)), (.ref b61)])) (fun _ k_ => XS.iconst X139.here hx rfl (hb hby at_142) k_) ?_
          refine Go.st (S' := T139.setTop (mkF m 144 #[.val (.int p0), .val (.int p1), .val (.int K.toInt32), .val (.int (4 : Int32)), .val (.ref b61), .val (.ref b69), .val (.int (2 : Int32)), .unset, .unset, .unset] [(.int x3)])) (A_b61.load X139 hx hZ e139 (j := (3 : Int32)) (v := x3) (by decide) rfl (g := (mkF m 143 #[.val (.int p0), .val (.int p1), .val (.int K.toInt32), .val (.int (4 : Int32)), .val (.ref b61), .val (.ref b69), .val (.int (2 : Int32)), .unset, .unset, .unset] [(.int (3 : Int32)), (.ref b61)])) rfl rfl (hb hby at_143)) ?_
          refine Go.st (S' := T139.setTop (mkF m 145 #[.val (.int p0), .val (.int p1), .val (.int K.toInt32), .val (.int (4 : Int32)), .val (.ref b61), .val (.ref b69), .val (.int (2 : Int32)), .unset, .unset, .unset] [(.int (4 : Int32)), (.int x3)])) (fun _ k_ => XS.iloadN X139.here hx rfl (hb hby at_144) rfl k_) ?_
          by_cases hc145 : x3 < (4 : Int32)
          · skip
            refine Go.st (S' := T139.setTop (mkF m 148 #[.val (.int p0), .val (.int p1), .val (.int K.toInt32), .val (.int (4 : Int32)), .val (.ref b61), .val (.ref b69), .val (.int (2 : Int32)), .unset, .unset, .unset] [])) (fun _ k_ => XS.icmpNo X139.here hx rfl (hb hby at_145) rfl (tlt hc145).2.1 k_) ?_
            refine Go.st (S' := T139.setTop (mkF m 150 #[.val (.int p0), .val (.int p1), .val (.int K.toInt32), .val (.int (4 : Int32)), .val (.ref b61), .val (.ref b69), .val (.int (2 : Int32)), .unset, .unset, .unset] [(.ref b69)])) (fun _ k_ => XS.aload X139.here hx rfl (hb hby at_148) rfl rfl k_) ?_
            refine Go.st (S' := T139.setTop (mkF m 152 #[.val (.int p0), .val (.int p1), .val (.int K.toInt32), .val (.int (4 : Int32)), .val (.ref b61), .val (.ref b69), .val (.int (2 : Int32)), .unset, .unset, .unset] [(.int (2 : Int32)), (.ref b69)])) (fun _ k_ => XS.iload X139.here hx rfl (hb hby at_150) rfl k_) ?_
            refine Go.st (S' := T139.setTop (mkF m 154 #[.val (.int p0), .val (.int p1), .val (.int K.toInt32), .val (.int (4 : Int32)), .val (.ref b61), .val (.ref b69), .val (.int (2 : Int32)), .unset, .unset, .unset] [(.ref b61), (.int (2 : Int32)), (.ref b69)])) (fun _ k_ => XS.aload X139.here hx rfl (hb hby at_152) rfl rfl k_) ?_
            refine Go.st (S' := T139.setTop (mkF m 155 #[.val (.int p0), .val (.int p1), .val (.int K.toInt32), .val (.int (4 : Int32)), .val (.ref b61), .val (.ref b69), .val (.int (2 : Int32)), .unset, .unset, .unset] [(.int (3 : Int32)), (.ref b61), (.int (2 : Int32)), (.ref b69)])) (fun _ k_ => XS.iconst X139.here hx rfl (hb hby at_154) k_) ?_
            refine Go.st (S' := T139.setTop (mkF m 156 #[.val (.int p0), .val (.int p1), .val (.int K.toInt32), .val (.int (4 : Int32)), .val (.ref b61), .val (.ref b69), .val (.int (2 : Int32)), .unset, .unset, .unset] [(.int x3), (.int (2 : Int32)), (.ref b69)])) (A_b61.load X139 hx hZ e139 (j := (3 : Int32)) (v := x3) (by decide) rfl (g := (mkF m 155 #[.val (.int p0), .val (.int p1), .val (.int K.toInt32), .val (.int (4 : Int32)), .val (.ref b61), .val (.ref b69), .val (.int (2 : Int32)), .unset, .unset, .unset] [(.int (3 : Int32)), (.ref b61), (.int (2 : Int32)), (.ref b69)])) rfl rfl (hb hby at_155)) ?_
            obtain ⟨T140, h140, X140, e140, W140, A140, st140⟩ := A_b69.store X139 hx hZ e139 (j := (2 : Int32)) (by decide) (Nat.le_of_ble_eq_true rfl) (g := (mkF m 156 #[.val (.int p0), .val (.int p1), .val (.int K.toInt32), .val (.int (4 : Int32)), .val (.ref b61), .val (.ref b69), .val (.int (2 : Int32)), .unset, .unset, .unset] [(.int x3), (.int (2 : Int32)), (.ref b69)])) rfl rfl (hb hby at_156)
            replace A_b69 : Ai Z h140 b69 .int [x1, x2, x3, (0 : Int32)] := A140
            replace A_b61 := A_b61.other W140 ne_b61_b69
            replace Z0 := Nat.le_trans Z0 (Keep.of_wr W140).1
            have N140 := Fr.snoc X140 N139 g_b69
            refine Go.st (S' := T140.setTop (mkF m 157 #[.val (.int p0), .val (.int p1), .val (.int K.toInt32), .val (.int (4 : Int32)), .val (.ref b61), .val (.ref b69), .val (.int (2 : Int32)), .unset, .unset, .unset] [])) (st140) ?_
            refine Go.st (S' := T140.setTop (mkF m 160 #[.val (.int p0), .val (.int p1), .val (.int K.toInt32), .val (.int (4 : Int32)), .val (.ref b61), .val (.ref b69), .val (.int ((2 : Int32) + (1 : Int32))), .unset, .unset, .unset] [])) (fun _ k_ => XS.iinc X140.here hx rfl (hb hby at_157) rfl (l' := #[.val (.int p0), .val (.int p1), .val (.int K.toInt32), .val (.int (4 : Int32)), .val (.ref b61), .val (.ref b69), .val (.int ((2 : Int32) + (1 : Int32))), .unset, .unset, .unset]) rfl k_) ?_
            rw [show ((2 : Int32) + (1 : Int32)) = (3 : Int32) from rfl]
            have hf2 : own_okb [x1, x2, x3] = true ∧ ([x1, x2, x3] : List Int32).length = 4 := by
              have q := hf
              rw [List.filter_cons, List.filter_cons, List.filter_cons, List.filter_cons, List.filter_nil] at q
              simp only [show (4 : Nat).toInt32 = (4 : Int32) from rfl, hc85, hc105, hc125, hc145, decide_true, decide_false, if_true, if_false, Bool.false_eq_true] at q
              exact q
            exact absurd hf2.2 (by show ¬ (3 = 4); decide)
          · skip
            refine Go.st (S' := T139.setTop (mkF m 160 #[.val (.int p0), .val (.int p1), .val (.int K.toInt32), .val (.int (4 : Int32)), .val (.ref b61), .val (.ref b69), .val (.int (2 : Int32)), .unset, .unset, .unset] [])) (fun _ k_ => XS.icmpYes X139.here hx rfl (pc0 := 145) (pc' := 160) rfl (hb hby at_145) rfl (flt hc145).2.1 (by decide) (by decide) k_) ?_
            have hf2 : own_okb [x1, x2] = true ∧ ([x1, x2] : List Int32).length = 4 := by
              have q := hf
              rw [List.filter_cons, List.filter_cons, List.filter_cons, List.filter_cons, List.filter_nil] at q
              simp only [show (4 : Nat).toInt32 = (4 : Int32) from rfl, hc85, hc105, hc125, hc145, decide_true, decide_false, if_true, if_false, Bool.false_eq_true] at q
              exact q
            exact absurd hf2.2 (by show ¬ (2 = 4); decide)
        · skip
          refine Go.st (S' := T138.setTop (mkF m 140 #[.val (.int p0), .val (.int p1), .val (.int K.toInt32), .val (.int (4 : Int32)), .val (.ref b61), .val (.ref b69), .val (.int (1 : Int32)), .unset, .unset, .unset] [])) (fun _ k_ => XS.icmpYes X138.here hx rfl (pc0 := 125) (pc' := 140) rfl (hb hby at_125) rfl (flt hc125).2.1 (by decide) (by decide) k_) ?_
          refine Go.st (S' := T138.setTop (mkF m 142 #[.val (.int p0), .val (.int p1), .val (.int K.toInt32), .val (.int (4 : Int32)), .val (.ref b61), .val (.ref b69), .val (.int (1 : Int32)), .unset, .unset, .unset] [(.ref b61)])) (fun _ k_ => XS.aload X138.here hx rfl (hb hby at_140) rfl rfl k_) ?_
          refine Go.st (S' := T138.setTop (mkF m 143 #[.val (.int p0), .val (.int p1), .val (.int K.toInt32), .val (.int (4 : Int32)), .val (.ref b61), .val (.ref b69), .val (.int (1 : Int32)), .unset, .unset, .unset] [(.int (3 : Int32)), (.ref b61)])) (fun _ k_ => XS.iconst X138.here hx rfl (hb hby at_142) k_) ?_
          refine Go.st (S' := T138.setTop (mkF m 144 #[.val (.int p0), .val (.int p1), .val (.int K.toInt32), .val (.int (4 : Int32)), .val (.ref b61), .val (.ref b69), .val (.int (1 : Int32)), .unset, .unset, .unset] [(.int x3)])) (A_b61.load X138 hx hZ e138 (j := (3 : Int32)) (v := x3) (by decide) rfl (g := (mkF m 143 #[.val (.int p0), .val (.int p1), .val (.int K.toInt32), .val (.int (4 : Int32)), .val (.ref b61), .val (.ref b69), .val (.int (1 : Int32)), .unset, .unset, .unset] [(.int (3 : Int32)), (.ref b61)])) rfl rfl (hb hby at_143)) ?_
          refine Go.st (S' := T138.setTop (mkF m 145 #[.val (.int p0), .val (.int p1), .val (.int K.toInt32), .val (.int (4 : Int32)), .val (.ref b61), .val (.ref b69), .val (.int (1 : Int32)), .unset, .unset, .unset] [(.int (4 : Int32)), (.int x3)])) (fun _ k_ => XS.iloadN X138.here hx rfl (hb hby at_144) rfl k_) ?_
          by_cases hc145 : x3 < (4 : Int32)
          · skip
            refine Go.st (S' := T138.setTop (mkF m 148 #[.val (.int p0), .val (.int p1), .val (.int K.toInt32), .val (.int (4 : Int32)), .val (.ref b61), .val (.ref b69), .val (.int (1 : Int32)), .unset, .unset, .unset] [])) (fun _ k_ => XS.icmpNo X138.here hx rfl (hb hby at_145) rfl (tlt hc145).2.1 k_) ?_
            refine Go.st (S' := T138.setTop (mkF m 150 #[.val (.int p0), .val (.int p1), .val (.int K.toInt32), .val (.int (4 : Int32)), .val (.ref b61), .val (.ref b69), .val (.int (1 : Int32)), .unset, .unset, .unset] [(.ref b69)])) (fun _ k_ => XS.aload X138.here hx rfl (hb hby at_148) rfl rfl k_) ?_
            refine Go.st (S' := T138.setTop (mkF m 152 #[.val (.int p0), .val (.int p1), .val (.int K.toInt32), .val (.int (4 : Int32)), .val (.ref b61), .val (.ref b69), .val (.int (1 : Int32)), .unset, .unset, .unset] [(.int (1 : Int32)), (.ref b69)])) (fun _ k_ => XS.iload X138.here hx rfl (hb hby at_150) rfl k_) ?_
            refine Go.st (S' := T138.setTop (mkF m 154 #[.val (.int p0), .val (.int p1), .val (.int K.toInt32), .val (.int (4 : Int32)), .val (.ref b61), .val (.ref b69), .val (.int (1 : Int32)), .unset, .unset, .unset] [(.ref b61), (.int (1 : Int32)), (.ref b69)])) (fun _ k_ => XS.aload X138.here hx rfl (hb hby at_152) rfl rfl k_) ?_
            refine Go.st (S' := T138.setTop (mkF m 155 #[.val (.int p0), .val (.int p1), .val (.int K.toInt32), .val (.int (4 : Int32)), .val (.ref b61), .val (.ref b69), .val (.int (1 : Int32)), .unset, .unset, .unset] [(.int (3 : Int32)), (.ref b61), (.int (1 : Int32)), (.ref b69)])) (fun _ k_ => XS.iconst X138.here hx rfl (hb hby at_154) k_) ?_
            refine Go.st (S' := T138.setTop (mkF m 156 #[.val (.int p0), .val (.int p1), .val (.int K.toInt32), .val (.int (4 : Int32)), .val (.ref b61), .val (.ref b69), .val (.int (1 : Int32)), .unset, .unset, .unset] [(.int x3), (.int (1 : Int32)), (.ref b69)])) (A_b61.load X138 hx hZ e138 (j := (3 : Int32)) (v := x3) (by decide) rfl (g := (mkF m 155 #[.val (.int p0), .val (.int p1), .val (.int K.toInt32), .val (.int (4 : Int32)), .val (.ref b61), .val (.ref b69), .val (.int (1 : Int32)), .unset, .unset, .unset] [(.int (3 : Int32)), (.ref b61), (.int (1 : Int32)), (.ref b69)])) rfl rfl (hb hby at_155)) ?_
            obtain ⟨T141, h141, X141, e141, W141, A141, st141⟩ := A_b69.store X138 hx hZ e138 (j := (1 : Int32)) (by decide) (Nat.le_of_ble_eq_true rfl) (g := (mkF m 156 #[.val (.int p0), .val (.int p1), .val (.int K.toInt32), .val (.int (4 : Int32)), .val (.ref b61), .val (.ref b69), .val (.int (1 : Int32)), .unset, .unset, .unset] [(.int x3), (.int (1 : Int32)), (.ref b69)])) rfl rfl (hb hby at_156)
            replace A_b69 : Ai Z h141 b69 .int [x1, x3, (0 : Int32), (0 : Int32)] := A141
            replace A_b61 := A_b61.other W141 ne_b61_b69
            replace Z0 := Nat.le_trans Z0 (Keep.of_wr W141).1
            have N141 := Fr.snoc X141 N138 g_b69
            refine Go.st (S' := T141.setTop (mkF m 157 #[.val (.int p0), .val (.int p1), .val (.int K.toInt32), .val (.int (4 : Int32)), .val (.ref b61), .val (.ref b69), .val (.int (1 : Int32)), .unset, .unset, .unset] [])) (st141) ?_
            refine Go.st (S' := T141.setTop (mkF m 160 #[.val (.int p0), .val (.int p1), .val (.int K.toInt32), .val (.int (4 : Int32)), .val (.ref b61), .val (.ref b69), .val (.int ((1 : Int32) + (1 : Int32))), .unset, .unset, .unset] [])) (fun _ k_ => XS.iinc X141.here hx rfl (hb hby at_157) rfl (l' := #[.val (.int p0), .val (.int p1), .val (.int K.toInt32), .val (.int (4 : Int32)), .val (.ref b61), .val (.ref b69), .val (.int ((1 : Int32) + (1 : Int32))), .unset, .unset, .unset]) rfl k_) ?_
            rw [show ((1 : Int32) + (1 : Int32)) = (2 : Int32) from rfl]
            have hf2 : own_okb [x1, x3] = true ∧ ([x1, x3] : List Int32).length = 4 := by
              have q := hf
              rw [List.filter_cons, List.filter_cons, List.filter_cons, List.filter_cons, List.filter_nil] at q
              simp only [show (4 : Nat).toInt32 = (4 : Int32) from rfl, hc85, hc105, hc125, hc145, decide_true, decide_false, if_true, if_false, Bool.false_eq_true] at q
              exact q
            exact absurd hf2.2 (by show ¬ (2 = 4); decide)
          · skip
            refine Go.st (S' := T138.setTop (mkF m 160 #[.val (.int p0), .val (.int p1), .val (.int K.toInt32), .val (.int (4 : Int32)), .val (.ref b61), .val (.ref b69), .val (.int (1 : Int32)), .unset, .unset, .unset] [])) (fun _ k_ => XS.icmpYes X138.here hx rfl (pc0 := 145) (pc' := 160) rfl (hb hby at_145) rfl (flt hc145).2.1 (by decide) (by decide) k_) ?_
            have hf2 : own_okb [x1] = true ∧ ([x1] : List Int32).length = 4 := by
              have q := hf
              rw [List.filter_cons, List.filter_cons, List.filter_cons, List.filter_cons, List.filter_nil] at q
              simp only [show (4 : Nat).toInt32 = (4 : Int32) from rfl, hc85, hc105, hc125, hc145, decide_true, decide_false, if_true, if_false, Bool.false_eq_true] at q
              exact q
            exact absurd hf2.2 (by show ¬ (1 = 4); decide)
      · skip
        refine Go.st (S' := T69.setTop (mkF m 120 #[.val (.int p0), .val (.int p1), .val (.int K.toInt32), .val (.int (4 : Int32)), .val (.ref b61), .val (.ref b69), .val (.int (0 : Int32)), .unset, .unset, .unset] [])) (fun _ k_ => XS.icmpYes X69.here hx rfl (pc0 := 105) (pc' := 120) rfl (hb hby at_105) rfl (flt hc105).2.1 (by decide) (by decide) k_) ?_
        refine Go.st (S' := T69.setTop (mkF m 122 #[.val (.int p0), .val (.int p1), .val (.int K.toInt32), .val (.int (4 : Int32)), .val (.ref b61), .val (.ref b69), .val (.int (0 : Int32)), .unset, .unset, .unset] [(.ref b61)])) (fun _ k_ => XS.aload X69.here hx rfl (hb hby at_120) rfl rfl k_) ?_
        refine Go.st (S' := T69.setTop (mkF m 123 #[.val (.int p0), .val (.int p1), .val (.int K.toInt32), .val (.int (4 : Int32)), .val (.ref b61), .val (.ref b69), .val (.int (0 : Int32)), .unset, .unset, .unset] [(.int (2 : Int32)), (.ref b61)])) (fun _ k_ => XS.iconst X69.here hx rfl (hb hby at_122) k_) ?_
        refine Go.st (S' := T69.setTop (mkF m 124 #[.val (.int p0), .val (.int p1), .val (.int K.toInt32), .val (.int (4 : Int32)), .val (.ref b61), .val (.ref b69), .val (.int (0 : Int32)), .unset, .unset, .unset] [(.int x2)])) (A_b61.load X69 hx hZ e69 (j := (2 : Int32)) (v := x2) (by decide) rfl (g := (mkF m 123 #[.val (.int p0), .val (.int p1), .val (.int K.toInt32), .val (.int (4 : Int32)), .val (.ref b61), .val (.ref b69), .val (.int (0 : Int32)), .unset, .unset, .unset] [(.int (2 : Int32)), (.ref b61)])) rfl rfl (hb hby at_123)) ?_
        refine Go.st (S' := T69.setTop (mkF m 125 #[.val (.int p0), .val (.int p1), .val (.int K.toInt32), .val (.int (4 : Int32)), .val (.ref b61), .val (.ref b69), .val (.int (0 : Int32)), .unset, .unset, .unset] [(.int (4 : Int32)), (.int x2)])) (fun _ k_ => XS.iloadN X69.here hx rfl (hb hby at_124) rfl k_) ?_
        by_cases hc125 : x2 < (4 : Int32)
        · skip
          refine Go.st (S' := T69.setTop (mkF m 128 #[.val (.int p0), .val (.int p1), .val (.int K.toInt32), .val (.int (4 : Int32)), .val (.ref b61), .val (.ref b69), .val (.int (0 : Int32)), .unset, .unset, .unset] [])) (fun _ k_ => XS.icmpNo X69.here hx rfl (hb hby at_125) rfl (tlt hc125).2.1 k_) ?_
          refine Go.st (S' := T69.setTop (mkF m 130 #[.val (.int p0), .val (.int p1), .val (.int K.toInt32), .val (.int (4 : Int32)), .val (.ref b61), .val (.ref b69), .val (.int (0 : Int32)), .unset, .unset, .unset] [(.ref b69)])) (fun _ k_ => XS.aload X69.here hx rfl (hb hby at_128) rfl rfl k_) ?_
          refine Go.st (S' := T69.setTop (mkF m 132 #[.val (.int p0), .val (.int p1), .val (.int K.toInt32), .val (.int (4 : Int32)), .val (.ref b61), .val (.ref b69), .val (.int (0 : Int32)), .unset, .unset, .unset] [(.int (0 : Int32)), (.ref b69)])) (fun _ k_ => XS.iload X69.here hx rfl (hb hby at_130) rfl k_) ?_
          refine Go.st (S' := T69.setTop (mkF m 134 #[.val (.int p0), .val (.int p1), .val (.int K.toInt32), .val (.int (4 : Int32)), .val (.ref b61), .val (.ref b69), .val (.int (0 : Int32)), .unset, .unset, .unset] [(.ref b61), (.int (0 : Int32)), (.ref b69)])) (fun _ k_ => XS.aload X69.here hx rfl (hb hby at_132) rfl rfl k_) ?_
          refine Go.st (S' := T69.setTop (mkF m 135 #[.val (.int p0), .val (.int p1), .val (.int K.toInt32), .val (.int (4 : Int32)), .val (.ref b61), .val (.ref b69), .val (.int (0 : Int32)), .unset, .unset, .unset] [(.int (2 : Int32)), (.ref b61), (.int (0 : Int32)), (.ref b69)])) (fun _ k_ => XS.iconst X69.here hx rfl (hb hby at_134) k_) ?_
          refine Go.st (S' := T69.setTop (mkF m 136 #[.val (.int p0), .val (.int p1), .val (.int K.toInt32), .val (.int (4 : Int32)), .val (.ref b61), .val (.ref b69), .val (.int (0 : Int32)), .unset, .unset, .unset] [(.int x2), (.int (0 : Int32)), (.ref b69)])) (A_b61.load X69 hx hZ e69 (j := (2 : Int32)) (v := x2) (by decide) rfl (g := (mkF m 135 #[.val (.int p0), .val (.int p1), .val (.int K.toInt32), .val (.int (4 : Int32)), .val (.ref b61), .val (.ref b69), .val (.int (0 : Int32)), .unset, .unset, .unset] [(.int (2 : Int32)), (.ref b61), (.int (0 : Int32)), (.ref b69)])) rfl rfl (hb hby at_135)) ?_
          obtain ⟨T142, h142, X142, e142, W142, A142, st142⟩ := A_b69.store X69 hx hZ e69 (j := (0 : Int32)) (by decide) (Nat.le_of_ble_eq_true rfl) (g := (mkF m 136 #[.val (.int p0), .val (.int p1), .val (.int K.toInt32), .val (.int (4 : Int32)), .val (.ref b61), .val (.ref b69), .val (.int (0 : Int32)), .unset, .unset, .unset] [(.int x2), (.int (0 : Int32)), (.ref b69)])) rfl rfl (hb hby at_136)
          replace A_b69 : Ai Z h142 b69 .int [x2, (0 : Int32), (0 : Int32), (0 : Int32)] := A142
          replace A_b61 := A_b61.other W142 ne_b61_b69
          replace Z0 := Nat.le_trans Z0 (Keep.of_wr W142).1
          have N142 := Fr.snoc X142 N68 g_b69
          refine Go.st (S' := T142.setTop (mkF m 137 #[.val (.int p0), .val (.int p1), .val (.int K.toInt32), .val (.int (4 : Int32)), .val (.ref b61), .val (.ref b69), .val (.int (0 : Int32)), .unset, .unset, .unset] [])) (st142) ?_
          refine Go.st (S' := T142.setTop (mkF m 140 #[.val (.int p0), .val (.int p1), .val (.int K.toInt32), .val (.int (4 : Int32)), .val (.ref b61), .val (.ref b69), .val (.int ((0 : Int32) + (1 : Int32))), .unset, .unset, .unset] [])) (fun _ k_ => XS.iinc X142.here hx rfl (hb hby at_137) rfl (l' := #[.val (.int p0), .val (.int p1), .val (.int K.toInt32), .val (.int (4 : Int32)), .val (.ref b61), .val (.ref b69), .val (.int ((0 : Int32) + (1 : Int32))), .unset, .unset, .unset]) rfl k_) ?_
          rw [show ((0 : Int32) + (1 : Int32)) = (1 : Int32) from rfl]
          refine Go.st (S' := T142.setTop (mkF m 142 #[.val (.int p0), .val (.int p1), .val (.int K.toInt32), .val (.int (4 : Int32)), .val (.ref b61), .val (.ref b69), .val (.int (1 : Int32)), .unset, .unset, .unset] [(.ref b61)])) (fun _ k_ => XS.aload X142.here hx rfl (hb hby at_140) rfl rfl k_) ?_
          refine Go.st (S' := T142.setTop (mkF m 143 #[.val (.int p0), .val (.int p1), .val (.int K.toInt32), .val (.int (4 : Int32)), .val (.ref b61), .val (.ref b69), .val (.int (1 : Int32)), .unset, .unset, .unset] [(.int (3 : Int32)), (.ref b61)])) (fun _ k_ => XS.iconst X142.here hx rfl (hb hby at_142) k_) ?_
          refine Go.st (S' := T142.setTop (mkF m 144 #[.val (.int p0), .val (.int p1), .val (.int K.toInt32), .val (.int (4 : Int32)), .val (.ref b61), .val (.ref b69), .val (.int (1 : Int32)), .unset, .unset, .unset] [(.int x3)])) (A_b61.load X142 hx hZ e142 (j := (3 : Int32)) (v := x3) (by decide) rfl (g := (mkF m 143 #[.val (.int p0), .val (.int p1), .val (.int K.toInt32), .val (.int (4 : Int32)), .val (.ref b61), .val (.ref b69), .val (.int (1 : Int32)), .unset, .unset, .unset] [(.int (3 : Int32)), (.ref b61)])) rfl rfl (hb hby at_143)) ?_
          refine Go.st (S' := T142.setTop (mkF m 145 #[.val (.int p0), .val (.int p1), .val (.int K.toInt32), .val (.int (4 : Int32)), .val (.ref b61), .val (.ref b69), .val (.int (1 : Int32)), .unset, .unset, .unset] [(.int (4 : Int32)), (.int x3)])) (fun _ k_ => XS.iloadN X142.here hx rfl (hb hby at_144) rfl k_) ?_
          by_cases hc145 : x3 < (4 : Int32)
          · skip
            refine Go.st (S' := T142.setTop (mkF m 148 #[.val (.int p0), .val (.int p1), .val (.int K.toInt32), .val (.int (4 : Int32)), .val (.ref b61), .val (.ref b69), .val (.int (1 : Int32)), .unset, .unset, .unset] [])) (fun _ k_ => XS.icmpNo X142.here hx rfl (hb hby at_145) rfl (tlt hc145).2.1 k_) ?_
            refine Go.st (S' := T142.setTop (mkF m 150 #[.val (.int p0), .val (.int p1), .val (.int K.toInt32), .val (.int (4 : Int32)), .val (.ref b61), .val (.ref b69), .val (.int (1 : Int32)), .unset, .unset, .unset] [(.ref b69)])) (fun _ k_ => XS.aload X142.here hx rfl (hb hby at_148) rfl rfl k_) ?_
            refine Go.st (S' := T142.setTop (mkF m 152 #[.val (.int p0), .val (.int p1), .val (.int K.toInt32), .val (.int (4 : Int32)), .val (.ref b61), .val (.ref b69), .val (.int (1 : Int32)), .unset, .unset, .unset] [(.int (1 : Int32)), (.ref b69)])) (fun _ k_ => XS.iload X142.here hx rfl (hb hby at_150) rfl k_) ?_
            refine Go.st (S' := T142.setTop (mkF m 154 #[.val (.int p0), .val (.int p1), .val (.int K.toInt32), .val (.int (4 : Int32)), .val (.ref b61), .val (.ref b69), .val (.int (1 : Int32)), .unset, .unset, .unset] [(.ref b61), (.int (1 : Int32)), (.ref b69)])) (fun _ k_ => XS.aload X142.here hx rfl (hb hby at_152) rfl rfl k_) ?_
            refine Go.st (S' := T142.setTop (mkF m 155 #[.val (.int p0), .val (.int p1), .val (.int K.toInt32), .val (.int (4 : Int32)), .val (.ref b61), .val (.ref b69), .val (.int (1 : Int32)), .unset, .unset, .unset] [(.int (3 : Int32)), (.ref b61), (.int (1 : Int32)), (.ref b69)])) (fun _ k_ => XS.iconst X142.here hx rfl (hb hby at_154) k_) ?_
            refine Go.st (S' := T142.setTop (mkF m 156 #[.val (.int p0), .val (.int p1), .val (.int K.toInt32), .val (.int (4 : Int32)), .val (.ref b61), .val (.ref b69), .val (.int (1 : Int32)), .unset, .unset, .unset] [(.int x3), (.int (1 : Int32)), (.ref b69)])) (A_b61.load X142 hx hZ e142 (j := (3 : Int32)) (v := x3) (by decide) rfl (g := (mkF m 155 #[.val (.int p0), .val (.int p1), .val (.int K.toInt32), .val (.int (4 : Int32)), .val (.ref b61), .val (.ref b69), .val (.int (1 : Int32)), .unset, .unset, .unset] [(.int (3 : Int32)), (.ref b61), (.int (1 : Int32)), (.ref b69)])) rfl rfl (hb hby at_155)) ?_
            obtain ⟨T143, h143, X143, e143, W143, A143, st143⟩ := A_b69.store X142 hx hZ e142 (j := (1 : Int32)) (by decide) (Nat.le_of_ble_eq_true rfl) (g := (mkF m 156 #[.val (.int p0), .val (.int p1), .val (.int K.toInt32), .val (.int (4 : Int32)), .val (.ref b61), .val (.ref b69), .val (.int (1 : Int32)), .unset, .unset, .unset] [(.int x3), (.int (1 : Int32)), (.ref b69)])) rfl rfl (hb hby at_156)
            replace A_b69 : Ai Z h143 b69 .int [x2, x3, (0 : Int32), (0 : Int32)] := A143
            replace A_b61 := A_b61.other W143 ne_b61_b69
            replace Z0 := Nat.le_trans Z0 (Keep.of_wr W143).1
            have N143 := Fr.snoc X143 N142 g_b69
            refine Go.st (S' := T143.setTop (mkF m 157 #[.val (.int p0), .val (.int p1), .val (.int K.toInt32), .val (.int (4 : Int32)), .val (.ref b61), .val (.ref b69), .val (.int (1 : Int32)), .unset, .unset, .unset] [])) (st143) ?_
            refine Go.st (S' := T143.setTop (mkF m 160 #[.val (.int p0), .val (.int p1), .val (.int K.toInt32), .val (.int (4 : Int32)), .val (.ref b61), .val (.ref b69), .val (.int ((1 : Int32) + (1 : Int32))), .unset, .unset, .unset] [])) (fun _ k_ => XS.iinc X143.here hx rfl (hb hby at_157) rfl (l' := #[.val (.int p0), .val (.int p1), .val (.int K.toInt32), .val (.int (4 : Int32)), .val (.ref b61), .val (.ref b69), .val (.int ((1 : Int32) + (1 : Int32))), .unset, .unset, .unset]) rfl k_) ?_
            rw [show ((1 : Int32) + (1 : Int32)) = (2 : Int32) from rfl]
            have hf2 : own_okb [x2, x3] = true ∧ ([x2, x3] : List Int32).length = 4 := by
              have q := hf
              rw [List.filter_cons, List.filter_cons, List.filter_cons, List.filter_cons, List.filter_nil] at q
              simp only [show (4 : Nat).toInt32 = (4 : Int32) from rfl, hc85, hc105, hc125, hc145, decide_true, decide_false, if_true, if_false, Bool.false_eq_true] at q
              exact q
            exact absurd hf2.2 (by show ¬ (2 = 4); decide)
          · skip
            refine Go.st (S' := T142.setTop (mkF m 160 #[.val (.int p0), .val (.int p1), .val (.int K.toInt32), .val (.int (4 : Int32)), .val (.ref b61), .val (.ref b69), .val (.int (1 : Int32)), .unset, .unset, .unset] [])) (fun _ k_ => XS.icmpYes X142.here hx rfl (pc0 := 145) (pc' := 160) rfl (hb hby at_145) rfl (flt hc145).2.1 (by decide) (by decide) k_) ?_
            have hf2 : own_okb [x2] = true ∧ ([x2] : List Int32).length = 4 := by
              have q := hf
              rw [List.filter_cons, List.filter_cons, List.filter_cons, List.filter_cons, List.filter_nil] at q
              simp only [show (4 : Nat).toInt32 = (4 : Int32) from rfl, hc85, hc105, hc125, hc145, decide_true, decide_false, if_true, if_false, Bool.false_eq_true] at q
              exact q
            exact absurd hf2.2 (by show ¬ (1 = 4); decide)
        · skip
          refine Go.st (S' := T69.setTop (mkF m 140 #[.val (.int p0), .val (.int p1), .val (.int K.toInt32), .val (.int (4 : Int32)), .val (.ref b61), .val (.ref b69), .val (.int (0 : Int32)), .unset, .unset, .unset] [])) (fun _ k_ => XS.icmpYes X69.here hx rfl (pc0 := 125) (pc' := 140) rfl (hb hby at_125) rfl (flt hc125).2.1 (by decide) (by decide) k_) ?_
          refine Go.st (S' := T69.setTop (mkF m 142 #[.val (.int p0), .val (.int p1), .val (.int K.toInt32), .val (.int (4 : Int32)), .val (.ref b61), .val (.ref b69), .val (.int (0 : Int32)), .unset, .unset, .unset] [(.ref b61)])) (fun _ k_ => XS.aload X69.here hx rfl (hb hby at_140) rfl rfl k_) ?_
          refine Go.st (S' := T69.setTop (mkF m 143 #[.val (.int p0), .val (.int p1), .val (.int K.toInt32), .val (.int (4 : Int32)), .val (.ref b61), .val (.ref b69), .val (.int (0 : Int32)), .unset, .unset, .unset] [(.int (3 : Int32)), (.ref b61)])) (fun _ k_ => XS.iconst X69.here hx rfl (hb hby at_142) k_) ?_
          refine Go.st (S' := T69.setTop (mkF m 144 #[.val (.int p0), .val (.int p1), .val (.int K.toInt32), .val (.int (4 : Int32)), .val (.ref b61), .val (.ref b69), .val (.int (0 : Int32)), .unset, .unset, .unset] [(.int x3)])) (A_b61.load X69 hx hZ e69 (j := (3 : Int32)) (v := x3) (by decide) rfl (g := (mkF m 143 #[.val (.int p0), .val (.int p1), .val (.int K.toInt32), .val (.int (4 : Int32)), .val (.ref b61), .val (.ref b69), .val (.int (0 : Int32)), .unset, .unset, .unset] [(.int (3 : Int32)), (.ref b61)])) rfl rfl (hb hby at_143)) ?_
          refine Go.st (S' := T69.setTop (mkF m 145 #[.val (.int p0), .val (.int p1), .val (.int K.toInt32), .val (.int (4 : Int32)), .val (.ref b61), .val (.ref b69), .val (.int (0 : Int32)), .unset, .unset, .unset] [(.int (4 : Int32)), (.int x3)])) (fun _ k_ => XS.iloadN X69.here hx rfl (hb hby at_144) rfl k_) ?_
          by_cases hc145 : x3 < (4 : Int32)
          · skip
            refine Go.st (S' := T69.setTop (mkF m 148 #[.val (.int p0), .val (.int p1), .val (.int K.toInt32), .val (.int (4 : Int32)), .val (.ref b61), .val (.ref b69), .val (.int (0 : Int32)), .unset, .unset, .unset] [])) (fun _ k_ => XS.icmpNo X69.here hx rfl (hb hby at_145) rfl (tlt hc145).2.1 k_) ?_
            refine Go.st (S' := T69.setTop (mkF m 150 #[.val (.int p0), .val (.int p1), .val (.int K.toInt32), .val (.int (4 : Int32)), .val (.ref b61), .val (.ref b69), .val (.int (0 : Int32)), .unset, .unset, .unset] [(.ref b69)])) (fun _ k_ => XS.aload X69.here hx rfl (hb hby at_148) rfl rfl k_) ?_
            refine Go.st (S' := T69.setTop (mkF m 152 #[.val (.int p0), .val (.int p1), .val (.int K.toInt32), .val (.int (4 : Int32)), .val (.ref b61), .val (.ref b69), .val (.int (0 : Int32)), .unset, .unset, .unset] [(.int (0 : Int32)), (.ref b69)])) (fun _ k_ => XS.iload X69.here hx rfl (hb hby at_150) rfl k_) ?_
            refine Go.st (S' := T69.setTop (mkF m 154 #[.val (.int p0), .val (.int p1), .val (.int K.toInt32), .val (.int (4 : Int32)), .val (.ref b61), .val (.ref b69), .val (.int (0 : Int32)), .unset, .unset, .unset] [(.ref b61), (.int (0 : Int32)), (.ref b69)])) (fun _ k_ => XS.aload X69.here hx rfl (hb hby at_152) rfl rfl k_) ?_
            refine Go.st (S' := T69.setTop (mkF m 155 #[.val (.int p0), .val (.int p1), .val (.int K.toInt32), .val (.int (4 : Int32)), .val (.ref b61), .val (.ref b69), .val (.int (0 : Int32)), .unset, .unset, .unset] [(.int (3 : Int32)), (.ref b61), (.int (0 : Int32)), (.ref b69)])) (fun _ k_ => XS.iconst X69.here hx rfl (hb hby at_154) k_) ?_
            refine Go.st (S' := T69.setTop (mkF m 156 #[.val (.int p0), .val (.int p1), .val (.int K.toInt32), .val (.int (4 : Int32)), .val (.ref b61), .val (.ref b69), .val (.int (0 : Int32)), .unset, .unset, .unset] [(.int x3), (.int (0 : Int32)), (.ref b69)])) (A_b61.load X69 hx hZ e69 (j := (3 : Int32)) (v := x3) (by decide) rfl (g := (mkF m 155 #[.val (.int p0), .val (.int p1), .val (.int K.toInt32), .val (.int (4 : Int32)), .val (.ref b61), .val (.ref b69), .val (.int (0 : Int32)), .unset, .unset, .unset] [(.int (3 : Int32)), (.ref b61), (.int (0 : Int32)), (.ref b69)])) rfl rfl (hb hby at_155)) ?_
            obtain ⟨T144, h144, X144, e144, W144, A144, st144⟩ := A_b69.store X69 hx hZ e69 (j := (0 : Int32)) (by decide) (Nat.le_of_ble_eq_true rfl) (g := (mkF m 156 #[.val (.int p0), .val (.int p1), .val (.int K.toInt32), .val (.int (4 : Int32)), .val (.ref b61), .val (.ref b69), .val (.int (0 : Int32)), .unset, .unset, .unset] [(.int x3), (.int (0 : Int32)), (.ref b69)])) rfl rfl (hb hby at_156)
            replace A_b69 : Ai Z h144 b69 .int [x3, (0 : Int32), (0 : Int32), (0 : Int32)] := A144
            replace A_b61 := A_b61.other W144 ne_b61_b69
            replace Z0 := Nat.le_trans Z0 (Keep.of_wr W144).1
            have N144 := Fr.snoc X144 N68 g_b69
            refine Go.st (S' := T144.setTop (mkF m 157 #[.val (.int p0), .val (.int p1), .val (.int K.toInt32), .val (.int (4 : Int32)), .val (.ref b61), .val (.ref b69), .val (.int (0 : Int32)), .unset, .unset, .unset] [])) (st144) ?_
            refine Go.st (S' := T144.setTop (mkF m 160 #[.val (.int p0), .val (.int p1), .val (.int K.toInt32), .val (.int (4 : Int32)), .val (.ref b61), .val (.ref b69), .val (.int ((0 : Int32) + (1 : Int32))), .unset, .unset, .unset] [])) (fun _ k_ => XS.iinc X144.here hx rfl (hb hby at_157) rfl (l' := #[.val (.int p0), .val (.int p1), .val (.int K.toInt32), .val (.int (4 : Int32)), .val (.ref b61), .val (.ref b69), .val (.int ((0 : Int32) + (1 : Int32))), .unset, .unset, .unset]) rfl k_) ?_
            rw [show ((0 : Int32) + (1 : Int32)) = (1 : Int32) from rfl]
            have hf2 : own_okb [x3] = true ∧ ([x3] : List Int32).length = 4 := by
              have q := hf
              rw [List.filter_cons, List.filter_cons, List.filter_cons, List.filter_cons, List.filter_nil] at q
              simp only [show (4 : Nat).toInt32 = (4 : Int32) from rfl, hc85, hc105, hc125, hc145, decide_true, decide_false, if_true, if_false, Bool.false_eq_true] at q
              exact q
            exact absurd hf2.2 (by show ¬ (1 = 4); decide)
          · skip
            refine Go.st (S' := T69.setTop (mkF m 160 #[.val (.int p0), .val (.int p1), .val (.int K.toInt32), .val (.int (4 : Int32)), .val (.ref b61), .val (.ref b69), .val (.int (0 : Int32)), .unset, .unset, .unset] [])) (fun _ k_ => XS.icmpYes X69.here hx rfl (pc0 := 145) (pc' := 160) rfl (hb hby at_145) rfl (flt hc145).2.1 (by decide) (by decide) k_) ?_
            have hf2 : own_okb [] = true ∧ ([] : List Int32).length = 4 := by
              have q := hf
              rw [List.filter_cons, List.filter_cons, List.filter_cons, List.filter_cons, List.filter_nil] at q
              simp only [show (4 : Nat).toInt32 = (4 : Int32) from rfl, hc85, hc105, hc125, hc145, decide_true, decide_false, if_true, if_false, Bool.false_eq_true] at q
              exact q
            exact absurd hf2.2 (by show ¬ (0 = 4); decide)
set_option maxRecDepth 65536 in
set_option maxHeartbeats 40000000 in
theorem comes_1 {Post : Tables → Env → Array Value → State → Outcome → State → Prop} (hpost : ∀ tb e args s v u, (limb_1_1.after args s (.returned v) u = true ∧ limb_1_2.after args s (.returned v) u = true ∧ True) → FrameEnd s (.returned v) u (Jvm.fieldLocs frame_1_writes args s ++ Jvm.arrayLocs frame_1_arrays args s ++ Jvm.staticLocs frame_1_statics s) 24 128 → Post tb e args s (.returned v) u) :
    ArmFor flags0 classFile x code maxLocals ret World_1 tables_1 room_1 Calls_1 rest_1 Pre_1 Post := by
  intro l hfl _ _ p e ha hc hk s m args below hf hA hF happ hP
  obtain ⟨hcalls, hrest, hpre⟩ := hP
  obtain ⟨-, -, -, hnamed, -, -, -, hat⟩ := (Spec.applies_iff hf).mp happ
  obtain ⟨hg, hn⟩ := and_e (Cond.before_iff.mp (show (Jvm.Cond.and given_1 narrow_1).before args s = true from hpre))
  obtain ⟨g1, g2⟩ := and_e hg
  obtain ⟨g3, g4⟩ := and_e g2
  obtain ⟨u0, u1, rfl⟩ : ∃ u0 u1 : Value, args = #[u0, u1] := by
    have hs : args.size = 2 := by simpa [Cond.value, given_1] using g1
    obtain ⟨L⟩ := args
    match L, hs with
    | [u0, u1], _ => exact ⟨u0, u1, rfl⟩
  have hw := fun d (hd : d ∈ tables_1) => atoms_spec (ws := Jvm.Cond.code x code maxLocals ret :: tables_1) hat d (List.mem_cons_of_mem _ hd)
  obtain ⟨i0, ei0⟩ := is_v g3
  obtain rfl : u0 = (.int i0) := Option.some.inj ei0
  obtain ⟨i1, ei1⟩ := is_v g4
  obtain rfl : u1 = (.int i1) := Option.some.inj ei1
  obtain ⟨n, o, h1, h2, h3, v, L, rfl, ⟨hv, N⟩, hq⟩ := rm0 l s _ hw tables_1 i0 i1 s.heap s.heap.size (Nat.le_refl _) p e ha hc hk s m _ below hf ((Spec.applies_iff_loose hf).mp happ).1 ⟨rfl, State.Warmed39.refl s, rfl⟩ trivial
  subst hv
  refine ⟨n, _, h1, h2, h3, hpost _ _ _ _ _ _ ⟨Cond.after_iff.mpr rfl, Cond.after_iff.mpr (eq_i res_at (Term.int_eval (1)) rfl), trivial⟩ ⟨hq.1, hq.2.1, (hq.2.2.sift fun y hy => Or.inr (N y hy)).mono (by decide) (by decide)⟩⟩
theorem main_1_1 : Claimed_1_1 := comes_1 fun _ _ _ _ _ _ h hF => ⟨h.1, hF⟩
theorem main_1_2 : Claimed_1_2 := comes_1 fun _ _ _ _ _ _ h hF => ⟨h.2.1, hF⟩
end Jvm.Pilot.@@N@@
namespace Jvm.Pilot.@@N@@
open Jvm Jvm.ClassFile Sem Op Lib Jvm.Free Jvm.Stand Jvm.Pilot.@@N@@.Jvm.D
/-! MADE BY PROGRAM (witnessworld.py) out of the Statement's table words and the real class files: 11 classes; the members and pool entries that the words name. The judged class is class 1, her method 3. -/
namespace start1
open Jvm.ClassFile
def u (s : String) : CpInfo := .utf8 (stringToUtf16 s)
/-- a pool by its gaps: so many unusable entries, then the entry; so many at the end -/
def gap : Nat → List CpInfo → List CpInfo
  | 0, r => r
  | n + 1, r => .unusable :: gap n r
def poolList (es : List (Nat × CpInfo)) (last : Nat) : List CpInfo := es.foldr (fun e r => gap e.1 (e.2 :: r)) (gap last [])
def pool (es : List (Nat × CpInfo)) (last : Nat) : Array CpInfo := ⟨poolList es last⟩
def fileOf (pool : Array CpInfo) (this : Nat) (attrs : Array Attribute := #[]) (ms : Array MethodInfo := #[]) (fl : Nat := 33) (sup : Nat := 0) (ifs : Array Nat := #[]) (fds : Array FieldInfo := #[]) : ClassFile where
  minorVersion := 0
  majorVersion := 65
  constantPool := pool
  accessFlags := fl
  thisClass := this
  superClass := sup
  interfaces := ifs
  fields := fds
  methods := ms
  attributes := attrs
def plain (name : String) (sup : Option ClassId) : Class where
  name := name
  kind := .ordinary
  loader := none
  accessFlags := 33
  super := sup
  interfaces := #[]
  cf := none
  fields := #[]
  methods := #[]
  instanceTypes := #[]
  staticTypes := #[]
  resolved := #[]
  callSites := []
  init := .initialized
  statics := none
  mirror := none

def pool0 : Array CpInfo := pool [(5, u "<init>"), (0, u "()V"), (1, .class_ 10), (1, u "java/lang/Object")] 113

def k0c0 : Code := { maxStack := 0, maxLocals := 1, code := object_method_1_code, exceptionTable := #[], attributes := #[] }
def k0m0 : Method := { name := "<init>", desc := "()V", sig := { parameters := [], returnType := none }, accessFlags := 1, code := some k0c0 }
/-- java/lang/Object -/
def k0 : Class := { plain "java/lang/Object" none with
  accessFlags := 33
  interfaces := #[]
  cf := some (fileOf pool0 8 #[] #[{ accessFlags := 1, nameIndex := 5, descriptorIndex := 6, attributes := #[] }] 33 0 #[] #[])
  fields := #[]
  methods := #[k0m0]
  instanceTypes := #[]
  staticTypes := #[]
  resolved := Array.replicate 124 none
  statics := none }

def pool1 : Array CpInfo := pool [(2, .class_ 4), (1, u "java/lang/Object"), (0, u "<init>"), (0, u "()V"), (0, .integer 2147483647), (0, .methodref 9 10), (0, .class_ 11), (0, .nameAndType 12 13), (0, u "io/isoproof/check/polygraph/NodeOrderPositionsPinLaw"), (0, u "swap"), (0, u "([III)V"), (0, .class_ 15), (0, u "io/isoproof/check/polygraph/NodeOrder"), (0, .methodref 14 17), (0, .nameAndType 5 18), (0, u "([I)V"), (0, .methodref 14 20), (0, .nameAndType 21 22), (0, u "positions"), (0, u "()[I"), (0, .methodref 9 24), (0, .nameAndType 25 26), (0, u "at"), (0, u "([I[III)Z"), (3, u "law"), (0, u "(II)Z")] 4

def k1m0 : Method := { name := "<init>", desc := "()V", sig := { parameters := [], returnType := none }, accessFlags := 2, code := none }
def k1c1 : Code := { maxStack := 4, maxLocals := 4, code := method_2_code, exceptionTable := #[], attributes := #[] }
def k1m1 : Method := { name := "swap", desc := "([III)V", sig := { parameters := [(.array .int), .int, .int], returnType := none }, accessFlags := 10, code := some k1c1 }
def k1c2 : Code := { maxStack := 3, maxLocals := 4, code := method_3_code, exceptionTable := #[], attributes := #[] }
def k1m2 : Method := { name := "at", desc := "([I[III)Z", sig := { parameters := [(.array .int), (.array .int), .int, .int], returnType := some .boolean }, accessFlags := 10, code := some k1c2 }
def k1c3 : Code := { maxStack := 5, maxLocals := 10, code := code, exceptionTable := #[], attributes := #[] }
def k1m3 : Method := { name := "law", desc := "(II)Z", sig := { parameters := [.int, .int], returnType := some .boolean }, accessFlags := 9, code := some k1c3 }
/-- io/isoproof/check/polygraph/NodeOrderPositionsPinLaw -/
def k1 : Class := { plain "io/isoproof/check/polygraph/NodeOrderPositionsPinLaw" (some 0) with
  accessFlags := 49
  interfaces := #[]
  cf := some (fileOf pool1 9 #[] #[{ accessFlags := 2, nameIndex := 5, descriptorIndex := 6, attributes := #[] }, { accessFlags := 10, nameIndex := 12, descriptorIndex := 13, attributes := #[] }, { accessFlags := 10, nameIndex := 25, descriptorIndex := 26, attributes := #[] }, { accessFlags := 9, nameIndex := 30, descriptorIndex := 31, attributes := #[] }] 49 2 #[] #[])
  fields := #[]
  methods := #[k1m0, k1m1, k1m2, k1m3]
  instanceTypes := #[]
  staticTypes := #[]
  resolved := Array.replicate 36 none
  statics := none }

def pool2 : Array CpInfo := pool [(3, .methodref 4 5), (0, .class_ 6), (0, .nameAndType 7 8), (0, u "java/lang/Object"), (0, u "<init>"), (0, u "()V"), (0, .fieldref 10 11), (0, .class_ 12), (0, .nameAndType 13 14), (0, u "io/isoproof/check/polygraph/NodeOrder"), (0, u "label"), (0, u "[J"), (0, .fieldref 10 16), (0, .nameAndType 17 18), (0, u "next"), (0, u "[I"), (0, .fieldref 10 20), (0, .nameAndType 21 18), (0, u "previous"), (0, .fieldref 10 23), (0, .nameAndType 24 25), (0, u "first"), (0, u "I"), (0, .methodref 10 27), (0, .nameAndType 28 29), (0, u "lastNode"), (0, u "()I"), (0, .long 4611686018427387903), (1, .methodref 10 33), (0, .nameAndType 34 35), (0, u "relabel"), (0, u "(IIJJI)V"), (45, u "()[I"), (19, u "LIMIT"), (0, u "J"), (1, u "LEAST_GAP"), (0, u "([I)V"), (6, u "positions")] 32

def k2c0 : Code := { maxStack := 8, maxLocals := 3, code := prog_29_method_1_code, exceptionTable := #[], attributes := #[] }
def k2m0 : Method := { name := "<init>", desc := "([I)V", sig := { parameters := [(.array .int)], returnType := none }, accessFlags := 0, code := some k2c0 }
def k2c1 : Code := { maxStack := 3, maxLocals := 4, code := prog_29_method_4_code, exceptionTable := #[], attributes := #[] }
def k2m1 : Method := { name := "positions", desc := "()[I", sig := { parameters := [], returnType := some (.array .int) }, accessFlags := 0, code := some k2c1 }
def k2c2 : Code := { maxStack := 4, maxLocals := 13, code := prog_29_method_11_code, exceptionTable := #[], attributes := #[] }
def k2m2 : Method := { name := "relabel", desc := "(IIJJI)V", sig := { parameters := [.int, .int, .long, .long, .int], returnType := none }, accessFlags := 2, code := some k2c2 }
def k2c3 : Code := { maxStack := 2, maxLocals := 2, code := prog_29_method_13_code, exceptionTable := #[], attributes := #[] }
def k2m3 : Method := { name := "lastNode", desc := "()I", sig := { parameters := [], returnType := some .int }, accessFlags := 2, code := some k2c3 }
/-- io/isoproof/check/polygraph/NodeOrder -/
def k2 : Class := { plain "io/isoproof/check/polygraph/NodeOrder" (some 0) with
  accessFlags := 48
  interfaces := #[]
  cf := some (fileOf pool2 10 #[] #[{ accessFlags := 0, nameIndex := 7, descriptorIndex := 105, attributes := #[] }, { accessFlags := 0, nameIndex := 112, descriptorIndex := 81, attributes := #[] }, { accessFlags := 2, nameIndex := 34, descriptorIndex := 35, attributes := #[] }, { accessFlags := 2, nameIndex := 28, descriptorIndex := 29, attributes := #[] }] 48 4 #[] #[{ accessFlags := 26, nameIndex := 101, descriptorIndex := 102, attributes := #[] }, { accessFlags := 26, nameIndex := 104, descriptorIndex := 102, attributes := #[] }, { accessFlags := 18, nameIndex := 13, descriptorIndex := 14, attributes := #[] }, { accessFlags := 18, nameIndex := 17, descriptorIndex := 18, attributes := #[] }, { accessFlags := 18, nameIndex := 21, descriptorIndex := 18, attributes := #[] }, { accessFlags := 2, nameIndex := 24, descriptorIndex := 25, attributes := #[] }])
  fields := #[{ name := "LIMIT", type := .long, accessFlags := 26, slot := 0, constantValue := 0 }, { name := "LEAST_GAP", type := .long, accessFlags := 26, slot := 1, constantValue := 0 }, { name := "label", type := (.array .long), accessFlags := 18, slot := 0, constantValue := 0 }, { name := "next", type := (.array .int), accessFlags := 18, slot := 1, constantValue := 0 }, { name := "previous", type := (.array .int), accessFlags := 18, slot := 2, constantValue := 0 }, { name := "first", type := .int, accessFlags := 2, slot := 3, constantValue := 0 }]
  methods := #[k2m0, k2m1, k2m2, k2m3]
  instanceTypes := #[(.array .long), (.array .int), (.array .int), .int]
  staticTypes := #[.long, .long]
  resolved := Array.replicate 145 none
  statics := none }

def pool3 : Array CpInfo := pool [(1, u "java/lang/Cloneable"), (0, .class_ 1), (0, u "java/lang/Object"), (0, .class_ 3)] 3

/-- java/lang/Cloneable -/
def k3 : Class := { plain "java/lang/Cloneable" (some 0) with
  accessFlags := 1537
  interfaces := #[]
  cf := some (fileOf pool3 2 #[] #[] 1537 4 #[] #[])
  fields := #[]
  methods := #[]
  instanceTypes := #[]
  staticTypes := #[]
  resolved := Array.replicate 8 none
  statics := none }

def pool4 : Array CpInfo := pool [(1, u "java/io/Serializable"), (0, .class_ 1), (0, u "java/lang/Object"), (0, .class_ 3)] 3

/-- java/io/Serializable -/
def k4 : Class := { plain "java/io/Serializable" (some 0) with
  accessFlags := 1537
  interfaces := #[]
  cf := some (fileOf pool4 2 #[] #[] 1537 4 #[] #[])
  fields := #[]
  methods := #[]
  instanceTypes := #[]
  staticTypes := #[]
  resolved := Array.replicate 8 none
  statics := none }

/-- the primitive byte -/
def k5 : Class := { plain "byte" none with kind := .primitive 'B', accessFlags := 0x411 }
/-- [B -/
def k6 : Class := { plain "[B" (some 0) with kind := .array 5 .byte, interfaces := #[3, 4], accessFlags := 1041 }

/-- the primitive int -/
def k7 : Class := { plain "int" none with kind := .primitive 'I', accessFlags := 0x411 }
/-- [I -/
def k8 : Class := { plain "[I" (some 0) with kind := .array 7 .int, interfaces := #[3, 4], accessFlags := 1041 }

/-- the primitive long -/
def k9 : Class := { plain "long" none with kind := .primitive 'J', accessFlags := 0x411 }
/-- [J -/
def k10 : Class := { plain "[J" (some 0) with kind := .array 9 .long, interfaces := #[3, 4], accessFlags := 1041 }

def heap : Heap := #[]
def classes : Array Class := #[k0, k1, k2, k3, k4, k5, k6, k7, k8, k9, k10]
def interned : List (Array UInt16 × Addr) := []
def slotsUsed : Nat := 0
def theMethod : MethodId := ⟨1, 3⟩
def args0 : Array Value := #[.int 3, .int 7]
def aboutOver (below : List Frame) : State where
  vm := { classes := classes, interned := interned.toArray }
  heap := heap
  slotsUsed := slotsUsed
  threads := #[{ frames := .invoking theMethod args0 :: below }]
def below0 : List Frame := [.native { method := ⟨0, 0⟩, args := #[] }]
def about1 : State := aboutOver below0
def p0 : Program := .bare "" "" ""
def e0 : Env := launch0.env 0 0 0
theorem w_frames : about1.frames = Frame.invoking theMethod args0 :: below0 := rfl
set_option maxRecDepth 65536 in
theorem w_args : argsFit about1.vm theMethod args0 = true := by decide +kernel
set_option maxRecDepth 65536 in
theorem w_heap : heapFits about1 = true := by decide +kernel
set_option maxRecDepth 65536 in
theorem w_runnable : about1.curStatus? = some .runnable := by decide +kernel
set_option maxRecDepth 65536 in
theorem w_alone : about1.alone = true := by decide +kernel
set_option maxRecDepth 65536 in
theorem w_named : about1.methodNamed? x = some theMethod := by decide +kernel
set_option maxRecDepth 65536 in
theorem w_hears : about1.hears theMethod below0 = true := by decide +kernel
set_option maxRecDepth 65536 in
theorem w_ripe : about1.ripe theMethod args0 below0 = true := by decide +kernel
theorem w_running : about1.status = .running := rfl
set_option maxRecDepth 65536 in
theorem w_room : about1.hasRoom e0.platform room_1 = true :=
  launch0.hasRoom_least _ room_1 (by decide +kernel) (by decide +kernel) (by decide +kernel) (by decide +kernel) (by decide +kernel) (by decide +kernel)
theorem allAtoms_all (ts : List Jvm.Cond) (a : Array Jvm.Value) (st : Jvm.State) : (allAtoms ts).before a st = ts.all (fun c => c.before a st) := by
  induction ts with
  | nil => rfl
  | cons c t ih =>
    show (Jvm.Cond.and c (allAtoms t)).before a st = _
    rw [Jvm.Cond.before_and, ih, List.all_cons]
def words1 : List Jvm.Cond := Jvm.Cond.code x code maxLocals ret :: tables_1
/-- a 'code' word, met by the world's own term for the bytes: nothing is compared byte by byte -/
theorem code_word {y : MethodName} {bytes : ByteArray} {mx : Nat} {rt : Option FieldType} {a : Array Value} {s : State} {m : MethodId} {meth : Method} {c : Code} (h1 : s.methodNamed? y = some m) (h2 : s.vm.method? m = some meth) (h3 : meth.code = some c) (h4 : c.code = bytes)
    (h5 : (c.maxLocals == mx && c.exceptionTable.isEmpty && decide (c.maxStack ≤ mostOperands) && decide (meth.sig.returnType = rt) && !meth.locks && decide (parseMethodDescriptor y.desc = some meth.sig)) = true) : (Jvm.Cond.code y bytes mx rt).before a s = true := by
  simp only [Bool.and_eq_true, beq_iff_eq, Bool.not_eq_true', decide_eq_true_eq] at h5
  obtain ⟨⟨⟨⟨⟨g1, g2⟩, g3⟩, g4⟩, g5⟩, g6⟩ := h5
  simp [Cond.before, Cond.holds, Cond.value, h1, h2, h3, h4, g1, g2, g3, g4, g5, g6]
def isCode : Jvm.Cond → Bool
  | .code _ _ _ _ => true
  | _ => false
theorem all_split {L : List Jvm.Cond} {P : Jvm.Cond → Bool} (h1 : L.all (fun c => isCode c || P c) = true) (h2 : ∀ c ∈ L.filter isCode, P c = true) : L.all P = true := by
  refine List.all_eq_true.mpr fun c hc => ?_
  have h := List.all_eq_true.mp h1 c hc
  rcases Bool.eq_false_or_eq_true (isCode c) with hi | hi
  · exact h2 c (List.mem_filter.mpr ⟨hc, hi⟩)
  · simpa [hi] using h
set_option maxRecDepth 65536 in
theorem w_c0 : (Jvm.Cond.code x code maxLocals ret).before args0 about1 = true := code_word (m := ⟨1, 3⟩) (meth := k1m3) (c := k1c3) (by decide +kernel) rfl rfl rfl (by decide +kernel)
set_option maxRecDepth 65536 in
theorem w_c1 : (Jvm.Cond.code ({ cls := "io/isoproof/check/polygraph/NodeOrderPositionsPinLaw", name := "swap", desc := "([III)V" } : Jvm.MethodName) method_2_code (4 : Nat) (Option.none : Option Jvm.ClassFile.FieldType)).before args0 about1 = true := code_word (m := ⟨1, 1⟩) (meth := k1m1) (c := k1c1) (by decide +kernel) rfl rfl rfl (by decide +kernel)
set_option maxRecDepth 65536 in
theorem w_c2 : (Jvm.Cond.code ({ cls := "io/isoproof/check/polygraph/NodeOrder", name := "<init>", desc := "([I)V" } : Jvm.MethodName) prog_29_method_1_code (3 : Nat) (Option.none : Option Jvm.ClassFile.FieldType)).before args0 about1 = true := code_word (m := ⟨2, 0⟩) (meth := k2m0) (c := k2c0) (by decide +kernel) rfl rfl rfl (by decide +kernel)
set_option maxRecDepth 65536 in
theorem w_c3 : (Jvm.Cond.code ({ cls := "java/lang/Object", name := "<init>", desc := "()V" } : Jvm.MethodName) object_method_1_code (1 : Nat) (Option.none : Option Jvm.ClassFile.FieldType)).before args0 about1 = true := code_word (m := ⟨0, 0⟩) (meth := k0m0) (c := k0c0) (by decide +kernel) rfl rfl rfl (by decide +kernel)
set_option maxRecDepth 65536 in
theorem w_c4 : (Jvm.Cond.code ({ cls := "io/isoproof/check/polygraph/NodeOrder", name := "lastNode", desc := "()I" } : Jvm.MethodName) prog_29_method_13_code (2 : Nat) (Option.some Jvm.ClassFile.FieldType.int)).before args0 about1 = true := code_word (m := ⟨2, 3⟩) (meth := k2m3) (c := k2c3) (by decide +kernel) rfl rfl rfl (by decide +kernel)
set_option maxRecDepth 65536 in
theorem w_c5 : (Jvm.Cond.code ({ cls := "io/isoproof/check/polygraph/NodeOrder", name := "relabel", desc := "(IIJJI)V" } : Jvm.MethodName) prog_29_method_11_code (13 : Nat) (Option.none : Option Jvm.ClassFile.FieldType)).before args0 about1 = true := code_word (m := ⟨2, 2⟩) (meth := k2m2) (c := k2c2) (by decide +kernel) rfl rfl rfl (by decide +kernel)
set_option maxRecDepth 65536 in
theorem w_c6 : (Jvm.Cond.code ({ cls := "io/isoproof/check/polygraph/NodeOrder", name := "positions", desc := "()[I" } : Jvm.MethodName) prog_29_method_4_code (4 : Nat) (Option.some (Jvm.ClassFile.FieldType.array Jvm.ClassFile.FieldType.int))).before args0 about1 = true := code_word (m := ⟨2, 1⟩) (meth := k2m1) (c := k2c1) (by decide +kernel) rfl rfl rfl (by decide +kernel)
set_option maxRecDepth 65536 in
theorem w_c7 : (Jvm.Cond.code ({ cls := "io/isoproof/check/polygraph/NodeOrderPositionsPinLaw", name := "at", desc := "([I[III)Z" } : Jvm.MethodName) method_3_code (4 : Nat) (Option.some Jvm.ClassFile.FieldType.boolean)).before args0 about1 = true := code_word (m := ⟨1, 2⟩) (meth := k1m2) (c := k1c2) (by decide +kernel) rfl rfl rfl (by decide +kernel)
def codes1 : List Jvm.Cond := [Jvm.Cond.code x code maxLocals ret, Jvm.Cond.code ({ cls := "io/isoproof/check/polygraph/NodeOrderPositionsPinLaw", name := "swap", desc := "([III)V" } : Jvm.MethodName) method_2_code (4 : Nat) (Option.none : Option Jvm.ClassFile.FieldType), Jvm.Cond.code ({ cls := "io/isoproof/check/polygraph/NodeOrder", name := "<init>", desc := "([I)V" } : Jvm.MethodName) prog_29_method_1_code (3 : Nat) (Option.none : Option Jvm.ClassFile.FieldType), Jvm.Cond.code ({ cls := "java/lang/Object", name := "<init>", desc := "()V" } : Jvm.MethodName) object_method_1_code (1 : Nat) (Option.none : Option Jvm.ClassFile.FieldType), Jvm.Cond.code ({ cls := "io/isoproof/check/polygraph/NodeOrder", name := "lastNode", desc := "()I" } : Jvm.MethodName) prog_29_method_13_code (2 : Nat) (Option.some Jvm.ClassFile.FieldType.int), Jvm.Cond.code ({ cls := "io/isoproof/check/polygraph/NodeOrder", name := "relabel", desc := "(IIJJI)V" } : Jvm.MethodName) prog_29_method_11_code (13 : Nat) (Option.none : Option Jvm.ClassFile.FieldType), Jvm.Cond.code ({ cls := "io/isoproof/check/polygraph/NodeOrder", name := "positions", desc := "()[I" } : Jvm.MethodName) prog_29_method_4_code (4 : Nat) (Option.some (Jvm.ClassFile.FieldType.array Jvm.ClassFile.FieldType.int)), Jvm.Cond.code ({ cls := "io/isoproof/check/polygraph/NodeOrderPositionsPinLaw", name := "at", desc := "([I[III)Z" } : Jvm.MethodName) method_3_code (4 : Nat) (Option.some Jvm.ClassFile.FieldType.boolean)]
set_option maxRecDepth 65536 in
theorem codes_eq : words1.filter isCode = codes1 := rfl
theorem w_codes : ∀ c ∈ words1.filter isCode, c.before args0 about1 = true := by
  rw [codes_eq]
  intro c hc
  simp only [codes1, List.mem_cons, List.not_mem_nil, or_false] at hc
  rcases hc with rfl | rfl | rfl | rfl | rfl | rfl | rfl | rfl
  · exact w_c0
  · exact w_c1
  · exact w_c2
  · exact w_c3
  · exact w_c4
  · exact w_c5
  · exact w_c6
  · exact w_c7
set_option maxRecDepth 65536 in
theorem w_t1 : (words1.take 24).all (fun c => isCode c || c.before args0 about1) = true := by decide +kernel
set_option maxRecDepth 65536 in
theorem w_t2 : (words1.drop 24).all (fun c => isCode c || c.before args0 about1) = true := by decide +kernel
theorem w_tables : (allAtoms (Jvm.Cond.code x code maxLocals ret :: tables_1)).before args0 about1 = true := by
  rw [allAtoms_all]
  show words1.all (fun c => c.before args0 about1) = true
  refine all_split ?_ w_codes
  rw [← List.take_append_drop 24 words1, List.all_append, w_t1, w_t2]
  rfl
set_option maxRecDepth 65536 in
theorem w_case : (Jvm.Cond.and given_1 narrow_1).before args0 about1 = true := by decide +kernel
theorem w_applies : (headSpec (Jvm.Cond.code x code maxLocals ret :: tables_1) room_1).applies x e0.platform about1 = true :=
  (Spec.applies_iff w_frames).mpr ⟨w_running, w_runnable, w_alone, w_named, w_hears, w_ripe, w_room, w_tables⟩
theorem atStart : AtStart classFile x code maxLocals ret World_1 tables_1 room_1 Calls_1 rest_1 Pre_1 launch0 p0 e0 about1 theMethod args0 below0 :=
  ⟨lists_1, trivial, launch0.admits_env _ _ _, launch0.least_env, fairChoices_fair.cas, fairChoices_fair.clock, w_frames, w_args, w_heap, w_applies, trivial, trivial, w_case⟩
end start1
theorem witness_1 : WitnessClaimed_1 := ⟨start1.p0, start1.e0, start1.about1, start1.theMethod, start1.args0, start1.below0, start1.atStart⟩
end Jvm.Pilot.@@N@@
