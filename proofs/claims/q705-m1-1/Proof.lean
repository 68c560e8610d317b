import JvmDerived
import JvmDerived.Pilot.@@N@@Statement
import JvmDerived.Pilot.@@N@@Code
set_option linter.unusedVariables false
set_option linter.unusedSimpArgs false
namespace Jvm.Pilot.@@N@@
open Jvm Jvm.ClassFile Sem Op Lib Jvm.Free Jvm.Stand Jvm.LawKit Jvm.RoadKit Bundle Jvm.Pilot.@@N@@.Jvm.D
/-! ## own layer: walks in goal-directed form -/
section Layer
variable {p : Program} {l : Launch} {e : Env} {R : Room} {s : State} {m : MethodId} {args : Array Value} {below : List Frame} {meth : Method} {c : Code} {T : State} {locs : List Loc} {cells slots : Nat} {Z : State} {a0 : Array Value} {h h' : Heap} {a b : Addr} {ty : FieldType} {xs ys : List Int32} {ls : List Int64}
/-- from S the run comes to the invocation's end, with what Q says of the value, the heap and the written places -/
def Go (p : Program) (e : Env) (below : List Frame) (s : State) (rm : Room) (Q : Option Value → Heap → List Loc → Prop) (S : State) : Prop :=
  ∃ t o, Steps p.tables e below S t ∧ t.status = .running ∧ Ended t below o ∧ ∃ v L, o = .returned v ∧ Q v t.heap L ∧ FrameEnd s o t L rm.cells rm.slots
theorem Go.st {rm : Room} {Q : Option Value → Heap → List Loc → Prop} {S S' : State} (k : ∀ t, Steps p.tables e below S' t → Steps p.tables e below S t) (g : Go p e below s rm Q S') : Go p e below s rm Q S := by
  obtain ⟨t, o, h, r⟩ := g; exact ⟨t, o, k t h, r⟩
theorem Go.ret {rm : Room} {Q : Option Value → Heap → List Loc → Prop} {S : State} {v : Option Value} (X : Stand p l e rm s m args below meth c T locs cells slots) (hv : meth.sig.returnType = none → v = none) (hlk : meth.locks = false) (hc : cells ≤ rm.cells) (hs : slots ≤ rm.slots) (hQ : Q v T.heap locs)
    (st : ∀ fs, (∀ (f : JFrame) (acts : List Action), f.method = m → f.locked = none → f.entered = [] → (doReturn e (T.setTop f) acts v).1 = T.setFrames fs) → Steps p.tables e below S (T.setFrames fs)) : Go p e below s rm Q S := by
  obtain ⟨fs, hr, hrun, hended, hW, hsame⟩ := X.leave (v := v) hv hlk
  exact ⟨_, _, st fs hr, hrun, hended, v, locs, rfl, hQ, ⟨v, rfl⟩, hW, hsame.mono hc hs⟩
theorem Go.retI {rm : Room} {Q : Option Value → Heap → List Loc → Prop} (X : Stand p l e rm s m args below meth c T locs cells slots) (hx : p.tables.exec = Jvm.exec) (hret : meth.sig.returnType = some .int) (hlk : meth.locks = false) {pc : Nat} {Ls : Array Slot} {z : Int32} {rest : List Value} (hd : decode c.code pc = .ok (.ireturn, 1)) (hc : cells ≤ rm.cells) (hs : slots ≤ rm.slots)
    (hQ : Q (some (.int z)) T.heap locs) : Go p e below s rm Q (T.setTop (mkF m pc Ls (.int z :: rest))) := by
  refine Go.ret X (v := some (.int z)) (fun q => by rw [hret] at q; cases q) hlk hc hs hQ fun fs hr => ?_
  have hm' : T.vm.method? m = some meth := X.method'
  have hn : narrow .int (.int z) = .int z := rfl
  show Steps p.tables e below (T.setTop { method := m, pc := pc, locals := Ls, stack := _ :: rest, locked := none }) _
  jvm_step X.here [X.here.top, hx, hd, hm', hret, hn]
  first | (intro acts; rw [hr _ acts rfl rfl rfl]) | rw [hr _ _ rfl rfl rfl]
  exact Steps.refl _
theorem Go.retN {rm : Room} {Q : Option Value → Heap → List Loc → Prop} {t : FieldType} (X : Stand p l e rm s m args below meth c T locs cells slots) (hx : p.tables.exec = Jvm.exec) (hret : meth.sig.returnType = some t) (ht : t = .boolean ∨ t = .byte ∨ t = .char ∨ t = .short) (hlk : meth.locks = false) {pc : Nat} {Ls : Array Slot} {z : Int32} {rest : List Value} (hd : decode c.code pc = .ok (.ireturn, 1)) (hc : cells ≤ rm.cells) (hs : slots ≤ rm.slots)
    (hQ : Q (some (.int (nar t z))) T.heap locs) : Go p e below s rm Q (T.setTop (mkF m pc Ls (.int z :: rest))) :=
  Go.ret X (v := some (.int (nar t z))) (fun q => by rw [hret] at q; cases q) hlk hc hs hQ fun fs hr => Jvm.RoadKit.retN X hx hret ht hd hr
theorem Go.retV {rm : Room} {Q : Option Value → Heap → List Loc → Prop} (X : Stand p l e rm s m args below meth c T locs cells slots) (hx : p.tables.exec = Jvm.exec) (hret : meth.sig.returnType = none) (hlk : meth.locks = false) {pc : Nat} {Ls : Array Slot} (hd : decode c.code pc = .ok (.return_, 1)) (hc : cells ≤ rm.cells) (hs : slots ≤ rm.slots)
    (hQ : Q none T.heap locs) : Go p e below s rm Q (T.setTop (mkF m pc Ls [])) :=
  Go.ret X (v := none) (fun _ => rfl) hlk hc hs hQ fun fs hr => X.returnOut hx hret hd hr
theorem Go.retJ {rm : Room} {Q : Option Value → Heap → List Loc → Prop} (X : Stand p l e rm s m args below meth c T locs cells slots) (hx : p.tables.exec = Jvm.exec) (hret : meth.sig.returnType = some .long) (hlk : meth.locks = false) {pc : Nat} {Ls : Array Slot} {z : Int64} {rest : List Value} (hd : decode c.code pc = .ok (.lreturn, 1)) (hc : cells ≤ rm.cells) (hs : slots ≤ rm.slots)
    (hQ : Q (some (.long z)) T.heap locs) : Go p e below s rm Q (T.setTop (mkF m pc Ls (.long z :: rest))) := by
  refine Go.ret X (v := some (.long z)) (fun q => by rw [hret] at q; cases q) hlk hc hs hQ fun fs hr => ?_
  have hm' : T.vm.method? m = some meth := X.method'
  show Steps p.tables e below (T.setTop { method := m, pc := pc, locals := Ls, stack := _ :: rest, locked := none }) _
  jvm_step X.here [X.here.top, hx, hd, hm', hret, narrow]
  first | (intro acts; rw [hr _ acts rfl rfl rfl]) | rw [hr _ _ rfl rfl rfl]
  exact Steps.refl _
theorem Go.retR {rm : Room} {Q : Option Value → Heap → List Loc → Prop} {t : FieldType} (X : Stand p l e rm s m args below meth c T locs cells slots) (hx : p.tables.exec = Jvm.exec) (hret : meth.sig.returnType = some t) (ht : t.isReference = true) (hlk : meth.locks = false) {pc : Nat} {Ls : Array Slot} {z : Addr} (hd : decode c.code pc = .ok (.areturn, 1)) (hc : cells ≤ rm.cells) (hs : slots ≤ rm.slots)
    (hQ : Q (some (.ref z)) T.heap locs) : Go p e below s rm Q (T.setTop (mkF m pc Ls [.ref z])) := by
  refine Go.ret X (v := some (.ref z)) (fun q => by rw [hret] at q; cases q) hlk hc hs hQ fun fs hr => ?_
  exact X.areturnOut hx rfl hret ht hd hr
/-- the contract of a body: called with these arguments over the heap h0 it comes back, and Q -/
abbrev Con (l : Launch) (Z : State) (y : MethodName) (bytes : ByteArray) (maxL : Nat) (ret : Option FieldType) (ws : List Jvm.Cond) (rm : Room) (as : Array Value) (h0 : Heap) (Q : Option Value → Heap → List Loc → Prop) : Prop :=
  MetFree l y (head1 (Jvm.Cond.code y bytes maxL ret :: ws) rm) (fun a U => a = as ∧ Z.Warmed39 U.vm ∧ U.heap = h0) (fun _ _ _ _ _ => True) (fun _ U o U' => ∃ v L, o = .returned v ∧ Q v U'.heap L ∧ FrameEnd U o U' L rm.cells rm.slots)
theorem Con.mk {y : MethodName} {bytes : ByteArray} {maxL : Nat} {ret : Option FieldType} {ws : List Jvm.Cond} {rm : Room} {as : Array Value} {h0 : Heap} {Q : Option Value → Heap → List Loc → Prop} (hp : plainFor y = true)
    (body : ∀ (p : Program) (e : Env) (s : State) (m : MethodId) (below : List Frame) (meth : Method) (c : Code) (T : State), p.tables.exec = Jvm.exec → c.code = bytes → c.maxLocals = maxL → s.vm.findClass y.cls = some m.cls → meth.name = y.name → meth.sig.returnType = ret → meth.locks = false → Z.Warmed39 s.vm →
      Stand p l e rm s m as below meth c T [] 0 0 → T.heap = h0 → Go p e below s rm Q (T.setTop (entryFrame m as maxL))) : Con l Z y bytes maxL ret ws rm as h0 Q := by
  refine MetFree.of_bodySF hp hisR ?_
  intro p e s m args below meth c s₁ Bd hml0 hP hK
  obtain ⟨rfl, hZ, hh⟩ := hP
  exact body p e s m below meth c s₁ Bd.exec Bd.bytes hml0 (findClass_of_methodNamed Bd.named) (name_of_methodNamed Bd.named Bd.method).1 Bd.returns Bd.notSynchronized hZ (Stand.of_body Bd) (by rw [← hh, Bd.state]; rfl)
theorem Go.cast {rm : Room} {Q : Option Value → Heap → List Loc → Prop} {f f' : JFrame} (q : f = f') (g : Go p e below s rm Q (T.setTop f')) : Go p e below s rm Q (T.setTop f) := q ▸ g
/-! calls -/
theorem callSt (X : Stand p l e R s m args below meth c T locs cells slots) (hx : p.tables.exec = Jvm.exec) (hZ : Z.Warmed39 s.vm) {own : String} {index : Nat} {y : MethodName} {bytes : ByteArray} {maxL : Nat} {ret : Option FieldType} {rm : Room} {W : Nat} {Q : Option Value → Heap → List Loc → Prop} {argsL rest : List Value}
    (hown : s.vm.findClass own = some m.cls) (w1 : (Jvm.Cond.methodLink own index y).before a0 Z = true) (w2 : (Jvm.Cond.static y).before a0 Z = true) (w3 : (Jvm.Cond.initialized y.cls).before a0 Z = true) (w4 : (Jvm.Cond.code y bytes maxL ret).before a0 Z = true) (hy : y.cls ≠ "java/lang/invoke/MethodHandle" ∧ y.cls ≠ "java/lang/invoke/VarHandle")
    (eT : T.heap = h) (hM : Con l Z y bytes maxL ret [] rm argsL.toArray h Q) (hf : rm.frames + 1 ≤ R.frames) (hl : W + (maxL + 11) + rm.locals ≤ R.locals) {sig : MethodDescriptor} (hpd : parseMethodDescriptor y.desc = some sig) (hlen : argsL.length = sig.parameters.length)
    {g : JFrame} (hg : g.method = m) (hsize : g.locals.size = c.maxLocals) (hstack : g.stack = argsL.reverse ++ rest) (hW : 2 * g.monitorRoom + (rest.map fun v => v.category).sum ≤ W) (hdg : decode c.code g.pc = .ok (.invokestatic index, 3)) (hc : cells + rm.cells ≤ R.cells) (hs : slots + rm.slots ≤ R.slots) :
    ∃ (v : Option Value) (T' : State) (h' : Heap) (L : List Loc), Stand p l e R s m args below meth c T' (locs ++ L) (cells + rm.cells) (slots + rm.slots) ∧ T'.heap = h' ∧ Q v h' L ∧ ∀ t, Steps p.tables e below (T'.setTop { g with pc := g.pc + 3, stack := v.toList ++ rest }) t → Steps p.tables e below (T.setTop g) t := by
  obtain ⟨v, _, ⟨T1, L1, k1, n1⟩, -, X1, ⟨Lc, hQ, l1, y1, z1⟩, st⟩ := Jvm.LawKit.callS X hx (y := y) hown (mvT hZ w1) (mvT hZ w2) (mvT hZ w3) (mvT hZ w4) hy (backOf (W := W) (Z := Z) (a0 := a0) (h := h) hM hZ w4 w3 hf hl) (g := g) hg hsize (argsL := argsL) (rest := rest) (fun sg q => by rw [hpd] at q; cases q; exact hlen) hstack hW hdg (fun _ _ => ⟨rfl, eT, hc, hs⟩)
  dsimp only [Pt.U, Pt.locs, Pt.cells, Pt.slots] at X1 l1 y1 z1 st hQ
  subst l1 y1 z1
  exact ⟨v, T1, T1.heap, Lc, X1, rfl, hQ, st⟩
theorem callIn (X : Stand p l e R s m args below meth c T locs cells slots) (hx : p.tables.exec = Jvm.exec) (hZ : Z.Warmed39 s.vm) {own : String} {index : Nat} {y : MethodName} {bytes : ByteArray} {maxL : Nat} {rm : Room} {W : Nat} {Q : Option Value → Heap → List Loc → Prop} {argsL rest : List Value} (hi : y.name = "<init>")
    (hown : s.vm.findClass own = some m.cls) (w1 : (Jvm.Cond.methodLink own index y).before a0 Z = true) (w2 : (Jvm.Cond.instanceMethod y).before a0 Z = true) (w3 : (Jvm.Cond.initialized y.cls).before a0 Z = true) (w4 : (Jvm.Cond.code y bytes maxL none).before a0 Z = true) (hy : y.cls ≠ "java/lang/invoke/MethodHandle" ∧ y.cls ≠ "java/lang/invoke/VarHandle")
    (eT : T.heap = h) (hM : Con l Z y bytes maxL none [] rm (.ref a :: argsL).toArray h Q) (hf : rm.frames + 1 ≤ R.frames) (hl : W + (maxL + 11) + rm.locals ≤ R.locals) {sig : MethodDescriptor} (hpd : parseMethodDescriptor y.desc = some sig) (hlen : argsL.length = sig.parameters.length)
    {g : JFrame} (hg : g.method = m) (hsize : g.locals.size = c.maxLocals) (hstack : g.stack = argsL.reverse ++ .ref a :: rest) (hW : 2 * g.monitorRoom + (rest.map fun v => v.category).sum ≤ W) (hdg : decode c.code g.pc = .ok (.invokespecial index, 3)) (hc : cells + rm.cells ≤ R.cells) (hs : slots + rm.slots ≤ R.slots) :
    ∃ (v : Option Value) (T' : State) (h' : Heap) (L : List Loc), Stand p l e R s m args below meth c T' (locs ++ L) (cells + rm.cells) (slots + rm.slots) ∧ T'.heap = h' ∧ Q v h' L ∧ ∀ t, Steps p.tables e below (T'.setTop { g with pc := g.pc + 3, stack := v.toList ++ rest }) t → Steps p.tables e below (T.setTop g) t := by
  obtain ⟨v, _, ⟨T1, L1, k1, n1⟩, -, X1, ⟨Lc, hQ, l1, y1, z1⟩, st⟩ := X.specialBack hx (y := y) hi hown (mvT hZ w1) (mvT hZ w2) (mvT hZ w4) hy (backOf (W := W) (Z := Z) (a0 := a0) (h := h) hM hZ w4 w3 hf hl) (g := g) hg hsize (Steps.refl _) (a := a) (argsL := argsL) (rest := rest) (fun sg q => by rw [hpd] at q; cases q; exact hlen) hstack hW hdg (fun _ _ => ⟨rfl, eT, hc, hs⟩)
  dsimp only [Pt.U, Pt.locs, Pt.cells, Pt.slots] at X1 l1 y1 z1 st hQ
  subst l1 y1 z1
  exact ⟨v, T1, T1.heap, Lc, X1, rfl, hQ, fun t k => st.trans k⟩
theorem callVi (X : Stand p l e R s m args below meth c T locs cells slots) (hx : p.tables.exec = Jvm.exec) (hZ : Z.Warmed39 s.vm) {own C : String} {index : Nat} {y : MethodName} {bytes : ByteArray} {maxL : Nat} {ret : Option FieldType} {rm : Room} {W : Nat} {Q : Option Value → Heap → List Loc → Prop} {argsL rest : List Value}
    (hown : s.vm.findClass own = some m.cls) (w1 : (Jvm.Cond.methodLink own index y).before a0 Z = true) (wd : (Jvm.Cond.declares y).before a0 Z = true) (ws : (Jvm.Cond.selects C y y).before a0 Z = true) (w2 : (Jvm.Cond.instanceMethod y).before a0 Z = true) (w3 : (Jvm.Cond.initialized y.cls).before a0 Z = true) (w4 : (Jvm.Cond.code y bytes maxL ret).before a0 Z = true) (hy : y.cls ≠ "java/lang/invoke/MethodHandle" ∧ y.cls ≠ "java/lang/invoke/VarHandle")
    (eT : T.heap = h) (E : Exa Z h a C) (hM : Con l Z y bytes maxL ret [] rm (.ref a :: argsL).toArray h Q) (hf : rm.frames + 1 ≤ R.frames) (hl : W + (maxL + 11) + rm.locals ≤ R.locals) {sig : MethodDescriptor} (hpd : parseMethodDescriptor y.desc = some sig) (hlen : argsL.length = sig.parameters.length)
    {g : JFrame} (hg : g.method = m) (hsize : g.locals.size = c.maxLocals) (hstack : g.stack = argsL.reverse ++ .ref a :: rest) (hW : 2 * g.monitorRoom + (rest.map fun v => v.category).sum ≤ W) (hdg : decode c.code g.pc = .ok (.invokevirtual index, 3)) (hc : cells + rm.cells ≤ R.cells) (hs : slots + rm.slots ≤ R.slots) :
    ∃ (v : Option Value) (T' : State) (h' : Heap) (L : List Loc), Stand p l e R s m args below meth c T' (locs ++ L) (cells + rm.cells) (slots + rm.slots) ∧ T'.heap = h' ∧ Q v h' L ∧ ∀ t, Steps p.tables e below (T'.setTop { g with pc := g.pc + 3, stack := v.toList ++ rest }) t → Steps p.tables e below (T.setTop g) t := by
  obtain ⟨cB, kB, q1, q2, q3⟩ := isOf hZ eT E
  obtain ⟨v, _, ⟨T1, L1, k1, n1⟩, -, X1, ⟨Lc, hQ, l1, y1, z1⟩, st⟩ := X.virtualBack hx (y := y) (z := y) hown (mvT hZ w1) (mvT hZ wd) (notFace_of_selects (args := #[]) (mvT hZ ws)) (mvT hZ ws) (mvT hZ w2) hy (backOf (W := W) (Z := Z) (a0 := a0) (h := h) hM hZ w4 w3 hf hl) q1 q3 (g := g) hg hsize (Steps.refl _) (argsL := argsL) (rest := rest) (fun sg q => by rw [hpd] at q; cases q; exact hlen) hstack hW hdg (fun _ _ => ⟨rfl, eT, hc, hs⟩)
  dsimp only [Pt.U, Pt.locs, Pt.cells, Pt.slots] at X1 l1 y1 z1 st hQ
  subst l1 y1 z1
  exact ⟨v, T1, T1.heap, Lc, X1, rfl, hQ, fun t k => st.trans k⟩
theorem callPr (X : Stand p l e R s m args below meth c T locs cells slots) (hx : p.tables.exec = Jvm.exec) (hZ : Z.Warmed39 s.vm) {own : String} {index ni : Nat} {y : MethodName} {bytes : ByteArray} {maxL : Nat} {ret : Option FieldType} {rm : Room} {W : Nat} {Q : Option Value → Heap → List Loc → Prop} {argsL rest : List Value}
    (hown : s.vm.findClass own = some m.cls) (w1 : (Jvm.Cond.methodLink own index y).before a0 Z = true) (w2 : (Jvm.Cond.instanceMethod y).before a0 Z = true) (wi : (Jvm.Cond.instantiable y.cls ni).before a0 Z = true) (wp : (Jvm.Cond.privateMethod y).before a0 Z = true) (w3 : (Jvm.Cond.initialized y.cls).before a0 Z = true) (w4 : (Jvm.Cond.code y bytes maxL ret).before a0 Z = true) (hy : y.cls ≠ "java/lang/invoke/MethodHandle" ∧ y.cls ≠ "java/lang/invoke/VarHandle")
    (eT : T.heap = h) {C : String} (E : Exa Z h a C) (hM : Con l Z y bytes maxL ret [] rm (.ref a :: argsL).toArray h Q) (hf : rm.frames + 1 ≤ R.frames) (hl : W + (maxL + 11) + rm.locals ≤ R.locals) {sig : MethodDescriptor} (hpd : parseMethodDescriptor y.desc = some sig) (hlen : argsL.length = sig.parameters.length)
    {g : JFrame} (hg : g.method = m) (hsize : g.locals.size = c.maxLocals) (hstack : g.stack = argsL.reverse ++ .ref a :: rest) (hW : 2 * g.monitorRoom + (rest.map fun v => v.category).sum ≤ W) (hdg : decode c.code g.pc = .ok (.invokevirtual index, 3)) (hc : cells + rm.cells ≤ R.cells) (hs : slots + rm.slots ≤ R.slots) :
    ∃ (v : Option Value) (T' : State) (h' : Heap) (L : List Loc), Stand p l e R s m args below meth c T' (locs ++ L) (cells + rm.cells) (slots + rm.slots) ∧ T'.heap = h' ∧ Q v h' L ∧ ∀ t, Steps p.tables e below (T'.setTop { g with pc := g.pc + 3, stack := v.toList ++ rest }) t → Steps p.tables e below (T.setTop g) t := by
  obtain ⟨cell, q1, q2⟩ := E.cell
  have wi' : (Jvm.Cond.instantiable y.cls ni).before args s = true := mvT hZ wi
  obtain ⟨cI, kI, i1, i2, i3, i4, -⟩ := Cond.instantiable_spec wi'
  have i5 : kI.isInterface = false := by cases hq : kI.isInterface <;> simp [hq] at i4 ⊢
  have hpriv : s.PrivateAt y := Cond.privateMethod_at (mvP hZ wp (args := args))
  have hinst : (Jvm.Cond.instanceMethod y).before args s = true := mvT hZ w2
  obtain ⟨v, _, ⟨T1, L1, k1, n1⟩, -, X1, ⟨Lc, hQ, l1, y1, z1⟩, st⟩ := X.privateBack hx (y := y) hown (mvT hZ w1) hinst (selects_self_of_private i1 i2 i5 hpriv hinst hy) hpriv (mvT hZ w4) hy (backOf (W := W) (Z := Z) (a0 := a0) (h := h) hM hZ w4 w3 hf hl) (g := g) hg hsize (Steps.refl _) (a := a) (cell := cell) (by rw [eT]; exact q1) q2 (argsL := argsL) (rest := rest) (fun sg q => by rw [hpd] at q; cases q; exact hlen) hstack hW hdg (fun _ _ => ⟨rfl, eT, hc, hs⟩)
  dsimp only [Pt.U, Pt.locs, Pt.cells, Pt.slots] at X1 l1 y1 z1 st hQ
  subst l1 y1 z1
  exact ⟨v, T1, T1.heap, Lc, X1, rfl, hQ, fun t k => st.trans k⟩
/-! arrays of ints, bytes, .. by the list of what they hold -/
def Ai (Z : State) (h : Heap) (a : Addr) (ty : FieldType) (xs : List Int32) : Prop := ∃ (k : ClassId) (z : Int32), Arv Z h a k ty z (xs.map Value.int) (.int 0) ∧ z.toNatClampNeg = xs.length
theorem Ai.lt (A : Ai Z h a ty xs) : a < h.size := by obtain ⟨_, _, q, -⟩ := A; exact q.lt
theorem Ai.ext (A : Ai Z h a ty xs) (E : Ext h h') : Ai Z h' a ty xs := by obtain ⟨k, z, q, r⟩ := A; exact ⟨k, z, q.ext E, r⟩
theorem Ai.other {sl : Nat} {v : Value} (A : Ai Z h a ty xs) (W : Wr h h' b sl v) (ne : a ≠ b) : Ai Z h' a ty xs := by obtain ⟨k, z, q, r⟩ := A; exact ⟨k, z, q.other W ne, r⟩
theorem Ai.keep {ws : List Addr} (A : Ai Z h a ty xs) (K : Keep h h' ws) (nin : a ∉ ws) : Ai Z h' a ty xs := by obtain ⟨k, z, q, r⟩ := A; exact ⟨k, z, q.keep K nin, r⟩
theorem Ai.len (A : Ai Z h a ty xs) : xs.length < 2 ^ 31 := by
  obtain ⟨k, z, ⟨c, -, -, -, hz, -⟩, r⟩ := A
  rw [← r]; exact (back32 hz).2
theorem Ai.open (A : Ai Z h a ty xs) : ∃ c : Cell, Arr Z h a c ty ∧ c.slots.size = xs.length ∧ ∀ (i : Nat) (v : Int32), xs[i]? = some v → c.slots[i]? = some (.int v) := by
  obtain ⟨k, z, ⟨c, A, q1, S, q3, H, G⟩, r⟩ := A
  refine ⟨c, A, S.trans r, fun i v hv => ?_⟩
  have hi : i < xs.length := (List.getElem?_eq_some_iff.mp hv).1
  rw [H i (by rw [S, r]; exact hi)]
  simp [List.getD_eq_getElem?_getD, hv]
theorem Ai.fitsOf {i : Nat} {v : Int32} (A : Ai Z h a ty xs) (hv : xs[i]? = some v) : fits ty (.int v) = true := by
  obtain ⟨k, z, ⟨c, A, q1, S, q3, H, G⟩, r⟩ := A
  have hi : i < xs.length := (List.getElem?_eq_some_iff.mp hv).1
  have := G i (by rw [S, r]; exact hi)
  simpa [List.getD_eq_getElem?_getD, hv] using this
theorem own_in {n : Nat} {j : Int32} (hj : ¬ j < 0) (hi : j.toNatClampNeg < n) : ¬ (j < 0 ∨ n ≤ j.toNatClampNeg) := fun q => q.elim hj fun r => absurd hi (Nat.not_lt.mpr r)
theorem Ai.load (A : Ai Z h a .int xs) (X : Stand p l e R s m args below meth c T locs cells slots) (hx : p.tables.exec = Jvm.exec) (hZ : Z.Warmed39 s.vm) (eT : T.heap = h) {j v : Int32} (hj : ¬ j < 0) (hv : xs[j.toNatClampNeg]? = some v) {g : JFrame} (hg : g.method = m) {rest : List Value} (hs : g.stack = .int j :: .ref a :: rest) (hd : decode c.code g.pc = .ok (.iaload, 1)) :
    ∀ t, Steps p.tables e below (T.setTop { g with pc := g.pc + 1, stack := .int v :: rest }) t → Steps p.tables e below (T.setTop g) t := by
  obtain ⟨cl, Ar, S, H⟩ := A.open
  exact fun t k => X.iaload hx (j := j) (v := .int v) (by rw [eT]; exact Ar.1) (State.isArrayOf_alike hZ.alike Ar.2.1) Ar.2.2 (own_in hj (by rw [S]; exact (List.getElem?_eq_some_iff.mp hv).1)) (H _ _ hv) hg hs hd t k
theorem Ai.bload (A : Ai Z h a .byte xs) (X : Stand p l e R s m args below meth c T locs cells slots) (hx : p.tables.exec = Jvm.exec) (hZ : Z.Warmed39 s.vm) (eT : T.heap = h) {j v : Int32} (hj : ¬ j < 0) (hv : xs[j.toNatClampNeg]? = some v) {g : JFrame} (hg : g.method = m) {rest : List Value} (hs : g.stack = .int j :: .ref a :: rest) (hd : decode c.code g.pc = .ok (.baload, 1)) :
    ∀ t, Steps p.tables e below (T.setTop { g with pc := g.pc + 1, stack := .int v :: rest }) t → Steps p.tables e below (T.setTop g) t := by
  obtain ⟨cl, Ar, S, H⟩ := A.open
  exact fun t k => X.baloadBytes hx (j := j) (v := .int v) (by rw [eT]; exact Ar.1) (State.isArrayOf_alike hZ.alike Ar.2.1) Ar.2.2 (own_in hj (by rw [S]; exact (List.getElem?_eq_some_iff.mp hv).1)) (H _ _ hv) hg hs hd t k
theorem Ai.length (A : Ai Z h a ty xs) (X : Stand p l e R s m args below meth c T locs cells slots) (hx : p.tables.exec = Jvm.exec) (hZ : Z.Warmed39 s.vm) (eT : T.heap = h) {n : Int32} (hn : xs.length.toInt32 = n) {g : JFrame} (hg : g.method = m) {rest : List Value} (hs : g.stack = .ref a :: rest) (hd : decode c.code g.pc = .ok (.arraylength, 1)) :
    ∀ t, Steps p.tables e below (T.setTop { g with pc := g.pc + 1, stack := .int n :: rest }) t → Steps p.tables e below (T.setTop g) t := by
  obtain ⟨cl, Ar, S, H⟩ := A.open
  subst hn
  rw [← S]
  exact fun t k => X.arraylength hx (by rw [eT]; exact Ar.1) (State.isArrayOf_alike hZ.alike Ar.2.1) hg hs hd t k
theorem Ai.set {j v : Int32} (A : Ai Z h a ty xs) (hf : fits ty (.int v) = true) (W : Wr h h' a j.toNatClampNeg (.int v)) (hi : j.toNatClampNeg < xs.length) : Ai Z h' a ty (xs.set j.toNatClampNeg v) := by
  obtain ⟨k, z, ⟨c, A, q1, S, q3, H, G⟩, r⟩ := A
  refine ⟨k, z, ?_, by simpa using r⟩
  rw [List.map_set]
  exact Arv.set A q1 S q3 H G hf W j.toNatClampNeg rfl (by simpa using hi)
theorem Ai.store (A : Ai Z h a .int xs) (X : Stand p l e R s m args below meth c T locs cells slots) (hx : p.tables.exec = Jvm.exec) (hZ : Z.Warmed39 s.vm) (eT : T.heap = h) {j v : Int32} (hj : ¬ j < 0) (hi : j.toNatClampNeg < xs.length) {g : JFrame} (hg : g.method = m) {rest : List Value} (hs : g.stack = .int v :: .int j :: .ref a :: rest) (hd : decode c.code g.pc = .ok (.iastore, 1)) :
    ∃ T' h', Stand p l e R s m args below meth c T' (locs ++ [⟨a, j.toNatClampNeg⟩]) cells slots ∧ T'.heap = h' ∧ Wr h h' a j.toNatClampNeg (.int v) ∧ Ai Z h' a .int (xs.set j.toNatClampNeg v) ∧
      ∀ t, Steps p.tables e below (T'.setTop { g with pc := g.pc + 1, stack := rest }) t → Steps p.tables e below (T.setTop g) t := by
  obtain ⟨cl, Ar, S, H⟩ := A.open
  obtain ⟨T', h', X', e', W, st⟩ := stI X hx hZ eT Ar (j := j) (own_in hj (by rw [S]; exact hi)) hg hs hd
  exact ⟨T', h', X', e', W, A.set rfl W hi, st⟩
theorem Ai.bstore (A : Ai Z h a .byte xs) (X : Stand p l e R s m args below meth c T locs cells slots) (hx : p.tables.exec = Jvm.exec) (hZ : Z.Warmed39 s.vm) (eT : T.heap = h) {j v : Int32} (hj : ¬ j < 0) (hi : j.toNatClampNeg < xs.length) {g : JFrame} (hg : g.method = m) {rest : List Value} (hs : g.stack = .int v :: .int j :: .ref a :: rest) (hd : decode c.code g.pc = .ok (.bastore, 1)) :
    ∃ T' h', Stand p l e R s m args below meth c T' (locs ++ [⟨a, j.toNatClampNeg⟩]) cells slots ∧ T'.heap = h' ∧ Wr h h' a j.toNatClampNeg (.int v.toInt8.toInt32) ∧ Ai Z h' a .byte (xs.set j.toNatClampNeg v.toInt8.toInt32) ∧
      ∀ t, Steps p.tables e below (T'.setTop { g with pc := g.pc + 1, stack := rest }) t → Steps p.tables e below (T.setTop g) t := by
  obtain ⟨cl, Ar, S, H⟩ := A.open
  obtain ⟨T', h', X', e', W, st⟩ := stB X hx hZ eT Ar (j := j) (own_in hj (by rw [S]; exact hi)) hg hs hd
  exact ⟨T', h', X', e', W, A.set (fits_nar_byte v) W hi, st⟩
theorem Ai.new (X : Stand p l e R s m args below meth c T locs cells slots) (hx : p.tables.exec = Jvm.exec) (hZ : Z.Warmed39 s.vm) {aty : ArrayType} (w : (Jvm.Cond.arrayClass (newarray.typeOf aty)).before a0 Z = true) (hdef : defaultValue (newarray.typeOf aty) = .int 0) (eT : T.heap = h) {n : Int32} (hn : ¬ n < 0) (cap : Nat) (hcap : n.toNatClampNeg ≤ cap) (hb : cap * 8 ≤ 536870912) (hc : cells + 1 ≤ R.cells) (hl : slots + cap ≤ R.slots)
    {g : JFrame} (hg : g.method = m) {rest : List Value} (hs : g.stack = .int n :: rest) (hd : decode c.code g.pc = .ok (.newarray aty, 2)) :
    ∃ T' h' b, Stand p l e R s m args below meth c T' locs (cells + 1) (slots + cap) ∧ T'.heap = h' ∧ b = h.size ∧ Ext h h' ∧ Ai Z h' b (newarray.typeOf aty) (List.replicate n.toNatClampNeg 0) ∧
      ∀ t, Steps p.tables e below (T'.setTop { g with pc := g.pc + 2, stack := .ref b :: rest }) t → Steps p.tables e below (T.setTop g) t := by
  obtain ⟨T', h', k, X', e', E, A, st⟩ := newP X hx hZ w eT (g := g) hg hd hs hn hcap hb hc hl
  refine ⟨T', h', _, X', e', rfl, E, ⟨k, n, ?_, by simp⟩, st⟩
  have V := Arv.new A hn
  rw [hdef] at V
  rw [List.map_replicate]
  exact V.pad (pad_rep [] (.int 0) n.toNatClampNeg)
theorem Ai.newE (X : Stand p l e R s m args below meth c T locs cells slots) (hx : p.tables.exec = Jvm.exec) (hZ : Z.Warmed39 s.vm) {aty : ArrayType} (w : (Jvm.Cond.arrayClass (newarray.typeOf aty)).before a0 Z = true) (hdef : defaultValue (newarray.typeOf aty) = .int 0) (eT : T.heap = h) {n : Int32} (hn : ¬ n < 0) (cap : Nat) (hcap : n.toNatClampNeg ≤ cap) (hb : cap * 8 ≤ 536870912) (hc : cells + 1 ≤ R.cells) (hl : slots + cap ≤ R.slots) {ad : String} (had : "[" ++ (newarray.typeOf aty).toString = ad)
    {g : JFrame} (hg : g.method = m) {rest : List Value} (hs : g.stack = .int n :: rest) (hd : decode c.code g.pc = .ok (.newarray aty, 2)) :
    ∃ T' h' b, Stand p l e R s m args below meth c T' locs (cells + 1) (slots + cap) ∧ T'.heap = h' ∧ b = h.size ∧ Ext h h' ∧ Ai Z h' b (newarray.typeOf aty) (List.replicate n.toNatClampNeg 0) ∧ Exa Z h' b ad ∧
      ∀ t, Steps p.tables e below (T'.setTop { g with pc := g.pc + 2, stack := .ref b :: rest }) t → Steps p.tables e below (T.setTop g) t := by
  obtain ⟨T', h', k, X', e', E, A, Ex, st⟩ := newPE X hx hZ w eT (g := g) hg hd hs hn hcap hb hc hl had
  refine ⟨T', h', _, X', e', rfl, E, ⟨k, n, ?_, by simp⟩, Ex, st⟩
  have V := Arv.new A hn
  rw [hdef] at V
  rw [List.map_replicate]
  exact V.pad (pad_rep [] (.int 0) n.toNatClampNeg)
theorem Ai.copy (X : Stand p l e R s m args below meth c T locs cells slots) (hx : p.tables.exec = Jvm.exec) (hZ : Z.Warmed39 s.vm) {own : String} {index : Nat} (hown : s.vm.findClass own = some m.cls)
    (w1 : (Jvm.Cond.methodLink own index Jvm.Stand.acN).before a0 Z = true) (w2 : (Jvm.Cond.native Jvm.Stand.acN).before a0 Z = true) (w3 : (Jvm.Cond.static Jvm.Stand.acN).before a0 Z = true) (w4 : (Jvm.Cond.initialized "java/lang/System").before a0 Z = true) (eT : T.heap = h)
    {sp dp nn : Int32} (A : Ai Z h a ty xs) (B : Ai Z h b ty ys) (hty : refKind ty = false) (h1 : ¬ sp < 0) (h2 : ¬ dp < 0) (h3 : ¬ nn < 0) (h4 : sp.toNatClampNeg + nn.toNatClampNeg ≤ xs.length) (h5 : dp.toNatClampNeg + nn.toNatClampNeg ≤ ys.length) {n0 : Nat} (N : Fr n0 locs) (ge : n0 ≤ b)
    {g : JFrame} (hg : g.method = m) (hsize : g.locals.size = c.maxLocals) {rest : List Value} (hs : g.stack = .int nn :: .int dp :: .ref b :: .int sp :: .ref a :: rest) (hd : decode c.code g.pc = .ok (.invokestatic index, 3))
    (hf : 1 ≤ R.frames) {W : Nat} (hW : 2 * g.monitorRoom + (rest.map fun v => v.category).sum ≤ W) (hlo : W + (nativeFrameWords "java/lang/System" "arraycopy" 5 + 11) ≤ R.locals) :
    ∃ T' h' L, Stand p l e R s m args below meth c T' L cells slots ∧ T'.heap = h' ∧ Fr n0 L ∧ Keep h h' [b] ∧ Ai Z h' b ty (ys.take dp.toNatClampNeg ++ (xs.drop sp.toNatClampNeg).take nn.toNatClampNeg ++ ys.drop (dp.toNatClampNeg + nn.toNatClampNeg)) ∧
      ∀ t, Steps p.tables e below (T'.setTop { g with pc := g.pc + 3, stack := rest }) t → Steps p.tables e below (T.setTop g) t := by
  obtain ⟨k, z, A, r⟩ := A
  obtain ⟨k', z', B, r'⟩ := B
  obtain ⟨T', h', L, X', e', N', K, V, st⟩ := cpA X hx hZ hown w1 w2 w3 w4 eT A B (Or.inl ⟨rfl, hty⟩) h1 h2 h3 (by rw [r]; exact h4) (by rw [r']; exact h5) rfl (by simpa using h5) N ge hg hsize hs hd hf hW hlo
  refine ⟨T', h', L, X', e', N', K, ⟨k', z', ?_, ?_⟩, st⟩
  · have q : (List.range nn.toNatClampNeg).map (fun i => (xs.map Value.int).getD (sp.toNatClampNeg + i) (.int 0)) = ((xs.drop sp.toNatClampNeg).take nn.toNatClampNeg).map Value.int := by
      apply List.ext_getElem?
      intro i
      by_cases hi : i < nn.toNatClampNeg
      · have h6 : sp.toNatClampNeg + i < xs.length := by omega
        simp [List.getElem?_take, hi, h6, List.getD_eq_getElem?_getD]
      · simp [List.getElem?_take, hi]
    rw [q] at V
    simpa [List.map_append, List.map_take, List.map_drop] using V
  · rw [r']; simp; omega
/-! arrays of longs -/
def Al (Z : State) (h : Heap) (a : Addr) (ls : List Int64) : Prop := ∃ (k : ClassId) (z : Int32), Arv Z h a k .long z (ls.map Value.long) (.long 0) ∧ z.toNatClampNeg = ls.length
theorem Al.lt (A : Al Z h a ls) : a < h.size := by obtain ⟨_, _, q, -⟩ := A; exact q.lt
theorem Al.ext (A : Al Z h a ls) (E : Ext h h') : Al Z h' a ls := by obtain ⟨k, z, q, r⟩ := A; exact ⟨k, z, q.ext E, r⟩
theorem Al.other {sl : Nat} {v : Value} (A : Al Z h a ls) (W : Wr h h' b sl v) (ne : a ≠ b) : Al Z h' a ls := by obtain ⟨k, z, q, r⟩ := A; exact ⟨k, z, q.other W ne, r⟩
theorem Al.keep {ws : List Addr} (A : Al Z h a ls) (K : Keep h h' ws) (nin : a ∉ ws) : Al Z h' a ls := by obtain ⟨k, z, q, r⟩ := A; exact ⟨k, z, q.keep K nin, r⟩
theorem Al.len (A : Al Z h a ls) : ls.length < 2 ^ 31 := by
  obtain ⟨k, z, ⟨c, -, -, -, hz, -⟩, r⟩ := A
  rw [← r]; exact (back32 hz).2
theorem Al.open (A : Al Z h a ls) : ∃ c : Cell, Arr Z h a c .long ∧ c.slots.size = ls.length ∧ ∀ (i : Nat) (v : Int64), ls[i]? = some v → c.slots[i]? = some (.long v) := by
  obtain ⟨k, z, ⟨c, A, q1, S, q3, H, G⟩, r⟩ := A
  refine ⟨c, A, S.trans r, fun i v hv => ?_⟩
  have hi : i < ls.length := (List.getElem?_eq_some_iff.mp hv).1
  rw [H i (by rw [S, r]; exact hi)]
  simp [List.getD_eq_getElem?_getD, hv]
theorem Al.load (A : Al Z h a ls) (X : Stand p l e R s m args below meth c T locs cells slots) (hx : p.tables.exec = Jvm.exec) (hZ : Z.Warmed39 s.vm) (eT : T.heap = h) {j : Int32} {v : Int64} (hj : ¬ j < 0) (hv : ls[j.toNatClampNeg]? = some v) {g : JFrame} (hg : g.method = m) {rest : List Value} (hs : g.stack = .int j :: .ref a :: rest) (hd : decode c.code g.pc = .ok (.laload, 1)) :
    ∀ t, Steps p.tables e below (T.setTop { g with pc := g.pc + 1, stack := .long v :: rest }) t → Steps p.tables e below (T.setTop g) t := by
  obtain ⟨cl, Ar, S, H⟩ := A.open
  exact fun t k => X.laload hx (j := j) (v := .long v) (by rw [eT]; exact Ar.1) (State.isArrayOf_alike hZ.alike Ar.2.1) Ar.2.2 (own_in hj (by rw [S]; exact (List.getElem?_eq_some_iff.mp hv).1)) (H _ _ hv) hg hs hd t k
theorem Al.length (A : Al Z h a ls) (X : Stand p l e R s m args below meth c T locs cells slots) (hx : p.tables.exec = Jvm.exec) (hZ : Z.Warmed39 s.vm) (eT : T.heap = h) {n : Int32} (hn : ls.length.toInt32 = n) {g : JFrame} (hg : g.method = m) {rest : List Value} (hs : g.stack = .ref a :: rest) (hd : decode c.code g.pc = .ok (.arraylength, 1)) :
    ∀ t, Steps p.tables e below (T.setTop { g with pc := g.pc + 1, stack := .int n :: rest }) t → Steps p.tables e below (T.setTop g) t := by
  obtain ⟨cl, Ar, S, H⟩ := A.open
  subst hn
  rw [← S]
  exact fun t k => X.arraylength hx (by rw [eT]; exact Ar.1) (State.isArrayOf_alike hZ.alike Ar.2.1) hg hs hd t k
theorem Al.store (A : Al Z h a ls) (X : Stand p l e R s m args below meth c T locs cells slots) (hx : p.tables.exec = Jvm.exec) (hZ : Z.Warmed39 s.vm) (eT : T.heap = h) {j : Int32} {v : Int64} (hj : ¬ j < 0) (hi : j.toNatClampNeg < ls.length) {g : JFrame} (hg : g.method = m) {rest : List Value} (hs : g.stack = .long v :: .int j :: .ref a :: rest) (hd : decode c.code g.pc = .ok (.lastore, 1)) :
    ∃ T' h', Stand p l e R s m args below meth c T' (locs ++ [⟨a, j.toNatClampNeg⟩]) cells slots ∧ T'.heap = h' ∧ Wr h h' a j.toNatClampNeg (.long v) ∧ Al Z h' a (ls.set j.toNatClampNeg v) ∧
      ∀ t, Steps p.tables e below (T'.setTop { g with pc := g.pc + 1, stack := rest }) t → Steps p.tables e below (T.setTop g) t := by
  obtain ⟨cl, Ar, S, H⟩ := A.open
  obtain ⟨T', h', X', e', W, st⟩ := stJ X hx hZ eT Ar (j := j) (own_in hj (by rw [S]; exact hi)) hg hs hd
  refine ⟨T', h', X', e', W, ?_, st⟩
  obtain ⟨k, z, ⟨c, A, q1, S, q3, H, G⟩, r⟩ := A
  refine ⟨k, z, ?_, by simpa using r⟩
  rw [List.map_set]
  exact Arv.set A q1 S q3 H G rfl W j.toNatClampNeg rfl (by simpa using hi)
theorem Al.new (X : Stand p l e R s m args below meth c T locs cells slots) (hx : p.tables.exec = Jvm.exec) (hZ : Z.Warmed39 s.vm) {aty : ArrayType} (w : (Jvm.Cond.arrayClass (newarray.typeOf aty)).before a0 Z = true) (hdef : aty = .long) (eT : T.heap = h) {n : Int32} (hn : ¬ n < 0) (cap : Nat) (hcap : n.toNatClampNeg ≤ cap) (hb : cap * 8 ≤ 536870912) (hc : cells + 1 ≤ R.cells) (hl : slots + cap ≤ R.slots)
    {g : JFrame} (hg : g.method = m) {rest : List Value} (hs : g.stack = .int n :: rest) (hd : decode c.code g.pc = .ok (.newarray aty, 2)) :
    ∃ T' h' b, Stand p l e R s m args below meth c T' locs (cells + 1) (slots + cap) ∧ T'.heap = h' ∧ b = h.size ∧ Ext h h' ∧ Al Z h' b (List.replicate n.toNatClampNeg 0) ∧
      ∀ t, Steps p.tables e below (T'.setTop { g with pc := g.pc + 2, stack := .ref b :: rest }) t → Steps p.tables e below (T.setTop g) t := by
  obtain ⟨T', h', k, X', e', E, A, st⟩ := newP X hx hZ w eT (g := g) hg hd hs hn hcap hb hc hl
  subst hdef
  refine ⟨T', h', _, X', e', rfl, E, ⟨k, n, ?_, by simp⟩, st⟩
  have V := Arv.new A hn
  rw [List.map_replicate]
  exact V.pad (pad_rep [] (.long 0) n.toNatClampNeg)
theorem own_if1 {P : Prop} [Decidable P] (h : P) : ¬ ((if P then (1 : Int32) else (0 : Int32)) = 0) := by rw [if_pos h]; decide
theorem own_if0 {P : Prop} [Decidable P] (h : ¬ P) : (if P then (1 : Int32) else (0 : Int32)) = 0 := if_neg h
theorem own_ifc {P Q : Prop} [Decidable P] [Decidable Q] (h : P ↔ Q) : (if P then (1 : Int32) else (0 : Int32)) = (if Q then (1 : Int32) else (0 : Int32)) := by
  by_cases p : P
  · rw [if_pos p, if_pos (h.mp p)]
  · rw [if_neg p, if_neg (fun q => p (h.mpr q))]
theorem own_narI {P : Prop} [Decidable P] : nar .boolean (if P then (1 : Int32) else (0 : Int32)) = (if P then (1 : Int32) else (0 : Int32)) := by
  by_cases p : P
  · rw [if_pos p]; rfl
  · rw [if_neg p]; rfl
theorem own_bb (x : Int32) : x.toInt8.toInt32.toInt8.toInt32 = x.toInt8.toInt32 := by simp
end Layer
section Numbers
theorem own_mod (x k : Int32) (hk : 0 < k.toInt) : 0 ≤ ((x &&& (2147483647 : Int32)) % k).toInt ∧ ((x &&& (2147483647 : Int32)) % k).toInt < k.toInt := by
  have h1 := c_and x 2147483647 (by decide)
  have h2 := (c_iremV (x &&& 2147483647) k).1 h1.1 hk
  exact ⟨h2.1, h2.2.1⟩
theorem own_nn {j : Int32} (h : 0 ≤ j.toInt) : ¬ j < 0 := by
  rw [Int32.lt_iff_toInt_lt, show (0 : Int32).toInt = 0 from rfl]; omega
theorem own_nat {j : Int32} {k : Nat} (h : 0 ≤ j.toInt) (h2 : j.toInt < k) : j.toNatClampNeg < k := by
  simp only [Int32.toNatClampNeg]; omega
theorem own_at {xs : List Int32} {i : Nat} (h : i < xs.length) : ∃ v, xs[i]? = some v := ⟨xs[i], List.getElem?_eq_getElem h⟩
end Numbers
theorem own_ti {n : Nat} (h : n < 2147483648) : n.toInt32.toInt = n := len_toInt h
theorem own_tn {n : Nat} (h : n < 2147483648) : n.toInt32.toNatClampNeg = n := by simp only [Int32.toNatClampNeg, own_ti h]; rfl
theorem own_tpos {n : Nat} (h : n < 2147483648) : ¬ n.toInt32 < 0 := by rw [Int32.lt_iff_toInt_lt, own_ti h, show (0 : Int32).toInt = 0 from rfl]; omega
theorem own_t1 (n : Nat) : n.toInt32 + (1 : Int32) = (n + 1).toInt32 := (Int32.ofNat_add n 1).symm
theorem own_tadd (n m : Nat) : n.toInt32 + m.toInt32 = (n + m).toInt32 := (Int32.ofNat_add n m).symm
theorem own_pred (n : Nat) : (n + 1).toInt32 - (1 : Int32) = n.toInt32 := by rw [← own_t1]; exact Int32.add_sub_cancel _ _
theorem own_m1 (x : Int32) : x + (-1 : Int32) = x - (1 : Int32) := (Int32.sub_eq_add_neg x 1).symm
theorem own_tlt {n m : Nat} (hn : n < 2147483648) (hm : m < 2147483648) : n.toInt32 < m.toInt32 ↔ n < m := by rw [Int32.lt_iff_toInt_lt, own_ti hn, own_ti hm]; omega
theorem own_tsub {n m : Nat} (h : m ≤ n) : n.toInt32 - m.toInt32 = (n - m).toInt32 := by
  have e : n = (n - m) + m := by omega
  conv => lhs; rw [e]
  rw [← own_tadd]; exact Int32.add_sub_cancel _ _
theorem own_natI {j : Int32} (h : 0 ≤ j.toInt) : ∃ n : Nat, j = n.toInt32 ∧ (n : Int) = j.toInt := ⟨j.toNatClampNeg, (back32 (own_nn h)).1.symm, by simp only [Int32.toNatClampNeg]; omega⟩
/-- m values B 0, B 1, .. written from the place a on -/
def own_W (xs : List Int32) (a : Nat) (B : Nat → Int32) (m : Nat) (ys : List Int32) : Prop := ys.length = xs.length ∧ ∀ j, ys[j]? = if a ≤ j ∧ j < a + m then some (B (j - a)) else xs[j]?
theorem own_W.zero (xs : List Int32) (a : Nat) (B : Nat → Int32) : own_W xs a B 0 xs := ⟨rfl, fun j => by rw [if_neg (by omega)]⟩
theorem own_W.step {xs ys : List Int32} {a m : Nat} {B : Nat → Int32} (h : own_W xs a B m ys) (hl : a + m < xs.length) : own_W xs a B (m + 1) (ys.set (a + m) (B m)) := by
  refine ⟨by rw [List.length_set]; exact h.1, fun j => ?_⟩
  rw [List.getElem?_set]
  by_cases e : a + m = j
  · subst e
    rw [if_pos rfl, if_pos (by rw [h.1]; exact hl), if_pos (by omega), Nat.add_sub_cancel_left]
  · rw [if_neg e, h.2 j]
    by_cases q : a ≤ j ∧ j < a + m
    · rw [if_pos q, if_pos (by omega)]
    · rw [if_neg q, if_neg (by omega)]
def own_pb (b0 b1 : Int64) (i : Nat) : Int32 := ((((if i < 8 then b0 else b1).toUInt64 >>> (((56 : Int32) - ((i.toInt32 &&& (7 : Int32)) <<< ((3 : Int32) &&& 31))) &&& 0x3f).toInt64.toUInt64).toInt64).toInt32).toInt8.toInt32
def own_bo (b0 b1 : Int64) (k : Int32) : Int32 := ((((((if k < (8 : Int32) then b0 else b1) <<< (((8 : Int32) * (if k < (8 : Int32) then k else k - (8 : Int32))) &&& 0x3f).toInt64)).toUInt64 >>> ((56 : Int32) &&& 0x3f).toInt64.toUInt64).toInt64).toInt32).toInt8.toInt32
theorem own_idx8 (i : Nat) (h : i < 16) : ¬ ((i.toInt32.toUInt32 >>> ((3 : Int32) &&& 31).toUInt32).toInt32) < 0 ∧ ((i.toInt32.toUInt32 >>> ((3 : Int32) &&& 31).toUInt32).toInt32).toNatClampNeg = i / 8 := by
  have : ∀ i : Fin 16, ¬ ((i.1.toInt32.toUInt32 >>> ((3 : Int32) &&& 31).toUInt32).toInt32) < 0 ∧ ((i.1.toInt32.toUInt32 >>> ((3 : Int32) &&& 31).toUInt32).toInt32).toNatClampNeg = i.1 / 8 := by decide
  exact this ⟨i, h⟩
theorem own_two (b0 b1 : Int64) (i : Nat) (h : i < 16) : [b0, b1][((i.toInt32.toUInt32 >>> ((3 : Int32) &&& 31).toUInt32).toInt32).toNatClampNeg]? = some (if i < 8 then b0 else b1) := by
  rw [(own_idx8 i h).2]
  by_cases q : i < 8
  · rw [if_pos q, show i / 8 = 0 by omega]; rfl
  · rw [if_neg q, show i / 8 = 1 by omega]; rfl
theorem own_b8 (a b : Int64) (h : (a.toInt - b.toInt) % 256 = 0) : a.toInt32.toInt8.toInt32 = b.toInt32.toInt8.toInt32 := by
  have a1 := c_l2i a; have a2 := c_l2i b
  have a3 := c_i2b a.toInt32; have a4 := c_i2b b.toInt32
  exact Int32.toInt_inj.mp (by omega)
/-- one byte of v two ways -/
theorem own_shift (v : Int64) (q8 q56 : Int32) (k8 k56 : Nat) (h8 : q8.toBitVec.toNat % 64 = k8) (h56 : q56.toBitVec.toNat % 64 = k56) (h : k8 + k56 = 56) (hp : 0 < k56) (hk : k8 = 0 ∨ k8 = 8 ∨ k8 = 16 ∨ k8 = 24 ∨ k8 = 32 ∨ k8 = 40 ∨ k8 = 48) :
    (((v.toUInt64 >>> (q56 &&& 0x3f).toInt64.toUInt64).toInt64).toInt32).toInt8.toInt32 = ((((v <<< (q8 &&& 0x3f).toInt64).toUInt64 >>> ((56 : Int32) &&& 0x3f).toInt64.toUInt64).toInt64).toInt32).toInt8.toInt32 := by
  apply own_b8
  have a1 := c_lushr v q56 k56 h56 hp
  have a2 := c_lshl v q8 k8 h8
  have a3 := c_lushr (v <<< (q8 &&& 0x3f).toInt64) 56 56 (by decide) (by decide)
  have r := rng64 v; have r2 := rng64 (v <<< (q8 &&& 0x3f).toInt64)
  rw [a1, a3]
  rcases hk with rfl | rfl | rfl | rfl | rfl | rfl | rfl
  · obtain rfl : k56 = 56 := by omega
    simp only [show ((2 ^ 56 : Nat) : Int) = 72057594037927936 from rfl, show ((2 ^ 0 : Nat) : Int) = 1 from rfl] at *; omega
  · obtain rfl : k56 = 48 := by omega
    simp only [show ((2 ^ 56 : Nat) : Int) = 72057594037927936 from rfl, show ((2 ^ 48 : Nat) : Int) = 281474976710656 from rfl, show ((2 ^ 8 : Nat) : Int) = 256 from rfl] at *; omega
  · obtain rfl : k56 = 40 := by omega
    simp only [show ((2 ^ 56 : Nat) : Int) = 72057594037927936 from rfl, show ((2 ^ 40 : Nat) : Int) = 1099511627776 from rfl, show ((2 ^ 16 : Nat) : Int) = 65536 from rfl] at *; omega
  · obtain rfl : k56 = 32 := by omega
    simp only [show ((2 ^ 56 : Nat) : Int) = 72057594037927936 from rfl, show ((2 ^ 32 : Nat) : Int) = 4294967296 from rfl, show ((2 ^ 24 : Nat) : Int) = 16777216 from rfl] at *; omega
  · obtain rfl : k56 = 24 := by omega
    simp only [show ((2 ^ 56 : Nat) : Int) = 72057594037927936 from rfl, show ((2 ^ 32 : Nat) : Int) = 4294967296 from rfl, show ((2 ^ 24 : Nat) : Int) = 16777216 from rfl] at *; omega
  · obtain rfl : k56 = 16 := by omega
    simp only [show ((2 ^ 56 : Nat) : Int) = 72057594037927936 from rfl, show ((2 ^ 40 : Nat) : Int) = 1099511627776 from rfl, show ((2 ^ 16 : Nat) : Int) = 65536 from rfl] at *; omega
  · obtain rfl : k56 = 8 := by omega
    simp only [show ((2 ^ 56 : Nat) : Int) = 72057594037927936 from rfl, show ((2 ^ 48 : Nat) : Int) = 281474976710656 from rfl, show ((2 ^ 8 : Nat) : Int) = 256 from rfl] at *; omega
theorem own_shift0 (v : Int64) : (((v.toUInt64 >>> ((0 : Int32) &&& 0x3f).toInt64.toUInt64).toInt64).toInt32).toInt8.toInt32 = ((((v <<< ((56 : Int32) &&& 0x3f).toInt64).toUInt64 >>> ((56 : Int32) &&& 0x3f).toInt64.toUInt64).toInt64).toInt32).toInt8.toInt32 := by
  apply own_b8
  have e : ((0 : Int32) &&& 0x3f).toInt64.toUInt64 = 0 := by decide
  have e2 : (v.toUInt64 >>> (0 : UInt64)).toInt64 = v := by simp
  rw [e, e2]
  have a2 := c_lshl v 56 56 (by decide)
  have a3 := c_lushr (v <<< ((56 : Int32) &&& 0x3f).toInt64) 56 56 (by decide) (by decide)
  have r := rng64 v; have r2 := rng64 (v <<< ((56 : Int32) &&& 0x3f).toInt64)
  rw [a3]
  simp only [show ((2 ^ 56 : Nat) : Int) = 72057594037927936 from rfl] at *; omega
theorem own_pbo (b0 b1 : Int64) (i : Nat) (h : i < 16) : own_pb b0 b1 i = own_bo b0 b1 i.toInt32 := by
  have ci : i = 0 ∨ i = 1 ∨ i = 2 ∨ i = 3 ∨ i = 4 ∨ i = 5 ∨ i = 6 ∨ i = 7 ∨ i = 8 ∨ i = 9 ∨ i = 10 ∨ i = 11 ∨ i = 12 ∨ i = 13 ∨ i = 14 ∨ i = 15 := by omega
  rcases ci with rfl | rfl | rfl | rfl | rfl | rfl | rfl | rfl | rfl | rfl | rfl | rfl | rfl | rfl | rfl | rfl
  · exact own_shift b0 0 56 0 56 (by decide) (by decide) (by decide) (by decide) (by decide)
  · exact own_shift b0 8 48 8 48 (by decide) (by decide) (by decide) (by decide) (by decide)
  · exact own_shift b0 16 40 16 40 (by decide) (by decide) (by decide) (by decide) (by decide)
  · exact own_shift b0 24 32 24 32 (by decide) (by decide) (by decide) (by decide) (by decide)
  · exact own_shift b0 32 24 32 24 (by decide) (by decide) (by decide) (by decide) (by decide)
  · exact own_shift b0 40 16 40 16 (by decide) (by decide) (by decide) (by decide) (by decide)
  · exact own_shift b0 48 8 48 8 (by decide) (by decide) (by decide) (by decide) (by decide)
  · exact own_shift0 b0
  · exact own_shift b1 0 56 0 56 (by decide) (by decide) (by decide) (by decide) (by decide)
  · exact own_shift b1 8 48 8 48 (by decide) (by decide) (by decide) (by decide) (by decide)
  · exact own_shift b1 16 40 16 40 (by decide) (by decide) (by decide) (by decide) (by decide)
  · exact own_shift b1 24 32 24 32 (by decide) (by decide) (by decide) (by decide) (by decide)
  · exact own_shift b1 32 24 32 24 (by decide) (by decide) (by decide) (by decide) (by decide)
  · exact own_shift b1 40 16 40 16 (by decide) (by decide) (by decide) (by decide) (by decide)
  · exact own_shift b1 48 8 48 8 (by decide) (by decide) (by decide) (by decide) (by decide)
  · exact own_shift0 b1
theorem own_cell {b0 b1 : Int64} {f : Int32} {n i : Nat} {ys : List Int32} (hW : own_W (List.replicate 20 f) n (own_pb b0 b1) i ys) (hn : n ≤ 3) (hi : i ≤ 16) (j : Nat) (hj : j < 20) :
    ((Int32.ofNat j < n.toInt32 ∨ ¬ Int32.ofNat j < (n.toInt32 + i.toInt32)) → ys[(Int32.ofNat j).toNatClampNeg]? = some f) ∧ (¬ Int32.ofNat j < n.toInt32 → Int32.ofNat j < (n.toInt32 + i.toInt32) → ys[(Int32.ofNat j).toNatClampNeg]? = some (own_bo b0 b1 (Int32.ofNat j - n.toInt32))) := by
  have e1 : (Int32.ofNat j).toNatClampNeg = j := own_tn (by omega)
  have e2 : (Int32.ofNat j < n.toInt32) ↔ j < n := own_tlt (by omega) (by omega)
  have e3 : (Int32.ofNat j < (n.toInt32 + i.toInt32)) ↔ j < n + i := by rw [own_tadd]; exact own_tlt (by omega) (by omega)
  rw [e1, e2, e3, hW.2 j]
  refine ⟨fun q => ?_, fun q1 q2 => ?_⟩
  · rw [if_neg (by omega), List.getElem?_replicate, if_pos hj]
  · rw [if_pos (by omega), own_pbo b0 b1 (j - n) (by omega)]
    have e4 : Int32.ofNat j - n.toInt32 = (j - n).toInt32 := by show j.toInt32 - n.toInt32 = _; rw [own_tsub (by omega)]
    rw [e4]
theorem w0 {Z : State} {a0 : Array Value} (hw : ∀ d ∈ tables_1, d.before a0 Z = true) : (Jvm.Cond.constant "io/tightbits/FixedWidthPutFirstBytesPinLaw" (13 : Nat) (2147483647 : Int32)).before a0 Z = true := hw _ (List.mem_of_getElem? (i := 0) rfl)
theorem w1 {Z : State} {a0 : Array Value} (hw : ∀ d ∈ tables_1, d.before a0 Z = true) : (Jvm.Cond.arrayClass Jvm.ClassFile.FieldType.byte).before a0 Z = true := hw _ (List.mem_of_getElem? (i := 1) rfl)
theorem w2 {Z : State} {a0 : Array Value} (hw : ∀ d ∈ tables_1, d.before a0 Z = true) : (Jvm.Cond.arrayClass Jvm.ClassFile.FieldType.long).before a0 Z = true := hw _ (List.mem_of_getElem? (i := 2) rfl)
theorem w3 {Z : State} {a0 : Array Value} (hw : ∀ d ∈ tables_1, d.before a0 Z = true) : (Jvm.Cond.methodLink "io/tightbits/FixedWidthPutFirstBytesPinLaw" (14 : Nat) ({ cls := "io/tightbits/FixedWidth", name := "putFirstBytes", desc := "([JI[BI)I" } : Jvm.MethodName)).before a0 Z = true := hw _ (List.mem_of_getElem? (i := 3) rfl)
theorem w4 {Z : State} {a0 : Array Value} (hw : ∀ d ∈ tables_1, d.before a0 Z = true) : (Jvm.Cond.static ({ cls := "io/tightbits/FixedWidth", name := "putFirstBytes", desc := "([JI[BI)I" } : Jvm.MethodName)).before a0 Z = true := hw _ (List.mem_of_getElem? (i := 4) rfl)
theorem w5 {Z : State} {a0 : Array Value} (hw : ∀ d ∈ tables_1, d.before a0 Z = true) : (Jvm.Cond.initialized "io/tightbits/FixedWidth").before a0 Z = true := hw _ (List.mem_of_getElem? (i := 5) rfl)
theorem w6 {Z : State} {a0 : Array Value} (hw : ∀ d ∈ tables_1, d.before a0 Z = true) : (Jvm.Cond.code ({ cls := "io/tightbits/FixedWidth", name := "putFirstBytes", desc := "([JI[BI)I" } : Jvm.MethodName) prog_14_method_23_code (5 : Nat) (Option.some Jvm.ClassFile.FieldType.int)).before a0 Z = true := hw _ (List.mem_of_getElem? (i := 6) rfl)
theorem w7 {Z : State} {a0 : Array Value} (hw : ∀ d ∈ tables_1, d.before a0 Z = true) : (Jvm.Cond.methodLink "io/tightbits/FixedWidthPutFirstBytesPinLaw" (20 : Nat) ({ cls := "io/tightbits/FixedWidthPutFirstBytesPinLaw", name := "ok", desc := "([BIIIJJB)Z" } : Jvm.MethodName)).before a0 Z = true := hw _ (List.mem_of_getElem? (i := 7) rfl)
theorem w8 {Z : State} {a0 : Array Value} (hw : ∀ d ∈ tables_1, d.before a0 Z = true) : (Jvm.Cond.static ({ cls := "io/tightbits/FixedWidthPutFirstBytesPinLaw", name := "ok", desc := "([BIIIJJB)Z" } : Jvm.MethodName)).before a0 Z = true := hw _ (List.mem_of_getElem? (i := 8) rfl)
theorem w9 {Z : State} {a0 : Array Value} (hw : ∀ d ∈ tables_1, d.before a0 Z = true) : (Jvm.Cond.initialized "io/tightbits/FixedWidthPutFirstBytesPinLaw").before a0 Z = true := hw _ (List.mem_of_getElem? (i := 9) rfl)
theorem w10 {Z : State} {a0 : Array Value} (hw : ∀ d ∈ tables_1, d.before a0 Z = true) : (Jvm.Cond.code ({ cls := "io/tightbits/FixedWidthPutFirstBytesPinLaw", name := "ok", desc := "([BIIIJJB)Z" } : Jvm.MethodName) method_3_code (9 : Nat) (Option.some Jvm.ClassFile.FieldType.boolean)).before a0 Z = true := hw _ (List.mem_of_getElem? (i := 10) rfl)
theorem w11 {Z : State} {a0 : Array Value} (hw : ∀ d ∈ tables_1, d.before a0 Z = true) : (Jvm.Cond.methodLink "io/tightbits/FixedWidthPutFirstBytesPinLaw" (7 : Nat) ({ cls := "io/tightbits/FixedWidthPutFirstBytesPinLaw", name := "byteOf", desc := "(JJI)B" } : Jvm.MethodName)).before a0 Z = true := hw _ (List.mem_of_getElem? (i := 11) rfl)
theorem w12 {Z : State} {a0 : Array Value} (hw : ∀ d ∈ tables_1, d.before a0 Z = true) : (Jvm.Cond.static ({ cls := "io/tightbits/FixedWidthPutFirstBytesPinLaw", name := "byteOf", desc := "(JJI)B" } : Jvm.MethodName)).before a0 Z = true := hw _ (List.mem_of_getElem? (i := 12) rfl)
theorem w13 {Z : State} {a0 : Array Value} (hw : ∀ d ∈ tables_1, d.before a0 Z = true) : (Jvm.Cond.code ({ cls := "io/tightbits/FixedWidthPutFirstBytesPinLaw", name := "byteOf", desc := "(JJI)B" } : Jvm.MethodName) method_2_code (8 : Nat) (Option.some Jvm.ClassFile.FieldType.byte)).before a0 Z = true := hw _ (List.mem_of_getElem? (i := 13) rfl)
theorem pd0 : parseMethodDescriptor "(JJI)B" = some ⟨[.long, .long, .int], some .byte⟩ := by decide +kernel
theorem pd1 : parseMethodDescriptor "([JI[BI)I" = some ⟨[(.array .long), .int, (.array .byte), .int], some .int⟩ := by decide +kernel
theorem pd2 : parseMethodDescriptor "([BIIIJJB)Z" = some ⟨[(.array .byte), .int, .int, .int, .long, .long, .byte], some .boolean⟩ := by decide +kernel
theorem pn0 : plainName "io/tightbits/FixedWidth" = true := by first | (simp [plainName, overriddenIn]; done) | decide +kernel
theorem pn1 : plainName "io/tightbits/FixedWidthPutFirstBytesPinLaw" = true := by first | (simp [plainName, overriddenIn]; done) | decide +kernel
theorem d1_0 : decode prog_14_method_23_code 0 = .ok (.iconst 0, 1) := by decide +kernel
theorem d1_1 : decode prog_14_method_23_code 1 = .ok (.istore 4, 2) := by decide +kernel
theorem d1_3 : decode prog_14_method_23_code 3 = .ok (.iload 4, 2) := by decide +kernel
theorem d1_5 : decode prog_14_method_23_code 5 = .ok (.iload_n 1, 1) := by decide +kernel
theorem d1_6 : decode prog_14_method_23_code 6 = .ok (.if_icmp .ge 34, 3) := by decide +kernel
theorem d1_9 : decode prog_14_method_23_code 9 = .ok (.aload_n 2, 1) := by decide +kernel
theorem d1_10 : decode prog_14_method_23_code 10 = .ok (.iload_n 3, 1) := by decide +kernel
theorem d1_11 : decode prog_14_method_23_code 11 = .ok (.iload 4, 2) := by decide +kernel
theorem d1_13 : decode prog_14_method_23_code 13 = .ok (.iadd, 1) := by decide +kernel
theorem d1_14 : decode prog_14_method_23_code 14 = .ok (.aload_n 0, 1) := by decide +kernel
theorem d1_15 : decode prog_14_method_23_code 15 = .ok (.iload 4, 2) := by decide +kernel
theorem d1_17 : decode prog_14_method_23_code 17 = .ok (.iconst 3, 1) := by decide +kernel
theorem d1_18 : decode prog_14_method_23_code 18 = .ok (.iushr, 1) := by decide +kernel
theorem d1_19 : decode prog_14_method_23_code 19 = .ok (.laload, 1) := by decide +kernel
theorem d1_20 : decode prog_14_method_23_code 20 = .ok (.bipush 56, 2) := by decide +kernel
theorem d1_22 : decode prog_14_method_23_code 22 = .ok (.iload 4, 2) := by decide +kernel
theorem d1_24 : decode prog_14_method_23_code 24 = .ok (.bipush 7, 2) := by decide +kernel
theorem d1_26 : decode prog_14_method_23_code 26 = .ok (.iand, 1) := by decide +kernel
theorem d1_27 : decode prog_14_method_23_code 27 = .ok (.iconst 3, 1) := by decide +kernel
theorem d1_28 : decode prog_14_method_23_code 28 = .ok (.ishl, 1) := by decide +kernel
theorem d1_29 : decode prog_14_method_23_code 29 = .ok (.isub, 1) := by decide +kernel
theorem d1_30 : decode prog_14_method_23_code 30 = .ok (.lushr, 1) := by decide +kernel
theorem d1_31 : decode prog_14_method_23_code 31 = .ok (.l2i, 1) := by decide +kernel
theorem d1_32 : decode prog_14_method_23_code 32 = .ok (.i2b, 1) := by decide +kernel
theorem d1_33 : decode prog_14_method_23_code 33 = .ok (.bastore, 1) := by decide +kernel
theorem d1_34 : decode prog_14_method_23_code 34 = .ok (.iinc 4 1, 3) := by decide +kernel
theorem d1_37 : decode prog_14_method_23_code 37 = .ok (.goto (-34), 3) := by decide +kernel
theorem d1_40 : decode prog_14_method_23_code 40 = .ok (.iload_n 3, 1) := by decide +kernel
theorem d1_41 : decode prog_14_method_23_code 41 = .ok (.iload_n 1, 1) := by decide +kernel
theorem d1_42 : decode prog_14_method_23_code 42 = .ok (.iadd, 1) := by decide +kernel
theorem d1_43 : decode prog_14_method_23_code 43 = .ok (.ireturn, 1) := by decide +kernel
theorem d2_0 : decode method_3_code 0 = .ok (.iload_n 1, 1) := by decide +kernel
theorem d2_1 : decode method_3_code 1 = .ok (.iload_n 2, 1) := by decide +kernel
theorem d2_2 : decode method_3_code 2 = .ok (.if_icmp .lt 32, 3) := by decide +kernel
theorem d2_5 : decode method_3_code 5 = .ok (.iload_n 1, 1) := by decide +kernel
theorem d2_6 : decode method_3_code 6 = .ok (.iload_n 2, 1) := by decide +kernel
theorem d2_7 : decode method_3_code 7 = .ok (.iload_n 3, 1) := by decide +kernel
theorem d2_8 : decode method_3_code 8 = .ok (.iadd, 1) := by decide +kernel
theorem d2_9 : decode method_3_code 9 = .ok (.if_icmp .ge 25, 3) := by decide +kernel
theorem d2_12 : decode method_3_code 12 = .ok (.aload_n 0, 1) := by decide +kernel
theorem d2_13 : decode method_3_code 13 = .ok (.iload_n 1, 1) := by decide +kernel
theorem d2_14 : decode method_3_code 14 = .ok (.baload, 1) := by decide +kernel
theorem d2_15 : decode method_3_code 15 = .ok (.lload 4, 2) := by decide +kernel
theorem d2_17 : decode method_3_code 17 = .ok (.lload 6, 2) := by decide +kernel
theorem d2_19 : decode method_3_code 19 = .ok (.iload_n 1, 1) := by decide +kernel
theorem d2_20 : decode method_3_code 20 = .ok (.iload_n 2, 1) := by decide +kernel
theorem d2_21 : decode method_3_code 21 = .ok (.isub, 1) := by decide +kernel
theorem d2_22 : decode method_3_code 22 = .ok (.invokestatic 7, 3) := by decide +kernel
theorem d2_25 : decode method_3_code 25 = .ok (.if_icmp .ne 7, 3) := by decide +kernel
theorem d2_28 : decode method_3_code 28 = .ok (.iconst 1, 1) := by decide +kernel
theorem d2_29 : decode method_3_code 29 = .ok (.goto 4, 3) := by decide +kernel
theorem d2_33 : decode method_3_code 33 = .ok (.ireturn, 1) := by decide +kernel
theorem d2_34 : decode method_3_code 34 = .ok (.aload_n 0, 1) := by decide +kernel
theorem d2_35 : decode method_3_code 35 = .ok (.iload_n 1, 1) := by decide +kernel
theorem d2_36 : decode method_3_code 36 = .ok (.baload, 1) := by decide +kernel
theorem d2_37 : decode method_3_code 37 = .ok (.iload 8, 2) := by decide +kernel
theorem d2_39 : decode method_3_code 39 = .ok (.if_icmp .ne 7, 3) := by decide +kernel
theorem d2_42 : decode method_3_code 42 = .ok (.iconst 1, 1) := by decide +kernel
theorem d2_43 : decode method_3_code 43 = .ok (.goto 4, 3) := by decide +kernel
theorem d2_47 : decode method_3_code 47 = .ok (.ireturn, 1) := by decide +kernel
theorem d3_0 : decode method_2_code 0 = .ok (.iload 4, 2) := by decide +kernel
theorem d3_2 : decode method_2_code 2 = .ok (.bipush 8, 2) := by decide +kernel
theorem d3_4 : decode method_2_code 4 = .ok (.if_icmp .ge 7, 3) := by decide +kernel
theorem d3_7 : decode method_2_code 7 = .ok (.lload_n 0, 1) := by decide +kernel
theorem d3_8 : decode method_2_code 8 = .ok (.goto 4, 3) := by decide +kernel
theorem d3_11 : decode method_2_code 11 = .ok (.lload_n 2, 1) := by decide +kernel
theorem d3_12 : decode method_2_code 12 = .ok (.lstore 5, 2) := by decide +kernel
theorem d3_14 : decode method_2_code 14 = .ok (.iload 4, 2) := by decide +kernel
theorem d3_16 : decode method_2_code 16 = .ok (.bipush 8, 2) := by decide +kernel
theorem d3_18 : decode method_2_code 18 = .ok (.if_icmp .ge 8, 3) := by decide +kernel
theorem d3_21 : decode method_2_code 21 = .ok (.iload 4, 2) := by decide +kernel
theorem d3_23 : decode method_2_code 23 = .ok (.goto 8, 3) := by decide +kernel
theorem d3_26 : decode method_2_code 26 = .ok (.iload 4, 2) := by decide +kernel
theorem d3_28 : decode method_2_code 28 = .ok (.bipush 8, 2) := by decide +kernel
theorem d3_30 : decode method_2_code 30 = .ok (.isub, 1) := by decide +kernel
theorem d3_31 : decode method_2_code 31 = .ok (.istore 7, 2) := by decide +kernel
theorem d3_33 : decode method_2_code 33 = .ok (.lload 5, 2) := by decide +kernel
theorem d3_35 : decode method_2_code 35 = .ok (.bipush 8, 2) := by decide +kernel
theorem d3_37 : decode method_2_code 37 = .ok (.iload 7, 2) := by decide +kernel
theorem d3_39 : decode method_2_code 39 = .ok (.imul, 1) := by decide +kernel
theorem d3_40 : decode method_2_code 40 = .ok (.lshl, 1) := by decide +kernel
theorem d3_41 : decode method_2_code 41 = .ok (.bipush 56, 2) := by decide +kernel
theorem d3_43 : decode method_2_code 43 = .ok (.lushr, 1) := by decide +kernel
theorem d3_44 : decode method_2_code 44 = .ok (.l2i, 1) := by decide +kernel
theorem d3_45 : decode method_2_code 45 = .ok (.i2b, 1) := by decide +kernel
theorem d3_46 : decode method_2_code 46 = .ok (.ireturn, 1) := by decide +kernel
theorem ef_rm_put (m : MethodId) (x0 : Addr) (x1 : Int32) (x2 : Addr) (x3 : Int32) : entryFrame m #[(.ref x0), (.int x1), (.ref x2), (.int x3)] 5 = mkF m 0 #[.val (.ref x0), .val (.int x1), .val (.ref x2), .val (.int x3), .unset] [] := by first | (simp [entryFrame, mkF, argsToLocals, Value.category]; done) | rfl
set_option maxRecDepth 65536 in
set_option maxHeartbeats 40000000 in
theorem rm_put (l : Launch) (Z : State) (a0 : Array Value) (hw : ∀ d ∈ tables_1, d.before a0 Z = true) (o t : Addr) (n i : Nat) (b0 b1 : Int64) (xs : List Int32) (h0 : Heap) (n0 : Nat) (Z0 : n0 ≤ h0.size) (A_o : Al Z h0 o [b0, b1]) (A_t : Ai Z h0 t .byte xs) (ne_o_t : o ≠ t) (g_t : n0 ≤ t) (hin : n + i ≤ xs.length) (hsm : xs.length ≤ 1000) (hi : i ≤ 16) :
    Con l Z (⟨"io/tightbits/FixedWidth", "putFirstBytes", "([JI[BI)I"⟩ : MethodName) prog_14_method_23_code 5 (some .int) [] ({ frames := 0, cells := 0, slots := 0, locals := 0 } : Room) #[(.ref o), (.int i.toInt32), (.ref t), (.int n.toInt32)] h0 (fun v h L => v = some (.int (n + i).toInt32) ∧ Fr n0 L ∧ Keep h0 h [t] ∧ ∃ ys, Ai Z h t .byte ys ∧ own_W xs n (own_pb b0 b1) i ys) := by
  refine Con.mk (plainFor_of_name pn0) ?_
  intro p e s m below meth c T0 hx hby hml hown hnm hret hlk hZ X0 e0
  have hown : s.vm.findClass "io/tightbits/FixedWidth" = some m.cls := hown
  have hnm : meth.name = "putFirstBytes" := hnm
  have N0 := Fr.nil n0
  have K0 := Keep.refl h0 [t]
  have loop : ∀ (r : Nat) (u : Nat) (ys : List Int32) (T : State) (locs : List Loc) (h1 : Heap) (X : Stand p l e ({ frames := 0, cells := 0, slots := 0, locals := 0 } : Room) s m #[(.ref o), (.int i.toInt32), (.ref t), (.int n.toInt32)] below meth c T locs 0 0) (e1 : T.heap = h1) (N1 : Fr n0 locs) (Z0 : n0 ≤ h1.size) (K0 : Keep h0 h1 [t]) (A_o : Al Z h1 o [b0, b1]) (A_t : Ai Z h1 t .byte ys) (hm : u + r = i) (hW : own_W xs n (own_pb b0 b1) u ys), Go p e below s ({ frames := 0, cells := 0, slots := 0, locals := 0 } : Room) (fun v h L => v = some (.int (n + i).toInt32) ∧ Fr n0 L ∧ Keep h0 h [t] ∧ ∃ ys, Ai Z h t .byte ys ∧ own_W xs n (own_pb b0 b1) i ys) (T.setTop (mkF m 3 #[.val (.ref o), .val (.int i.toInt32), .val (.ref t), .val (.int n.toInt32), .val (.int u.toInt32)] [])) := by
    intro r
    induction r with
    | zero =>
      intro u ys T locs h1 X e1 N1 Z0 K0 A_o A_t hm hW
      have hmi : u = i := by omega
      refine Go.st (S' := T.setTop (mkF m 5 #[.val (.ref o), .val (.int i.toInt32), .val (.ref t), .val (.int n.toInt32), .val (.int u.toInt32)] [(.int u.toInt32)])) (fun _ k_ => XS.iload X.here hx rfl (hb hby d1_3) rfl k_) ?_
      refine Go.st (S' := T.setTop (mkF m 6 #[.val (.ref o), .val (.int i.toInt32), .val (.ref t), .val (.int n.toInt32), .val (.int u.toInt32)] [(.int i.toInt32), (.int u.toInt32)])) (fun _ k_ => XS.iloadN X.here hx rfl (hb hby d1_5) rfl k_) ?_
      refine Go.st (S' := T.setTop (mkF m 40 #[.val (.ref o), .val (.int i.toInt32), .val (.ref t), .val (.int n.toInt32), .val (.int u.toInt32)] [])) (fun _ k_ => XS.icmpYes X.here hx rfl (pc0 := 6) (pc' := 40) rfl (hb hby d1_6) rfl (flt ((by rw [own_tlt (by omega) (by omega)]; omega))).2.1 (by decide) (by decide) k_) ?_
      refine Go.st (S' := T.setTop (mkF m 41 #[.val (.ref o), .val (.int i.toInt32), .val (.ref t), .val (.int n.toInt32), .val (.int u.toInt32)] [(.int n.toInt32)])) (fun _ k_ => XS.iloadN X.here hx rfl (hb hby d1_40) rfl k_) ?_
      refine Go.st (S' := T.setTop (mkF m 42 #[.val (.ref o), .val (.int i.toInt32), .val (.ref t), .val (.int n.toInt32), .val (.int u.toInt32)] [(.int i.toInt32), (.int n.toInt32)])) (fun _ k_ => XS.iloadN X.here hx rfl (hb hby d1_41) rfl k_) ?_
      refine Go.st (S' := T.setTop (mkF m 43 #[.val (.ref o), .val (.int i.toInt32), .val (.ref t), .val (.int n.toInt32), .val (.int u.toInt32)] [(.int (n.toInt32 + i.toInt32))])) (fun _ k_ => XS.iadd X.here hx rfl (hb hby d1_42) rfl k_) ?_
      exact Go.retI X hx hret hlk (hb hby d1_43) (by decide) (by decide) (by rw [e1]; exact ⟨by rw [own_tadd], N1, K0, ys, A_t, hmi ▸ hW⟩)
    | succ r ih =>
      intro u ys T locs h1 X e1 N1 Z0 K0 A_o A_t hm hW
      refine Go.st (S' := T.setTop (mkF m 5 #[.val (.ref o), .val (.int i.toInt32), .val (.ref t), .val (.int n.toInt32), .val (.int u.toInt32)] [(.int u.toInt32)])) (fun _ k_ => XS.iload X.here hx rfl (hb hby d1_3) rfl k_) ?_
      refine Go.st (S' := T.setTop (mkF m 6 #[.val (.ref o), .val (.int i.toInt32), .val (.ref t), .val (.int n.toInt32), .val (.int u.toInt32)] [(.int i.toInt32), (.int u.toInt32)])) (fun _ k_ => XS.iloadN X.here hx rfl (hb hby d1_5) rfl k_) ?_
      refine Go.st (S' := T.setTop (mkF m 9 #[.val (.ref o), .val (.int i.toInt32), .val (.ref t), .val (.int n.toInt32), .val (.int u.toInt32)] [])) (fun _ k_ => XS.icmpNo X.here hx rfl (hb hby d1_6) rfl (tlt ((own_tlt (by omega) (by omega)).mpr (by omega))).2.1 k_) ?_
      refine Go.st (S' := T.setTop (mkF m 10 #[.val (.ref o), .val (.int i.toInt32), .val (.ref t), .val (.int n.toInt32), .val (.int u.toInt32)] [(.ref t)])) (fun _ k_ => XS.aloadN X.here hx rfl (hb hby d1_9) rfl rfl k_) ?_
      refine Go.st (S' := T.setTop (mkF m 11 #[.val (.ref o), .val (.int i.toInt32), .val (.ref t), .val (.int n.toInt32), .val (.int u.toInt32)] [(.int n.toInt32), (.ref t)])) (fun _ k_ => XS.iloadN X.here hx rfl (hb hby d1_10) rfl k_) ?_
      refine Go.st (S' := T.setTop (mkF m 13 #[.val (.ref o), .val (.int i.toInt32), .val (.ref t), .val (.int n.toInt32), .val (.int u.toInt32)] [(.int u.toInt32), (.int n.toInt32), (.ref t)])) (fun _ k_ => XS.iload X.here hx rfl (hb hby d1_11) rfl k_) ?_
      refine Go.st (S' := T.setTop (mkF m 14 #[.val (.ref o), .val (.int i.toInt32), .val (.ref t), .val (.int n.toInt32), .val (.int u.toInt32)] [(.int (n.toInt32 + u.toInt32)), (.ref t)])) (fun _ k_ => XS.iadd X.here hx rfl (hb hby d1_13) rfl k_) ?_
      rw [show (n.toInt32 + u.toInt32) = (n + u).toInt32 from own_tadd _ _]
      refine Go.st (S' := T.setTop (mkF m 15 #[.val (.ref o), .val (.int i.toInt32), .val (.ref t), .val (.int n.toInt32), .val (.int u.toInt32)] [(.ref o), (.int (n + u).toInt32), (.ref t)])) (fun _ k_ => XS.aloadN X.here hx rfl (hb hby d1_14) rfl rfl k_) ?_
      refine Go.st (S' := T.setTop (mkF m 17 #[.val (.ref o), .val (.int i.toInt32), .val (.ref t), .val (.int n.toInt32), .val (.int u.toInt32)] [(.int u.toInt32), (.ref o), (.int (n + u).toInt32), (.ref t)])) (fun _ k_ => XS.iload X.here hx rfl (hb hby d1_15) rfl k_) ?_
      refine Go.st (S' := T.setTop (mkF m 18 #[.val (.ref o), .val (.int i.toInt32), .val (.ref t), .val (.int n.toInt32), .val (.int u.toInt32)] [(.int (3 : Int32)), (.int u.toInt32), (.ref o), (.int (n + u).toInt32), (.ref t)])) (fun _ k_ => XS.iconst X.here hx rfl (hb hby d1_17) k_) ?_
      refine Go.st (S' := T.setTop (mkF m 19 #[.val (.ref o), .val (.int i.toInt32), .val (.ref t), .val (.int n.toInt32), .val (.int u.toInt32)] [(.int ((u.toInt32.toUInt32 >>> ((3 : Int32) &&& 31).toUInt32).toInt32)), (.ref o), (.int (n + u).toInt32), (.ref t)])) (fun _ k_ => XS.iushr X.here hx rfl (hb hby d1_18) rfl k_) ?_
      refine Go.st (S' := T.setTop (mkF m 20 #[.val (.ref o), .val (.int i.toInt32), .val (.ref t), .val (.int n.toInt32), .val (.int u.toInt32)] [(.long (if u < 8 then b0 else b1)), (.int (n + u).toInt32), (.ref t)])) (A_o.load X hx hZ e1 (j := ((u.toInt32.toUInt32 >>> ((3 : Int32) &&& 31).toUInt32).toInt32)) (v := (if u < 8 then b0 else b1)) (own_idx8 u (by omega)).1 (own_two b0 b1 u (by omega)) (g := (mkF m 19 #[.val (.ref o), .val (.int i.toInt32), .val (.ref t), .val (.int n.toInt32), .val (.int u.toInt32)] [(.int ((u.toInt32.toUInt32 >>> ((3 : Int32) &&& 31).toUInt32).toInt32)), (.ref o), (.int (n + u).toInt32), (.ref t)])) rfl rfl (hb hby d1_19)) ?_
      refine Go.st (S' := T.setTop (mkF m 22 #[.val (.ref o), .val (.int i.toInt32), .val (.ref t), .val (.int n.toInt32), .val (.int u.toInt32)] [(.int (56 : Int32)), (.long (if u < 8 then b0 else b1)), (.int (n + u).toInt32), (.ref t)])) (fun _ k_ => XS.bipush X.here hx rfl (hb hby d1_20) k_) ?_
      refine Go.st (S' := T.setTop (mkF m 24 #[.val (.ref o), .val (.int i.toInt32), .val (.ref t), .val (.int n.toInt32), .val (.int u.toInt32)] [(.int u.toInt32), (.int (56 : Int32)), (.long (if u < 8 then b0 else b1)), (.int (n + u).toInt32), (.ref t)])) (fun _ k_ => XS.iload X.here hx rfl (hb hby d1_22) rfl k_) ?_
      refine Go.st (S' := T.setTop (mkF m 26 #[.val (.ref o), .val (.int i.toInt32), .val (.ref t), .val (.int n.toInt32), .val (.int u.toInt32)] [(.int (7 : Int32)), (.int u.toInt32), (.int (56 : Int32)), (.long (if u < 8 then b0 else b1)), (.int (n + u).toInt32), (.ref t)])) (fun _ k_ => XS.bipush X.here hx rfl (hb hby d1_24) k_) ?_
      refine Go.st (S' := T.setTop (mkF m 27 #[.val (.ref o), .val (.int i.toInt32), .val (.ref t), .val (.int n.toInt32), .val (.int u.toInt32)] [(.int (u.toInt32 &&& (7 : Int32))), (.int (56 : Int32)), (.long (if u < 8 then b0 else b1)), (.int (n + u).toInt32), (.ref t)])) (fun _ k_ => XS.iand X.here hx rfl (hb hby d1_26) rfl k_) ?_
      refine Go.st (S' := T.setTop (mkF m 28 #[.val (.ref o), .val (.int i.toInt32), .val (.ref t), .val (.int n.toInt32), .val (.int u.toInt32)] [(.int (3 : Int32)), (.int (u.toInt32 &&& (7 : Int32))), (.int (56 : Int32)), (.long (if u < 8 then b0 else b1)), (.int (n + u).toInt32), (.ref t)])) (fun _ k_ => XS.iconst X.here hx rfl (hb hby d1_27) k_) ?_
      refine Go.st (S' := T.setTop (mkF m 29 #[.val (.ref o), .val (.int i.toInt32), .val (.ref t), .val (.int n.toInt32), .val (.int u.toInt32)] [(.int ((u.toInt32 &&& (7 : Int32)) <<< ((3 : Int32) &&& 31))), (.int (56 : Int32)), (.long (if u < 8 then b0 else b1)), (.int (n + u).toInt32), (.ref t)])) (fun _ k_ => XS.ishl X.here hx rfl (hb hby d1_28) rfl k_) ?_
      refine Go.st (S' := T.setTop (mkF m 30 #[.val (.ref o), .val (.int i.toInt32), .val (.ref t), .val (.int n.toInt32), .val (.int u.toInt32)] [(.int ((56 : Int32) - ((u.toInt32 &&& (7 : Int32)) <<< ((3 : Int32) &&& 31)))), (.long (if u < 8 then b0 else b1)), (.int (n + u).toInt32), (.ref t)])) (fun _ k_ => XS.isub X.here hx rfl (hb hby d1_29) rfl k_) ?_
      refine Go.st (S' := T.setTop (mkF m 31 #[.val (.ref o), .val (.int i.toInt32), .val (.ref t), .val (.int n.toInt32), .val (.int u.toInt32)] [(.long (((if u < 8 then b0 else b1).toUInt64 >>> (((56 : Int32) - ((u.toInt32 &&& (7 : Int32)) <<< ((3 : Int32) &&& 31))) &&& 0x3f).toInt64.toUInt64).toInt64)), (.int (n + u).toInt32), (.ref t)])) (fun _ k_ => XS.lushr X.here hx rfl (hb hby d1_30) rfl k_) ?_
      refine Go.st (S' := T.setTop (mkF m 32 #[.val (.ref o), .val (.int i.toInt32), .val (.ref t), .val (.int n.toInt32), .val (.int u.toInt32)] [(.int ((((if u < 8 then b0 else b1).toUInt64 >>> (((56 : Int32) - ((u.toInt32 &&& (7 : Int32)) <<< ((3 : Int32) &&& 31))) &&& 0x3f).toInt64.toUInt64).toInt64).toInt32)), (.int (n + u).toInt32), (.ref t)])) (fun _ k_ => XS.l2i X.here hx rfl (hb hby d1_31) rfl k_) ?_
      refine Go.st (S' := T.setTop (mkF m 33 #[.val (.ref o), .val (.int i.toInt32), .val (.ref t), .val (.int n.toInt32), .val (.int u.toInt32)] [(.int (((((if u < 8 then b0 else b1).toUInt64 >>> (((56 : Int32) - ((u.toInt32 &&& (7 : Int32)) <<< ((3 : Int32) &&& 31))) &&& 0x3f).toInt64.toUInt64).toInt64).toInt32).toInt8.toInt32)), (.int (n + u).toInt32), (.ref t)])) (fun _ k_ => XS.i2b X.here hx rfl (hb hby d1_32) rfl k_) ?_
      obtain ⟨T11, h11, X11, e11, W11, A11, st11⟩ := A_t.bstore X hx hZ e1 (j := (n + u).toInt32) (own_tpos (by omega)) (by rw [own_tn (by omega)]; have := hW.1; omega) (g := (mkF m 33 #[.val (.ref o), .val (.int i.toInt32), .val (.ref t), .val (.int n.toInt32), .val (.int u.toInt32)] [(.int (((((if u < 8 then b0 else b1).toUInt64 >>> (((56 : Int32) - ((u.toInt32 &&& (7 : Int32)) <<< ((3 : Int32) &&& 31))) &&& 0x3f).toInt64.toUInt64).toInt64).toInt32).toInt8.toInt32)), (.int (n + u).toInt32), (.ref t)])) rfl rfl (hb hby d1_33)
      replace A_t : Ai Z h11 t .byte (ys.set (n + u) (own_pb b0 b1 u)) := (by
        have q := A11
        rw [own_tn (by omega), own_bb] at q
        have e : (((((if u < 8 then b0 else b1).toUInt64 >>> (((56 : Int32) - ((u.toInt32 &&& (7 : Int32)) <<< ((3 : Int32) &&& 31))) &&& 0x3f).toInt64.toUInt64).toInt64).toInt32).toInt8.toInt32) = own_pb b0 b1 u := rfl
        rw [e] at q; exact q)
      replace A_o := A_o.other W11 ne_o_t
      replace Z0 := Nat.le_trans Z0 (Keep.of_wr W11).1
      replace K0 := K0.wr W11 (Or.inl (by simp))
      have N11 := Fr.snoc X11 N1 g_t
      refine Go.st (S' := T11.setTop (mkF m 34 #[.val (.ref o), .val (.int i.toInt32), .val (.ref t), .val (.int n.toInt32), .val (.int u.toInt32)] [])) (st11) ?_
      refine Go.st (S' := T11.setTop (mkF m 37 #[.val (.ref o), .val (.int i.toInt32), .val (.ref t), .val (.int n.toInt32), .val (.int (u.toInt32 + (1 : Int32)))] [])) (fun _ k_ => XS.iinc X11.here hx rfl (hb hby d1_34) rfl (l' := #[.val (.ref o), .val (.int i.toInt32), .val (.ref t), .val (.int n.toInt32), .val (.int (u.toInt32 + (1 : Int32)))]) rfl k_) ?_
      rw [show (u.toInt32 + (1 : Int32)) = (u + 1).toInt32 from own_t1 _]
      refine Go.st (S' := T11.setTop (mkF m 3 #[.val (.ref o), .val (.int i.toInt32), .val (.ref t), .val (.int n.toInt32), .val (.int (u + 1).toInt32)] [])) (fun _ k_ => XS.goto X11.here hx rfl (pc0 := 37) (pc' := 3) rfl (hb hby d1_37) (by decide) (by decide) k_) ?_
      exact ih (u + 1) _ _ _ _ X11 e11 N11 Z0 K0 A_o A_t (by omega) (hW.step (by omega))
  refine Go.cast (ef_rm_put m o i.toInt32 t n.toInt32) ?_
  refine Go.st (S' := T0.setTop (mkF m 1 #[.val (.ref o), .val (.int i.toInt32), .val (.ref t), .val (.int n.toInt32), .unset] [(.int (0 : Int32))])) (fun _ k_ => XS.iconst X0.here hx rfl (hb hby d1_0) k_) ?_
  refine Go.st (S' := T0.setTop (mkF m 3 #[.val (.ref o), .val (.int i.toInt32), .val (.ref t), .val (.int n.toInt32), .val (.int (0 : Int32))] [])) (fun _ k_ => XS.istore X0.here hx rfl (hb hby d1_1) rfl (l' := #[.val (.ref o), .val (.int i.toInt32), .val (.ref t), .val (.int n.toInt32), .val (.int (0 : Int32))]) rfl k_) ?_
  exact loop i 0 xs T0 [] h0 X0 e0 N0 Z0 K0 A_o A_t (by omega) (own_W.zero _ _ _)
theorem ef_rm_bo (m : MethodId) (x0 : Int64) (x1 : Int64) (x2 : Int32) : entryFrame m #[(.long x0), (.long x1), (.int x2)] 8 = mkF m 0 #[.val (.long x0), .second, .val (.long x1), .second, .val (.int x2), .unset, .unset, .unset] [] := by first | (simp [entryFrame, mkF, argsToLocals, Value.category]; done) | rfl
set_option maxRecDepth 65536 in
set_option maxHeartbeats 40000000 in
theorem rm_bo (l : Launch) (Z : State) (a0 : Array Value) (hw : ∀ d ∈ tables_1, d.before a0 Z = true) (b0 b1 : Int64) (k : Int32) (h0 : Heap) (n0 : Nat) (Z0 : n0 ≤ h0.size) :
    Con l Z (⟨"io/tightbits/FixedWidthPutFirstBytesPinLaw", "byteOf", "(JJI)B"⟩ : MethodName) method_2_code 8 (some .byte) [] ({ frames := 0, cells := 0, slots := 0, locals := 0 } : Room) #[(.long b0), (.long b1), (.int k)] h0 (fun v h L => v = some (.int (own_bo b0 b1 k)) ∧ Fr n0 L ∧ h = h0) := by
  refine Con.mk (plainFor_of_name pn1) ?_
  intro p e s m below meth c T0 hx hby hml hown hnm hret hlk hZ X0 e0
  have hown : s.vm.findClass "io/tightbits/FixedWidthPutFirstBytesPinLaw" = some m.cls := hown
  have hnm : meth.name = "byteOf" := hnm
  have N0 := Fr.nil n0
  refine Go.cast (ef_rm_bo m b0 b1 k) ?_
  refine Go.st (S' := T0.setTop (mkF m 2 #[.val (.long b0), .second, .val (.long b1), .second, .val (.int k), .unset, .unset, .unset] [(.int k)])) (fun _ k_ => XS.iload X0.here hx rfl (hb hby d3_0) rfl k_) ?_
  refine Go.st (S' := T0.setTop (mkF m 4 #[.val (.long b0), .second, .val (.long b1), .second, .val (.int k), .unset, .unset, .unset] [(.int (8 : Int32)), (.int k)])) (fun _ k_ => XS.bipush X0.here hx rfl (hb hby d3_2) k_) ?_
  by_cases hc4 : k < (8 : Int32)
  · skip
    refine Go.st (S' := T0.setTop (mkF m 7 #[.val (.long b0), .second, .val (.long b1), .second, .val (.int k), .unset, .unset, .unset] [])) (fun _ k_ => XS.icmpNo X0.here hx rfl (hb hby d3_4) rfl (tlt hc4).2.1 k_) ?_
    refine Go.st (S' := T0.setTop (mkF m 8 #[.val (.long b0), .second, .val (.long b1), .second, .val (.int k), .unset, .unset, .unset] [(.long b0)])) (fun _ k_ => XS.lloadN X0.here hx rfl (hb hby d3_7) rfl k_) ?_
    refine Go.st (S' := T0.setTop (mkF m 12 #[.val (.long b0), .second, .val (.long b1), .second, .val (.int k), .unset, .unset, .unset] [(.long b0)])) (fun _ k_ => XS.goto X0.here hx rfl (pc0 := 8) (pc' := 12) rfl (hb hby d3_8) (by decide) (by decide) k_) ?_
    refine Go.st (S' := T0.setTop (mkF m 14 #[.val (.long b0), .second, .val (.long b1), .second, .val (.int k), .val (.long b0), .second, .unset] [])) (fun _ k_ => XS.lstore X0.here hx rfl (hb hby d3_12) rfl (l' := #[.val (.long b0), .second, .val (.long b1), .second, .val (.int k), .val (.long b0), .second, .unset]) rfl k_) ?_
    refine Go.st (S' := T0.setTop (mkF m 16 #[.val (.long b0), .second, .val (.long b1), .second, .val (.int k), .val (.long b0), .second, .unset] [(.int k)])) (fun _ k_ => XS.iload X0.here hx rfl (hb hby d3_14) rfl k_) ?_
    refine Go.st (S' := T0.setTop (mkF m 18 #[.val (.long b0), .second, .val (.long b1), .second, .val (.int k), .val (.long b0), .second, .unset] [(.int (8 : Int32)), (.int k)])) (fun _ k_ => XS.bipush X0.here hx rfl (hb hby d3_16) k_) ?_
    refine Go.st (S' := T0.setTop (mkF m 21 #[.val (.long b0), .second, .val (.long b1), .second, .val (.int k), .val (.long b0), .second, .unset] [])) (fun _ k_ => XS.icmpNo X0.here hx rfl (hb hby d3_18) rfl (tlt (hc4)).2.1 k_) ?_
    refine Go.st (S' := T0.setTop (mkF m 23 #[.val (.long b0), .second, .val (.long b1), .second, .val (.int k), .val (.long b0), .second, .unset] [(.int k)])) (fun _ k_ => XS.iload X0.here hx rfl (hb hby d3_21) rfl k_) ?_
    refine Go.st (S' := T0.setTop (mkF m 31 #[.val (.long b0), .second, .val (.long b1), .second, .val (.int k), .val (.long b0), .second, .unset] [(.int k)])) (fun _ k_ => XS.goto X0.here hx rfl (pc0 := 23) (pc' := 31) rfl (hb hby d3_23) (by decide) (by decide) k_) ?_
    refine Go.st (S' := T0.setTop (mkF m 33 #[.val (.long b0), .second, .val (.long b1), .second, .val (.int k), .val (.long b0), .second, .val (.int k)] [])) (fun _ k_ => XS.istore X0.here hx rfl (hb hby d3_31) rfl (l' := #[.val (.long b0), .second, .val (.long b1), .second, .val (.int k), .val (.long b0), .second, .val (.int k)]) rfl k_) ?_
    refine Go.st (S' := T0.setTop (mkF m 35 #[.val (.long b0), .second, .val (.long b1), .second, .val (.int k), .val (.long b0), .second, .val (.int k)] [(.long b0)])) (fun _ k_ => XS.lload X0.here hx rfl (hb hby d3_33) rfl k_) ?_
    refine Go.st (S' := T0.setTop (mkF m 37 #[.val (.long b0), .second, .val (.long b1), .second, .val (.int k), .val (.long b0), .second, .val (.int k)] [(.int (8 : Int32)), (.long b0)])) (fun _ k_ => XS.bipush X0.here hx rfl (hb hby d3_35) k_) ?_
    refine Go.st (S' := T0.setTop (mkF m 39 #[.val (.long b0), .second, .val (.long b1), .second, .val (.int k), .val (.long b0), .second, .val (.int k)] [(.int k), (.int (8 : Int32)), (.long b0)])) (fun _ k_ => XS.iload X0.here hx rfl (hb hby d3_37) rfl k_) ?_
    refine Go.st (S' := T0.setTop (mkF m 40 #[.val (.long b0), .second, .val (.long b1), .second, .val (.int k), .val (.long b0), .second, .val (.int k)] [(.int ((8 : Int32) * k)), (.long b0)])) (fun _ k_ => XS.imul X0.here hx rfl (hb hby d3_39) rfl k_) ?_
    refine Go.st (S' := T0.setTop (mkF m 41 #[.val (.long b0), .second, .val (.long b1), .second, .val (.int k), .val (.long b0), .second, .val (.int k)] [(.long (b0 <<< (((8 : Int32) * k) &&& 0x3f).toInt64))])) (fun _ k_ => XS.lshl X0.here hx rfl (hb hby d3_40) rfl k_) ?_
    refine Go.st (S' := T0.setTop (mkF m 43 #[.val (.long b0), .second, .val (.long b1), .second, .val (.int k), .val (.long b0), .second, .val (.int k)] [(.int (56 : Int32)), (.long (b0 <<< (((8 : Int32) * k) &&& 0x3f).toInt64))])) (fun _ k_ => XS.bipush X0.here hx rfl (hb hby d3_41) k_) ?_
    refine Go.st (S' := T0.setTop (mkF m 44 #[.val (.long b0), .second, .val (.long b1), .second, .val (.int k), .val (.long b0), .second, .val (.int k)] [(.long (((b0 <<< (((8 : Int32) * k) &&& 0x3f).toInt64).toUInt64 >>> ((56 : Int32) &&& 0x3f).toInt64.toUInt64).toInt64))])) (fun _ k_ => XS.lushr X0.here hx rfl (hb hby d3_43) rfl k_) ?_
    refine Go.st (S' := T0.setTop (mkF m 45 #[.val (.long b0), .second, .val (.long b1), .second, .val (.int k), .val (.long b0), .second, .val (.int k)] [(.int ((((b0 <<< (((8 : Int32) * k) &&& 0x3f).toInt64).toUInt64 >>> ((56 : Int32) &&& 0x3f).toInt64.toUInt64).toInt64).toInt32))])) (fun _ k_ => XS.l2i X0.here hx rfl (hb hby d3_44) rfl k_) ?_
    refine Go.st (S' := T0.setTop (mkF m 46 #[.val (.long b0), .second, .val (.long b1), .second, .val (.int k), .val (.long b0), .second, .val (.int k)] [(.int (((((b0 <<< (((8 : Int32) * k) &&& 0x3f).toInt64).toUInt64 >>> ((56 : Int32) &&& 0x3f).toInt64.toUInt64).toInt64).toInt32).toInt8.toInt32))])) (fun _ k_ => XS.i2b X0.here hx rfl (hb hby d3_45) rfl k_) ?_
    exact Go.retN X0 hx (t := .byte) hret (by simp) hlk (hb hby d3_46) (by decide) (by decide) (by rw [e0]; exact ⟨by rw [own_bo, if_pos hc4, if_pos hc4]; simp [nar], N0, rfl⟩)
  · skip
    refine Go.st (S' := T0.setTop (mkF m 11 #[.val (.long b0), .second, .val (.long b1), .second, .val (.int k), .unset, .unset, .unset] [])) (fun _ k_ => XS.icmpYes X0.here hx rfl (pc0 := 4) (pc' := 11) rfl (hb hby d3_4) rfl (flt hc4).2.1 (by decide) (by decide) k_) ?_
    refine Go.st (S' := T0.setTop (mkF m 12 #[.val (.long b0), .second, .val (.long b1), .second, .val (.int k), .unset, .unset, .unset] [(.long b1)])) (fun _ k_ => XS.lloadN X0.here hx rfl (hb hby d3_11) rfl k_) ?_
    refine Go.st (S' := T0.setTop (mkF m 14 #[.val (.long b0), .second, .val (.long b1), .second, .val (.int k), .val (.long b1), .second, .unset] [])) (fun _ k_ => XS.lstore X0.here hx rfl (hb hby d3_12) rfl (l' := #[.val (.long b0), .second, .val (.long b1), .second, .val (.int k), .val (.long b1), .second, .unset]) rfl k_) ?_
    refine Go.st (S' := T0.setTop (mkF m 16 #[.val (.long b0), .second, .val (.long b1), .second, .val (.int k), .val (.long b1), .second, .unset] [(.int k)])) (fun _ k_ => XS.iload X0.here hx rfl (hb hby d3_14) rfl k_) ?_
    refine Go.st (S' := T0.setTop (mkF m 18 #[.val (.long b0), .second, .val (.long b1), .second, .val (.int k), .val (.long b1), .second, .unset] [(.int (8 : Int32)), (.int k)])) (fun _ k_ => XS.bipush X0.here hx rfl (hb hby d3_16) k_) ?_
    refine Go.st (S' := T0.setTop (mkF m 26 #[.val (.long b0), .second, .val (.long b1), .second, .val (.int k), .val (.long b1), .second, .unset] [])) (fun _ k_ => XS.icmpYes X0.here hx rfl (pc0 := 18) (pc' := 26) rfl (hb hby d3_18) rfl (flt (hc4)).2.1 (by decide) (by decide) k_) ?_
    refine Go.st (S' := T0.setTop (mkF m 28 #[.val (.long b0), .second, .val (.long b1), .second, .val (.int k), .val (.long b1), .second, .unset] [(.int k)])) (fun _ k_ => XS.iload X0.here hx rfl (hb hby d3_26) rfl k_) ?_
    refine Go.st (S' := T0.setTop (mkF m 30 #[.val (.long b0), .second, .val (.long b1), .second, .val (.int k), .val (.long b1), .second, .unset] [(.int (8 : Int32)), (.int k)])) (fun _ k_ => XS.bipush X0.here hx rfl (hb hby d3_28) k_) ?_
    refine Go.st (S' := T0.setTop (mkF m 31 #[.val (.long b0), .second, .val (.long b1), .second, .val (.int k), .val (.long b1), .second, .unset] [(.int (k - (8 : Int32)))])) (fun _ k_ => XS.isub X0.here hx rfl (hb hby d3_30) rfl k_) ?_
    refine Go.st (S' := T0.setTop (mkF m 33 #[.val (.long b0), .second, .val (.long b1), .second, .val (.int k), .val (.long b1), .second, .val (.int (k - (8 : Int32)))] [])) (fun _ k_ => XS.istore X0.here hx rfl (hb hby d3_31) rfl (l' := #[.val (.long b0), .second, .val (.long b1), .second, .val (.int k), .val (.long b1), .second, .val (.int (k - (8 : Int32)))]) rfl k_) ?_
    refine Go.st (S' := T0.setTop (mkF m 35 #[.val (.long b0), .second, .val (.long b1), .second, .val (.int k), .val (.long b1), .second, .val (.int (k - (8 : Int32)))] [(.long b1)])) (fun _ k_ => XS.lload X0.here hx rfl (hb hby d3_33) rfl k_) ?_
    refine Go.st (S' := T0.setTop (mkF m 37 #[.val (.long b0), .second, .val (.long b1), .second, .val (.int k), .val (.long b1), .second, .val (.int (k - (8 : Int32)))] [(.int (8 : Int32)), (.long b1)])) (fun _ k_ => XS.bipush X0.here hx rfl (hb hby d3_35) k_) ?_
    refine Go.st (S' := T0.setTop (mkF m 39 #[.val (.long b0), .second, .val (.long b1), .second, .val (.int k), .val (.long b1), .second, .val (.int (k - (8 : Int32)))] [(.int (k - (8 : Int32))), (.int (8 : Int32)), (.long b1)])) (fun _ k_ => XS.iload X0.here hx rfl (hb hby d3_37) rfl k_) ?_
    refine Go.st (S' := T0.setTop (mkF m 40 #[.val (.long b0), .second, .val (.long b1), .second, .val (.int k), .val (.long b1), .second, .val (.int (k - (8 : Int32)))] [(.int ((8 : Int32) * (k - (8 : Int32)))), (.long b1)])) (fun _ k_ => XS.imul X0.here hx rfl (hb hby d3_39) rfl k_) ?_
    refine Go.st (S' := T0.setTop (mkF m 41 #[.val (.long b0), .second, .val (.long b1), .second, .val (.int k), .val (.long b1), .second, .val (.int (k - (8 : Int32)))] [(.long (b1 <<< (((8 : Int32) * (k - (8 : Int32))) &&& 0x3f).toInt64))])) (fun _ k_ => XS.lshl X0.here hx rfl (hb hby d3_40) rfl k_) ?_
    refine Go.st (S' := T0.setTop (mkF m 43 #[.val (.long b0), .second, .val (.long b1), .second, .val (.int k), .val (.long b1), .second, .val (.int (k - (8 : Int32)))] [(.int (56 : Int32)), (.long (b1 <<< (((8 : Int32) * (k - (8 : Int32))) &&& 0x3f).toInt64))])) (fun _ k_ => XS.bipush X0.here hx rfl (hb hby d3_41) k_) ?_
    refine Go.st (S' := T0.setTop (mkF m 44 #[.val (.long b0), .second, .val (.long b1), .second, .val (.int k), .val (.long b1), .second, .val (.int (k - (8 : Int32)))] [(.long (((b1 <<< (((8 : Int32) * (k - (8 : Int32))) &&& 0x3f).toInt64).toUInt64 >>> ((56 : Int32) &&& 0x3f).toInt64.toUInt64).toInt64))])) (fun _ k_ => XS.lushr X0.here hx rfl (hb hby d3_43) rfl k_) ?_
    refine Go.st (S' := T0.setTop (mkF m 45 #[.val (.long b0), .second, .val (.long b1), .second, .val (.int k), .val (.long b1), .second, .val (.int (k - (8 : Int32)))] [(.int ((((b1 <<< (((8 : Int32) * (k - (8 : Int32))) &&& 0x3f).toInt64).toUInt64 >>> ((56 : Int32) &&& 0x3f).toInt64.toUInt64).toInt64).toInt32))])) (fun _ k_ => XS.l2i X0.here hx rfl (hb hby d3_44) rfl k_) ?_
    refine Go.st (S' := T0.setTop (mkF m 46 #[.val (.long b0), .second, .val (.long b1), .second, .val (.int k), .val (.long b1), .second, .val (.int (k - (8 : Int32)))] [(.int (((((b1 <<< (((8 : Int32) * (k - (8 : Int32))) &&& 0x3f).toInt64).toUInt64 >>> ((56 : Int32) &&& 0x3f).toInt64.toUInt64).toInt64).toInt32).toInt8.toInt32))])) (fun _ k_ => XS.i2b X0.here hx rfl (hb hby d3_45) rfl k_) ?_
    exact Go.retN X0 hx (t := .byte) hret (by simp) hlk (hb hby d3_46) (by decide) (by decide) (by rw [e0]; exact ⟨by rw [own_bo, if_neg hc4, if_neg hc4]; simp [nar], N0, rfl⟩)
theorem ef_rm_ok (m : MethodId) (x0 : Addr) (x1 : Int32) (x2 : Int32) (x3 : Int32) (x4 : Int64) (x5 : Int64) (x6 : Int32) : entryFrame m #[(.ref x0), (.int x1), (.int x2), (.int x3), (.long x4), (.long x5), (.int x6)] 9 = mkF m 0 #[.val (.ref x0), .val (.int x1), .val (.int x2), .val (.int x3), .val (.long x4), .second, .val (.long x5), .second, .val (.int x6)] [] := by first | (simp [entryFrame, mkF, argsToLocals, Value.category]; done) | rfl
set_option maxRecDepth 65536 in
set_option maxHeartbeats 40000000 in
theorem rm_ok (l : Launch) (Z : State) (a0 : Array Value) (hw : ∀ d ∈ tables_1, d.before a0 Z = true) (t : Addr) (j at_ sz : Int32) (b0 b1 : Int64) (f : Int32) (xs : List Int32) (h0 : Heap) (n0 : Nat) (Z0 : n0 ≤ h0.size) (A_t : Ai Z h0 t .byte xs) (hj : ¬ j < 0) (hs : ((j < at_ ∨ ¬ j < (at_ + sz)) → xs[j.toNatClampNeg]? = some f) ∧ (¬ j < at_ → j < (at_ + sz) → xs[j.toNatClampNeg]? = some (own_bo b0 b1 (j - at_)))) :
    Con l Z (⟨"io/tightbits/FixedWidthPutFirstBytesPinLaw", "ok", "([BIIIJJB)Z"⟩ : MethodName) method_3_code 9 (some .boolean) [] ({ frames := 1, cells := 0, slots := 0, locals := 30 } : Room) #[(.ref t), (.int j), (.int at_), (.int sz), (.long b0), (.long b1), (.int f)] h0 (fun v h L => v = some (.int 1) ∧ Fr n0 L ∧ h = h0) := by
  refine Con.mk (plainFor_of_name pn1) ?_
  intro p e s m below meth c T0 hx hby hml hown hnm hret hlk hZ X0 e0
  have hown : s.vm.findClass "io/tightbits/FixedWidthPutFirstBytesPinLaw" = some m.cls := hown
  have hnm : meth.name = "ok" := hnm
  have N0 := Fr.nil n0
  refine Go.cast (ef_rm_ok m t j at_ sz b0 b1 f) ?_
  refine Go.st (S' := T0.setTop (mkF m 1 #[.val (.ref t), .val (.int j), .val (.int at_), .val (.int sz), .val (.long b0), .second, .val (.long b1), .second, .val (.int f)] [(.int j)])) (fun _ k_ => XS.iloadN X0.here hx rfl (hb hby d2_0) rfl k_) ?_
  refine Go.st (S' := T0.setTop (mkF m 2 #[.val (.ref t), .val (.int j), .val (.int at_), .val (.int sz), .val (.long b0), .second, .val (.long b1), .second, .val (.int f)] [(.int at_), (.int j)])) (fun _ k_ => XS.iloadN X0.here hx rfl (hb hby d2_1) rfl k_) ?_
  by_cases hc2 : j < at_
  · skip
    refine Go.st (S' := T0.setTop (mkF m 34 #[.val (.ref t), .val (.int j), .val (.int at_), .val (.int sz), .val (.long b0), .second, .val (.long b1), .second, .val (.int f)] [])) (fun _ k_ => XS.icmpYes X0.here hx rfl (pc0 := 2) (pc' := 34) rfl (hb hby d2_2) rfl (tlt hc2).1 (by decide) (by decide) k_) ?_
    refine Go.st (S' := T0.setTop (mkF m 35 #[.val (.ref t), .val (.int j), .val (.int at_), .val (.int sz), .val (.long b0), .second, .val (.long b1), .second, .val (.int f)] [(.ref t)])) (fun _ k_ => XS.aloadN X0.here hx rfl (hb hby d2_34) rfl rfl k_) ?_
    refine Go.st (S' := T0.setTop (mkF m 36 #[.val (.ref t), .val (.int j), .val (.int at_), .val (.int sz), .val (.long b0), .second, .val (.long b1), .second, .val (.int f)] [(.int j), (.ref t)])) (fun _ k_ => XS.iloadN X0.here hx rfl (hb hby d2_35) rfl k_) ?_
    refine Go.st (S' := T0.setTop (mkF m 37 #[.val (.ref t), .val (.int j), .val (.int at_), .val (.int sz), .val (.long b0), .second, .val (.long b1), .second, .val (.int f)] [(.int f)])) (A_t.bload X0 hx hZ e0 (j := j) (v := f) hj (hs.1 (Or.inl hc2)) (g := (mkF m 36 #[.val (.ref t), .val (.int j), .val (.int at_), .val (.int sz), .val (.long b0), .second, .val (.long b1), .second, .val (.int f)] [(.int j), (.ref t)])) rfl rfl (hb hby d2_36)) ?_
    refine Go.st (S' := T0.setTop (mkF m 39 #[.val (.ref t), .val (.int j), .val (.int at_), .val (.int sz), .val (.long b0), .second, .val (.long b1), .second, .val (.int f)] [(.int f), (.int f)])) (fun _ k_ => XS.iload X0.here hx rfl (hb hby d2_37) rfl k_) ?_
    refine Go.st (S' := T0.setTop (mkF m 42 #[.val (.ref t), .val (.int j), .val (.int at_), .val (.int sz), .val (.long b0), .second, .val (.long b1), .second, .val (.int f)] [])) (fun _ k_ => XS.icmpNo X0.here hx rfl (hb hby d2_39) rfl (teq (rfl : f = f)).2 k_) ?_
    refine Go.st (S' := T0.setTop (mkF m 43 #[.val (.ref t), .val (.int j), .val (.int at_), .val (.int sz), .val (.long b0), .second, .val (.long b1), .second, .val (.int f)] [(.int (1 : Int32))])) (fun _ k_ => XS.iconst X0.here hx rfl (hb hby d2_42) k_) ?_
    refine Go.st (S' := T0.setTop (mkF m 47 #[.val (.ref t), .val (.int j), .val (.int at_), .val (.int sz), .val (.long b0), .second, .val (.long b1), .second, .val (.int f)] [(.int (1 : Int32))])) (fun _ k_ => XS.goto X0.here hx rfl (pc0 := 43) (pc' := 47) rfl (hb hby d2_43) (by decide) (by decide) k_) ?_
    exact Go.retN X0 hx (t := .boolean) hret (by simp) hlk (hb hby d2_47) (by decide) (by decide) (by rw [e0]; exact ⟨rfl, N0, rfl⟩)
  · skip
    refine Go.st (S' := T0.setTop (mkF m 5 #[.val (.ref t), .val (.int j), .val (.int at_), .val (.int sz), .val (.long b0), .second, .val (.long b1), .second, .val (.int f)] [])) (fun _ k_ => XS.icmpNo X0.here hx rfl (hb hby d2_2) rfl (flt hc2).1 k_) ?_
    refine Go.st (S' := T0.setTop (mkF m 6 #[.val (.ref t), .val (.int j), .val (.int at_), .val (.int sz), .val (.long b0), .second, .val (.long b1), .second, .val (.int f)] [(.int j)])) (fun _ k_ => XS.iloadN X0.here hx rfl (hb hby d2_5) rfl k_) ?_
    refine Go.st (S' := T0.setTop (mkF m 7 #[.val (.ref t), .val (.int j), .val (.int at_), .val (.int sz), .val (.long b0), .second, .val (.long b1), .second, .val (.int f)] [(.int at_), (.int j)])) (fun _ k_ => XS.iloadN X0.here hx rfl (hb hby d2_6) rfl k_) ?_
    refine Go.st (S' := T0.setTop (mkF m 8 #[.val (.ref t), .val (.int j), .val (.int at_), .val (.int sz), .val (.long b0), .second, .val (.long b1), .second, .val (.int f)] [(.int sz), (.int at_), (.int j)])) (fun _ k_ => XS.iloadN X0.here hx rfl (hb hby d2_7) rfl k_) ?_
    refine Go.st (S' := T0.setTop (mkF m 9 #[.val (.ref t), .val (.int j), .val (.int at_), .val (.int sz), .val (.long b0), .second, .val (.long b1), .second, .val (.int f)] [(.int (at_ + sz)), (.int j)])) (fun _ k_ => XS.iadd X0.here hx rfl (hb hby d2_8) rfl k_) ?_
    by_cases hc9 : j < (at_ + sz)
    · skip
      refine Go.st (S' := T0.setTop (mkF m 12 #[.val (.ref t), .val (.int j), .val (.int at_), .val (.int sz), .val (.long b0), .second, .val (.long b1), .second, .val (.int f)] [])) (fun _ k_ => XS.icmpNo X0.here hx rfl (hb hby d2_9) rfl (tlt hc9).2.1 k_) ?_
      refine Go.st (S' := T0.setTop (mkF m 13 #[.val (.ref t), .val (.int j), .val (.int at_), .val (.int sz), .val (.long b0), .second, .val (.long b1), .second, .val (.int f)] [(.ref t)])) (fun _ k_ => XS.aloadN X0.here hx rfl (hb hby d2_12) rfl rfl k_) ?_
      refine Go.st (S' := T0.setTop (mkF m 14 #[.val (.ref t), .val (.int j), .val (.int at_), .val (.int sz), .val (.long b0), .second, .val (.long b1), .second, .val (.int f)] [(.int j), (.ref t)])) (fun _ k_ => XS.iloadN X0.here hx rfl (hb hby d2_13) rfl k_) ?_
      refine Go.st (S' := T0.setTop (mkF m 15 #[.val (.ref t), .val (.int j), .val (.int at_), .val (.int sz), .val (.long b0), .second, .val (.long b1), .second, .val (.int f)] [(.int (own_bo b0 b1 (j - at_)))])) (A_t.bload X0 hx hZ e0 (j := j) (v := (own_bo b0 b1 (j - at_))) hj (hs.2 hc2 hc9) (g := (mkF m 14 #[.val (.ref t), .val (.int j), .val (.int at_), .val (.int sz), .val (.long b0), .second, .val (.long b1), .second, .val (.int f)] [(.int j), (.ref t)])) rfl rfl (hb hby d2_14)) ?_
      refine Go.st (S' := T0.setTop (mkF m 17 #[.val (.ref t), .val (.int j), .val (.int at_), .val (.int sz), .val (.long b0), .second, .val (.long b1), .second, .val (.int f)] [(.long b0), (.int (own_bo b0 b1 (j - at_)))])) (fun _ k_ => XS.lload X0.here hx rfl (hb hby d2_15) rfl k_) ?_
      refine Go.st (S' := T0.setTop (mkF m 19 #[.val (.ref t), .val (.int j), .val (.int at_), .val (.int sz), .val (.long b0), .second, .val (.long b1), .second, .val (.int f)] [(.long b1), (.long b0), (.int (own_bo b0 b1 (j - at_)))])) (fun _ k_ => XS.lload X0.here hx rfl (hb hby d2_17) rfl k_) ?_
      refine Go.st (S' := T0.setTop (mkF m 20 #[.val (.ref t), .val (.int j), .val (.int at_), .val (.int sz), .val (.long b0), .second, .val (.long b1), .second, .val (.int f)] [(.int j), (.long b1), (.long b0), (.int (own_bo b0 b1 (j - at_)))])) (fun _ k_ => XS.iloadN X0.here hx rfl (hb hby d2_19) rfl k_) ?_
      refine Go.st (S' := T0.setTop (mkF m 21 #[.val (.ref t), .val (.int j), .val (.int at_), .val (.int sz), .val (.long b0), .second, .val (.long b1), .second, .val (.int f)] [(.int at_), (.int j), (.long b1), (.long b0), (.int (own_bo b0 b1 (j - at_)))])) (fun _ k_ => XS.iloadN X0.here hx rfl (hb hby d2_20) rfl k_) ?_
      refine Go.st (S' := T0.setTop (mkF m 22 #[.val (.ref t), .val (.int j), .val (.int at_), .val (.int sz), .val (.long b0), .second, .val (.long b1), .second, .val (.int f)] [(.int (j - at_)), (.long b1), (.long b0), (.int (own_bo b0 b1 (j - at_)))])) (fun _ k_ => XS.isub X0.here hx rfl (hb hby d2_21) rfl k_) ?_
      obtain ⟨v11, T11, h11, L11, X11, e11, hQ11, st11⟩ := callSt X0 hx hZ hown (w11 hw) (w12 hw) (w9 hw) (w13 hw) (by decide) (W := 1) (argsL := [(.long b0), (.long b1), (.int (j - at_))]) (rest := [(.int (own_bo b0 b1 (j - at_)))]) e0 (rm_bo l Z a0 hw b0 b1 (j - at_) h0 n0 Z0) (by decide) (by decide) pd0 rfl (g := (mkF m 22 #[.val (.ref t), .val (.int j), .val (.int at_), .val (.int sz), .val (.long b0), .second, .val (.long b1), .second, .val (.int f)] [(.int (j - at_)), (.long b1), (.long b0), (.int (own_bo b0 b1 (j - at_)))])) rfl (by rw [hml]; rfl) rfl (by show 2 * 0 + _ ≤ _; exact Nat.le_of_eq rfl) (hb hby d2_22) (by decide) (by decide)
      obtain ⟨rfl, Nq11, hh11⟩ := hQ11
      rw [hh11] at e11
      have N11 := Fr.app N0 Nq11
      refine Go.st (S' := T11.setTop (mkF m 25 #[.val (.ref t), .val (.int j), .val (.int at_), .val (.int sz), .val (.long b0), .second, .val (.long b1), .second, .val (.int f)] [(.int (own_bo b0 b1 (j - at_))), (.int (own_bo b0 b1 (j - at_)))])) (st11) ?_
      refine Go.st (S' := T11.setTop (mkF m 28 #[.val (.ref t), .val (.int j), .val (.int at_), .val (.int sz), .val (.long b0), .second, .val (.long b1), .second, .val (.int f)] [])) (fun _ k_ => XS.icmpNo X11.here hx rfl (hb hby d2_25) rfl (teq (rfl : (own_bo b0 b1 (j - at_)) = (own_bo b0 b1 (j - at_)))).2 k_) ?_
      refine Go.st (S' := T11.setTop (mkF m 29 #[.val (.ref t), .val (.int j), .val (.int at_), .val (.int sz), .val (.long b0), .second, .val (.long b1), .second, .val (.int f)] [(.int (1 : Int32))])) (fun _ k_ => XS.iconst X11.here hx rfl (hb hby d2_28) k_) ?_
      refine Go.st (S' := T11.setTop (mkF m 33 #[.val (.ref t), .val (.int j), .val (.int at_), .val (.int sz), .val (.long b0), .second, .val (.long b1), .second, .val (.int f)] [(.int (1 : Int32))])) (fun _ k_ => XS.goto X11.here hx rfl (pc0 := 29) (pc' := 33) rfl (hb hby d2_29) (by decide) (by decide) k_) ?_
      exact Go.retN X11 hx (t := .boolean) hret (by simp) hlk (hb hby d2_33) (by decide) (by decide) (by rw [e11]; exact ⟨rfl, N11, rfl⟩)
    · skip
      refine Go.st (S' := T0.setTop (mkF m 34 #[.val (.ref t), .val (.int j), .val (.int at_), .val (.int sz), .val (.long b0), .second, .val (.long b1), .second, .val (.int f)] [])) (fun _ k_ => XS.icmpYes X0.here hx rfl (pc0 := 9) (pc' := 34) rfl (hb hby d2_9) rfl (flt hc9).2.1 (by decide) (by decide) k_) ?_
      refine Go.st (S' := T0.setTop (mkF m 35 #[.val (.ref t), .val (.int j), .val (.int at_), .val (.int sz), .val (.long b0), .second, .val (.long b1), .second, .val (.int f)] [(.ref t)])) (fun _ k_ => XS.aloadN X0.here hx rfl (hb hby d2_34) rfl rfl k_) ?_
      refine Go.st (S' := T0.setTop (mkF m 36 #[.val (.ref t), .val (.int j), .val (.int at_), .val (.int sz), .val (.long b0), .second, .val (.long b1), .second, .val (.int f)] [(.int j), (.ref t)])) (fun _ k_ => XS.iloadN X0.here hx rfl (hb hby d2_35) rfl k_) ?_
      refine Go.st (S' := T0.setTop (mkF m 37 #[.val (.ref t), .val (.int j), .val (.int at_), .val (.int sz), .val (.long b0), .second, .val (.long b1), .second, .val (.int f)] [(.int f)])) (A_t.bload X0 hx hZ e0 (j := j) (v := f) hj (hs.1 (Or.inr hc9)) (g := (mkF m 36 #[.val (.ref t), .val (.int j), .val (.int at_), .val (.int sz), .val (.long b0), .second, .val (.long b1), .second, .val (.int f)] [(.int j), (.ref t)])) rfl rfl (hb hby d2_36)) ?_
      refine Go.st (S' := T0.setTop (mkF m 39 #[.val (.ref t), .val (.int j), .val (.int at_), .val (.int sz), .val (.long b0), .second, .val (.long b1), .second, .val (.int f)] [(.int f), (.int f)])) (fun _ k_ => XS.iload X0.here hx rfl (hb hby d2_37) rfl k_) ?_
      refine Go.st (S' := T0.setTop (mkF m 42 #[.val (.ref t), .val (.int j), .val (.int at_), .val (.int sz), .val (.long b0), .second, .val (.long b1), .second, .val (.int f)] [])) (fun _ k_ => XS.icmpNo X0.here hx rfl (hb hby d2_39) rfl (teq (rfl : f = f)).2 k_) ?_
      refine Go.st (S' := T0.setTop (mkF m 43 #[.val (.ref t), .val (.int j), .val (.int at_), .val (.int sz), .val (.long b0), .second, .val (.long b1), .second, .val (.int f)] [(.int (1 : Int32))])) (fun _ k_ => XS.iconst X0.here hx rfl (hb hby d2_42) k_) ?_
      refine Go.st (S' := T0.setTop (mkF m 47 #[.val (.ref t), .val (.int j), .val (.int at_), .val (.int sz), .val (.long b0), .second, .val (.long b1), .second, .val (.int f)] [(.int (1 : Int32))])) (fun _ k_ => XS.goto X0.here hx rfl (pc0 := 43) (pc' := 47) rfl (hb hby d2_43) (by decide) (by decide) k_) ?_
      exact Go.retN X0 hx (t := .boolean) hret (by simp) hlk (hb hby d2_47) (by decide) (by decide) (by rw [e0]; exact ⟨rfl, N0, rfl⟩)
theorem ef_rm0 (m : MethodId) (x0 : Int64) (x1 : Int64) (x2 : Int32) (x3 : Int32) (x4 : Int32) : entryFrame m #[(.long x0), (.long x1), (.int x2), (.int x3), (.int x4)] maxLocals = mkF m 0 #[.val (.long x0), .second, .val (.long x1), .second, .val (.int x2), .val (.int x3), .val (.int x4), .unset, .unset, .unset, .unset, .unset, .unset, .unset] [] := by first | (simp [entryFrame, mkF, argsToLocals, Value.category, maxLocals]; done) | rfl
set_option maxRecDepth 65536 in
set_option maxHeartbeats 40000000 in
theorem rm0 (l : Launch) (Z : State) (a0 : Array Value) (hw : ∀ d ∈ tables_1, d.before a0 Z = true) (ws : List Jvm.Cond) (q0 : Int64) (q1 : Int64) (p2 : Int32) (p3 : Int32) (p4 : Int32) (h0 : Heap) (n0 : Nat) (Z0 : n0 ≤ h0.size) :
    Con l Z x code maxLocals ret ws room_1 #[(.long q0), (.long q1), (.int p2), (.int p3), (.int p4)] h0 (fun v h L => v = some (.int 1) ∧ Fr n0 L) := by
  refine Con.mk (plainFor_of_name pn1) ?_
  intro p e s m below meth c T0 hx hby hml hown hnm hret hlk hZ X0 e0
  have hret : meth.sig.returnType = some .boolean := hret
  have hml : c.maxLocals = 14 := hml
  have hown : s.vm.findClass "io/tightbits/FixedWidthPutFirstBytesPinLaw" = some m.cls := hown
  have hby : c.code = code := hby
  have N0 := Fr.nil n0
  refine Go.cast (ef_rm0 m q0 q1 p2 p3 p4) ?_
  refine Go.st (S' := T0.setTop (mkF m 2 #[.val (.long q0), .second, .val (.long q1), .second, .val (.int p2), .val (.int p3), .val (.int p4), .unset, .unset, .unset, .unset, .unset, .unset, .unset] [(.int p2)])) (fun _ k_ => XS.iload X0.here hx rfl (hb hby at_0) rfl k_) ?_
  refine Go.st (S' := T0.setTop (mkF m 4 #[.val (.long q0), .second, .val (.long q1), .second, .val (.int p2), .val (.int p3), .val (.int p4), .unset, .unset, .unset, .unset, .unset, .unset, .unset] [(.int (2147483647 : Int32)), (.int p2)])) (X0.ldcInt hx hown (mvT hZ (w0 hw)) (g := (mkF m 2 #[.val (.long q0), .second, .val (.long q1), .second, .val (.int p2), .val (.int p3), .val (.int p4), .unset, .unset, .unset, .unset, .unset, .unset, .unset] [(.int p2)])) rfl (hb hby at_2)) ?_
  refine Go.st (S' := T0.setTop (mkF m 5 #[.val (.long q0), .second, .val (.long q1), .second, .val (.int p2), .val (.int p3), .val (.int p4), .unset, .unset, .unset, .unset, .unset, .unset, .unset] [(.int (p2 &&& (2147483647 : Int32)))])) (fun _ k_ => XS.iand X0.here hx rfl (hb hby at_4) rfl k_) ?_
  refine Go.st (S' := T0.setTop (mkF m 7 #[.val (.long q0), .second, .val (.long q1), .second, .val (.int p2), .val (.int p3), .val (.int p4), .unset, .unset, .unset, .unset, .unset, .unset, .unset] [(.int (17 : Int32)), (.int (p2 &&& (2147483647 : Int32)))])) (fun _ k_ => XS.bipush X0.here hx rfl (hb hby at_5) k_) ?_
  refine Go.st (S' := T0.setTop (mkF m 8 #[.val (.long q0), .second, .val (.long q1), .second, .val (.int p2), .val (.int p3), .val (.int p4), .unset, .unset, .unset, .unset, .unset, .unset, .unset] [(.int ((p2 &&& (2147483647 : Int32)) % (17 : Int32)))])) (fun _ k_ => iremM X0 hx rfl (hb hby at_7) rfl (by decide) k_) ?_
  have r2 := own_mod p2 17 (by decide)
  rw [show (17 : Int32).toInt = 17 from rfl] at r2
  obtain ⟨i, q_i, r2n⟩ := own_natI r2.1
  rw [q_i]
  refine Go.st (S' := T0.setTop (mkF m 10 #[.val (.long q0), .second, .val (.long q1), .second, .val (.int p2), .val (.int p3), .val (.int p4), .val (.int i.toInt32), .unset, .unset, .unset, .unset, .unset, .unset] [])) (fun _ k_ => XS.istore X0.here hx rfl (hb hby at_8) rfl (l' := #[.val (.long q0), .second, .val (.long q1), .second, .val (.int p2), .val (.int p3), .val (.int p4), .val (.int i.toInt32), .unset, .unset, .unset, .unset, .unset, .unset]) rfl k_) ?_
  refine Go.st (S' := T0.setTop (mkF m 12 #[.val (.long q0), .second, .val (.long q1), .second, .val (.int p2), .val (.int p3), .val (.int p4), .val (.int i.toInt32), .unset, .unset, .unset, .unset, .unset, .unset] [(.int p3)])) (fun _ k_ => XS.iload X0.here hx rfl (hb hby at_10) rfl k_) ?_
  refine Go.st (S' := T0.setTop (mkF m 13 #[.val (.long q0), .second, .val (.long q1), .second, .val (.int p2), .val (.int p3), .val (.int p4), .val (.int i.toInt32), .unset, .unset, .unset, .unset, .unset, .unset] [(.int (3 : Int32)), (.int p3)])) (fun _ k_ => XS.iconst X0.here hx rfl (hb hby at_12) k_) ?_
  refine Go.st (S' := T0.setTop (mkF m 14 #[.val (.long q0), .second, .val (.long q1), .second, .val (.int p2), .val (.int p3), .val (.int p4), .val (.int i.toInt32), .unset, .unset, .unset, .unset, .unset, .unset] [(.int (p3 &&& (3 : Int32)))])) (fun _ k_ => XS.iand X0.here hx rfl (hb hby at_13) rfl k_) ?_
  have r1 := c_and p3 3 (by decide)
  rw [show (3 : Int32).toInt = 3 from rfl] at r1
  obtain ⟨n, q_n, r1n⟩ := own_natI r1.1
  rw [q_n]
  refine Go.st (S' := T0.setTop (mkF m 16 #[.val (.long q0), .second, .val (.long q1), .second, .val (.int p2), .val (.int p3), .val (.int p4), .val (.int i.toInt32), .val (.int n.toInt32), .unset, .unset, .unset, .unset, .unset] [])) (fun _ k_ => XS.istore X0.here hx rfl (hb hby at_14) rfl (l' := #[.val (.long q0), .second, .val (.long q1), .second, .val (.int p2), .val (.int p3), .val (.int p4), .val (.int i.toInt32), .val (.int n.toInt32), .unset, .unset, .unset, .unset, .unset]) rfl k_) ?_
  refine Go.st (S' := T0.setTop (mkF m 18 #[.val (.long q0), .second, .val (.long q1), .second, .val (.int p2), .val (.int p3), .val (.int p4), .val (.int i.toInt32), .val (.int n.toInt32), .unset, .unset, .unset, .unset, .unset] [(.int p4)])) (fun _ k_ => XS.iload X0.here hx rfl (hb hby at_16) rfl k_) ?_
  refine Go.st (S' := T0.setTop (mkF m 19 #[.val (.long q0), .second, .val (.long q1), .second, .val (.int p2), .val (.int p3), .val (.int p4), .val (.int i.toInt32), .val (.int n.toInt32), .unset, .unset, .unset, .unset, .unset] [(.int (p4.toInt8.toInt32))])) (fun _ k_ => XS.i2b X0.here hx rfl (hb hby at_18) rfl k_) ?_
  obtain ⟨f, q_f⟩ : ∃ z : Int32, z = (p4.toInt8.toInt32) := ⟨_, rfl⟩
  rw [← q_f]
  have hfb : f.toInt8.toInt32 = f := by rw [q_f, own_bb]
  refine Go.st (S' := T0.setTop (mkF m 21 #[.val (.long q0), .second, .val (.long q1), .second, .val (.int p2), .val (.int p3), .val (.int p4), .val (.int i.toInt32), .val (.int n.toInt32), .val (.int f), .unset, .unset, .unset, .unset] [])) (fun _ k_ => XS.istore X0.here hx rfl (hb hby at_19) rfl (l' := #[.val (.long q0), .second, .val (.long q1), .second, .val (.int p2), .val (.int p3), .val (.int p4), .val (.int i.toInt32), .val (.int n.toInt32), .val (.int f), .unset, .unset, .unset, .unset]) rfl k_) ?_
  refine Go.st (S' := T0.setTop (mkF m 23 #[.val (.long q0), .second, .val (.long q1), .second, .val (.int p2), .val (.int p3), .val (.int p4), .val (.int i.toInt32), .val (.int n.toInt32), .val (.int f), .unset, .unset, .unset, .unset] [(.int (20 : Int32))])) (fun _ k_ => XS.bipush X0.here hx rfl (hb hby at_21) k_) ?_
  obtain ⟨T11, h11, b11, X11, e11, q11, E11, A11, st11⟩ := Ai.new X0 hx hZ (aty := .byte) (w1 hw) rfl e0 (n := (20 : Int32)) (by decide) 20 (by decide) (by decide) (by decide) (by decide) (g := (mkF m 23 #[.val (.long q0), .second, .val (.long q1), .second, .val (.int p2), .val (.int p3), .val (.int p4), .val (.int i.toInt32), .val (.int n.toInt32), .val (.int f), .unset, .unset, .unset, .unset] [(.int (20 : Int32))])) rfl rfl (hb hby at_23)
  have g_b11 : n0 ≤ b11 := Nat.le_trans Z0 (Nat.le_of_eq q11.symm)
  replace Z0 := Nat.le_trans Z0 E11.1
  have A_b11 : Ai Z h11 b11 .byte [(0 : Int32), (0 : Int32), (0 : Int32), (0 : Int32), (0 : Int32), (0 : Int32), (0 : Int32), (0 : Int32), (0 : Int32), (0 : Int32), (0 : Int32), (0 : Int32), (0 : Int32), (0 : Int32), (0 : Int32), (0 : Int32), (0 : Int32), (0 : Int32), (0 : Int32), (0 : Int32)] := A11
  refine Go.st (S' := T11.setTop (mkF m 25 #[.val (.long q0), .second, .val (.long q1), .second, .val (.int p2), .val (.int p3), .val (.int p4), .val (.int i.toInt32), .val (.int n.toInt32), .val (.int f), .unset, .unset, .unset, .unset] [(.ref b11)])) (st11) ?_
  refine Go.st (S' := T11.setTop (mkF m 26 #[.val (.long q0), .second, .val (.long q1), .second, .val (.int p2), .val (.int p3), .val (.int p4), .val (.int i.toInt32), .val (.int n.toInt32), .val (.int f), .unset, .unset, .unset, .unset] [(.ref b11), (.ref b11)])) (fun _ k_ => XS.dup X11.here hx rfl (hb hby at_25) rfl rfl k_) ?_
  refine Go.st (S' := T11.setTop (mkF m 27 #[.val (.long q0), .second, .val (.long q1), .second, .val (.int p2), .val (.int p3), .val (.int p4), .val (.int i.toInt32), .val (.int n.toInt32), .val (.int f), .unset, .unset, .unset, .unset] [(.int (0 : Int32)), (.ref b11), (.ref b11)])) (fun _ k_ => XS.iconst X11.here hx rfl (hb hby at_26) k_) ?_
  refine Go.st (S' := T11.setTop (mkF m 29 #[.val (.long q0), .second, .val (.long q1), .second, .val (.int p2), .val (.int p3), .val (.int p4), .val (.int i.toInt32), .val (.int n.toInt32), .val (.int f), .unset, .unset, .unset, .unset] [(.int f), (.int (0 : Int32)), (.ref b11), (.ref b11)])) (fun _ k_ => XS.iload X11.here hx rfl (hb hby at_27) rfl k_) ?_
  obtain ⟨T12, h12, X12, e12, W12, A12, st12⟩ := A_b11.bstore X11 hx hZ e11 (j := (0 : Int32)) (by decide) (Nat.le_of_ble_eq_true rfl) (g := (mkF m 29 #[.val (.long q0), .second, .val (.long q1), .second, .val (.int p2), .val (.int p3), .val (.int p4), .val (.int i.toInt32), .val (.int n.toInt32), .val (.int f), .unset, .unset, .unset, .unset] [(.int f), (.int (0 : Int32)), (.ref b11), (.ref b11)])) rfl rfl (hb hby at_29)
  replace A_b11 : Ai Z h12 b11 .byte [f, (0 : Int32), (0 : Int32), (0 : Int32), (0 : Int32), (0 : Int32), (0 : Int32), (0 : Int32), (0 : Int32), (0 : Int32), (0 : Int32), (0 : Int32), (0 : Int32), (0 : Int32), (0 : Int32), (0 : Int32), (0 : Int32), (0 : Int32), (0 : Int32), (0 : Int32)] := (by have q := A12; rw [hfb] at q; exact q)
  replace Z0 := Nat.le_trans Z0 (Keep.of_wr W12).1
  have N12 := Fr.snoc X12 N0 g_b11
  refine Go.st (S' := T12.setTop (mkF m 30 #[.val (.long q0), .second, .val (.long q1), .second, .val (.int p2), .val (.int p3), .val (.int p4), .val (.int i.toInt32), .val (.int n.toInt32), .val (.int f), .unset, .unset, .unset, .unset] [(.ref b11)])) (st12) ?_
  refine Go.st (S' := T12.setTop (mkF m 31 #[.val (.long q0), .second, .val (.long q1), .second, .val (.int p2), .val (.int p3), .val (.int p4), .val (.int i.toInt32), .val (.int n.toInt32), .val (.int f), .unset, .unset, .unset, .unset] [(.ref b11), (.ref b11)])) (fun _ k_ => XS.dup X12.here hx rfl (hb hby at_30) rfl rfl k_) ?_
  refine Go.st (S' := T12.setTop (mkF m 32 #[.val (.long q0), .second, .val (.long q1), .second, .val (.int p2), .val (.int p3), .val (.int p4), .val (.int i.toInt32), .val (.int n.toInt32), .val (.int f), .unset, .unset, .unset, .unset] [(.int (1 : Int32)), (.ref b11), (.ref b11)])) (fun _ k_ => XS.iconst X12.here hx rfl (hb hby at_31) k_) ?_
  refine Go.st (S' := T12.setTop (mkF m 34 #[.val (.long q0), .second, .val (.long q1), .second, .val (.int p2), .val (.int p3), .val (.int p4), .val (.int i.toInt32), .val (.int n.toInt32), .val (.int f), .unset, .unset, .unset, .unset] [(.int f), (.int (1 : Int32)), (.ref b11), (.ref b11)])) (fun _ k_ => XS.iload X12.here hx rfl (hb hby at_32) rfl k_) ?_
  obtain ⟨T13, h13, X13, e13, W13, A13, st13⟩ := A_b11.bstore X12 hx hZ e12 (j := (1 : Int32)) (by decide) (Nat.le_of_ble_eq_true rfl) (g := (mkF m 34 #[.val (.long q0), .second, .val (.long q1), .second, .val (.int p2), .val (.int p3), .val (.int p4), .val (.int i.toInt32), .val (.int n.toInt32), .val (.int f), .unset, .unset, .unset, .unset] [(.int f), (.int (1 : Int32)), (.ref b11), (.ref b11)])) rfl rfl (hb hby at_34)
  replace A_b11 : Ai Z h13 b11 .byte [f, f, (0 : Int32), (0 : Int32), (0 : Int32), (0 : Int32), (0 : Int32), (0 : Int32), (0 : Int32), (0 : Int32), (0 : Int32), (0 : Int32), (0 : Int32), (0 : Int32), (0 : Int32), (0 : Int32), (0 : Int32), (0 : Int32), (0 : Int32), (0 : Int32)] := (by have q := A13; rw [hfb] at q; exact q)
  replace Z0 := Nat.le_trans Z0 (Keep.of_wr W13).1
  have N13 := Fr.snoc X13 N12 g_b11
  refine Go.st (S' := T13.setTop (mkF m 35 #[.val (.long q0), .second, .val (.long q1), .second, .val (.int p2), .val (.int p3), .val (.int p4), .val (.int i.toInt32), .val (.int n.toInt32), .val (.int f), .unset, .unset, .unset, .unset] [(.ref b11)])) (st13) ?_
  refine Go.st (S' := T13.setTop (mkF m 36 #[.val (.long q0), .second, .val (.long q1), .second, .val (.int p2), .val (.int p3), .val (.int p4), .val (.int i.toInt32), .val (.int n.toInt32), .val (.int f), .unset, .unset, .unset, .unset] [(.ref b11), (.ref b11)])) (fun _ k_ => XS.dup X13.here hx rfl (hb hby at_35) rfl rfl k_) ?_
  refine Go.st (S' := T13.setTop (mkF m 37 #[.val (.long q0), .second, .val (.long q1), .second, .val (.int p2), .val (.int p3), .val (.int p4), .val (.int i.toInt32), .val (.int n.toInt32), .val (.int f), .unset, .unset, .unset, .unset] [(.int (2 : Int32)), (.ref b11), (.ref b11)])) (fun _ k_ => XS.iconst X13.here hx rfl (hb hby at_36) k_) ?_
  refine Go.st (S' := T13.setTop (mkF m 39 #[.val (.long q0), .second, .val (.long q1), .second, .val (.int p2), .val (.int p3), .val (.int p4), .val (.int i.toInt32), .val (.int n.toInt32), .val (.int f), .unset, .unset, .unset, .unset] [(.int f), (.int (2 : Int32)), (.ref b11), (.ref b11)])) (fun _ k_ => XS.iload X13.here hx rfl (hb hby at_37) rfl k_) ?_
  obtain ⟨T14, h14, X14, e14, W14, A14, st14⟩ := A_b11.bstore X13 hx hZ e13 (j := (2 : Int32)) (by decide) (Nat.le_of_ble_eq_true rfl) (g := (mkF m 39 #[.val (.long q0), .second, .val (.long q1), .second, .val (.int p2), .val (.int p3), .val (.int p4), .val (.int i.toInt32), .val (.int n.toInt32), .val (.int f), .unset, .unset, .unset, .unset] [(.int f), (.int (2 : Int32)), (.ref b11), (.ref b11)])) rfl rfl (hb hby at_39)
  replace A_b11 : Ai Z h14 b11 .byte [f, f, f, (0 : Int32), (0 : Int32), (0 : Int32), (0 : Int32), (0 : Int32), (0 : Int32), (0 : Int32), (0 : Int32), (0 : Int32), (0 : Int32), (0 : Int32), (0 : Int32), (0 : Int32), (0 : Int32), (0 : Int32), (0 : Int32), (0 : Int32)] := (by have q := A14; rw [hfb] at q; exact q)
  replace Z0 := Nat.le_trans Z0 (Keep.of_wr W14).1
  have N14 := Fr.snoc X14 N13 g_b11
  refine Go.st (S' := T14.setTop (mkF m 40 #[.val (.long q0), .second, .val (.long q1), .second, .val (.int p2), .val (.int p3), .val (.int p4), .val (.int i.toInt32), .val (.int n.toInt32), .val (.int f), .unset, .unset, .unset, .unset] [(.ref b11)])) (st14) ?_
  refine Go.st (S' := T14.setTop (mkF m 41 #[.val (.long q0), .second, .val (.long q1), .second, .val (.int p2), .val (.int p3), .val (.int p4), .val (.int i.toInt32), .val (.int n.toInt32), .val (.int f), .unset, .unset, .unset, .unset] [(.ref b11), (.ref b11)])) (fun _ k_ => XS.dup X14.here hx rfl (hb hby at_40) rfl rfl k_) ?_
  refine Go.st (S' := T14.setTop (mkF m 42 #[.val (.long q0), .second, .val (.long q1), .second, .val (.int p2), .val (.int p3), .val (.int p4), .val (.int i.toInt32), .val (.int n.toInt32), .val (.int f), .unset, .unset, .unset, .unset] [(.int (3 : Int32)), (.ref b11), (.ref b11)])) (fun _ k_ => XS.iconst X14.here hx rfl (hb hby at_41) k_) ?_
  refine Go.st (S' := T14.setTop (mkF m 44 #[.val (.long q0), .second, .val (.long q1), .second, .val (.int p2), .val (.int p3), .val (.int p4), .val (.int i.toInt32), .val (.int n.toInt32), .val (.int f), .unset, .unset, .unset, .unset] [(.int f), (.int (3 : Int32)), (.ref b11), (.ref b11)])) (fun _ k_ => XS.iload X14.here hx rfl (hb hby at_42) rfl k_) ?_
  obtain ⟨T15, h15, X15, e15, W15, A15, st15⟩ := A_b11.bstore X14 hx hZ e14 (j := (3 : Int32)) (by decide) (Nat.le_of_ble_eq_true rfl) (g := (mkF m 44 #[.val (.long q0), .second, .val (.long q1), .second, .val (.int p2), .val (.int p3), .val (.int p4), .val (.int i.toInt32), .val (.int n.toInt32), .val (.int f), .unset, .unset, .unset, .unset] [(.int f), (.int (3 : Int32)), (.ref b11), (.ref b11)])) rfl rfl (hb hby at_44)
  replace A_b11 : Ai Z h15 b11 .byte [f, f, f, f, (0 : Int32), (0 : Int32), (0 : Int32), (0 : Int32), (0 : Int32), (0 : Int32), (0 : Int32), (0 : Int32), (0 : Int32), (0 : Int32), (0 : Int32), (0 : Int32), (0 : Int32), (0 : Int32), (0 : Int32), (0 : Int32)] := (by have q := A15; rw [hfb] at q; exact q)
  replace Z0 := Nat.le_trans Z0 (Keep.of_wr W15).1
  have N15 := Fr.snoc X15 N14 g_b11
  refine Go.st (S' := T15.setTop (mkF m 45 #[.val (.long q0), .second, .val (.long q1), .second, .val (.int p2), .val (.int p3), .val (.int p4), .val (.int i.toInt32), .val (.int n.toInt32), .val (.int f), .unset, .unset, .unset, .unset] [(.ref b11)])) (st15) ?_
  refine Go.st (S' := T15.setTop (mkF m 46 #[.val (.long q0), .second, .val (.long q1), .second, .val (.int p2), .val (.int p3), .val (.int p4), .val (.int i.toInt32), .val (.int n.toInt32), .val (.int f), .unset, .unset, .unset, .unset] [(.ref b11), (.ref b11)])) (fun _ k_ => XS.dup X15.here hx rfl (hb hby at_45) rfl rfl k_) ?_
  refine Go.st (S' := T15.setTop (mkF m 47 #[.val (.long q0), .second, .val (.long q1), .second, .val (.int p2), .val (.int p3), .val (.int p4), .val (.int i.toInt32), .val (.int n.toInt32), .val (.int f), .unset, .unset, .unset, .unset] [(.int (4 : Int32)), (.ref b11), (.ref b11)])) (fun _ k_ => XS.iconst X15.here hx rfl (hb hby at_46) k_) ?_
  refine Go.st (S' := T15.setTop (mkF m 49 #[.val (.long q0), .second, .val (.long q1), .second, .val (.int p2), .val (.int p3), .val (.int p4), .val (.int i.toInt32), .val (.int n.toInt32), .val (.int f), .unset, .unset, .unset, .unset] [(.int f), (.int (4 : Int32)), (.ref b11), (.ref b11)])) (fun _ k_ => XS.iload X15.here hx rfl (hb hby at_47) rfl k_) ?_
  obtain ⟨T16, h16, X16, e16, W16, A16, st16⟩ := A_b11.bstore X15 hx hZ e15 (j := (4 : Int32)) (by decide) (Nat.le_of_ble_eq_true rfl) (g := (mkF m 49 #[.val (.long q0), .second, .val (.long q1), .second, .val (.int p2), .val (.int p3), .val (.int p4), .val (.int i.toInt32), .val (.int n.toInt32), .val (.int f), .unset, .unset, .unset, .unset] [(.int f), (.int (4 : Int32)), (.ref b11), (.ref b11)])) rfl rfl (hb hby at_49)
  replace A_b11 : Ai Z h16 b11 .byte [f, f, f, f, f, (0 : Int32), (0 : Int32), (0 : Int32), (0 : Int32), (0 : Int32), (0 : Int32), (0 : Int32), (0 : Int32), (0 : Int32), (0 : Int32), (0 : Int32), (0 : Int32), (0 : Int32), (0 : Int32), (0 : Int32)] := (by have q := A16; rw [hfb] at q; exact q)
  replace Z0 := Nat.le_trans Z0 (Keep.of_wr W16).1
  have N16 := Fr.snoc X16 N15 g_b11
  refine Go.st (S' := T16.setTop (mkF m 50 #[.val (.long q0), .second, .val (.long q1), .second, .val (.int p2), .val (.int p3), .val (.int p4), .val (.int i.toInt32), .val (.int n.toInt32), .val (.int f), .unset, .unset, .unset, .unset] [(.ref b11)])) (st16) ?_
  refine Go.st (S' := T16.setTop (mkF m 51 #[.val (.long q0), .second, .val (.long q1), .second, .val (.int p2), .val (.int p3), .val (.int p4), .val (.int i.toInt32), .val (.int n.toInt32), .val (.int f), .unset, .unset, .unset, .unset] [(.ref b11), (.ref b11)])) (fun _ k_ => XS.dup X16.here hx rfl (hb hby at_50) rfl rfl k_) ?_
  refine Go.st (S' := T16.setTop (mkF m 52 #[.val (.long q0), .second, .val (.long q1), .second, .val (.int p2), .val (.int p3), .val (.int p4), .val (.int i.toInt32), .val (.int n.toInt32), .val (.int f), .unset, .unset, .unset, .unset] [(.int (5 : Int32)), (.ref b11), (.ref b11)])) (fun _ k_ => XS.iconst X16.here hx rfl (hb hby at_51) k_) ?_
  refine Go.st (S' := T16.setTop (mkF m 54 #[.val (.long q0), .second, .val (.long q1), .second, .val (.int p2), .val (.int p3), .val (.int p4), .val (.int i.toInt32), .val (.int n.toInt32), .val (.int f), .unset, .unset, .unset, .unset] [(.int f), (.int (5 : Int32)), (.ref b11), (.ref b11)])) (fun _ k_ => XS.iload X16.here hx rfl (hb hby at_52) rfl k_) ?_
  obtain ⟨T17, h17, X17, e17, W17, A17, st17⟩ := A_b11.bstore X16 hx hZ e16 (j := (5 : Int32)) (by decide) (Nat.le_of_ble_eq_true rfl) (g := (mkF m 54 #[.val (.long q0), .second, .val (.long q1), .second, .val (.int p2), .val (.int p3), .val (.int p4), .val (.int i.toInt32), .val (.int n.toInt32), .val (.int f), .unset, .unset, .unset, .unset] [(.int f), (.int (5 : Int32)), (.ref b11), (.ref b11)])) rfl rfl (hb hby at_54)
  replace A_b11 : Ai Z h17 b11 .byte [f, f, f, f, f, f, (0 : Int32), (0 : Int32), (0 : Int32), (0 : Int32), (0 : Int32), (0 : Int32), (0 : Int32), (0 : Int32), (0 : Int32), (0 : Int32), (0 : Int32), (0 : Int32), (0 : Int32), (0 : Int32)] := (by have q := A17; rw [hfb] at q; exact q)
  replace Z0 := Nat.le_trans Z0 (Keep.of_wr W17).1
  have N17 := Fr.snoc X17 N16 g_b11
  refine Go.st (S' := T17.setTop (mkF m 55 #[.val (.long q0), .second, .val (.long q1), .second, .val (.int p2), .val (.int p3), .val (.int p4), .val (.int i.toInt32), .val (.int n.toInt32), .val (.int f), .unset, .unset, .unset, .unset] [(.ref b11)])) (st17) ?_
  refine Go.st (S' := T17.setTop (mkF m 56 #[.val (.long q0), .second, .val (.long q1), .second, .val (.int p2), .val (.int p3), .val (.int p4), .val (.int i.toInt32), .val (.int n.toInt32), .val (.int f), .unset, .unset, .unset, .unset] [(.ref b11), (.ref b11)])) (fun _ k_ => XS.dup X17.here hx rfl (hb hby at_55) rfl rfl k_) ?_
  refine Go.st (S' := T17.setTop (mkF m 58 #[.val (.long q0), .second, .val (.long q1), .second, .val (.int p2), .val (.int p3), .val (.int p4), .val (.int i.toInt32), .val (.int n.toInt32), .val (.int f), .unset, .unset, .unset, .unset] [(.int (6 : Int32)), (.ref b11), (.ref b11)])) (fun _ k_ => XS.bipush X17.here hx rfl (hb hby at_56) k_) ?_
  refine Go.st (S' := T17.setTop (mkF m 60 #[.val (.long q0), .second, .val (.long q1), .second, .val (.int p2), .val (.int p3), .val (.int p4), .val (.int i.toInt32), .val (.int n.toInt32), .val (.int f), .unset, .unset, .unset, .unset] [(.int f), (.int (6 : Int32)), (.ref b11), (.ref b11)])) (fun _ k_ => XS.iload X17.here hx rfl (hb hby at_58) rfl k_) ?_
  obtain ⟨T18, h18, X18, e18, W18, A18, st18⟩ := A_b11.bstore X17 hx hZ e17 (j := (6 : Int32)) (by decide) (Nat.le_of_ble_eq_true rfl) (g := (mkF m 60 #[.val (.long q0), .second, .val (.long q1), .second, .val (.int p2), .val (.int p3), .val (.int p4), .val (.int i.toInt32), .val (.int n.toInt32), .val (.int f), .unset, .unset, .unset, .unset] [(.int f), (.int (6 : Int32)), (.ref b11), (.ref b11)])) rfl rfl (hb hby at_60)
  replace A_b11 : Ai Z h18 b11 .byte [f, f, f, f, f, f, f, (0 : Int32), (0 : Int32), (0 : Int32), (0 : Int32), (0 : Int32), (0 : Int32), (0 : Int32), (0 : Int32), (0 : Int32), (0 : Int32), (0 : Int32), (0 : Int32), (0 : Int32)] := (by have q := A18; rw [hfb] at q; exact q)
  replace Z0 := Nat.le_trans Z0 (Keep.of_wr W18).1
  have N18 := Fr.snoc X18 N17 g_b11
  refine Go.st (S' := T18.setTop (mkF m 61 #[.val (.long q0), .second, .val (.long q1), .second, .val (.int p2), .val (.int p3), .val (.int p4), .val (.int i.toInt32), .val (.int n.toInt32), .val (.int f), .unset, .unset, .unset, .unset] [(.ref b11)])) (st18) ?_
  refine Go.st (S' := T18.setTop (mkF m 62 #[.val (.long q0), .second, .val (.long q1), .second, .val (.int p2), .val (.int p3), .val (.int p4), .val (.int i.toInt32), .val (.int n.toInt32), .val (.int f), .unset, .unset, .unset, .unset] [(.ref b11), (.ref b11)])) (fun _ k_ => XS.dup X18.here hx rfl (hb hby at_61) rfl rfl k_) ?_
  refine Go.st (S' := T18.setTop (mkF m 64 #[.val (.long q0), .second, .val (.long q1), .second, .val (.int p2), .val (.int p3), .val (.int p4), .val (.int i.toInt32), .val (.int n.toInt32), .val (.int f), .unset, .unset, .unset, .unset] [(.int (7 : Int32)), (.ref b11), (.ref b11)])) (fun _ k_ => XS.bipush X18.here hx rfl (hb hby at_62) k_) ?_
  refine Go.st (S' := T18.setTop (mkF m 66 #[.val (.long q0), .second, .val (.long q1), .second, .val (.int p2), .val (.int p3), .val (.int p4), .val (.int i.toInt32), .val (.int n.toInt32), .val (.int f), .unset, .unset, .unset, .unset] [(.int f), (.int (7 : Int32)), (.ref b11), (.ref b11)])) (fun _ k_ => XS.iload X18.here hx rfl (hb hby at_64) rfl k_) ?_
  obtain ⟨T19, h19, X19, e19, W19, A19, st19⟩ := A_b11.bstore X18 hx hZ e18 (j := (7 : Int32)) (by decide) (Nat.le_of_ble_eq_true rfl) (g := (mkF m 66 #[.val (.long q0), .second, .val (.long q1), .second, .val (.int p2), .val (.int p3), .val (.int p4), .val (.int i.toInt32), .val (.int n.toInt32), .val (.int f), .unset, .unset, .unset, .unset] [(.int f), (.int (7 : Int32)), (.ref b11), (.ref b11)])) rfl rfl (hb hby at_66)
  replace A_b11 : Ai Z h19 b11 .byte [f, f, f, f, f, f, f, f, (0 : Int32), (0 : Int32), (0 : Int32), (0 : Int32), (0 : Int32), (0 : Int32), (0 : Int32), (0 : Int32), (0 : Int32), (0 : Int32), (0 : Int32), (0 : Int32)] := (by have q := A19; rw [hfb] at q; exact q)
  replace Z0 := Nat.le_trans Z0 (Keep.of_wr W19).1
  have N19 := Fr.snoc X19 N18 g_b11
  refine Go.st (S' := T19.setTop (mkF m 67 #[.val (.long q0), .second, .val (.long q1), .second, .val (.int p2), .val (.int p3), .val (.int p4), .val (.int i.toInt32), .val (.int n.toInt32), .val (.int f), .unset, .unset, .unset, .unset] [(.ref b11)])) (st19) ?_
  refine Go.st (S' := T19.setTop (mkF m 68 #[.val (.long q0), .second, .val (.long q1), .second, .val (.int p2), .val (.int p3), .val (.int p4), .val (.int i.toInt32), .val (.int n.toInt32), .val (.int f), .unset, .unset, .unset, .unset] [(.ref b11), (.ref b11)])) (fun _ k_ => XS.dup X19.here hx rfl (hb hby at_67) rfl rfl k_) ?_
  refine Go.st (S' := T19.setTop (mkF m 70 #[.val (.long q0), .second, .val (.long q1), .second, .val (.int p2), .val (.int p3), .val (.int p4), .val (.int i.toInt32), .val (.int n.toInt32), .val (.int f), .unset, .unset, .unset, .unset] [(.int (8 : Int32)), (.ref b11), (.ref b11)])) (fun _ k_ => XS.bipush X19.here hx rfl (hb hby at_68) k_) ?_
  refine Go.st (S' := T19.setTop (mkF m 72 #[.val (.long q0), .second, .val (.long q1), .second, .val (.int p2), .val (.int p3), .val (.int p4), .val (.int i.toInt32), .val (.int n.toInt32), .val (.int f), .unset, .unset, .unset, .unset] [(.int f), (.int (8 : Int32)), (.ref b11), (.ref b11)])) (fun _ k_ => XS.iload X19.here hx rfl (hb hby at_70) rfl k_) ?_
  obtain ⟨T20, h20, X20, e20, W20, A20, st20⟩ := A_b11.bstore X19 hx hZ e19 (j := (8 : Int32)) (by decide) (Nat.le_of_ble_eq_true rfl) (g := (mkF m 72 #[.val (.long q0), .second, .val (.long q1), .second, .val (.int p2), .val (.int p3), .val (.int p4), .val (.int i.toInt32), .val (.int n.toInt32), .val (.int f), .unset, .unset, .unset, .unset] [(.int f), (.int (8 : Int32)), (.ref b11), (.ref b11)])) rfl rfl (hb hby at_72)
  replace A_b11 : Ai Z h20 b11 .byte [f, f, f, f, f, f, f, f, f, (0 : Int32), (0 : Int32), (0 : Int32), (0 : Int32), (0 : Int32), (0 : Int32), (0 : Int32), (0 : Int32), (0 : Int32), (0 : Int32), (0 : Int32)] := (by have q := A20; rw [hfb] at q; exact q)
  replace Z0 := Nat.le_trans Z0 (Keep.of_wr W20).1
  have N20 := Fr.snoc X20 N19 g_b11
  refine Go.st (S' := T20.setTop (mkF m 73 #[.val (.long q0), .second, .val (.long q1), .second, .val (.int p2), .val (.int p3), .val (.int p4), .val (.int i.toInt32), .val (.int n.toInt32), .val (.int f), .unset, .unset, .unset, .unset] [(.ref b11)])) (st20) ?_
  refine Go.st (S' := T20.setTop (mkF m 74 #[.val (.long q0), .second, .val (.long q1), .second, .val (.int p2), .val (.int p3), .val (.int p4), .val (.int i.toInt32), .val (.int n.toInt32), .val (.int f), .unset, .unset, .unset, .unset] [(.ref b11), (.ref b11)])) (fun _ k_ => XS.dup X20.here hx rfl (hb hby at_73) rfl rfl k_) ?_
  refine Go.st (S' := T20.setTop (mkF m 76 #[.val (.long q0), .second, .val (.long q1), .second, .val (.int p2), .val (.int p3), .val (.int p4), .val (.int i.toInt32), .val (.int n.toInt32), .val (.int f), .unset, .unset, .unset, .unset] [(.int (9 : Int32)), (.ref b11), (.ref b11)])) (fun _ k_ => XS.bipush X20.here hx rfl (hb hby at_74) k_) ?_
  refine Go.st (S' := T20.setTop (mkF m 78 #[.val (.long q0), .second, .val (.long q1), .second, .val (.int p2), .val (.int p3), .val (.int p4), .val (.int i.toInt32), .val (.int n.toInt32), .val (.int f), .unset, .unset, .unset, .unset] [(.int f), (.int (9 : Int32)), (.ref b11), (.ref b11)])) (fun _ k_ => XS.iload X20.here hx rfl (hb hby at_76) rfl k_) ?_
  obtain ⟨T21, h21, X21, e21, W21, A21, st21⟩ := A_b11.bstore X20 hx hZ e20 (j := (9 : Int32)) (by decide) (Nat.le_of_ble_eq_true rfl) (g := (mkF m 78 #[.val (.long q0), .second, .val (.long q1), .second, .val (.int p2), .val (.int p3), .val (.int p4), .val (.int i.toInt32), .val (.int n.toInt32), .val (.int f), .unset, .unset, .unset, .unset] [(.int f), (.int (9 : Int32)), (.ref b11), (.ref b11)])) rfl rfl (hb hby at_78)
  replace A_b11 : Ai Z h21 b11 .byte [f, f, f, f, f, f, f, f, f, f, (0 : Int32), (0 : Int32), (0 : Int32), (0 : Int32), (0 : Int32), (0 : Int32), (0 : Int32), (0 : Int32), (0 : Int32), (0 : Int32)] := (by have q := A21; rw [hfb] at q; exact q)
  replace Z0 := Nat.le_trans Z0 (Keep.of_wr W21).1
  have N21 := Fr.snoc X21 N20 g_b11
  refine Go.st (S' := T21.setTop (mkF m 79 #[.val (.long q0), .second, .val (.long q1), .second, .val (.int p2), .val (.int p3), .val (.int p4), .val (.int i.toInt32), .val (.int n.toInt32), .val (.int f), .unset, .unset, .unset, .unset] [(.ref b11)])) (st21) ?_
  refine Go.st (S' := T21.setTop (mkF m 80 #[.val (.long q0), .second, .val (.long q1), .second, .val (.int p2), .val (.int p3), .val (.int p4), .val (.int i.toInt32), .val (.int n.toInt32), .val (.int f), .unset, .unset, .unset, .unset] [(.ref b11), (.ref b11)])) (fun _ k_ => XS.dup X21.here hx rfl (hb hby at_79) rfl rfl k_) ?_
  refine Go.st (S' := T21.setTop (mkF m 82 #[.val (.long q0), .second, .val (.long q1), .second, .val (.int p2), .val (.int p3), .val (.int p4), .val (.int i.toInt32), .val (.int n.toInt32), .val (.int f), .unset, .unset, .unset, .unset] [(.int (10 : Int32)), (.ref b11), (.ref b11)])) (fun _ k_ => XS.bipush X21.here hx rfl (hb hby at_80) k_) ?_
  refine Go.st (S' := T21.setTop (mkF m 84 #[.val (.long q0), .second, .val (.long q1), .second, .val (.int p2), .val (.int p3), .val (.int p4), .val (.int i.toInt32), .val (.int n.toInt32), .val (.int f), .unset, .unset, .unset, .unset] [(.int f), (.int (10 : Int32)), (.ref b11), (.ref b11)])) (fun _ k_ => XS.iload X21.here hx rfl (hb hby at_82) rfl k_) ?_
  obtain ⟨T22, h22, X22, e22, W22, A22, st22⟩ := A_b11.bstore X21 hx hZ e21 (j := (10 : Int32)) (by decide) (Nat.le_of_ble_eq_true rfl) (g := (mkF m 84 #[.val (.long q0), .second, .val (.long q1), .second, .val (.int p2), .val (.int p3), .val (.int p4), .val (.int i.toInt32), .val (.int n.toInt32), .val (.int f), .unset, .unset, .unset, .unset] [(.int f), (.int (10 : Int32)), (.ref b11), (.ref b11)])) rfl rfl (hb hby at_84)
  replace A_b11 : Ai Z h22 b11 .byte [f, f, f, f, f, f, f, f, f, f, f, (0 : Int32), (0 : Int32), (0 : Int32), (0 : Int32), (0 : Int32), (0 : Int32), (0 : Int32), (0 : Int32), (0 : Int32)] := (by have q := A22; rw [hfb] at q; exact q)
  replace Z0 := Nat.le_trans Z0 (Keep.of_wr W22).1
  have N22 := Fr.snoc X22 N21 g_b11
  refine Go.st (S' := T22.setTop (mkF m 85 #[.val (.long q0), .second, .val (.long q1), .second, .val (.int p2), .val (.int p3), .val (.int p4), .val (.int i.toInt32), .val (.int n.toInt32), .val (.int f), .unset, .unset, .unset, .unset] [(.ref b11)])) (st22) ?_
  refine Go.st (S' := T22.setTop (mkF m 86 #[.val (.long q0), .second, .val (.long q1), .second, .val (.int p2), .val (.int p3), .val (.int p4), .val (.int i.toInt32), .val (.int n.toInt32), .val (.int f), .unset, .unset, .unset, .unset] [(.ref b11), (.ref b11)])) (fun _ k_ => XS.dup X22.here hx rfl (hb hby at_85) rfl rfl k_) ?_
  refine Go.st (S' := T22.setTop (mkF m 88 #[.val (.long q0), .second, .val (.long q1), .second, .val (.int p2), .val (.int p3), .val (.int p4), .val (.int i.toInt32), .val (.int n.toInt32), .val (.int f), .unset, .unset, .unset, .unset] [(.int (11 : Int32)), (.ref b11), (.ref b11)])) (fun _ k_ => XS.bipush X22.here hx rfl (hb hby at_86) k_) ?_
  refine Go.st (S' := T22.setTop (mkF m 90 #[.val (.long q0), .second, .val (.long q1), .second, .val (.int p2), .val (.int p3), .val (.int p4), .val (.int i.toInt32), .val (.int n.toInt32), .val (.int f), .unset, .unset, .unset, .unset] [(.int f), (.int (11 : Int32)), (.ref b11), (.ref b11)])) (fun _ k_ => XS.iload X22.here hx rfl (hb hby at_88) rfl k_) ?_
  obtain ⟨T23, h23, X23, e23, W23, A23, st23⟩ := A_b11.bstore X22 hx hZ e22 (j := (11 : Int32)) (by decide) (Nat.le_of_ble_eq_true rfl) (g := (mkF m 90 #[.val (.long q0), .second, .val (.long q1), .second, .val (.int p2), .val (.int p3), .val (.int p4), .val (.int i.toInt32), .val (.int n.toInt32), .val (.int f), .unset, .unset, .unset, .unset] [(.int f), (.int (11 : Int32)), (.ref b11), (.ref b11)])) rfl rfl (hb hby at_90)
  replace A_b11 : Ai Z h23 b11 .byte [f, f, f, f, f, f, f, f, f, f, f, f, (0 : Int32), (0 : Int32), (0 : Int32), (0 : Int32), (0 : Int32), (0 : Int32), (0 : Int32), (0 : Int32)] := (by have q := A23; rw [hfb] at q; exact q)
  replace Z0 := Nat.le_trans Z0 (Keep.of_wr W23).1
  have N23 := Fr.snoc X23 N22 g_b11
  refine Go.st (S' := T23.setTop (mkF m 91 #[.val (.long q0), .second, .val (.long q1), .second, .val (.int p2), .val (.int p3), .val (.int p4), .val (.int i.toInt32), .val (.int n.toInt32), .val (.int f), .unset, .unset, .unset, .unset] [(.ref b11)])) (st23) ?_
  refine Go.st (S' := T23.setTop (mkF m 92 #[.val (.long q0), .second, .val (.long q1), .second, .val (.int p2), .val (.int p3), .val (.int p4), .val (.int i.toInt32), .val (.int n.toInt32), .val (.int f), .unset, .unset, .unset, .unset] [(.ref b11), (.ref b11)])) (fun _ k_ => XS.dup X23.here hx rfl (hb hby at_91) rfl rfl k_) ?_
  refine Go.st (S' := T23.setTop (mkF m 94 #[.val (.long q0), .second, .val (.long q1), .second, .val (.int p2), .val (.int p3), .val (.int p4), .val (.int i.toInt32), .val (.int n.toInt32), .val (.int f), .unset, .unset, .unset, .unset] [(.int (12 : Int32)), (.ref b11), (.ref b11)])) (fun _ k_ => XS.bipush X23.here hx rfl (hb hby at_92) k_) ?_
  refine Go.st (S' := T23.setTop (mkF m 96 #[.val (.long q0), .second, .val (.long q1), .second, .val (.int p2), .val (.int p3), .val (.int p4), .val (.int i.toInt32), .val (.int n.toInt32), .val (.int f), .unset, .unset, .unset, .unset] [(.int f), (.int (12 : Int32)), (.ref b11), (.ref b11)])) (fun _ k_ => XS.iload X23.here hx rfl (hb hby at_94) rfl k_) ?_
  obtain ⟨T24, h24, X24, e24, W24, A24, st24⟩ := A_b11.bstore X23 hx hZ e23 (j := (12 : Int32)) (by decide) (Nat.le_of_ble_eq_true rfl) (g := (mkF m 96 #[.val (.long q0), .second, .val (.long q1), .second, .val (.int p2), .val (.int p3), .val (.int p4), .val (.int i.toInt32), .val (.int n.toInt32), .val (.int f), .unset, .unset, .unset, .unset] [(.int f), (.int (12 : Int32)), (.ref b11), (.ref b11)])) rfl rfl (hb hby at_96)
  replace A_b11 : Ai Z h24 b11 .byte [f, f, f, f, f, f, f, f, f, f, f, f, f, (0 : Int32), (0 : Int32), (0 : Int32), (0 : Int32), (0 : Int32), (0 : Int32), (0 : Int32)] := (by have q := A24; rw [hfb] at q; exact q)
  replace Z0 := Nat.le_trans Z0 (Keep.of_wr W24).1
  have N24 := Fr.snoc X24 N23 g_b11
  refine Go.st (S' := T24.setTop (mkF m 97 #[.val (.long q0), .second, .val (.long q1), .second, .val (.int p2), .val (.int p3), .val (.int p4), .val (.int i.toInt32), .val (.int n.toInt32), .val (.int f), .unset, .unset, .unset, .unset] [(.ref b11)])) (st24) ?_
  refine Go.st (S' := T24.setTop (mkF m 98 #[.val (.long q0), .second, .val (.long q1), .second, .val (.int p2), .val (.int p3), .val (.int p4), .val (.int i.toInt32), .val (.int n.toInt32), .val (.int f), .unset, .unset, .unset, .unset] [(.ref b11), (.ref b11)])) (fun _ k_ => XS.dup X24.here hx rfl (hb hby at_97) rfl rfl k_) ?_
  refine Go.st (S' := T24.setTop (mkF m 100 #[.val (.long q0), .second, .val (.long q1), .second, .val (.int p2), .val (.int p3), .val (.int p4), .val (.int i.toInt32), .val (.int n.toInt32), .val (.int f), .unset, .unset, .unset, .unset] [(.int (13 : Int32)), (.ref b11), (.ref b11)])) (fun _ k_ => XS.bipush X24.here hx rfl (hb hby at_98) k_) ?_
  refine Go.st (S' := T24.setTop (mkF m 102 #[.val (.long q0), .second, .val (.long q1), .second, .val (.int p2), .val (.int p3), .val (.int p4), .val (.int i.toInt32), .val (.int n.toInt32), .val (.int f), .unset, .unset, .unset, .unset] [(.int f), (.int (13 : Int32)), (.ref b11), (.ref b11)])) (fun _ k_ => XS.iload X24.here hx rfl (hb hby at_100) rfl k_) ?_
  obtain ⟨T25, h25, X25, e25, W25, A25, st25⟩ := A_b11.bstore X24 hx hZ e24 (j := (13 : Int32)) (by decide) (Nat.le_of_ble_eq_true rfl) (g := (mkF m 102 #[.val (.long q0), .second, .val (.long q1), .second, .val (.int p2), .val (.int p3), .val (.int p4), .val (.int i.toInt32), .val (.int n.toInt32), .val (.int f), .unset, .unset, .unset, .unset] [(.int f), (.int (13 : Int32)), (.ref b11), (.ref b11)])) rfl rfl (hb hby at_102)
  replace A_b11 : Ai Z h25 b11 .byte [f, f, f, f, f, f, f, f, f, f, f, f, f, f, (0 : Int32), (0 : Int32), (0 : Int32), (0 : Int32), (0 : Int32), (0 : Int32)] := (by have q := A25; rw [hfb] at q; exact q)
  replace Z0 := Nat.le_trans Z0 (Keep.of_wr W25).1
  have N25 := Fr.snoc X25 N24 g_b11
  refine Go.st (S' := T25.setTop (mkF m 103 #[.val (.long q0), .second, .val (.long q1), .second, .val (.int p2), .val (.int p3), .val (.int p4), .val (.int i.toInt32), .val (.int n.toInt32), .val (.int f), .unset, .unset, .unset, .unset] [(.ref b11)])) (st25) ?_
  refine Go.st (S' := T25.setTop (mkF m 104 #[.val (.long q0), .second, .val (.long q1), .second, .val (.int p2), .val (.int p3), .val (.int p4), .val (.int i.toInt32), .val (.int n.toInt32), .val (.int f), .unset, .unset, .unset, .unset] [(.ref b11), (.ref b11)])) (fun _ k_ => XS.dup X25.here hx rfl (hb hby at_103) rfl rfl k_) ?_
  refine Go.st (S' := T25.setTop (mkF m 106 #[.val (.long q0), .second, .val (.long q1), .second, .val (.int p2), .val (.int p3), .val (.int p4), .val (.int i.toInt32), .val (.int n.toInt32), .val (.int f), .unset, .unset, .unset, .unset] [(.int (14 : Int32)), (.ref b11), (.ref b11)])) (fun _ k_ => XS.bipush X25.here hx rfl (hb hby at_104) k_) ?_
  refine Go.st (S' := T25.setTop (mkF m 108 #[.val (.long q0), .second, .val (.long q1), .second, .val (.int p2), .val (.int p3), .val (.int p4), .val (.int i.toInt32), .val (.int n.toInt32), .val (.int f), .unset, .unset, .unset, .unset] [(.int f), (.int (14 : Int32)), (.ref b11), (.ref b11)])) (fun _ k_ => XS.iload X25.here hx rfl (hb hby at_106) rfl k_) ?_
  obtain ⟨T26, h26, X26, e26, W26, A26, st26⟩ := A_b11.bstore X25 hx hZ e25 (j := (14 : Int32)) (by decide) (Nat.le_of_ble_eq_true rfl) (g := (mkF m 108 #[.val (.long q0), .second, .val (.long q1), .second, .val (.int p2), .val (.int p3), .val (.int p4), .val (.int i.toInt32), .val (.int n.toInt32), .val (.int f), .unset, .unset, .unset, .unset] [(.int f), (.int (14 : Int32)), (.ref b11), (.ref b11)])) rfl rfl (hb hby at_108)
  replace A_b11 : Ai Z h26 b11 .byte [f, f, f, f, f, f, f, f, f, f, f, f, f, f, f, (0 : Int32), (0 : Int32), (0 : Int32), (0 : Int32), (0 : Int32)] := (by have q := A26; rw [hfb] at q; exact q)
  replace Z0 := Nat.le_trans Z0 (Keep.of_wr W26).1
  have N26 := Fr.snoc X26 N25 g_b11
  refine Go.st (S' := T26.setTop (mkF m 109 #[.val (.long q0), .second, .val (.long q1), .second, .val (.int p2), .val (.int p3), .val (.int p4), .val (.int i.toInt32), .val (.int n.toInt32), .val (.int f), .unset, .unset, .unset, .unset] [(.ref b11)])) (st26) ?_
  refine Go.st (S' := T26.setTop (mkF m 110 #[.val (.long q0), .second, .val (.long q1), .second, .val (.int p2), .val (.int p3), .val (.int p4), .val (.int i.toInt32), .val (.int n.toInt32), .val (.int f), .unset, .unset, .unset, .unset] [(.ref b11), (.ref b11)])) (fun _ k_ => XS.dup X26.here hx rfl (hb hby at_109) rfl rfl k_) ?_
  refine Go.st (S' := T26.setTop (mkF m 112 #[.val (.long q0), .second, .val (.long q1), .second, .val (.int p2), .val (.int p3), .val (.int p4), .val (.int i.toInt32), .val (.int n.toInt32), .val (.int f), .unset, .unset, .unset, .unset] [(.int (15 : Int32)), (.ref b11), (.ref b11)])) (fun _ k_ => XS.bipush X26.here hx rfl (hb hby at_110) k_) ?_
  refine Go.st (S' := T26.setTop (mkF m 114 #[.val (.long q0), .second, .val (.long q1), .second, .val (.int p2), .val (.int p3), .val (.int p4), .val (.int i.toInt32), .val (.int n.toInt32), .val (.int f), .unset, .unset, .unset, .unset] [(.int f), (.int (15 : Int32)), (.ref b11), (.ref b11)])) (fun _ k_ => XS.iload X26.here hx rfl (hb hby at_112) rfl k_) ?_
  obtain ⟨T27, h27, X27, e27, W27, A27, st27⟩ := A_b11.bstore X26 hx hZ e26 (j := (15 : Int32)) (by decide) (Nat.le_of_ble_eq_true rfl) (g := (mkF m 114 #[.val (.long q0), .second, .val (.long q1), .second, .val (.int p2), .val (.int p3), .val (.int p4), .val (.int i.toInt32), .val (.int n.toInt32), .val (.int f), .unset, .unset, .unset, .unset] [(.int f), (.int (15 : Int32)), (.ref b11), (.ref b11)])) rfl rfl (hb hby at_114)
  replace A_b11 : Ai Z h27 b11 .byte [f, f, f, f, f, f, f, f, f, f, f, f, f, f, f, f, (0 : Int32), (0 : Int32), (0 : Int32), (0 : Int32)] := (by have q := A27; rw [hfb] at q; exact q)
  replace Z0 := Nat.le_trans Z0 (Keep.of_wr W27).1
  have N27 := Fr.snoc X27 N26 g_b11
  refine Go.st (S' := T27.setTop (mkF m 115 #[.val (.long q0), .second, .val (.long q1), .second, .val (.int p2), .val (.int p3), .val (.int p4), .val (.int i.toInt32), .val (.int n.toInt32), .val (.int f), .unset, .unset, .unset, .unset] [(.ref b11)])) (st27) ?_
  refine Go.st (S' := T27.setTop (mkF m 116 #[.val (.long q0), .second, .val (.long q1), .second, .val (.int p2), .val (.int p3), .val (.int p4), .val (.int i.toInt32), .val (.int n.toInt32), .val (.int f), .unset, .unset, .unset, .unset] [(.ref b11), (.ref b11)])) (fun _ k_ => XS.dup X27.here hx rfl (hb hby at_115) rfl rfl k_) ?_
  refine Go.st (S' := T27.setTop (mkF m 118 #[.val (.long q0), .second, .val (.long q1), .second, .val (.int p2), .val (.int p3), .val (.int p4), .val (.int i.toInt32), .val (.int n.toInt32), .val (.int f), .unset, .unset, .unset, .unset] [(.int (16 : Int32)), (.ref b11), (.ref b11)])) (fun _ k_ => XS.bipush X27.here hx rfl (hb hby at_116) k_) ?_
  refine Go.st (S' := T27.setTop (mkF m 120 #[.val (.long q0), .second, .val (.long q1), .second, .val (.int p2), .val (.int p3), .val (.int p4), .val (.int i.toInt32), .val (.int n.toInt32), .val (.int f), .unset, .unset, .unset, .unset] [(.int f), (.int (16 : Int32)), (.ref b11), (.ref b11)])) (fun _ k_ => XS.iload X27.here hx rfl (hb hby at_118) rfl k_) ?_
  obtain ⟨T28, h28, X28, e28, W28, A28, st28⟩ := A_b11.bstore X27 hx hZ e27 (j := (16 : Int32)) (by decide) (Nat.le_of_ble_eq_true rfl) (g := (mkF m 120 #[.val (.long q0), .second, .val (.long q1), .second, .val (.int p2), .val (.int p3), .val (.int p4), .val (.int i.toInt32), .val (.int n.toInt32), .val (.int f), .unset, .unset, .unset, .unset] [(.int f), (.int (16 : Int32)), (.ref b11), (.ref b11)])) rfl rfl (hb hby at_120)
  replace A_b11 : Ai Z h28 b11 .byte [f, f, f, f, f, f, f, f, f, f, f, f, f, f, f, f, f, (0 : Int32), (0 : Int32), (0 : Int32)] := (by have q := A28; rw [hfb] at q; exact q)
  replace Z0 := Nat.le_trans Z0 (Keep.of_wr W28).1
  have N28 := Fr.snoc X28 N27 g_b11
  refine Go.st (S' := T28.setTop (mkF m 121 #[.val (.long q0), .second, .val (.long q1), .second, .val (.int p2), .val (.int p3), .val (.int p4), .val (.int i.toInt32), .val (.int n.toInt32), .val (.int f), .unset, .unset, .unset, .unset] [(.ref b11)])) (st28) ?_
  refine Go.st (S' := T28.setTop (mkF m 122 #[.val (.long q0), .second, .val (.long q1), .second, .val (.int p2), .val (.int p3), .val (.int p4), .val (.int i.toInt32), .val (.int n.toInt32), .val (.int f), .unset, .unset, .unset, .unset] [(.ref b11), (.ref b11)])) (fun _ k_ => XS.dup X28.here hx rfl (hb hby at_121) rfl rfl k_) ?_
  refine Go.st (S' := T28.setTop (mkF m 124 #[.val (.long q0), .second, .val (.long q1), .second, .val (.int p2), .val (.int p3), .val (.int p4), .val (.int i.toInt32), .val (.int n.toInt32), .val (.int f), .unset, .unset, .unset, .unset] [(.int (17 : Int32)), (.ref b11), (.ref b11)])) (fun _ k_ => XS.bipush X28.here hx rfl (hb hby at_122) k_) ?_
  refine Go.st (S' := T28.setTop (mkF m 126 #[.val (.long q0), .second, .val (.long q1), .second, .val (.int p2), .val (.int p3), .val (.int p4), .val (.int i.toInt32), .val (.int n.toInt32), .val (.int f), .unset, .unset, .unset, .unset] [(.int f), (.int (17 : Int32)), (.ref b11), (.ref b11)])) (fun _ k_ => XS.iload X28.here hx rfl (hb hby at_124) rfl k_) ?_
  obtain ⟨T29, h29, X29, e29, W29, A29, st29⟩ := A_b11.bstore X28 hx hZ e28 (j := (17 : Int32)) (by decide) (Nat.le_of_ble_eq_true rfl) (g := (mkF m 126 #[.val (.long q0), .second, .val (.long q1), .second, .val (.int p2), .val (.int p3), .val (.int p4), .val (.int i.toInt32), .val (.int n.toInt32), .val (.int f), .unset, .unset, .unset, .unset] [(.int f), (.int (17 : Int32)), (.ref b11), (.ref b11)])) rfl rfl (hb hby at_126)
  replace A_b11 : Ai Z h29 b11 .byte [f, f, f, f, f, f, f, f, f, f, f, f, f, f, f, f, f, f, (0 : Int32), (0 : Int32)] := (by have q := A29; rw [hfb] at q; exact q)
  replace Z0 := Nat.le_trans Z0 (Keep.of_wr W29).1
  have N29 := Fr.snoc X29 N28 g_b11
  refine Go.st (S' := T29.setTop (mkF m 127 #[.val (.long q0), .second, .val (.long q1), .second, .val (.int p2), .val (.int p3), .val (.int p4), .val (.int i.toInt32), .val (.int n.toInt32), .val (.int f), .unset, .unset, .unset, .unset] [(.ref b11)])) (st29) ?_
  refine Go.st (S' := T29.setTop (mkF m 128 #[.val (.long q0), .second, .val (.long q1), .second, .val (.int p2), .val (.int p3), .val (.int p4), .val (.int i.toInt32), .val (.int n.toInt32), .val (.int f), .unset, .unset, .unset, .unset] [(.ref b11), (.ref b11)])) (fun _ k_ => XS.dup X29.here hx rfl (hb hby at_127) rfl rfl k_) ?_
  refine Go.st (S' := T29.setTop (mkF m 130 #[.val (.long q0), .second, .val (.long q1), .second, .val (.int p2), .val (.int p3), .val (.int p4), .val (.int i.toInt32), .val (.int n.toInt32), .val (.int f), .unset, .unset, .unset, .unset] [(.int (18 : Int32)), (.ref b11), (.ref b11)])) (fun _ k_ => XS.bipush X29.here hx rfl (hb hby at_128) k_) ?_
  refine Go.st (S' := T29.setTop (mkF m 132 #[.val (.long q0), .second, .val (.long q1), .second, .val (.int p2), .val (.int p3), .val (.int p4), .val (.int i.toInt32), .val (.int n.toInt32), .val (.int f), .unset, .unset, .unset, .unset] [(.int f), (.int (18 : Int32)), (.ref b11), (.ref b11)])) (fun _ k_ => XS.iload X29.here hx rfl (hb hby at_130) rfl k_) ?_
  obtain ⟨T30, h30, X30, e30, W30, A30, st30⟩ := A_b11.bstore X29 hx hZ e29 (j := (18 : Int32)) (by decide) (Nat.le_of_ble_eq_true rfl) (g := (mkF m 132 #[.val (.long q0), .second, .val (.long q1), .second, .val (.int p2), .val (.int p3), .val (.int p4), .val (.int i.toInt32), .val (.int n.toInt32), .val (.int f), .unset, .unset, .unset, .unset] [(.int f), (.int (18 : Int32)), (.ref b11), (.ref b11)])) rfl rfl (hb hby at_132)
  replace A_b11 : Ai Z h30 b11 .byte [f, f, f, f, f, f, f, f, f, f, f, f, f, f, f, f, f, f, f, (0 : Int32)] := (by have q := A30; rw [hfb] at q; exact q)
  replace Z0 := Nat.le_trans Z0 (Keep.of_wr W30).1
  have N30 := Fr.snoc X30 N29 g_b11
  refine Go.st (S' := T30.setTop (mkF m 133 #[.val (.long q0), .second, .val (.long q1), .second, .val (.int p2), .val (.int p3), .val (.int p4), .val (.int i.toInt32), .val (.int n.toInt32), .val (.int f), .unset, .unset, .unset, .unset] [(.ref b11)])) (st30) ?_
  refine Go.st (S' := T30.setTop (mkF m 134 #[.val (.long q0), .second, .val (.long q1), .second, .val (.int p2), .val (.int p3), .val (.int p4), .val (.int i.toInt32), .val (.int n.toInt32), .val (.int f), .unset, .unset, .unset, .unset] [(.ref b11), (.ref b11)])) (fun _ k_ => XS.dup X30.here hx rfl (hb hby at_133) rfl rfl k_) ?_
  refine Go.st (S' := T30.setTop (mkF m 136 #[.val (.long q0), .second, .val (.long q1), .second, .val (.int p2), .val (.int p3), .val (.int p4), .val (.int i.toInt32), .val (.int n.toInt32), .val (.int f), .unset, .unset, .unset, .unset] [(.int (19 : Int32)), (.ref b11), (.ref b11)])) (fun _ k_ => XS.bipush X30.here hx rfl (hb hby at_134) k_) ?_
  refine Go.st (S' := T30.setTop (mkF m 138 #[.val (.long q0), .second, .val (.long q1), .second, .val (.int p2), .val (.int p3), .val (.int p4), .val (.int i.toInt32), .val (.int n.toInt32), .val (.int f), .unset, .unset, .unset, .unset] [(.int f), (.int (19 : Int32)), (.ref b11), (.ref b11)])) (fun _ k_ => XS.iload X30.here hx rfl (hb hby at_136) rfl k_) ?_
  obtain ⟨T31, h31, X31, e31, W31, A31, st31⟩ := A_b11.bstore X30 hx hZ e30 (j := (19 : Int32)) (by decide) (Nat.le_of_ble_eq_true rfl) (g := (mkF m 138 #[.val (.long q0), .second, .val (.long q1), .second, .val (.int p2), .val (.int p3), .val (.int p4), .val (.int i.toInt32), .val (.int n.toInt32), .val (.int f), .unset, .unset, .unset, .unset] [(.int f), (.int (19 : Int32)), (.ref b11), (.ref b11)])) rfl rfl (hb hby at_138)
  replace A_b11 : Ai Z h31 b11 .byte [f, f, f, f, f, f, f, f, f, f, f, f, f, f, f, f, f, f, f, f] := (by have q := A31; rw [hfb] at q; exact q)
  replace Z0 := Nat.le_trans Z0 (Keep.of_wr W31).1
  have N31 := Fr.snoc X31 N30 g_b11
  refine Go.st (S' := T31.setTop (mkF m 139 #[.val (.long q0), .second, .val (.long q1), .second, .val (.int p2), .val (.int p3), .val (.int p4), .val (.int i.toInt32), .val (.int n.toInt32), .val (.int f), .unset, .unset, .unset, .unset] [(.ref b11)])) (st31) ?_
  refine Go.st (S' := T31.setTop (mkF m 141 #[.val (.long q0), .second, .val (.long q1), .second, .val (.int p2), .val (.int p3), .val (.int p4), .val (.int i.toInt32), .val (.int n.toInt32), .val (.int f), .val (.ref b11), .unset, .unset, .unset] [])) (fun _ k_ => XS.astore X31.here hx rfl (hb hby at_139) rfl rfl (l' := #[.val (.long q0), .second, .val (.long q1), .second, .val (.int p2), .val (.int p3), .val (.int p4), .val (.int i.toInt32), .val (.int n.toInt32), .val (.int f), .val (.ref b11), .unset, .unset, .unset]) rfl k_) ?_
  refine Go.st (S' := T31.setTop (mkF m 142 #[.val (.long q0), .second, .val (.long q1), .second, .val (.int p2), .val (.int p3), .val (.int p4), .val (.int i.toInt32), .val (.int n.toInt32), .val (.int f), .val (.ref b11), .unset, .unset, .unset] [(.int (2 : Int32))])) (fun _ k_ => XS.iconst X31.here hx rfl (hb hby at_141) k_) ?_
  obtain ⟨T32, h32, b32, X32, e32, q32, E32, A32, st32⟩ := Al.new X31 hx hZ (aty := .long) (w2 hw) rfl e31 (n := (2 : Int32)) (by decide) 2 (by decide) (by decide) (by decide) (by decide) (g := (mkF m 142 #[.val (.long q0), .second, .val (.long q1), .second, .val (.int p2), .val (.int p3), .val (.int p4), .val (.int i.toInt32), .val (.int n.toInt32), .val (.int f), .val (.ref b11), .unset, .unset, .unset] [(.int (2 : Int32))])) rfl rfl (hb hby at_142)
  have ne_b11_b32 : b11 ≠ b32 := Nat.ne_of_lt (Nat.lt_of_lt_of_le A_b11.lt (Nat.le_of_eq q32.symm))
  have g_b32 : n0 ≤ b32 := Nat.le_trans Z0 (Nat.le_of_eq q32.symm)
  replace A_b11 := A_b11.ext E32
  replace Z0 := Nat.le_trans Z0 E32.1
  have A_b32 : Al Z h32 b32 [(0 : Int64), (0 : Int64)] := A32
  refine Go.st (S' := T32.setTop (mkF m 144 #[.val (.long q0), .second, .val (.long q1), .second, .val (.int p2), .val (.int p3), .val (.int p4), .val (.int i.toInt32), .val (.int n.toInt32), .val (.int f), .val (.ref b11), .unset, .unset, .unset] [(.ref b32)])) (st32) ?_
  refine Go.st (S' := T32.setTop (mkF m 145 #[.val (.long q0), .second, .val (.long q1), .second, .val (.int p2), .val (.int p3), .val (.int p4), .val (.int i.toInt32), .val (.int n.toInt32), .val (.int f), .val (.ref b11), .unset, .unset, .unset] [(.ref b32), (.ref b32)])) (fun _ k_ => XS.dup X32.here hx rfl (hb hby at_144) rfl rfl k_) ?_
  refine Go.st (S' := T32.setTop (mkF m 146 #[.val (.long q0), .second, .val (.long q1), .second, .val (.int p2), .val (.int p3), .val (.int p4), .val (.int i.toInt32), .val (.int n.toInt32), .val (.int f), .val (.ref b11), .unset, .unset, .unset] [(.int (0 : Int32)), (.ref b32), (.ref b32)])) (fun _ k_ => XS.iconst X32.here hx rfl (hb hby at_145) k_) ?_
  refine Go.st (S' := T32.setTop (mkF m 147 #[.val (.long q0), .second, .val (.long q1), .second, .val (.int p2), .val (.int p3), .val (.int p4), .val (.int i.toInt32), .val (.int n.toInt32), .val (.int f), .val (.ref b11), .unset, .unset, .unset] [(.long q0), (.int (0 : Int32)), (.ref b32), (.ref b32)])) (fun _ k_ => XS.lloadN X32.here hx rfl (hb hby at_146) rfl k_) ?_
  obtain ⟨T33, h33, X33, e33, W33, A33, st33⟩ := A_b32.store X32 hx hZ e32 (j := (0 : Int32)) (by decide) (Nat.le_of_ble_eq_true rfl) (g := (mkF m 147 #[.val (.long q0), .second, .val (.long q1), .second, .val (.int p2), .val (.int p3), .val (.int p4), .val (.int i.toInt32), .val (.int n.toInt32), .val (.int f), .val (.ref b11), .unset, .unset, .unset] [(.long q0), (.int (0 : Int32)), (.ref b32), (.ref b32)])) rfl rfl (hb hby at_147)
  replace A_b32 : Al Z h33 b32 [q0, (0 : Int64)] := A33
  replace A_b11 := A_b11.other W33 ne_b11_b32
  replace Z0 := Nat.le_trans Z0 (Keep.of_wr W33).1
  have N33 := Fr.snoc X33 N31 g_b32
  refine Go.st (S' := T33.setTop (mkF m 148 #[.val (.long q0), .second, .val (.long q1), .second, .val (.int p2), .val (.int p3), .val (.int p4), .val (.int i.toInt32), .val (.int n.toInt32), .val (.int f), .val (.ref b11), .unset, .unset, .unset] [(.ref b32)])) (st33) ?_
  refine Go.st (S' := T33.setTop (mkF m 149 #[.val (.long q0), .second, .val (.long q1), .second, .val (.int p2), .val (.int p3), .val (.int p4), .val (.int i.toInt32), .val (.int n.toInt32), .val (.int f), .val (.ref b11), .unset, .unset, .unset] [(.ref b32), (.ref b32)])) (fun _ k_ => XS.dup X33.here hx rfl (hb hby at_148) rfl rfl k_) ?_
  refine Go.st (S' := T33.setTop (mkF m 150 #[.val (.long q0), .second, .val (.long q1), .second, .val (.int p2), .val (.int p3), .val (.int p4), .val (.int i.toInt32), .val (.int n.toInt32), .val (.int f), .val (.ref b11), .unset, .unset, .unset] [(.int (1 : Int32)), (.ref b32), (.ref b32)])) (fun _ k_ => XS.iconst X33.here hx rfl (hb hby at_149) k_) ?_
  refine Go.st (S' := T33.setTop (mkF m 151 #[.val (.long q0), .second, .val (.long q1), .second, .val (.int p2), .val (.int p3), .val (.int p4), .val (.int i.toInt32), .val (.int n.toInt32), .val (.int f), .val (.ref b11), .unset, .unset, .unset] [(.long q1), (.int (1 : Int32)), (.ref b32), (.ref b32)])) (fun _ k_ => XS.lloadN X33.here hx rfl (hb hby at_150) rfl k_) ?_
  obtain ⟨T34, h34, X34, e34, W34, A34, st34⟩ := A_b32.store X33 hx hZ e33 (j := (1 : Int32)) (by decide) (Nat.le_of_ble_eq_true rfl) (g := (mkF m 151 #[.val (.long q0), .second, .val (.long q1), .second, .val (.int p2), .val (.int p3), .val (.int p4), .val (.int i.toInt32), .val (.int n.toInt32), .val (.int f), .val (.ref b11), .unset, .unset, .unset] [(.long q1), (.int (1 : Int32)), (.ref b32), (.ref b32)])) rfl rfl (hb hby at_151)
  replace A_b32 : Al Z h34 b32 [q0, q1] := A34
  replace A_b11 := A_b11.other W34 ne_b11_b32
  replace Z0 := Nat.le_trans Z0 (Keep.of_wr W34).1
  have N34 := Fr.snoc X34 N33 g_b32
  refine Go.st (S' := T34.setTop (mkF m 152 #[.val (.long q0), .second, .val (.long q1), .second, .val (.int p2), .val (.int p3), .val (.int p4), .val (.int i.toInt32), .val (.int n.toInt32), .val (.int f), .val (.ref b11), .unset, .unset, .unset] [(.ref b32)])) (st34) ?_
  refine Go.st (S' := T34.setTop (mkF m 154 #[.val (.long q0), .second, .val (.long q1), .second, .val (.int p2), .val (.int p3), .val (.int p4), .val (.int i.toInt32), .val (.int n.toInt32), .val (.int f), .val (.ref b11), .val (.ref b32), .unset, .unset] [])) (fun _ k_ => XS.astore X34.here hx rfl (hb hby at_152) rfl rfl (l' := #[.val (.long q0), .second, .val (.long q1), .second, .val (.int p2), .val (.int p3), .val (.int p4), .val (.int i.toInt32), .val (.int n.toInt32), .val (.int f), .val (.ref b11), .val (.ref b32), .unset, .unset]) rfl k_) ?_
  refine Go.st (S' := T34.setTop (mkF m 156 #[.val (.long q0), .second, .val (.long q1), .second, .val (.int p2), .val (.int p3), .val (.int p4), .val (.int i.toInt32), .val (.int n.toInt32), .val (.int f), .val (.ref b11), .val (.ref b32), .unset, .unset] [(.ref b32)])) (fun _ k_ => XS.aload X34.here hx rfl (hb hby at_154) rfl rfl k_) ?_
  refine Go.st (S' := T34.setTop (mkF m 158 #[.val (.long q0), .second, .val (.long q1), .second, .val (.int p2), .val (.int p3), .val (.int p4), .val (.int i.toInt32), .val (.int n.toInt32), .val (.int f), .val (.ref b11), .val (.ref b32), .unset, .unset] [(.int i.toInt32), (.ref b32)])) (fun _ k_ => XS.iload X34.here hx rfl (hb hby at_156) rfl k_) ?_
  refine Go.st (S' := T34.setTop (mkF m 160 #[.val (.long q0), .second, .val (.long q1), .second, .val (.int p2), .val (.int p3), .val (.int p4), .val (.int i.toInt32), .val (.int n.toInt32), .val (.int f), .val (.ref b11), .val (.ref b32), .unset, .unset] [(.ref b11), (.int i.toInt32), (.ref b32)])) (fun _ k_ => XS.aload X34.here hx rfl (hb hby at_158) rfl rfl k_) ?_
  refine Go.st (S' := T34.setTop (mkF m 162 #[.val (.long q0), .second, .val (.long q1), .second, .val (.int p2), .val (.int p3), .val (.int p4), .val (.int i.toInt32), .val (.int n.toInt32), .val (.int f), .val (.ref b11), .val (.ref b32), .unset, .unset] [(.int n.toInt32), (.ref b11), (.int i.toInt32), (.ref b32)])) (fun _ k_ => XS.iload X34.here hx rfl (hb hby at_160) rfl k_) ?_
  obtain ⟨v35, T35, h35, L35, X35, e35, hQ35, st35⟩ := callSt X34 hx hZ hown (w3 hw) (w4 hw) (w5 hw) (w6 hw) (by decide) (W := 0) (argsL := [(.ref b32), (.int i.toInt32), (.ref b11), (.int n.toInt32)]) (rest := []) e34 (rm_put l Z a0 hw b32 b11 n i q0 q1 (List.replicate 20 f) h34 n0 Z0 A_b32 A_b11 (Ne.symm ne_b11_b32) g_b11 (by rw [List.length_replicate]; omega) (by rw [List.length_replicate]; omega) (by omega)) (by decide) (by decide) pd1 rfl (g := (mkF m 162 #[.val (.long q0), .second, .val (.long q1), .second, .val (.int p2), .val (.int p3), .val (.int p4), .val (.int i.toInt32), .val (.int n.toInt32), .val (.int f), .val (.ref b11), .val (.ref b32), .unset, .unset] [(.int n.toInt32), (.ref b11), (.int i.toInt32), (.ref b32)])) rfl (by rw [hml]; rfl) rfl (by show 2 * 0 + _ ≤ _; exact Nat.le_of_eq rfl) (hb hby at_162) (by decide) (by decide)
  obtain ⟨rfl, Nq35, Kq35, ys35, A_b11, hW35⟩ := hQ35
  have N35 := Fr.app N34 Nq35
  replace A_b32 := A_b32.keep Kq35 (ninS (Ne.symm ne_b11_b32) nin0)
  replace Z0 := Nat.le_trans Z0 Kq35.1
  refine Go.st (S' := T35.setTop (mkF m 165 #[.val (.long q0), .second, .val (.long q1), .second, .val (.int p2), .val (.int p3), .val (.int p4), .val (.int i.toInt32), .val (.int n.toInt32), .val (.int f), .val (.ref b11), .val (.ref b32), .unset, .unset] [(.int (n + i).toInt32)])) (st35) ?_
  refine Go.st (S' := T35.setTop (mkF m 167 #[.val (.long q0), .second, .val (.long q1), .second, .val (.int p2), .val (.int p3), .val (.int p4), .val (.int i.toInt32), .val (.int n.toInt32), .val (.int f), .val (.ref b11), .val (.ref b32), .val (.int (n + i).toInt32), .unset] [])) (fun _ k_ => XS.istore X35.here hx rfl (hb hby at_165) rfl (l' := #[.val (.long q0), .second, .val (.long q1), .second, .val (.int p2), .val (.int p3), .val (.int p4), .val (.int i.toInt32), .val (.int n.toInt32), .val (.int f), .val (.ref b11), .val (.ref b32), .val (.int (n + i).toInt32), .unset]) rfl k_) ?_
  refine Go.st (S' := T35.setTop (mkF m 169 #[.val (.long q0), .second, .val (.long q1), .second, .val (.int p2), .val (.int p3), .val (.int p4), .val (.int i.toInt32), .val (.int n.toInt32), .val (.int f), .val (.ref b11), .val (.ref b32), .val (.int (n + i).toInt32), .unset] [(.int (n + i).toInt32)])) (fun _ k_ => XS.iload X35.here hx rfl (hb hby at_167) rfl k_) ?_
  refine Go.st (S' := T35.setTop (mkF m 171 #[.val (.long q0), .second, .val (.long q1), .second, .val (.int p2), .val (.int p3), .val (.int p4), .val (.int i.toInt32), .val (.int n.toInt32), .val (.int f), .val (.ref b11), .val (.ref b32), .val (.int (n + i).toInt32), .unset] [(.int n.toInt32), (.int (n + i).toInt32)])) (fun _ k_ => XS.iload X35.here hx rfl (hb hby at_169) rfl k_) ?_
  refine Go.st (S' := T35.setTop (mkF m 173 #[.val (.long q0), .second, .val (.long q1), .second, .val (.int p2), .val (.int p3), .val (.int p4), .val (.int i.toInt32), .val (.int n.toInt32), .val (.int f), .val (.ref b11), .val (.ref b32), .val (.int (n + i).toInt32), .unset] [(.int i.toInt32), (.int n.toInt32), (.int (n + i).toInt32)])) (fun _ k_ => XS.iload X35.here hx rfl (hb hby at_171) rfl k_) ?_
  refine Go.st (S' := T35.setTop (mkF m 174 #[.val (.long q0), .second, .val (.long q1), .second, .val (.int p2), .val (.int p3), .val (.int p4), .val (.int i.toInt32), .val (.int n.toInt32), .val (.int f), .val (.ref b11), .val (.ref b32), .val (.int (n + i).toInt32), .unset] [(.int (n.toInt32 + i.toInt32)), (.int (n + i).toInt32)])) (fun _ k_ => XS.iadd X35.here hx rfl (hb hby at_173) rfl k_) ?_
  refine Go.st (S' := T35.setTop (mkF m 177 #[.val (.long q0), .second, .val (.long q1), .second, .val (.int p2), .val (.int p3), .val (.int p4), .val (.int i.toInt32), .val (.int n.toInt32), .val (.int f), .val (.ref b11), .val (.ref b32), .val (.int (n + i).toInt32), .unset] [])) (fun _ k_ => XS.icmpNo X35.here hx rfl (hb hby at_174) rfl (teq ((own_tadd n i).symm)).2 k_) ?_
  refine Go.st (S' := T35.setTop (mkF m 178 #[.val (.long q0), .second, .val (.long q1), .second, .val (.int p2), .val (.int p3), .val (.int p4), .val (.int i.toInt32), .val (.int n.toInt32), .val (.int f), .val (.ref b11), .val (.ref b32), .val (.int (n + i).toInt32), .unset] [(.int (1 : Int32))])) (fun _ k_ => XS.iconst X35.here hx rfl (hb hby at_177) k_) ?_
  refine Go.st (S' := T35.setTop (mkF m 182 #[.val (.long q0), .second, .val (.long q1), .second, .val (.int p2), .val (.int p3), .val (.int p4), .val (.int i.toInt32), .val (.int n.toInt32), .val (.int f), .val (.ref b11), .val (.ref b32), .val (.int (n + i).toInt32), .unset] [(.int (1 : Int32))])) (fun _ k_ => XS.goto X35.here hx rfl (pc0 := 178) (pc' := 182) rfl (hb hby at_178) (by decide) (by decide) k_) ?_
  refine Go.st (S' := T35.setTop (mkF m 184 #[.val (.long q0), .second, .val (.long q1), .second, .val (.int p2), .val (.int p3), .val (.int p4), .val (.int i.toInt32), .val (.int n.toInt32), .val (.int f), .val (.ref b11), .val (.ref b32), .val (.int (n + i).toInt32), .val (.int (1 : Int32))] [])) (fun _ k_ => XS.istore X35.here hx rfl (hb hby at_182) rfl (l' := #[.val (.long q0), .second, .val (.long q1), .second, .val (.int p2), .val (.int p3), .val (.int p4), .val (.int i.toInt32), .val (.int n.toInt32), .val (.int f), .val (.ref b11), .val (.ref b32), .val (.int (n + i).toInt32), .val (.int (1 : Int32))]) rfl k_) ?_
  refine Go.st (S' := T35.setTop (mkF m 186 #[.val (.long q0), .second, .val (.long q1), .second, .val (.int p2), .val (.int p3), .val (.int p4), .val (.int i.toInt32), .val (.int n.toInt32), .val (.int f), .val (.ref b11), .val (.ref b32), .val (.int (n + i).toInt32), .val (.int (1 : Int32))] [(.int (1 : Int32))])) (fun _ k_ => XS.iload X35.here hx rfl (hb hby at_184) rfl k_) ?_
  refine Go.st (S' := T35.setTop (mkF m 188 #[.val (.long q0), .second, .val (.long q1), .second, .val (.int p2), .val (.int p3), .val (.int p4), .val (.int i.toInt32), .val (.int n.toInt32), .val (.int f), .val (.ref b11), .val (.ref b32), .val (.int (n + i).toInt32), .val (.int (1 : Int32))] [(.ref b11), (.int (1 : Int32))])) (fun _ k_ => XS.aload X35.here hx rfl (hb hby at_186) rfl rfl k_) ?_
  refine Go.st (S' := T35.setTop (mkF m 189 #[.val (.long q0), .second, .val (.long q1), .second, .val (.int p2), .val (.int p3), .val (.int p4), .val (.int i.toInt32), .val (.int n.toInt32), .val (.int f), .val (.ref b11), .val (.ref b32), .val (.int (n + i).toInt32), .val (.int (1 : Int32))] [(.int (0 : Int32)), (.ref b11), (.int (1 : Int32))])) (fun _ k_ => XS.iconst X35.here hx rfl (hb hby at_188) k_) ?_
  refine Go.st (S' := T35.setTop (mkF m 191 #[.val (.long q0), .second, .val (.long q1), .second, .val (.int p2), .val (.int p3), .val (.int p4), .val (.int i.toInt32), .val (.int n.toInt32), .val (.int f), .val (.ref b11), .val (.ref b32), .val (.int (n + i).toInt32), .val (.int (1 : Int32))] [(.int n.toInt32), (.int (0 : Int32)), (.ref b11), (.int (1 : Int32))])) (fun _ k_ => XS.iload X35.here hx rfl (hb hby at_189) rfl k_) ?_
  refine Go.st (S' := T35.setTop (mkF m 193 #[.val (.long q0), .second, .val (.long q1), .second, .val (.int p2), .val (.int p3), .val (.int p4), .val (.int i.toInt32), .val (.int n.toInt32), .val (.int f), .val (.ref b11), .val (.ref b32), .val (.int (n + i).toInt32), .val (.int (1 : Int32))] [(.int i.toInt32), (.int n.toInt32), (.int (0 : Int32)), (.ref b11), (.int (1 : Int32))])) (fun _ k_ => XS.iload X35.here hx rfl (hb hby at_191) rfl k_) ?_
  refine Go.st (S' := T35.setTop (mkF m 194 #[.val (.long q0), .second, .val (.long q1), .second, .val (.int p2), .val (.int p3), .val (.int p4), .val (.int i.toInt32), .val (.int n.toInt32), .val (.int f), .val (.ref b11), .val (.ref b32), .val (.int (n + i).toInt32), .val (.int (1 : Int32))] [(.long q0), (.int i.toInt32), (.int n.toInt32), (.int (0 : Int32)), (.ref b11), (.int (1 : Int32))])) (fun _ k_ => XS.lloadN X35.here hx rfl (hb hby at_193) rfl k_) ?_
  refine Go.st (S' := T35.setTop (mkF m 195 #[.val (.long q0), .second, .val (.long q1), .second, .val (.int p2), .val (.int p3), .val (.int p4), .val (.int i.toInt32), .val (.int n.toInt32), .val (.int f), .val (.ref b11), .val (.ref b32), .val (.int (n + i).toInt32), .val (.int (1 : Int32))] [(.long q1), (.long q0), (.int i.toInt32), (.int n.toInt32), (.int (0 : Int32)), (.ref b11), (.int (1 : Int32))])) (fun _ k_ => XS.lloadN X35.here hx rfl (hb hby at_194) rfl k_) ?_
  refine Go.st (S' := T35.setTop (mkF m 197 #[.val (.long q0), .second, .val (.long q1), .second, .val (.int p2), .val (.int p3), .val (.int p4), .val (.int i.toInt32), .val (.int n.toInt32), .val (.int f), .val (.ref b11), .val (.ref b32), .val (.int (n + i).toInt32), .val (.int (1 : Int32))] [(.int f), (.long q1), (.long q0), (.int i.toInt32), (.int n.toInt32), (.int (0 : Int32)), (.ref b11), (.int (1 : Int32))])) (fun _ k_ => XS.iload X35.here hx rfl (hb hby at_195) rfl k_) ?_
  obtain ⟨v36, T36, h36, L36, X36, e36, hQ36, st36⟩ := callSt X35 hx hZ hown (w7 hw) (w8 hw) (w9 hw) (w10 hw) (by decide) (W := 1) (argsL := [(.ref b11), (.int (0 : Int32)), (.int n.toInt32), (.int i.toInt32), (.long q0), (.long q1), (.int f)]) (rest := [(.int (1 : Int32))]) e35 (rm_ok l Z a0 hw b11 (0 : Int32) n.toInt32 i.toInt32 q0 q1 f ys35 h35 n0 Z0 A_b11 (by decide) (own_cell hW35 (by omega) (by omega) 0 (by decide))) (by decide) (by decide) pd2 rfl (g := (mkF m 197 #[.val (.long q0), .second, .val (.long q1), .second, .val (.int p2), .val (.int p3), .val (.int p4), .val (.int i.toInt32), .val (.int n.toInt32), .val (.int f), .val (.ref b11), .val (.ref b32), .val (.int (n + i).toInt32), .val (.int (1 : Int32))] [(.int f), (.long q1), (.long q0), (.int i.toInt32), (.int n.toInt32), (.int (0 : Int32)), (.ref b11), (.int (1 : Int32))])) rfl (by rw [hml]; rfl) rfl (by show 2 * 0 + _ ≤ _; exact Nat.le_of_eq rfl) (hb hby at_197) (by decide) (by decide)
  obtain ⟨rfl, Nq36, hh36⟩ := hQ36
  rw [hh36] at e36
  have N36 := Fr.app N35 Nq36
  refine Go.st (S' := T36.setTop (mkF m 200 #[.val (.long q0), .second, .val (.long q1), .second, .val (.int p2), .val (.int p3), .val (.int p4), .val (.int i.toInt32), .val (.int n.toInt32), .val (.int f), .val (.ref b11), .val (.ref b32), .val (.int (n + i).toInt32), .val (.int (1 : Int32))] [(.int (1 : Int32)), (.int (1 : Int32))])) (st36) ?_
  refine Go.st (S' := T36.setTop (mkF m 201 #[.val (.long q0), .second, .val (.long q1), .second, .val (.int p2), .val (.int p3), .val (.int p4), .val (.int i.toInt32), .val (.int n.toInt32), .val (.int f), .val (.ref b11), .val (.ref b32), .val (.int (n + i).toInt32), .val (.int (1 : Int32))] [(.int ((1 : Int32) &&& (1 : Int32)))])) (fun _ k_ => XS.iand X36.here hx rfl (hb hby at_200) rfl k_) ?_
  rw [show ((1 : Int32) &&& (1 : Int32)) = (1 : Int32) from (by decide)]
  refine Go.st (S' := T36.setTop (mkF m 203 #[.val (.long q0), .second, .val (.long q1), .second, .val (.int p2), .val (.int p3), .val (.int p4), .val (.int i.toInt32), .val (.int n.toInt32), .val (.int f), .val (.ref b11), .val (.ref b32), .val (.int (n + i).toInt32), .val (.int (1 : Int32))] [])) (fun _ k_ => XS.istore X36.here hx rfl (hb hby at_201) rfl (l' := #[.val (.long q0), .second, .val (.long q1), .second, .val (.int p2), .val (.int p3), .val (.int p4), .val (.int i.toInt32), .val (.int n.toInt32), .val (.int f), .val (.ref b11), .val (.ref b32), .val (.int (n + i).toInt32), .val (.int (1 : Int32))]) rfl k_) ?_
  refine Go.st (S' := T36.setTop (mkF m 205 #[.val (.long q0), .second, .val (.long q1), .second, .val (.int p2), .val (.int p3), .val (.int p4), .val (.int i.toInt32), .val (.int n.toInt32), .val (.int f), .val (.ref b11), .val (.ref b32), .val (.int (n + i).toInt32), .val (.int (1 : Int32))] [(.int (1 : Int32))])) (fun _ k_ => XS.iload X36.here hx rfl (hb hby at_203) rfl k_) ?_
  refine Go.st (S' := T36.setTop (mkF m 207 #[.val (.long q0), .second, .val (.long q1), .second, .val (.int p2), .val (.int p3), .val (.int p4), .val (.int i.toInt32), .val (.int n.toInt32), .val (.int f), .val (.ref b11), .val (.ref b32), .val (.int (n + i).toInt32), .val (.int (1 : Int32))] [(.ref b11), (.int (1 : Int32))])) (fun _ k_ => XS.aload X36.here hx rfl (hb hby at_205) rfl rfl k_) ?_
  refine Go.st (S' := T36.setTop (mkF m 208 #[.val (.long q0), .second, .val (.long q1), .second, .val (.int p2), .val (.int p3), .val (.int p4), .val (.int i.toInt32), .val (.int n.toInt32), .val (.int f), .val (.ref b11), .val (.ref b32), .val (.int (n + i).toInt32), .val (.int (1 : Int32))] [(.int (1 : Int32)), (.ref b11), (.int (1 : Int32))])) (fun _ k_ => XS.iconst X36.here hx rfl (hb hby at_207) k_) ?_
  refine Go.st (S' := T36.setTop (mkF m 210 #[.val (.long q0), .second, .val (.long q1), .second, .val (.int p2), .val (.int p3), .val (.int p4), .val (.int i.toInt32), .val (.int n.toInt32), .val (.int f), .val (.ref b11), .val (.ref b32), .val (.int (n + i).toInt32), .val (.int (1 : Int32))] [(.int n.toInt32), (.int (1 : Int32)), (.ref b11), (.int (1 : Int32))])) (fun _ k_ => XS.iload X36.here hx rfl (hb hby at_208) rfl k_) ?_
  refine Go.st (S' := T36.setTop (mkF m 212 #[.val (.long q0), .second, .val (.long q1), .second, .val (.int p2), .val (.int p3), .val (.int p4), .val (.int i.toInt32), .val (.int n.toInt32), .val (.int f), .val (.ref b11), .val (.ref b32), .val (.int (n + i).toInt32), .val (.int (1 : Int32))] [(.int i.toInt32), (.int n.toInt32), (.int (1 : Int32)), (.ref b11), (.int (1 : Int32))])) (fun _ k_ => XS.iload X36.here hx rfl (hb hby at_210) rfl k_) ?_
  refine Go.st (S' := T36.setTop (mkF m 213 #[.val (.long q0), .second, .val (.long q1), .second, .val (.int p2), .val (.int p3), .val (.int p4), .val (.int i.toInt32), .val (.int n.toInt32), .val (.int f), .val (.ref b11), .val (.ref b32), .val (.int (n + i).toInt32), .val (.int (1 : Int32))] [(.long q0), (.int i.toInt32), (.int n.toInt32), (.int (1 : Int32)), (.ref b11), (.int (1 : Int32))])) (fun _ k_ => XS.lloadN X36.here hx rfl (hb hby at_212) rfl k_) ?_
  refine Go.st (S' := T36.setTop (mkF m 214 #[.val (.long q0), .second, .val (.long q1), .second, .val (.int p2), .val (.int p3), .val (.int p4), .val (.int i.toInt32), .val (.int n.toInt32), .val (.int f), .val (.ref b11), .val (.ref b32), .val (.int (n + i).toInt32), .val (.int (1 : Int32))] [(.long q1), (.long q0), (.int i.toInt32), (.int n.toInt32), (.int (1 : Int32)), (.ref b11), (.int (1 : Int32))])) (fun _ k_ => XS.lloadN X36.here hx rfl (hb hby at_213) rfl k_) ?_
  refine Go.st (S' := T36.setTop (mkF m 216 #[.val (.long q0), .second, .val (.long q1), .second, .val (.int p2), .val (.int p3), .val (.int p4), .val (.int i.toInt32), .val (.int n.toInt32), .val (.int f), .val (.ref b11), .val (.ref b32), .val (.int (n + i).toInt32), .val (.int (1 : Int32))] [(.int f), (.long q1), (.long q0), (.int i.toInt32), (.int n.toInt32), (.int (1 : Int32)), (.ref b11), (.int (1 : Int32))])) (fun _ k_ => XS.iload X36.here hx rfl (hb hby at_214) rfl k_) ?_
  obtain ⟨v37, T37, h37, L37, X37, e37, hQ37, st37⟩ := callSt X36 hx hZ hown (w7 hw) (w8 hw) (w9 hw) (w10 hw) (by decide) (W := 1) (argsL := [(.ref b11), (.int (1 : Int32)), (.int n.toInt32), (.int i.toInt32), (.long q0), (.long q1), (.int f)]) (rest := [(.int (1 : Int32))]) e36 (rm_ok l Z a0 hw b11 (1 : Int32) n.toInt32 i.toInt32 q0 q1 f ys35 h35 n0 Z0 A_b11 (by decide) (own_cell hW35 (by omega) (by omega) 1 (by decide))) (by decide) (by decide) pd2 rfl (g := (mkF m 216 #[.val (.long q0), .second, .val (.long q1), .second, .val (.int p2), .val (.int p3), .val (.int p4), .val (.int i.toInt32), .val (.int n.toInt32), .val (.int f), .val (.ref b11), .val (.ref b32), .val (.int (n + i).toInt32), .val (.int (1 : Int32))] [(.int f), (.long q1), (.long q0), (.int i.toInt32), (.int n.toInt32), (.int (1 : Int32)), (.ref b11), (.int (1 : Int32))])) rfl (by rw [hml]; rfl) rfl (by show 2 * 0 + _ ≤ _; exact Nat.le_of_eq rfl) (hb hby at_216) (by decide) (by decide)
  obtain ⟨rfl, Nq37, hh37⟩ := hQ37
  rw [hh37] at e37
  have N37 := Fr.app N36 Nq37
  refine Go.st (S' := T37.setTop (mkF m 219 #[.val (.long q0), .second, .val (.long q1), .second, .val (.int p2), .val (.int p3), .val (.int p4), .val (.int i.toInt32), .val (.int n.toInt32), .val (.int f), .val (.ref b11), .val (.ref b32), .val (.int (n + i).toInt32), .val (.int (1 : Int32))] [(.int (1 : Int32)), (.int (1 : Int32))])) (st37) ?_
  refine Go.st (S' := T37.setTop (mkF m 220 #[.val (.long q0), .second, .val (.long q1), .second, .val (.int p2), .val (.int p3), .val (.int p4), .val (.int i.toInt32), .val (.int n.toInt32), .val (.int f), .val (.ref b11), .val (.ref b32), .val (.int (n + i).toInt32), .val (.int (1 : Int32))] [(.int ((1 : Int32) &&& (1 : Int32)))])) (fun _ k_ => XS.iand X37.here hx rfl (hb hby at_219) rfl k_) ?_
  rw [show ((1 : Int32) &&& (1 : Int32)) = (1 : Int32) from (by decide)]
  refine Go.st (S' := T37.setTop (mkF m 222 #[.val (.long q0), .second, .val (.long q1), .second, .val (.int p2), .val (.int p3), .val (.int p4), .val (.int i.toInt32), .val (.int n.toInt32), .val (.int f), .val (.ref b11), .val (.ref b32), .val (.int (n + i).toInt32), .val (.int (1 : Int32))] [])) (fun _ k_ => XS.istore X37.here hx rfl (hb hby at_220) rfl (l' := #[.val (.long q0), .second, .val (.long q1), .second, .val (.int p2), .val (.int p3), .val (.int p4), .val (.int i.toInt32), .val (.int n.toInt32), .val (.int f), .val (.ref b11), .val (.ref b32), .val (.int (n + i).toInt32), .val (.int (1 : Int32))]) rfl k_) ?_
  refine Go.st (S' := T37.setTop (mkF m 224 #[.val (.long q0), .second, .val (.long q1), .second, .val (.int p2), .val (.int p3), .val (.int p4), .val (.int i.toInt32), .val (.int n.toInt32), .val (.int f), .val (.ref b11), .val (.ref b32), .val (.int (n + i).toInt32), .val (.int (1 : Int32))] [(.int (1 : Int32))])) (fun _ k_ => XS.iload X37.here hx rfl (hb hby at_222) rfl k_) ?_
  refine Go.st (S' := T37.setTop (mkF m 226 #[.val (.long q0), .second, .val (.long q1), .second, .val (.int p2), .val (.int p3), .val (.int p4), .val (.int i.toInt32), .val (.int n.toInt32), .val (.int f), .val (.ref b11), .val (.ref b32), .val (.int (n + i).toInt32), .val (.int (1 : Int32))] [(.ref b11), (.int (1 : Int32))])) (fun _ k_ => XS.aload X37.here hx rfl (hb hby at_224) rfl rfl k_) ?_
  refine Go.st (S' := T37.setTop (mkF m 227 #[.val (.long q0), .second, .val (.long q1), .second, .val (.int p2), .val (.int p3), .val (.int p4), .val (.int i.toInt32), .val (.int n.toInt32), .val (.int f), .val (.ref b11), .val (.ref b32), .val (.int (n + i).toInt32), .val (.int (1 : Int32))] [(.int (2 : Int32)), (.ref b11), (.int (1 : Int32))])) (fun _ k_ => XS.iconst X37.here hx rfl (hb hby at_226) k_) ?_
  refine Go.st (S' := T37.setTop (mkF m 229 #[.val (.long q0), .second, .val (.long q1), .second, .val (.int p2), .val (.int p3), .val (.int p4), .val (.int i.toInt32), .val (.int n.toInt32), .val (.int f), .val (.ref b11), .val (.ref b32), .val (.int (n + i).toInt32), .val (.int (1 : Int32))] [(.int n.toInt32), (.int (2 : Int32)), (.ref b11), (.int (1 : Int32))])) (fun _ k_ => XS.iload X37.here hx rfl (hb hby at_227) rfl k_) ?_
  refine Go.st (S' := T37.setTop (mkF m 231 #[.val (.long q0), .second, .val (.long q1), .second, .val (.int p2), .val (.int p3), .val (.int p4), .val (.int i.toInt32), .val (.int n.toInt32), .val (.int f), .val (.ref b11), .val (.ref b32), .val (.int (n + i).toInt32), .val (.int (1 : Int32))] [(.int i.toInt32), (.int n.toInt32), (.int (2 : Int32)), (.ref b11), (.int (1 : Int32))])) (fun _ k_ => XS.iload X37.here hx rfl (hb hby at_229) rfl k_) ?_
  refine Go.st (S' := T37.setTop (mkF m 232 #[.val (.long q0), .second, .val (.long q1), .second, .val (.int p2), .val (.int p3), .val (.int p4), .val (.int i.toInt32), .val (.int n.toInt32), .val (.int f), .val (.ref b11), .val (.ref b32), .val (.int (n + i).toInt32), .val (.int (1 : Int32))] [(.long q0), (.int i.toInt32), (.int n.toInt32), (.int (2 : Int32)), (.ref b11), (.int (1 : Int32))])) (fun _ k_ => XS.lloadN X37.here hx rfl (hb hby at_231) rfl k_) ?_
  refine Go.st (S' := T37.setTop (mkF m 233 #[.val (.long q0), .second, .val (.long q1), .second, .val (.int p2), .val (.int p3), .val (.int p4), .val (.int i.toInt32), .val (.int n.toInt32), .val (.int f), .val (.ref b11), .val (.ref b32), .val (.int (n + i).toInt32), .val (.int (1 : Int32))] [(.long q1), (.long q0), (.int i.toInt32), (.int n.toInt32), (.int (2 : Int32)), (.ref b11), (.int (1 : Int32))])) (fun _ k_ => XS.lloadN X37.here hx rfl (hb hby at_232) rfl k_) ?_
  refine Go.st (S' := T37.setTop (mkF m 235 #[.val (.long q0), .second, .val (.long q1), .second, .val (.int p2), .val (.int p3), .val (.int p4), .val (.int i.toInt32), .val (.int n.toInt32), .val (.int f), .val (.ref b11), .val (.ref b32), .val (.int (n + i).toInt32), .val (.int (1 : Int32))] [(.int f), (.long q1), (.long q0), (.int i.toInt32), (.int n.toInt32), (.int (2 : Int32)), (.ref b11), (.int (1 : Int32))])) (fun _ k_ => XS.iload X37.here hx rfl (hb hby at_233) rfl k_) ?_
  obtain ⟨v38, T38, h38, L38, X38, e38, hQ38, st38⟩ := callSt X37 hx hZ hown (w7 hw) (w8 hw) (w9 hw) (w10 hw) (by decide) (W := 1) (argsL := [(.ref b11), (.int (2 : Int32)), (.int n.toInt32), (.int i.toInt32), (.long q0), (.long q1), (.int f)]) (rest := [(.int (1 : Int32))]) e37 (rm_ok l Z a0 hw b11 (2 : Int32) n.toInt32 i.toInt32 q0 q1 f ys35 h35 n0 Z0 A_b11 (by decide) (own_cell hW35 (by omega) (by omega) 2 (by decide))) (by decide) (by decide) pd2 rfl (g := (mkF m 235 #[.val (.long q0), .second, .val (.long q1), .second, .val (.int p2), .val (.int p3), .val (.int p4), .val (.int i.toInt32), .val (.int n.toInt32), .val (.int f), .val (.ref b11), .val (.ref b32), .val (.int (n + i).toInt32), .val (.int (1 : Int32))] [(.int f), (.long q1), (.long q0), (.int i.toInt32), (.int n.toInt32), (.int (2 : Int32)), (.ref b11), (.int (1 : Int32))])) rfl (by rw [hml]; rfl) rfl (by show 2 * 0 + _ ≤ _; exact Nat.le_of_eq rfl) (hb hby at_235) (by decide) (by decide)
  obtain ⟨rfl, Nq38, hh38⟩ := hQ38
  rw [hh38] at e38
  have N38 := Fr.app N37 Nq38
  refine Go.st (S' := T38.setTop (mkF m 238 #[.val (.long q0), .second, .val (.long q1), .second, .val (.int p2), .val (.int p3), .val (.int p4), .val (.int i.toInt32), .val (.int n.toInt32), .val (.int f), .val (.ref b11), .val (.ref b32), .val (.int (n + i).toInt32), .val (.int (1 : Int32))] [(.int (1 : Int32)), (.int (1 : Int32))])) (st38) ?_
  refine Go.st (S' := T38.setTop (mkF m 239 #[.val (.long q0), .second, .val (.long q1), .second, .val (.int p2), .val (.int p3), .val (.int p4), .val (.int i.toInt32), .val (.int n.toInt32), .val (.int f), .val (.ref b11), .val (.ref b32), .val (.int (n + i).toInt32), .val (.int (1 : Int32))] [(.int ((1 : Int32) &&& (1 : Int32)))])) (fun _ k_ => XS.iand X38.here hx rfl (hb hby at_238) rfl k_) ?_
  rw [show ((1 : Int32) &&& (1 : Int32)) = (1 : Int32) from (by decide)]
  refine Go.st (S' := T38.setTop (mkF m 241 #[.val (.long q0), .second, .val (.long q1), .second, .val (.int p2), .val (.int p3), .val (.int p4), .val (.int i.toInt32), .val (.int n.toInt32), .val (.int f), .val (.ref b11), .val (.ref b32), .val (.int (n + i).toInt32), .val (.int (1 : Int32))] [])) (fun _ k_ => XS.istore X38.here hx rfl (hb hby at_239) rfl (l' := #[.val (.long q0), .second, .val (.long q1), .second, .val (.int p2), .val (.int p3), .val (.int p4), .val (.int i.toInt32), .val (.int n.toInt32), .val (.int f), .val (.ref b11), .val (.ref b32), .val (.int (n + i).toInt32), .val (.int (1 : Int32))]) rfl k_) ?_
  refine Go.st (S' := T38.setTop (mkF m 243 #[.val (.long q0), .second, .val (.long q1), .second, .val (.int p2), .val (.int p3), .val (.int p4), .val (.int i.toInt32), .val (.int n.toInt32), .val (.int f), .val (.ref b11), .val (.ref b32), .val (.int (n + i).toInt32), .val (.int (1 : Int32))] [(.int (1 : Int32))])) (fun _ k_ => XS.iload X38.here hx rfl (hb hby at_241) rfl k_) ?_
  refine Go.st (S' := T38.setTop (mkF m 245 #[.val (.long q0), .second, .val (.long q1), .second, .val (.int p2), .val (.int p3), .val (.int p4), .val (.int i.toInt32), .val (.int n.toInt32), .val (.int f), .val (.ref b11), .val (.ref b32), .val (.int (n + i).toInt32), .val (.int (1 : Int32))] [(.ref b11), (.int (1 : Int32))])) (fun _ k_ => XS.aload X38.here hx rfl (hb hby at_243) rfl rfl k_) ?_
  refine Go.st (S' := T38.setTop (mkF m 246 #[.val (.long q0), .second, .val (.long q1), .second, .val (.int p2), .val (.int p3), .val (.int p4), .val (.int i.toInt32), .val (.int n.toInt32), .val (.int f), .val (.ref b11), .val (.ref b32), .val (.int (n + i).toInt32), .val (.int (1 : Int32))] [(.int (3 : Int32)), (.ref b11), (.int (1 : Int32))])) (fun _ k_ => XS.iconst X38.here hx rfl (hb hby at_245) k_) ?_
  refine Go.st (S' := T38.setTop (mkF m 248 #[.val (.long q0), .second, .val (.long q1), .second, .val (.int p2), .val (.int p3), .val (.int p4), .val (.int i.toInt32), .val (.int n.toInt32), .val (.int f), .val (.ref b11), .val (.ref b32), .val (.int (n + i).toInt32), .val (.int (1 : Int32))] [(.int n.toInt32), (.int (3 : Int32)), (.ref b11), (.int (1 : Int32))])) (fun _ k_ => XS.iload X38.here hx rfl (hb hby at_246) rfl k_) ?_
  refine Go.st (S' := T38.setTop (mkF m 250 #[.val (.long q0), .second, .val (.long q1), .second, .val (.int p2), .val (.int p3), .val (.int p4), .val (.int i.toInt32), .val (.int n.toInt32), .val (.int f), .val (.ref b11), .val (.ref b32), .val (.int (n + i).toInt32), .val (.int (1 : Int32))] [(.int i.toInt32), (.int n.toInt32), (.int (3 : Int32)), (.ref b11), (.int (1 : Int32))])) (fun _ k_ => XS.iload X38.here hx rfl (hb hby at_248) rfl k_) ?_
  refine Go.st (S' := T38.setTop (mkF m 251 #[.val (.long q0), .second, .val (.long q1), .second, .val (.int p2), .val (.int p3), .val (.int p4), .val (.int i.toInt32), .val (.int n.toInt32), .val (.int f), .val (.ref b11), .val (.ref b32), .val (.int (n + i).toInt32), .val (.int (1 : Int32))] [(.long q0), (.int i.toInt32), (.int n.toInt32), (.int (3 : Int32)), (.ref b11), (.int (1 : Int32))])) (fun _ k_ => XS.lloadN X38.here hx rfl (hb hby at_250) rfl k_) ?_
  refine Go.st (S' := T38.setTop (mkF m 252 #[.val (.long q0), .second, .val (.long q1), .second, .val (.int p2), .val (.int p3), .val (.int p4), .val (.int i.toInt32), .val (.int n.toInt32), .val (.int f), .val (.ref b11), .val (.ref b32), .val (.int (n + i).toInt32), .val (.int (1 : Int32))] [(.long q1), (.long q0), (.int i.toInt32), (.int n.toInt32), (.int (3 : Int32)), (.ref b11), (.int (1 : Int32))])) (fun _ k_ => XS.lloadN X38.here hx rfl (hb hby at_251) rfl k_) ?_
  refine Go.st (S' := T38.setTop (mkF m 254 #[.val (.long q0), .second, .val (.long q1), .second, .val (.int p2), .val (.int p3), .val (.int p4), .val (.int i.toInt32), .val (.int n.toInt32), .val (.int f), .val (.ref b11), .val (.ref b32), .val (.int (n + i).toInt32), .val (.int (1 : Int32))] [(.int f), (.long q1), (.long q0), (.int i.toInt32), (.int n.toInt32), (.int (3 : Int32)), (.ref b11), (.int (1 : Int32))])) (fun _ k_ => XS.iload X38.here hx rfl (hb hby at_252) rfl k_) ?_
  obtain ⟨v39, T39, h39, L39, X39, e39, hQ39, st39⟩ := callSt X38 hx hZ hown (w7 hw) (w8 hw) (w9 hw) (w10 hw) (by decide) (W := 1) (argsL := [(.ref b11), (.int (3 : Int32)), (.int n.toInt32), (.int i.toInt32), (.long q0), (.long q1), (.int f)]) (rest := [(.int (1 : Int32))]) e38 (rm_ok l Z a0 hw b11 (3 : Int32) n.toInt32 i.toInt32 q0 q1 f ys35 h35 n0 Z0 A_b11 (by decide) (own_cell hW35 (by omega) (by omega) 3 (by decide))) (by decide) (by decide) pd2 rfl (g := (mkF m 254 #[.val (.long q0), .second, .val (.long q1), .second, .val (.int p2), .val (.int p3), .val (.int p4), .val (.int i.toInt32), .val (.int n.toInt32), .val (.int f), .val (.ref b11), .val (.ref b32), .val (.int (n + i).toInt32), .val (.int (1 : Int32))] [(.int f), (.long q1), (.long q0), (.int i.toInt32), (.int n.toInt32), (.int (3 : Int32)), (.ref b11), (.int (1 : Int32))])) rfl (by rw [hml]; rfl) rfl (by show 2 * 0 + _ ≤ _; exact Nat.le_of_eq rfl) (hb hby at_254) (by decide) (by decide)
  obtain ⟨rfl, Nq39, hh39⟩ := hQ39
  rw [hh39] at e39
  have N39 := Fr.app N38 Nq39
  refine Go.st (S' := T39.setTop (mkF m 257 #[.val (.long q0), .second, .val (.long q1), .second, .val (.int p2), .val (.int p3), .val (.int p4), .val (.int i.toInt32), .val (.int n.toInt32), .val (.int f), .val (.ref b11), .val (.ref b32), .val (.int (n + i).toInt32), .val (.int (1 : Int32))] [(.int (1 : Int32)), (.int (1 : Int32))])) (st39) ?_
  refine Go.st (S' := T39.setTop (mkF m 258 #[.val (.long q0), .second, .val (.long q1), .second, .val (.int p2), .val (.int p3), .val (.int p4), .val (.int i.toInt32), .val (.int n.toInt32), .val (.int f), .val (.ref b11), .val (.ref b32), .val (.int (n + i).toInt32), .val (.int (1 : Int32))] [(.int ((1 : Int32) &&& (1 : Int32)))])) (fun _ k_ => XS.iand X39.here hx rfl (hb hby at_257) rfl k_) ?_
  rw [show ((1 : Int32) &&& (1 : Int32)) = (1 : Int32) from (by decide)]
  refine Go.st (S' := T39.setTop (mkF m 260 #[.val (.long q0), .second, .val (.long q1), .second, .val (.int p2), .val (.int p3), .val (.int p4), .val (.int i.toInt32), .val (.int n.toInt32), .val (.int f), .val (.ref b11), .val (.ref b32), .val (.int (n + i).toInt32), .val (.int (1 : Int32))] [])) (fun _ k_ => XS.istore X39.here hx rfl (hb hby at_258) rfl (l' := #[.val (.long q0), .second, .val (.long q1), .second, .val (.int p2), .val (.int p3), .val (.int p4), .val (.int i.toInt32), .val (.int n.toInt32), .val (.int f), .val (.ref b11), .val (.ref b32), .val (.int (n + i).toInt32), .val (.int (1 : Int32))]) rfl k_) ?_
  refine Go.st (S' := T39.setTop (mkF m 262 #[.val (.long q0), .second, .val (.long q1), .second, .val (.int p2), .val (.int p3), .val (.int p4), .val (.int i.toInt32), .val (.int n.toInt32), .val (.int f), .val (.ref b11), .val (.ref b32), .val (.int (n + i).toInt32), .val (.int (1 : Int32))] [(.int (1 : Int32))])) (fun _ k_ => XS.iload X39.here hx rfl (hb hby at_260) rfl k_) ?_
  refine Go.st (S' := T39.setTop (mkF m 264 #[.val (.long q0), .second, .val (.long q1), .second, .val (.int p2), .val (.int p3), .val (.int p4), .val (.int i.toInt32), .val (.int n.toInt32), .val (.int f), .val (.ref b11), .val (.ref b32), .val (.int (n + i).toInt32), .val (.int (1 : Int32))] [(.ref b11), (.int (1 : Int32))])) (fun _ k_ => XS.aload X39.here hx rfl (hb hby at_262) rfl rfl k_) ?_
  refine Go.st (S' := T39.setTop (mkF m 265 #[.val (.long q0), .second, .val (.long q1), .second, .val (.int p2), .val (.int p3), .val (.int p4), .val (.int i.toInt32), .val (.int n.toInt32), .val (.int f), .val (.ref b11), .val (.ref b32), .val (.int (n + i).toInt32), .val (.int (1 : Int32))] [(.int (4 : Int32)), (.ref b11), (.int (1 : Int32))])) (fun _ k_ => XS.iconst X39.here hx rfl (hb hby at_264) k_) ?_
  refine Go.st (S' := T39.setTop (mkF m 267 #[.val (.long q0), .second, .val (.long q1), .second, .val (.int p2), .val (.int p3), .val (.int p4), .val (.int i.toInt32), .val (.int n.toInt32), .val (.int f), .val (.ref b11), .val (.ref b32), .val (.int (n + i).toInt32), .val (.int (1 : Int32))] [(.int n.toInt32), (.int (4 : Int32)), (.ref b11), (.int (1 : Int32))])) (fun _ k_ => XS.iload X39.here hx rfl (hb hby at_265) rfl k_) ?_
  refine Go.st (S' := T39.setTop (mkF m 269 #[.val (.long q0), .second, .val (.long q1), .second, .val (.int p2), .val (.int p3), .val (.int p4), .val (.int i.toInt32), .val (.int n.toInt32), .val (.int f), .val (.ref b11), .val (.ref b32), .val (.int (n + i).toInt32), .val (.int (1 : Int32))] [(.int i.toInt32), (.int n.toInt32), (.int (4 : Int32)), (.ref b11), (.int (1 : Int32))])) (fun _ k_ => XS.iload X39.here hx rfl (hb hby at_267) rfl k_) ?_
  refine Go.st (S' := T39.setTop (mkF m 270 #[.val (.long q0), .second, .val (.long q1), .second, .val (.int p2), .val (.int p3), .val (.int p4), .val (.int i.toInt32), .val (.int n.toInt32), .val (.int f), .val (.ref b11), .val (.ref b32), .val (.int (n + i).toInt32), .val (.int (1 : Int32))] [(.long q0), (.int i.toInt32), (.int n.toInt32), (.int (4 : Int32)), (.ref b11), (.int (1 : Int32))])) (fun _ k_ => XS.lloadN X39.here hx rfl (hb hby at_269) rfl k_) ?_
  refine Go.st (S' := T39.setTop (mkF m 271 #[.val (.long q0), .second, .val (.long q1), .second, .val (.int p2), .val (.int p3), .val (.int p4), .val (.int i.toInt32), .val (.int n.toInt32), .val (.int f), .val (.ref b11), .val (.ref b32), .val (.int (n + i).toInt32), .val (.int (1 : Int32))] [(.long q1), (.long q0), (.int i.toInt32), (.int n.toInt32), (.int (4 : Int32)), (.ref b11), (.int (1 : Int32))])) (fun _ k_ => XS.lloadN X39.here hx rfl (hb hby at_270) rfl k_) ?_
  refine Go.st (S' := T39.setTop (mkF m 273 #[.val (.long q0), .second, .val (.long q1), .second, .val (.int p2), .val (.int p3), .val (.int p4), .val (.int i.toInt32), .val (.int n.toInt32), .val (.int f), .val (.ref b11), .val (.ref b32), .val (.int (n + i).toInt32), .val (.int (1 : Int32))] [(.int f), (.long q1), (.long q0), (.int i.toInt32), (.int n.toInt32), (.int (4 : Int32)), (.ref b11), (.int (1 : Int32))])) (fun _ k_ => XS.iload X39.here hx rfl (hb hby at_271) rfl k_) ?_
  obtain ⟨v40, T40, h40, L40, X40, e40, hQ40, st40⟩ := callSt X39 hx hZ hown (w7 hw) (w8 hw) (w9 hw) (w10 hw) (by decide) (W := 1) (argsL := [(.ref b11), (.int (4 : Int32)), (.int n.toInt32), (.int i.toInt32), (.long q0), (.long q1), (.int f)]) (rest := [(.int (1 : Int32))]) e39 (rm_ok l Z a0 hw b11 (4 : Int32) n.toInt32 i.toInt32 q0 q1 f ys35 h35 n0 Z0 A_b11 (by decide) (own_cell hW35 (by omega) (by omega) 4 (by decide))) (by decide) (by decide) pd2 rfl (g := (mkF m 273 #[.val (.long q0), .second, .val (.long q1), .second, .val (.int p2), .val (.int p3), .val (.int p4), .val (.int i.toInt32), .val (.int n.toInt32), .val (.int f), .val (.ref b11), .val (.ref b32), .val (.int (n + i).toInt32), .val (.int (1 : Int32))] [(.int f), (.long q1), (.long q0), (.int i.toInt32), (.int n.toInt32), (.int (4 : Int32)), (.ref b11), (.int (1 : Int32))])) rfl (by rw [hml]; rfl) rfl (by show 2 * 0 + _ ≤ _; exact Nat.le_of_eq rfl) (hb hby at_273) (by decide) (by decide)
  obtain ⟨rfl, Nq40, hh40⟩ := hQ40
  rw [hh40] at e40
  have N40 := Fr.app N39 Nq40
  refine Go.st (S' := T40.setTop (mkF m 276 #[.val (.long q0), .second, .val (.long q1), .second, .val (.int p2), .val (.int p3), .val (.int p4), .val (.int i.toInt32), .val (.int n.toInt32), .val (.int f), .val (.ref b11), .val (.ref b32), .val (.int (n + i).toInt32), .val (.int (1 : Int32))] [(.int (1 : Int32)), (.int (1 : Int32))])) (st40) ?_
  refine Go.st (S' := T40.setTop (mkF m 277 #[.val (.long q0), .second, .val (.long q1), .second, .val (.int p2), .val (.int p3), .val (.int p4), .val (.int i.toInt32), .val (.int n.toInt32), .val (.int f), .val (.ref b11), .val (.ref b32), .val (.int (n + i).toInt32), .val (.int (1 : Int32))] [(.int ((1 : Int32) &&& (1 : Int32)))])) (fun _ k_ => XS.iand X40.here hx rfl (hb hby at_276) rfl k_) ?_
  rw [show ((1 : Int32) &&& (1 : Int32)) = (1 : Int32) from (by decide)]
  refine Go.st (S' := T40.setTop (mkF m 279 #[.val (.long q0), .second, .val (.long q1), .second, .val (.int p2), .val (.int p3), .val (.int p4), .val (.int i.toInt32), .val (.int n.toInt32), .val (.int f), .val (.ref b11), .val (.ref b32), .val (.int (n + i).toInt32), .val (.int (1 : Int32))] [])) (fun _ k_ => XS.istore X40.here hx rfl (hb hby at_277) rfl (l' := #[.val (.long q0), .second, .val (.long q1), .second, .val (.int p2), .val (.int p3), .val (.int p4), .val (.int i.toInt32), .val (.int n.toInt32), .val (.int f), .val (.ref b11), .val (.ref b32), .val (.int (n + i).toInt32), .val (.int (1 : Int32))]) rfl k_) ?_
  refine Go.st (S' := T40.setTop (mkF m 281 #[.val (.long q0), .second, .val (.long q1), .second, .val (.int p2), .val (.int p3), .val (.int p4), .val (.int i.toInt32), .val (.int n.toInt32), .val (.int f), .val (.ref b11), .val (.ref b32), .val (.int (n + i).toInt32), .val (.int (1 : Int32))] [(.int (1 : Int32))])) (fun _ k_ => XS.iload X40.here hx rfl (hb hby at_279) rfl k_) ?_
  refine Go.st (S' := T40.setTop (mkF m 283 #[.val (.long q0), .second, .val (.long q1), .second, .val (.int p2), .val (.int p3), .val (.int p4), .val (.int i.toInt32), .val (.int n.toInt32), .val (.int f), .val (.ref b11), .val (.ref b32), .val (.int (n + i).toInt32), .val (.int (1 : Int32))] [(.ref b11), (.int (1 : Int32))])) (fun _ k_ => XS.aload X40.here hx rfl (hb hby at_281) rfl rfl k_) ?_
  refine Go.st (S' := T40.setTop (mkF m 284 #[.val (.long q0), .second, .val (.long q1), .second, .val (.int p2), .val (.int p3), .val (.int p4), .val (.int i.toInt32), .val (.int n.toInt32), .val (.int f), .val (.ref b11), .val (.ref b32), .val (.int (n + i).toInt32), .val (.int (1 : Int32))] [(.int (5 : Int32)), (.ref b11), (.int (1 : Int32))])) (fun _ k_ => XS.iconst X40.here hx rfl (hb hby at_283) k_) ?_
  refine Go.st (S' := T40.setTop (mkF m 286 #[.val (.long q0), .second, .val (.long q1), .second, .val (.int p2), .val (.int p3), .val (.int p4), .val (.int i.toInt32), .val (.int n.toInt32), .val (.int f), .val (.ref b11), .val (.ref b32), .val (.int (n + i).toInt32), .val (.int (1 : Int32))] [(.int n.toInt32), (.int (5 : Int32)), (.ref b11), (.int (1 : Int32))])) (fun _ k_ => XS.iload X40.here hx rfl (hb hby at_284) rfl k_) ?_
  refine Go.st (S' := T40.setTop (mkF m 288 #[.val (.long q0), .second, .val (.long q1), .second, .val (.int p2), .val (.int p3), .val (.int p4), .val (.int i.toInt32), .val (.int n.toInt32), .val (.int f), .val (.ref b11), .val (.ref b32), .val (.int (n + i).toInt32), .val (.int (1 : Int32))] [(.int i.toInt32), (.int n.toInt32), (.int (5 : Int32)), (.ref b11), (.int (1 : Int32))])) (fun _ k_ => XS.iload X40.here hx rfl (hb hby at_286) rfl k_) ?_
  refine Go.st (S' := T40.setTop (mkF m 289 #[.val (.long q0), .second, .val (.long q1), .second, .val (.int p2), .val (.int p3), .val (.int p4), .val (.int i.toInt32), .val (.int n.toInt32), .val (.int f), .val (.ref b11), .val (.ref b32), .val (.int (n + i).toInt32), .val (.int (1 : Int32))] [(.long q0), (.int i.toInt32), (.int n.toInt32), (.int (5 : Int32)), (.ref b11), (.int (1 : Int32))])) (fun _ k_ => XS.lloadN X40.here hx rfl (hb hby at_288) rfl k_) ?_
  refine Go.st (S' := T40.setTop (mkF m 290 #[.val (.long q0), .second, .val (.long q1), .second, .val (.int p2), .val (.int p3), .val (.int p4), .val (.int i.toInt32), .val (.int n.toInt32), .val (.int f), .val (.ref b11), .val (.ref b32), .val (.int (n + i).toInt32), .val (.int (1 : Int32))] [(.long q1), (.long q0), (.int i.toInt32), (.int n.toInt32), (.int (5 : Int32)), (.ref b11), (.int (1 : Int32))])) (fun _ k_ => XS.lloadN X40.here hx rfl (hb hby at_289) rfl k_) ?_
  refine Go.st (S' := T40.setTop (mkF m 292 #[.val (.long q0), .second, .val (.long q1), .second, .val (.int p2), .val (.int p3), .val (.int p4), .val (.int i.toInt32), .val (.int n.toInt32), .val (.int f), .val (.ref b11), .val (.ref b32), .val (.int (n + i).toInt32), .val (.int (1 : Int32))] [(.int f), (.long q1), (.long q0), (.int i.toInt32), (.int n.toInt32), (.int (5 : Int32)), (.ref b11), (.int (1 : Int32))])) (fun _ k_ => XS.iload X40.here hx rfl (hb hby at_290) rfl k_) ?_
  obtain ⟨v41, T41, h41, L41, X41, e41, hQ41, st41⟩ := callSt X40 hx hZ hown (w7 hw) (w8 hw) (w9 hw) (w10 hw) (by decide) (W := 1) (argsL := [(.ref b11), (.int (5 : Int32)), (.int n.toInt32), (.int i.toInt32), (.long q0), (.long q1), (.int f)]) (rest := [(.int (1 : Int32))]) e40 (rm_ok l Z a0 hw b11 (5 : Int32) n.toInt32 i.toInt32 q0 q1 f ys35 h35 n0 Z0 A_b11 (by decide) (own_cell hW35 (by omega) (by omega) 5 (by decide))) (by decide) (by decide) pd2 rfl (g := (mkF m 292 #[.val (.long q0), .second, .val (.long q1), .second, .val (.int p2), .val (.int p3), .val (.int p4), .val (.int i.toInt32), .val (.int n.toInt32), .val (.int f), .val (.ref b11), .val (.ref b32), .val (.int (n + i).toInt32), .val (.int (1 : Int32))] [(.int f), (.long q1), (.long q0), (.int i.toInt32), (.int n.toInt32), (.int (5 : Int32)), (.ref b11), (.int (1 : Int32))])) rfl (by rw [hml]; rfl) rfl (by show 2 * 0 + _ ≤ _; exact Nat.le_of_eq rfl) (hb hby at_292) (by decide) (by decide)
  obtain ⟨rfl, Nq41, hh41⟩ := hQ41
  rw [hh41] at e41
  have N41 := Fr.app N40 Nq41
  refine Go.st (S' := T41.setTop (mkF m 295 #[.val (.long q0), .second, .val (.long q1), .second, .val (.int p2), .val (.int p3), .val (.int p4), .val (.int i.toInt32), .val (.int n.toInt32), .val (.int f), .val (.ref b11), .val (.ref b32), .val (.int (n + i).toInt32), .val (.int (1 : Int32))] [(.int (1 : Int32)), (.int (1 : Int32))])) (st41) ?_
  refine Go.st (S' := T41.setTop (mkF m 296 #[.val (.long q0), .second, .val (.long q1), .second, .val (.int p2), .val (.int p3), .val (.int p4), .val (.int i.toInt32), .val (.int n.toInt32), .val (.int f), .val (.ref b11), .val (.ref b32), .val (.int (n + i).toInt32), .val (.int (1 : Int32))] [(.int ((1 : Int32) &&& (1 : Int32)))])) (fun _ k_ => XS.iand X41.here hx rfl (hb hby at_295) rfl k_) ?_
  rw [show ((1 : Int32) &&& (1 : Int32)) = (1 : Int32) from (by decide)]
  refine Go.st (S' := T41.setTop (mkF m 298 #[.val (.long q0), .second, .val (.long q1), .second, .val (.int p2), .val (.int p3), .val (.int p4), .val (.int i.toInt32), .val (.int n.toInt32), .val (.int f), .val (.ref b11), .val (.ref b32), .val (.int (n + i).toInt32), .val (.int (1 : Int32))] [])) (fun _ k_ => XS.istore X41.here hx rfl (hb hby at_296) rfl (l' := #[.val (.long q0), .second, .val (.long q1), .second, .val (.int p2), .val (.int p3), .val (.int p4), .val (.int i.toInt32), .val (.int n.toInt32), .val (.int f), .val (.ref b11), .val (.ref b32), .val (.int (n + i).toInt32), .val (.int (1 : Int32))]) rfl k_) ?_
  refine Go.st (S' := T41.setTop (mkF m 300 #[.val (.long q0), .second, .val (.long q1), .second, .val (.int p2), .val (.int p3), .val (.int p4), .val (.int i.toInt32), .val (.int n.toInt32), .val (.int f), .val (.ref b11), .val (.ref b32), .val (.int (n + i).toInt32), .val (.int (1 : Int32))] [(.int (1 : Int32))])) (fun _ k_ => XS.iload X41.here hx rfl (hb hby at_298) rfl k_) ?_
  refine Go.st (S' := T41.setTop (mkF m 302 #[.val (.long q0), .second, .val (.long q1), .second, .val (.int p2), .val (.int p3), .val (.int p4), .val (.int i.toInt32), .val (.int n.toInt32), .val (.int f), .val (.ref b11), .val (.ref b32), .val (.int (n + i).toInt32), .val (.int (1 : Int32))] [(.ref b11), (.int (1 : Int32))])) (fun _ k_ => XS.aload X41.here hx rfl (hb hby at_300) rfl rfl k_) ?_
  refine Go.st (S' := T41.setTop (mkF m 304 #[.val (.long q0), .second, .val (.long q1), .second, .val (.int p2), .val (.int p3), .val (.int p4), .val (.int i.toInt32), .val (.int n.toInt32), .val (.int f), .val (.ref b11), .val (.ref b32), .val (.int (n + i).toInt32), .val (.int (1 : Int32))] [(.int (6 : Int32)), (.ref b11), (.int (1 : Int32))])) (fun _ k_ => XS.bipush X41.here hx rfl (hb hby at_302) k_) ?_
  refine Go.st (S' := T41.setTop (mkF m 306 #[.val (.long q0), .second, .val (.long q1), .second, .val (.int p2), .val (.int p3), .val (.int p4), .val (.int i.toInt32), .val (.int n.toInt32), .val (.int f), .val (.ref b11), .val (.ref b32), .val (.int (n + i).toInt32), .val (.int (1 : Int32))] [(.int n.toInt32), (.int (6 : Int32)), (.ref b11), (.int (1 : Int32))])) (fun _ k_ => XS.iload X41.here hx rfl (hb hby at_304) rfl k_) ?_
  refine Go.st (S' := T41.setTop (mkF m 308 #[.val (.long q0), .second, .val (.long q1), .second, .val (.int p2), .val (.int p3), .val (.int p4), .val (.int i.toInt32), .val (.int n.toInt32), .val (.int f), .val (.ref b11), .val (.ref b32), .val (.int (n + i).toInt32), .val (.int (1 : Int32))] [(.int i.toInt32), (.int n.toInt32), (.int (6 : Int32)), (.ref b11), (.int (1 : Int32))])) (fun _ k_ => XS.iload X41.here hx rfl (hb hby at_306) rfl k_) ?_
  refine Go.st (S' := T41.setTop (mkF m 309 #[.val (.long q0), .second, .val (.long q1), .second, .val (.int p2), .val (.int p3), .val (.int p4), .val (.int i.toInt32), .val (.int n.toInt32), .val (.int f), .val (.ref b11), .val (.ref b32), .val (.int (n + i).toInt32), .val (.int (1 : Int32))] [(.long q0), (.int i.toInt32), (.int n.toInt32), (.int (6 : Int32)), (.ref b11), (.int (1 : Int32))])) (fun _ k_ => XS.lloadN X41.here hx rfl (hb hby at_308) rfl k_) ?_
  refine Go.st (S' := T41.setTop (mkF m 310 #[.val (.long q0), .second, .val (.long q1), .second, .val (.int p2), .val (.int p3), .val (.int p4), .val (.int i.toInt32), .val (.int n.toInt32), .val (.int f), .val (.ref b11), .val (.ref b32), .val (.int (n + i).toInt32), .val (.int (1 : Int32))] [(.long q1), (.long q0), (.int i.toInt32), (.int n.toInt32), (.int (6 : Int32)), (.ref b11), (.int (1 : Int32))])) (fun _ k_ => XS.lloadN X41.here hx rfl (hb hby at_309) rfl k_) ?_
  refine Go.st (S' := T41.setTop (mkF m 312 #[.val (.long q0), .second, .val (.long q1), .second, .val (.int p2), .val (.int p3), .val (.int p4), .val (.int i.toInt32), .val (.int n.toInt32), .val (.int f), .val (.ref b11), .val (.ref b32), .val (.int (n + i).toInt32), .val (.int (1 : Int32))] [(.int f), (.long q1), (.long q0), (.int i.toInt32), (.int n.toInt32), (.int (6 : Int32)), (.ref b11), (.int (1 : Int32))])) (fun _ k_ => XS.iload X41.here hx rfl (hb hby at_310) rfl k_) ?_
  obtain ⟨v42, T42, h42, L42, X42, e42, hQ42, st42⟩ := callSt X41 hx hZ hown (w7 hw) (w8 hw) (w9 hw) (w10 hw) (by decide) (W := 1) (argsL := [(.ref b11), (.int (6 : Int32)), (.int n.toInt32), (.int i.toInt32), (.long q0), (.long q1), (.int f)]) (rest := [(.int (1 : Int32))]) e41 (rm_ok l Z a0 hw b11 (6 : Int32) n.toInt32 i.toInt32 q0 q1 f ys35 h35 n0 Z0 A_b11 (by decide) (own_cell hW35 (by omega) (by omega) 6 (by decide))) (by decide) (by decide) pd2 rfl (g := (mkF m 312 #[.val (.long q0), .second, .val (.long q1), .second, .val (.int p2), .val (.int p3), .val (.int p4), .val (.int i.toInt32), .val (.int n.toInt32), .val (.int f), .val (.ref b11), .val (.ref b32), .val (.int (n + i).toInt32), .val (.int (1 : Int32))] [(.int f), (.long q1), (.long q0), (.int i.toInt32), (.int n.toInt32), (.int (6 : Int32)), (.ref b11), (.int (1 : Int32))])) rfl (by rw [hml]; rfl) rfl (by show 2 * 0 + _ ≤ _; exact Nat.le_of_eq rfl) (hb hby at_312) (by decide) (by decide)
  obtain ⟨rfl, Nq42, hh42⟩ := hQ42
  rw [hh42] at e42
  have N42 := Fr.app N41 Nq42
  refine Go.st (S' := T42.setTop (mkF m 315 #[.val (.long q0), .second, .val (.long q1), .second, .val (.int p2), .val (.int p3), .val (.int p4), .val (.int i.toInt32), .val (.int n.toInt32), .val (.int f), .val (.ref b11), .val (.ref b32), .val (.int (n + i).toInt32), .val (.int (1 : Int32))] [(.int (1 : Int32)), (.int (1 : Int32))])) (st42) ?_
  refine Go.st (S' := T42.setTop (mkF m 316 #[.val (.long q0), .second, .val (.long q1), .second, .val (.int p2), .val (.int p3), .val (.int p4), .val (.int i.toInt32), .val (.int n.toInt32), .val (.int f), .val (.ref b11), .val (.ref b32), .val (.int (n + i).toInt32), .val (.int (1 : Int32))] [(.int ((1 : Int32) &&& (1 : Int32)))])) (fun _ k_ => XS.iand X42.here hx rfl (hb hby at_315) rfl k_) ?_
  rw [show ((1 : Int32) &&& (1 : Int32)) = (1 : Int32) from (by decide)]
  refine Go.st (S' := T42.setTop (mkF m 318 #[.val (.long q0), .second, .val (.long q1), .second, .val (.int p2), .val (.int p3), .val (.int p4), .val (.int i.toInt32), .val (.int n.toInt32), .val (.int f), .val (.ref b11), .val (.ref b32), .val (.int (n + i).toInt32), .val (.int (1 : Int32))] [])) (fun _ k_ => XS.istore X42.here hx rfl (hb hby at_316) rfl (l' := #[.val (.long q0), .second, .val (.long q1), .second, .val (.int p2), .val (.int p3), .val (.int p4), .val (.int i.toInt32), .val (.int n.toInt32), .val (.int f), .val (.ref b11), .val (.ref b32), .val (.int (n + i).toInt32), .val (.int (1 : Int32))]) rfl k_) ?_
  refine Go.st (S' := T42.setTop (mkF m 320 #[.val (.long q0), .second, .val (.long q1), .second, .val (.int p2), .val (.int p3), .val (.int p4), .val (.int i.toInt32), .val (.int n.toInt32), .val (.int f), .val (.ref b11), .val (.ref b32), .val (.int (n + i).toInt32), .val (.int (1 : Int32))] [(.int (1 : Int32))])) (fun _ k_ => XS.iload X42.here hx rfl (hb hby at_318) rfl k_) ?_
  refine Go.st (S' := T42.setTop (mkF m 322 #[.val (.long q0), .second, .val (.long q1), .second, .val (.int p2), .val (.int p3), .val (.int p4), .val (.int i.toInt32), .val (.int n.toInt32), .val (.int f), .val (.ref b11), .val (.ref b32), .val (.int (n + i).toInt32), .val (.int (1 : Int32))] [(.ref b11), (.int (1 : Int32))])) (fun _ k_ => XS.aload X42.here hx rfl (hb hby at_320) rfl rfl k_) ?_
  refine Go.st (S' := T42.setTop (mkF m 324 #[.val (.long q0), .second, .val (.long q1), .second, .val (.int p2), .val (.int p3), .val (.int p4), .val (.int i.toInt32), .val (.int n.toInt32), .val (.int f), .val (.ref b11), .val (.ref b32), .val (.int (n + i).toInt32), .val (.int (1 : Int32))] [(.int (7 : Int32)), (.ref b11), (.int (1 : Int32))])) (fun _ k_ => XS.bipush X42.here hx rfl (hb hby at_322) k_) ?_
  refine Go.st (S' := T42.setTop (mkF m 326 #[.val (.long q0), .second, .val (.long q1), .second, .val (.int p2), .val (.int p3), .val (.int p4), .val (.int i.toInt32), .val (.int n.toInt32), .val (.int f), .val (.ref b11), .val (.ref b32), .val (.int (n + i).toInt32), .val (.int (1 : Int32))] [(.int n.toInt32), (.int (7 : Int32)), (.ref b11), (.int (1 : Int32))])) (fun _ k_ => XS.iload X42.here hx rfl (hb hby at_324) rfl k_) ?_
  refine Go.st (S' := T42.setTop (mkF m 328 #[.val (.long q0), .second, .val (.long q1), .second, .val (.int p2), .val (.int p3), .val (.int p4), .val (.int i.toInt32), .val (.int n.toInt32), .val (.int f), .val (.ref b11), .val (.ref b32), .val (.int (n + i).toInt32), .val (.int (1 : Int32))] [(.int i.toInt32), (.int n.toInt32), (.int (7 : Int32)), (.ref b11), (.int (1 : Int32))])) (fun _ k_ => XS.iload X42.here hx rfl (hb hby at_326) rfl k_) ?_
  refine Go.st (S' := T42.setTop (mkF m 329 #[.val (.long q0), .second, .val (.long q1), .second, .val (.int p2), .val (.int p3), .val (.int p4), .val (.int i.toInt32), .val (.int n.toInt32), .val (.int f), .val (.ref b11), .val (.ref b32), .val (.int (n + i).toInt32), .val (.int (1 : Int32))] [(.long q0), (.int i.toInt32), (.int n.toInt32), (.int (7 : Int32)), (.ref b11), (.int (1 : Int32))])) (fun _ k_ => XS.lloadN X42.here hx rfl (hb hby at_328) rfl k_) ?_
  refine Go.st (S' := T42.setTop (mkF m 330 #[.val (.long q0), .second, .val (.long q1), .second, .val (.int p2), .val (.int p3), .val (.int p4), .val (.int i.toInt32), .val (.int n.toInt32), .val (.int f), .val (.ref b11), .val (.ref b32), .val (.int (n + i).toInt32), .val (.int (1 : Int32))] [(.long q1), (.long q0), (.int i.toInt32), (.int n.toInt32), (.int (7 : Int32)), (.ref b11), (.int (1 : Int32))])) (fun _ k_ => XS.lloadN X42.here hx rfl (hb hby at_329) rfl k_) ?_
  refine Go.st (S' := T42.setTop (mkF m 332 #[.val (.long q0), .second, .val (.long q1), .second, .val (.int p2), .val (.int p3), .val (.int p4), .val (.int i.toInt32), .val (.int n.toInt32), .val (.int f), .val (.ref b11), .val (.ref b32), .val (.int (n + i).toInt32), .val (.int (1 : Int32))] [(.int f), (.long q1), (.long q0), (.int i.toInt32), (.int n.toInt32), (.int (7 : Int32)), (.ref b11), (.int (1 : Int32))])) (fun _ k_ => XS.iload X42.here hx rfl (hb hby at_330) rfl k_) ?_
  obtain ⟨v43, T43, h43, L43, X43, e43, hQ43, st43⟩ := callSt X42 hx hZ hown (w7 hw) (w8 hw) (w9 hw) (w10 hw) (by decide) (W := 1) (argsL := [(.ref b11), (.int (7 : Int32)), (.int n.toInt32), (.int i.toInt32), (.long q0), (.long q1), (.int f)]) (rest := [(.int (1 : Int32))]) e42 (rm_ok l Z a0 hw b11 (7 : Int32) n.toInt32 i.toInt32 q0 q1 f ys35 h35 n0 Z0 A_b11 (by decide) (own_cell hW35 (by omega) (by omega) 7 (by decide))) (by decide) (by decide) pd2 rfl (g := (mkF m 332 #[.val (.long q0), .second, .val (.long q1), .second, .val (.int p2), .val (.int p3), .val (.int p4), .val (.int i.toInt32), .val (.int n.toInt32), .val (.int f), .val (.ref b11), .val (.ref b32), .val (.int (n + i).toInt32), .val (.int (1 : Int32))] [(.int f), (.long q1), (.long q0), (.int i.toInt32), (.int n.toInt32), (.int (7 : Int32)), (.ref b11), (.int (1 : Int32))])) rfl (by rw [hml]; rfl) rfl (by show 2 * 0 + _ ≤ _; exact Nat.le_of_eq rfl) (hb hby at_332) (by decide) (by decide)
  obtain ⟨rfl, Nq43, hh43⟩ := hQ43
  rw [hh43] at e43
  have N43 := Fr.app N42 Nq43
  refine Go.st (S' := T43.setTop (mkF m 335 #[.val (.long q0), .second, .val (.long q1), .second, .val (.int p2), .val (.int p3), .val (.int p4), .val (.int i.toInt32), .val (.int n.toInt32), .val (.int f), .val (.ref b11), .val (.ref b32), .val (.int (n + i).toInt32), .val (.int (1 : Int32))] [(.int (1 : Int32)), (.int (1 : Int32))])) (st43) ?_
  refine Go.st (S' := T43.setTop (mkF m 336 #[.val (.long q0), .second, .val (.long q1), .second, .val (.int p2), .val (.int p3), .val (.int p4), .val (.int i.toInt32), .val (.int n.toInt32), .val (.int f), .val (.ref b11), .val (.ref b32), .val (.int (n + i).toInt32), .val (.int (1 : Int32))] [(.int ((1 : Int32) &&& (1 : Int32)))])) (fun _ k_ => XS.iand X43.here hx rfl (hb hby at_335) rfl k_) ?_
  rw [show ((1 : Int32) &&& (1 : Int32)) = (1 : Int32) from (by decide)]
  refine Go.st (S' := T43.setTop (mkF m 338 #[.val (.long q0), .second, .val (.long q1), .second, .val (.int p2), .val (.int p3), .val (.int p4), .val (.int i.toInt32), .val (.int n.toInt32), .val (.int f), .val (.ref b11), .val (.ref b32), .val (.int (n + i).toInt32), .val (.int (1 : Int32))] [])) (fun _ k_ => XS.istore X43.here hx rfl (hb hby at_336) rfl (l' := #[.val (.long q0), .second, .val (.long q1), .second, .val (.int p2), .val (.int p3), .val (.int p4), .val (.int i.toInt32), .val (.int n.toInt32), .val (.int f), .val (.ref b11), .val (.ref b32), .val (.int (n + i).toInt32), .val (.int (1 : Int32))]) rfl k_) ?_
  refine Go.st (S' := T43.setTop (mkF m 340 #[.val (.long q0), .second, .val (.long q1), .second, .val (.int p2), .val (.int p3), .val (.int p4), .val (.int i.toInt32), .val (.int n.toInt32), .val (.int f), .val (.ref b11), .val (.ref b32), .val (.int (n + i).toInt32), .val (.int (1 : Int32))] [(.int (1 : Int32))])) (fun _ k_ => XS.iload X43.here hx rfl (hb hby at_338) rfl k_) ?_
  refine Go.st (S' := T43.setTop (mkF m 342 #[.val (.long q0), .second, .val (.long q1), .second, .val (.int p2), .val (.int p3), .val (.int p4), .val (.int i.toInt32), .val (.int n.toInt32), .val (.int f), .val (.ref b11), .val (.ref b32), .val (.int (n + i).toInt32), .val (.int (1 : Int32))] [(.ref b11), (.int (1 : Int32))])) (fun _ k_ => XS.aload X43.here hx rfl (hb hby at_340) rfl rfl k_) ?_
  refine Go.st (S' := T43.setTop (mkF m 344 #[.val (.long q0), .second, .val (.long q1), .second, .val (.int p2), .val (.int p3), .val (.int p4), .val (.int i.toInt32), .val (.int n.toInt32), .val (.int f), .val (.ref b11), .val (.ref b32), .val (.int (n + i).toInt32), .val (.int (1 : Int32))] [(.int (8 : Int32)), (.ref b11), (.int (1 : Int32))])) (fun _ k_ => XS.bipush X43.here hx rfl (hb hby at_342) k_) ?_
  refine Go.st (S' := T43.setTop (mkF m 346 #[.val (.long q0), .second, .val (.long q1), .second, .val (.int p2), .val (.int p3), .val (.int p4), .val (.int i.toInt32), .val (.int n.toInt32), .val (.int f), .val (.ref b11), .val (.ref b32), .val (.int (n + i).toInt32), .val (.int (1 : Int32))] [(.int n.toInt32), (.int (8 : Int32)), (.ref b11), (.int (1 : Int32))])) (fun _ k_ => XS.iload X43.here hx rfl (hb hby at_344) rfl k_) ?_
  refine Go.st (S' := T43.setTop (mkF m 348 #[.val (.long q0), .second, .val (.long q1), .second, .val (.int p2), .val (.int p3), .val (.int p4), .val (.int i.toInt32), .val (.int n.toInt32), .val (.int f), .val (.ref b11), .val (.ref b32), .val (.int (n + i).toInt32), .val (.int (1 : Int32))] [(.int i.toInt32), (.int n.toInt32), (.int (8 : Int32)), (.ref b11), (.int (1 : Int32))])) (fun _ k_ => XS.iload X43.here hx rfl (hb hby at_346) rfl k_) ?_
  refine Go.st (S' := T43.setTop (mkF m 349 #[.val (.long q0), .second, .val (.long q1), .second, .val (.int p2), .val (.int p3), .val (.int p4), .val (.int i.toInt32), .val (.int n.toInt32), .val (.int f), .val (.ref b11), .val (.ref b32), .val (.int (n + i).toInt32), .val (.int (1 : Int32))] [(.long q0), (.int i.toInt32), (.int n.toInt32), (.int (8 : Int32)), (.ref b11), (.int (1 : Int32))])) (fun _ k_ => XS.lloadN X43.here hx rfl (hb hby at_348) rfl k_) ?_
  refine Go.st (S' := T43.setTop (mkF m 350 #[.val (.long q0), .second, .val (.long q1), .second, .val (.int p2), .val (.int p3), .val (.int p4), .val (.int i.toInt32), .val (.int n.toInt32), .val (.int f), .val (.ref b11), .val (.ref b32), .val (.int (n + i).toInt32), .val (.int (1 : Int32))] [(.long q1), (.long q0), (.int i.toInt32), (.int n.toInt32), (.int (8 : Int32)), (.ref b11), (.int (1 : Int32))])) (fun _ k_ => XS.lloadN X43.here hx rfl (hb hby at_349) rfl k_) ?_
  refine Go.st (S' := T43.setTop (mkF m 352 #[.val (.long q0), .second, .val (.long q1), .second, .val (.int p2), .val (.int p3), .val (.int p4), .val (.int i.toInt32), .val (.int n.toInt32), .val (.int f), .val (.ref b11), .val (.ref b32), .val (.int (n + i).toInt32), .val (.int (1 : Int32))] [(.int f), (.long q1), (.long q0), (.int i.toInt32), (.int n.toInt32), (.int (8 : Int32)), (.ref b11), (.int (1 : Int32))])) (fun _ k_ => XS.iload X43.here hx rfl (hb hby at_350) rfl k_) ?_
  obtain ⟨v44, T44, h44, L44, X44, e44, hQ44, st44⟩ := callSt X43 hx hZ hown (w7 hw) (w8 hw) (w9 hw) (w10 hw) (by decide) (W := 1) (argsL := [(.ref b11), (.int (8 : Int32)), (.int n.toInt32), (.int i.toInt32), (.long q0), (.long q1), (.int f)]) (rest := [(.int (1 : Int32))]) e43 (rm_ok l Z a0 hw b11 (8 : Int32) n.toInt32 i.toInt32 q0 q1 f ys35 h35 n0 Z0 A_b11 (by decide) (own_cell hW35 (by omega) (by omega) 8 (by decide))) (by decide) (by decide) pd2 rfl (g := (mkF m 352 #[.val (.long q0), .second, .val (.long q1), .second, .val (.int p2), .val (.int p3), .val (.int p4), .val (.int i.toInt32), .val (.int n.toInt32), .val (.int f), .val (.ref b11), .val (.ref b32), .val (.int (n + i).toInt32), .val (.int (1 : Int32))] [(.int f), (.long q1), (.long q0), (.int i.toInt32), (.int n.toInt32), (.int (8 : Int32)), (.ref b11), (.int (1 : Int32))])) rfl (by rw [hml]; rfl) rfl (by show 2 * 0 + _ ≤ _; exact Nat.le_of_eq rfl) (hb hby at_352) (by decide) (by decide)
  obtain ⟨rfl, Nq44, hh44⟩ := hQ44
  rw [hh44] at e44
  have N44 := Fr.app N43 Nq44
  refine Go.st (S' := T44.setTop (mkF m 355 #[.val (.long q0), .second, .val (.long q1), .second, .val (.int p2), .val (.int p3), .val (.int p4), .val (.int i.toInt32), .val (.int n.toInt32), .val (.int f), .val (.ref b11), .val (.ref b32), .val (.int (n + i).toInt32), .val (.int (1 : Int32))] [(.int (1 : Int32)), (.int (1 : Int32))])) (st44) ?_
  refine Go.st (S' := T44.setTop (mkF m 356 #[.val (.long q0), .second, .val (.long q1), .second, .val (.int p2), .val (.int p3), .val (.int p4), .val (.int i.toInt32), .val (.int n.toInt32), .val (.int f), .val (.ref b11), .val (.ref b32), .val (.int (n + i).toInt32), .val (.int (1 : Int32))] [(.int ((1 : Int32) &&& (1 : Int32)))])) (fun _ k_ => XS.iand X44.here hx rfl (hb hby at_355) rfl k_) ?_
  rw [show ((1 : Int32) &&& (1 : Int32)) = (1 : Int32) from (by decide)]
  refine Go.st (S' := T44.setTop (mkF m 358 #[.val (.long q0), .second, .val (.long q1), .second, .val (.int p2), .val (.int p3), .val (.int p4), .val (.int i.toInt32), .val (.int n.toInt32), .val (.int f), .val (.ref b11), .val (.ref b32), .val (.int (n + i).toInt32), .val (.int (1 : Int32))] [])) (fun _ k_ => XS.istore X44.here hx rfl (hb hby at_356) rfl (l' := #[.val (.long q0), .second, .val (.long q1), .second, .val (.int p2), .val (.int p3), .val (.int p4), .val (.int i.toInt32), .val (.int n.toInt32), .val (.int f), .val (.ref b11), .val (.ref b32), .val (.int (n + i).toInt32), .val (.int (1 : Int32))]) rfl k_) ?_
  refine Go.st (S' := T44.setTop (mkF m 360 #[.val (.long q0), .second, .val (.long q1), .second, .val (.int p2), .val (.int p3), .val (.int p4), .val (.int i.toInt32), .val (.int n.toInt32), .val (.int f), .val (.ref b11), .val (.ref b32), .val (.int (n + i).toInt32), .val (.int (1 : Int32))] [(.int (1 : Int32))])) (fun _ k_ => XS.iload X44.here hx rfl (hb hby at_358) rfl k_) ?_
  refine Go.st (S' := T44.setTop (mkF m 362 #[.val (.long q0), .second, .val (.long q1), .second, .val (.int p2), .val (.int p3), .val (.int p4), .val (.int i.toInt32), .val (.int n.toInt32), .val (.int f), .val (.ref b11), .val (.ref b32), .val (.int (n + i).toInt32), .val (.int (1 : Int32))] [(.ref b11), (.int (1 : Int32))])) (fun _ k_ => XS.aload X44.here hx rfl (hb hby at_360) rfl rfl k_) ?_
  refine Go.st (S' := T44.setTop (mkF m 364 #[.val (.long q0), .second, .val (.long q1), .second, .val (.int p2), .val (.int p3), .val (.int p4), .val (.int i.toInt32), .val (.int n.toInt32), .val (.int f), .val (.ref b11), .val (.ref b32), .val (.int (n + i).toInt32), .val (.int (1 : Int32))] [(.int (9 : Int32)), (.ref b11), (.int (1 : Int32))])) (fun _ k_ => XS.bipush X44.here hx rfl (hb hby at_362) k_) ?_
  refine Go.st (S' := T44.setTop (mkF m 366 #[.val (.long q0), .second, .val (.long q1), .second, .val (.int p2), .val (.int p3), .val (.int p4), .val (.int i.toInt32), .val (.int n.toInt32), .val (.int f), .val (.ref b11), .val (.ref b32), .val (.int (n + i).toInt32), .val (.int (1 : Int32))] [(.int n.toInt32), (.int (9 : Int32)), (.ref b11), (.int (1 : Int32))])) (fun _ k_ => XS.iload X44.here hx rfl (hb hby at_364) rfl k_) ?_
  refine Go.st (S' := T44.setTop (mkF m 368 #[.val (.long q0), .second, .val (.long q1), .second, .val (.int p2), .val (.int p3), .val (.int p4), .val (.int i.toInt32), .val (.int n.toInt32), .val (.int f), .val (.ref b11), .val (.ref b32), .val (.int (n + i).toInt32), .val (.int (1 : Int32))] [(.int i.toInt32), (.int n.toInt32), (.int (9 : Int32)), (.ref b11), (.int (1 : Int32))])) (fun _ k_ => XS.iload X44.here hx rfl (hb hby at_366) rfl k_) ?_
  refine Go.st (S' := T44.setTop (mkF m 369 #[.val (.long q0), .second, .val (.long q1), .second, .val (.int p2), .val (.int p3), .val (.int p4), .val (.int i.toInt32), .val (.int n.toInt32), .val (.int f), .val (.ref b11), .val (.ref b32), .val (.int (n + i).toInt32), .val (.int (1 : Int32))] [(.long q0), (.int i.toInt32), (.int n.toInt32), (.int (9 : Int32)), (.ref b11), (.int (1 : Int32))])) (fun _ k_ => XS.lloadN X44.here hx rfl (hb hby at_368) rfl k_) ?_
  refine Go.st (S' := T44.setTop (mkF m 370 #[.val (.long q0), .second, .val (.long q1), .second, .val (.int p2), .val (.int p3), .val (.int p4), .val (.int i.toInt32), .val (.int n.toInt32), .val (.int f), .val (.ref b11), .val (.ref b32), .val (.int (n + i).toInt32), .val (.int (1 : Int32))] [(.long q1), (.long q0), (.int i.toInt32), (.int n.toInt32), (.int (9 : Int32)), (.ref b11), (.int (1 : Int32))])) (fun _ k_ => XS.lloadN X44.here hx rfl (hb hby at_369) rfl k_) ?_
  refine Go.st (S' := T44.setTop (mkF m 372 #[.val (.long q0), .second, .val (.long q1), .second, .val (.int p2), .val (.int p3), .val (.int p4), .val (.int i.toInt32), .val (.int n.toInt32), .val (.int f), .val (.ref b11), .val (.ref b32), .val (.int (n + i).toInt32), .val (.int (1 : Int32))] [(.int f), (.long q1), (.long q0), (.int i.toInt32), (.int n.toInt32), (.int (9 : Int32)), (.ref b11), (.int (1 : Int32))])) (fun _ k_ => XS.iload X44.here hx rfl (hb hby at_370) rfl k_) ?_
  obtain ⟨v45, T45, h45, L45, X45, e45, hQ45, st45⟩ := callSt X44 hx hZ hown (w7 hw) (w8 hw) (w9 hw) (w10 hw) (by decide) (W := 1) (argsL := [(.ref b11), (.int (9 : Int32)), (.int n.toInt32), (.int i.toInt32), (.long q0), (.long q1), (.int f)]) (rest := [(.int (1 : Int32))]) e44 (rm_ok l Z a0 hw b11 (9 : Int32) n.toInt32 i.toInt32 q0 q1 f ys35 h35 n0 Z0 A_b11 (by decide) (own_cell hW35 (by omega) (by omega) 9 (by decide))) (by decide) (by decide) pd2 rfl (g := (mkF m 372 #[.val (.long q0), .second, .val (.long q1), .second, .val (.int p2), .val (.int p3), .val (.int p4), .val (.int i.toInt32), .val (.int n.toInt32), .val (.int f), .val (.ref b11), .val (.ref b32), .val (.int (n + i).toInt32), .val (.int (1 : Int32))] [(.int f), (.long q1), (.long q0), (.int i.toInt32), (.int n.toInt32), (.int (9 : Int32)), (.ref b11), (.int (1 : Int32))])) rfl (by rw [hml]; rfl) rfl (by show 2 * 0 + _ ≤ _; exact Nat.le_of_eq rfl) (hb hby at_372) (by decide) (by decide)
  obtain ⟨rfl, Nq45, hh45⟩ := hQ45
  rw [hh45] at e45
  have N45 := Fr.app N44 Nq45
  refine Go.st (S' := T45.setTop (mkF m 375 #[.val (.long q0), .second, .val (.long q1), .second, .val (.int p2), .val (.int p3), .val (.int p4), .val (.int i.toInt32), .val (.int n.toInt32), .val (.int f), .val (.ref b11), .val (.ref b32), .val (.int (n + i).toInt32), .val (.int (1 : Int32))] [(.int (1 : Int32)), (.int (1 : Int32))])) (st45) ?_
  refine Go.st (S' := T45.setTop (mkF m 376 #[.val (.long q0), .second, .val (.long q1), .second, .val (.int p2), .val (.int p3), .val (.int p4), .val (.int i.toInt32), .val (.int n.toInt32), .val (.int f), .val (.ref b11), .val (.ref b32), .val (.int (n + i).toInt32), .val (.int (1 : Int32))] [(.int ((1 : Int32) &&& (1 : Int32)))])) (fun _ k_ => XS.iand X45.here hx rfl (hb hby at_375) rfl k_) ?_
  rw [show ((1 : Int32) &&& (1 : Int32)) = (1 : Int32) from (by decide)]
  refine Go.st (S' := T45.setTop (mkF m 378 #[.val (.long q0), .second, .val (.long q1), .second, .val (.int p2), .val (.int p3), .val (.int p4), .val (.int i.toInt32), .val (.int n.toInt32), .val (.int f), .val (.ref b11), .val (.ref b32), .val (.int (n + i).toInt32), .val (.int (1 : Int32))] [])) (fun _ k_ => XS.istore X45.here hx rfl (hb hby at_376) rfl (l' := #[.val (.long q0), .second, .val (.long q1), .second, .val (.int p2), .val (.int p3), .val (.int p4), .val (.int i.toInt32), .val (.int n.toInt32), .val (.int f), .val (.ref b11), .val (.ref b32), .val (.int (n + i).toInt32), .val (.int (1 : Int32))]) rfl k_) ?_
  refine Go.st (S' := T45.setTop (mkF m 380 #[.val (.long q0), .second, .val (.long q1), .second, .val (.int p2), .val (.int p3), .val (.int p4), .val (.int i.toInt32), .val (.int n.toInt32), .val (.int f), .val (.ref b11), .val (.ref b32), .val (.int (n + i).toInt32), .val (.int (1 : Int32))] [(.int (1 : Int32))])) (fun _ k_ => XS.iload X45.here hx rfl (hb hby at_378) rfl k_) ?_
  refine Go.st (S' := T45.setTop (mkF m 382 #[.val (.long q0), .second, .val (.long q1), .second, .val (.int p2), .val (.int p3), .val (.int p4), .val (.int i.toInt32), .val (.int n.toInt32), .val (.int f), .val (.ref b11), .val (.ref b32), .val (.int (n + i).toInt32), .val (.int (1 : Int32))] [(.ref b11), (.int (1 : Int32))])) (fun _ k_ => XS.aload X45.here hx rfl (hb hby at_380) rfl rfl k_) ?_
  refine Go.st (S' := T45.setTop (mkF m 384 #[.val (.long q0), .second, .val (.long q1), .second, .val (.int p2), .val (.int p3), .val (.int p4), .val (.int i.toInt32), .val (.int n.toInt32), .val (.int f), .val (.ref b11), .val (.ref b32), .val (.int (n + i).toInt32), .val (.int (1 : Int32))] [(.int (10 : Int32)), (.ref b11), (.int (1 : Int32))])) (fun _ k_ => XS.bipush X45.here hx rfl (hb hby at_382) k_) ?_
  refine Go.st (S' := T45.setTop (mkF m 386 #[.val (.long q0), .second, .val (.long q1), .second, .val (.int p2), .val (.int p3), .val (.int p4), .val (.int i.toInt32), .val (.int n.toInt32), .val (.int f), .val (.ref b11), .val (.ref b32), .val (.int (n + i).toInt32), .val (.int (1 : Int32))] [(.int n.toInt32), (.int (10 : Int32)), (.ref b11), (.int (1 : Int32))])) (fun _ k_ => XS.iload X45.here hx rfl (hb hby at_384) rfl k_) ?_
  refine Go.st (S' := T45.setTop (mkF m 388 #[.val (.long q0), .second, .val (.long q1), .second, .val (.int p2), .val (.int p3), .val (.int p4), .val (.int i.toInt32), .val (.int n.toInt32), .val (.int f), .val (.ref b11), .val (.ref b32), .val (.int (n + i).toInt32), .val (.int (1 : Int32))] [(.int i.toInt32), (.int n.toInt32), (.int (10 : Int32)), (.ref b11), (.int (1 : Int32))])) (fun _ k_ => XS.iload X45.here hx rfl (hb hby at_386) rfl k_) ?_
  refine Go.st (S' := T45.setTop (mkF m 389 #[.val (.long q0), .second, .val (.long q1), .second, .val (.int p2), .val (.int p3), .val (.int p4), .val (.int i.toInt32), .val (.int n.toInt32), .val (.int f), .val (.ref b11), .val (.ref b32), .val (.int (n + i).toInt32), .val (.int (1 : Int32))] [(.long q0), (.int i.toInt32), (.int n.toInt32), (.int (10 : Int32)), (.ref b11), (.int (1 : Int32))])) (fun _ k_ => XS.lloadN X45.here hx rfl (hb hby at_388) rfl k_) ?_
  refine Go.st (S' := T45.setTop (mkF m 390 #[.val (.long q0), .second, .val (.long q1), .second, .val (.int p2), .val (.int p3), .val (.int p4), .val (.int i.toInt32), .val (.int n.toInt32), .val (.int f), .val (.ref b11), .val (.ref b32), .val (.int (n + i).toInt32), .val (.int (1 : Int32))] [(.long q1), (.long q0), (.int i.toInt32), (.int n.toInt32), (.int (10 : Int32)), (.ref b11), (.int (1 : Int32))])) (fun _ k_ => XS.lloadN X45.here hx rfl (hb hby at_389) rfl k_) ?_
  refine Go.st (S' := T45.setTop (mkF m 392 #[.val (.long q0), .second, .val (.long q1), .second, .val (.int p2), .val (.int p3), .val (.int p4), .val (.int i.toInt32), .val (.int n.toInt32), .val (.int f), .val (.ref b11), .val (.ref b32), .val (.int (n + i).toInt32), .val (.int (1 : Int32))] [(.int f), (.long q1), (.long q0), (.int i.toInt32), (.int n.toInt32), (.int (10 : Int32)), (.ref b11), (.int (1 : Int32))])) (fun _ k_ => XS.iload X45.here hx rfl (hb hby at_390) rfl k_) ?_
  obtain ⟨v46, T46, h46, L46, X46, e46, hQ46, st46⟩ := callSt X45 hx hZ hown (w7 hw) (w8 hw) (w9 hw) (w10 hw) (by decide) (W := 1) (argsL := [(.ref b11), (.int (10 : Int32)), (.int n.toInt32), (.int i.toInt32), (.long q0), (.long q1), (.int f)]) (rest := [(.int (1 : Int32))]) e45 (rm_ok l Z a0 hw b11 (10 : Int32) n.toInt32 i.toInt32 q0 q1 f ys35 h35 n0 Z0 A_b11 (by decide) (own_cell hW35 (by omega) (by omega) 10 (by decide))) (by decide) (by decide) pd2 rfl (g := (mkF m 392 #[.val (.long q0), .second, .val (.long q1), .second, .val (.int p2), .val (.int p3), .val (.int p4), .val (.int i.toInt32), .val (.int n.toInt32), .val (.int f), .val (.ref b11), .val (.ref b32), .val (.int (n + i).toInt32), .val (.int (1 : Int32))] [(.int f), (.long q1), (.long q0), (.int i.toInt32), (.int n.toInt32), (.int (10 : Int32)), (.ref b11), (.int (1 : Int32))])) rfl (by rw [hml]; rfl) rfl (by show 2 * 0 + _ ≤ _; exact Nat.le_of_eq rfl) (hb hby at_392) (by decide) (by decide)
  obtain ⟨rfl, Nq46, hh46⟩ := hQ46
  rw [hh46] at e46
  have N46 := Fr.app N45 Nq46
  refine Go.st (S' := T46.setTop (mkF m 395 #[.val (.long q0), .second, .val (.long q1), .second, .val (.int p2), .val (.int p3), .val (.int p4), .val (.int i.toInt32), .val (.int n.toInt32), .val (.int f), .val (.ref b11), .val (.ref b32), .val (.int (n + i).toInt32), .val (.int (1 : Int32))] [(.int (1 : Int32)), (.int (1 : Int32))])) (st46) ?_
  refine Go.st (S' := T46.setTop (mkF m 396 #[.val (.long q0), .second, .val (.long q1), .second, .val (.int p2), .val (.int p3), .val (.int p4), .val (.int i.toInt32), .val (.int n.toInt32), .val (.int f), .val (.ref b11), .val (.ref b32), .val (.int (n + i).toInt32), .val (.int (1 : Int32))] [(.int ((1 : Int32) &&& (1 : Int32)))])) (fun _ k_ => XS.iand X46.here hx rfl (hb hby at_395) rfl k_) ?_
  rw [show ((1 : Int32) &&& (1 : Int32)) = (1 : Int32) from (by decide)]
  refine Go.st (S' := T46.setTop (mkF m 398 #[.val (.long q0), .second, .val (.long q1), .second, .val (.int p2), .val (.int p3), .val (.int p4), .val (.int i.toInt32), .val (.int n.toInt32), .val (.int f), .val (.ref b11), .val (.ref b32), .val (.int (n + i).toInt32), .val (.int (1 : Int32))] [])) (fun _ k_ => XS.istore X46.here hx rfl (hb hby at_396) rfl (l' := #[.val (.long q0), .second, .val (.long q1), .second, .val (.int p2), .val (.int p3), .val (.int p4), .val (.int i.toInt32), .val (.int n.toInt32), .val (.int f), .val (.ref b11), .val (.ref b32), .val (.int (n + i).toInt32), .val (.int (1 : Int32))]) rfl k_) ?_
  refine Go.st (S' := T46.setTop (mkF m 400 #[.val (.long q0), .second, .val (.long q1), .second, .val (.int p2), .val (.int p3), .val (.int p4), .val (.int i.toInt32), .val (.int n.toInt32), .val (.int f), .val (.ref b11), .val (.ref b32), .val (.int (n + i).toInt32), .val (.int (1 : Int32))] [(.int (1 : Int32))])) (fun _ k_ => XS.iload X46.here hx rfl (hb hby at_398) rfl k_) ?_
  refine Go.st (S' := T46.setTop (mkF m 402 #[.val (.long q0), .second, .val (.long q1), .second, .val (.int p2), .val (.int p3), .val (.int p4), .val (.int i.toInt32), .val (.int n.toInt32), .val (.int f), .val (.ref b11), .val (.ref b32), .val (.int (n + i).toInt32), .val (.int (1 : Int32))] [(.ref b11), (.int (1 : Int32))])) (fun _ k_ => XS.aload X46.here hx rfl (hb hby at_400) rfl rfl k_) ?_
  refine Go.st (S' := T46.setTop (mkF m 404 #[.val (.long q0), .second, .val (.long q1), .second, .val (.int p2), .val (.int p3), .val (.int p4), .val (.int i.toInt32), .val (.int n.toInt32), .val (.int f), .val (.ref b11), .val (.ref b32), .val (.int (n + i).toInt32), .val (.int (1 : Int32))] [(.int (11 : Int32)), (.ref b11), (.int (1 : Int32))])) (fun _ k_ => XS.bipush X46.here hx rfl (hb hby at_402) k_) ?_
  refine Go.st (S' := T46.setTop (mkF m 406 #[.val (.long q0), .second, .val (.long q1), .second, .val (.int p2), .val (.int p3), .val (.int p4), .val (.int i.toInt32), .val (.int n.toInt32), .val (.int f), .val (.ref b11), .val (.ref b32), .val (.int (n + i).toInt32), .val (.int (1 : Int32))] [(.int n.toInt32), (.int (11 : Int32)), (.ref b11), (.int (1 : Int32))])) (fun _ k_ => XS.iload X46.here hx rfl (hb hby at_404) rfl k_) ?_
  refine Go.st (S' := T46.setTop (mkF m 408 #[.val (.long q0), .second, .val (.long q1), .second, .val (.int p2), .val (.int p3), .val (.int p4), .val (.int i.toInt32), .val (.int n.toInt32), .val (.int f), .val (.ref b11), .val (.ref b32), .val (.int (n + i).toInt32), .val (.int (1 : Int32))] [(.int i.toInt32), (.int n.toInt32), (.int (11 : Int32)), (.ref b11), (.int (1 : Int32))])) (fun _ k_ => XS.iload X46.here hx rfl (hb hby at_406) rfl k_) ?_
  refine Go.st (S' := T46.setTop (mkF m 409 #[.val (.long q0), .second, .val (.long q1), .second, .val (.int p2), .val (.int p3), .val (.int p4), .val (.int i.toInt32), .val (.int n.toInt32), .val (.int f), .val (.ref b11), .val (.ref b32), .val (.int (n + i).toInt32), .val (.int (1 : Int32))] [(.long q0), (.int i.toInt32), (.int n.toInt32), (.int (11 : Int32)), (.ref b11), (.int (1 : Int32))])) (fun _ k_ => XS.lloadN X46.here hx rfl (hb hby at_408) rfl k_) ?_
  refine Go.st (S' := T46.setTop (mkF m 410 #[.val (.long q0), .second, .val (.long q1), .second, .val (.int p2), .val (.int p3), .val (.int p4), .val (.int i.toInt32), .val (.int n.toInt32), .val (.int f), .val (.ref b11), .val (.ref b32), .val (.int (n + i).toInt32), .val (.int (1 : Int32))] [(.long q1), (.long q0), (.int i.toInt32), (.int n.toInt32), (.int (11 : Int32)), (.ref b11), (.int (1 : Int32))])) (fun _ k_ => XS.lloadN X46.here hx rfl (hb hby at_409) rfl k_) ?_
  refine Go.st (S' := T46.setTop (mkF m 412 #[.val (.long q0), .second, .val (.long q1), .second, .val (.int p2), .val (.int p3), .val (.int p4), .val (.int i.toInt32), .val (.int n.toInt32), .val (.int f), .val (.ref b11), .val (.ref b32), .val (.int (n + i).toInt32), .val (.int (1 : Int32))] [(.int f), (.long q1), (.long q0), (.int i.toInt32), (.int n.toInt32), (.int (11 : Int32)), (.ref b11), (.int (1 : Int32))])) (fun _ k_ => XS.iload X46.here hx rfl (hb hby at_410) rfl k_) ?_
  obtain ⟨v47, T47, h47, L47, X47, e47, hQ47, st47⟩ := callSt X46 hx hZ hown (w7 hw) (w8 hw) (w9 hw) (w10 hw) (by decide) (W := 1) (argsL := [(.ref b11), (.int (11 : Int32)), (.int n.toInt32), (.int i.toInt32), (.long q0), (.long q1), (.int f)]) (rest := [(.int (1 : Int32))]) e46 (rm_ok l Z a0 hw b11 (11 : Int32) n.toInt32 i.toInt32 q0 q1 f ys35 h35 n0 Z0 A_b11 (by decide) (own_cell hW35 (by omega) (by omega) 11 (by decide))) (by decide) (by decide) pd2 rfl (g := (mkF m 412 #[.val (.long q0), .second, .val (.long q1), .second, .val (.int p2), .val (.int p3), .val (.int p4), .val (.int i.toInt32), .val (.int n.toInt32), .val (.int f), .val (.ref b11), .val (.ref b32), .val (.int (n + i).toInt32), .val (.int (1 : Int32))] [(.int f), (.long q1), (.long q0), (.int i.toInt32), (.int n.toInt32), (.int (11 : Int32)), (.ref b11), (.int (1 : Int32))])) rfl (by rw [hml]; rfl) rfl (by show 2 * 0 + _ ≤ _; exact Nat.le_of_eq rfl) (hb hby at_412) (by decide) (by decide)
  obtain ⟨rfl, Nq47, hh47⟩ := hQ47
  rw [hh47] at e47
  have N47 := Fr.app N46 Nq47
  refine Go.st (S' := T47.setTop (mkF m 415 #[.val (.long q0), .second, .val (.long q1), .second, .val (.int p2), .val (.int p3), .val (.int p4), .val (.int i.toInt32), .val (.int n.toInt32), .val (.int f), .val (.ref b11), .val (.ref b32), .val (.int (n + i).toInt32), .val (.int (1 : Int32))] [(.int (1 : Int32)), (.int (1 : Int32))])) (st47) ?_
  refine Go.st (S' := T47.setTop (mkF m 416 #[.val (.long q0), .second, .val (.long q1), .second, .val (.int p2), .val (.int p3), .val (.int p4), .val (.int i.toInt32), .val (.int n.toInt32), .val (.int f), .val (.ref b11), .val (.ref b32), .val (.int (n + i).toInt32), .val (.int (1 : Int32))] [(.int ((1 : Int32) &&& (1 : Int32)))])) (fun _ k_ => XS.iand X47.here hx rfl (hb hby at_415) rfl k_) ?_
  rw [show ((1 : Int32) &&& (1 : Int32)) = (1 : Int32) from (by decide)]
  refine Go.st (S' := T47.setTop (mkF m 418 #[.val (.long q0), .second, .val (.long q1), .second, .val (.int p2), .val (.int p3), .val (.int p4), .val (.int i.toInt32), .val (.int n.toInt32), .val (.int f), .val (.ref b11), .val (.ref b32), .val (.int (n + i).toInt32), .val (.int (1 : Int32))] [])) (fun _ k_ => XS.istore X47.here hx rfl (hb hby at_416) rfl (l' := #[.val (.long q0), .second, .val (.long q1), .second, .val (.int p2), .val (.int p3), .val (.int p4), .val (.int i.toInt32), .val (.int n.toInt32), .val (.int f), .val (.ref b11), .val (.ref b32), .val (.int (n + i).toInt32), .val (.int (1 : Int32))]) rfl k_) ?_
  refine Go.st (S' := T47.setTop (mkF m 420 #[.val (.long q0), .second, .val (.long q1), .second, .val (.int p2), .val (.int p3), .val (.int p4), .val (.int i.toInt32), .val (.int n.toInt32), .val (.int f), .val (.ref b11), .val (.ref b32), .val (.int (n + i).toInt32), .val (.int (1 : Int32))] [(.int (1 : Int32))])) (fun _ k_ => XS.iload X47.here hx rfl (hb hby at_418) rfl k_) ?_
  refine Go.st (S' := T47.setTop (mkF m 422 #[.val (.long q0), .second, .val (.long q1), .second, .val (.int p2), .val (.int p3), .val (.int p4), .val (.int i.toInt32), .val (.int n.toInt32), .val (.int f), .val (.ref b11), .val (.ref b32), .val (.int (n + i).toInt32), .val (.int (1 : Int32))] [(.ref b11), (.int (1 : Int32))])) (fun _ k_ => XS.aload X47.here hx rfl (hb hby at_420) rfl rfl k_) ?_
  refine Go.st (S' := T47.setTop (mkF m 424 #[.val (.long q0), .second, .val (.long q1), .second, .val (.int p2), .val (.int p3), .val (.int p4), .val (.int i.toInt32), .val (.int n.toInt32), .val (.int f), .val (.ref b11), .val (.ref b32), .val (.int (n + i).toInt32), .val (.int (1 : Int32))] [(.int (12 : Int32)), (.ref b11), (.int (1 : Int32))])) (fun _ k_ => XS.bipush X47.here hx rfl (hb hby at_422) k_) ?_
  refine Go.st (S' := T47.setTop (mkF m 426 #[.val (.long q0), .second, .val (.long q1), .second, .val (.int p2), .val (.int p3), .val (.int p4), .val (.int i.toInt32), .val (.int n.toInt32), .val (.int f), .val (.ref b11), .val (.ref b32), .val (.int (n + i).toInt32), .val (.int (1 : Int32))] [(.int n.toInt32), (.int (12 : Int32)), (.ref b11), (.int (1 : Int32))])) (fun _ k_ => XS.iload X47.here hx rfl (hb hby at_424) rfl k_) ?_
  refine Go.st (S' := T47.setTop (mkF m 428 #[.val (.long q0), .second, .val (.long q1), .second, .val (.int p2), .val (.int p3), .val (.int p4), .val (.int i.toInt32), .val (.int n.toInt32), .val (.int f), .val (.ref b11), .val (.ref b32), .val (.int (n + i).toInt32), .val (.int (1 : Int32))] [(.int i.toInt32), (.int n.toInt32), (.int (12 : Int32)), (.ref b11), (.int (1 : Int32))])) (fun _ k_ => XS.iload X47.here hx rfl (hb hby at_426) rfl k_) ?_
  refine Go.st (S' := T47.setTop (mkF m 429 #[.val (.long q0), .second, .val (.long q1), .second, .val (.int p2), .val (.int p3), .val (.int p4), .val (.int i.toInt32), .val (.int n.toInt32), .val (.int f), .val (.ref b11), .val (.ref b32), .val (.int (n + i).toInt32), .val (.int (1 : Int32))] [(.long q0), (.int i.toInt32), (.int n.toInt32), (.int (12 : Int32)), (.ref b11), (.int (1 : Int32))])) (fun _ k_ => XS.lloadN X47.here hx rfl (hb hby at_428) rfl k_) ?_
  refine Go.st (S' := T47.setTop (mkF m 430 #[.val (.long q0), .second, .val (.long q1), .second, .val (.int p2), .val (.int p3), .val (.int p4), .val (.int i.toInt32), .val (.int n.toInt32), .val (.int f), .val (.ref b11), .val (.ref b32), .val (.int (n + i).toInt32), .val (.int (1 : Int32))] [(.long q1), (.long q0), (.int i.toInt32), (.int n.toInt32), (.int (12 : Int32)), (.ref b11), (.int (1 : Int32))])) (fun _ k_ => XS.lloadN X47.here hx rfl (hb hby at_429) rfl k_) ?_
  refine Go.st (S' := T47.setTop (mkF m 432 #[.val (.long q0), .second, .val (.long q1), .second, .val (.int p2), .val (.int p3), .val (.int p4), .val (.int i.toInt32), .val (.int n.toInt32), .val (.int f), .val (.ref b11), .val (.ref b32), .val (.int (n + i).toInt32), .val (.int (1 : Int32))] [(.int f), (.long q1), (.long q0), (.int i.toInt32), (.int n.toInt32), (.int (12 : Int32)), (.ref b11), (.int (1 : Int32))])) (fun _ k_ => XS.iload X47.here hx rfl (hb hby at_430) rfl k_) ?_
  obtain ⟨v48, T48, h48, L48, X48, e48, hQ48, st48⟩ := callSt X47 hx hZ hown (w7 hw) (w8 hw) (w9 hw) (w10 hw) (by decide) (W := 1) (argsL := [(.ref b11), (.int (12 : Int32)), (.int n.toInt32), (.int i.toInt32), (.long q0), (.long q1), (.int f)]) (rest := [(.int (1 : Int32))]) e47 (rm_ok l Z a0 hw b11 (12 : Int32) n.toInt32 i.toInt32 q0 q1 f ys35 h35 n0 Z0 A_b11 (by decide) (own_cell hW35 (by omega) (by omega) 12 (by decide))) (by decide) (by decide) pd2 rfl (g := (mkF m 432 #[.val (.long q0), .second, .val (.long q1), .second, .val (.int p2), .val (.int p3), .val (.int p4), .val (.int i.toInt32), .val (.int n.toInt32), .val (.int f), .val (.ref b11), .val (.ref b32), .val (.int (n + i).toInt32), .val (.int (1 : Int32))] [(.int f), (.long q1), (.long q0), (.int i.toInt32), (.int n.toInt32), (.int (12 : Int32)), (.ref b11), (.int (1 : Int32))])) rfl (by rw [hml]; rfl) rfl (by show 2 * 0 + _ ≤ _; exact Nat.le_of_eq rfl) (hb hby at_432) (by decide) (by decide)
  obtain ⟨rfl, Nq48, hh48⟩ := hQ48
  rw [hh48] at e48
  have N48 := Fr.app N47 Nq48
  refine Go.st (S' := T48.setTop (mkF m 435 #[.val (.long q0), .second, .val (.long q1), .second, .val (.int p2), .val (.int p3), .val (.int p4), .val (.int i.toInt32), .val (.int n.toInt32), .val (.int f), .val (.ref b11), .val (.ref b32), .val (.int (n + i).toInt32), .val (.int (1 : Int32))] [(.int (1 : Int32)), (.int (1 : Int32))])) (st48) ?_
  refine Go.st (S' := T48.setTop (mkF m 436 #[.val (.long q0), .second, .val (.long q1), .second, .val (.int p2), .val (.int p3), .val (.int p4), .val (.int i.toInt32), .val (.int n.toInt32), .val (.int f), .val (.ref b11), .val (.ref b32), .val (.int (n + i).toInt32), .val (.int (1 : Int32))] [(.int ((1 : Int32) &&& (1 : Int32)))])) (fun _ k_ => XS.iand X48.here hx rfl (hb hby at_435) rfl k_) ?_
  rw [show ((1 : Int32) &&& (1 : Int32)) = (1 : Int32) from (by decide)]
  refine Go.st (S' := T48.setTop (mkF m 438 #[.val (.long q0), .second, .val (.long q1), .second, .val (.int p2), .val (.int p3), .val (.int p4), .val (.int i.toInt32), .val (.int n.toInt32), .val (.int f), .val (.ref b11), .val (.ref b32), .val (.int (n + i).toInt32), .val (.int (1 : Int32))] [])) (fun _ k_ => XS.istore X48.here hx rfl (hb hby at_436) rfl (l' := #[.val (.long q0), .second, .val (.long q1), .second, .val (.int p2), .val (.int p3), .val (.int p4), .val (.int i.toInt32), .val (.int n.toInt32), .val (.int f), .val (.ref b11), .val (.ref b32), .val (.int (n + i).toInt32), .val (.int (1 : Int32))]) rfl k_) ?_
  refine Go.st (S' := T48.setTop (mkF m 440 #[.val (.long q0), .second, .val (.long q1), .second, .val (.int p2), .val (.int p3), .val (.int p4), .val (.int i.toInt32), .val (.int n.toInt32), .val (.int f), .val (.ref b11), .val (.ref b32), .val (.int (n + i).toInt32), .val (.int (1 : Int32))] [(.int (1 : Int32))])) (fun _ k_ => XS.iload X48.here hx rfl (hb hby at_438) rfl k_) ?_
  refine Go.st (S' := T48.setTop (mkF m 442 #[.val (.long q0), .second, .val (.long q1), .second, .val (.int p2), .val (.int p3), .val (.int p4), .val (.int i.toInt32), .val (.int n.toInt32), .val (.int f), .val (.ref b11), .val (.ref b32), .val (.int (n + i).toInt32), .val (.int (1 : Int32))] [(.ref b11), (.int (1 : Int32))])) (fun _ k_ => XS.aload X48.here hx rfl (hb hby at_440) rfl rfl k_) ?_
  refine Go.st (S' := T48.setTop (mkF m 444 #[.val (.long q0), .second, .val (.long q1), .second, .val (.int p2), .val (.int p3), .val (.int p4), .val (.int i.toInt32), .val (.int n.toInt32), .val (.int f), .val (.ref b11), .val (.ref b32), .val (.int (n + i).toInt32), .val (.int (1 : Int32))] [(.int (13 : Int32)), (.ref b11), (.int (1 : Int32))])) (fun _ k_ => XS.bipush X48.here hx rfl (hb hby at_442) k_) ?_
  refine Go.st (S' := T48.setTop (mkF m 446 #[.val (.long q0), .second, .val (.long q1), .second, .val (.int p2), .val (.int p3), .val (.int p4), .val (.int i.toInt32), .val (.int n.toInt32), .val (.int f), .val (.ref b11), .val (.ref b32), .val (.int (n + i).toInt32), .val (.int (1 : Int32))] [(.int n.toInt32), (.int (13 : Int32)), (.ref b11), (.int (1 : Int32))])) (fun _ k_ => XS.iload X48.here hx rfl (hb hby at_444) rfl k_) ?_
  refine Go.st (S' := T48.setTop (mkF m 448 #[.val (.long q0), .second, .val (.long q1), .second, .val (.int p2), .val (.int p3), .val (.int p4), .val (.int i.toInt32), .val (.int n.toInt32), .val (.int f), .val (.ref b11), .val (.ref b32), .val (.int (n + i).toInt32), .val (.int (1 : Int32))] [(.int i.toInt32), (.int n.toInt32), (.int (13 : Int32)), (.ref b11), (.int (1 : Int32))])) (fun _ k_ => XS.iload X48.here hx rfl (hb hby at_446) rfl k_) ?_
  refine Go.st (S' := T48.setTop (mkF m 449 #[.val (.long q0), .second, .val (.long q1), .second, .val (.int p2), .val (.int p3), .val (.int p4), .val (.int i.toInt32), .val (.int n.toInt32), .val (.int f), .val (.ref b11), .val (.ref b32), .val (.int (n + i).toInt32), .val (.int (1 : Int32))] [(.long q0), (.int i.toInt32), (.int n.toInt32), (.int (13 : Int32)), (.ref b11), (.int (1 : Int32))])) (fun _ k_ => XS.lloadN X48.here hx rfl (hb hby at_448) rfl k_) ?_
  refine Go.st (S' := T48.setTop (mkF m 450 #[.val (.long q0), .second, .val (.long q1), .second, .val (.int p2), .val (.int p3), .val (.int p4), .val (.int i.toInt32), .val (.int n.toInt32), .val (.int f), .val (.ref b11), .val (.ref b32), .val (.int (n + i).toInt32), .val (.int (1 : Int32))] [(.long q1), (.long q0), (.int i.toInt32), (.int n.toInt32), (.int (13 : Int32)), (.ref b11), (.int (1 : Int32))])) (fun _ k_ => XS.lloadN X48.here hx rfl (hb hby at_449) rfl k_) ?_
  refine Go.st (S' := T48.setTop (mkF m 452 #[.val (.long q0), .second, .val (.long q1), .second, .val (.int p2), .val (.int p3), .val (.int p4), .val (.int i.toInt32), .val (.int n.toInt32), .val (.int f), .val (.ref b11), .val (.ref b32), .val (.int (n + i).toInt32), .val (.int (1 : Int32))] [(.int f), (.long q1), (.long q0), (.int i.toInt32), (.int n.toInt32), (.int (13 : Int32)), (.ref b11), (.int (1 : Int32))])) (fun _ k_ => XS.iload X48.here hx rfl (hb hby at_450) rfl k_) ?_
  obtain ⟨v49, T49, h49, L49, X49, e49, hQ49, st49⟩ := callSt X48 hx hZ hown (w7 hw) (w8 hw) (w9 hw) (w10 hw) (by decide) (W := 1) (argsL := [(.ref b11), (.int (13 : Int32)), (.int n.toInt32), (.int i.toInt32), (.long q0), (.long q1), (.int f)]) (rest := [(.int (1 : Int32))]) e48 (rm_ok l Z a0 hw b11 (13 : Int32) n.toInt32 i.toInt32 q0 q1 f ys35 h35 n0 Z0 A_b11 (by decide) (own_cell hW35 (by omega) (by omega) 13 (by decide))) (by decide) (by decide) pd2 rfl (g := (mkF m 452 #[.val (.long q0), .second, .val (.long q1), .second, .val (.int p2), .val (.int p3), .val (.int p4), .val (.int i.toInt32), .val (.int n.toInt32), .val (.int f), .val (.ref b11), .val (.ref b32), .val (.int (n + i).toInt32), .val (.int (1 : Int32))] [(.int f), (.long q1), (.long q0), (.int i.toInt32), (.int n.toInt32), (.int (13 : Int32)), (.ref b11), (.int (1 : Int32))])) rfl (by rw [hml]; rfl) rfl (by show 2 * 0 + _ ≤ _; exact Nat.le_of_eq rfl) (hb hby at_452) (by decide) (by decide)
  obtain ⟨rfl, Nq49, hh49⟩ := hQ49
  rw [hh49] at e49
  have N49 := Fr.app N48 Nq49
  refine Go.st (S' := T49.setTop (mkF m 455 #[.val (.long q0), .second, .val (.long q1), .second, .val (.int p2), .val (.int p3), .val (.int p4), .val (.int i.toInt32), .val (.int n.toInt32), .val (.int f), .val (.ref b11), .val (.ref b32), .val (.int (n + i).toInt32), .val (.int (1 : Int32))] [(.int (1 : Int32)), (.int (1 : Int32))])) (st49) ?_
  refine Go.st (S' := T49.setTop (mkF m 456 #[.val (.long q0), .second, .val (.long q1), .second, .val (.int p2), .val (.int p3), .val (.int p4), .val (.int i.toInt32), .val (.int n.toInt32), .val (.int f), .val (.ref b11), .val (.ref b32), .val (.int (n + i).toInt32), .val (.int (1 : Int32))] [(.int ((1 : Int32) &&& (1 : Int32)))])) (fun _ k_ => XS.iand X49.here hx rfl (hb hby at_455) rfl k_) ?_
  rw [show ((1 : Int32) &&& (1 : Int32)) = (1 : Int32) from (by decide)]
  refine Go.st (S' := T49.setTop (mkF m 458 #[.val (.long q0), .second, .val (.long q1), .second, .val (.int p2), .val (.int p3), .val (.int p4), .val (.int i.toInt32), .val (.int n.toInt32), .val (.int f), .val (.ref b11), .val (.ref b32), .val (.int (n + i).toInt32), .val (.int (1 : Int32))] [])) (fun _ k_ => XS.istore X49.here hx rfl (hb hby at_456) rfl (l' := #[.val (.long q0), .second, .val (.long q1), .second, .val (.int p2), .val (.int p3), .val (.int p4), .val (.int i.toInt32), .val (.int n.toInt32), .val (.int f), .val (.ref b11), .val (.ref b32), .val (.int (n + i).toInt32), .val (.int (1 : Int32))]) rfl k_) ?_
  refine Go.st (S' := T49.setTop (mkF m 460 #[.val (.long q0), .second, .val (.long q1), .second, .val (.int p2), .val (.int p3), .val (.int p4), .val (.int i.toInt32), .val (.int n.toInt32), .val (.int f), .val (.ref b11), .val (.ref b32), .val (.int (n + i).toInt32), .val (.int (1 : Int32))] [(.int (1 : Int32))])) (fun _ k_ => XS.iload X49.here hx rfl (hb hby at_458) rfl k_) ?_
  refine Go.st (S' := T49.setTop (mkF m 462 #[.val (.long q0), .second, .val (.long q1), .second, .val (.int p2), .val (.int p3), .val (.int p4), .val (.int i.toInt32), .val (.int n.toInt32), .val (.int f), .val (.ref b11), .val (.ref b32), .val (.int (n + i).toInt32), .val (.int (1 : Int32))] [(.ref b11), (.int (1 : Int32))])) (fun _ k_ => XS.aload X49.here hx rfl (hb hby at_460) rfl rfl k_) ?_
  refine Go.st (S' := T49.setTop (mkF m 464 #[.val (.long q0), .second, .val (.long q1), .second, .val (.int p2), .val (.int p3), .val (.int p4), .val (.int i.toInt32), .val (.int n.toInt32), .val (.int f), .val (.ref b11), .val (.ref b32), .val (.int (n + i).toInt32), .val (.int (1 : Int32))] [(.int (14 : Int32)), (.ref b11), (.int (1 : Int32))])) (fun _ k_ => XS.bipush X49.here hx rfl (hb hby at_462) k_) ?_
  refine Go.st (S' := T49.setTop (mkF m 466 #[.val (.long q0), .second, .val (.long q1), .second, .val (.int p2), .val (.int p3), .val (.int p4), .val (.int i.toInt32), .val (.int n.toInt32), .val (.int f), .val (.ref b11), .val (.ref b32), .val (.int (n + i).toInt32), .val (.int (1 : Int32))] [(.int n.toInt32), (.int (14 : Int32)), (.ref b11), (.int (1 : Int32))])) (fun _ k_ => XS.iload X49.here hx rfl (hb hby at_464) rfl k_) ?_
  refine Go.st (S' := T49.setTop (mkF m 468 #[.val (.long q0), .second, .val (.long q1), .second, .val (.int p2), .val (.int p3), .val (.int p4), .val (.int i.toInt32), .val (.int n.toInt32), .val (.int f), .val (.ref b11), .val (.ref b32), .val (.int (n + i).toInt32), .val (.int (1 : Int32))] [(.int i.toInt32), (.int n.toInt32), (.int (14 : Int32)), (.ref b11), (.int (1 : Int32))])) (fun _ k_ => XS.iload X49.here hx rfl (hb hby at_466) rfl k_) ?_
  refine Go.st (S' := T49.setTop (mkF m 469 #[.val (.long q0), .second, .val (.long q1), .second, .val (.int p2), .val (.int p3), .val (.int p4), .val (.int i.toInt32), .val (.int n.toInt32), .val (.int f), .val (.ref b11), .val (.ref b32), .val (.int (n + i).toInt32), .val (.int (1 : Int32))] [(.long q0), (.int i.toInt32), (.int n.toInt32), (.int (14 : Int32)), (.ref b11), (.int (1 : Int32))])) (fun _ k_ => XS.lloadN X49.here hx rfl (hb hby at_468) rfl k_) ?_
  refine Go.st (S' := T49.setTop (mkF m 470 #[.val (.long q0), .second, .val (.long q1), .second, .val (.int p2), .val (.int p3), .val (.int p4), .val (.int i.toInt32), .val (.int n.toInt32), .val (.int f), .val (.ref b11), .val (.ref b32), .val (.int (n + i).toInt32), .val (.int (1 : Int32))] [(.long q1), (.long q0), (.int i.toInt32), (.int n.toInt32), (.int (14 : Int32)), (.ref b11), (.int (1 : Int32))])) (fun _ k_ => XS.lloadN X49.here hx rfl (hb hby at_469) rfl k_) ?_
  refine Go.st (S' := T49.setTop (mkF m 472 #[.val (.long q0), .second, .val (.long q1), .second, .val (.int p2), .val (.int p3), .val (.int p4), .val (.int i.toInt32), .val (.int n.toInt32), .val (.int f), .val (.ref b11), .val (.ref b32), .val (.int (n + i).toInt32), .val (.int (1 : Int32))] [(.int f), (.long q1), (.long q0), (.int i.toInt32), (.int n.toInt32), (.int (14 : Int32)), (.ref b11), (.int (1 : Int32))])) (fun _ k_ => XS.iload X49.here hx rfl (hb hby at_470) rfl k_) ?_
  obtain ⟨v50, T50, h50, L50, X50, e50, hQ50, st50⟩ := callSt X49 hx hZ hown (w7 hw) (w8 hw) (w9 hw) (w10 hw) (by decide) (W := 1) (argsL := [(.ref b11), (.int (14 : Int32)), (.int n.toInt32), (.int i.toInt32), (.long q0), (.long q1), (.int f)]) (rest := [(.int (1 : Int32))]) e49 (rm_ok l Z a0 hw b11 (14 : Int32) n.toInt32 i.toInt32 q0 q1 f ys35 h35 n0 Z0 A_b11 (by decide) (own_cell hW35 (by omega) (by omega) 14 (by decide))) (by decide) (by decide) pd2 rfl (g := (mkF m 472 #[.val (.long q0), .second, .val (.long q1), .second, .val (.int p2), .val (.int p3), .val (.int p4), .val (.int i.toInt32), .val (.int n.toInt32), .val (.int f), .val (.ref b11), .val (.ref b32), .val (.int (n + i).toInt32), .val (.int (1 : Int32))] [(.int f), (.long q1), (.long q0), (.int i.toInt32), (.int n.toInt32), (.int (14 : Int32)), (.ref b11), (.int (1 : Int32))])) rfl (by rw [hml]; rfl) rfl (by show 2 * 0 + _ ≤ _; exact Nat.le_of_eq rfl) (hb hby at_472) (by decide) (by decide)
  obtain ⟨rfl, Nq50, hh50⟩ := hQ50
  rw [hh50] at e50
  have N50 := Fr.app N49 Nq50
  refine Go.st (S' := T50.setTop (mkF m 475 #[.val (.long q0), .second, .val (.long q1), .second, .val (.int p2), .val (.int p3), .val (.int p4), .val (.int i.toInt32), .val (.int n.toInt32), .val (.int f), .val (.ref b11), .val (.ref b32), .val (.int (n + i).toInt32), .val (.int (1 : Int32))] [(.int (1 : Int32)), (.int (1 : Int32))])) (st50) ?_
  refine Go.st (S' := T50.setTop (mkF m 476 #[.val (.long q0), .second, .val (.long q1), .second, .val (.int p2), .val (.int p3), .val (.int p4), .val (.int i.toInt32), .val (.int n.toInt32), .val (.int f), .val (.ref b11), .val (.ref b32), .val (.int (n + i).toInt32), .val (.int (1 : Int32))] [(.int ((1 : Int32) &&& (1 : Int32)))])) (fun _ k_ => XS.iand X50.here hx rfl (hb hby at_475) rfl k_) ?_
  rw [show ((1 : Int32) &&& (1 : Int32)) = (1 : Int32) from (by decide)]
  refine Go.st (S' := T50.setTop (mkF m 478 #[.val (.long q0), .second, .val (.long q1), .second, .val (.int p2), .val (.int p3), .val (.int p4), .val (.int i.toInt32), .val (.int n.toInt32), .val (.int f), .val (.ref b11), .val (.ref b32), .val (.int (n + i).toInt32), .val (.int (1 : Int32))] [])) (fun _ k_ => XS.istore X50.here hx rfl (hb hby at_476) rfl (l' := #[.val (.long q0), .second, .val (.long q1), .second, .val (.int p2), .val (.int p3), .val (.int p4), .val (.int i.toInt32), .val (.int n.toInt32), .val (.int f), .val (.ref b11), .val (.ref b32), .val (.int (n + i).toInt32), .val (.int (1 : Int32))]) rfl k_) ?_
  refine Go.st (S' := T50.setTop (mkF m 480 #[.val (.long q0), .second, .val (.long q1), .second, .val (.int p2), .val (.int p3), .val (.int p4), .val (.int i.toInt32), .val (.int n.toInt32), .val (.int f), .val (.ref b11), .val (.ref b32), .val (.int (n + i).toInt32), .val (.int (1 : Int32))] [(.int (1 : Int32))])) (fun _ k_ => XS.iload X50.here hx rfl (hb hby at_478) rfl k_) ?_
  refine Go.st (S' := T50.setTop (mkF m 482 #[.val (.long q0), .second, .val (.long q1), .second, .val (.int p2), .val (.int p3), .val (.int p4), .val (.int i.toInt32), .val (.int n.toInt32), .val (.int f), .val (.ref b11), .val (.ref b32), .val (.int (n + i).toInt32), .val (.int (1 : Int32))] [(.ref b11), (.int (1 : Int32))])) (fun _ k_ => XS.aload X50.here hx rfl (hb hby at_480) rfl rfl k_) ?_
  refine Go.st (S' := T50.setTop (mkF m 484 #[.val (.long q0), .second, .val (.long q1), .second, .val (.int p2), .val (.int p3), .val (.int p4), .val (.int i.toInt32), .val (.int n.toInt32), .val (.int f), .val (.ref b11), .val (.ref b32), .val (.int (n + i).toInt32), .val (.int (1 : Int32))] [(.int (15 : Int32)), (.ref b11), (.int (1 : Int32))])) (fun _ k_ => XS.bipush X50.here hx rfl (hb hby at_482) k_) ?_
  refine Go.st (S' := T50.setTop (mkF m 486 #[.val (.long q0), .second, .val (.long q1), .second, .val (.int p2), .val (.int p3), .val (.int p4), .val (.int i.toInt32), .val (.int n.toInt32), .val (.int f), .val (.ref b11), .val (.ref b32), .val (.int (n + i).toInt32), .val (.int (1 : Int32))] [(.int n.toInt32), (.int (15 : Int32)), (.ref b11), (.int (1 : Int32))])) (fun _ k_ => XS.iload X50.here hx rfl (hb hby at_484) rfl k_) ?_
  refine Go.st (S' := T50.setTop (mkF m 488 #[.val (.long q0), .second, .val (.long q1), .second, .val (.int p2), .val (.int p3), .val (.int p4), .val (.int i.toInt32), .val (.int n.toInt32), .val (.int f), .val (.ref b11), .val (.ref b32), .val (.int (n + i).toInt32), .val (.int (1 : Int32))] [(.int i.toInt32), (.int n.toInt32), (.int (15 : Int32)), (.ref b11), (.int (1 : Int32))])) (fun _ k_ => XS.iload X50.here hx rfl (hb hby at_486) rfl k_) ?_
  refine Go.st (S' := T50.setTop (mkF m 489 #[.val (.long q0), .second, .val (.long q1), .second, .val (.int p2), .val (.int p3), .val (.int p4), .val (.int i.toInt32), .val (.int n.toInt32), .val (.int f), .val (.ref b11), .val (.ref b32), .val (.int (n + i).toInt32), .val (.int (1 : Int32))] [(.long q0), (.int i.toInt32), (.int n.toInt32), (.int (15 : Int32)), (.ref b11), (.int (1 : Int32))])) (fun _ k_ => XS.lloadN X50.here hx rfl (hb hby at_488) rfl k_) ?_
  refine Go.st (S' := T50.setTop (mkF m 490 #[.val (.long q0), .second, .val (.long q1), .second, .val (.int p2), .val (.int p3), .val (.int p4), .val (.int i.toInt32), .val (.int n.toInt32), .val (.int f), .val (.ref b11), .val (.ref b32), .val (.int (n + i).toInt32), .val (.int (1 : Int32))] [(.long q1), (.long q0), (.int i.toInt32), (.int n.toInt32), (.int (15 : Int32)), (.ref b11), (.int (1 : Int32))])) (fun _ k_ => XS.lloadN X50.here hx rfl (hb hby at_489) rfl k_) ?_
  refine Go.st (S' := T50.setTop (mkF m 492 #[.val (.long q0), .second, .val (.long q1), .second, .val (.int p2), .val (.int p3), .val (.int p4), .val (.int i.toInt32), .val (.int n.toInt32), .val (.int f), .val (.ref b11), .val (.ref b32), .val (.int (n + i).toInt32), .val (.int (1 : Int32))] [(.int f), (.long q1), (.long q0), (.int i.toInt32), (.int n.toInt32), (.int (15 : Int32)), (.ref b11), (.int (1 : Int32))])) (fun _ k_ => XS.iload X50.here hx rfl (hb hby at_490) rfl k_) ?_
  obtain ⟨v51, T51, h51, L51, X51, e51, hQ51, st51⟩ := callSt X50 hx hZ hown (w7 hw) (w8 hw) (w9 hw) (w10 hw) (by decide) (W := 1) (argsL := [(.ref b11), (.int (15 : Int32)), (.int n.toInt32), (.int i.toInt32), (.long q0), (.long q1), (.int f)]) (rest := [(.int (1 : Int32))]) e50 (rm_ok l Z a0 hw b11 (15 : Int32) n.toInt32 i.toInt32 q0 q1 f ys35 h35 n0 Z0 A_b11 (by decide) (own_cell hW35 (by omega) (by omega) 15 (by decide))) (by decide) (by decide) pd2 rfl (g := (mkF m 492 #[.val (.long q0), .second, .val (.long q1), .second, .val (.int p2), .val (.int p3), .val (.int p4), .val (.int i.toInt32), .val (.int n.toInt32), .val (.int f), .val (.ref b11), .val (.ref b32), .val (.int (n + i).toInt32), .val (.int (1 : Int32))] [(.int f), (.long q1), (.long q0), (.int i.toInt32), (.int n.toInt32), (.int (15 : Int32)), (.ref b11), (.int (1 : Int32))])) rfl (by rw [hml]; rfl) rfl (by show 2 * 0 + _ ≤ _; exact Nat.le_of_eq rfl) (hb hby at_492) (by decide) (by decide)
  obtain ⟨rfl, Nq51, hh51⟩ := hQ51
  rw [hh51] at e51
  have N51 := Fr.app N50 Nq51
  refine Go.st (S' := T51.setTop (mkF m 495 #[.val (.long q0), .second, .val (.long q1), .second, .val (.int p2), .val (.int p3), .val (.int p4), .val (.int i.toInt32), .val (.int n.toInt32), .val (.int f), .val (.ref b11), .val (.ref b32), .val (.int (n + i).toInt32), .val (.int (1 : Int32))] [(.int (1 : Int32)), (.int (1 : Int32))])) (st51) ?_
  refine Go.st (S' := T51.setTop (mkF m 496 #[.val (.long q0), .second, .val (.long q1), .second, .val (.int p2), .val (.int p3), .val (.int p4), .val (.int i.toInt32), .val (.int n.toInt32), .val (.int f), .val (.ref b11), .val (.ref b32), .val (.int (n + i).toInt32), .val (.int (1 : Int32))] [(.int ((1 : Int32) &&& (1 : Int32)))])) (fun _ k_ => XS.iand X51.here hx rfl (hb hby at_495) rfl k_) ?_
  rw [show ((1 : Int32) &&& (1 : Int32)) = (1 : Int32) from (by decide)]
  refine Go.st (S' := T51.setTop (mkF m 498 #[.val (.long q0), .second, .val (.long q1), .second, .val (.int p2), .val (.int p3), .val (.int p4), .val (.int i.toInt32), .val (.int n.toInt32), .val (.int f), .val (.ref b11), .val (.ref b32), .val (.int (n + i).toInt32), .val (.int (1 : Int32))] [])) (fun _ k_ => XS.istore X51.here hx rfl (hb hby at_496) rfl (l' := #[.val (.long q0), .second, .val (.long q1), .second, .val (.int p2), .val (.int p3), .val (.int p4), .val (.int i.toInt32), .val (.int n.toInt32), .val (.int f), .val (.ref b11), .val (.ref b32), .val (.int (n + i).toInt32), .val (.int (1 : Int32))]) rfl k_) ?_
  refine Go.st (S' := T51.setTop (mkF m 500 #[.val (.long q0), .second, .val (.long q1), .second, .val (.int p2), .val (.int p3), .val (.int p4), .val (.int i.toInt32), .val (.int n.toInt32), .val (.int f), .val (.ref b11), .val (.ref b32), .val (.int (n + i).toInt32), .val (.int (1 : Int32))] [(.int (1 : Int32))])) (fun _ k_ => XS.iload X51.here hx rfl (hb hby at_498) rfl k_) ?_
  refine Go.st (S' := T51.setTop (mkF m 502 #[.val (.long q0), .second, .val (.long q1), .second, .val (.int p2), .val (.int p3), .val (.int p4), .val (.int i.toInt32), .val (.int n.toInt32), .val (.int f), .val (.ref b11), .val (.ref b32), .val (.int (n + i).toInt32), .val (.int (1 : Int32))] [(.ref b11), (.int (1 : Int32))])) (fun _ k_ => XS.aload X51.here hx rfl (hb hby at_500) rfl rfl k_) ?_
  refine Go.st (S' := T51.setTop (mkF m 504 #[.val (.long q0), .second, .val (.long q1), .second, .val (.int p2), .val (.int p3), .val (.int p4), .val (.int i.toInt32), .val (.int n.toInt32), .val (.int f), .val (.ref b11), .val (.ref b32), .val (.int (n + i).toInt32), .val (.int (1 : Int32))] [(.int (16 : Int32)), (.ref b11), (.int (1 : Int32))])) (fun _ k_ => XS.bipush X51.here hx rfl (hb hby at_502) k_) ?_
  refine Go.st (S' := T51.setTop (mkF m 506 #[.val (.long q0), .second, .val (.long q1), .second, .val (.int p2), .val (.int p3), .val (.int p4), .val (.int i.toInt32), .val (.int n.toInt32), .val (.int f), .val (.ref b11), .val (.ref b32), .val (.int (n + i).toInt32), .val (.int (1 : Int32))] [(.int n.toInt32), (.int (16 : Int32)), (.ref b11), (.int (1 : Int32))])) (fun _ k_ => XS.iload X51.here hx rfl (hb hby at_504) rfl k_) ?_
  refine Go.st (S' := T51.setTop (mkF m 508 #[.val (.long q0), .second, .val (.long q1), .second, .val (.int p2), .val (.int p3), .val (.int p4), .val (.int i.toInt32), .val (.int n.toInt32), .val (.int f), .val (.ref b11), .val (.ref b32), .val (.int (n + i).toInt32), .val (.int (1 : Int32))] [(.int i.toInt32), (.int n.toInt32), (.int (16 : Int32)), (.ref b11), (.int (1 : Int32))])) (fun _ k_ => XS.iload X51.here hx rfl (hb hby at_506) rfl k_) ?_
  refine Go.st (S' := T51.setTop (mkF m 509 #[.val (.long q0), .second, .val (.long q1), .second, .val (.int p2), .val (.int p3), .val (.int p4), .val (.int i.toInt32), .val (.int n.toInt32), .val (.int f), .val (.ref b11), .val (.ref b32), .val (.int (n + i).toInt32), .val (.int (1 : Int32))] [(.long q0), (.int i.toInt32), (.int n.toInt32), (.int (16 : Int32)), (.ref b11), (.int (1 : Int32))])) (fun _ k_ => XS.lloadN X51.here hx rfl (hb hby at_508) rfl k_) ?_
  refine Go.st (S' := T51.setTop (mkF m 510 #[.val (.long q0), .second, .val (.long q1), .second, .val (.int p2), .val (.int p3), .val (.int p4), .val (.int i.toInt32), .val (.int n.toInt32), .val (.int f), .val (.ref b11), .val (.ref b32), .val (.int (n + i).toInt32), .val (.int (1 : Int32))] [(.long q1), (.long q0), (.int i.toInt32), (.int n.toInt32), (.int (16 : Int32)), (.ref b11), (.int (1 : Int32))])) (fun _ k_ => XS.lloadN X51.here hx rfl (hb hby at_509) rfl k_) ?_
  refine Go.st (S' := T51.setTop (mkF m 512 #[.val (.long q0), .second, .val (.long q1), .second, .val (.int p2), .val (.int p3), .val (.int p4), .val (.int i.toInt32), .val (.int n.toInt32), .val (.int f), .val (.ref b11), .val (.ref b32), .val (.int (n + i).toInt32), .val (.int (1 : Int32))] [(.int f), (.long q1), (.long q0), (.int i.toInt32), (.int n.toInt32), (.int (16 : Int32)), (.ref b11), (.int (1 : Int32))])) (fun _ k_ => XS.iload X51.here hx rfl (hb hby at_510) rfl k_) ?_
  obtain ⟨v52, T52, h52, L52, X52, e52, hQ52, st52⟩ := callSt X51 hx hZ hown (w7 hw) (w8 hw) (w9 hw) (w10 hw) (by decide) (W := 1) (argsL := [(.ref b11), (.int (16 : Int32)), (.int n.toInt32), (.int i.toInt32), (.long q0), (.long q1), (.int f)]) (rest := [(.int (1 : Int32))]) e51 (rm_ok l Z a0 hw b11 (16 : Int32) n.toInt32 i.toInt32 q0 q1 f ys35 h35 n0 Z0 A_b11 (by decide) (own_cell hW35 (by omega) (by omega) 16 (by decide))) (by decide) (by decide) pd2 rfl (g := (mkF m 512 #[.val (.long q0), .second, .val (.long q1), .second, .val (.int p2), .val (.int p3), .val (.int p4), .val (.int i.toInt32), .val (.int n.toInt32), .val (.int f), .val (.ref b11), .val (.ref b32), .val (.int (n + i).toInt32), .val (.int (1 : Int32))] [(.int f), (.long q1), (.long q0), (.int i.toInt32), (.int n.toInt32), (.int (16 : Int32)), (.ref b11), (.int (1 : Int32))])) rfl (by rw [hml]; rfl) rfl (by show 2 * 0 + _ ≤ _; exact Nat.le_of_eq rfl) (hb hby at_512) (by decide) (by decide)
  obtain ⟨rfl, Nq52, hh52⟩ := hQ52
  rw [hh52] at e52
  have N52 := Fr.app N51 Nq52
  refine Go.st (S' := T52.setTop (mkF m 515 #[.val (.long q0), .second, .val (.long q1), .second, .val (.int p2), .val (.int p3), .val (.int p4), .val (.int i.toInt32), .val (.int n.toInt32), .val (.int f), .val (.ref b11), .val (.ref b32), .val (.int (n + i).toInt32), .val (.int (1 : Int32))] [(.int (1 : Int32)), (.int (1 : Int32))])) (st52) ?_
  refine Go.st (S' := T52.setTop (mkF m 516 #[.val (.long q0), .second, .val (.long q1), .second, .val (.int p2), .val (.int p3), .val (.int p4), .val (.int i.toInt32), .val (.int n.toInt32), .val (.int f), .val (.ref b11), .val (.ref b32), .val (.int (n + i).toInt32), .val (.int (1 : Int32))] [(.int ((1 : Int32) &&& (1 : Int32)))])) (fun _ k_ => XS.iand X52.here hx rfl (hb hby at_515) rfl k_) ?_
  rw [show ((1 : Int32) &&& (1 : Int32)) = (1 : Int32) from (by decide)]
  refine Go.st (S' := T52.setTop (mkF m 518 #[.val (.long q0), .second, .val (.long q1), .second, .val (.int p2), .val (.int p3), .val (.int p4), .val (.int i.toInt32), .val (.int n.toInt32), .val (.int f), .val (.ref b11), .val (.ref b32), .val (.int (n + i).toInt32), .val (.int (1 : Int32))] [])) (fun _ k_ => XS.istore X52.here hx rfl (hb hby at_516) rfl (l' := #[.val (.long q0), .second, .val (.long q1), .second, .val (.int p2), .val (.int p3), .val (.int p4), .val (.int i.toInt32), .val (.int n.toInt32), .val (.int f), .val (.ref b11), .val (.ref b32), .val (.int (n + i).toInt32), .val (.int (1 : Int32))]) rfl k_) ?_
  refine Go.st (S' := T52.setTop (mkF m 520 #[.val (.long q0), .second, .val (.long q1), .second, .val (.int p2), .val (.int p3), .val (.int p4), .val (.int i.toInt32), .val (.int n.toInt32), .val (.int f), .val (.ref b11), .val (.ref b32), .val (.int (n + i).toInt32), .val (.int (1 : Int32))] [(.int (1 : Int32))])) (fun _ k_ => XS.iload X52.here hx rfl (hb hby at_518) rfl k_) ?_
  refine Go.st (S' := T52.setTop (mkF m 522 #[.val (.long q0), .second, .val (.long q1), .second, .val (.int p2), .val (.int p3), .val (.int p4), .val (.int i.toInt32), .val (.int n.toInt32), .val (.int f), .val (.ref b11), .val (.ref b32), .val (.int (n + i).toInt32), .val (.int (1 : Int32))] [(.ref b11), (.int (1 : Int32))])) (fun _ k_ => XS.aload X52.here hx rfl (hb hby at_520) rfl rfl k_) ?_
  refine Go.st (S' := T52.setTop (mkF m 524 #[.val (.long q0), .second, .val (.long q1), .second, .val (.int p2), .val (.int p3), .val (.int p4), .val (.int i.toInt32), .val (.int n.toInt32), .val (.int f), .val (.ref b11), .val (.ref b32), .val (.int (n + i).toInt32), .val (.int (1 : Int32))] [(.int (17 : Int32)), (.ref b11), (.int (1 : Int32))])) (fun _ k_ => XS.bipush X52.here hx rfl (hb hby at_522) k_) ?_
  refine Go.st (S' := T52.setTop (mkF m 526 #[.val (.long q0), .second, .val (.long q1), .second, .val (.int p2), .val (.int p3), .val (.int p4), .val (.int i.toInt32), .val (.int n.toInt32), .val (.int f), .val (.ref b11), .val (.ref b32), .val (.int (n + i).toInt32), .val (.int (1 : Int32))] [(.int n.toInt32), (.int (17 : Int32)), (.ref b11), (.int (1 : Int32))])) (fun _ k_ => XS.iload X52.here hx rfl (hb hby at_524) rfl k_) ?_
  refine Go.st (S' := T52.setTop (mkF m 528 #[.val (.long q0), .second, .val (.long q1), .second, .val (.int p2), .val (.int p3), .val (.int p4), .val (.int i.toInt32), .val (.int n.toInt32), .val (.int f), .val (.ref b11), .val (.ref b32), .val (.int (n + i).toInt32), .val (.int (1 : Int32))] [(.int i.toInt32), (.int n.toInt32), (.int (17 : Int32)), (.ref b11), (.int (1 : Int32))])) (fun _ k_ => XS.iload X52.here hx rfl (hb hby at_526) rfl k_) ?_
  refine Go.st (S' := T52.setTop (mkF m 529 #[.val (.long q0), .second, .val (.long q1), .second, .val (.int p2), .val (.int p3), .val (.int p4), .val (.int i.toInt32), .val (.int n.toInt32), .val (.int f), .val (.ref b11), .val (.ref b32), .val (.int (n + i).toInt32), .val (.int (1 : Int32))] [(.long q0), (.int i.toInt32), (.int n.toInt32), (.int (17 : Int32)), (.ref b11), (.int (1 : Int32))])) (fun _ k_ => XS.lloadN X52.here hx rfl (hb hby at_528) rfl k_) ?_
  refine Go.st (S' := T52.setTop (mkF m 530 #[.val (.long q0), .second, .val (.long q1), .second, .val (.int p2), .val (.int p3), .val (.int p4), .val (.int i.toInt32), .val (.int n.toInt32), .val (.int f), .val (.ref b11), .val (.ref b32), .val (.int (n + i).toInt32), .val (.int (1 : Int32))] [(.long q1), (.long q0), (.int i.toInt32), (.int n.toInt32), (.int (17 : Int32)), (.ref b11), (.int (1 : Int32))])) (fun _ k_ => XS.lloadN X52.here hx rfl (hb hby at_529) rfl k_) ?_
  refine Go.st (S' := T52.setTop (mkF m 532 #[.val (.long q0), .second, .val (.long q1), .second, .val (.int p2), .val (.int p3), .val (.int p4), .val (.int i.toInt32), .val (.int n.toInt32), .val (.int f), .val (.ref b11), .val (.ref b32), .val (.int (n + i).toInt32), .val (.int (1 : Int32))] [(.int f), (.long q1), (.long q0), (.int i.toInt32), (.int n.toInt32), (.int (17 : Int32)), (.ref b11), (.int (1 : Int32))])) (fun _ k_ => XS.iload X52.here hx rfl (hb hby at_530) rfl k_) ?_
  obtain ⟨v53, T53, h53, L53, X53, e53, hQ53, st53⟩ := callSt X52 hx hZ hown (w7 hw) (w8 hw) (w9 hw) (w10 hw) (by decide) (W := 1) (argsL := [(.ref b11), (.int (17 : Int32)), (.int n.toInt32), (.int i.toInt32), (.long q0), (.long q1), (.int f)]) (rest := [(.int (1 : Int32))]) e52 (rm_ok l Z a0 hw b11 (17 : Int32) n.toInt32 i.toInt32 q0 q1 f ys35 h35 n0 Z0 A_b11 (by decide) (own_cell hW35 (by omega) (by omega) 17 (by decide))) (by decide) (by decide) pd2 rfl (g := (mkF m 532 #[.val (.long q0), .second, .val (.long q1), .second, .val (.int p2), .val (.int p3), .val (.int p4), .val (.int i.toInt32), .val (.int n.toInt32), .val (.int f), .val (.ref b11), .val (.ref b32), .val (.int (n + i).toInt32), .val (.int (1 : Int32))] [(.int f), (.long q1), (.long q0), (.int i.toInt32), (.int n.toInt32), (.int (17 : Int32)), (.ref b11), (.int (1 : Int32))])) rfl (by rw [hml]; rfl) rfl (by show 2 * 0 + _ ≤ _; exact Nat.le_of_eq rfl) (hb hby at_532) (by decide) (by decide)
  obtain ⟨rfl, Nq53, hh53⟩ := hQ53
  rw [hh53] at e53
  have N53 := Fr.app N52 Nq53
  refine Go.st (S' := T53.setTop (mkF m 535 #[.val (.long q0), .second, .val (.long q1), .second, .val (.int p2), .val (.int p3), .val (.int p4), .val (.int i.toInt32), .val (.int n.toInt32), .val (.int f), .val (.ref b11), .val (.ref b32), .val (.int (n + i).toInt32), .val (.int (1 : Int32))] [(.int (1 : Int32)), (.int (1 : Int32))])) (st53) ?_
  refine Go.st (S' := T53.setTop (mkF m 536 #[.val (.long q0), .second, .val (.long q1), .second, .val (.int p2), .val (.int p3), .val (.int p4), .val (.int i.toInt32), .val (.int n.toInt32), .val (.int f), .val (.ref b11), .val (.ref b32), .val (.int (n + i).toInt32), .val (.int (1 : Int32))] [(.int ((1 : Int32) &&& (1 : Int32)))])) (fun _ k_ => XS.iand X53.here hx rfl (hb hby at_535) rfl k_) ?_
  rw [show ((1 : Int32) &&& (1 : Int32)) = (1 : Int32) from (by decide)]
  refine Go.st (S' := T53.setTop (mkF m 538 #[.val (.long q0), .second, .val (.long q1), .second, .val (.int p2), .val (.int p3), .val (.int p4), .val (.int i.toInt32), .val (.int n.toInt32), .val (.int f), .val (.ref b11), .val (.ref b32), .val (.int (n + i).toInt32), .val (.int (1 : Int32))] [])) (fun _ k_ => XS.istore X53.here hx rfl (hb hby at_536) rfl (l' := #[.val (.long q0), .second, .val (.long q1), .second, .val (.int p2), .val (.int p3), .val (.int p4), .val (.int i.toInt32), .val (.int n.toInt32), .val (.int f), .val (.ref b11), .val (.ref b32), .val (.int (n + i).toInt32), .val (.int (1 : Int32))]) rfl k_) ?_
  refine Go.st (S' := T53.setTop (mkF m 540 #[.val (.long q0), .second, .val (.long q1), .second, .val (.int p2), .val (.int p3), .val (.int p4), .val (.int i.toInt32), .val (.int n.toInt32), .val (.int f), .val (.ref b11), .val (.ref b32), .val (.int (n + i).toInt32), .val (.int (1 : Int32))] [(.int (1 : Int32))])) (fun _ k_ => XS.iload X53.here hx rfl (hb hby at_538) rfl k_) ?_
  refine Go.st (S' := T53.setTop (mkF m 542 #[.val (.long q0), .second, .val (.long q1), .second, .val (.int p2), .val (.int p3), .val (.int p4), .val (.int i.toInt32), .val (.int n.toInt32), .val (.int f), .val (.ref b11), .val (.ref b32), .val (.int (n + i).toInt32), .val (.int (1 : Int32))] [(.ref b11), (.int (1 : Int32))])) (fun _ k_ => XS.aload X53.here hx rfl (hb hby at_540) rfl rfl k_) ?_
  refine Go.st (S' := T53.setTop (mkF m 544 #[.val (.long q0), .second, .val (.long q1), .second, .val (.int p2), .val (.int p3), .val (.int p4), .val (.int i.toInt32), .val (.int n.toInt32), .val (.int f), .val (.ref b11), .val (.ref b32), .val (.int (n + i).toInt32), .val (.int (1 : Int32))] [(.int (18 : Int32)), (.ref b11), (.int (1 : Int32))])) (fun _ k_ => XS.bipush X53.here hx rfl (hb hby at_542) k_) ?_
  refine Go.st (S' := T53.setTop (mkF m 546 #[.val (.long q0), .second, .val (.long q1), .second, .val (.int p2), .val (.int p3), .val (.int p4), .val (.int i.toInt32), .val (.int n.toInt32), .val (.int f), .val (.ref b11), .val (.ref b32), .val (.int (n + i).toInt32), .val (.int (1 : Int32))] [(.int n.toInt32), (.int (18 : Int32)), (.ref b11), (.int (1 : Int32))])) (fun _ k_ => XS.iload X53.here hx rfl (hb hby at_544) rfl k_) ?_
  refine Go.st (S' := T53.setTop (mkF m 548 #[.val (.long q0), .second, .val (.long q1), .second, .val (.int p2), .val (.int p3), .val (.int p4), .val (.int i.toInt32), .val (.int n.toInt32), .val (.int f), .val (.ref b11), .val (.ref b32), .val (.int (n + i).toInt32), .val (.int (1 : Int32))] [(.int i.toInt32), (.int n.toInt32), (.int (18 : Int32)), (.ref b11), (.int (1 : Int32))])) (fun _ k_ => XS.iload X53.here hx rfl (hb hby at_546) rfl k_) ?_
  refine Go.st (S' := T53.setTop (mkF m 549 #[.val (.long q0), .second, .val (.long q1), .second, .val (.int p2), .val (.int p3), .val (.int p4), .val (.int i.toInt32), .val (.int n.toInt32), .val (.int f), .val (.ref b11), .val (.ref b32), .val (.int (n + i).toInt32), .val (.int (1 : Int32))] [(.long q0), (.int i.toInt32), (.int n.toInt32), (.int (18 : Int32)), (.ref b11), (.int (1 : Int32))])) (fun _ k_ => XS.lloadN X53.here hx rfl (hb hby at_548) rfl k_) ?_
  refine Go.st (S' := T53.setTop (mkF m 550 #[.val (.long q0), .second, .val (.long q1), .second, .val (.int p2), .val (.int p3), .val (.int p4), .val (.int i.toInt32), .val (.int n.toInt32), .val (.int f), .val (.ref b11), .val (.ref b32), .val (.int (n + i).toInt32), .val (.int (1 : Int32))] [(.long q1), (.long q0), (.int i.toInt32), (.int n.toInt32), (.int (18 : Int32)), (.ref b11), (.int (1 : Int32))])) (fun _ k_ => XS.lloadN X53.here hx rfl (hb hby at_549) rfl k_) ?_
  refine Go.st (S' := T53.setTop (mkF m 552 #[.val (.long q0), .second, .val (.long q1), .second, .val (.int p2), .val (.int p3), .val (.int p4), .val (.int i.toInt32), .val (.int n.toInt32), .val (.int f), .val (.ref b11), .val (.ref b32), .val (.int (n + i).toInt32), .val (.int (1 : Int32))] [(.int f), (.long q1), (.long q0), (.int i.toInt32), (.int n.toInt32), (.int (18 : Int32)), (.ref b11), (.int (1 : Int32))])) (fun _ k_ => XS.iload X53.here hx rfl (hb hby at_550) rfl k_) ?_
  obtain ⟨v54, T54, h54, L54, X54, e54, hQ54, st54⟩ := callSt X53 hx hZ hown (w7 hw) (w8 hw) (w9 hw) (w10 hw) (by decide) (W := 1) (argsL := [(.ref b11), (.int (18 : Int32)), (.int n.toInt32), (.int i.toInt32), (.long q0), (.long q1), (.int f)]) (rest := [(.int (1 : Int32))]) e53 (rm_ok l Z a0 hw b11 (18 : Int32) n.toInt32 i.toInt32 q0 q1 f ys35 h35 n0 Z0 A_b11 (by decide) (own_cell hW35 (by omega) (by omega) 18 (by decide))) (by decide) (by decide) pd2 rfl (g := (mkF m 552 #[.val (.long q0), .second, .val (.long q1), .second, .val (.int p2), .val (.int p3), .val (.int p4), .val (.int i.toInt32), .val (.int n.toInt32), .val (.int f), .val (.ref b11), .val (.ref b32), .val (.int (n + i).toInt32), .val (.int (1 : Int32))] [(.int f), (.long q1), (.long q0), (.int i.toInt32), (.int n.toInt32), (.int (18 : Int32)), (.ref b11), (.int (1 : Int32))])) rfl (by rw [hml]; rfl) rfl (by show 2 * 0 + _ ≤ _; exact Nat.le_of_eq rfl) (hb hby at_552) (by decide) (by decide)
  obtain ⟨rfl, Nq54, hh54⟩ := hQ54
  rw [hh54] at e54
  have N54 := Fr.app N53 Nq54
  refine Go.st (S' := T54.setTop (mkF m 555 #[.val (.long q0), .second, .val (.long q1), .second, .val (.int p2), .val (.int p3), .val (.int p4), .val (.int i.toInt32), .val (.int n.toInt32), .val (.int f), .val (.ref b11), .val (.ref b32), .val (.int (n + i).toInt32), .val (.int (1 : Int32))] [(.int (1 : Int32)), (.int (1 : Int32))])) (st54) ?_
  refine Go.st (S' := T54.setTop (mkF m 556 #[.val (.long q0), .second, .val (.long q1), .second, .val (.int p2), .val (.int p3), .val (.int p4), .val (.int i.toInt32), .val (.int n.toInt32), .val (.int f), .val (.ref b11), .val (.ref b32), .val (.int (n + i).toInt32), .val (.int (1 : Int32))] [(.int ((1 : Int32) &&& (1 : Int32)))])) (fun _ k_ => XS.iand X54.here hx rfl (hb hby at_555) rfl k_) ?_
  rw [show ((1 : Int32) &&& (1 : Int32)) = (1 : Int32) from (by decide)]
  refine Go.st (S' := T54.setTop (mkF m 558 #[.val (.long q0), .second, .val (.long q1), .second, .val (.int p2), .val (.int p3), .val (.int p4), .val (.int i.toInt32), .val (.int n.toInt32), .val (.int f), .val (.ref b11), .val (.ref b32), .val (.int (n + i).toInt32), .val (.int (1 : Int32))] [])) (fun _ k_ => XS.istore X54.here hx rfl (hb hby at_556) rfl (l' := #[.val (.long q0), .second, .val (.long q1), .second, .val (.int p2), .val (.int p3), .val (.int p4), .val (.int i.toInt32), .val (.int n.toInt32), .val (.int f), .val (.ref b11), .val (.ref b32), .val (.int (n + i).toInt32), .val (.int (1 : Int32))]) rfl k_) ?_
  refine Go.st (S' := T54.setTop (mkF m 560 #[.val (.long q0), .second, .val (.long q1), .second, .val (.int p2), .val (.int p3), .val (.int p4), .val (.int i.toInt32), .val (.int n.toInt32), .val (.int f), .val (.ref b11), .val (.ref b32), .val (.int (n + i).toInt32), .val (.int (1 : Int32))] [(.int (1 : Int32))])) (fun _ k_ => XS.iload X54.here hx rfl (hb hby at_558) rfl k_) ?_
  refine Go.st (S' := T54.setTop (mkF m 562 #[.val (.long q0), .second, .val (.long q1), .second, .val (.int p2), .val (.int p3), .val (.int p4), .val (.int i.toInt32), .val (.int n.toInt32), .val (.int f), .val (.ref b11), .val (.ref b32), .val (.int (n + i).toInt32), .val (.int (1 : Int32))] [(.ref b11), (.int (1 : Int32))])) (fun _ k_ => XS.aload X54.here hx rfl (hb hby at_560) rfl rfl k_) ?_
  refine Go.st (S' := T54.setTop (mkF m 564 #[.val (.long q0), .second, .val (.long q1), .second, .val (.int p2), .val (.int p3), .val (.int p4), .val (.int i.toInt32), .val (.int n.toInt32), .val (.int f), .val (.ref b11), .val (.ref b32), .val (.int (n + i).toInt32), .val (.int (1 : Int32))] [(.int (19 : Int32)), (.ref b11), (.int (1 : Int32))])) (fun _ k_ => XS.bipush X54.here hx rfl (hb hby at_562) k_) ?_
  refine Go.st (S' := T54.setTop (mkF m 566 #[.val (.long q0), .second, .val (.long q1), .second, .val (.int p2), .val (.int p3), .val (.int p4), .val (.int i.toInt32), .val (.int n.toInt32), .val (.int f), .val (.ref b11), .val (.ref b32), .val (.int (n + i).toInt32), .val (.int (1 : Int32))] [(.int n.toInt32), (.int (19 : Int32)), (.ref b11), (.int (1 : Int32))])) (fun _ k_ => XS.iload X54.here hx rfl (hb hby at_564) rfl k_) ?_
  refine Go.st (S' := T54.setTop (mkF m 568 #[.val (.long q0), .second, .val (.long q1), .second, .val (.int p2), .val (.int p3), .val (.int p4), .val (.int i.toInt32), .val (.int n.toInt32), .val (.int f), .val (.ref b11), .val (.ref b32), .val (.int (n + i).toInt32), .val (.int (1 : Int32))] [(.int i.toInt32), (.int n.toInt32), (.int (19 : Int32)), (.ref b11), (.int (1 : Int32))])) (fun _ k_ => XS.iload X54.here hx rfl (hb hby at_566) rfl k_) ?_
  refine Go.st (S' := T54.setTop (mkF m 569 #[.val (.long q0), .second, .val (.long q1), .second, .val (.int p2), .val (.int p3), .val (.int p4), .val (.int i.toInt32), .val (.int n.toInt32), .val (.int f), .val (.ref b11), .val (.ref b32), .val (.int (n + i).toInt32), .val (.int (1 : Int32))] [(.long q0), (.int i.toInt32), (.int n.toInt32), (.int (19 : Int32)), (.ref b11), (.int (1 : Int32))])) (fun _ k_ => XS.lloadN X54.here hx rfl (hb hby at_568) rfl k_) ?_
  refine Go.st (S' := T54.setTop (mkF m 570 #[.val (.long q0), .second, .val (.long q1), .second, .val (.int p2), .val (.int p3), .val (.int p4), .val (.int i.toInt32), .val (.int n.toInt32), .val (.int f), .val (.ref b11), .val (.ref b32), .val (.int (n + i).toInt32), .val (.int (1 : Int32))] [(.long q1), (.long q0), (.int i.toInt32), (.int n.toInt32), (.int (19 : Int32)), (.ref b11), (.int (1 : Int32))])) (fun _ k_ => XS.lloadN X54.here hx rfl (hb hby at_569) rfl k_) ?_
  refine Go.st (S' := T54.setTop (mkF m 572 #[.val (.long q0), .second, .val (.long q1), .second, .val (.int p2), .val (.int p3), .val (.int p4), .val (.int i.toInt32), .val (.int n.toInt32), .val (.int f), .val (.ref b11), .val (.ref b32), .val (.int (n + i).toInt32), .val (.int (1 : Int32))] [(.int f), (.long q1), (.long q0), (.int i.toInt32), (.int n.toInt32), (.int (19 : Int32)), (.ref b11), (.int (1 : Int32))])) (fun _ k_ => XS.iload X54.here hx rfl (hb hby at_570) rfl k_) ?_
  obtain ⟨v55, T55, h55, L55, X55, e55, hQ55, st55⟩ := callSt X54 hx hZ hown (w7 hw) (w8 hw) (w9 hw) (w10 hw) (by decide) (W := 1) (argsL := [(.ref b11), (.int (19 : Int32)), (.int n.toInt32), (.int i.toInt32), (.long q0), (.long q1), (.int f)]) (rest := [(.int (1 : Int32))]) e54 (rm_ok l Z a0 hw b11 (19 : Int32) n.toInt32 i.toInt32 q0 q1 f ys35 h35 n0 Z0 A_b11 (by decide) (own_cell hW35 (by omega) (by omega) 19 (by decide))) (by decide) (by decide) pd2 rfl (g := (mkF m 572 #[.val (.long q0), .second, .val (.long q1), .second, .val (.int p2), .val (.int p3), .val (.int p4), .val (.int i.toInt32), .val (.int n.toInt32), .val (.int f), .val (.ref b11), .val (.ref b32), .val (.int (n + i).toInt32), .val (.int (1 : Int32))] [(.int f), (.long q1), (.long q0), (.int i.toInt32), (.int n.toInt32), (.int (19 : Int32)), (.ref b11), (.int (1 : Int32))])) rfl (by rw [hml]; rfl) rfl (by show 2 * 0 + _ ≤ _; exact Nat.le_of_eq rfl) (hb hby at_572) (by decide) (by decide)
  obtain ⟨rfl, Nq55, hh55⟩ := hQ55
  rw [hh55] at e55
  have N55 := Fr.app N54 Nq55
  refine Go.st (S' := T55.setTop (mkF m 575 #[.val (.long q0), .second, .val (.long q1), .second, .val (.int p2), .val (.int p3), .val (.int p4), .val (.int i.toInt32), .val (.int n.toInt32), .val (.int f), .val (.ref b11), .val (.ref b32), .val (.int (n + i).toInt32), .val (.int (1 : Int32))] [(.int (1 : Int32)), (.int (1 : Int32))])) (st55) ?_
  refine Go.st (S' := T55.setTop (mkF m 576 #[.val (.long q0), .second, .val (.long q1), .second, .val (.int p2), .val (.int p3), .val (.int p4), .val (.int i.toInt32), .val (.int n.toInt32), .val (.int f), .val (.ref b11), .val (.ref b32), .val (.int (n + i).toInt32), .val (.int (1 : Int32))] [(.int ((1 : Int32) &&& (1 : Int32)))])) (fun _ k_ => XS.iand X55.here hx rfl (hb hby at_575) rfl k_) ?_
  rw [show ((1 : Int32) &&& (1 : Int32)) = (1 : Int32) from (by decide)]
  refine Go.st (S' := T55.setTop (mkF m 578 #[.val (.long q0), .second, .val (.long q1), .second, .val (.int p2), .val (.int p3), .val (.int p4), .val (.int i.toInt32), .val (.int n.toInt32), .val (.int f), .val (.ref b11), .val (.ref b32), .val (.int (n + i).toInt32), .val (.int (1 : Int32))] [])) (fun _ k_ => XS.istore X55.here hx rfl (hb hby at_576) rfl (l' := #[.val (.long q0), .second, .val (.long q1), .second, .val (.int p2), .val (.int p3), .val (.int p4), .val (.int i.toInt32), .val (.int n.toInt32), .val (.int f), .val (.ref b11), .val (.ref b32), .val (.int (n + i).toInt32), .val (.int (1 : Int32))]) rfl k_) ?_
  refine Go.st (S' := T55.setTop (mkF m 580 #[.val (.long q0), .second, .val (.long q1), .second, .val (.int p2), .val (.int p3), .val (.int p4), .val (.int i.toInt32), .val (.int n.toInt32), .val (.int f), .val (.ref b11), .val (.ref b32), .val (.int (n + i).toInt32), .val (.int (1 : Int32))] [(.int (1 : Int32))])) (fun _ k_ => XS.iload X55.here hx rfl (hb hby at_578) rfl k_) ?_
  exact Go.retN X55 hx (t := .boolean) hret (by simp) hlk (hb hby at_580) (by decide) (by decide) ⟨rfl, N55⟩
set_option maxRecDepth 65536 in
set_option maxHeartbeats 40000000 in
theorem comes_1 {Post : Tables → Env → Array Value → State → Outcome → State → Prop} (hpost : ∀ tb e args s v u, (limb_1_1.after args s (.returned v) u = true ∧ limb_1_2.after args s (.returned v) u = true ∧ True) → FrameEnd s (.returned v) u (Jvm.fieldLocs frame_1_writes args s ++ Jvm.arrayLocs frame_1_arrays args s ++ Jvm.staticLocs frame_1_statics s) 16 128 → Post tb e args s (.returned v) u) :
    ArmFor flags0 classFile x code maxLocals ret World_1 tables_1 room_1 Calls_1 rest_1 Pre_1 Post := by
  intro l hfl _ _ p e ha hc hk s m args below hf hA hF happ hP
  obtain ⟨hcalls, hrest, hpre⟩ := hP
  obtain ⟨-, -, -, hnamed, -, -, -, hat⟩ := (Spec.applies_iff hf).mp happ
  obtain ⟨hg, hn⟩ := and_e (Cond.before_iff.mp (show (Jvm.Cond.and given_1 narrow_1).before args s = true from hpre))
  obtain ⟨g1, g2⟩ := and_e hg
  obtain ⟨g3, g4⟩ := and_e g2
  obtain ⟨g5, g6⟩ := and_e g4
  obtain ⟨g7, g8⟩ := and_e g6
  obtain ⟨g9, g10⟩ := and_e g8
  obtain ⟨u0, u1, u2, u3, u4, rfl⟩ : ∃ u0 u1 u2 u3 u4 : Value, args = #[u0, u1, u2, u3, u4] := by
    have hs : args.size = 5 := by simpa [Cond.value, given_1] using g1
    obtain ⟨L⟩ := args
    match L, hs with
    | [u0, u1, u2, u3, u4], _ => exact ⟨u0, u1, u2, u3, u4, rfl⟩
  have hw := fun d (hd : d ∈ tables_1) => atoms_spec (ws := Jvm.Cond.code x code maxLocals ret :: tables_1) hat d (List.mem_cons_of_mem _ hd)
  obtain ⟨i0, ei0⟩ := isL_v g3
  obtain rfl : u0 = (.long i0) := Option.some.inj ei0
  obtain ⟨i1, ei1⟩ := isL_v g5
  obtain rfl : u1 = (.long i1) := Option.some.inj ei1
  obtain ⟨i2, ei2⟩ := is_v g7
  obtain rfl : u2 = (.int i2) := Option.some.inj ei2
  obtain ⟨i3, ei3⟩ := is_v g9
  obtain rfl : u3 = (.int i3) := Option.some.inj ei3
  obtain ⟨i4, ei4⟩ := is_v g10
  obtain rfl : u4 = (.int i4) := Option.some.inj ei4
  obtain ⟨n, o, h1, h2, h3, v, L, rfl, ⟨hv, N⟩, hq⟩ := rm0 l s _ hw tables_1 i0 i1 i2 i3 i4 s.heap s.heap.size (Nat.le_refl _) p e ha hc hk s m _ below hf ((Spec.applies_iff_loose hf).mp happ).1 ⟨rfl, State.Warmed39.refl s, rfl⟩ trivial
  subst hv
  refine ⟨n, _, h1, h2, h3, hpost _ _ _ _ _ _ ⟨Cond.after_iff.mpr rfl, Cond.after_iff.mpr (eq_i res_at (Term.int_eval (1)) rfl), trivial⟩ ⟨hq.1, hq.2.1, (hq.2.2.sift fun y hy => Or.inr (N y hy)).mono (by decide) (by decide)⟩⟩
theorem main_1_1 : Claimed_1_1 := comes_1 fun _ _ _ _ _ _ h hF => ⟨h.1, hF⟩
theorem main_1_2 : Claimed_1_2 := comes_1 fun _ _ _ _ _ _ h hF => ⟨h.2.1, hF⟩
end Jvm.Pilot.@@N@@
namespace Jvm.Pilot.@@N@@
open Jvm Jvm.ClassFile Sem Op Lib Jvm.Free Jvm.Stand Jvm.Pilot.@@N@@.Jvm.D
/-! MADE BY PROGRAM (witnessworld.py) out of the Statement's table words and the real class files: 11 classes; the members and pool entries that the words name. The judged class is class 1, her method 3. -/
namespace start1
open Jvm.ClassFile
def u (s : String) : CpInfo := .utf8 (stringToUtf16 s)
/-- a pool by its gaps: so many unusable entries, then the entry; so many at the end -/
def gap : Nat → List CpInfo → List CpInfo
  | 0, r => r
  | n + 1, r => .unusable :: gap n r
def poolList (es : List (Nat × CpInfo)) (last : Nat) : List CpInfo := es.foldr (fun e r => gap e.1 (e.2 :: r)) (gap last [])
def pool (es : List (Nat × CpInfo)) (last : Nat) : Array CpInfo := ⟨poolList es last⟩
def fileOf (pool : Array CpInfo) (this : Nat) (attrs : Array Attribute := #[]) (ms : Array MethodInfo := #[]) (fl : Nat := 33) (sup : Nat := 0) (ifs : Array Nat := #[]) (fds : Array FieldInfo := #[]) : ClassFile where
  minorVersion := 0
  majorVersion := 65
  constantPool := pool
  accessFlags := fl
  thisClass := this
  superClass := sup
  interfaces := ifs
  fields := fds
  methods := ms
  attributes := attrs
def plain (name : String) (sup : Option ClassId) : Class where
  name := name
  kind := .ordinary
  loader := none
  accessFlags := 33
  super := sup
  interfaces := #[]
  cf := none
  fields := #[]
  methods := #[]
  instanceTypes := #[]
  staticTypes := #[]
  resolved := #[]
  callSites := []
  init := .initialized
  statics := none
  mirror := none

def pool0 : Array CpInfo := pool [(5, u "<init>"), (0, u "()V"), (1, .class_ 10), (1, u "java/lang/Object")] 113

def k0m0 : Method := { name := "<init>", desc := "()V", sig := { parameters := [], returnType := none }, accessFlags := 1, code := none }
/-- java/lang/Object -/
def k0 : Class := { plain "java/lang/Object" none with
  accessFlags := 33
  interfaces := #[]
  cf := some (fileOf pool0 8 #[] #[{ accessFlags := 1, nameIndex := 5, descriptorIndex := 6, attributes := #[] }] 33 0 #[] #[])
  fields := #[]
  methods := #[k0m0]
  instanceTypes := #[]
  staticTypes := #[]
  resolved := Array.replicate 124 none
  statics := none }

def pool1 : Array CpInfo := pool [(2, .class_ 4), (1, u "java/lang/Object"), (0, u "<init>"), (0, u "()V"), (0, .methodref 8 9), (0, .class_ 10), (0, .nameAndType 11 12), (0, u "io/tightbits/FixedWidthPutFirstBytesPinLaw"), (0, u "byteOf"), (0, u "(JJI)B"), (0, .integer 2147483647), (0, .methodref 15 16), (0, .class_ 17), (0, .nameAndType 18 19), (0, u "io/tightbits/FixedWidth"), (0, u "putFirstBytes"), (0, u "([JI[BI)I"), (0, .methodref 8 21), (0, .nameAndType 22 23), (0, u "ok"), (0, u "([BIIIJJB)Z"), (3, u "law"), (0, u "(JJIII)Z")] 6

def k1m0 : Method := { name := "<init>", desc := "()V", sig := { parameters := [], returnType := none }, accessFlags := 2, code := none }
def k1c1 : Code := { maxStack := 4, maxLocals := 8, code := method_2_code, exceptionTable := #[], attributes := #[] }
def k1m1 : Method := { name := "byteOf", desc := "(JJI)B", sig := { parameters := [.long, .long, .int], returnType := some .byte }, accessFlags := 10, code := some k1c1 }
def k1c2 : Code := { maxStack := 7, maxLocals := 9, code := method_3_code, exceptionTable := #[], attributes := #[] }
def k1m2 : Method := { name := "ok", desc := "([BIIIJJB)Z", sig := { parameters := [(.array .byte), .int, .int, .int, .long, .long, .byte], returnType := some .boolean }, accessFlags := 10, code := some k1c2 }
def k1c3 : Code := { maxStack := 10, maxLocals := 14, code := code, exceptionTable := #[], attributes := #[] }
def k1m3 : Method := { name := "law", desc := "(JJIII)Z", sig := { parameters := [.long, .long, .int, .int, .int], returnType := some .boolean }, accessFlags := 9, code := some k1c3 }
/-- io/tightbits/FixedWidthPutFirstBytesPinLaw -/
def k1 : Class := { plain "io/tightbits/FixedWidthPutFirstBytesPinLaw" (some 0) with
  accessFlags := 49
  interfaces := #[]
  cf := some (fileOf pool1 8 #[] #[{ accessFlags := 2, nameIndex := 5, descriptorIndex := 6, attributes := #[] }, { accessFlags := 10, nameIndex := 11, descriptorIndex := 12, attributes := #[] }, { accessFlags := 10, nameIndex := 22, descriptorIndex := 23, attributes := #[] }, { accessFlags := 9, nameIndex := 27, descriptorIndex := 28, attributes := #[] }] 49 2 #[] #[])
  fields := #[]
  methods := #[k1m0, k1m1, k1m2, k1m3]
  instanceTypes := #[]
  staticTypes := #[]
  resolved := Array.replicate 35 none
  statics := none }

def pool2 : Array CpInfo := pool [(6, .class_ 8), (1, u "java/lang/Object"), (0, u "<init>"), (0, u "()V"), (5, .class_ 18), (1, u "io/tightbits/FixedWidth"), (37, .class_ 57), (0, u "io/tightbits/FixedWidth$NarrowByteBlocks"), (3, .class_ 62), (0, u "io/tightbits/FixedWidth$ByteBlocks"), (7, .class_ 71), (0, u "io/tightbits/FixedWidth$LongBlocks"), (63, u "putFirstBytes"), (0, u "([JI[BI)I"), (11, u "BIG_ENDIAN_LONG"), (0, u "Ljava/lang/invoke/VarHandle;"), (13, u "BIG_ENDIAN_INT"), (14, .class_ 180), (1, u "io/tightbits/FixedWidth$GroupsAtWidth"), (3, .class_ 186), (1, u "io/tightbits/FixedWidth$Groups"), (7, .class_ 196), (1, u "io/tightbits/FixedWidth$SumsAtWidth"), (2, .class_ 201), (1, u "io/tightbits/FixedWidth$Sums"), (46, u "LARGEST_ARRAY"), (0, u "I"), (2, u "GROUPED_WIDEST"), (1, u "INT_PAIRS_WIDEST"), (1, u "ONE_LOAD_WIDEST")] 93

def k2m0 : Method := { name := "<init>", desc := "()V", sig := { parameters := [], returnType := none }, accessFlags := 2, code := none }
def k2c1 : Code := { maxStack := 7, maxLocals := 5, code := prog_14_method_23_code, exceptionTable := #[], attributes := #[] }
def k2m1 : Method := { name := "putFirstBytes", desc := "([JI[BI)I", sig := { parameters := [(.array .long), .int, (.array .byte), .int], returnType := some .int }, accessFlags := 8, code := some k2c1 }
/-- io/tightbits/FixedWidth -/
def k2 : Class := { plain "io/tightbits/FixedWidth" (some 0) with
  accessFlags := 49
  interfaces := #[]
  cf := some (fileOf pool2 16 #[.nestMembers #[70, 56, 61, 194, 199, 178, 184]] #[{ accessFlags := 2, nameIndex := 9, descriptorIndex := 10, attributes := #[] }, { accessFlags := 8, nameIndex := 135, descriptorIndex := 136, attributes := #[] }] 49 6 #[] #[{ accessFlags := 24, nameIndex := 248, descriptorIndex := 249, attributes := #[] }, { accessFlags := 24, nameIndex := 148, descriptorIndex := 149, attributes := #[] }, { accessFlags := 24, nameIndex := 163, descriptorIndex := 149, attributes := #[] }, { accessFlags := 26, nameIndex := 252, descriptorIndex := 249, attributes := #[] }, { accessFlags := 24, nameIndex := 254, descriptorIndex := 249, attributes := #[] }, { accessFlags := 26, nameIndex := 256, descriptorIndex := 249, attributes := #[] }])
  fields := #[{ name := "LARGEST_ARRAY", type := .int, accessFlags := 24, slot := 0, constantValue := 0 }, { name := "BIG_ENDIAN_LONG", type := (.object "java/lang/invoke/VarHandle"), accessFlags := 24, slot := 1, constantValue := 0 }, { name := "BIG_ENDIAN_INT", type := (.object "java/lang/invoke/VarHandle"), accessFlags := 24, slot := 2, constantValue := 0 }, { name := "GROUPED_WIDEST", type := .int, accessFlags := 26, slot := 3, constantValue := 0 }, { name := "INT_PAIRS_WIDEST", type := .int, accessFlags := 24, slot := 4, constantValue := 0 }, { name := "ONE_LOAD_WIDEST", type := .int, accessFlags := 26, slot := 5, constantValue := 0 }]
  methods := #[k2m0, k2m1]
  instanceTypes := #[]
  staticTypes := #[.int, (.object "java/lang/invoke/VarHandle"), (.object "java/lang/invoke/VarHandle"), .int, .int, .int]
  resolved := Array.replicate 350 none
  statics := none }

def pool3 : Array CpInfo := pool [(1, u "java/lang/Cloneable"), (0, .class_ 1), (0, u "java/lang/Object"), (0, .class_ 3)] 3

/-- java/lang/Cloneable -/
def k3 : Class := { plain "java/lang/Cloneable" (some 0) with
  accessFlags := 1537
  interfaces := #[]
  cf := some (fileOf pool3 2 #[] #[] 1537 4 #[] #[])
  fields := #[]
  methods := #[]
  instanceTypes := #[]
  staticTypes := #[]
  resolved := Array.replicate 8 none
  statics := none }

def pool4 : Array CpInfo := pool [(1, u "java/io/Serializable"), (0, .class_ 1), (0, u "java/lang/Object"), (0, .class_ 3)] 3

/-- java/io/Serializable -/
def k4 : Class := { plain "java/io/Serializable" (some 0) with
  accessFlags := 1537
  interfaces := #[]
  cf := some (fileOf pool4 2 #[] #[] 1537 4 #[] #[])
  fields := #[]
  methods := #[]
  instanceTypes := #[]
  staticTypes := #[]
  resolved := Array.replicate 8 none
  statics := none }

/-- the primitive byte -/
def k5 : Class := { plain "byte" none with kind := .primitive 'B', accessFlags := 0x411 }
/-- [B -/
def k6 : Class := { plain "[B" (some 0) with kind := .array 5 .byte, interfaces := #[3, 4], accessFlags := 1041 }

/-- the primitive int -/
def k7 : Class := { plain "int" none with kind := .primitive 'I', accessFlags := 0x411 }
/-- [I -/
def k8 : Class := { plain "[I" (some 0) with kind := .array 7 .int, interfaces := #[3, 4], accessFlags := 1041 }

/-- the primitive long -/
def k9 : Class := { plain "long" none with kind := .primitive 'J', accessFlags := 0x411 }
/-- [J -/
def k10 : Class := { plain "[J" (some 0) with kind := .array 9 .long, interfaces := #[3, 4], accessFlags := 1041 }

def heap : Heap := #[]
def classes : Array Class := #[k0, k1, k2, k3, k4, k5, k6, k7, k8, k9, k10]
def interned : List (Array UInt16 × Addr) := []
def slotsUsed : Nat := 0
def theMethod : MethodId := ⟨1, 3⟩
def args0 : Array Value := #[.long 5, .long 7, .int 2, .int 9, .int 3]
def aboutOver (below : List Frame) : State where
  vm := { classes := classes, interned := interned.toArray }
  heap := heap
  slotsUsed := slotsUsed
  threads := #[{ frames := .invoking theMethod args0 :: below }]
def below0 : List Frame := [.native { method := ⟨0, 0⟩, args := #[] }]
def about1 : State := aboutOver below0
def p0 : Program := .bare "" "" ""
def e0 : Env := launch0.env 0 0 0
theorem w_frames : about1.frames = Frame.invoking theMethod args0 :: below0 := rfl
set_option maxRecDepth 65536 in
theorem w_args : argsFit about1.vm theMethod args0 = true := by decide +kernel
set_option maxRecDepth 65536 in
theorem w_heap : heapFits about1 = true := by decide +kernel
set_option maxRecDepth 65536 in
theorem w_runnable : about1.curStatus? = some .runnable := by decide +kernel
set_option maxRecDepth 65536 in
theorem w_alone : about1.alone = true := by decide +kernel
set_option maxRecDepth 65536 in
theorem w_named : about1.methodNamed? x = some theMethod := by decide +kernel
set_option maxRecDepth 65536 in
theorem w_hears : about1.hears theMethod below0 = true := by decide +kernel
set_option maxRecDepth 65536 in
theorem w_ripe : about1.ripe theMethod args0 below0 = true := by decide +kernel
theorem w_running : about1.status = .running := rfl
set_option maxRecDepth 65536 in
theorem w_room : about1.hasRoom e0.platform room_1 = true :=
  launch0.hasRoom_least _ room_1 (by decide +kernel) (by decide +kernel) (by decide +kernel) (by decide +kernel) (by decide +kernel) (by decide +kernel)
theorem allAtoms_all (ts : List Jvm.Cond) (a : Array Jvm.Value) (st : Jvm.State) : (allAtoms ts).before a st = ts.all (fun c => c.before a st) := by
  induction ts with
  | nil => rfl
  | cons c t ih =>
    show (Jvm.Cond.and c (allAtoms t)).before a st = _
    rw [Jvm.Cond.before_and, ih, List.all_cons]
def words1 : List Jvm.Cond := Jvm.Cond.code x code maxLocals ret :: tables_1
/-- a 'code' word, met by the world's own term for the bytes: nothing is compared byte by byte -/
theorem code_word {y : MethodName} {bytes : ByteArray} {mx : Nat} {rt : Option FieldType} {a : Array Value} {s : State} {m : MethodId} {meth : Method} {c : Code} (h1 : s.methodNamed? y = some m) (h2 : s.vm.method? m = some meth) (h3 : meth.code = some c) (h4 : c.code = bytes)
    (h5 : (c.maxLocals == mx && c.exceptionTable.isEmpty && decide (c.maxStack ≤ mostOperands) && decide (meth.sig.returnType = rt) && !meth.locks && decide (parseMethodDescriptor y.desc = some meth.sig)) = true) : (Jvm.Cond.code y bytes mx rt).before a s = true := by
  simp only [Bool.and_eq_true, beq_iff_eq, Bool.not_eq_true', decide_eq_true_eq] at h5
  obtain ⟨⟨⟨⟨⟨g1, g2⟩, g3⟩, g4⟩, g5⟩, g6⟩ := h5
  simp [Cond.before, Cond.holds, Cond.value, h1, h2, h3, h4, g1, g2, g3, g4, g5, g6]
def isCode : Jvm.Cond → Bool
  | .code _ _ _ _ => true
  | _ => false
theorem all_split {L : List Jvm.Cond} {P : Jvm.Cond → Bool} (h1 : L.all (fun c => isCode c || P c) = true) (h2 : ∀ c ∈ L.filter isCode, P c = true) : L.all P = true := by
  refine List.all_eq_true.mpr fun c hc => ?_
  have h := List.all_eq_true.mp h1 c hc
  rcases Bool.eq_false_or_eq_true (isCode c) with hi | hi
  · exact h2 c (List.mem_filter.mpr ⟨hc, hi⟩)
  · simpa [hi] using h
set_option maxRecDepth 65536 in
theorem w_c0 : (Jvm.Cond.code x code maxLocals ret).before args0 about1 = true := code_word (m := ⟨1, 3⟩) (meth := k1m3) (c := k1c3) (by decide +kernel) rfl rfl rfl (by decide +kernel)
set_option maxRecDepth 65536 in
theorem w_c1 : (Jvm.Cond.code ({ cls := "io/tightbits/FixedWidth", name := "putFirstBytes", desc := "([JI[BI)I" } : Jvm.MethodName) prog_14_method_23_code (5 : Nat) (Option.some Jvm.ClassFile.FieldType.int)).before args0 about1 = true := code_word (m := ⟨2, 1⟩) (meth := k2m1) (c := k2c1) (by decide +kernel) rfl rfl rfl (by decide +kernel)
set_option maxRecDepth 65536 in
theorem w_c2 : (Jvm.Cond.code ({ cls := "io/tightbits/FixedWidthPutFirstBytesPinLaw", name := "ok", desc := "([BIIIJJB)Z" } : Jvm.MethodName) method_3_code (9 : Nat) (Option.some Jvm.ClassFile.FieldType.boolean)).before args0 about1 = true := code_word (m := ⟨1, 2⟩) (meth := k1m2) (c := k1c2) (by decide +kernel) rfl rfl rfl (by decide +kernel)
set_option maxRecDepth 65536 in
theorem w_c3 : (Jvm.Cond.code ({ cls := "io/tightbits/FixedWidthPutFirstBytesPinLaw", name := "byteOf", desc := "(JJI)B" } : Jvm.MethodName) method_2_code (8 : Nat) (Option.some Jvm.ClassFile.FieldType.byte)).before args0 about1 = true := code_word (m := ⟨1, 1⟩) (meth := k1m1) (c := k1c1) (by decide +kernel) rfl rfl rfl (by decide +kernel)
def codes1 : List Jvm.Cond := [Jvm.Cond.code x code maxLocals ret, Jvm.Cond.code ({ cls := "io/tightbits/FixedWidth", name := "putFirstBytes", desc := "([JI[BI)I" } : Jvm.MethodName) prog_14_method_23_code (5 : Nat) (Option.some Jvm.ClassFile.FieldType.int), Jvm.Cond.code ({ cls := "io/tightbits/FixedWidthPutFirstBytesPinLaw", name := "ok", desc := "([BIIIJJB)Z" } : Jvm.MethodName) method_3_code (9 : Nat) (Option.some Jvm.ClassFile.FieldType.boolean), Jvm.Cond.code ({ cls := "io/tightbits/FixedWidthPutFirstBytesPinLaw", name := "byteOf", desc := "(JJI)B" } : Jvm.MethodName) method_2_code (8 : Nat) (Option.some Jvm.ClassFile.FieldType.byte)]
set_option maxRecDepth 65536 in
theorem codes_eq : words1.filter isCode = codes1 := rfl
theorem w_codes : ∀ c ∈ words1.filter isCode, c.before args0 about1 = true := by
  rw [codes_eq]
  intro c hc
  simp only [codes1, List.mem_cons, List.not_mem_nil, or_false] at hc
  rcases hc with rfl | rfl | rfl | rfl
  · exact w_c0
  · exact w_c1
  · exact w_c2
  · exact w_c3
set_option maxRecDepth 65536 in
theorem w_t1 : words1.all (fun c => isCode c || c.before args0 about1) = true := by decide +kernel
theorem w_tables : (allAtoms (Jvm.Cond.code x code maxLocals ret :: tables_1)).before args0 about1 = true := by
  rw [allAtoms_all]
  show words1.all (fun c => c.before args0 about1) = true
  refine all_split ?_ w_codes
  rw [w_t1]
set_option maxRecDepth 65536 in
theorem w_case : (Jvm.Cond.and given_1 narrow_1).before args0 about1 = true := by decide +kernel
theorem w_applies : (headSpec (Jvm.Cond.code x code maxLocals ret :: tables_1) room_1).applies x e0.platform about1 = true :=
  (Spec.applies_iff w_frames).mpr ⟨w_running, w_runnable, w_alone, w_named, w_hears, w_ripe, w_room, w_tables⟩
theorem atStart : AtStart classFile x code maxLocals ret World_1 tables_1 room_1 Calls_1 rest_1 Pre_1 launch0 p0 e0 about1 theMethod args0 below0 :=
  ⟨lists_1, trivial, launch0.admits_env _ _ _, launch0.least_env, fairChoices_fair.cas, fairChoices_fair.clock, w_frames, w_args, w_heap, w_applies, trivial, trivial, w_case⟩
end start1
theorem witness_1 : WitnessClaimed_1 := ⟨start1.p0, start1.e0, start1.about1, start1.theMethod, start1.args0, start1.below0, start1.atStart⟩
end Jvm.Pilot.@@N@@
