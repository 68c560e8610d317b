import JvmDerived
import JvmDerived.Pilot.@@N@@Statement
import JvmDerived.Pilot.@@N@@Code
set_option linter.unusedVariables false
set_option linter.unusedSimpArgs false
namespace Jvm.Pilot.@@N@@
open Jvm Jvm.ClassFile Sem Op Lib Jvm.Free Jvm.Stand Jvm.LawKit Jvm.RoadKit Bundle Jvm.Pilot.@@N@@.Jvm.D
/-! ## own layer: walks in goal-directed form -/
section Layer
variable {p : Program} {l : Launch} {e : Env} {R : Room} {s : State} {m : MethodId} {args : Array Value} {below : List Frame} {meth : Method} {c : Code} {T : State} {locs : List Loc} {cells slots : Nat} {Z : State} {a0 : Array Value} {h h' : Heap} {a b : Addr} {ty : FieldType} {xs ys : List Int32} {ls : List Int64}
/-- from S the run comes to the invocation's end, with what Q says of the value, the heap and the written places -/
def Go (p : Program) (e : Env) (below : List Frame) (s : State) (rm : Room) (Q : Option Value → Heap → List Loc → Prop) (S : State) : Prop :=
  ∃ t o, Steps p.tables e below S t ∧ t.status = .running ∧ Ended t below o ∧ ∃ v L, o = .returned v ∧ Q v t.heap L ∧ FrameEnd s o t L rm.cells rm.slots
theorem Go.st {rm : Room} {Q : Option Value → Heap → List Loc → Prop} {S S' : State} (k : ∀ t, Steps p.tables e below S' t → Steps p.tables e below S t) (g : Go p e below s rm Q S') : Go p e below s rm Q S := by
  obtain ⟨t, o, h, r⟩ := g; exact ⟨t, o, k t h, r⟩
theorem Go.ret {rm : Room} {Q : Option Value → Heap → List Loc → Prop} {S : State} {v : Option Value} (X : Stand p l e rm s m args below meth c T locs cells slots) (hv : meth.sig.returnType = none → v = none) (hlk : meth.locks = false) (hc : cells ≤ rm.cells) (hs : slots ≤ rm.slots) (hQ : Q v T.heap locs)
    (st : ∀ fs, (∀ (f : JFrame) (acts : List Action), f.method = m → f.locked = none → f.entered = [] → (doReturn e (T.setTop f) acts v).1 = T.setFrames fs) → Steps p.tables e below S (T.setFrames fs)) : Go p e below s rm Q S := by
  obtain ⟨fs, hr, hrun, hended, hW, hsame⟩ := X.leave (v := v) hv hlk
  exact ⟨_, _, st fs hr, hrun, hended, v, locs, rfl, hQ, ⟨v, rfl⟩, hW, hsame.mono hc hs⟩
theorem Go.retI {rm : Room} {Q : Option Value → Heap → List Loc → Prop} (X : Stand p l e rm s m args below meth c T locs cells slots) (hx : p.tables.exec = Jvm.exec) (hret : meth.sig.returnType = some .int) (hlk : meth.locks = false) {pc : Nat} {Ls : Array Slot} {z : Int32} {rest : List Value} (hd : decode c.code pc = .ok (.ireturn, 1)) (hc : cells ≤ rm.cells) (hs : slots ≤ rm.slots)
    (hQ : Q (some (.int z)) T.heap locs) : Go p e below s rm Q (T.setTop (mkF m pc Ls (.int z :: rest))) := by
  refine Go.ret X (v := some (.int z)) (fun q => by rw [hret] at q; cases q) hlk hc hs hQ fun fs hr => ?_
  have hm' : T.vm.method? m = some meth := X.method'
  have hn : narrow .int (.int z) = .int z := rfl
  show Steps p.tables e below (T.setTop { method := m, pc := pc, locals := Ls, stack := _ :: rest, locked := none }) _
  jvm_step X.here [X.here.top, hx, hd, hm', hret, hn]
  first | (intro acts; rw [hr _ acts rfl rfl rfl]) | rw [hr _ _ rfl rfl rfl]
  exact Steps.refl _
theorem Go.retN {rm : Room} {Q : Option Value → Heap → List Loc → Prop} {t : FieldType} (X : Stand p l e rm s m args below meth c T locs cells slots) (hx : p.tables.exec = Jvm.exec) (hret : meth.sig.returnType = some t) (ht : t = .boolean ∨ t = .byte ∨ t = .char ∨ t = .short) (hlk : meth.locks = false) {pc : Nat} {Ls : Array Slot} {z : Int32} {rest : List Value} (hd : decode c.code pc = .ok (.ireturn, 1)) (hc : cells ≤ rm.cells) (hs : slots ≤ rm.slots)
    (hQ : Q (some (.int (nar t z))) T.heap locs) : Go p e below s rm Q (T.setTop (mkF m pc Ls (.int z :: rest))) :=
  Go.ret X (v := some (.int (nar t z))) (fun q => by rw [hret] at q; cases q) hlk hc hs hQ fun fs hr => Jvm.RoadKit.retN X hx hret ht hd hr
theorem Go.retV {rm : Room} {Q : Option Value → Heap → List Loc → Prop} (X : Stand p l e rm s m args below meth c T locs cells slots) (hx : p.tables.exec = Jvm.exec) (hret : meth.sig.returnType = none) (hlk : meth.locks = false) {pc : Nat} {Ls : Array Slot} (hd : decode c.code pc = .ok (.return_, 1)) (hc : cells ≤ rm.cells) (hs : slots ≤ rm.slots)
    (hQ : Q none T.heap locs) : Go p e below s rm Q (T.setTop (mkF m pc Ls [])) :=
  Go.ret X (v := none) (fun _ => rfl) hlk hc hs hQ fun fs hr => X.returnOut hx hret hd hr
theorem Go.retJ {rm : Room} {Q : Option Value → Heap → List Loc → Prop} (X : Stand p l e rm s m args below meth c T locs cells slots) (hx : p.tables.exec = Jvm.exec) (hret : meth.sig.returnType = some .long) (hlk : meth.locks = false) {pc : Nat} {Ls : Array Slot} {z : Int64} {rest : List Value} (hd : decode c.code pc = .ok (.lreturn, 1)) (hc : cells ≤ rm.cells) (hs : slots ≤ rm.slots)
    (hQ : Q (some (.long z)) T.heap locs) : Go p e below s rm Q (T.setTop (mkF m pc Ls (.long z :: rest))) := by
  refine Go.ret X (v := some (.long z)) (fun q => by rw [hret] at q; cases q) hlk hc hs hQ fun fs hr => ?_
  have hm' : T.vm.method? m = some meth := X.method'
  show Steps p.tables e below (T.setTop { method := m, pc := pc, locals := Ls, stack := _ :: rest, locked := none }) _
  jvm_step X.here [X.here.top, hx, hd, hm', hret, narrow]
  first | (intro acts; rw [hr _ acts rfl rfl rfl]) | rw [hr _ _ rfl rfl rfl]
  exact Steps.refl _
theorem Go.retR {rm : Room} {Q : Option Value → Heap → List Loc → Prop} {t : FieldType} (X : Stand p l e rm s m args below meth c T locs cells slots) (hx : p.tables.exec = Jvm.exec) (hret : meth.sig.returnType = some t) (ht : t.isReference = true) (hlk : meth.locks = false) {pc : Nat} {Ls : Array Slot} {z : Addr} (hd : decode c.code pc = .ok (.areturn, 1)) (hc : cells ≤ rm.cells) (hs : slots ≤ rm.slots)
    (hQ : Q (some (.ref z)) T.heap locs) : Go p e below s rm Q (T.setTop (mkF m pc Ls [.ref z])) := by
  refine Go.ret X (v := some (.ref z)) (fun q => by rw [hret] at q; cases q) hlk hc hs hQ fun fs hr => ?_
  exact X.areturnOut hx rfl hret ht hd hr
/-- the contract of a body: called with these arguments over the heap h0 it comes back, and Q -/
abbrev Con (l : Launch) (Z : State) (y : MethodName) (bytes : ByteArray) (maxL : Nat) (ret : Option FieldType) (ws : List Jvm.Cond) (rm : Room) (as : Array Value) (h0 : Heap) (Q : Option Value → Heap → List Loc → Prop) : Prop :=
  MetFree l y (head1 (Jvm.Cond.code y bytes maxL ret :: ws) rm) (fun a U => a = as ∧ Z.Warmed39 U.vm ∧ U.heap = h0) (fun _ _ _ _ _ => True) (fun _ U o U' => ∃ v L, o = .returned v ∧ Q v U'.heap L ∧ FrameEnd U o U' L rm.cells rm.slots)
theorem Con.mk {y : MethodName} {bytes : ByteArray} {maxL : Nat} {ret : Option FieldType} {ws : List Jvm.Cond} {rm : Room} {as : Array Value} {h0 : Heap} {Q : Option Value → Heap → List Loc → Prop} (hp : plainFor y = true)
    (body : ∀ (p : Program) (e : Env) (s : State) (m : MethodId) (below : List Frame) (meth : Method) (c : Code) (T : State), p.tables.exec = Jvm.exec → c.code = bytes → c.maxLocals = maxL → s.vm.findClass y.cls = some m.cls → meth.name = y.name → meth.sig.returnType = ret → meth.locks = false → Z.Warmed39 s.vm →
      Stand p l e rm s m as below meth c T [] 0 0 → T.heap = h0 → Go p e below s rm Q (T.setTop (entryFrame m as maxL))) : Con l Z y bytes maxL ret ws rm as h0 Q := by
  refine MetFree.of_bodySF hp hisR ?_
  intro p e s m args below meth c s₁ Bd hml0 hP hK
  obtain ⟨rfl, hZ, hh⟩ := hP
  exact body p e s m below meth c s₁ Bd.exec Bd.bytes hml0 (findClass_of_methodNamed Bd.named) (name_of_methodNamed Bd.named Bd.method).1 Bd.returns Bd.notSynchronized hZ (Stand.of_body Bd) (by rw [← hh, Bd.state]; rfl)
theorem Go.cast {rm : Room} {Q : Option Value → Heap → List Loc → Prop} {f f' : JFrame} (q : f = f') (g : Go p e below s rm Q (T.setTop f')) : Go p e below s rm Q (T.setTop f) := q ▸ g
/-! calls -/
theorem callSt (X : Stand p l e R s m args below meth c T locs cells slots) (hx : p.tables.exec = Jvm.exec) (hZ : Z.Warmed39 s.vm) {own : String} {index : Nat} {y : MethodName} {bytes : ByteArray} {maxL : Nat} {ret : Option FieldType} {rm : Room} {W : Nat} {Q : Option Value → Heap → List Loc → Prop} {argsL rest : List Value}
    (hown : s.vm.findClass own = some m.cls) (w1 : (Jvm.Cond.methodLink own index y).before a0 Z = true) (w2 : (Jvm.Cond.static y).before a0 Z = true) (w3 : (Jvm.Cond.initialized y.cls).before a0 Z = true) (w4 : (Jvm.Cond.code y bytes maxL ret).before a0 Z = true) (hy : y.cls ≠ "java/lang/invoke/MethodHandle" ∧ y.cls ≠ "java/lang/invoke/VarHandle")
    (eT : T.heap = h) (hM : Con l Z y bytes maxL ret [] rm argsL.toArray h Q) (hf : rm.frames + 1 ≤ R.frames) (hl : W + (maxL + 11) + rm.locals ≤ R.locals) {sig : MethodDescriptor} (hpd : parseMethodDescriptor y.desc = some sig) (hlen : argsL.length = sig.parameters.length)
    {g : JFrame} (hg : g.method = m) (hsize : g.locals.size = c.maxLocals) (hstack : g.stack = argsL.reverse ++ rest) (hW : 2 * g.monitorRoom + (rest.map fun v => v.category).sum ≤ W) (hdg : decode c.code g.pc = .ok (.invokestatic index, 3)) (hc : cells + rm.cells ≤ R.cells) (hs : slots + rm.slots ≤ R.slots) :
    ∃ (v : Option Value) (T' : State) (h' : Heap) (L : List Loc), Stand p l e R s m args below meth c T' (locs ++ L) (cells + rm.cells) (slots + rm.slots) ∧ T'.heap = h' ∧ Q v h' L ∧ ∀ t, Steps p.tables e below (T'.setTop { g with pc := g.pc + 3, stack := v.toList ++ rest }) t → Steps p.tables e below (T.setTop g) t := by
  obtain ⟨v, _, ⟨T1, L1, k1, n1⟩, -, X1, ⟨Lc, hQ, l1, y1, z1⟩, st⟩ := Jvm.LawKit.callS X hx (y := y) hown (mvT hZ w1) (mvT hZ w2) (mvT hZ w3) (mvT hZ w4) hy (backOf (W := W) (Z := Z) (a0 := a0) (h := h) hM hZ w4 w3 hf hl) (g := g) hg hsize (argsL := argsL) (rest := rest) (fun sg q => by rw [hpd] at q; cases q; exact hlen) hstack hW hdg (fun _ _ => ⟨rfl, eT, hc, hs⟩)
  dsimp only [Pt.U, Pt.locs, Pt.cells, Pt.slots] at X1 l1 y1 z1 st hQ
  subst l1 y1 z1
  exact ⟨v, T1, T1.heap, Lc, X1, rfl, hQ, st⟩
theorem callIn (X : Stand p l e R s m args below meth c T locs cells slots) (hx : p.tables.exec = Jvm.exec) (hZ : Z.Warmed39 s.vm) {own : String} {index : Nat} {y : MethodName} {bytes : ByteArray} {maxL : Nat} {rm : Room} {W : Nat} {Q : Option Value → Heap → List Loc → Prop} {argsL rest : List Value} (hi : y.name = "<init>")
    (hown : s.vm.findClass own = some m.cls) (w1 : (Jvm.Cond.methodLink own index y).before a0 Z = true) (w2 : (Jvm.Cond.instanceMethod y).before a0 Z = true) (w3 : (Jvm.Cond.initialized y.cls).before a0 Z = true) (w4 : (Jvm.Cond.code y bytes maxL none).before a0 Z = true) (hy : y.cls ≠ "java/lang/invoke/MethodHandle" ∧ y.cls ≠ "java/lang/invoke/VarHandle")
    (eT : T.heap = h) (hM : Con l Z y bytes maxL none [] rm (.ref a :: argsL).toArray h Q) (hf : rm.frames + 1 ≤ R.frames) (hl : W + (maxL + 11) + rm.locals ≤ R.locals) {sig : MethodDescriptor} (hpd : parseMethodDescriptor y.desc = some sig) (hlen : argsL.length = sig.parameters.length)
    {g : JFrame} (hg : g.method = m) (hsize : g.locals.size = c.maxLocals) (hstack : g.stack = argsL.reverse ++ .ref a :: rest) (hW : 2 * g.monitorRoom + (rest.map fun v => v.category).sum ≤ W) (hdg : decode c.code g.pc = .ok (.invokespecial index, 3)) (hc : cells + rm.cells ≤ R.cells) (hs : slots + rm.slots ≤ R.slots) :
    ∃ (v : Option Value) (T' : State) (h' : Heap) (L : List Loc), Stand p l e R s m args below meth c T' (locs ++ L) (cells + rm.cells) (slots + rm.slots) ∧ T'.heap = h' ∧ Q v h' L ∧ ∀ t, Steps p.tables e below (T'.setTop { g with pc := g.pc + 3, stack := v.toList ++ rest }) t → Steps p.tables e below (T.setTop g) t := by
  obtain ⟨v, _, ⟨T1, L1, k1, n1⟩, -, X1, ⟨Lc, hQ, l1, y1, z1⟩, st⟩ := X.specialBack hx (y := y) hi hown (mvT hZ w1) (mvT hZ w2) (mvT hZ w4) hy (backOf (W := W) (Z := Z) (a0 := a0) (h := h) hM hZ w4 w3 hf hl) (g := g) hg hsize (Steps.refl _) (a := a) (argsL := argsL) (rest := rest) (fun sg q => by rw [hpd] at q; cases q; exact hlen) hstack hW hdg (fun _ _ => ⟨rfl, eT, hc, hs⟩)
  dsimp only [Pt.U, Pt.locs, Pt.cells, Pt.slots] at X1 l1 y1 z1 st hQ
  subst l1 y1 z1
  exact ⟨v, T1, T1.heap, Lc, X1, rfl, hQ, fun t k => st.trans k⟩
theorem callVi (X : Stand p l e R s m args below meth c T locs cells slots) (hx : p.tables.exec = Jvm.exec) (hZ : Z.Warmed39 s.vm) {own C : String} {index : Nat} {y : MethodName} {bytes : ByteArray} {maxL : Nat} {ret : Option FieldType} {rm : Room} {W : Nat} {Q : Option Value → Heap → List Loc → Prop} {argsL rest : List Value}
    (hown : s.vm.findClass own = some m.cls) (w1 : (Jvm.Cond.methodLink own index y).before a0 Z = true) (wd : (Jvm.Cond.declares y).before a0 Z = true) (ws : (Jvm.Cond.selects C y y).before a0 Z = true) (w2 : (Jvm.Cond.instanceMethod y).before a0 Z = true) (w3 : (Jvm.Cond.initialized y.cls).before a0 Z = true) (w4 : (Jvm.Cond.code y bytes maxL ret).before a0 Z = true) (hy : y.cls ≠ "java/lang/invoke/MethodHandle" ∧ y.cls ≠ "java/lang/invoke/VarHandle")
    (eT : T.heap = h) (E : Exa Z h a C) (hM : Con l Z y bytes maxL ret [] rm (.ref a :: argsL).toArray h Q) (hf : rm.frames + 1 ≤ R.frames) (hl : W + (maxL + 11) + rm.locals ≤ R.locals) {sig : MethodDescriptor} (hpd : parseMethodDescriptor y.desc = some sig) (hlen : argsL.length = sig.parameters.length)
    {g : JFrame} (hg : g.method = m) (hsize : g.locals.size = c.maxLocals) (hstack : g.stack = argsL.reverse ++ .ref a :: rest) (hW : 2 * g.monitorRoom + (rest.map fun v => v.category).sum ≤ W) (hdg : decode c.code g.pc = .ok (.invokevirtual index, 3)) (hc : cells + rm.cells ≤ R.cells) (hs : slots + rm.slots ≤ R.slots) :
    ∃ (v : Option Value) (T' : State) (h' : Heap) (L : List Loc), Stand p l e R s m args below meth c T' (locs ++ L) (cells + rm.cells) (slots + rm.slots) ∧ T'.heap = h' ∧ Q v h' L ∧ ∀ t, Steps p.tables e below (T'.setTop { g with pc := g.pc + 3, stack := v.toList ++ rest }) t → Steps p.tables e below (T.setTop g) t := by
  obtain ⟨cB, kB, q1, q2, q3⟩ := isOf hZ eT E
  obtain ⟨v, _, ⟨T1, L1, k1, n1⟩, -, X1, ⟨Lc, hQ, l1, y1, z1⟩, st⟩ := X.virtualBack hx (y := y) (z := y) hown (mvT hZ w1) (mvT hZ wd) (notFace_of_selects (args := #[]) (mvT hZ ws)) (mvT hZ ws) (mvT hZ w2) hy (backOf (W := W) (Z := Z) (a0 := a0) (h := h) hM hZ w4 w3 hf hl) q1 q3 (g := g) hg hsize (Steps.refl _) (argsL := argsL) (rest := rest) (fun sg q => by rw [hpd] at q; cases q; exact hlen) hstack hW hdg (fun _ _ => ⟨rfl, eT, hc, hs⟩)
  dsimp only [Pt.U, Pt.locs, Pt.cells, Pt.slots] at X1 l1 y1 z1 st hQ
  subst l1 y1 z1
  exact ⟨v, T1, T1.heap, Lc, X1, rfl, hQ, fun t k => st.trans k⟩
theorem callPr (X : Stand p l e R s m args below meth c T locs cells slots) (hx : p.tables.exec = Jvm.exec) (hZ : Z.Warmed39 s.vm) {own : String} {index ni : Nat} {y : MethodName} {bytes : ByteArray} {maxL : Nat} {ret : Option FieldType} {rm : Room} {W : Nat} {Q : Option Value → Heap → List Loc → Prop} {argsL rest : List Value}
    (hown : s.vm.findClass own = some m.cls) (w1 : (Jvm.Cond.methodLink own index y).before a0 Z = true) (w2 : (Jvm.Cond.instanceMethod y).before a0 Z = true) (wi : (Jvm.Cond.instantiable y.cls ni).before a0 Z = true) (wp : (Jvm.Cond.privateMethod y).before a0 Z = true) (w3 : (Jvm.Cond.initialized y.cls).before a0 Z = true) (w4 : (Jvm.Cond.code y bytes maxL ret).before a0 Z = true) (hy : y.cls ≠ "java/lang/invoke/MethodHandle" ∧ y.cls ≠ "java/lang/invoke/VarHandle")
    (eT : T.heap = h) {C : String} (E : Exa Z h a C) (hM : Con l Z y bytes maxL ret [] rm (.ref a :: argsL).toArray h Q) (hf : rm.frames + 1 ≤ R.frames) (hl : W + (maxL + 11) + rm.locals ≤ R.locals) {sig : MethodDescriptor} (hpd : parseMethodDescriptor y.desc = some sig) (hlen : argsL.length = sig.parameters.length)
    {g : JFrame} (hg : g.method = m) (hsize : g.locals.size = c.maxLocals) (hstack : g.stack = argsL.reverse ++ .ref a :: rest) (hW : 2 * g.monitorRoom + (rest.map fun v => v.category).sum ≤ W) (hdg : decode c.code g.pc = .ok (.invokevirtual index, 3)) (hc : cells + rm.cells ≤ R.cells) (hs : slots + rm.slots ≤ R.slots) :
    ∃ (v : Option Value) (T' : State) (h' : Heap) (L : List Loc), Stand p l e R s m args below meth c T' (locs ++ L) (cells + rm.cells) (slots + rm.slots) ∧ T'.heap = h' ∧ Q v h' L ∧ ∀ t, Steps p.tables e below (T'.setTop { g with pc := g.pc + 3, stack := v.toList ++ rest }) t → Steps p.tables e below (T.setTop g) t := by
  obtain ⟨cell, q1, q2⟩ := E.cell
  have wi' : (Jvm.Cond.instantiable y.cls ni).before args s = true := mvT hZ wi
  obtain ⟨cI, kI, i1, i2, i3, i4, -⟩ := Cond.instantiable_spec wi'
  have i5 : kI.isInterface = false := by cases hq : kI.isInterface <;> simp [hq] at i4 ⊢
  have hpriv : s.PrivateAt y := Cond.privateMethod_at (mvP hZ wp (args := args))
  have hinst : (Jvm.Cond.instanceMethod y).before args s = true := mvT hZ w2
  obtain ⟨v, _, ⟨T1, L1, k1, n1⟩, -, X1, ⟨Lc, hQ, l1, y1, z1⟩, st⟩ := X.privateBack hx (y := y) hown (mvT hZ w1) hinst (selects_self_of_private i1 i2 i5 hpriv hinst hy) hpriv (mvT hZ w4) hy (backOf (W := W) (Z := Z) (a0 := a0) (h := h) hM hZ w4 w3 hf hl) (g := g) hg hsize (Steps.refl _) (a := a) (cell := cell) (by rw [eT]; exact q1) q2 (argsL := argsL) (rest := rest) (fun sg q => by rw [hpd] at q; cases q; exact hlen) hstack hW hdg (fun _ _ => ⟨rfl, eT, hc, hs⟩)
  dsimp only [Pt.U, Pt.locs, Pt.cells, Pt.slots] at X1 l1 y1 z1 st hQ
  subst l1 y1 z1
  exact ⟨v, T1, T1.heap, Lc, X1, rfl, hQ, fun t k => st.trans k⟩
/-! arrays of ints, bytes, .. by the list of what they hold -/
def Ai (Z : State) (h : Heap) (a : Addr) (ty : FieldType) (xs : List Int32) : Prop := ∃ (k : ClassId) (z : Int32), Arv Z h a k ty z (xs.map Value.int) (.int 0) ∧ z.toNatClampNeg = xs.length
theorem Ai.lt (A : Ai Z h a ty xs) : a < h.size := by obtain ⟨_, _, q, -⟩ := A; exact q.lt
theorem Ai.ext (A : Ai Z h a ty xs) (E : Ext h h') : Ai Z h' a ty xs := by obtain ⟨k, z, q, r⟩ := A; exact ⟨k, z, q.ext E, r⟩
theorem Ai.other {sl : Nat} {v : Value} (A : Ai Z h a ty xs) (W : Wr h h' b sl v) (ne : a ≠ b) : Ai Z h' a ty xs := by obtain ⟨k, z, q, r⟩ := A; exact ⟨k, z, q.other W ne, r⟩
theorem Ai.keep {ws : List Addr} (A : Ai Z h a ty xs) (K : Keep h h' ws) (nin : a ∉ ws) : Ai Z h' a ty xs := by obtain ⟨k, z, q, r⟩ := A; exact ⟨k, z, q.keep K nin, r⟩
theorem Ai.len (A : Ai Z h a ty xs) : xs.length < 2 ^ 31 := by
  obtain ⟨k, z, ⟨c, -, -, -, hz, -⟩, r⟩ := A
  rw [← r]; exact (back32 hz).2
theorem Ai.open (A : Ai Z h a ty xs) : ∃ c : Cell, Arr Z h a c ty ∧ c.slots.size = xs.length ∧ ∀ (i : Nat) (v : Int32), xs[i]? = some v → c.slots[i]? = some (.int v) := by
  obtain ⟨k, z, ⟨c, A, q1, S, q3, H, G⟩, r⟩ := A
  refine ⟨c, A, S.trans r, fun i v hv => ?_⟩
  have hi : i < xs.length := (List.getElem?_eq_some_iff.mp hv).1
  rw [H i (by rw [S, r]; exact hi)]
  simp [List.getD_eq_getElem?_getD, hv]
theorem Ai.fitsOf {i : Nat} {v : Int32} (A : Ai Z h a ty xs) (hv : xs[i]? = some v) : fits ty (.int v) = true := by
  obtain ⟨k, z, ⟨c, A, q1, S, q3, H, G⟩, r⟩ := A
  have hi : i < xs.length := (List.getElem?_eq_some_iff.mp hv).1
  have := G i (by rw [S, r]; exact hi)
  simpa [List.getD_eq_getElem?_getD, hv] using this
theorem own_in {n : Nat} {j : Int32} (hj : ¬ j < 0) (hi : j.toNatClampNeg < n) : ¬ (j < 0 ∨ n ≤ j.toNatClampNeg) := fun q => q.elim hj fun r => absurd hi (Nat.not_lt.mpr r)
theorem Ai.load (A : Ai Z h a .int xs) (X : Stand p l e R s m args below meth c T locs cells slots) (hx : p.tables.exec = Jvm.exec) (hZ : Z.Warmed39 s.vm) (eT : T.heap = h) {j v : Int32} (hj : ¬ j < 0) (hv : xs[j.toNatClampNeg]? = some v) {g : JFrame} (hg : g.method = m) {rest : List Value} (hs : g.stack = .int j :: .ref a :: rest) (hd : decode c.code g.pc = .ok (.iaload, 1)) :
    ∀ t, Steps p.tables e below (T.setTop { g with pc := g.pc + 1, stack := .int v :: rest }) t → Steps p.tables e below (T.setTop g) t := by
  obtain ⟨cl, Ar, S, H⟩ := A.open
  exact fun t k => X.iaload hx (j := j) (v := .int v) (by rw [eT]; exact Ar.1) (State.isArrayOf_alike hZ.alike Ar.2.1) Ar.2.2 (own_in hj (by rw [S]; exact (List.getElem?_eq_some_iff.mp hv).1)) (H _ _ hv) hg hs hd t k
theorem Ai.bload (A : Ai Z h a .byte xs) (X : Stand p l e R s m args below meth c T locs cells slots) (hx : p.tables.exec = Jvm.exec) (hZ : Z.Warmed39 s.vm) (eT : T.heap = h) {j v : Int32} (hj : ¬ j < 0) (hv : xs[j.toNatClampNeg]? = some v) {g : JFrame} (hg : g.method = m) {rest : List Value} (hs : g.stack = .int j :: .ref a :: rest) (hd : decode c.code g.pc = .ok (.baload, 1)) :
    ∀ t, Steps p.tables e below (T.setTop { g with pc := g.pc + 1, stack := .int v :: rest }) t → Steps p.tables e below (T.setTop g) t := by
  obtain ⟨cl, Ar, S, H⟩ := A.open
  exact fun t k => X.baloadBytes hx (j := j) (v := .int v) (by rw [eT]; exact Ar.1) (State.isArrayOf_alike hZ.alike Ar.2.1) Ar.2.2 (own_in hj (by rw [S]; exact (List.getElem?_eq_some_iff.mp hv).1)) (H _ _ hv) hg hs hd t k
theorem Ai.length (A : Ai Z h a ty xs) (X : Stand p l e R s m args below meth c T locs cells slots) (hx : p.tables.exec = Jvm.exec) (hZ : Z.Warmed39 s.vm) (eT : T.heap = h) {n : Int32} (hn : xs.length.toInt32 = n) {g : JFrame} (hg : g.method = m) {rest : List Value} (hs : g.stack = .ref a :: rest) (hd : decode c.code g.pc = .ok (.arraylength, 1)) :
    ∀ t, Steps p.tables e below (T.setTop { g with pc := g.pc + 1, stack := .int n :: rest }) t → Steps p.tables e below (T.setTop g) t := by
  obtain ⟨cl, Ar, S, H⟩ := A.open
  subst hn
  rw [← S]
  exact fun t k => X.arraylength hx (by rw [eT]; exact Ar.1) (State.isArrayOf_alike hZ.alike Ar.2.1) hg hs hd t k
theorem Ai.set {j v : Int32} (A : Ai Z h a ty xs) (hf : fits ty (.int v) = true) (W : Wr h h' a j.toNatClampNeg (.int v)) (hi : j.toNatClampNeg < xs.length) : Ai Z h' a ty (xs.set j.toNatClampNeg v) := by
  obtain ⟨k, z, ⟨c, A, q1, S, q3, H, G⟩, r⟩ := A
  refine ⟨k, z, ?_, by simpa using r⟩
  rw [List.map_set]
  exact Arv.set A q1 S q3 H G hf W j.toNatClampNeg rfl (by simpa using hi)
theorem Ai.store (A : Ai Z h a .int xs) (X : Stand p l e R s m args below meth c T locs cells slots) (hx : p.tables.exec = Jvm.exec) (hZ : Z.Warmed39 s.vm) (eT : T.heap = h) {j v : Int32} (hj : ¬ j < 0) (hi : j.toNatClampNeg < xs.length) {g : JFrame} (hg : g.method = m) {rest : List Value} (hs : g.stack = .int v :: .int j :: .ref a :: rest) (hd : decode c.code g.pc = .ok (.iastore, 1)) :
    ∃ T' h', Stand p l e R s m args below meth c T' (locs ++ [⟨a, j.toNatClampNeg⟩]) cells slots ∧ T'.heap = h' ∧ Wr h h' a j.toNatClampNeg (.int v) ∧ Ai Z h' a .int (xs.set j.toNatClampNeg v) ∧
      ∀ t, Steps p.tables e below (T'.setTop { g with pc := g.pc + 1, stack := rest }) t → Steps p.tables e below (T.setTop g) t := by
  obtain ⟨cl, Ar, S, H⟩ := A.open
  obtain ⟨T', h', X', e', W, st⟩ := stI X hx hZ eT Ar (j := j) (own_in hj (by rw [S]; exact hi)) hg hs hd
  exact ⟨T', h', X', e', W, A.set rfl W hi, st⟩
theorem Ai.bstore (A : Ai Z h a .byte xs) (X : Stand p l e R s m args below meth c T locs cells slots) (hx : p.tables.exec = Jvm.exec) (hZ : Z.Warmed39 s.vm) (eT : T.heap = h) {j v : Int32} (hj : ¬ j < 0) (hi : j.toNatClampNeg < xs.length) {g : JFrame} (hg : g.method = m) {rest : List Value} (hs : g.stack = .int v :: .int j :: .ref a :: rest) (hd : decode c.code g.pc = .ok (.bastore, 1)) :
    ∃ T' h', Stand p l e R s m args below meth c T' (locs ++ [⟨a, j.toNatClampNeg⟩]) cells slots ∧ T'.heap = h' ∧ Wr h h' a j.toNatClampNeg (.int v.toInt8.toInt32) ∧ Ai Z h' a .byte (xs.set j.toNatClampNeg v.toInt8.toInt32) ∧
      ∀ t, Steps p.tables e below (T'.setTop { g with pc := g.pc + 1, stack := rest }) t → Steps p.tables e below (T.setTop g) t := by
  obtain ⟨cl, Ar, S, H⟩ := A.open
  obtain ⟨T', h', X', e', W, st⟩ := stB X hx hZ eT Ar (j := j) (own_in hj (by rw [S]; exact hi)) hg hs hd
  exact ⟨T', h', X', e', W, A.set (fits_nar_byte v) W hi, st⟩
theorem Ai.new (X : Stand p l e R s m args below meth c T locs cells slots) (hx : p.tables.exec = Jvm.exec) (hZ : Z.Warmed39 s.vm) {aty : ArrayType} (w : (Jvm.Cond.arrayClass (newarray.typeOf aty)).before a0 Z = true) (hdef : defaultValue (newarray.typeOf aty) = .int 0) (eT : T.heap = h) {n : Int32} (hn : ¬ n < 0) (cap : Nat) (hcap : n.toNatClampNeg ≤ cap) (hb : cap * 8 ≤ 536870912) (hc : cells + 1 ≤ R.cells) (hl : slots + cap ≤ R.slots)
    {g : JFrame} (hg : g.method = m) {rest : List Value} (hs : g.stack = .int n :: rest) (hd : decode c.code g.pc = .ok (.newarray aty, 2)) :
    ∃ T' h' b, Stand p l e R s m args below meth c T' locs (cells + 1) (slots + cap) ∧ T'.heap = h' ∧ b = h.size ∧ Ext h h' ∧ Ai Z h' b (newarray.typeOf aty) (List.replicate n.toNatClampNeg 0) ∧
      ∀ t, Steps p.tables e below (T'.setTop { g with pc := g.pc + 2, stack := .ref b :: rest }) t → Steps p.tables e below (T.setTop g) t := by
  obtain ⟨T', h', k, X', e', E, A, st⟩ := newP X hx hZ w eT (g := g) hg hd hs hn hcap hb hc hl
  refine ⟨T', h', _, X', e', rfl, E, ⟨k, n, ?_, by simp⟩, st⟩
  have V := Arv.new A hn
  rw [hdef] at V
  rw [List.map_replicate]
  exact V.pad (pad_rep [] (.int 0) n.toNatClampNeg)
theorem Ai.newE (X : Stand p l e R s m args below meth c T locs cells slots) (hx : p.tables.exec = Jvm.exec) (hZ : Z.Warmed39 s.vm) {aty : ArrayType} (w : (Jvm.Cond.arrayClass (newarray.typeOf aty)).before a0 Z = true) (hdef : defaultValue (newarray.typeOf aty) = .int 0) (eT : T.heap = h) {n : Int32} (hn : ¬ n < 0) (cap : Nat) (hcap : n.toNatClampNeg ≤ cap) (hb : cap * 8 ≤ 536870912) (hc : cells + 1 ≤ R.cells) (hl : slots + cap ≤ R.slots) {ad : String} (had : "[" ++ (newarray.typeOf aty).toString = ad)
    {g : JFrame} (hg : g.method = m) {rest : List Value} (hs : g.stack = .int n :: rest) (hd : decode c.code g.pc = .ok (.newarray aty, 2)) :
    ∃ T' h' b, Stand p l e R s m args below meth c T' locs (cells + 1) (slots + cap) ∧ T'.heap = h' ∧ b = h.size ∧ Ext h h' ∧ Ai Z h' b (newarray.typeOf aty) (List.replicate n.toNatClampNeg 0) ∧ Exa Z h' b ad ∧
      ∀ t, Steps p.tables e below (T'.setTop { g with pc := g.pc + 2, stack := .ref b :: rest }) t → Steps p.tables e below (T.setTop g) t := by
  obtain ⟨T', h', k, X', e', E, A, Ex, st⟩ := newPE X hx hZ w eT (g := g) hg hd hs hn hcap hb hc hl had
  refine ⟨T', h', _, X', e', rfl, E, ⟨k, n, ?_, by simp⟩, Ex, st⟩
  have V := Arv.new A hn
  rw [hdef] at V
  rw [List.map_replicate]
  exact V.pad (pad_rep [] (.int 0) n.toNatClampNeg)
theorem Ai.copy (X : Stand p l e R s m args below meth c T locs cells slots) (hx : p.tables.exec = Jvm.exec) (hZ : Z.Warmed39 s.vm) {own : String} {index : Nat} (hown : s.vm.findClass own = some m.cls)
    (w1 : (Jvm.Cond.methodLink own index Jvm.Stand.acN).before a0 Z = true) (w2 : (Jvm.Cond.native Jvm.Stand.acN).before a0 Z = true) (w3 : (Jvm.Cond.static Jvm.Stand.acN).before a0 Z = true) (w4 : (Jvm.Cond.initialized "java/lang/System").before a0 Z = true) (eT : T.heap = h)
    {sp dp nn : Int32} (A : Ai Z h a ty xs) (B : Ai Z h b ty ys) (hty : refKind ty = false) (h1 : ¬ sp < 0) (h2 : ¬ dp < 0) (h3 : ¬ nn < 0) (h4 : sp.toNatClampNeg + nn.toNatClampNeg ≤ xs.length) (h5 : dp.toNatClampNeg + nn.toNatClampNeg ≤ ys.length) {n0 : Nat} (N : Fr n0 locs) (ge : n0 ≤ b)
    {g : JFrame} (hg : g.method = m) (hsize : g.locals.size = c.maxLocals) {rest : List Value} (hs : g.stack = .int nn :: .int dp :: .ref b :: .int sp :: .ref a :: rest) (hd : decode c.code g.pc = .ok (.invokestatic index, 3))
    (hf : 1 ≤ R.frames) {W : Nat} (hW : 2 * g.monitorRoom + (rest.map fun v => v.category).sum ≤ W) (hlo : W + (nativeFrameWords "java/lang/System" "arraycopy" 5 + 11) ≤ R.locals) :
    ∃ T' h' L, Stand p l e R s m args below meth c T' L cells slots ∧ T'.heap = h' ∧ Fr n0 L ∧ Keep h h' [b] ∧ Ai Z h' b ty (ys.take dp.toNatClampNeg ++ (xs.drop sp.toNatClampNeg).take nn.toNatClampNeg ++ ys.drop (dp.toNatClampNeg + nn.toNatClampNeg)) ∧
      ∀ t, Steps p.tables e below (T'.setTop { g with pc := g.pc + 3, stack := rest }) t → Steps p.tables e below (T.setTop g) t := by
  obtain ⟨k, z, A, r⟩ := A
  obtain ⟨k', z', B, r'⟩ := B
  obtain ⟨T', h', L, X', e', N', K, V, st⟩ := cpA X hx hZ hown w1 w2 w3 w4 eT A B (Or.inl ⟨rfl, hty⟩) h1 h2 h3 (by rw [r]; exact h4) (by rw [r']; exact h5) rfl (by simpa using h5) N ge hg hsize hs hd hf hW hlo
  refine ⟨T', h', L, X', e', N', K, ⟨k', z', ?_, ?_⟩, st⟩
  · have q : (List.range nn.toNatClampNeg).map (fun i => (xs.map Value.int).getD (sp.toNatClampNeg + i) (.int 0)) = ((xs.drop sp.toNatClampNeg).take nn.toNatClampNeg).map Value.int := by
      apply List.ext_getElem?
      intro i
      by_cases hi : i < nn.toNatClampNeg
      · have h6 : sp.toNatClampNeg + i < xs.length := by omega
        simp [List.getElem?_take, hi, h6, List.getD_eq_getElem?_getD]
      · simp [List.getElem?_take, hi]
    rw [q] at V
    simpa [List.map_append, List.map_take, List.map_drop] using V
  · rw [r']; simp; omega
/-! arrays of longs -/
def Al (Z : State) (h : Heap) (a : Addr) (ls : List Int64) : Prop := ∃ (k : ClassId) (z : Int32), Arv Z h a k .long z (ls.map Value.long) (.long 0) ∧ z.toNatClampNeg = ls.length
theorem Al.lt (A : Al Z h a ls) : a < h.size := by obtain ⟨_, _, q, -⟩ := A; exact q.lt
theorem Al.ext (A : Al Z h a ls) (E : Ext h h') : Al Z h' a ls := by obtain ⟨k, z, q, r⟩ := A; exact ⟨k, z, q.ext E, r⟩
theorem Al.other {sl : Nat} {v : Value} (A : Al Z h a ls) (W : Wr h h' b sl v) (ne : a ≠ b) : Al Z h' a ls := by obtain ⟨k, z, q, r⟩ := A; exact ⟨k, z, q.other W ne, r⟩
theorem Al.keep {ws : List Addr} (A : Al Z h a ls) (K : Keep h h' ws) (nin : a ∉ ws) : Al Z h' a ls := by obtain ⟨k, z, q, r⟩ := A; exact ⟨k, z, q.keep K nin, r⟩
theorem Al.len (A : Al Z h a ls) : ls.length < 2 ^ 31 := by
  obtain ⟨k, z, ⟨c, -, -, -, hz, -⟩, r⟩ := A
  rw [← r]; exact (back32 hz).2
theorem Al.open (A : Al Z h a ls) : ∃ c : Cell, Arr Z h a c .long ∧ c.slots.size = ls.length ∧ ∀ (i : Nat) (v : Int64), ls[i]? = some v → c.slots[i]? = some (.long v) := by
  obtain ⟨k, z, ⟨c, A, q1, S, q3, H, G⟩, r⟩ := A
  refine ⟨c, A, S.trans r, fun i v hv => ?_⟩
  have hi : i < ls.length := (List.getElem?_eq_some_iff.mp hv).1
  rw [H i (by rw [S, r]; exact hi)]
  simp [List.getD_eq_getElem?_getD, hv]
theorem Al.load (A : Al Z h a ls) (X : Stand p l e R s m args below meth c T locs cells slots) (hx : p.tables.exec = Jvm.exec) (hZ : Z.Warmed39 s.vm) (eT : T.heap = h) {j : Int32} {v : Int64} (hj : ¬ j < 0) (hv : ls[j.toNatClampNeg]? = some v) {g : JFrame} (hg : g.method = m) {rest : List Value} (hs : g.stack = .int j :: .ref a :: rest) (hd : decode c.code g.pc = .ok (.laload, 1)) :
    ∀ t, Steps p.tables e below (T.setTop { g with pc := g.pc + 1, stack := .long v :: rest }) t → Steps p.tables e below (T.setTop g) t := by
  obtain ⟨cl, Ar, S, H⟩ := A.open
  exact fun t k => X.laload hx (j := j) (v := .long v) (by rw [eT]; exact Ar.1) (State.isArrayOf_alike hZ.alike Ar.2.1) Ar.2.2 (own_in hj (by rw [S]; exact (List.getElem?_eq_some_iff.mp hv).1)) (H _ _ hv) hg hs hd t k
theorem Al.length (A : Al Z h a ls) (X : Stand p l e R s m args below meth c T locs cells slots) (hx : p.tables.exec = Jvm.exec) (hZ : Z.Warmed39 s.vm) (eT : T.heap = h) {n : Int32} (hn : ls.length.toInt32 = n) {g : JFrame} (hg : g.method = m) {rest : List Value} (hs : g.stack = .ref a :: rest) (hd : decode c.code g.pc = .ok (.arraylength, 1)) :
    ∀ t, Steps p.tables e below (T.setTop { g with pc := g.pc + 1, stack := .int n :: rest }) t → Steps p.tables e below (T.setTop g) t := by
  obtain ⟨cl, Ar, S, H⟩ := A.open
  subst hn
  rw [← S]
  exact fun t k => X.arraylength hx (by rw [eT]; exact Ar.1) (State.isArrayOf_alike hZ.alike Ar.2.1) hg hs hd t k
theorem Al.store (A : Al Z h a ls) (X : Stand p l e R s m args below meth c T locs cells slots) (hx : p.tables.exec = Jvm.exec) (hZ : Z.Warmed39 s.vm) (eT : T.heap = h) {j : Int32} {v : Int64} (hj : ¬ j < 0) (hi : j.toNatClampNeg < ls.length) {g : JFrame} (hg : g.method = m) {rest : List Value} (hs : g.stack = .long v :: .int j :: .ref a :: rest) (hd : decode c.code g.pc = .ok (.lastore, 1)) :
    ∃ T' h', Stand p l e R s m args below meth c T' (locs ++ [⟨a, j.toNatClampNeg⟩]) cells slots ∧ T'.heap = h' ∧ Wr h h' a j.toNatClampNeg (.long v) ∧ Al Z h' a (ls.set j.toNatClampNeg v) ∧
      ∀ t, Steps p.tables e below (T'.setTop { g with pc := g.pc + 1, stack := rest }) t → Steps p.tables e below (T.setTop g) t := by
  obtain ⟨cl, Ar, S, H⟩ := A.open
  obtain ⟨T', h', X', e', W, st⟩ := stJ X hx hZ eT Ar (j := j) (own_in hj (by rw [S]; exact hi)) hg hs hd
  refine ⟨T', h', X', e', W, ?_, st⟩
  obtain ⟨k, z, ⟨c, A, q1, S, q3, H, G⟩, r⟩ := A
  refine ⟨k, z, ?_, by simpa using r⟩
  rw [List.map_set]
  exact Arv.set A q1 S q3 H G rfl W j.toNatClampNeg rfl (by simpa using hi)
theorem Al.new (X : Stand p l e R s m args below meth c T locs cells slots) (hx : p.tables.exec = Jvm.exec) (hZ : Z.Warmed39 s.vm) {aty : ArrayType} (w : (Jvm.Cond.arrayClass (newarray.typeOf aty)).before a0 Z = true) (hdef : aty = .long) (eT : T.heap = h) {n : Int32} (hn : ¬ n < 0) (cap : Nat) (hcap : n.toNatClampNeg ≤ cap) (hb : cap * 8 ≤ 536870912) (hc : cells + 1 ≤ R.cells) (hl : slots + cap ≤ R.slots)
    {g : JFrame} (hg : g.method = m) {rest : List Value} (hs : g.stack = .int n :: rest) (hd : decode c.code g.pc = .ok (.newarray aty, 2)) :
    ∃ T' h' b, Stand p l e R s m args below meth c T' locs (cells + 1) (slots + cap) ∧ T'.heap = h' ∧ b = h.size ∧ Ext h h' ∧ Al Z h' b (List.replicate n.toNatClampNeg 0) ∧
      ∀ t, Steps p.tables e below (T'.setTop { g with pc := g.pc + 2, stack := .ref b :: rest }) t → Steps p.tables e below (T.setTop g) t := by
  obtain ⟨T', h', k, X', e', E, A, st⟩ := newP X hx hZ w eT (g := g) hg hd hs hn hcap hb hc hl
  subst hdef
  refine ⟨T', h', _, X', e', rfl, E, ⟨k, n, ?_, by simp⟩, st⟩
  have V := Arv.new A hn
  rw [List.map_replicate]
  exact V.pad (pad_rep [] (.long 0) n.toNatClampNeg)
theorem own_if1 {P : Prop} [Decidable P] (h : P) : ¬ ((if P then (1 : Int32) else (0 : Int32)) = 0) := by rw [if_pos h]; decide
theorem own_if0 {P : Prop} [Decidable P] (h : ¬ P) : (if P then (1 : Int32) else (0 : Int32)) = 0 := if_neg h
theorem own_ifc {P Q : Prop} [Decidable P] [Decidable Q] (h : P ↔ Q) : (if P then (1 : Int32) else (0 : Int32)) = (if Q then (1 : Int32) else (0 : Int32)) := by
  by_cases p : P
  · rw [if_pos p, if_pos (h.mp p)]
  · rw [if_neg p, if_neg (fun q => p (h.mpr q))]
theorem own_narI {P : Prop} [Decidable P] : nar .boolean (if P then (1 : Int32) else (0 : Int32)) = (if P then (1 : Int32) else (0 : Int32)) := by
  by_cases p : P
  · rw [if_pos p]; rfl
  · rw [if_neg p]; rfl
theorem own_bb (x : Int32) : x.toInt8.toInt32.toInt8.toInt32 = x.toInt8.toInt32 := by simp
end Layer
section Numbers
theorem own_mod (x k : Int32) (hk : 0 < k.toInt) : 0 ≤ ((x &&& (2147483647 : Int32)) % k).toInt ∧ ((x &&& (2147483647 : Int32)) % k).toInt < k.toInt := by
  have h1 := c_and x 2147483647 (by decide)
  have h2 := (c_iremV (x &&& 2147483647) k).1 h1.1 hk
  exact ⟨h2.1, h2.2.1⟩
theorem own_nn {j : Int32} (h : 0 ≤ j.toInt) : ¬ j < 0 := by
  rw [Int32.lt_iff_toInt_lt, show (0 : Int32).toInt = 0 from rfl]; omega
theorem own_nat {j : Int32} {k : Nat} (h : 0 ≤ j.toInt) (h2 : j.toInt < k) : j.toNatClampNeg < k := by
  simp only [Int32.toNatClampNeg]; omega
theorem own_at {xs : List Int32} {i : Nat} (h : i < xs.length) : ∃ v, xs[i]? = some v := ⟨xs[i], List.getElem?_eq_getElem h⟩
end Numbers
theorem own_ti {n : Nat} (h : n < 2147483648) : n.toInt32.toInt = n := len_toInt h
theorem own_tn {n : Nat} (h : n < 2147483648) : n.toInt32.toNatClampNeg = n := by simp only [Int32.toNatClampNeg, own_ti h]; rfl
theorem own_tpos {n : Nat} (h : n < 2147483648) : ¬ n.toInt32 < 0 := by rw [Int32.lt_iff_toInt_lt, own_ti h, show (0 : Int32).toInt = 0 from rfl]; omega
theorem own_t1 (n : Nat) : n.toInt32 + (1 : Int32) = (n + 1).toInt32 := (Int32.ofNat_add n 1).symm
theorem own_tadd (n m : Nat) : n.toInt32 + m.toInt32 = (n + m).toInt32 := (Int32.ofNat_add n m).symm
theorem own_pred (n : Nat) : (n + 1).toInt32 - (1 : Int32) = n.toInt32 := by rw [← own_t1]; exact Int32.add_sub_cancel _ _
theorem own_m1 (x : Int32) : x + (-1 : Int32) = x - (1 : Int32) := (Int32.sub_eq_add_neg x 1).symm
theorem own_tlt {n m : Nat} (hn : n < 2147483648) (hm : m < 2147483648) : n.toInt32 < m.toInt32 ↔ n < m := by rw [Int32.lt_iff_toInt_lt, own_ti hn, own_ti hm]; omega
theorem own_tsub {n m : Nat} (h : m ≤ n) : n.toInt32 - m.toInt32 = (n - m).toInt32 := by
  have e : n = (n - m) + m := by omega
  conv => lhs; rw [e]
  rw [← own_tadd]; exact Int32.add_sub_cancel _ _
theorem own_natI {j : Int32} (h : 0 ≤ j.toInt) : ∃ n : Nat, j = n.toInt32 ∧ (n : Int) = j.toInt := ⟨j.toNatClampNeg, (back32 (own_nn h)).1.symm, by simp only [Int32.toNatClampNeg]; omega⟩
/-- m values B 0, B 1, .. written from the place a on -/
def own_W (xs : List Int32) (a : Nat) (B : Nat → Int32) (m : Nat) (ys : List Int32) : Prop := ys.length = xs.length ∧ ∀ j, ys[j]? = if a ≤ j ∧ j < a + m then some (B (j - a)) else xs[j]?
theorem own_W.zero (xs : List Int32) (a : Nat) (B : Nat → Int32) : own_W xs a B 0 xs := ⟨rfl, fun j => by rw [if_neg (by omega)]⟩
theorem own_W.step {xs ys : List Int32} {a m : Nat} {B : Nat → Int32} (h : own_W xs a B m ys) (hl : a + m < xs.length) : own_W xs a B (m + 1) (ys.set (a + m) (B m)) := by
  refine ⟨by rw [List.length_set]; exact h.1, fun j => ?_⟩
  rw [List.getElem?_set]
  by_cases e : a + m = j
  · subst e
    rw [if_pos rfl, if_pos (by rw [h.1]; exact hl), if_pos (by omega), Nat.add_sub_cancel_left]
  · rw [if_neg e, h.2 j]
    by_cases q : a ≤ j ∧ j < a + m
    · rw [if_pos q, if_pos (by omega)]
    · rw [if_neg q, if_neg (by omega)]
def own_u (x : Int64) : Nat := (x.toInt % 18446744073709551616).toNat
def own_sh (d : Int64) : Nat → Int64
  | 0 => d
  | k + 1 => (((own_sh d k).toUInt64 >>> ((7 : Int32) &&& 0x3f).toInt64.toUInt64).toInt64)
theorem own_u7 (x : Int64) : own_u ((x.toUInt64 >>> ((7 : Int32) &&& 0x3f).toInt64.toUInt64).toInt64) = own_u x / 128 := by
  have a := c_lushr x 7 7 (by decide) (by decide)
  have e : ((2 ^ 7 : Nat) : Int) = 128 := rfl
  rw [e] at a
  have r := rng64 x
  simp only [own_u]; omega
theorem own_ush (d : Int64) : ∀ k, own_u (own_sh d k) = own_u d / 128 ^ k
  | 0 => by simp [own_sh]
  | k + 1 => by rw [own_sh, own_u7, own_ush d k, Nat.div_div_eq_div_mul, Nat.pow_succ]
theorem own_ult (x : Int64) : own_u x < 18446744073709551616 := by simp only [own_u]; omega
theorem own_low (x : Int64) : (x &&& (-128 : Int64)) = 0 ↔ own_u x < 128 := by
  have m := c_maskL x 127 7 (by decide) (by decide)
  have e : ((2 ^ 7 : Nat) : Int) = 128 := rfl
  rw [e] at m
  have r := rng64 x
  have z : ((127 : Int64) ||| (-128 : Int64)) = -1 := by decide
  have z2 : ((127 : Int64) &&& (-128 : Int64)) = 0 := by decide
  constructor
  · intro q
    have q2 : x = x &&& 127 := by
      have h1 : x &&& ((127 : Int64) ||| (-128 : Int64)) = (x &&& 127) ||| (x &&& (-128 : Int64)) := Int64.toBitVec_inj.mp (by simp only [Int64.toBitVec_and, Int64.toBitVec_or]; exact BitVec.and_or_distrib_left)
      rw [z, q] at h1
      simpa using h1
    have q3 := congrArg Int64.toInt q2
    simp only [own_u]; omega
  · intro q
    have q2 : x &&& 127 = x := Int64.toInt_inj.mp (by simp only [own_u] at q; omega)
    rw [← q2, Int64.and_assoc, z2]; simp
theorem own_or256 (i : Nat) (hi : i < 256) : (i ||| 128) = 128 + i % 128 := by
  have k : ∀ r, r < 128 → 128 ||| r = 128 + r := fun r hr => (Nat.two_pow_add_eq_or_of_lt (i := 7) hr 1).symm
  by_cases q : i < 128
  · rw [Nat.or_comm, k i q, Nat.mod_eq_of_lt q]
  · have e : i = 128 ||| (i - 128) := by rw [k _ (by omega)]; omega
    have e2 : i % 128 = i - 128 := by omega
    rw [e2, ← k _ (by omega), Nat.or_comm]
    have e3 : 128 ||| (128 ||| (i - 128)) = 128 ||| (i - 128) := by rw [← Nat.or_assoc, Nat.or_self]
    rw [← e] at e3; rw [e3]; exact e
theorem own_or8 (x : Int64) : ((x ||| (128 : Int64)).toInt - (128 + x.toInt % 128)) % 256 = 0 := by
  have e1 : (x ||| (128 : Int64)).toBitVec.toNat % 256 = 128 + x.toBitVec.toNat % 128 := by
    rw [Int64.toBitVec_or, BitVec.toNat_or, show (128 : Int64).toBitVec.toNat = 128 from rfl]
    have := @Nat.or_mod_two_pow x.toBitVec.toNat 128 8
    rw [show (2 : Nat) ^ 8 = 256 from rfl] at this
    rw [this, show 128 % 256 = 128 from rfl, own_or256 _ (Nat.mod_lt _ (by decide))]
    omega
  have e2 : (x ||| (128 : Int64)).toInt = (x ||| (128 : Int64)).toBitVec.toInt := rfl
  have e3 : x.toInt = x.toBitVec.toInt := rfl
  rw [e2, e3, BitVec.toInt_eq_toNat_cond, BitVec.toInt_eq_toNat_cond]
  have l1 := (x ||| (128 : Int64)).toBitVec.isLt; have l2 := x.toBitVec.isLt
  split <;> split <;> omega
theorem own_or8i (x : Int32) : ((x ||| (128 : Int32)).toInt - (128 + x.toInt % 128)) % 256 = 0 := by
  have e1 : (x ||| (128 : Int32)).toBitVec.toNat % 256 = 128 + x.toBitVec.toNat % 128 := by
    rw [Int32.toBitVec_or, BitVec.toNat_or, show (128 : Int32).toBitVec.toNat = 128 from rfl]
    have := @Nat.or_mod_two_pow x.toBitVec.toNat 128 8
    rw [show (2 : Nat) ^ 8 = 256 from rfl] at this
    rw [this, show 128 % 256 = 128 from rfl, own_or256 _ (Nat.mod_lt _ (by decide))]
    omega
  have e2 : (x ||| (128 : Int32)).toInt = (x ||| (128 : Int32)).toBitVec.toInt := rfl
  have e3 : x.toInt = x.toBitVec.toInt := rfl
  rw [e2, e3, BitVec.toInt_eq_toNat_cond, BitVec.toInt_eq_toNat_cond]
  have l1 := (x ||| (128 : Int32)).toBitVec.isLt; have l2 := x.toBitVec.isLt
  split <;> split <;> omega
/-- the k-th byte that putGroups writes, r bytes before the last -/
def own_gb (d : Int64) (r k : Nat) : Int32 := if k < r then (((own_sh d k) ||| (128 : Int64)).toInt32).toInt8.toInt32 else ((own_sh d k).toInt32).toInt8.toInt32
def own_grpv (d : Int64) (i : Int32) : Int32 := ((((d.toUInt64 >>> (((7 : Int32) * i) &&& 0x3f).toInt64.toUInt64).toInt64) &&& (127 : Int64)).toInt32)
def own_want (d : Int64) (i n : Int32) : Int32 := if i < (n - (1 : Int32)) then ((own_grpv d i) ||| (128 : Int32)).toInt8.toInt32 else (own_grpv d i).toInt8.toInt32
theorem own_grpu (d : Int64) (k : Nat) (hk : k ≤ 9) : (own_grpv d k.toInt32).toInt = ((own_u d / 128 ^ k % 128 : Nat) : Int) := by
  have key : ∀ q : Int32, q.toBitVec.toNat % 64 = 7 * k → (((d.toUInt64 >>> (q &&& 0x3f).toInt64.toUInt64).toInt64).toInt % 18446744073709551616) = ((own_u d / 128 ^ k : Nat) : Int) := by
    intro q hq
    have r := rng64 d
    rcases Nat.eq_zero_or_pos k with rfl | hpos
    · have e : (q &&& 0x3f).toInt64.toUInt64 = 0 := by
        have s := (sm64 q 0 hq).1
        apply UInt64.toBitVec_inj.mp
        show (q &&& 0x3f).toInt64.toBitVec = _
        rw [s]; rfl
      rw [e]
      have e2 : (d.toUInt64 >>> (0 : UInt64)).toInt64 = d := by simp
      rw [e2]; simp only [own_u, Nat.pow_zero, Nat.div_one]; omega
    · have a := c_lushr d q (7 * k) hq (by omega)
      have e : ((2 ^ (7 * k) : Nat) : Int) = ((128 ^ k : Nat) : Int) := by rw [Nat.pow_mul]
      rw [a, e]
      have hp : 0 < 128 ^ k := Nat.pow_pos (by decide)
      have b1 : ((own_u d : Nat) : Int) = d.toInt % 18446744073709551616 := by simp only [own_u]; omega
      rw [← b1]
      have b2 : ((own_u d : Nat) : Int) / ((128 ^ k : Nat) : Int) = ((own_u d / 128 ^ k : Nat) : Int) := rfl
      rw [b2]
      have b3 := own_ult d
      have b4 : own_u d / 128 ^ k ≤ own_u d := Nat.div_le_self _ _
      clear b1 b2 e a hp
      generalize own_u d / 128 ^ k = t at *
      omega
  have hq : ((7 : Int32) * k.toInt32).toBitVec.toNat % 64 = 7 * k := by
    have : ∀ k : Fin 10, ((7 : Int32) * k.1.toInt32).toBitVec.toNat % 64 = 7 * k.1 := by decide
    exact this ⟨k, by omega⟩
  have a := key _ hq
  generalize hy : ((d.toUInt64 >>> (((7 : Int32) * k.toInt32) &&& 0x3f).toInt64.toUInt64).toInt64) = y at a
  have m := c_maskL y 127 7 (by decide) (by decide)
  have e : ((2 ^ 7 : Nat) : Int) = 128 := rfl
  rw [e] at m
  have l := c_l2i (y &&& 127)
  have r := rng32 (y &&& 127).toInt32; have r2 := rng64 y
  unfold own_grpv
  rw [hy]
  omega
theorem own_gbw (d : Int64) (r k : Nat) (hr : r ≤ 9) (hk : k ≤ r) (hlast : own_u d / 128 ^ r < 128) : own_want d k.toInt32 (r + 1).toInt32 = own_gb d r k := by
  have e1 : ((r + 1).toInt32 - (1 : Int32)) = r.toInt32 := own_pred r
  have e2 : (k.toInt32 < r.toInt32) ↔ k < r := own_tlt (by omega) (by omega)
  have g := own_grpu d k (by omega)
  have s := own_ush d k
  have ru := rng64 (own_sh d k)
  have u1 : ((own_u (own_sh d k) : Nat) : Int) = (own_sh d k).toInt % 18446744073709551616 := by simp only [own_u]; omega
  unfold own_want own_gb
  rw [e1]
  by_cases q : k < r
  · rw [if_pos (e2.mpr q), if_pos q]
    have a := own_or8 (own_sh d k); have b := own_or8i (own_grpv d k.toInt32)
    have a1 := c_l2i ((own_sh d k) ||| (128 : Int64))
    have a2 := c_i2b (((own_sh d k) ||| (128 : Int64)).toInt32); have a3 := c_i2b ((own_grpv d k.toInt32) ||| (128 : Int32))
    exact Int32.toInt_inj.mp (by omega)
  · rw [if_neg (fun z => q (e2.mp z)), if_neg q]
    obtain rfl : k = r := by omega
    have a1 := c_l2i (own_sh d k)
    have a2 := c_i2b ((own_sh d k).toInt32); have a3 := c_i2b (own_grpv d k.toInt32)
    exact Int32.toInt_inj.mp (by omega)
theorem own_grp {u r k : Nat} (h1 : r = 0 ∨ 128 ^ r ≤ u) (h2 : u < 128 ^ (r + 1)) (h3 : u < 128 ^ k) (h4 : k = 1 ∨ ¬ u < 128 ^ (k - 1)) (hk : 1 ≤ k) : r + 1 = k := by
  have a : r < k := by
    rcases h1 with rfl | h1
    · omega
    · exact Nat.lt_of_not_le fun q => absurd (Nat.pow_le_pow_right (by decide : 0 < 128) q) (by omega)
  have b : k - 1 < r + 1 := by
    rcases h4 with rfl | h4
    · omega
    · exact Nat.lt_of_not_le fun q => absurd (Nat.pow_le_pow_right (by decide : 0 < 128) q) (by omega)
  omega
theorem own_exr (u : Nat) (hu : u < 18446744073709551616) : ∃ r, r ≤ 9 ∧ (r = 0 ∨ 128 ^ r ≤ u) ∧ u < 128 ^ (r + 1) := by
  by_cases h1 : u < 128 ^ 1
  · exact ⟨0, by decide, Or.inl rfl, h1⟩
  by_cases h2 : u < 128 ^ 2
  · exact ⟨1, by decide, Or.inr (by omega), h2⟩
  by_cases h3 : u < 128 ^ 3
  · exact ⟨2, by decide, Or.inr (by omega), h3⟩
  by_cases h4 : u < 128 ^ 4
  · exact ⟨3, by decide, Or.inr (by omega), h4⟩
  by_cases h5 : u < 128 ^ 5
  · exact ⟨4, by decide, Or.inr (by omega), h5⟩
  by_cases h6 : u < 128 ^ 6
  · exact ⟨5, by decide, Or.inr (by omega), h6⟩
  by_cases h7 : u < 128 ^ 7
  · exact ⟨6, by decide, Or.inr (by omega), h7⟩
  by_cases h8 : u < 128 ^ 8
  · exact ⟨7, by decide, Or.inr (by omega), h8⟩
  by_cases h9 : u < 128 ^ 9
  · exact ⟨8, by decide, Or.inr (by omega), h9⟩
  · exact ⟨9, by decide, Or.inr (by omega), Nat.lt_trans hu (by decide)⟩
theorem own_shz (d : Int64) (q : Int32) (k : Nat) (h : q.toBitVec.toNat % 64 = 7 * k) (hk : 0 < k) : (((d.toUInt64 >>> (q &&& 0x3f).toInt64.toUInt64).toInt64) = (0 : Int64)) ↔ own_u d < 128 ^ k := by
  have a := c_lushr d q (7 * k) h (by omega)
  have e : ((2 ^ (7 * k) : Nat) : Int) = ((128 ^ k : Nat) : Int) := by rw [Nat.pow_mul]
  have b1 : ((own_u d : Nat) : Int) = d.toInt % 18446744073709551616 := by simp only [own_u]; omega
  rw [e, ← b1] at a
  have b2 : ((own_u d : Nat) : Int) / ((128 ^ k : Nat) : Int) = ((own_u d / 128 ^ k : Nat) : Int) := rfl
  rw [b2] at a
  rw [← Int64.toInt_inj, a, show (0 : Int64).toInt = 0 from rfl]
  have hp : 0 < 128 ^ k := Nat.pow_pos (by decide)
  rw [show ((own_u d / 128 ^ k : Nat) : Int) = 0 ↔ own_u d / 128 ^ k = 0 by omega]
  exact Nat.div_eq_zero_iff_lt hp
theorem own_cell {d : Int64} {f : Int32} {n r : Nat} {ys : List Int32} (hW : own_W (List.replicate 12 f) n (own_gb d r) (r + 1) ys) (hn : n ≤ 2) (hr : r ≤ 9) (hlast : own_u d / 128 ^ r < 128) (j : Nat) (hj : j < 12) :
    (((Int32.ofNat j - n.toInt32) < (0 : Int32) ∨ ¬ (Int32.ofNat j - n.toInt32) < (r + 1).toInt32) → ys[(Int32.ofNat j).toNatClampNeg]? = some f) ∧ (¬ (Int32.ofNat j - n.toInt32) < (0 : Int32) → (Int32.ofNat j - n.toInt32) < (r + 1).toInt32 → ys[(Int32.ofNat j).toNatClampNeg]? = some (own_want d (Int32.ofNat j - n.toInt32) (r + 1).toInt32)) := by
  have e1 : (Int32.ofNat j).toNatClampNeg = j := own_tn (by omega)
  have t1 : (Int32.ofNat j).toInt = j := own_ti (by omega)
  have t2 : n.toInt32.toInt = n := own_ti (by omega)
  have t3 : (r + 1).toInt32.toInt = ((r + 1 : Nat) : Int) := own_ti (by omega)
  have t4 := c_isub (Int32.ofNat j) n.toInt32
  have t5 := rng32 (Int32.ofNat j - n.toInt32)
  have e2 : ((Int32.ofNat j - n.toInt32) < (0 : Int32)) ↔ j < n := by rw [Int32.lt_iff_toInt_lt, show (0 : Int32).toInt = 0 from rfl]; omega
  have e3 : ((Int32.ofNat j - n.toInt32) < (r + 1).toInt32) ↔ j < n + (r + 1) := by rw [Int32.lt_iff_toInt_lt, t3]; omega
  rw [e1, e2, e3, hW.2 j]
  refine ⟨fun q => ?_, fun q1 q2 => ?_⟩
  · rw [if_neg (by omega), List.getElem?_replicate, if_pos hj]
  · rw [if_pos (by omega)]
    have e4 : Int32.ofNat j - n.toInt32 = (j - n).toInt32 := by show j.toInt32 - n.toInt32 = _; rw [own_tsub (by omega)]
    rw [e4, own_gbw d r (j - n) hr (by omega) hlast]
theorem own_hu {d : Int64} {u q : Nat} (hu : 128 ^ (q + 1) ≤ own_u (own_sh d u) ∧ own_u (own_sh d u) < 128 ^ (q + 1 + 1)) : (q = 0 ∨ 128 ^ q ≤ own_u (own_sh d (u + 1))) ∧ own_u (own_sh d (u + 1)) < 128 ^ (q + 1) := by
  rw [own_sh, own_u7]
  refine ⟨Or.inr ?_, ?_⟩
  · rw [Nat.le_div_iff_mul_le (by decide)]; rw [Nat.pow_succ] at hu; exact hu.1
  · rw [Nat.div_lt_iff_lt_mul (by decide)]; rw [Nat.pow_succ 128 (q + 1)] at hu; exact hu.2
theorem own_hlast {d : Int64} {r : Nat} (h2 : own_u d < 128 ^ (r + 1)) : own_u d / 128 ^ r < 128 := by
  rw [Nat.div_lt_iff_lt_mul (Nat.pow_pos (by decide))]; rw [Nat.pow_succ, Nat.mul_comm] at h2; exact h2
theorem w0 {Z : State} {a0 : Array Value} (hw : ∀ d ∈ tables_1, d.before a0 Z = true) : (Jvm.Cond.constant "io/tightbits/VarIntPutGroupsPinLaw" (7 : Nat) (2147483647 : Int32)).before a0 Z = true := hw _ (List.mem_of_getElem? (i := 0) rfl)
theorem w1 {Z : State} {a0 : Array Value} (hw : ∀ d ∈ tables_1, d.before a0 Z = true) : (Jvm.Cond.arrayClass Jvm.ClassFile.FieldType.byte).before a0 Z = true := hw _ (List.mem_of_getElem? (i := 1) rfl)
theorem w2 {Z : State} {a0 : Array Value} (hw : ∀ d ∈ tables_1, d.before a0 Z = true) : (Jvm.Cond.methodLink "io/tightbits/VarIntPutGroupsPinLaw" (8 : Nat) ({ cls := "io/tightbits/VarIntPutGroupsPinLaw", name := "groups", desc := "(J)I" } : Jvm.MethodName)).before a0 Z = true := hw _ (List.mem_of_getElem? (i := 2) rfl)
theorem w3 {Z : State} {a0 : Array Value} (hw : ∀ d ∈ tables_1, d.before a0 Z = true) : (Jvm.Cond.static ({ cls := "io/tightbits/VarIntPutGroupsPinLaw", name := "groups", desc := "(J)I" } : Jvm.MethodName)).before a0 Z = true := hw _ (List.mem_of_getElem? (i := 3) rfl)
theorem w4 {Z : State} {a0 : Array Value} (hw : ∀ d ∈ tables_1, d.before a0 Z = true) : (Jvm.Cond.initialized "io/tightbits/VarIntPutGroupsPinLaw").before a0 Z = true := hw _ (List.mem_of_getElem? (i := 4) rfl)
theorem w5 {Z : State} {a0 : Array Value} (hw : ∀ d ∈ tables_1, d.before a0 Z = true) : (Jvm.Cond.code ({ cls := "io/tightbits/VarIntPutGroupsPinLaw", name := "groups", desc := "(J)I" } : Jvm.MethodName) method_3_code (2 : Nat) (Option.some Jvm.ClassFile.FieldType.int)).before a0 Z = true := hw _ (List.mem_of_getElem? (i := 5) rfl)
theorem w6 {Z : State} {a0 : Array Value} (hw : ∀ d ∈ tables_1, d.before a0 Z = true) : (Jvm.Cond.methodLink "io/tightbits/VarIntPutGroupsPinLaw" (14 : Nat) ({ cls := "io/tightbits/VarInt", name := "putGroups", desc := "([BIJ)I" } : Jvm.MethodName)).before a0 Z = true := hw _ (List.mem_of_getElem? (i := 6) rfl)
theorem w7 {Z : State} {a0 : Array Value} (hw : ∀ d ∈ tables_1, d.before a0 Z = true) : (Jvm.Cond.static ({ cls := "io/tightbits/VarInt", name := "putGroups", desc := "([BIJ)I" } : Jvm.MethodName)).before a0 Z = true := hw _ (List.mem_of_getElem? (i := 7) rfl)
theorem w8 {Z : State} {a0 : Array Value} (hw : ∀ d ∈ tables_1, d.before a0 Z = true) : (Jvm.Cond.initialized "io/tightbits/VarInt").before a0 Z = true := hw _ (List.mem_of_getElem? (i := 8) rfl)
theorem w9 {Z : State} {a0 : Array Value} (hw : ∀ d ∈ tables_1, d.before a0 Z = true) : (Jvm.Cond.code ({ cls := "io/tightbits/VarInt", name := "putGroups", desc := "([BIJ)I" } : Jvm.MethodName) prog_92_method_19_code (4 : Nat) (Option.some Jvm.ClassFile.FieldType.int)).before a0 Z = true := hw _ (List.mem_of_getElem? (i := 9) rfl)
theorem w10 {Z : State} {a0 : Array Value} (hw : ∀ d ∈ tables_1, d.before a0 Z = true) : (Jvm.Cond.constantLong "io/tightbits/VarInt" (86 : Nat) (-128 : Int64)).before a0 Z = true := hw _ (List.mem_of_getElem? (i := 10) rfl)
theorem w11 {Z : State} {a0 : Array Value} (hw : ∀ d ∈ tables_1, d.before a0 Z = true) : (Jvm.Cond.methodLink "io/tightbits/VarIntPutGroupsPinLaw" (20 : Nat) ({ cls := "io/tightbits/VarIntPutGroupsPinLaw", name := "ok", desc := "([BIIIJB)Z" } : Jvm.MethodName)).before a0 Z = true := hw _ (List.mem_of_getElem? (i := 11) rfl)
theorem w12 {Z : State} {a0 : Array Value} (hw : ∀ d ∈ tables_1, d.before a0 Z = true) : (Jvm.Cond.static ({ cls := "io/tightbits/VarIntPutGroupsPinLaw", name := "ok", desc := "([BIIIJB)Z" } : Jvm.MethodName)).before a0 Z = true := hw _ (List.mem_of_getElem? (i := 12) rfl)
theorem w13 {Z : State} {a0 : Array Value} (hw : ∀ d ∈ tables_1, d.before a0 Z = true) : (Jvm.Cond.code ({ cls := "io/tightbits/VarIntPutGroupsPinLaw", name := "ok", desc := "([BIIIJB)Z" } : Jvm.MethodName) method_4_code (10 : Nat) (Option.some Jvm.ClassFile.FieldType.boolean)).before a0 Z = true := hw _ (List.mem_of_getElem? (i := 13) rfl)
theorem w14 {Z : State} {a0 : Array Value} (hw : ∀ d ∈ tables_1, d.before a0 Z = true) : (Jvm.Cond.constantLong "io/tightbits/VarIntPutGroupsPinLaw" (24 : Nat) (127 : Int64)).before a0 Z = true := hw _ (List.mem_of_getElem? (i := 14) rfl)
theorem w15 {Z : State} {a0 : Array Value} (hw : ∀ d ∈ tables_1, d.before a0 Z = true) : (Jvm.Cond.constantLong "io/tightbits/VarInt" (88 : Nat) (128 : Int64)).before a0 Z = true := hw _ (List.mem_of_getElem? (i := 15) rfl)
theorem pd0 : parseMethodDescriptor "(J)I" = some ⟨[.long], some .int⟩ := by decide +kernel
theorem pd1 : parseMethodDescriptor "([BIJ)I" = some ⟨[(.array .byte), .int, .long], some .int⟩ := by decide +kernel
theorem pd2 : parseMethodDescriptor "([BIIIJB)Z" = some ⟨[(.array .byte), .int, .int, .int, .long, .byte], some .boolean⟩ := by decide +kernel
theorem pn0 : plainName "io/tightbits/VarIntPutGroupsPinLaw" = true := by first | (simp [plainName, overriddenIn]; done) | decide +kernel
theorem pn1 : plainName "io/tightbits/VarInt" = true := by first | (simp [plainName, overriddenIn]; done) | decide +kernel
theorem d1_0 : decode method_3_code 0 = .ok (.lload_n 0, 1) := by decide +kernel
theorem d1_1 : decode method_3_code 1 = .ok (.bipush 7, 2) := by decide +kernel
theorem d1_3 : decode method_3_code 3 = .ok (.lushr, 1) := by decide +kernel
theorem d1_4 : decode method_3_code 4 = .ok (.lconst 0, 1) := by decide +kernel
theorem d1_5 : decode method_3_code 5 = .ok (.lcmp, 1) := by decide +kernel
theorem d1_6 : decode method_3_code 6 = .ok (.ifCond .ne 5, 3) := by decide +kernel
theorem d1_9 : decode method_3_code 9 = .ok (.iconst 1, 1) := by decide +kernel
theorem d1_10 : decode method_3_code 10 = .ok (.ireturn, 1) := by decide +kernel
theorem d1_11 : decode method_3_code 11 = .ok (.lload_n 0, 1) := by decide +kernel
theorem d1_12 : decode method_3_code 12 = .ok (.bipush 14, 2) := by decide +kernel
theorem d1_14 : decode method_3_code 14 = .ok (.lushr, 1) := by decide +kernel
theorem d1_15 : decode method_3_code 15 = .ok (.lconst 0, 1) := by decide +kernel
theorem d1_16 : decode method_3_code 16 = .ok (.lcmp, 1) := by decide +kernel
theorem d1_17 : decode method_3_code 17 = .ok (.ifCond .ne 5, 3) := by decide +kernel
theorem d1_20 : decode method_3_code 20 = .ok (.iconst 2, 1) := by decide +kernel
theorem d1_21 : decode method_3_code 21 = .ok (.ireturn, 1) := by decide +kernel
theorem d1_22 : decode method_3_code 22 = .ok (.lload_n 0, 1) := by decide +kernel
theorem d1_23 : decode method_3_code 23 = .ok (.bipush 21, 2) := by decide +kernel
theorem d1_25 : decode method_3_code 25 = .ok (.lushr, 1) := by decide +kernel
theorem d1_26 : decode method_3_code 26 = .ok (.lconst 0, 1) := by decide +kernel
theorem d1_27 : decode method_3_code 27 = .ok (.lcmp, 1) := by decide +kernel
theorem d1_28 : decode method_3_code 28 = .ok (.ifCond .ne 5, 3) := by decide +kernel
theorem d1_31 : decode method_3_code 31 = .ok (.iconst 3, 1) := by decide +kernel
theorem d1_32 : decode method_3_code 32 = .ok (.ireturn, 1) := by decide +kernel
theorem d1_33 : decode method_3_code 33 = .ok (.lload_n 0, 1) := by decide +kernel
theorem d1_34 : decode method_3_code 34 = .ok (.bipush 28, 2) := by decide +kernel
theorem d1_36 : decode method_3_code 36 = .ok (.lushr, 1) := by decide +kernel
theorem d1_37 : decode method_3_code 37 = .ok (.lconst 0, 1) := by decide +kernel
theorem d1_38 : decode method_3_code 38 = .ok (.lcmp, 1) := by decide +kernel
theorem d1_39 : decode method_3_code 39 = .ok (.ifCond .ne 5, 3) := by decide +kernel
theorem d1_42 : decode method_3_code 42 = .ok (.iconst 4, 1) := by decide +kernel
theorem d1_43 : decode method_3_code 43 = .ok (.ireturn, 1) := by decide +kernel
theorem d1_44 : decode method_3_code 44 = .ok (.lload_n 0, 1) := by decide +kernel
theorem d1_45 : decode method_3_code 45 = .ok (.bipush 35, 2) := by decide +kernel
theorem d1_47 : decode method_3_code 47 = .ok (.lushr, 1) := by decide +kernel
theorem d1_48 : decode method_3_code 48 = .ok (.lconst 0, 1) := by decide +kernel
theorem d1_49 : decode method_3_code 49 = .ok (.lcmp, 1) := by decide +kernel
theorem d1_50 : decode method_3_code 50 = .ok (.ifCond .ne 5, 3) := by decide +kernel
theorem d1_53 : decode method_3_code 53 = .ok (.iconst 5, 1) := by decide +kernel
theorem d1_54 : decode method_3_code 54 = .ok (.ireturn, 1) := by decide +kernel
theorem d1_55 : decode method_3_code 55 = .ok (.lload_n 0, 1) := by decide +kernel
theorem d1_56 : decode method_3_code 56 = .ok (.bipush 42, 2) := by decide +kernel
theorem d1_58 : decode method_3_code 58 = .ok (.lushr, 1) := by decide +kernel
theorem d1_59 : decode method_3_code 59 = .ok (.lconst 0, 1) := by decide +kernel
theorem d1_60 : decode method_3_code 60 = .ok (.lcmp, 1) := by decide +kernel
theorem d1_61 : decode method_3_code 61 = .ok (.ifCond .ne 6, 3) := by decide +kernel
theorem d1_64 : decode method_3_code 64 = .ok (.bipush 6, 2) := by decide +kernel
theorem d1_66 : decode method_3_code 66 = .ok (.ireturn, 1) := by decide +kernel
theorem d1_67 : decode method_3_code 67 = .ok (.lload_n 0, 1) := by decide +kernel
theorem d1_68 : decode method_3_code 68 = .ok (.bipush 49, 2) := by decide +kernel
theorem d1_70 : decode method_3_code 70 = .ok (.lushr, 1) := by decide +kernel
theorem d1_71 : decode method_3_code 71 = .ok (.lconst 0, 1) := by decide +kernel
theorem d1_72 : decode method_3_code 72 = .ok (.lcmp, 1) := by decide +kernel
theorem d1_73 : decode method_3_code 73 = .ok (.ifCond .ne 6, 3) := by decide +kernel
theorem d1_76 : decode method_3_code 76 = .ok (.bipush 7, 2) := by decide +kernel
theorem d1_78 : decode method_3_code 78 = .ok (.ireturn, 1) := by decide +kernel
theorem d1_79 : decode method_3_code 79 = .ok (.lload_n 0, 1) := by decide +kernel
theorem d1_80 : decode method_3_code 80 = .ok (.bipush 56, 2) := by decide +kernel
theorem d1_82 : decode method_3_code 82 = .ok (.lushr, 1) := by decide +kernel
theorem d1_83 : decode method_3_code 83 = .ok (.lconst 0, 1) := by decide +kernel
theorem d1_84 : decode method_3_code 84 = .ok (.lcmp, 1) := by decide +kernel
theorem d1_85 : decode method_3_code 85 = .ok (.ifCond .ne 6, 3) := by decide +kernel
theorem d1_88 : decode method_3_code 88 = .ok (.bipush 8, 2) := by decide +kernel
theorem d1_90 : decode method_3_code 90 = .ok (.ireturn, 1) := by decide +kernel
theorem d1_91 : decode method_3_code 91 = .ok (.lload_n 0, 1) := by decide +kernel
theorem d1_92 : decode method_3_code 92 = .ok (.bipush 63, 2) := by decide +kernel
theorem d1_94 : decode method_3_code 94 = .ok (.lushr, 1) := by decide +kernel
theorem d1_95 : decode method_3_code 95 = .ok (.lconst 0, 1) := by decide +kernel
theorem d1_96 : decode method_3_code 96 = .ok (.lcmp, 1) := by decide +kernel
theorem d1_97 : decode method_3_code 97 = .ok (.ifCond .ne 6, 3) := by decide +kernel
theorem d1_100 : decode method_3_code 100 = .ok (.bipush 9, 2) := by decide +kernel
theorem d1_102 : decode method_3_code 102 = .ok (.ireturn, 1) := by decide +kernel
theorem d1_103 : decode method_3_code 103 = .ok (.bipush 10, 2) := by decide +kernel
theorem d1_105 : decode method_3_code 105 = .ok (.ireturn, 1) := by decide +kernel
theorem d2_0 : decode prog_92_method_19_code 0 = .ok (.lload_n 2, 1) := by decide +kernel
theorem d2_1 : decode prog_92_method_19_code 1 = .ok (.ldc2_w 86, 3) := by decide +kernel
theorem d2_4 : decode prog_92_method_19_code 4 = .ok (.land, 1) := by decide +kernel
theorem d2_5 : decode prog_92_method_19_code 5 = .ok (.lconst 0, 1) := by decide +kernel
theorem d2_6 : decode prog_92_method_19_code 6 = .ok (.lcmp, 1) := by decide +kernel
theorem d2_7 : decode prog_92_method_19_code 7 = .ok (.ifCond .eq 24, 3) := by decide +kernel
theorem d2_10 : decode prog_92_method_19_code 10 = .ok (.aload_n 0, 1) := by decide +kernel
theorem d2_11 : decode prog_92_method_19_code 11 = .ok (.iload_n 1, 1) := by decide +kernel
theorem d2_12 : decode prog_92_method_19_code 12 = .ok (.iinc 1 1, 3) := by decide +kernel
theorem d2_15 : decode prog_92_method_19_code 15 = .ok (.lload_n 2, 1) := by decide +kernel
theorem d2_16 : decode prog_92_method_19_code 16 = .ok (.ldc2_w 88, 3) := by decide +kernel
theorem d2_19 : decode prog_92_method_19_code 19 = .ok (.lor, 1) := by decide +kernel
theorem d2_20 : decode prog_92_method_19_code 20 = .ok (.l2i, 1) := by decide +kernel
theorem d2_21 : decode prog_92_method_19_code 21 = .ok (.i2b, 1) := by decide +kernel
theorem d2_22 : decode prog_92_method_19_code 22 = .ok (.bastore, 1) := by decide +kernel
theorem d2_23 : decode prog_92_method_19_code 23 = .ok (.lload_n 2, 1) := by decide +kernel
theorem d2_24 : decode prog_92_method_19_code 24 = .ok (.bipush 7, 2) := by decide +kernel
theorem d2_26 : decode prog_92_method_19_code 26 = .ok (.lushr, 1) := by decide +kernel
theorem d2_27 : decode prog_92_method_19_code 27 = .ok (.lstore_n 2, 1) := by decide +kernel
theorem d2_28 : decode prog_92_method_19_code 28 = .ok (.goto (-28), 3) := by decide +kernel
theorem d2_31 : decode prog_92_method_19_code 31 = .ok (.aload_n 0, 1) := by decide +kernel
theorem d2_32 : decode prog_92_method_19_code 32 = .ok (.iload_n 1, 1) := by decide +kernel
theorem d2_33 : decode prog_92_method_19_code 33 = .ok (.iinc 1 1, 3) := by decide +kernel
theorem d2_36 : decode prog_92_method_19_code 36 = .ok (.lload_n 2, 1) := by decide +kernel
theorem d2_37 : decode prog_92_method_19_code 37 = .ok (.l2i, 1) := by decide +kernel
theorem d2_38 : decode prog_92_method_19_code 38 = .ok (.i2b, 1) := by decide +kernel
theorem d2_39 : decode prog_92_method_19_code 39 = .ok (.bastore, 1) := by decide +kernel
theorem d2_40 : decode prog_92_method_19_code 40 = .ok (.iload_n 1, 1) := by decide +kernel
theorem d2_41 : decode prog_92_method_19_code 41 = .ok (.ireturn, 1) := by decide +kernel
theorem d3_0 : decode method_4_code 0 = .ok (.iload_n 1, 1) := by decide +kernel
theorem d3_1 : decode method_4_code 1 = .ok (.iload_n 2, 1) := by decide +kernel
theorem d3_2 : decode method_4_code 2 = .ok (.isub, 1) := by decide +kernel
theorem d3_3 : decode method_4_code 3 = .ok (.istore 7, 2) := by decide +kernel
theorem d3_5 : decode method_4_code 5 = .ok (.iload 7, 2) := by decide +kernel
theorem d3_7 : decode method_4_code 7 = .ok (.ifCond .lt 9, 3) := by decide +kernel
theorem d3_10 : decode method_4_code 10 = .ok (.iload 7, 2) := by decide +kernel
theorem d3_12 : decode method_4_code 12 = .ok (.iload_n 3, 1) := by decide +kernel
theorem d3_13 : decode method_4_code 13 = .ok (.if_icmp .lt 17, 3) := by decide +kernel
theorem d3_16 : decode method_4_code 16 = .ok (.aload_n 0, 1) := by decide +kernel
theorem d3_17 : decode method_4_code 17 = .ok (.iload_n 1, 1) := by decide +kernel
theorem d3_18 : decode method_4_code 18 = .ok (.baload, 1) := by decide +kernel
theorem d3_19 : decode method_4_code 19 = .ok (.iload 6, 2) := by decide +kernel
theorem d3_21 : decode method_4_code 21 = .ok (.if_icmp .ne 7, 3) := by decide +kernel
theorem d3_24 : decode method_4_code 24 = .ok (.iconst 1, 1) := by decide +kernel
theorem d3_25 : decode method_4_code 25 = .ok (.goto 4, 3) := by decide +kernel
theorem d3_29 : decode method_4_code 29 = .ok (.ireturn, 1) := by decide +kernel
theorem d3_30 : decode method_4_code 30 = .ok (.lload 4, 2) := by decide +kernel
theorem d3_32 : decode method_4_code 32 = .ok (.bipush 7, 2) := by decide +kernel
theorem d3_34 : decode method_4_code 34 = .ok (.iload 7, 2) := by decide +kernel
theorem d3_36 : decode method_4_code 36 = .ok (.imul, 1) := by decide +kernel
theorem d3_37 : decode method_4_code 37 = .ok (.lushr, 1) := by decide +kernel
theorem d3_38 : decode method_4_code 38 = .ok (.ldc2_w 24, 3) := by decide +kernel
theorem d3_41 : decode method_4_code 41 = .ok (.land, 1) := by decide +kernel
theorem d3_42 : decode method_4_code 42 = .ok (.l2i, 1) := by decide +kernel
theorem d3_43 : decode method_4_code 43 = .ok (.istore 8, 2) := by decide +kernel
theorem d3_45 : decode method_4_code 45 = .ok (.iload 7, 2) := by decide +kernel
theorem d3_47 : decode method_4_code 47 = .ok (.iload_n 3, 1) := by decide +kernel
theorem d3_48 : decode method_4_code 48 = .ok (.iconst 1, 1) := by decide +kernel
theorem d3_49 : decode method_4_code 49 = .ok (.isub, 1) := by decide +kernel
theorem d3_50 : decode method_4_code 50 = .ok (.if_icmp .ge 12, 3) := by decide +kernel
theorem d3_53 : decode method_4_code 53 = .ok (.iload 8, 2) := by decide +kernel
theorem d3_55 : decode method_4_code 55 = .ok (.sipush 128, 3) := by decide +kernel
theorem d3_58 : decode method_4_code 58 = .ok (.ior, 1) := by decide +kernel
theorem d3_59 : decode method_4_code 59 = .ok (.goto 5, 3) := by decide +kernel
theorem d3_62 : decode method_4_code 62 = .ok (.iload 8, 2) := by decide +kernel
theorem d3_64 : decode method_4_code 64 = .ok (.istore 9, 2) := by decide +kernel
theorem d3_66 : decode method_4_code 66 = .ok (.aload_n 0, 1) := by decide +kernel
theorem d3_67 : decode method_4_code 67 = .ok (.iload_n 1, 1) := by decide +kernel
theorem d3_68 : decode method_4_code 68 = .ok (.baload, 1) := by decide +kernel
theorem d3_69 : decode method_4_code 69 = .ok (.iload 9, 2) := by decide +kernel
theorem d3_71 : decode method_4_code 71 = .ok (.i2b, 1) := by decide +kernel
theorem d3_72 : decode method_4_code 72 = .ok (.if_icmp .ne 7, 3) := by decide +kernel
theorem d3_75 : decode method_4_code 75 = .ok (.iconst 1, 1) := by decide +kernel
theorem d3_76 : decode method_4_code 76 = .ok (.goto 4, 3) := by decide +kernel
theorem d3_80 : decode method_4_code 80 = .ok (.ireturn, 1) := by decide +kernel
theorem ef_rm_grp (m : MethodId) (x0 : Int64) : entryFrame m #[(.long x0)] 2 = mkF m 0 #[.val (.long x0), .second] [] := by first | (simp [entryFrame, mkF, argsToLocals, Value.category]; done) | rfl
set_option maxRecDepth 65536 in
set_option maxHeartbeats 40000000 in
theorem rm_grp (l : Launch) (Z : State) (a0 : Array Value) (hw : ∀ d ∈ tables_1, d.before a0 Z = true) (d : Int64) (r : Nat) (h0 : Heap) (n0 : Nat) (Z0 : n0 ≤ h0.size) (h1 : r = 0 ∨ 128 ^ r ≤ own_u d) (h2 : own_u d < 128 ^ (r + 1)) (hr9 : r ≤ 9) :
    Con l Z (⟨"io/tightbits/VarIntPutGroupsPinLaw", "groups", "(J)I"⟩ : MethodName) method_3_code 2 (some .int) [] ({ frames := 0, cells := 0, slots := 0, locals := 0 } : Room) #[(.long d)] h0 (fun v h L => v = some (.int (r + 1).toInt32) ∧ Fr n0 L ∧ h = h0) := by
  refine Con.mk (plainFor_of_name pn0) ?_
  intro p e s m below meth c T0 hx hby hml hown hnm hret hlk hZ X0 e0
  have hown : s.vm.findClass "io/tightbits/VarIntPutGroupsPinLaw" = some m.cls := hown
  have hnm : meth.name = "groups" := hnm
  have N0 := Fr.nil n0
  refine Go.cast (ef_rm_grp m d) ?_
  refine Go.st (S' := T0.setTop (mkF m 1 #[.val (.long d), .second] [(.long d)])) (fun _ k_ => XS.lloadN X0.here hx rfl (hb hby d1_0) rfl k_) ?_
  refine Go.st (S' := T0.setTop (mkF m 3 #[.val (.long d), .second] [(.int (7 : Int32)), (.long d)])) (fun _ k_ => XS.bipush X0.here hx rfl (hb hby d1_1) k_) ?_
  refine Go.st (S' := T0.setTop (mkF m 4 #[.val (.long d), .second] [(.long ((d.toUInt64 >>> ((7 : Int32) &&& 0x3f).toInt64.toUInt64).toInt64))])) (fun _ k_ => XS.lushr X0.here hx rfl (hb hby d1_3) rfl k_) ?_
  refine Go.st (S' := T0.setTop (mkF m 5 #[.val (.long d), .second] [(.long (0 : Int64)), (.long ((d.toUInt64 >>> ((7 : Int32) &&& 0x3f).toInt64.toUInt64).toInt64))])) (fun _ k_ => XS.lconst X0.here hx rfl (hb hby d1_4) k_) ?_
  refine Go.st (S' := T0.setTop (mkF m 6 #[.val (.long d), .second] [(.int (lcmpW ((d.toUInt64 >>> ((7 : Int32) &&& 0x3f).toInt64.toUInt64).toInt64) (0 : Int64)))])) (fun _ k_ => XS.lcmp X0.here hx rfl (hb hby d1_5) rfl k_) ?_
  by_cases hc6 : ((d.toUInt64 >>> ((7 : Int32) &&& 0x3f).toInt64.toUInt64).toInt64) = (0 : Int64)
  · skip
    refine Go.st (S' := T0.setTop (mkF m 9 #[.val (.long d), .second] [])) (fun _ k_ => XS.ifNo X0.here hx rfl (hb hby d1_6) rfl ((if0 _ _).trans (teq ((lw_eq ((d.toUInt64 >>> ((7 : Int32) &&& 0x3f).toInt64.toUInt64).toInt64) (0 : Int64)).mpr hc6)).2) k_) ?_
    refine Go.st (S' := T0.setTop (mkF m 10 #[.val (.long d), .second] [(.int (1 : Int32))])) (fun _ k_ => XS.iconst X0.here hx rfl (hb hby d1_9) k_) ?_
    exact Go.retI X0 hx hret hlk (hb hby d1_10) (by decide) (by decide) (by rw [e0]; exact ⟨by rw [show r + 1 = 1 from own_grp h1 h2 ((own_shz d 7 1 (by decide) (by decide)).mp hc6) (Or.inl rfl) (by decide)]; rfl, N0, rfl⟩)
  · skip
    refine Go.st (S' := T0.setTop (mkF m 11 #[.val (.long d), .second] [])) (fun _ k_ => XS.ifYes X0.here hx rfl (pc0 := 6) (pc' := 11) rfl (hb hby d1_6) rfl ((if0 _ _).trans (feq (fun q => hc6 ((lw_eq ((d.toUInt64 >>> ((7 : Int32) &&& 0x3f).toInt64.toUInt64).toInt64) (0 : Int64)).mp q))).2) (by decide) (by decide) k_) ?_
    refine Go.st (S' := T0.setTop (mkF m 12 #[.val (.long d), .second] [(.long d)])) (fun _ k_ => XS.lloadN X0.here hx rfl (hb hby d1_11) rfl k_) ?_
    refine Go.st (S' := T0.setTop (mkF m 14 #[.val (.long d), .second] [(.int (14 : Int32)), (.long d)])) (fun _ k_ => XS.bipush X0.here hx rfl (hb hby d1_12) k_) ?_
    refine Go.st (S' := T0.setTop (mkF m 15 #[.val (.long d), .second] [(.long ((d.toUInt64 >>> ((14 : Int32) &&& 0x3f).toInt64.toUInt64).toInt64))])) (fun _ k_ => XS.lushr X0.here hx rfl (hb hby d1_14) rfl k_) ?_
    refine Go.st (S' := T0.setTop (mkF m 16 #[.val (.long d), .second] [(.long (0 : Int64)), (.long ((d.toUInt64 >>> ((14 : Int32) &&& 0x3f).toInt64.toUInt64).toInt64))])) (fun _ k_ => XS.lconst X0.here hx rfl (hb hby d1_15) k_) ?_
    refine Go.st (S' := T0.setTop (mkF m 17 #[.val (.long d), .second] [(.int (lcmpW ((d.toUInt64 >>> ((14 : Int32) &&& 0x3f).toInt64.toUInt64).toInt64) (0 : Int64)))])) (fun _ k_ => XS.lcmp X0.here hx rfl (hb hby d1_16) rfl k_) ?_
    by_cases hc17 : ((d.toUInt64 >>> ((14 : Int32) &&& 0x3f).toInt64.toUInt64).toInt64) = (0 : Int64)
    · skip
      refine Go.st (S' := T0.setTop (mkF m 20 #[.val (.long d), .second] [])) (fun _ k_ => XS.ifNo X0.here hx rfl (hb hby d1_17) rfl ((if0 _ _).trans (teq ((lw_eq ((d.toUInt64 >>> ((14 : Int32) &&& 0x3f).toInt64.toUInt64).toInt64) (0 : Int64)).mpr hc17)).2) k_) ?_
      refine Go.st (S' := T0.setTop (mkF m 21 #[.val (.long d), .second] [(.int (2 : Int32))])) (fun _ k_ => XS.iconst X0.here hx rfl (hb hby d1_20) k_) ?_
      exact Go.retI X0 hx hret hlk (hb hby d1_21) (by decide) (by decide) (by rw [e0]; exact ⟨by rw [show r + 1 = 2 from own_grp h1 h2 ((own_shz d 14 2 (by decide) (by decide)).mp hc17) (Or.inr fun q => hc6 ((own_shz d 7 1 (by decide) (by decide)).mpr q)) (by decide)]; rfl, N0, rfl⟩)
    · skip
      refine Go.st (S' := T0.setTop (mkF m 22 #[.val (.long d), .second] [])) (fun _ k_ => XS.ifYes X0.here hx rfl (pc0 := 17) (pc' := 22) rfl (hb hby d1_17) rfl ((if0 _ _).trans (feq (fun q => hc17 ((lw_eq ((d.toUInt64 >>> ((14 : Int32) &&& 0x3f).toInt64.toUInt64).toInt64) (0 : Int64)).mp q))).2) (by decide) (by decide) k_) ?_
      refine Go.st (S' := T0.setTop (mkF m 23 #[.val (.long d), .second] [(.long d)])) (fun _ k_ => XS.lloadN X0.here hx rfl (hb hby d1_22) rfl k_) ?_
      refine Go.st (S' := T0.setTop (mkF m 25 #[.val (.long d), .second] [(.int (21 : Int32)), (.long d)])) (fun _ k_ => XS.bipush X0.here hx rfl (hb hby d1_23) k_) ?_
      refine Go.st (S' := T0.setTop (mkF m 26 #[.val (.long d), .second] [(.long ((d.toUInt64 >>> ((21 : Int32) &&& 0x3f).toInt64.toUInt64).toInt64))])) (fun _ k_ => XS.lushr X0.here hx rfl (hb hby d1_25) rfl k_) ?_
      refine Go.st (S' := T0.setTop (mkF m 27 #[.val (.long d), .second] [(.long (0 : Int64)), (.long ((d.toUInt64 >>> ((21 : Int32) &&& 0x3f).toInt64.toUInt64).toInt64))])) (fun _ k_ => XS.lconst X0.here hx rfl (hb hby d1_26) k_) ?_
      refine Go.st (S' := T0.setTop (mkF m 28 #[.val (.long d), .second] [(.int (lcmpW ((d.toUInt64 >>> ((21 : Int32) &&& 0x3f).toInt64.toUInt64).toInt64) (0 : Int64)))])) (fun _ k_ => XS.lcmp X0.here hx rfl (hb hby d1_27) rfl k_) ?_
      by_cases hc28 : ((d.toUInt64 >>> ((21 : Int32) &&& 0x3f).toInt64.toUInt64).toInt64) = (0 : Int64)
      · skip
        refine Go.st (S' := T0.setTop (mkF m 31 #[.val (.long d), .second] [])) (fun _ k_ => XS.ifNo X0.here hx rfl (hb hby d1_28) rfl ((if0 _ _).trans (teq ((lw_eq ((d.toUInt64 >>> ((21 : Int32) &&& 0x3f).toInt64.toUInt64).toInt64) (0 : Int64)).mpr hc28)).2) k_) ?_
        refine Go.st (S' := T0.setTop (mkF m 32 #[.val (.long d), .second] [(.int (3 : Int32))])) (fun _ k_ => XS.iconst X0.here hx rfl (hb hby d1_31) k_) ?_
        exact Go.retI X0 hx hret hlk (hb hby d1_32) (by decide) (by decide) (by rw [e0]; exact ⟨by rw [show r + 1 = 3 from own_grp h1 h2 ((own_shz d 21 3 (by decide) (by decide)).mp hc28) (Or.inr fun q => hc17 ((own_shz d 14 2 (by decide) (by decide)).mpr q)) (by decide)]; rfl, N0, rfl⟩)
      · skip
        refine Go.st (S' := T0.setTop (mkF m 33 #[.val (.long d), .second] [])) (fun _ k_ => XS.ifYes X0.here hx rfl (pc0 := 28) (pc' := 33) rfl (hb hby d1_28) rfl ((if0 _ _).trans (feq (fun q => hc28 ((lw_eq ((d.toUInt64 >>> ((21 : Int32) &&& 0x3f).toInt64.toUInt64).toInt64) (0 : Int64)).mp q))).2) (by decide) (by decide) k_) ?_
        refine Go.st (S' := T0.setTop (mkF m 34 #[.val (.long d), .second] [(.long d)])) (fun _ k_ => XS.lloadN X0.here hx rfl (hb hby d1_33) rfl k_) ?_
        refine Go.st (S' := T0.setTop (mkF m 36 #[.val (.long d), .second] [(.int (28 : Int32)), (.long d)])) (fun _ k_ => XS.bipush X0.here hx rfl (hb hby d1_34) k_) ?_
        refine Go.st (S' := T0.setTop (mkF m 37 #[.val (.long d), .second] [(.long ((d.toUInt64 >>> ((28 : Int32) &&& 0x3f).toInt64.toUInt64).toInt64))])) (fun _ k_ => XS.lushr X0.here hx rfl (hb hby d1_36) rfl k_) ?_
        refine Go.st (S' := T0.setTop (mkF m 38 #[.val (.long d), .second] [(.long (0 : Int64)), (.long ((d.toUInt64 >>> ((28 : Int32) &&& 0x3f).toInt64.toUInt64).toInt64))])) (fun _ k_ => XS.lconst X0.here hx rfl (hb hby d1_37) k_) ?_
        refine Go.st (S' := T0.setTop (mkF m 39 #[.val (.long d), .second] [(.int (lcmpW ((d.toUInt64 >>> ((28 : Int32) &&& 0x3f).toInt64.toUInt64).toInt64) (0 : Int64)))])) (fun _ k_ => XS.lcmp X0.here hx rfl (hb hby d1_38) rfl k_) ?_
        by_cases hc39 : ((d.toUInt64 >>> ((28 : Int32) &&& 0x3f).toInt64.toUInt64).toInt64) = (0 : Int64)
        · skip
          refine Go.st (S' := T0.setTop (mkF m 42 #[.val (.long d), .second] [])) (fun _ k_ => XS.ifNo X0.here hx rfl (hb hby d1_39) rfl ((if0 _ _).trans (teq ((lw_eq ((d.toUInt64 >>> ((28 : Int32) &&& 0x3f).toInt64.toUInt64).toInt64) (0 : Int64)).mpr hc39)).2) k_) ?_
          refine Go.st (S' := T0.setTop (mkF m 43 #[.val (.long d), .second] [(.int (4 : Int32))])) (fun _ k_ => XS.iconst X0.here hx rfl (hb hby d1_42) k_) ?_
          exact Go.retI X0 hx hret hlk (hb hby d1_43) (by decide) (by decide) (by rw [e0]; exact ⟨by rw [show r + 1 = 4 from own_grp h1 h2 ((own_shz d 28 4 (by decide) (by decide)).mp hc39) (Or.inr fun q => hc28 ((own_shz d 21 3 (by decide) (by decide)).mpr q)) (by decide)]; rfl, N0, rfl⟩)
        · skip
          refine Go.st (S' := T0.setTop (mkF m 44 #[.val (.long d), .second] [])) (fun _ k_ => XS.ifYes X0.here hx rfl (pc0 := 39) (pc' := 44) rfl (hb hby d1_39) rfl ((if0 _ _).trans (feq (fun q => hc39 ((lw_eq ((d.toUInt64 >>> ((28 : Int32) &&& 0x3f).toInt64.toUInt64).toInt64) (0 : Int64)).mp q))).2) (by decide) (by decide) k_) ?_
          refine Go.st (S' := T0.setTop (mkF m 45 #[.val (.long d), .second] [(.long d)])) (fun _ k_ => XS.lloadN X0.here hx rfl (hb hby d1_44) rfl k_) ?_
          refine Go.st (S' := T0.setTop (mkF m 47 #[.val (.long d), .second] [(.int (35 : Int32)), (.long d)])) (fun _ k_ => XS.bipush X0.here hx rfl (hb hby d1_45) k_) ?_
          refine Go.st (S' := T0.setTop (mkF m 48 #[.val (.long d), .second] [(.long ((d.toUInt64 >>> ((35 : Int32) &&& 0x3f).toInt64.toUInt64).toInt64))])) (fun _ k_ => XS.lushr X0.here hx rfl (hb hby d1_47) rfl k_) ?_
          refine Go.st (S' := T0.setTop (mkF m 49 #[.val (.long d), .second] [(.long (0 : Int64)), (.long ((d.toUInt64 >>> ((35 : Int32) &&& 0x3f).toInt64.toUInt64).toInt64))])) (fun _ k_ => XS.lconst X0.here hx rfl (hb hby d1_48) k_) ?_
          refine Go.st (S' := T0.setTop (mkF m 50 #[.val (.long d), .second] [(.int (lcmpW ((d.toUInt64 >>> ((35 : Int32) &&& 0x3f).toInt64.toUInt64).toInt64) (0 : Int64)))])) (fun _ k_ => XS.lcmp X0.here hx rfl (hb hby d1_49) rfl k_) ?_
          by_cases hc50 : ((d.toUInt64 >>> ((35 : Int32) &&& 0x3f).toInt64.toUInt64).toInt64) = (0 : Int64)
          · skip
            refine Go.st (S' := T0.setTop (mkF m 53 #[.val (.long d), .second] [])) (fun _ k_ => XS.ifNo X0.here hx rfl (hb hby d1_50) rfl ((if0 _ _).trans (teq ((lw_eq ((d.toUInt64 >>> ((35 : Int32) &&& 0x3f).toInt64.toUInt64).toInt64) (0 : Int64)).mpr hc50)).2) k_) ?_
            refine Go.st (S' := T0.setTop (mkF m 54 #[.val (.long d), .second] [(.int (5 : Int32))])) (fun _ k_ => XS.iconst X0.here hx rfl (hb hby d1_53) k_) ?_
            exact Go.retI X0 hx hret hlk (hb hby d1_54) (by decide) (by decide) (by rw [e0]; exact ⟨by rw [show r + 1 = 5 from own_grp h1 h2 ((own_shz d 35 5 (by decide) (by decide)).mp hc50) (Or.inr fun q => hc39 ((own_shz d 28 4 (by decide) (by decide)).mpr q)) (by decide)]; rfl, N0, rfl⟩)
          · skip
            refine Go.st (S' := T0.setTop (mkF m 55 #[.val (.long d), .second] [])) (fun _ k_ => XS.ifYes X0.here hx rfl (pc0 := 50) (pc' := 55) rfl (hb hby d1_50) rfl ((if0 _ _).trans (feq (fun q => hc50 ((lw_eq ((d.toUInt64 >>> ((35 : Int32) &&& 0x3f).toInt64.toUInt64).toInt64) (0 : Int64)).mp q))).2) (by decide) (by decide) k_) ?_
            refine Go.st (S' := T0.setTop (mkF m 56 #[.val (.long d), .second] [(.long d)])) (fun _ k_ => XS.lloadN X0.here hx rfl (hb hby d1_55) rfl k_) ?_
            refine Go.st (S' := T0.setTop (mkF m 58 #[.val (.long d), .second] [(.int (42 : Int32)), (.long d)])) (fun _ k_ => XS.bipush X0.here hx rfl (hb hby d1_56) k_) ?_
            refine Go.st (S' := T0.setTop (mkF m 59 #[.val (.long d), .second] [(.long ((d.toUInt64 >>> ((42 : Int32) &&& 0x3f).toInt64.toUInt64).toInt64))])) (fun _ k_ => XS.lushr X0.here hx rfl (hb hby d1_58) rfl k_) ?_
            refine Go.st (S' := T0.setTop (mkF m 60 #[.val (.long d), .second] [(.long (0 : Int64)), (.long ((d.toUInt64 >>> ((42 : Int32) &&& 0x3f).toInt64.toUInt64).toInt64))])) (fun _ k_ => XS.lconst X0.here hx rfl (hb hby d1_59) k_) ?_
            refine Go.st (S' := T0.setTop (mkF m 61 #[.val (.long d), .second] [(.int (lcmpW ((d.toUInt64 >>> ((42 : Int32) &&& 0x3f).toInt64.toUInt64).toInt64) (0 : Int64)))])) (fun _ k_ => XS.lcmp X0.here hx rfl (hb hby d1_60) rfl k_) ?_
            by_cases hc61 : ((d.toUInt64 >>> ((42 : Int32) &&& 0x3f).toInt64.toUInt64).toInt64) = (0 : Int64)
            · skip
              refine Go.st (S' := T0.setTop (mkF m 64 #[.val (.long d), .second] [])) (fun _ k_ => XS.ifNo X0.here hx rfl (hb hby d1_61) rfl ((if0 _ _).trans (teq ((lw_eq ((d.toUInt64 >>> ((42 : Int32) &&& 0x3f).toInt64.toUInt64).toInt64) (0 : Int64)).mpr hc61)).2) k_) ?_
              refine Go.st (S' := T0.setTop (mkF m 66 #[.val (.long d), .second] [(.int (6 : Int32))])) (fun _ k_ => XS.bipush X0.here hx rfl (hb hby d1_64) k_) ?_
              exact Go.retI X0 hx hret hlk (hb hby d1_66) (by decide) (by decide) (by rw [e0]; exact ⟨by rw [show r + 1 = 6 from own_grp h1 h2 ((own_shz d 42 6 (by decide) (by decide)).mp hc61) (Or.inr fun q => hc50 ((own_shz d 35 5 (by decide) (by decide)).mpr q)) (by decide)]; rfl, N0, rfl⟩)
            · skip
              refine Go.st (S' := T0.setTop (mkF m 67 #[.val (.long d), .second] [])) (fun _ k_ => XS.ifYes X0.here hx rfl (pc0 := 61) (pc' := 67) rfl (hb hby d1_61) rfl ((if0 _ _).trans (feq (fun q => hc61 ((lw_eq ((d.toUInt64 >>> ((42 : Int32) &&& 0x3f).toInt64.toUInt64).toInt64) (0 : Int64)).mp q))).2) (by decide) (by decide) k_) ?_
              refine Go.st (S' := T0.setTop (mkF m 68 #[.val (.long d), .second] [(.long d)])) (fun _ k_ => XS.lloadN X0.here hx rfl (hb hby d1_67) rfl k_) ?_
              refine Go.st (S' := T0.setTop (mkF m 70 #[.val (.long d), .second] [(.int (49 : Int32)), (.long d)])) (fun _ k_ => XS.bipush X0.here hx rfl (hb hby d1_68) k_) ?_
              refine Go.st (S' := T0.setTop (mkF m 71 #[.val (.long d), .second] [(.long ((d.toUInt64 >>> ((49 : Int32) &&& 0x3f).toInt64.toUInt64).toInt64))])) (fun _ k_ => XS.lushr X0.here hx rfl (hb hby d1_70) rfl k_) ?_
              refine Go.st (S' := T0.setTop (mkF m 72 #[.val (.long d), .second] [(.long (0 : Int64)), (.long ((d.toUInt64 >>> ((49 : Int32) &&& 0x3f).toInt64.toUInt64).toInt64))])) (fun _ k_ => XS.lconst X0.here hx rfl (hb hby d1_71) k_) ?_
              refine Go.st (S' := T0.setTop (mkF m 73 #[.val (.long d), .second] [(.int (lcmpW ((d.toUInt64 >>> ((49 : Int32) &&& 0x3f).toInt64.toUInt64).toInt64) (0 : Int64)))])) (fun _ k_ => XS.lcmp X0.here hx rfl (hb hby d1_72) rfl k_) ?_
              by_cases hc73 : ((d.toUInt64 >>> ((49 : Int32) &&& 0x3f).toInt64.toUInt64).toInt64) = (0 : Int64)
              · skip
                refine Go.st (S' := T0.setTop (mkF m 76 #[.val (.long d), .second] [])) (fun _ k_ => XS.ifNo X0.here hx rfl (hb hby d1_73) rfl ((if0 _ _).trans (teq ((lw_eq ((d.toUInt64 >>> ((49 : Int32) &&& 0x3f).toInt64.toUInt64).toInt64) (0 : Int64)).mpr hc73)).2) k_) ?_
                refine Go.st (S' := T0.setTop (mkF m 78 #[.val (.long d), .second] [(.int (7 : Int32))])) (fun _ k_ => XS.bipush X0.here hx rfl (hb hby d1_76) k_) ?_
                exact Go.retI X0 hx hret hlk (hb hby d1_78) (by decide) (by decide) (by rw [e0]; exact ⟨by rw [show r + 1 = 7 from own_grp h1 h2 ((own_shz d 49 7 (by decide) (by decide)).mp hc73) (Or.inr fun q => hc61 ((own_shz d 42 6 (by decide) (by decide)).mpr q)) (by decide)]; rfl, N0, rfl⟩)
              · skip
                refine Go.st (S' := T0.setTop (mkF m 79 #[.val (.long d), .second] [])) (fun _ k_ => XS.ifYes X0.here hx rfl (pc0 := 73) (pc' := 79) rfl (hb hby d1_73) rfl ((if0 _ _).trans (feq (fun q => hc73 ((lw_eq ((d.toUInt64 >>> ((49 : Int32) &&& 0x3f).toInt64.toUInt64).toInt64) (0 : Int64)).mp q))).2) (by decide) (by decide) k_) ?_
                refine Go.st (S' := T0.setTop (mkF m 80 #[.val (.long d), .second] [(.long d)])) (fun _ k_ => XS.lloadN X0.here hx rfl (hb hby d1_79) rfl k_) ?_
                refine Go.st (S' := T0.setTop (mkF m 82 #[.val (.long d), .second] [(.int (56 : Int32)), (.long d)])) (fun _ k_ => XS.bipush X0.here hx rfl (hb hby d1_80) k_) ?_
                refine Go.st (S' := T0.setTop (mkF m 83 #[.val (.long d), .second] [(.long ((d.toUInt64 >>> ((56 : Int32) &&& 0x3f).toInt64.toUInt64).toInt64))])) (fun _ k_ => XS.lushr X0.here hx rfl (hb hby d1_82) rfl k_) ?_
                refine Go.st (S' := T0.setTop (mkF m 84 #[.val (.long d), .second] [(.long (0 : Int64)), (.long ((d.toUInt64 >>> ((56 : Int32) &&& 0x3f).toInt64.toUInt64).toInt64))])) (fun _ k_ => XS.lconst X0.here hx rfl (hb hby d1_83) k_) ?_
                refine Go.st (S' := T0.setTop (mkF m 85 #[.val (.long d), .second] [(.int (lcmpW ((d.toUInt64 >>> ((56 : Int32) &&& 0x3f).toInt64.toUInt64).toInt64) (0 : Int64)))])) (fun _ k_ => XS.lcmp X0.here hx rfl (hb hby d1_84) rfl k_) ?_
                by_cases hc85 : ((d.toUInt64 >>> ((56 : Int32) &&& 0x3f).toInt64.toUInt64).toInt64) = (0 : Int64)
                · skip
                  refine Go.st (S' := T0.setTop (mkF m 88 #[.val (.long d), .second] [])) (fun _ k_ => XS.ifNo X0.here hx rfl (hb hby d1_85) rfl ((if0 _ _).trans (teq ((lw_eq ((d.toUInt64 >>> ((56 : Int32) &&& 0x3f).toInt64.toUInt64).toInt64) (0 : Int64)).mpr hc85)).2) k_) ?_
                  refine Go.st (S' := T0.setTop (mkF m 90 #[.val (.long d), .second] [(.int (8 : Int32))])) (fun _ k_ => XS.bipush X0.here hx rfl (hb hby d1_88) k_) ?_
                  exact Go.retI X0 hx hret hlk (hb hby d1_90) (by decide) (by decide) (by rw [e0]; exact ⟨by rw [show r + 1 = 8 from own_grp h1 h2 ((own_shz d 56 8 (by decide) (by decide)).mp hc85) (Or.inr fun q => hc73 ((own_shz d 49 7 (by decide) (by decide)).mpr q)) (by decide)]; rfl, N0, rfl⟩)
                · skip
                  refine Go.st (S' := T0.setTop (mkF m 91 #[.val (.long d), .second] [])) (fun _ k_ => XS.ifYes X0.here hx rfl (pc0 := 85) (pc' := 91) rfl (hb hby d1_85) rfl ((if0 _ _).trans (feq (fun q => hc85 ((lw_eq ((d.toUInt64 >>> ((56 : Int32) &&& 0x3f).toInt64.toUInt64).toInt64) (0 : Int64)).mp q))).2) (by decide) (by decide) k_) ?_
                  refine Go.st (S' := T0.setTop (mkF m 92 #[.val (.long d), .second] [(.long d)])) (fun _ k_ => XS.lloadN X0.here hx rfl (hb hby d1_91) rfl k_) ?_
                  refine Go.st (S' := T0.setTop (mkF m 94 #[.val (.long d), .second] [(.int (63 : Int32)), (.long d)])) (fun _ k_ => XS.bipush X0.here hx rfl (hb hby d1_92) k_) ?_
                  refine Go.st (S' := T0.setTop (mkF m 95 #[.val (.long d), .second] [(.long ((d.toUInt64 >>> ((63 : Int32) &&& 0x3f).toInt64.toUInt64).toInt64))])) (fun _ k_ => XS.lushr X0.here hx rfl (hb hby d1_94) rfl k_) ?_
                  refine Go.st (S' := T0.setTop (mkF m 96 #[.val (.long d), .second] [(.long (0 : Int64)), (.long ((d.toUInt64 >>> ((63 : Int32) &&& 0x3f).toInt64.toUInt64).toInt64))])) (fun _ k_ => XS.lconst X0.here hx rfl (hb hby d1_95) k_) ?_
                  refine Go.st (S' := T0.setTop (mkF m 97 #[.val (.long d), .second] [(.int (lcmpW ((d.toUInt64 >>> ((63 : Int32) &&& 0x3f).toInt64.toUInt64).toInt64) (0 : Int64)))])) (fun _ k_ => XS.lcmp X0.here hx rfl (hb hby d1_96) rfl k_) ?_
                  by_cases hc97 : ((d.toUInt64 >>> ((63 : Int32) &&& 0x3f).toInt64.toUInt64).toInt64) = (0 : Int64)
                  · skip
                    refine Go.st (S' := T0.setTop (mkF m 100 #[.val (.long d), .second] [])) (fun _ k_ => XS.ifNo X0.here hx rfl (hb hby d1_97) rfl ((if0 _ _).trans (teq ((lw_eq ((d.toUInt64 >>> ((63 : Int32) &&& 0x3f).toInt64.toUInt64).toInt64) (0 : Int64)).mpr hc97)).2) k_) ?_
                    refine Go.st (S' := T0.setTop (mkF m 102 #[.val (.long d), .second] [(.int (9 : Int32))])) (fun _ k_ => XS.bipush X0.here hx rfl (hb hby d1_100) k_) ?_
                    exact Go.retI X0 hx hret hlk (hb hby d1_102) (by decide) (by decide) (by rw [e0]; exact ⟨by rw [show r + 1 = 9 from own_grp h1 h2 ((own_shz d 63 9 (by decide) (by decide)).mp hc97) (Or.inr fun q => hc85 ((own_shz d 56 8 (by decide) (by decide)).mpr q)) (by decide)]; rfl, N0, rfl⟩)
                  · skip
                    refine Go.st (S' := T0.setTop (mkF m 103 #[.val (.long d), .second] [])) (fun _ k_ => XS.ifYes X0.here hx rfl (pc0 := 97) (pc' := 103) rfl (hb hby d1_97) rfl ((if0 _ _).trans (feq (fun q => hc97 ((lw_eq ((d.toUInt64 >>> ((63 : Int32) &&& 0x3f).toInt64.toUInt64).toInt64) (0 : Int64)).mp q))).2) (by decide) (by decide) k_) ?_
                    refine Go.st (S' := T0.setTop (mkF m 105 #[.val (.long d), .second] [(.int (10 : Int32))])) (fun _ k_ => XS.bipush X0.here hx rfl (hb hby d1_103) k_) ?_
                    exact Go.retI X0 hx hret hlk (hb hby d1_105) (by decide) (by decide) (by rw [e0]; exact ⟨by rw [show r + 1 = 10 from own_grp h1 h2 (Nat.lt_trans (own_ult d) (by decide)) (Or.inr fun q => hc97 ((own_shz d 63 9 (by decide) (by decide)).mpr q)) (by decide)]; rfl, N0, rfl⟩)
theorem ef_rm_put (m : MethodId) (x0 : Addr) (x1 : Int32) (x2 : Int64) : entryFrame m #[(.ref x0), (.int x1), (.long x2)] 4 = mkF m 0 #[.val (.ref x0), .val (.int x1), .val (.long x2), .second] [] := by first | (simp [entryFrame, mkF, argsToLocals, Value.category]; done) | rfl
set_option maxRecDepth 65536 in
set_option maxHeartbeats 40000000 in
theorem rm_put (l : Launch) (Z : State) (a0 : Array Value) (hw : ∀ d ∈ tables_1, d.before a0 Z = true) (t : Addr) (n r : Nat) (d : Int64) (xs : List Int32) (h0 : Heap) (n0 : Nat) (Z0 : n0 ≤ h0.size) (A_t : Ai Z h0 t .byte xs) (g_t : n0 ≤ t) (hin : n + r + 1 ≤ xs.length) (hsm : xs.length ≤ 1000) (h1 : r = 0 ∨ 128 ^ r ≤ own_u d) (h2 : own_u d < 128 ^ (r + 1)) :
    Con l Z (⟨"io/tightbits/VarInt", "putGroups", "([BIJ)I"⟩ : MethodName) prog_92_method_19_code 4 (some .int) [] ({ frames := 0, cells := 0, slots := 0, locals := 0 } : Room) #[(.ref t), (.int n.toInt32), (.long d)] h0 (fun v h L => v = some (.int (n + (r + 1)).toInt32) ∧ Fr n0 L ∧ Keep h0 h [t] ∧ ∃ ys, Ai Z h t .byte ys ∧ own_W xs n (own_gb d r) (r + 1) ys) := by
  refine Con.mk (plainFor_of_name pn1) ?_
  intro p e s m below meth c T0 hx hby hml hown hnm hret hlk hZ X0 e0
  have hown : s.vm.findClass "io/tightbits/VarInt" = some m.cls := hown
  have hnm : meth.name = "putGroups" := hnm
  have N0 := Fr.nil n0
  have K0 := Keep.refl h0 [t]
  have loop : ∀ (q : Nat) (u : Nat) (ys : List Int32) (T : State) (locs : List Loc) (hp1 : Heap) (X : Stand p l e ({ frames := 0, cells := 0, slots := 0, locals := 0 } : Room) s m #[(.ref t), (.int n.toInt32), (.long d)] below meth c T locs 0 0) (e1 : T.heap = hp1) (N1 : Fr n0 locs) (Z0 : n0 ≤ hp1.size) (K0 : Keep h0 hp1 [t]) (A_t : Ai Z hp1 t .byte ys) (hm : u + q = r) (hW : own_W xs n (own_gb d r) u ys) (hu : (q = 0 ∨ 128 ^ q ≤ own_u (own_sh d u)) ∧ own_u (own_sh d u) < 128 ^ (q + 1)), Go p e below s ({ frames := 0, cells := 0, slots := 0, locals := 0 } : Room) (fun v h L => v = some (.int (n + (r + 1)).toInt32) ∧ Fr n0 L ∧ Keep h0 h [t] ∧ ∃ ys, Ai Z h t .byte ys ∧ own_W xs n (own_gb d r) (r + 1) ys) (T.setTop (mkF m 0 #[.val (.ref t), .val (.int (n + u).toInt32), .val (.long (own_sh d u)), .second] [])) := by
    intro q
    induction q with
    | zero =>
      intro u ys T locs hp1 X e1 N1 Z0 K0 A_t hm hW hu
      have hmi : u = r := by omega
      refine Go.st (S' := T.setTop (mkF m 1 #[.val (.ref t), .val (.int (n + u).toInt32), .val (.long (own_sh d u)), .second] [(.long (own_sh d u))])) (fun _ k_ => XS.lloadN X.here hx rfl (hb hby d2_0) rfl k_) ?_
      refine Go.st (S' := T.setTop (mkF m 4 #[.val (.ref t), .val (.int (n + u).toInt32), .val (.long (own_sh d u)), .second] [(.long (-128 : Int64)), (.long (own_sh d u))])) (X.ldc2Long hx hown (mvT hZ (w10 hw)) (g := (mkF m 1 #[.val (.ref t), .val (.int (n + u).toInt32), .val (.long (own_sh d u)), .second] [(.long (own_sh d u))])) rfl (hb hby d2_1)) ?_
      refine Go.st (S' := T.setTop (mkF m 5 #[.val (.ref t), .val (.int (n + u).toInt32), .val (.long (own_sh d u)), .second] [(.long ((own_sh d u) &&& (-128 : Int64)))])) (fun _ k_ => XS.land X.here hx rfl (hb hby d2_4) rfl k_) ?_
      refine Go.st (S' := T.setTop (mkF m 6 #[.val (.ref t), .val (.int (n + u).toInt32), .val (.long (own_sh d u)), .second] [(.long (0 : Int64)), (.long ((own_sh d u) &&& (-128 : Int64)))])) (fun _ k_ => XS.lconst X.here hx rfl (hb hby d2_5) k_) ?_
      refine Go.st (S' := T.setTop (mkF m 7 #[.val (.ref t), .val (.int (n + u).toInt32), .val (.long (own_sh d u)), .second] [(.int (lcmpW ((own_sh d u) &&& (-128 : Int64)) (0 : Int64)))])) (fun _ k_ => XS.lcmp X.here hx rfl (hb hby d2_6) rfl k_) ?_
      refine Go.st (S' := T.setTop (mkF m 31 #[.val (.ref t), .val (.int (n + u).toInt32), .val (.long (own_sh d u)), .second] [])) (fun _ k_ => XS.ifYes X.here hx rfl (pc0 := 7) (pc' := 31) rfl (hb hby d2_7) rfl ((if0 _ _).trans (teq ((lw_eq _ _).mpr ((own_low _).mpr (by have := hu.2; simpa using this)))).1) (by decide) (by decide) k_) ?_
      refine Go.st (S' := T.setTop (mkF m 32 #[.val (.ref t), .val (.int (n + u).toInt32), .val (.long (own_sh d u)), .second] [(.ref t)])) (fun _ k_ => XS.aloadN X.here hx rfl (hb hby d2_31) rfl rfl k_) ?_
      refine Go.st (S' := T.setTop (mkF m 33 #[.val (.ref t), .val (.int (n + u).toInt32), .val (.long (own_sh d u)), .second] [(.int (n + u).toInt32), (.ref t)])) (fun _ k_ => XS.iloadN X.here hx rfl (hb hby d2_32) rfl k_) ?_
      refine Go.st (S' := T.setTop (mkF m 36 #[.val (.ref t), .val (.int ((n + u).toInt32 + (1 : Int32))), .val (.long (own_sh d u)), .second] [(.int (n + u).toInt32), (.ref t)])) (fun _ k_ => XS.iinc X.here hx rfl (hb hby d2_33) rfl (l' := #[.val (.ref t), .val (.int ((n + u).toInt32 + (1 : Int32))), .val (.long (own_sh d u)), .second]) rfl k_) ?_
      rw [show ((n + u).toInt32 + (1 : Int32)) = (n + u + 1).toInt32 from own_t1 _]
      refine Go.st (S' := T.setTop (mkF m 37 #[.val (.ref t), .val (.int (n + u + 1).toInt32), .val (.long (own_sh d u)), .second] [(.long (own_sh d u)), (.int (n + u).toInt32), (.ref t)])) (fun _ k_ => XS.lloadN X.here hx rfl (hb hby d2_36) rfl k_) ?_
      refine Go.st (S' := T.setTop (mkF m 38 #[.val (.ref t), .val (.int (n + u + 1).toInt32), .val (.long (own_sh d u)), .second] [(.int ((own_sh d u).toInt32)), (.int (n + u).toInt32), (.ref t)])) (fun _ k_ => XS.l2i X.here hx rfl (hb hby d2_37) rfl k_) ?_
      refine Go.st (S' := T.setTop (mkF m 39 #[.val (.ref t), .val (.int (n + u + 1).toInt32), .val (.long (own_sh d u)), .second] [(.int (((own_sh d u).toInt32).toInt8.toInt32)), (.int (n + u).toInt32), (.ref t)])) (fun _ k_ => XS.i2b X.here hx rfl (hb hby d2_38) rfl k_) ?_
      obtain ⟨T11, h11, X11, e11, W11, A11, st11⟩ := A_t.bstore X hx hZ e1 (j := (n + u).toInt32) (own_tpos (by omega)) (by rw [own_tn (by omega)]; have := hW.1; omega) (g := (mkF m 39 #[.val (.ref t), .val (.int (n + u + 1).toInt32), .val (.long (own_sh d u)), .second] [(.int (((own_sh d u).toInt32).toInt8.toInt32)), (.int (n + u).toInt32), (.ref t)])) rfl rfl (hb hby d2_39)
      replace A_t : Ai Z h11 t .byte (ys.set (n + u) (own_gb d r u)) := (by
        have z := A11
        rw [own_tn (by omega), own_bb] at z
        have e : (((own_sh d u).toInt32).toInt8.toInt32) = own_gb d r u := by rw [own_gb, if_neg (by omega)]
        rw [e] at z; exact z)
      replace Z0 := Nat.le_trans Z0 (Keep.of_wr W11).1
      replace K0 := K0.wr W11 (Or.inl (by simp))
      have N11 := Fr.snoc X11 N1 g_t
      refine Go.st (S' := T11.setTop (mkF m 40 #[.val (.ref t), .val (.int (n + u + 1).toInt32), .val (.long (own_sh d u)), .second] [])) (st11) ?_
      refine Go.st (S' := T11.setTop (mkF m 41 #[.val (.ref t), .val (.int (n + u + 1).toInt32), .val (.long (own_sh d u)), .second] [(.int (n + u + 1).toInt32)])) (fun _ k_ => XS.iloadN X11.here hx rfl (hb hby d2_40) rfl k_) ?_
      exact Go.retI X11 hx hret hlk (hb hby d2_41) (by decide) (by decide) (by rw [e11]; exact ⟨by rw [hmi]; rfl, N11, K0, _, A_t, by have z := hW.step (by omega); rw [hmi] at z ⊢; exact z⟩)
    | succ q ih =>
      intro u ys T locs hp1 X e1 N1 Z0 K0 A_t hm hW hu
      replace hu : 128 ^ (q + 1) ≤ own_u (own_sh d u) ∧ own_u (own_sh d u) < 128 ^ (q + 1 + 1) := ⟨hu.1.resolve_left (by omega), hu.2⟩
      refine Go.st (S' := T.setTop (mkF m 1 #[.val (.ref t), .val (.int (n + u).toInt32), .val (.long (own_sh d u)), .second] [(.long (own_sh d u))])) (fun _ k_ => XS.lloadN X.here hx rfl (hb hby d2_0) rfl k_) ?_
      refine Go.st (S' := T.setTop (mkF m 4 #[.val (.ref t), .val (.int (n + u).toInt32), .val (.long (own_sh d u)), .second] [(.long (-128 : Int64)), (.long (own_sh d u))])) (X.ldc2Long hx hown (mvT hZ (w10 hw)) (g := (mkF m 1 #[.val (.ref t), .val (.int (n + u).toInt32), .val (.long (own_sh d u)), .second] [(.long (own_sh d u))])) rfl (hb hby d2_1)) ?_
      refine Go.st (S' := T.setTop (mkF m 5 #[.val (.ref t), .val (.int (n + u).toInt32), .val (.long (own_sh d u)), .second] [(.long ((own_sh d u) &&& (-128 : Int64)))])) (fun _ k_ => XS.land X.here hx rfl (hb hby d2_4) rfl k_) ?_
      refine Go.st (S' := T.setTop (mkF m 6 #[.val (.ref t), .val (.int (n + u).toInt32), .val (.long (own_sh d u)), .second] [(.long (0 : Int64)), (.long ((own_sh d u) &&& (-128 : Int64)))])) (fun _ k_ => XS.lconst X.here hx rfl (hb hby d2_5) k_) ?_
      refine Go.st (S' := T.setTop (mkF m 7 #[.val (.ref t), .val (.int (n + u).toInt32), .val (.long (own_sh d u)), .second] [(.int (lcmpW ((own_sh d u) &&& (-128 : Int64)) (0 : Int64)))])) (fun _ k_ => XS.lcmp X.here hx rfl (hb hby d2_6) rfl k_) ?_
      refine Go.st (S' := T.setTop (mkF m 10 #[.val (.ref t), .val (.int (n + u).toInt32), .val (.long (own_sh d u)), .second] [])) (fun _ k_ => XS.ifNo X.here hx rfl (hb hby d2_7) rfl ((if0 _ _).trans (feq (fun z => absurd ((own_low _).mp ((lw_eq _ _).mp z)) (by have := hu.1; have p := Nat.pow_le_pow_right (by decide : 0 < 128) (Nat.succ_le_succ (Nat.zero_le q)); omega))).1) k_) ?_
      refine Go.st (S' := T.setTop (mkF m 11 #[.val (.ref t), .val (.int (n + u).toInt32), .val (.long (own_sh d u)), .second] [(.ref t)])) (fun _ k_ => XS.aloadN X.here hx rfl (hb hby d2_10) rfl rfl k_) ?_
      refine Go.st (S' := T.setTop (mkF m 12 #[.val (.ref t), .val (.int (n + u).toInt32), .val (.long (own_sh d u)), .second] [(.int (n + u).toInt32), (.ref t)])) (fun _ k_ => XS.iloadN X.here hx rfl (hb hby d2_11) rfl k_) ?_
      refine Go.st (S' := T.setTop (mkF m 15 #[.val (.ref t), .val (.int ((n + u).toInt32 + (1 : Int32))), .val (.long (own_sh d u)), .second] [(.int (n + u).toInt32), (.ref t)])) (fun _ k_ => XS.iinc X.here hx rfl (hb hby d2_12) rfl (l' := #[.val (.ref t), .val (.int ((n + u).toInt32 + (1 : Int32))), .val (.long (own_sh d u)), .second]) rfl k_) ?_
      rw [show ((n + u).toInt32 + (1 : Int32)) = (n + u + 1).toInt32 from own_t1 _]
      refine Go.st (S' := T.setTop (mkF m 16 #[.val (.ref t), .val (.int (n + u + 1).toInt32), .val (.long (own_sh d u)), .second] [(.long (own_sh d u)), (.int (n + u).toInt32), (.ref t)])) (fun _ k_ => XS.lloadN X.here hx rfl (hb hby d2_15) rfl k_) ?_
      refine Go.st (S' := T.setTop (mkF m 19 #[.val (.ref t), .val (.int (n + u + 1).toInt32), .val (.long (own_sh d u)), .second] [(.long (128 : Int64)), (.long (own_sh d u)), (.int (n + u).toInt32), (.ref t)])) (X.ldc2Long hx hown (mvT hZ (w15 hw)) (g := (mkF m 16 #[.val (.ref t), .val (.int (n + u + 1).toInt32), .val (.long (own_sh d u)), .second] [(.long (own_sh d u)), (.int (n + u).toInt32), (.ref t)])) rfl (hb hby d2_16)) ?_
      refine Go.st (S' := T.setTop (mkF m 20 #[.val (.ref t), .val (.int (n + u + 1).toInt32), .val (.long (own_sh d u)), .second] [(.long ((own_sh d u) ||| (128 : Int64))), (.int (n + u).toInt32), (.ref t)])) (fun _ k_ => XS.lor X.here hx rfl (hb hby d2_19) rfl k_) ?_
      refine Go.st (S' := T.setTop (mkF m 21 #[.val (.ref t), .val (.int (n + u + 1).toInt32), .val (.long (own_sh d u)), .second] [(.int (((own_sh d u) ||| (128 : Int64)).toInt32)), (.int (n + u).toInt32), (.ref t)])) (fun _ k_ => XS.l2i X.here hx rfl (hb hby d2_20) rfl k_) ?_
      refine Go.st (S' := T.setTop (mkF m 22 #[.val (.ref t), .val (.int (n + u + 1).toInt32), .val (.long (own_sh d u)), .second] [(.int ((((own_sh d u) ||| (128 : Int64)).toInt32).toInt8.toInt32)), (.int (n + u).toInt32), (.ref t)])) (fun _ k_ => XS.i2b X.here hx rfl (hb hby d2_21) rfl k_) ?_
      obtain ⟨T12, h12, X12, e12, W12, A12, st12⟩ := A_t.bstore X hx hZ e1 (j := (n + u).toInt32) (own_tpos (by omega)) (by rw [own_tn (by omega)]; have := hW.1; omega) (g := (mkF m 22 #[.val (.ref t), .val (.int (n + u + 1).toInt32), .val (.long (own_sh d u)), .second] [(.int ((((own_sh d u) ||| (128 : Int64)).toInt32).toInt8.toInt32)), (.int (n + u).toInt32), (.ref t)])) rfl rfl (hb hby d2_22)
      replace A_t : Ai Z h12 t .byte (ys.set (n + u) (own_gb d r u)) := (by
        have z := A12
        rw [own_tn (by omega), own_bb] at z
        have e : ((((own_sh d u) ||| (128 : Int64)).toInt32).toInt8.toInt32) = own_gb d r u := by rw [own_gb, if_pos (by omega)]
        rw [e] at z; exact z)
      replace Z0 := Nat.le_trans Z0 (Keep.of_wr W12).1
      replace K0 := K0.wr W12 (Or.inl (by simp))
      have N12 := Fr.snoc X12 N1 g_t
      refine Go.st (S' := T12.setTop (mkF m 23 #[.val (.ref t), .val (.int (n + u + 1).toInt32), .val (.long (own_sh d u)), .second] [])) (st12) ?_
      refine Go.st (S' := T12.setTop (mkF m 24 #[.val (.ref t), .val (.int (n + u + 1).toInt32), .val (.long (own_sh d u)), .second] [(.long (own_sh d u))])) (fun _ k_ => XS.lloadN X12.here hx rfl (hb hby d2_23) rfl k_) ?_
      refine Go.st (S' := T12.setTop (mkF m 26 #[.val (.ref t), .val (.int (n + u + 1).toInt32), .val (.long (own_sh d u)), .second] [(.int (7 : Int32)), (.long (own_sh d u))])) (fun _ k_ => XS.bipush X12.here hx rfl (hb hby d2_24) k_) ?_
      refine Go.st (S' := T12.setTop (mkF m 27 #[.val (.ref t), .val (.int (n + u + 1).toInt32), .val (.long (own_sh d u)), .second] [(.long (((own_sh d u).toUInt64 >>> ((7 : Int32) &&& 0x3f).toInt64.toUInt64).toInt64))])) (fun _ k_ => XS.lushr X12.here hx rfl (hb hby d2_26) rfl k_) ?_
      refine Go.st (S' := T12.setTop (mkF m 28 #[.val (.ref t), .val (.int (n + u + 1).toInt32), .val (.long (((own_sh d u).toUInt64 >>> ((7 : Int32) &&& 0x3f).toInt64.toUInt64).toInt64)), .second] [])) (fun _ k_ => XS.lstoreN X12.here hx rfl (hb hby d2_27) rfl (l' := #[.val (.ref t), .val (.int (n + u + 1).toInt32), .val (.long (((own_sh d u).toUInt64 >>> ((7 : Int32) &&& 0x3f).toInt64.toUInt64).toInt64)), .second]) rfl k_) ?_
      refine Go.st (S' := T12.setTop (mkF m 0 #[.val (.ref t), .val (.int (n + u + 1).toInt32), .val (.long (((own_sh d u).toUInt64 >>> ((7 : Int32) &&& 0x3f).toInt64.toUInt64).toInt64)), .second] [])) (fun _ k_ => XS.goto X12.here hx rfl (pc0 := 28) (pc' := 0) rfl (hb hby d2_28) (by decide) (by decide) k_) ?_
      exact ih (u + 1) _ _ _ _ X12 e12 N12 Z0 K0 A_t (by omega) (hW.step (by omega)) (own_hu hu)
  refine Go.cast (ef_rm_put m t n.toInt32 d) ?_
  exact loop r 0 xs T0 [] h0 X0 e0 N0 Z0 K0 A_t (by omega) (own_W.zero _ _ _) ⟨h1, h2⟩
theorem ef_rm_ok (m : MethodId) (x0 : Addr) (x1 : Int32) (x2 : Int32) (x3 : Int32) (x4 : Int64) (x5 : Int32) : entryFrame m #[(.ref x0), (.int x1), (.int x2), (.int x3), (.long x4), (.int x5)] 10 = mkF m 0 #[.val (.ref x0), .val (.int x1), .val (.int x2), .val (.int x3), .val (.long x4), .second, .val (.int x5), .unset, .unset, .unset] [] := by first | (simp [entryFrame, mkF, argsToLocals, Value.category]; done) | rfl
set_option maxRecDepth 65536 in
set_option maxHeartbeats 40000000 in
theorem rm_ok (l : Launch) (Z : State) (a0 : Array Value) (hw : ∀ d ∈ tables_1, d.before a0 Z = true) (t : Addr) (j at_ sz : Int32) (d : Int64) (f : Int32) (xs : List Int32) (h0 : Heap) (n0 : Nat) (Z0 : n0 ≤ h0.size) (A_t : Ai Z h0 t .byte xs) (hj : ¬ j < 0) (hs : (((j - at_) < (0 : Int32) ∨ ¬ (j - at_) < sz) → xs[j.toNatClampNeg]? = some f) ∧ (¬ (j - at_) < (0 : Int32) → (j - at_) < sz → xs[j.toNatClampNeg]? = some (own_want d (j - at_) sz))) :
    Con l Z (⟨"io/tightbits/VarIntPutGroupsPinLaw", "ok", "([BIIIJB)Z"⟩ : MethodName) method_4_code 10 (some .boolean) [] ({ frames := 0, cells := 0, slots := 0, locals := 0 } : Room) #[(.ref t), (.int j), (.int at_), (.int sz), (.long d), (.int f)] h0 (fun v h L => v = some (.int 1) ∧ Fr n0 L ∧ h = h0) := by
  refine Con.mk (plainFor_of_name pn0) ?_
  intro p e s m below meth c T0 hx hby hml hown hnm hret hlk hZ X0 e0
  have hown : s.vm.findClass "io/tightbits/VarIntPutGroupsPinLaw" = some m.cls := hown
  have hnm : meth.name = "ok" := hnm
  have N0 := Fr.nil n0
  refine Go.cast (ef_rm_ok m t j at_ sz d f) ?_
  refine Go.st (S' := T0.setTop (mkF m 1 #[.val (.ref t), .val (.int j), .val (.int at_), .val (.int sz), .val (.long d), .second, .val (.int f), .unset, .unset, .unset] [(.int j)])) (fun _ k_ => XS.iloadN X0.here hx rfl (hb hby d3_0) rfl k_) ?_
  refine Go.st (S' := T0.setTop (mkF m 2 #[.val (.ref t), .val (.int j), .val (.int at_), .val (.int sz), .val (.long d), .second, .val (.int f), .unset, .unset, .unset] [(.int at_), (.int j)])) (fun _ k_ => XS.iloadN X0.here hx rfl (hb hby d3_1) rfl k_) ?_
  refine Go.st (S' := T0.setTop (mkF m 3 #[.val (.ref t), .val (.int j), .val (.int at_), .val (.int sz), .val (.long d), .second, .val (.int f), .unset, .unset, .unset] [(.int (j - at_))])) (fun _ k_ => XS.isub X0.here hx rfl (hb hby d3_2) rfl k_) ?_
  refine Go.st (S' := T0.setTop (mkF m 5 #[.val (.ref t), .val (.int j), .val (.int at_), .val (.int sz), .val (.long d), .second, .val (.int f), .val (.int (j - at_)), .unset, .unset] [])) (fun _ k_ => XS.istore X0.here hx rfl (hb hby d3_3) rfl (l' := #[.val (.ref t), .val (.int j), .val (.int at_), .val (.int sz), .val (.long d), .second, .val (.int f), .val (.int (j - at_)), .unset, .unset]) rfl k_) ?_
  refine Go.st (S' := T0.setTop (mkF m 7 #[.val (.ref t), .val (.int j), .val (.int at_), .val (.int sz), .val (.long d), .second, .val (.int f), .val (.int (j - at_)), .unset, .unset] [(.int (j - at_))])) (fun _ k_ => XS.iload X0.here hx rfl (hb hby d3_5) rfl k_) ?_
  by_cases hc7 : (j - at_) < (0 : Int32)
  · skip
    refine Go.st (S' := T0.setTop (mkF m 16 #[.val (.ref t), .val (.int j), .val (.int at_), .val (.int sz), .val (.long d), .second, .val (.int f), .val (.int (j - at_)), .unset, .unset] [])) (fun _ k_ => XS.ifYes X0.here hx rfl (pc0 := 7) (pc' := 16) rfl (hb hby d3_7) rfl ((if0 _ _).trans (tlt hc7).1) (by decide) (by decide) k_) ?_
    refine Go.st (S' := T0.setTop (mkF m 17 #[.val (.ref t), .val (.int j), .val (.int at_), .val (.int sz), .val (.long d), .second, .val (.int f), .val (.int (j - at_)), .unset, .unset] [(.ref t)])) (fun _ k_ => XS.aloadN X0.here hx rfl (hb hby d3_16) rfl rfl k_) ?_
    refine Go.st (S' := T0.setTop (mkF m 18 #[.val (.ref t), .val (.int j), .val (.int at_), .val (.int sz), .val (.long d), .second, .val (.int f), .val (.int (j - at_)), .unset, .unset] [(.int j), (.ref t)])) (fun _ k_ => XS.iloadN X0.here hx rfl (hb hby d3_17) rfl k_) ?_
    refine Go.st (S' := T0.setTop (mkF m 19 #[.val (.ref t), .val (.int j), .val (.int at_), .val (.int sz), .val (.long d), .second, .val (.int f), .val (.int (j - at_)), .unset, .unset] [(.int f)])) (A_t.bload X0 hx hZ e0 (j := j) (v := f) hj (hs.1 (Or.inl hc7)) (g := (mkF m 18 #[.val (.ref t), .val (.int j), .val (.int at_), .val (.int sz), .val (.long d), .second, .val (.int f), .val (.int (j - at_)), .unset, .unset] [(.int j), (.ref t)])) rfl rfl (hb hby d3_18)) ?_
    refine Go.st (S' := T0.setTop (mkF m 21 #[.val (.ref t), .val (.int j), .val (.int at_), .val (.int sz), .val (.long d), .second, .val (.int f), .val (.int (j - at_)), .unset, .unset] [(.int f), (.int f)])) (fun _ k_ => XS.iload X0.here hx rfl (hb hby d3_19) rfl k_) ?_
    refine Go.st (S' := T0.setTop (mkF m 24 #[.val (.ref t), .val (.int j), .val (.int at_), .val (.int sz), .val (.long d), .second, .val (.int f), .val (.int (j - at_)), .unset, .unset] [])) (fun _ k_ => XS.icmpNo X0.here hx rfl (hb hby d3_21) rfl (teq (rfl : f = f)).2 k_) ?_
    refine Go.st (S' := T0.setTop (mkF m 25 #[.val (.ref t), .val (.int j), .val (.int at_), .val (.int sz), .val (.long d), .second, .val (.int f), .val (.int (j - at_)), .unset, .unset] [(.int (1 : Int32))])) (fun _ k_ => XS.iconst X0.here hx rfl (hb hby d3_24) k_) ?_
    refine Go.st (S' := T0.setTop (mkF m 29 #[.val (.ref t), .val (.int j), .val (.int at_), .val (.int sz), .val (.long d), .second, .val (.int f), .val (.int (j - at_)), .unset, .unset] [(.int (1 : Int32))])) (fun _ k_ => XS.goto X0.here hx rfl (pc0 := 25) (pc' := 29) rfl (hb hby d3_25) (by decide) (by decide) k_) ?_
    exact Go.retN X0 hx (t := .boolean) hret (by simp) hlk (hb hby d3_29) (by decide) (by decide) (by rw [e0]; exact ⟨rfl, N0, rfl⟩)
  · skip
    refine Go.st (S' := T0.setTop (mkF m 10 #[.val (.ref t), .val (.int j), .val (.int at_), .val (.int sz), .val (.long d), .second, .val (.int f), .val (.int (j - at_)), .unset, .unset] [])) (fun _ k_ => XS.ifNo X0.here hx rfl (hb hby d3_7) rfl ((if0 _ _).trans (flt hc7).1) k_) ?_
    refine Go.st (S' := T0.setTop (mkF m 12 #[.val (.ref t), .val (.int j), .val (.int at_), .val (.int sz), .val (.long d), .second, .val (.int f), .val (.int (j - at_)), .unset, .unset] [(.int (j - at_))])) (fun _ k_ => XS.iload X0.here hx rfl (hb hby d3_10) rfl k_) ?_
    refine Go.st (S' := T0.setTop (mkF m 13 #[.val (.ref t), .val (.int j), .val (.int at_), .val (.int sz), .val (.long d), .second, .val (.int f), .val (.int (j - at_)), .unset, .unset] [(.int sz), (.int (j - at_))])) (fun _ k_ => XS.iloadN X0.here hx rfl (hb hby d3_12) rfl k_) ?_
    by_cases hc13 : (j - at_) < sz
    · skip
      refine Go.st (S' := T0.setTop (mkF m 30 #[.val (.ref t), .val (.int j), .val (.int at_), .val (.int sz), .val (.long d), .second, .val (.int f), .val (.int (j - at_)), .unset, .unset] [])) (fun _ k_ => XS.icmpYes X0.here hx rfl (pc0 := 13) (pc' := 30) rfl (hb hby d3_13) rfl (tlt hc13).1 (by decide) (by decide) k_) ?_
      refine Go.st (S' := T0.setTop (mkF m 32 #[.val (.ref t), .val (.int j), .val (.int at_), .val (.int sz), .val (.long d), .second, .val (.int f), .val (.int (j - at_)), .unset, .unset] [(.long d)])) (fun _ k_ => XS.lload X0.here hx rfl (hb hby d3_30) rfl k_) ?_
      refine Go.st (S' := T0.setTop (mkF m 34 #[.val (.ref t), .val (.int j), .val (.int at_), .val (.int sz), .val (.long d), .second, .val (.int f), .val (.int (j - at_)), .unset, .unset] [(.int (7 : Int32)), (.long d)])) (fun _ k_ => XS.bipush X0.here hx rfl (hb hby d3_32) k_) ?_
      refine Go.st (S' := T0.setTop (mkF m 36 #[.val (.ref t), .val (.int j), .val (.int at_), .val (.int sz), .val (.long d), .second, .val (.int f), .val (.int (j - at_)), .unset, .unset] [(.int (j - at_)), (.int (7 : Int32)), (.long d)])) (fun _ k_ => XS.iload X0.here hx rfl (hb hby d3_34) rfl k_) ?_
      refine Go.st (S' := T0.setTop (mkF m 37 #[.val (.ref t), .val (.int j), .val (.int at_), .val (.int sz), .val (.long d), .second, .val (.int f), .val (.int (j - at_)), .unset, .unset] [(.int ((7 : Int32) * (j - at_))), (.long d)])) (fun _ k_ => XS.imul X0.here hx rfl (hb hby d3_36) rfl k_) ?_
      refine Go.st (S' := T0.setTop (mkF m 38 #[.val (.ref t), .val (.int j), .val (.int at_), .val (.int sz), .val (.long d), .second, .val (.int f), .val (.int (j - at_)), .unset, .unset] [(.long ((d.toUInt64 >>> (((7 : Int32) * (j - at_)) &&& 0x3f).toInt64.toUInt64).toInt64))])) (fun _ k_ => XS.lushr X0.here hx rfl (hb hby d3_37) rfl k_) ?_
      refine Go.st (S' := T0.setTop (mkF m 41 #[.val (.ref t), .val (.int j), .val (.int at_), .val (.int sz), .val (.long d), .second, .val (.int f), .val (.int (j - at_)), .unset, .unset] [(.long (127 : Int64)), (.long ((d.toUInt64 >>> (((7 : Int32) * (j - at_)) &&& 0x3f).toInt64.toUInt64).toInt64))])) (X0.ldc2Long hx hown (mvT hZ (w14 hw)) (g := (mkF m 38 #[.val (.ref t), .val (.int j), .val (.int at_), .val (.int sz), .val (.long d), .second, .val (.int f), .val (.int (j - at_)), .unset, .unset] [(.long ((d.toUInt64 >>> (((7 : Int32) * (j - at_)) &&& 0x3f).toInt64.toUInt64).toInt64))])) rfl (hb hby d3_38)) ?_
      refine Go.st (S' := T0.setTop (mkF m 42 #[.val (.ref t), .val (.int j), .val (.int at_), .val (.int sz), .val (.long d), .second, .val (.int f), .val (.int (j - at_)), .unset, .unset] [(.long (((d.toUInt64 >>> (((7 : Int32) * (j - at_)) &&& 0x3f).toInt64.toUInt64).toInt64) &&& (127 : Int64)))])) (fun _ k_ => XS.land X0.here hx rfl (hb hby d3_41) rfl k_) ?_
      refine Go.st (S' := T0.setTop (mkF m 43 #[.val (.ref t), .val (.int j), .val (.int at_), .val (.int sz), .val (.long d), .second, .val (.int f), .val (.int (j - at_)), .unset, .unset] [(.int ((((d.toUInt64 >>> (((7 : Int32) * (j - at_)) &&& 0x3f).toInt64.toUInt64).toInt64) &&& (127 : Int64)).toInt32))])) (fun _ k_ => XS.l2i X0.here hx rfl (hb hby d3_42) rfl k_) ?_
      refine Go.st (S' := T0.setTop (mkF m 45 #[.val (.ref t), .val (.int j), .val (.int at_), .val (.int sz), .val (.long d), .second, .val (.int f), .val (.int (j - at_)), .val (.int ((((d.toUInt64 >>> (((7 : Int32) * (j - at_)) &&& 0x3f).toInt64.toUInt64).toInt64) &&& (127 : Int64)).toInt32)), .unset] [])) (fun _ k_ => XS.istore X0.here hx rfl (hb hby d3_43) rfl (l' := #[.val (.ref t), .val (.int j), .val (.int at_), .val (.int sz), .val (.long d), .second, .val (.int f), .val (.int (j - at_)), .val (.int ((((d.toUInt64 >>> (((7 : Int32) * (j - at_)) &&& 0x3f).toInt64.toUInt64).toInt64) &&& (127 : Int64)).toInt32)), .unset]) rfl k_) ?_
      refine Go.st (S' := T0.setTop (mkF m 47 #[.val (.ref t), .val (.int j), .val (.int at_), .val (.int sz), .val (.long d), .second, .val (.int f), .val (.int (j - at_)), .val (.int ((((d.toUInt64 >>> (((7 : Int32) * (j - at_)) &&& 0x3f).toInt64.toUInt64).toInt64) &&& (127 : Int64)).toInt32)), .unset] [(.int (j - at_))])) (fun _ k_ => XS.iload X0.here hx rfl (hb hby d3_45) rfl k_) ?_
      refine Go.st (S' := T0.setTop (mkF m 48 #[.val (.ref t), .val (.int j), .val (.int at_), .val (.int sz), .val (.long d), .second, .val (.int f), .val (.int (j - at_)), .val (.int ((((d.toUInt64 >>> (((7 : Int32) * (j - at_)) &&& 0x3f).toInt64.toUInt64).toInt64) &&& (127 : Int64)).toInt32)), .unset] [(.int sz), (.int (j - at_))])) (fun _ k_ => XS.iloadN X0.here hx rfl (hb hby d3_47) rfl k_) ?_
      refine Go.st (S' := T0.setTop (mkF m 49 #[.val (.ref t), .val (.int j), .val (.int at_), .val (.int sz), .val (.long d), .second, .val (.int f), .val (.int (j - at_)), .val (.int ((((d.toUInt64 >>> (((7 : Int32) * (j - at_)) &&& 0x3f).toInt64.toUInt64).toInt64) &&& (127 : Int64)).toInt32)), .unset] [(.int (1 : Int32)), (.int sz), (.int (j - at_))])) (fun _ k_ => XS.iconst X0.here hx rfl (hb hby d3_48) k_) ?_
      refine Go.st (S' := T0.setTop (mkF m 50 #[.val (.ref t), .val (.int j), .val (.int at_), .val (.int sz), .val (.long d), .second, .val (.int f), .val (.int (j - at_)), .val (.int ((((d.toUInt64 >>> (((7 : Int32) * (j - at_)) &&& 0x3f).toInt64.toUInt64).toInt64) &&& (127 : Int64)).toInt32)), .unset] [(.int (sz - (1 : Int32))), (.int (j - at_))])) (fun _ k_ => XS.isub X0.here hx rfl (hb hby d3_49) rfl k_) ?_
      by_cases hc50 : (j - at_) < (sz - (1 : Int32))
      · skip
        refine Go.st (S' := T0.setTop (mkF m 53 #[.val (.ref t), .val (.int j), .val (.int at_), .val (.int sz), .val (.long d), .second, .val (.int f), .val (.int (j - at_)), .val (.int ((((d.toUInt64 >>> (((7 : Int32) * (j - at_)) &&& 0x3f).toInt64.toUInt64).toInt64) &&& (127 : Int64)).toInt32)), .unset] [])) (fun _ k_ => XS.icmpNo X0.here hx rfl (hb hby d3_50) rfl (tlt hc50).2.1 k_) ?_
        refine Go.st (S' := T0.setTop (mkF m 55 #[.val (.ref t), .val (.int j), .val (.int at_), .val (.int sz), .val (.long d), .second, .val (.int f), .val (.int (j - at_)), .val (.int ((((d.toUInt64 >>> (((7 : Int32) * (j - at_)) &&& 0x3f).toInt64.toUInt64).toInt64) &&& (127 : Int64)).toInt32)), .unset] [(.int ((((d.toUInt64 >>> (((7 : Int32) * (j - at_)) &&& 0x3f).toInt64.toUInt64).toInt64) &&& (127 : Int64)).toInt32))])) (fun _ k_ => XS.iload X0.here hx rfl (hb hby d3_53) rfl k_) ?_
        refine Go.st (S' := T0.setTop (mkF m 58 #[.val (.ref t), .val (.int j), .val (.int at_), .val (.int sz), .val (.long d), .second, .val (.int f), .val (.int (j - at_)), .val (.int ((((d.toUInt64 >>> (((7 : Int32) * (j - at_)) &&& 0x3f).toInt64.toUInt64).toInt64) &&& (127 : Int64)).toInt32)), .unset] [(.int (128 : Int32)), (.int ((((d.toUInt64 >>> (((7 : Int32) * (j - at_)) &&& 0x3f).toInt64.toUInt64).toInt64) &&& (127 : Int64)).toInt32))])) (fun _ k_ => XS.sipush X0.here hx rfl (hb hby d3_55) k_) ?_
        refine Go.st (S' := T0.setTop (mkF m 59 #[.val (.ref t), .val (.int j), .val (.int at_), .val (.int sz), .val (.long d), .second, .val (.int f), .val (.int (j - at_)), .val (.int ((((d.toUInt64 >>> (((7 : Int32) * (j - at_)) &&& 0x3f).toInt64.toUInt64).toInt64) &&& (127 : Int64)).toInt32)), .unset] [(.int (((((d.toUInt64 >>> (((7 : Int32) * (j - at_)) &&& 0x3f).toInt64.toUInt64).toInt64) &&& (127 : Int64)).toInt32) ||| (128 : Int32)))])) (fun _ k_ => XS.ior X0.here hx rfl (hb hby d3_58) rfl k_) ?_
        refine Go.st (S' := T0.setTop (mkF m 64 #[.val (.ref t), .val (.int j), .val (.int at_), .val (.int sz), .val (.long d), .second, .val (.int f), .val (.int (j - at_)), .val (.int ((((d.toUInt64 >>> (((7 : Int32) * (j - at_)) &&& 0x3f).toInt64.toUInt64).toInt64) &&& (127 : Int64)).toInt32)), .unset] [(.int (((((d.toUInt64 >>> (((7 : Int32) * (j - at_)) &&& 0x3f).toInt64.toUInt64).toInt64) &&& (127 : Int64)).toInt32) ||| (128 : Int32)))])) (fun _ k_ => XS.goto X0.here hx rfl (pc0 := 59) (pc' := 64) rfl (hb hby d3_59) (by decide) (by decide) k_) ?_
        refine Go.st (S' := T0.setTop (mkF m 66 #[.val (.ref t), .val (.int j), .val (.int at_), .val (.int sz), .val (.long d), .second, .val (.int f), .val (.int (j - at_)), .val (.int ((((d.toUInt64 >>> (((7 : Int32) * (j - at_)) &&& 0x3f).toInt64.toUInt64).toInt64) &&& (127 : Int64)).toInt32)), .val (.int (((((d.toUInt64 >>> (((7 : Int32) * (j - at_)) &&& 0x3f).toInt64.toUInt64).toInt64) &&& (127 : Int64)).toInt32) ||| (128 : Int32)))] [])) (fun _ k_ => XS.istore X0.here hx rfl (hb hby d3_64) rfl (l' := #[.val (.ref t), .val (.int j), .val (.int at_), .val (.int sz), .val (.long d), .second, .val (.int f), .val (.int (j - at_)), .val (.int ((((d.toUInt64 >>> (((7 : Int32) * (j - at_)) &&& 0x3f).toInt64.toUInt64).toInt64) &&& (127 : Int64)).toInt32)), .val (.int (((((d.toUInt64 >>> (((7 : Int32) * (j - at_)) &&& 0x3f).toInt64.toUInt64).toInt64) &&& (127 : Int64)).toInt32) ||| (128 : Int32)))]) rfl k_) ?_
        refine Go.st (S' := T0.setTop (mkF m 67 #[.val (.ref t), .val (.int j), .val (.int at_), .val (.int sz), .val (.long d), .second, .val (.int f), .val (.int (j - at_)), .val (.int ((((d.toUInt64 >>> (((7 : Int32) * (j - at_)) &&& 0x3f).toInt64.toUInt64).toInt64) &&& (127 : Int64)).toInt32)), .val (.int (((((d.toUInt64 >>> (((7 : Int32) * (j - at_)) &&& 0x3f).toInt64.toUInt64).toInt64) &&& (127 : Int64)).toInt32) ||| (128 : Int32)))] [(.ref t)])) (fun _ k_ => XS.aloadN X0.here hx rfl (hb hby d3_66) rfl rfl k_) ?_
        refine Go.st (S' := T0.setTop (mkF m 68 #[.val (.ref t), .val (.int j), .val (.int at_), .val (.int sz), .val (.long d), .second, .val (.int f), .val (.int (j - at_)), .val (.int ((((d.toUInt64 >>> (((7 : Int32) * (j - at_)) &&& 0x3f).toInt64.toUInt64).toInt64) &&& (127 : Int64)).toInt32)), .val (.int (((((d.toUInt64 >>> (((7 : Int32) * (j - at_)) &&& 0x3f).toInt64.toUInt64).toInt64) &&& (127 : Int64)).toInt32) ||| (128 : Int32)))] [(.int j), (.ref t)])) (fun _ k_ => XS.iloadN X0.here hx rfl (hb hby d3_67) rfl k_) ?_
        refine Go.st (S' := T0.setTop (mkF m 69 #[.val (.ref t), .val (.int j), .val (.int at_), .val (.int sz), .val (.long d), .second, .val (.int f), .val (.int (j - at_)), .val (.int ((((d.toUInt64 >>> (((7 : Int32) * (j - at_)) &&& 0x3f).toInt64.toUInt64).toInt64) &&& (127 : Int64)).toInt32)), .val (.int (((((d.toUInt64 >>> (((7 : Int32) * (j - at_)) &&& 0x3f).toInt64.toUInt64).toInt64) &&& (127 : Int64)).toInt32) ||| (128 : Int32)))] [(.int (own_want d (j - at_) sz))])) (A_t.bload X0 hx hZ e0 (j := j) (v := (own_want d (j - at_) sz)) hj (hs.2 hc7 hc13) (g := (mkF m 68 #[.val (.ref t), .val (.int j), .val (.int at_), .val (.int sz), .val (.long d), .second, .val (.int f), .val (.int (j - at_)), .val (.int ((((d.toUInt64 >>> (((7 : Int32) * (j - at_)) &&& 0x3f).toInt64.toUInt64).toInt64) &&& (127 : Int64)).toInt32)), .val (.int (((((d.toUInt64 >>> (((7 : Int32) * (j - at_)) &&& 0x3f).toInt64.toUInt64).toInt64) &&& (127 : Int64)).toInt32) ||| (128 : Int32)))] [(.int j), (.ref t)])) rfl rfl (hb hby d3_68)) ?_
        refine Go.st (S' := T0.setTop (mkF m 71 #[.val (.ref t), .val (.int j), .val (.int at_), .val (.int sz), .val (.long d), .second, .val (.int f), .val (.int (j - at_)), .val (.int ((((d.toUInt64 >>> (((7 : Int32) * (j - at_)) &&& 0x3f).toInt64.toUInt64).toInt64) &&& (127 : Int64)).toInt32)), .val (.int (((((d.toUInt64 >>> (((7 : Int32) * (j - at_)) &&& 0x3f).toInt64.toUInt64).toInt64) &&& (127 : Int64)).toInt32) ||| (128 : Int32)))] [(.int (((((d.toUInt64 >>> (((7 : Int32) * (j - at_)) &&& 0x3f).toInt64.toUInt64).toInt64) &&& (127 : Int64)).toInt32) ||| (128 : Int32))), (.int (own_want d (j - at_) sz))])) (fun _ k_ => XS.iload X0.here hx rfl (hb hby d3_69) rfl k_) ?_
        refine Go.st (S' := T0.setTop (mkF m 72 #[.val (.ref t), .val (.int j), .val (.int at_), .val (.int sz), .val (.long d), .second, .val (.int f), .val (.int (j - at_)), .val (.int ((((d.toUInt64 >>> (((7 : Int32) * (j - at_)) &&& 0x3f).toInt64.toUInt64).toInt64) &&& (127 : Int64)).toInt32)), .val (.int (((((d.toUInt64 >>> (((7 : Int32) * (j - at_)) &&& 0x3f).toInt64.toUInt64).toInt64) &&& (127 : Int64)).toInt32) ||| (128 : Int32)))] [(.int ((((((d.toUInt64 >>> (((7 : Int32) * (j - at_)) &&& 0x3f).toInt64.toUInt64).toInt64) &&& (127 : Int64)).toInt32) ||| (128 : Int32)).toInt8.toInt32)), (.int (own_want d (j - at_) sz))])) (fun _ k_ => XS.i2b X0.here hx rfl (hb hby d3_71) rfl k_) ?_
        refine Go.st (S' := T0.setTop (mkF m 75 #[.val (.ref t), .val (.int j), .val (.int at_), .val (.int sz), .val (.long d), .second, .val (.int f), .val (.int (j - at_)), .val (.int ((((d.toUInt64 >>> (((7 : Int32) * (j - at_)) &&& 0x3f).toInt64.toUInt64).toInt64) &&& (127 : Int64)).toInt32)), .val (.int (((((d.toUInt64 >>> (((7 : Int32) * (j - at_)) &&& 0x3f).toInt64.toUInt64).toInt64) &&& (127 : Int64)).toInt32) ||| (128 : Int32)))] [])) (fun _ k_ => XS.icmpNo X0.here hx rfl (hb hby d3_72) rfl (teq ((by rw [own_want, if_pos hc50]; rfl))).2 k_) ?_
        refine Go.st (S' := T0.setTop (mkF m 76 #[.val (.ref t), .val (.int j), .val (.int at_), .val (.int sz), .val (.long d), .second, .val (.int f), .val (.int (j - at_)), .val (.int ((((d.toUInt64 >>> (((7 : Int32) * (j - at_)) &&& 0x3f).toInt64.toUInt64).toInt64) &&& (127 : Int64)).toInt32)), .val (.int (((((d.toUInt64 >>> (((7 : Int32) * (j - at_)) &&& 0x3f).toInt64.toUInt64).toInt64) &&& (127 : Int64)).toInt32) ||| (128 : Int32)))] [(.int (1 : Int32))])) (fun _ k_ => XS.iconst X0.here hx rfl (hb hby d3_75) k_) ?_
        refine Go.st (S' := T0.setTop (mkF m 80 #[.val (.ref t), .val (.int j), .val (.int at_), .val (.int sz), .val (.long d), .second, .val (.int f), .val (.int (j - at_)), .val (.int ((((d.toUInt64 >>> (((7 : Int32) * (j - at_)) &&& 0x3f).toInt64.toUInt64).toInt64) &&& (127 : Int64)).toInt32)), .val (.int (((((d.toUInt64 >>> (((7 : Int32) * (j - at_)) &&& 0x3f).toInt64.toUInt64).toInt64) &&& (127 : Int64)).toInt32) ||| (128 : Int32)))] [(.int (1 : Int32))])) (fun _ k_ => XS.goto X0.here hx rfl (pc0 := 76) (pc' := 80) rfl (hb hby d3_76) (by decide) (by decide) k_) ?_
        exact Go.retN X0 hx (t := .boolean) hret (by simp) hlk (hb hby d3_80) (by decide) (by decide) (by rw [e0]; exact ⟨rfl, N0, rfl⟩)
      · skip
        refine Go.st (S' := T0.setTop (mkF m 62 #[.val (.ref t), .val (.int j), .val (.int at_), .val (.int sz), .val (.long d), .second, .val (.int f), .val (.int (j - at_)), .val (.int ((((d.toUInt64 >>> (((7 : Int32) * (j - at_)) &&& 0x3f).toInt64.toUInt64).toInt64) &&& (127 : Int64)).toInt32)), .unset] [])) (fun _ k_ => XS.icmpYes X0.here hx rfl (pc0 := 50) (pc' := 62) rfl (hb hby d3_50) rfl (flt hc50).2.1 (by decide) (by decide) k_) ?_
        refine Go.st (S' := T0.setTop (mkF m 64 #[.val (.ref t), .val (.int j), .val (.int at_), .val (.int sz), .val (.long d), .second, .val (.int f), .val (.int (j - at_)), .val (.int ((((d.toUInt64 >>> (((7 : Int32) * (j - at_)) &&& 0x3f).toInt64.toUInt64).toInt64) &&& (127 : Int64)).toInt32)), .unset] [(.int ((((d.toUInt64 >>> (((7 : Int32) * (j - at_)) &&& 0x3f).toInt64.toUInt64).toInt64) &&& (127 : Int64)).toInt32))])) (fun _ k_ => XS.iload X0.here hx rfl (hb hby d3_62) rfl k_) ?_
        refine Go.st (S' := T0.setTop (mkF m 66 #[.val (.ref t), .val (.int j), .val (.int at_), .val (.int sz), .val (.long d), .second, .val (.int f), .val (.int (j - at_)), .val (.int ((((d.toUInt64 >>> (((7 : Int32) * (j - at_)) &&& 0x3f).toInt64.toUInt64).toInt64) &&& (127 : Int64)).toInt32)), .val (.int ((((d.toUInt64 >>> (((7 : Int32) * (j - at_)) &&& 0x3f).toInt64.toUInt64).toInt64) &&& (127 : Int64)).toInt32))] [])) (fun _ k_ => XS.istore X0.here hx rfl (hb hby d3_64) rfl (l' := #[.val (.ref t), .val (.int j), .val (.int at_), .val (.int sz), .val (.long d), .second, .val (.int f), .val (.int (j - at_)), .val (.int ((((d.toUInt64 >>> (((7 : Int32) * (j - at_)) &&& 0x3f).toInt64.toUInt64).toInt64) &&& (127 : Int64)).toInt32)), .val (.int ((((d.toUInt64 >>> (((7 : Int32) * (j - at_)) &&& 0x3f).toInt64.toUInt64).toInt64) &&& (127 : Int64)).toInt32))]) rfl k_) ?_
        refine Go.st (S' := T0.setTop (mkF m 67 #[.val (.ref t), .val (.int j), .val (.int at_), .val (.int sz), .val (.long d), .second, .val (.int f), .val (.int (j - at_)), .val (.int ((((d.toUInt64 >>> (((7 : Int32) * (j - at_)) &&& 0x3f).toInt64.toUInt64).toInt64) &&& (127 : Int64)).toInt32)), .val (.int ((((d.toUInt64 >>> (((7 : Int32) * (j - at_)) &&& 0x3f).toInt64.toUInt64).toInt64) &&& (127 : Int64)).toInt32))] [(.ref t)])) (fun _ k_ => XS.aloadN X0.here hx rfl (hb hby d3_66) rfl rfl k_) ?_
        refine Go.st (S' := T0.setTop (mkF m 68 #[.val (.ref t), .val (.int j), .val (.int at_), .val (.int sz), .val (.long d), .second, .val (.int f), .val (.int (j - at_)), .val (.int ((((d.toUInt64 >>> (((7 : Int32) * (j - at_)) &&& 0x3f).toInt64.toUInt64).toInt64) &&& (127 : Int64)).toInt32)), .val (.int ((((d.toUInt64 >>> (((7 : Int32) * (j - at_)) &&& 0x3f).toInt64.toUInt64).toInt64) &&& (127 : Int64)).toInt32))] [(.int j), (.ref t)])) (fun _ k_ => XS.iloadN X0.here hx rfl (hb hby d3_67) rfl k_) ?_
        refine Go.st (S' := T0.setTop (mkF m 69 #[.val (.ref t), .val (.int j), .val (.int at_), .val (.int sz), .val (.long d), .second, .val (.int f), .val (.int (j - at_)), .val (.int ((((d.toUInt64 >>> (((7 : Int32) * (j - at_)) &&& 0x3f).toInt64.toUInt64).toInt64) &&& (127 : Int64)).toInt32)), .val (.int ((((d.toUInt64 >>> (((7 : Int32) * (j - at_)) &&& 0x3f).toInt64.toUInt64).toInt64) &&& (127 : Int64)).toInt32))] [(.int (own_want d (j - at_) sz))])) (A_t.bload X0 hx hZ e0 (j := j) (v := (own_want d (j - at_) sz)) hj (hs.2 hc7 hc13) (g := (mkF m 68 #[.val (.ref t), .val (.int j), .val (.int at_), .val (.int sz), .val (.long d), .second, .val (.int f), .val (.int (j - at_)), .val (.int ((((d.toUInt64 >>> (((7 : Int32) * (j - at_)) &&& 0x3f).toInt64.toUInt64).toInt64) &&& (127 : Int64)).toInt32)), .val (.int ((((d.toUInt64 >>> (((7 : Int32) * (j - at_)) &&& 0x3f).toInt64.toUInt64).toInt64) &&& (127 : Int64)).toInt32))] [(.int j), (.ref t)])) rfl rfl (hb hby d3_68)) ?_
        refine Go.st (S' := T0.setTop (mkF m 71 #[.val (.ref t), .val (.int j), .val (.int at_), .val (.int sz), .val (.long d), .second, .val (.int f), .val (.int (j - at_)), .val (.int ((((d.toUInt64 >>> (((7 : Int32) * (j - at_)) &&& 0x3f).toInt64.toUInt64).toInt64) &&& (127 : Int64)).toInt32)), .val (.int ((((d.toUInt64 >>> (((7 : Int32) * (j - at_)) &&& 0x3f).toInt64.toUInt64).toInt64) &&& (127 : Int64)).toInt32))] [(.int ((((d.toUInt64 >>> (((7 : Int32) * (j - at_)) &&& 0x3f).toInt64.toUInt64).toInt64) &&& (127 : Int64)).toInt32)), (.int (own_want d (j - at_) sz))])) (fun _ k_ => XS.iload X0.here hx rfl (hb hby d3_69) rfl k_) ?_
        refine Go.st (S' := T0.setTop (mkF m 72 #[.val (.ref t), .val (.int j), .val (.int at_), .val (.int sz), .val (.long d), .second, .val (.int f), .val (.int (j - at_)), .val (.int ((((d.toUInt64 >>> (((7 : Int32) * (j - at_)) &&& 0x3f).toInt64.toUInt64).toInt64) &&& (127 : Int64)).toInt32)), .val (.int ((((d.toUInt64 >>> (((7 : Int32) * (j - at_)) &&& 0x3f).toInt64.toUInt64).toInt64) &&& (127 : Int64)).toInt32))] [(.int (((((d.toUInt64 >>> (((7 : Int32) * (j - at_)) &&& 0x3f).toInt64.toUInt64).toInt64) &&& (127 : Int64)).toInt32).toInt8.toInt32)), (.int (own_want d (j - at_) sz))])) (fun _ k_ => XS.i2b X0.here hx rfl (hb hby d3_71) rfl k_) ?_
        refine Go.st (S' := T0.setTop (mkF m 75 #[.val (.ref t), .val (.int j), .val (.int at_), .val (.int sz), .val (.long d), .second, .val (.int f), .val (.int (j - at_)), .val (.int ((((d.toUInt64 >>> (((7 : Int32) * (j - at_)) &&& 0x3f).toInt64.toUInt64).toInt64) &&& (127 : Int64)).toInt32)), .val (.int ((((d.toUInt64 >>> (((7 : Int32) * (j - at_)) &&& 0x3f).toInt64.toUInt64).toInt64) &&& (127 : Int64)).toInt32))] [])) (fun _ k_ => XS.icmpNo X0.here hx rfl (hb hby d3_72) rfl (teq ((by rw [own_want, if_neg hc50]; rfl))).2 k_) ?_
        refine Go.st (S' := T0.setTop (mkF m 76 #[.val (.ref t), .val (.int j), .val (.int at_), .val (.int sz), .val (.long d), .second, .val (.int f), .val (.int (j - at_)), .val (.int ((((d.toUInt64 >>> (((7 : Int32) * (j - at_)) &&& 0x3f).toInt64.toUInt64).toInt64) &&& (127 : Int64)).toInt32)), .val (.int ((((d.toUInt64 >>> (((7 : Int32) * (j - at_)) &&& 0x3f).toInt64.toUInt64).toInt64) &&& (127 : Int64)).toInt32))] [(.int (1 : Int32))])) (fun _ k_ => XS.iconst X0.here hx rfl (hb hby d3_75) k_) ?_
        refine Go.st (S' := T0.setTop (mkF m 80 #[.val (.ref t), .val (.int j), .val (.int at_), .val (.int sz), .val (.long d), .second, .val (.int f), .val (.int (j - at_)), .val (.int ((((d.toUInt64 >>> (((7 : Int32) * (j - at_)) &&& 0x3f).toInt64.toUInt64).toInt64) &&& (127 : Int64)).toInt32)), .val (.int ((((d.toUInt64 >>> (((7 : Int32) * (j - at_)) &&& 0x3f).toInt64.toUInt64).toInt64) &&& (127 : Int64)).toInt32))] [(.int (1 : Int32))])) (fun _ k_ => XS.goto X0.here hx rfl (pc0 := 76) (pc' := 80) rfl (hb hby d3_76) (by decide) (by decide) k_) ?_
        exact Go.retN X0 hx (t := .boolean) hret (by simp) hlk (hb hby d3_80) (by decide) (by decide) (by rw [e0]; exact ⟨rfl, N0, rfl⟩)
    · skip
      refine Go.st (S' := T0.setTop (mkF m 16 #[.val (.ref t), .val (.int j), .val (.int at_), .val (.int sz), .val (.long d), .second, .val (.int f), .val (.int (j - at_)), .unset, .unset] [])) (fun _ k_ => XS.icmpNo X0.here hx rfl (hb hby d3_13) rfl (flt hc13).1 k_) ?_
      refine Go.st (S' := T0.setTop (mkF m 17 #[.val (.ref t), .val (.int j), .val (.int at_), .val (.int sz), .val (.long d), .second, .val (.int f), .val (.int (j - at_)), .unset, .unset] [(.ref t)])) (fun _ k_ => XS.aloadN X0.here hx rfl (hb hby d3_16) rfl rfl k_) ?_
      refine Go.st (S' := T0.setTop (mkF m 18 #[.val (.ref t), .val (.int j), .val (.int at_), .val (.int sz), .val (.long d), .second, .val (.int f), .val (.int (j - at_)), .unset, .unset] [(.int j), (.ref t)])) (fun _ k_ => XS.iloadN X0.here hx rfl (hb hby d3_17) rfl k_) ?_
      refine Go.st (S' := T0.setTop (mkF m 19 #[.val (.ref t), .val (.int j), .val (.int at_), .val (.int sz), .val (.long d), .second, .val (.int f), .val (.int (j - at_)), .unset, .unset] [(.int f)])) (A_t.bload X0 hx hZ e0 (j := j) (v := f) hj (hs.1 (Or.inr hc13)) (g := (mkF m 18 #[.val (.ref t), .val (.int j), .val (.int at_), .val (.int sz), .val (.long d), .second, .val (.int f), .val (.int (j - at_)), .unset, .unset] [(.int j), (.ref t)])) rfl rfl (hb hby d3_18)) ?_
      refine Go.st (S' := T0.setTop (mkF m 21 #[.val (.ref t), .val (.int j), .val (.int at_), .val (.int sz), .val (.long d), .second, .val (.int f), .val (.int (j - at_)), .unset, .unset] [(.int f), (.int f)])) (fun _ k_ => XS.iload X0.here hx rfl (hb hby d3_19) rfl k_) ?_
      refine Go.st (S' := T0.setTop (mkF m 24 #[.val (.ref t), .val (.int j), .val (.int at_), .val (.int sz), .val (.long d), .second, .val (.int f), .val (.int (j - at_)), .unset, .unset] [])) (fun _ k_ => XS.icmpNo X0.here hx rfl (hb hby d3_21) rfl (teq (rfl : f = f)).2 k_) ?_
      refine Go.st (S' := T0.setTop (mkF m 25 #[.val (.ref t), .val (.int j), .val (.int at_), .val (.int sz), .val (.long d), .second, .val (.int f), .val (.int (j - at_)), .unset, .unset] [(.int (1 : Int32))])) (fun _ k_ => XS.iconst X0.here hx rfl (hb hby d3_24) k_) ?_
      refine Go.st (S' := T0.setTop (mkF m 29 #[.val (.ref t), .val (.int j), .val (.int at_), .val (.int sz), .val (.long d), .second, .val (.int f), .val (.int (j - at_)), .unset, .unset] [(.int (1 : Int32))])) (fun _ k_ => XS.goto X0.here hx rfl (pc0 := 25) (pc' := 29) rfl (hb hby d3_25) (by decide) (by decide) k_) ?_
      exact Go.retN X0 hx (t := .boolean) hret (by simp) hlk (hb hby d3_29) (by decide) (by decide) (by rw [e0]; exact ⟨rfl, N0, rfl⟩)
theorem ef_rm0 (m : MethodId) (x0 : Int64) (x1 : Int32) (x2 : Int32) (x3 : Int32) : entryFrame m #[(.long x0), (.int x1), (.int x2), (.int x3)] maxLocals = mkF m 0 #[.val (.long x0), .second, .val (.int x1), .val (.int x2), .val (.int x3), .unset, .unset, .unset, .unset, .unset, .unset, .unset] [] := by first | (simp [entryFrame, mkF, argsToLocals, Value.category, maxLocals]; done) | rfl
set_option maxRecDepth 65536 in
set_option maxHeartbeats 40000000 in
theorem rm0 (l : Launch) (Z : State) (a0 : Array Value) (hw : ∀ d ∈ tables_1, d.before a0 Z = true) (ws : List Jvm.Cond) (q0 : Int64) (p1 : Int32) (p2 : Int32) (p3 : Int32) (h0 : Heap) (n0 : Nat) (Z0 : n0 ≤ h0.size) :
    Con l Z x code maxLocals ret ws room_1 #[(.long q0), (.int p1), (.int p2), (.int p3)] h0 (fun v h L => v = some (.int 1) ∧ Fr n0 L) := by
  refine Con.mk (plainFor_of_name pn0) ?_
  intro p e s m below meth c T0 hx hby hml hown hnm hret hlk hZ X0 e0
  have hret : meth.sig.returnType = some .boolean := hret
  have hml : c.maxLocals = 12 := hml
  have hown : s.vm.findClass "io/tightbits/VarIntPutGroupsPinLaw" = some m.cls := hown
  have hby : c.code = code := hby
  have N0 := Fr.nil n0
  refine Go.cast (ef_rm0 m q0 p1 p2 p3) ?_
  refine Go.st (S' := T0.setTop (mkF m 1 #[.val (.long q0), .second, .val (.int p1), .val (.int p2), .val (.int p3), .unset, .unset, .unset, .unset, .unset, .unset, .unset] [(.long q0)])) (fun _ k_ => XS.lloadN X0.here hx rfl (hb hby at_0) rfl k_) ?_
  refine Go.st (S' := T0.setTop (mkF m 2 #[.val (.long q0), .second, .val (.int p1), .val (.int p2), .val (.int p3), .unset, .unset, .unset, .unset, .unset, .unset, .unset] [(.int p1), (.long q0)])) (fun _ k_ => XS.iloadN X0.here hx rfl (hb hby at_1) rfl k_) ?_
  refine Go.st (S' := T0.setTop (mkF m 4 #[.val (.long q0), .second, .val (.int p1), .val (.int p2), .val (.int p3), .unset, .unset, .unset, .unset, .unset, .unset, .unset] [(.int (63 : Int32)), (.int p1), (.long q0)])) (fun _ k_ => XS.bipush X0.here hx rfl (hb hby at_2) k_) ?_
  refine Go.st (S' := T0.setTop (mkF m 5 #[.val (.long q0), .second, .val (.int p1), .val (.int p2), .val (.int p3), .unset, .unset, .unset, .unset, .unset, .unset, .unset] [(.int (p1 &&& (63 : Int32))), (.long q0)])) (fun _ k_ => XS.iand X0.here hx rfl (hb hby at_4) rfl k_) ?_
  refine Go.st (S' := T0.setTop (mkF m 6 #[.val (.long q0), .second, .val (.int p1), .val (.int p2), .val (.int p3), .unset, .unset, .unset, .unset, .unset, .unset, .unset] [(.long ((q0.toUInt64 >>> ((p1 &&& (63 : Int32)) &&& 0x3f).toInt64.toUInt64).toInt64))])) (fun _ k_ => XS.lushr X0.here hx rfl (hb hby at_5) rfl k_) ?_
  obtain ⟨d, q_d⟩ : ∃ z : Int64, z = ((q0.toUInt64 >>> ((p1 &&& (63 : Int32)) &&& 0x3f).toInt64.toUInt64).toInt64) := ⟨_, rfl⟩
  rw [← q_d]
  obtain ⟨r, r9, hh1, hh2⟩ := own_exr (own_u d) (own_ult d)
  refine Go.st (S' := T0.setTop (mkF m 8 #[.val (.long q0), .second, .val (.int p1), .val (.int p2), .val (.int p3), .val (.long d), .second, .unset, .unset, .unset, .unset, .unset] [])) (fun _ k_ => XS.lstore X0.here hx rfl (hb hby at_6) rfl (l' := #[.val (.long q0), .second, .val (.int p1), .val (.int p2), .val (.int p3), .val (.long d), .second, .unset, .unset, .unset, .unset, .unset]) rfl k_) ?_
  refine Go.st (S' := T0.setTop (mkF m 9 #[.val (.long q0), .second, .val (.int p1), .val (.int p2), .val (.int p3), .val (.long d), .second, .unset, .unset, .unset, .unset, .unset] [(.int p2)])) (fun _ k_ => XS.iloadN X0.here hx rfl (hb hby at_8) rfl k_) ?_
  refine Go.st (S' := T0.setTop (mkF m 11 #[.val (.long q0), .second, .val (.int p1), .val (.int p2), .val (.int p3), .val (.long d), .second, .unset, .unset, .unset, .unset, .unset] [(.int (2147483647 : Int32)), (.int p2)])) (X0.ldcInt hx hown (mvT hZ (w0 hw)) (g := (mkF m 9 #[.val (.long q0), .second, .val (.int p1), .val (.int p2), .val (.int p3), .val (.long d), .second, .unset, .unset, .unset, .unset, .unset] [(.int p2)])) rfl (hb hby at_9)) ?_
  refine Go.st (S' := T0.setTop (mkF m 12 #[.val (.long q0), .second, .val (.int p1), .val (.int p2), .val (.int p3), .val (.long d), .second, .unset, .unset, .unset, .unset, .unset] [(.int (p2 &&& (2147483647 : Int32)))])) (fun _ k_ => XS.iand X0.here hx rfl (hb hby at_11) rfl k_) ?_
  refine Go.st (S' := T0.setTop (mkF m 13 #[.val (.long q0), .second, .val (.int p1), .val (.int p2), .val (.int p3), .val (.long d), .second, .unset, .unset, .unset, .unset, .unset] [(.int (3 : Int32)), (.int (p2 &&& (2147483647 : Int32)))])) (fun _ k_ => XS.iconst X0.here hx rfl (hb hby at_12) k_) ?_
  refine Go.st (S' := T0.setTop (mkF m 14 #[.val (.long q0), .second, .val (.int p1), .val (.int p2), .val (.int p3), .val (.long d), .second, .unset, .unset, .unset, .unset, .unset] [(.int ((p2 &&& (2147483647 : Int32)) % (3 : Int32)))])) (fun _ k_ => iremM X0 hx rfl (hb hby at_13) rfl (by decide) k_) ?_
  have r1 := own_mod p2 3 (by decide)
  rw [show (3 : Int32).toInt = 3 from rfl] at r1
  obtain ⟨n, q_n, r1n⟩ := own_natI r1.1
  rw [q_n]
  refine Go.st (S' := T0.setTop (mkF m 16 #[.val (.long q0), .second, .val (.int p1), .val (.int p2), .val (.int p3), .val (.long d), .second, .val (.int n.toInt32), .unset, .unset, .unset, .unset] [])) (fun _ k_ => XS.istore X0.here hx rfl (hb hby at_14) rfl (l' := #[.val (.long q0), .second, .val (.int p1), .val (.int p2), .val (.int p3), .val (.long d), .second, .val (.int n.toInt32), .unset, .unset, .unset, .unset]) rfl k_) ?_
  refine Go.st (S' := T0.setTop (mkF m 18 #[.val (.long q0), .second, .val (.int p1), .val (.int p2), .val (.int p3), .val (.long d), .second, .val (.int n.toInt32), .unset, .unset, .unset, .unset] [(.int p3)])) (fun _ k_ => XS.iload X0.here hx rfl (hb hby at_16) rfl k_) ?_
  refine Go.st (S' := T0.setTop (mkF m 19 #[.val (.long q0), .second, .val (.int p1), .val (.int p2), .val (.int p3), .val (.long d), .second, .val (.int n.toInt32), .unset, .unset, .unset, .unset] [(.int (p3.toInt8.toInt32))])) (fun _ k_ => XS.i2b X0.here hx rfl (hb hby at_18) rfl k_) ?_
  obtain ⟨f, q_f⟩ : ∃ z : Int32, z = (p3.toInt8.toInt32) := ⟨_, rfl⟩
  rw [← q_f]
  have hfb : f.toInt8.toInt32 = f := by rw [q_f, own_bb]
  refine Go.st (S' := T0.setTop (mkF m 21 #[.val (.long q0), .second, .val (.int p1), .val (.int p2), .val (.int p3), .val (.long d), .second, .val (.int n.toInt32), .val (.int f), .unset, .unset, .unset] [])) (fun _ k_ => XS.istore X0.here hx rfl (hb hby at_19) rfl (l' := #[.val (.long q0), .second, .val (.int p1), .val (.int p2), .val (.int p3), .val (.long d), .second, .val (.int n.toInt32), .val (.int f), .unset, .unset, .unset]) rfl k_) ?_
  refine Go.st (S' := T0.setTop (mkF m 23 #[.val (.long q0), .second, .val (.int p1), .val (.int p2), .val (.int p3), .val (.long d), .second, .val (.int n.toInt32), .val (.int f), .unset, .unset, .unset] [(.int (12 : Int32))])) (fun _ k_ => XS.bipush X0.here hx rfl (hb hby at_21) k_) ?_
  obtain ⟨T11, h11, b11, X11, e11, q11, E11, A11, st11⟩ := Ai.new X0 hx hZ (aty := .byte) (w1 hw) rfl e0 (n := (12 : Int32)) (by decide) 12 (by decide) (by decide) (by decide) (by decide) (g := (mkF m 23 #[.val (.long q0), .second, .val (.int p1), .val (.int p2), .val (.int p3), .val (.long d), .second, .val (.int n.toInt32), .val (.int f), .unset, .unset, .unset] [(.int (12 : Int32))])) rfl rfl (hb hby at_23)
  have g_b11 : n0 ≤ b11 := Nat.le_trans Z0 (Nat.le_of_eq q11.symm)
  replace Z0 := Nat.le_trans Z0 E11.1
  have A_b11 : Ai Z h11 b11 .byte [(0 : Int32), (0 : Int32), (0 : Int32), (0 : Int32), (0 : Int32), (0 : Int32), (0 : Int32), (0 : Int32), (0 : Int32), (0 : Int32), (0 : Int32), (0 : Int32)] := A11
  refine Go.st (S' := T11.setTop (mkF m 25 #[.val (.long q0), .second, .val (.int p1), .val (.int p2), .val (.int p3), .val (.long d), .second, .val (.int n.toInt32), .val (.int f), .unset, .unset, .unset] [(.ref b11)])) (st11) ?_
  refine Go.st (S' := T11.setTop (mkF m 26 #[.val (.long q0), .second, .val (.int p1), .val (.int p2), .val (.int p3), .val (.long d), .second, .val (.int n.toInt32), .val (.int f), .unset, .unset, .unset] [(.ref b11), (.ref b11)])) (fun _ k_ => XS.dup X11.here hx rfl (hb hby at_25) rfl rfl k_) ?_
  refine Go.st (S' := T11.setTop (mkF m 27 #[.val (.long q0), .second, .val (.int p1), .val (.int p2), .val (.int p3), .val (.long d), .second, .val (.int n.toInt32), .val (.int f), .unset, .unset, .unset] [(.int (0 : Int32)), (.ref b11), (.ref b11)])) (fun _ k_ => XS.iconst X11.here hx rfl (hb hby at_26) k_) ?_
  refine Go.st (S' := T11.setTop (mkF m 29 #[.val (.long q0), .second, .val (.int p1), .val (.int p2), .val (.int p3), .val (.long d), .second, .val (.int n.toInt32), .val (.int f), .unset, .unset, .unset] [(.int f), (.int (0 : Int32)), (.ref b11), (.ref b11)])) (fun _ k_ => XS.iload X11.here hx rfl (hb hby at_27) rfl k_) ?_
  obtain ⟨T12, h12, X12, e12, W12, A12, st12⟩ := A_b11.bstore X11 hx hZ e11 (j := (0 : Int32)) (by decide) (Nat.le_of_ble_eq_true rfl) (g := (mkF m 29 #[.val (.long q0), .second, .val (.int p1), .val (.int p2), .val (.int p3), .val (.long d), .second, .val (.int n.toInt32), .val (.int f), .unset, .unset, .unset] [(.int f), (.int (0 : Int32)), (.ref b11), (.ref b11)])) rfl rfl (hb hby at_29)
  replace A_b11 : Ai Z h12 b11 .byte [f, (0 : Int32), (0 : Int32), (0 : Int32), (0 : Int32), (0 : Int32), (0 : Int32), (0 : Int32), (0 : Int32), (0 : Int32), (0 : Int32), (0 : Int32)] := (by have q := A12; rw [hfb] at q; exact q)
  replace Z0 := Nat.le_trans Z0 (Keep.of_wr W12).1
  have N12 := Fr.snoc X12 N0 g_b11
  refine Go.st (S' := T12.setTop (mkF m 30 #[.val (.long q0), .second, .val (.int p1), .val (.int p2), .val (.int p3), .val (.long d), .second, .val (.int n.toInt32), .val (.int f), .unset, .unset, .unset] [(.ref b11)])) (st12) ?_
  refine Go.st (S' := T12.setTop (mkF m 31 #[.val (.long q0), .second, .val (.int p1), .val (.int p2), .val (.int p3), .val (.long d), .second, .val (.int n.toInt32), .val (.int f), .unset, .unset, .unset] [(.ref b11), (.ref b11)])) (fun _ k_ => XS.dup X12.here hx rfl (hb hby at_30) rfl rfl k_) ?_
  refine Go.st (S' := T12.setTop (mkF m 32 #[.val (.long q0), .second, .val (.int p1), .val (.int p2), .val (.int p3), .val (.long d), .second, .val (.int n.toInt32), .val (.int f), .unset, .unset, .unset] [(.int (1 : Int32)), (.ref b11), (.ref b11)])) (fun _ k_ => XS.iconst X12.here hx rfl (hb hby at_31) k_) ?_
  refine Go.st (S' := T12.setTop (mkF m 34 #[.val (.long q0), .second, .val (.int p1), .val (.int p2), .val (.int p3), .val (.long d), .second, .val (.int n.toInt32), .val (.int f), .unset, .unset, .unset] [(.int f), (.int (1 : Int32)), (.ref b11), (.ref b11)])) (fun _ k_ => XS.iload X12.here hx rfl (hb hby at_32) rfl k_) ?_
  obtain ⟨T13, h13, X13, e13, W13, A13, st13⟩ := A_b11.bstore X12 hx hZ e12 (j := (1 : Int32)) (by decide) (Nat.le_of_ble_eq_true rfl) (g := (mkF m 34 #[.val (.long q0), .second, .val (.int p1), .val (.int p2), .val (.int p3), .val (.long d), .second, .val (.int n.toInt32), .val (.int f), .unset, .unset, .unset] [(.int f), (.int (1 : Int32)), (.ref b11), (.ref b11)])) rfl rfl (hb hby at_34)
  replace A_b11 : Ai Z h13 b11 .byte [f, f, (0 : Int32), (0 : Int32), (0 : Int32), (0 : Int32), (0 : Int32), (0 : Int32), (0 : Int32), (0 : Int32), (0 : Int32), (0 : Int32)] := (by have q := A13; rw [hfb] at q; exact q)
  replace Z0 := Nat.le_trans Z0 (Keep.of_wr W13).1
  have N13 := Fr.snoc X13 N12 g_b11
  refine Go.st (S' := T13.setTop (mkF m 35 #[.val (.long q0), .second, .val (.int p1), .val (.int p2), .val (.int p3), .val (.long d), .second, .val (.int n.toInt32), .val (.int f), .unset, .unset, .unset] [(.ref b11)])) (st13) ?_
  refine Go.st (S' := T13.setTop (mkF m 36 #[.val (.long q0), .second, .val (.int p1), .val (.int p2), .val (.int p3), .val (.long d), .second, .val (.int n.toInt32), .val (.int f), .unset, .unset, .unset] [(.ref b11), (.ref b11)])) (fun _ k_ => XS.dup X13.here hx rfl (hb hby at_35) rfl rfl k_) ?_
  refine Go.st (S' := T13.setTop (mkF m 37 #[.val (.long q0), .second, .val (.int p1), .val (.int p2), .val (.int p3), .val (.long d), .second, .val (.int n.toInt32), .val (.int f), .unset, .unset, .unset] [(.int (2 : Int32)), (.ref b11), (.ref b11)])) (fun _ k_ => XS.iconst X13.here hx rfl (hb hby at_36) k_) ?_
  refine Go.st (S' := T13.setTop (mkF m 39 #[.val (.long q0), .second, .val (.int p1), .val (.int p2), .val (.int p3), .val (.long d), .second, .val (.int n.toInt32), .val (.int f), .unset, .unset, .unset] [(.int f), (.int (2 : Int32)), (.ref b11), (.ref b11)])) (fun _ k_ => XS.iload X13.here hx rfl (hb hby at_37) rfl k_) ?_
  obtain ⟨T14, h14, X14, e14, W14, A14, st14⟩ := A_b11.bstore X13 hx hZ e13 (j := (2 : Int32)) (by decide) (Nat.le_of_ble_eq_true rfl) (g := (mkF m 39 #[.val (.long q0), .second, .val (.int p1), .val (.int p2), .val (.int p3), .val (.long d), .second, .val (.int n.toInt32), .val (.int f), .unset, .unset, .unset] [(.int f), (.int (2 : Int32)), (.ref b11), (.ref b11)])) rfl rfl (hb hby at_39)
  replace A_b11 : Ai Z h14 b11 .byte [f, f, f, (0 : Int32), (0 : Int32), (0 : Int32), (0 : Int32), (0 : Int32), (0 : Int32), (0 : Int32), (0 : Int32), (0 : Int32)] := (by have q := A14; rw [hfb] at q; exact q)
  replace Z0 := Nat.le_trans Z0 (Keep.of_wr W14).1
  have N14 := Fr.snoc X14 N13 g_b11
  refine Go.st (S' := T14.setTop (mkF m 40 #[.val (.long q0), .second, .val (.int p1), .val (.int p2), .val (.int p3), .val (.long d), .second, .val (.int n.toInt32), .val (.int f), .unset, .unset, .unset] [(.ref b11)])) (st14) ?_
  refine Go.st (S' := T14.setTop (mkF m 41 #[.val (.long q0), .second, .val (.int p1), .val (.int p2), .val (.int p3), .val (.long d), .second, .val (.int n.toInt32), .val (.int f), .unset, .unset, .unset] [(.ref b11), (.ref b11)])) (fun _ k_ => XS.dup X14.here hx rfl (hb hby at_40) rfl rfl k_) ?_
  refine Go.st (S' := T14.setTop (mkF m 42 #[.val (.long q0), .second, .val (.int p1), .val (.int p2), .val (.int p3), .val (.long d), .second, .val (.int n.toInt32), .val (.int f), .unset, .unset, .unset] [(.int (3 : Int32)), (.ref b11), (.ref b11)])) (fun _ k_ => XS.iconst X14.here hx rfl (hb hby at_41) k_) ?_
  refine Go.st (S' := T14.setTop (mkF m 44 #[.val (.long q0), .second, .val (.int p1), .val (.int p2), .val (.int p3), .val (.long d), .second, .val (.int n.toInt32), .val (.int f), .unset, .unset, .unset] [(.int f), (.int (3 : Int32)), (.ref b11), (.ref b11)])) (fun _ k_ => XS.iload X14.here hx rfl (hb hby at_42) rfl k_) ?_
  obtain ⟨T15, h15, X15, e15, W15, A15, st15⟩ := A_b11.bstore X14 hx hZ e14 (j := (3 : Int32)) (by decide) (Nat.le_of_ble_eq_true rfl) (g := (mkF m 44 #[.val (.long q0), .second, .val (.int p1), .val (.int p2), .val (.int p3), .val (.long d), .second, .val (.int n.toInt32), .val (.int f), .unset, .unset, .unset] [(.int f), (.int (3 : Int32)), (.ref b11), (.ref b11)])) rfl rfl (hb hby at_44)
  replace A_b11 : Ai Z h15 b11 .byte [f, f, f, f, (0 : Int32), (0 : Int32), (0 : Int32), (0 : Int32), (0 : Int32), (0 : Int32), (0 : Int32), (0 : Int32)] := (by have q := A15; rw [hfb] at q; exact q)
  replace Z0 := Nat.le_trans Z0 (Keep.of_wr W15).1
  have N15 := Fr.snoc X15 N14 g_b11
  refine Go.st (S' := T15.setTop (mkF m 45 #[.val (.long q0), .second, .val (.int p1), .val (.int p2), .val (.int p3), .val (.long d), .second, .val (.int n.toInt32), .val (.int f), .unset, .unset, .unset] [(.ref b11)])) (st15) ?_
  refine Go.st (S' := T15.setTop (mkF m 46 #[.val (.long q0), .second, .val (.int p1), .val (.int p2), .val (.int p3), .val (.long d), .second, .val (.int n.toInt32), .val (.int f), .unset, .unset, .unset] [(.ref b11), (.ref b11)])) (fun _ k_ => XS.dup X15.here hx rfl (hb hby at_45) rfl rfl k_) ?_
  refine Go.st (S' := T15.setTop (mkF m 47 #[.val (.long q0), .second, .val (.int p1), .val (.int p2), .val (.int p3), .val (.long d), .second, .val (.int n.toInt32), .val (.int f), .unset, .unset, .unset] [(.int (4 : Int32)), (.ref b11), (.ref b11)])) (fun _ k_ => XS.iconst X15.here hx rfl (hb hby at_46) k_) ?_
  refine Go.st (S' := T15.setTop (mkF m 49 #[.val (.long q0), .second, .val (.int p1), .val (.int p2), .val (.int p3), .val (.long d), .second, .val (.int n.toInt32), .val (.int f), .unset, .unset, .unset] [(.int f), (.int (4 : Int32)), (.ref b11), (.ref b11)])) (fun _ k_ => XS.iload X15.here hx rfl (hb hby at_47) rfl k_) ?_
  obtain ⟨T16, h16, X16, e16, W16, A16, st16⟩ := A_b11.bstore X15 hx hZ e15 (j := (4 : Int32)) (by decide) (Nat.le_of_ble_eq_true rfl) (g := (mkF m 49 #[.val (.long q0), .second, .val (.int p1), .val (.int p2), .val (.int p3), .val (.long d), .second, .val (.int n.toInt32), .val (.int f), .unset, .unset, .unset] [(.int f), (.int (4 : Int32)), (.ref b11), (.ref b11)])) rfl rfl (hb hby at_49)
  replace A_b11 : Ai Z h16 b11 .byte [f, f, f, f, f, (0 : Int32), (0 : Int32), (0 : Int32), (0 : Int32), (0 : Int32), (0 : Int32), (0 : Int32)] := (by have q := A16; rw [hfb] at q; exact q)
  replace Z0 := Nat.le_trans Z0 (Keep.of_wr W16).1
  have N16 := Fr.snoc X16 N15 g_b11
  refine Go.st (S' := T16.setTop (mkF m 50 #[.val (.long q0), .second, .val (.int p1), .val (.int p2), .val (.int p3), .val (.long d), .second, .val (.int n.toInt32), .val (.int f), .unset, .unset, .unset] [(.ref b11)])) (st16) ?_
  refine Go.st (S' := T16.setTop (mkF m 51 #[.val (.long q0), .second, .val (.int p1), .val (.int p2), .val (.int p3), .val (.long d), .second, .val (.int n.toInt32), .val (.int f), .unset, .unset, .unset] [(.ref b11), (.ref b11)])) (fun _ k_ => XS.dup X16.here hx rfl (hb hby at_50) rfl rfl k_) ?_
  refine Go.st (S' := T16.setTop (mkF m 52 #[.val (.long q0), .second, .val (.int p1), .val (.int p2), .val (.int p3), .val (.long d), .second, .val (.int n.toInt32), .val (.int f), .unset, .unset, .unset] [(.int (5 : Int32)), (.ref b11), (.ref b11)])) (fun _ k_ => XS.iconst X16.here hx rfl (hb hby at_51) k_) ?_
  refine Go.st (S' := T16.setTop (mkF m 54 #[.val (.long q0), .second, .val (.int p1), .val (.int p2), .val (.int p3), .val (.long d), .second, .val (.int n.toInt32), .val (.int f), .unset, .unset, .unset] [(.int f), (.int (5 : Int32)), (.ref b11), (.ref b11)])) (fun _ k_ => XS.iload X16.here hx rfl (hb hby at_52) rfl k_) ?_
  obtain ⟨T17, h17, X17, e17, W17, A17, st17⟩ := A_b11.bstore X16 hx hZ e16 (j := (5 : Int32)) (by decide) (Nat.le_of_ble_eq_true rfl) (g := (mkF m 54 #[.val (.long q0), .second, .val (.int p1), .val (.int p2), .val (.int p3), .val (.long d), .second, .val (.int n.toInt32), .val (.int f), .unset, .unset, .unset] [(.int f), (.int (5 : Int32)), (.ref b11), (.ref b11)])) rfl rfl (hb hby at_54)
  replace A_b11 : Ai Z h17 b11 .byte [f, f, f, f, f, f, (0 : Int32), (0 : Int32), (0 : Int32), (0 : Int32), (0 : Int32), (0 : Int32)] := (by have q := A17; rw [hfb] at q; exact q)
  replace Z0 := Nat.le_trans Z0 (Keep.of_wr W17).1
  have N17 := Fr.snoc X17 N16 g_b11
  refine Go.st (S' := T17.setTop (mkF m 55 #[.val (.long q0), .second, .val (.int p1), .val (.int p2), .val (.int p3), .val (.long d), .second, .val (.int n.toInt32), .val (.int f), .unset, .unset, .unset] [(.ref b11)])) (st17) ?_
  refine Go.st (S' := T17.setTop (mkF m 56 #[.val (.long q0), .second, .val (.int p1), .val (.int p2), .val (.int p3), .val (.long d), .second, .val (.int n.toInt32), .val (.int f), .unset, .unset, .unset] [(.ref b11), (.ref b11)])) (fun _ k_ => XS.dup X17.here hx rfl (hb hby at_55) rfl rfl k_) ?_
  refine Go.st (S' := T17.setTop (mkF m 58 #[.val (.long q0), .second, .val (.int p1), .val (.int p2), .val (.int p3), .val (.long d), .second, .val (.int n.toInt32), .val (.int f), .unset, .unset, .unset] [(.int (6 : Int32)), (.ref b11), (.ref b11)])) (fun _ k_ => XS.bipush X17.here hx rfl (hb hby at_56) k_) ?_
  refine Go.st (S' := T17.setTop (mkF m 60 #[.val (.long q0), .second, .val (.int p1), .val (.int p2), .val (.int p3), .val (.long d), .second, .val (.int n.toInt32), .val (.int f), .unset, .unset, .unset] [(.int f), (.int (6 : Int32)), (.ref b11), (.ref b11)])) (fun _ k_ => XS.iload X17.here hx rfl (hb hby at_58) rfl k_) ?_
  obtain ⟨T18, h18, X18, e18, W18, A18, st18⟩ := A_b11.bstore X17 hx hZ e17 (j := (6 : Int32)) (by decide) (Nat.le_of_ble_eq_true rfl) (g := (mkF m 60 #[.val (.long q0), .second, .val (.int p1), .val (.int p2), .val (.int p3), .val (.long d), .second, .val (.int n.toInt32), .val (.int f), .unset, .unset, .unset] [(.int f), (.int (6 : Int32)), (.ref b11), (.ref b11)])) rfl rfl (hb hby at_60)
  replace A_b11 : Ai Z h18 b11 .byte [f, f, f, f, f, f, f, (0 : Int32), (0 : Int32), (0 : Int32), (0 : Int32), (0 : Int32)] := (by have q := A18; rw [hfb] at q; exact q)
  replace Z0 := Nat.le_trans Z0 (Keep.of_wr W18).1
  have N18 := Fr.snoc X18 N17 g_b11
  refine Go.st (S' := T18.setTop (mkF m 61 #[.val (.long q0), .second, .val (.int p1), .val (.int p2), .val (.int p3), .val (.long d), .second, .val (.int n.toInt32), .val (.int f), .unset, .unset, .unset] [(.ref b11)])) (st18) ?_
  refine Go.st (S' := T18.setTop (mkF m 62 #[.val (.long q0), .second, .val (.int p1), .val (.int p2), .val (.int p3), .val (.long d), .second, .val (.int n.toInt32), .val (.int f), .unset, .unset, .unset] [(.ref b11), (.ref b11)])) (fun _ k_ => XS.dup X18.here hx rfl (hb hby at_61) rfl rfl k_) ?_
  refine Go.st (S' := T18.setTop (mkF m 64 #[.val (.long q0), .second, .val (.int p1), .val (.int p2), .val (.int p3), .val (.long d), .second, .val (.int n.toInt32), .val (.int f), .unset, .unset, .unset] [(.int (7 : Int32)), (.ref b11), (.ref b11)])) (fun _ k_ => XS.bipush X18.here hx rfl (hb hby at_62) k_) ?_
  refine Go.st (S' := T18.setTop (mkF m 66 #[.val (.long q0), .second, .val (.int p1), .val (.int p2), .val (.int p3), .val (.long d), .second, .val (.int n.toInt32), .val (.int f), .unset, .unset, .unset] [(.int f), (.int (7 : Int32)), (.ref b11), (.ref b11)])) (fun _ k_ => XS.iload X18.here hx rfl (hb hby at_64) rfl k_) ?_
  obtain ⟨T19, h19, X19, e19, W19, A19, st19⟩ := A_b11.bstore X18 hx hZ e18 (j := (7 : Int32)) (by decide) (Nat.le_of_ble_eq_true rfl) (g := (mkF m 66 #[.val (.long q0), .second, .val (.int p1), .val (.int p2), .val (.int p3), .val (.long d), .second, .val (.int n.toInt32), .val (.int f), .unset, .unset, .unset] [(.int f), (.int (7 : Int32)), (.ref b11), (.ref b11)])) rfl rfl (hb hby at_66)
  replace A_b11 : Ai Z h19 b11 .byte [f, f, f, f, f, f, f, f, (0 : Int32), (0 : Int32), (0 : Int32), (0 : Int32)] := (by have q := A19; rw [hfb] at q; exact q)
  replace Z0 := Nat.le_trans Z0 (Keep.of_wr W19).1
  have N19 := Fr.snoc X19 N18 g_b11
  refine Go.st (S' := T19.setTop (mkF m 67 #[.val (.long q0), .second, .val (.int p1), .val (.int p2), .val (.int p3), .val (.long d), .second, .val (.int n.toInt32), .val (.int f), .unset, .unset, .unset] [(.ref b11)])) (st19) ?_
  refine Go.st (S' := T19.setTop (mkF m 68 #[.val (.long q0), .second, .val (.int p1), .val (.int p2), .val (.int p3), .val (.long d), .second, .val (.int n.toInt32), .val (.int f), .unset, .unset, .unset] [(.ref b11), (.ref b11)])) (fun _ k_ => XS.dup X19.here hx rfl (hb hby at_67) rfl rfl k_) ?_
  refine Go.st (S' := T19.setTop (mkF m 70 #[.val (.long q0), .second, .val (.int p1), .val (.int p2), .val (.int p3), .val (.long d), .second, .val (.int n.toInt32), .val (.int f), .unset, .unset, .unset] [(.int (8 : Int32)), (.ref b11), (.ref b11)])) (fun _ k_ => XS.bipush X19.here hx rfl (hb hby at_68) k_) ?_
  refine Go.st (S' := T19.setTop (mkF m 72 #[.val (.long q0), .second, .val (.int p1), .val (.int p2), .val (.int p3), .val (.long d), .second, .val (.int n.toInt32), .val (.int f), .unset, .unset, .unset] [(.int f), (.int (8 : Int32)), (.ref b11), (.ref b11)])) (fun _ k_ => XS.iload X19.here hx rfl (hb hby at_70) rfl k_) ?_
  obtain ⟨T20, h20, X20, e20, W20, A20, st20⟩ := A_b11.bstore X19 hx hZ e19 (j := (8 : Int32)) (by decide) (Nat.le_of_ble_eq_true rfl) (g := (mkF m 72 #[.val (.long q0), .second, .val (.int p1), .val (.int p2), .val (.int p3), .val (.long d), .second, .val (.int n.toInt32), .val (.int f), .unset, .unset, .unset] [(.int f), (.int (8 : Int32)), (.ref b11), (.ref b11)])) rfl rfl (hb hby at_72)
  replace A_b11 : Ai Z h20 b11 .byte [f, f, f, f, f, f, f, f, f, (0 : Int32), (0 : Int32), (0 : Int32)] := (by have q := A20; rw [hfb] at q; exact q)
  replace Z0 := Nat.le_trans Z0 (Keep.of_wr W20).1
  have N20 := Fr.snoc X20 N19 g_b11
  refine Go.st (S' := T20.setTop (mkF m 73 #[.val (.long q0), .second, .val (.int p1), .val (.int p2), .val (.int p3), .val (.long d), .second, .val (.int n.toInt32), .val (.int f), .unset, .unset, .unset] [(.ref b11)])) (st20) ?_
  refine Go.st (S' := T20.setTop (mkF m 74 #[.val (.long q0), .second, .val (.int p1), .val (.int p2), .val (.int p3), .val (.long d), .second, .val (.int n.toInt32), .val (.int f), .unset, .unset, .unset] [(.ref b11), (.ref b11)])) (fun _ k_ => XS.dup X20.here hx rfl (hb hby at_73) rfl rfl k_) ?_
  refine Go.st (S' := T20.setTop (mkF m 76 #[.val (.long q0), .second, .val (.int p1), .val (.int p2), .val (.int p3), .val (.long d), .second, .val (.int n.toInt32), .val (.int f), .unset, .unset, .unset] [(.int (9 : Int32)), (.ref b11), (.ref b11)])) (fun _ k_ => XS.bipush X20.here hx rfl (hb hby at_74) k_) ?_
  refine Go.st (S' := T20.setTop (mkF m 78 #[.val (.long q0), .second, .val (.int p1), .val (.int p2), .val (.int p3), .val (.long d), .second, .val (.int n.toInt32), .val (.int f), .unset, .unset, .unset] [(.int f), (.int (9 : Int32)), (.ref b11), (.ref b11)])) (fun _ k_ => XS.iload X20.here hx rfl (hb hby at_76) rfl k_) ?_
  obtain ⟨T21, h21, X21, e21, W21, A21, st21⟩ := A_b11.bstore X20 hx hZ e20 (j := (9 : Int32)) (by decide) (Nat.le_of_ble_eq_true rfl) (g := (mkF m 78 #[.val (.long q0), .second, .val (.int p1), .val (.int p2), .val (.int p3), .val (.long d), .second, .val (.int n.toInt32), .val (.int f), .unset, .unset, .unset] [(.int f), (.int (9 : Int32)), (.ref b11), (.ref b11)])) rfl rfl (hb hby at_78)
  replace A_b11 : Ai Z h21 b11 .byte [f, f, f, f, f, f, f, f, f, f, (0 : Int32), (0 : Int32)] := (by have q := A21; rw [hfb] at q; exact q)
  replace Z0 := Nat.le_trans Z0 (Keep.of_wr W21).1
  have N21 := Fr.snoc X21 N20 g_b11
  refine Go.st (S' := T21.setTop (mkF m 79 #[.val (.long q0), .second, .val (.int p1), .val (.int p2), .val (.int p3), .val (.long d), .second, .val (.int n.toInt32), .val (.int f), .unset, .unset, .unset] [(.ref b11)])) (st21) ?_
  refine Go.st (S' := T21.setTop (mkF m 80 #[.val (.long q0), .second, .val (.int p1), .val (.int p2), .val (.int p3), .val (.long d), .second, .val (.int n.toInt32), .val (.int f), .unset, .unset, .unset] [(.ref b11), (.ref b11)])) (fun _ k_ => XS.dup X21.here hx rfl (hb hby at_79) rfl rfl k_) ?_
  refine Go.st (S' := T21.setTop (mkF m 82 #[.val (.long q0), .second, .val (.int p1), .val (.int p2), .val (.int p3), .val (.long d), .second, .val (.int n.toInt32), .val (.int f), .unset, .unset, .unset] [(.int (10 : Int32)), (.ref b11), (.ref b11)])) (fun _ k_ => XS.bipush X21.here hx rfl (hb hby at_80) k_) ?_
  refine Go.st (S' := T21.setTop (mkF m 84 #[.val (.long q0), .second, .val (.int p1), .val (.int p2), .val (.int p3), .val (.long d), .second, .val (.int n.toInt32), .val (.int f), .unset, .unset, .unset] [(.int f), (.int (10 : Int32)), (.ref b11), (.ref b11)])) (fun _ k_ => XS.iload X21.here hx rfl (hb hby at_82) rfl k_) ?_
  obtain ⟨T22, h22, X22, e22, W22, A22, st22⟩ := A_b11.bstore X21 hx hZ e21 (j := (10 : Int32)) (by decide) (Nat.le_of_ble_eq_true rfl) (g := (mkF m 84 #[.val (.long q0), .second, .val (.int p1), .val (.int p2), .val (.int p3), .val (.long d), .second, .val (.int n.toInt32), .val (.int f), .unset, .unset, .unset] [(.int f), (.int (10 : Int32)), (.ref b11), (.ref b11)])) rfl rfl (hb hby at_84)
  replace A_b11 : Ai Z h22 b11 .byte [f, f, f, f, f, f, f, f, f, f, f, (0 : Int32)] := (by have q := A22; rw [hfb] at q; exact q)
  replace Z0 := Nat.le_trans Z0 (Keep.of_wr W22).1
  have N22 := Fr.snoc X22 N21 g_b11
  refine Go.st (S' := T22.setTop (mkF m 85 #[.val (.long q0), .second, .val (.int p1), .val (.int p2), .val (.int p3), .val (.long d), .second, .val (.int n.toInt32), .val (.int f), .unset, .unset, .unset] [(.ref b11)])) (st22) ?_
  refine Go.st (S' := T22.setTop (mkF m 86 #[.val (.long q0), .second, .val (.int p1), .val (.int p2), .val (.int p3), .val (.long d), .second, .val (.int n.toInt32), .val (.int f), .unset, .unset, .unset] [(.ref b11), (.ref b11)])) (fun _ k_ => XS.dup X22.here hx rfl (hb hby at_85) rfl rfl k_) ?_
  refine Go.st (S' := T22.setTop (mkF m 88 #[.val (.long q0), .second, .val (.int p1), .val (.int p2), .val (.int p3), .val (.long d), .second, .val (.int n.toInt32), .val (.int f), .unset, .unset, .unset] [(.int (11 : Int32)), (.ref b11), (.ref b11)])) (fun _ k_ => XS.bipush X22.here hx rfl (hb hby at_86) k_) ?_
  refine Go.st (S' := T22.setTop (mkF m 90 #[.val (.long q0), .second, .val (.int p1), .val (.int p2), .val (.int p3), .val (.long d), .second, .val (.int n.toInt32), .val (.int f), .unset, .unset, .unset] [(.int f), (.int (11 : Int32)), (.ref b11), (.ref b11)])) (fun _ k_ => XS.iload X22.here hx rfl (hb hby at_88) rfl k_) ?_
  obtain ⟨T23, h23, X23, e23, W23, A23, st23⟩ := A_b11.bstore X22 hx hZ e22 (j := (11 : Int32)) (by decide) (Nat.le_of_ble_eq_true rfl) (g := (mkF m 90 #[.val (.long q0), .second, .val (.int p1), .val (.int p2), .val (.int p3), .val (.long d), .second, .val (.int n.toInt32), .val (.int f), .unset, .unset, .unset] [(.int f), (.int (11 : Int32)), (.ref b11), (.ref b11)])) rfl rfl (hb hby at_90)
  replace A_b11 : Ai Z h23 b11 .byte [f, f, f, f, f, f, f, f, f, f, f, f] := (by have q := A23; rw [hfb] at q; exact q)
  replace Z0 := Nat.le_trans Z0 (Keep.of_wr W23).1
  have N23 := Fr.snoc X23 N22 g_b11
  refine Go.st (S' := T23.setTop (mkF m 91 #[.val (.long q0), .second, .val (.int p1), .val (.int p2), .val (.int p3), .val (.long d), .second, .val (.int n.toInt32), .val (.int f), .unset, .unset, .unset] [(.ref b11)])) (st23) ?_
  refine Go.st (S' := T23.setTop (mkF m 93 #[.val (.long q0), .second, .val (.int p1), .val (.int p2), .val (.int p3), .val (.long d), .second, .val (.int n.toInt32), .val (.int f), .val (.ref b11), .unset, .unset] [])) (fun _ k_ => XS.astore X23.here hx rfl (hb hby at_91) rfl rfl (l' := #[.val (.long q0), .second, .val (.int p1), .val (.int p2), .val (.int p3), .val (.long d), .second, .val (.int n.toInt32), .val (.int f), .val (.ref b11), .unset, .unset]) rfl k_) ?_
  refine Go.st (S' := T23.setTop (mkF m 95 #[.val (.long q0), .second, .val (.int p1), .val (.int p2), .val (.int p3), .val (.long d), .second, .val (.int n.toInt32), .val (.int f), .val (.ref b11), .unset, .unset] [(.long d)])) (fun _ k_ => XS.lload X23.here hx rfl (hb hby at_93) rfl k_) ?_
  obtain ⟨v24, T24, h24, L24, X24, e24, hQ24, st24⟩ := callSt X23 hx hZ hown (w2 hw) (w3 hw) (w4 hw) (w5 hw) (by decide) (W := 0) (argsL := [(.long d)]) (rest := []) e23 (rm_grp l Z a0 hw d r h23 n0 Z0 hh1 hh2 r9) (by decide) (by decide) pd0 rfl (g := (mkF m 95 #[.val (.long q0), .second, .val (.int p1), .val (.int p2), .val (.int p3), .val (.long d), .second, .val (.int n.toInt32), .val (.int f), .val (.ref b11), .unset, .unset] [(.long d)])) rfl (by rw [hml]; rfl) rfl (by show 2 * 0 + _ ≤ _; exact Nat.le_of_eq rfl) (hb hby at_95) (by decide) (by decide)
  obtain ⟨rfl, Nq24, hh24⟩ := hQ24
  rw [hh24] at e24
  have N24 := Fr.app N23 Nq24
  refine Go.st (S' := T24.setTop (mkF m 98 #[.val (.long q0), .second, .val (.int p1), .val (.int p2), .val (.int p3), .val (.long d), .second, .val (.int n.toInt32), .val (.int f), .val (.ref b11), .unset, .unset] [(.int (r + 1).toInt32)])) (st24) ?_
  refine Go.st (S' := T24.setTop (mkF m 100 #[.val (.long q0), .second, .val (.int p1), .val (.int p2), .val (.int p3), .val (.long d), .second, .val (.int n.toInt32), .val (.int f), .val (.ref b11), .val (.int (r + 1).toInt32), .unset] [])) (fun _ k_ => XS.istore X24.here hx rfl (hb hby at_98) rfl (l' := #[.val (.long q0), .second, .val (.int p1), .val (.int p2), .val (.int p3), .val (.long d), .second, .val (.int n.toInt32), .val (.int f), .val (.ref b11), .val (.int (r + 1).toInt32), .unset]) rfl k_) ?_
  refine Go.st (S' := T24.setTop (mkF m 102 #[.val (.long q0), .second, .val (.int p1), .val (.int p2), .val (.int p3), .val (.long d), .second, .val (.int n.toInt32), .val (.int f), .val (.ref b11), .val (.int (r + 1).toInt32), .unset] [(.ref b11)])) (fun _ k_ => XS.aload X24.here hx rfl (hb hby at_100) rfl rfl k_) ?_
  refine Go.st (S' := T24.setTop (mkF m 104 #[.val (.long q0), .second, .val (.int p1), .val (.int p2), .val (.int p3), .val (.long d), .second, .val (.int n.toInt32), .val (.int f), .val (.ref b11), .val (.int (r + 1).toInt32), .unset] [(.int n.toInt32), (.ref b11)])) (fun _ k_ => XS.iload X24.here hx rfl (hb hby at_102) rfl k_) ?_
  refine Go.st (S' := T24.setTop (mkF m 106 #[.val (.long q0), .second, .val (.int p1), .val (.int p2), .val (.int p3), .val (.long d), .second, .val (.int n.toInt32), .val (.int f), .val (.ref b11), .val (.int (r + 1).toInt32), .unset] [(.long d), (.int n.toInt32), (.ref b11)])) (fun _ k_ => XS.lload X24.here hx rfl (hb hby at_104) rfl k_) ?_
  obtain ⟨v25, T25, h25, L25, X25, e25, hQ25, st25⟩ := callSt X24 hx hZ hown (w6 hw) (w7 hw) (w8 hw) (w9 hw) (by decide) (W := 0) (argsL := [(.ref b11), (.int n.toInt32), (.long d)]) (rest := []) e24 (rm_put l Z a0 hw b11 n r d (List.replicate 12 f) h23 n0 Z0 A_b11 g_b11 (by rw [List.length_replicate]; omega) (by rw [List.length_replicate]; omega) hh1 hh2) (by decide) (by decide) pd1 rfl (g := (mkF m 106 #[.val (.long q0), .second, .val (.int p1), .val (.int p2), .val (.int p3), .val (.long d), .second, .val (.int n.toInt32), .val (.int f), .val (.ref b11), .val (.int (r + 1).toInt32), .unset] [(.long d), (.int n.toInt32), (.ref b11)])) rfl (by rw [hml]; rfl) rfl (by show 2 * 0 + _ ≤ _; exact Nat.le_of_eq rfl) (hb hby at_106) (by decide) (by decide)
  obtain ⟨rfl, Nq25, Kq25, ys25, A_b11, hW25⟩ := hQ25
  have N25 := Fr.app N24 Nq25
  replace Z0 := Nat.le_trans Z0 Kq25.1
  refine Go.st (S' := T25.setTop (mkF m 109 #[.val (.long q0), .second, .val (.int p1), .val (.int p2), .val (.int p3), .val (.long d), .second, .val (.int n.toInt32), .val (.int f), .val (.ref b11), .val (.int (r + 1).toInt32), .unset] [(.int (n + (r + 1)).toInt32)])) (st25) ?_
  refine Go.st (S' := T25.setTop (mkF m 111 #[.val (.long q0), .second, .val (.int p1), .val (.int p2), .val (.int p3), .val (.long d), .second, .val (.int n.toInt32), .val (.int f), .val (.ref b11), .val (.int (r + 1).toInt32), .val (.int (n + (r + 1)).toInt32)] [])) (fun _ k_ => XS.istore X25.here hx rfl (hb hby at_109) rfl (l' := #[.val (.long q0), .second, .val (.int p1), .val (.int p2), .val (.int p3), .val (.long d), .second, .val (.int n.toInt32), .val (.int f), .val (.ref b11), .val (.int (r + 1).toInt32), .val (.int (n + (r + 1)).toInt32)]) rfl k_) ?_
  refine Go.st (S' := T25.setTop (mkF m 113 #[.val (.long q0), .second, .val (.int p1), .val (.int p2), .val (.int p3), .val (.long d), .second, .val (.int n.toInt32), .val (.int f), .val (.ref b11), .val (.int (r + 1).toInt32), .val (.int (n + (r + 1)).toInt32)] [(.int (n + (r + 1)).toInt32)])) (fun _ k_ => XS.iload X25.here hx rfl (hb hby at_111) rfl k_) ?_
  refine Go.st (S' := T25.setTop (mkF m 115 #[.val (.long q0), .second, .val (.int p1), .val (.int p2), .val (.int p3), .val (.long d), .second, .val (.int n.toInt32), .val (.int f), .val (.ref b11), .val (.int (r + 1).toInt32), .val (.int (n + (r + 1)).toInt32)] [(.int n.toInt32), (.int (n + (r + 1)).toInt32)])) (fun _ k_ => XS.iload X25.here hx rfl (hb hby at_113) rfl k_) ?_
  refine Go.st (S' := T25.setTop (mkF m 117 #[.val (.long q0), .second, .val (.int p1), .val (.int p2), .val (.int p3), .val (.long d), .second, .val (.int n.toInt32), .val (.int f), .val (.ref b11), .val (.int (r + 1).toInt32), .val (.int (n + (r + 1)).toInt32)] [(.int (r + 1).toInt32), (.int n.toInt32), (.int (n + (r + 1)).toInt32)])) (fun _ k_ => XS.iload X25.here hx rfl (hb hby at_115) rfl k_) ?_
  refine Go.st (S' := T25.setTop (mkF m 118 #[.val (.long q0), .second, .val (.int p1), .val (.int p2), .val (.int p3), .val (.long d), .second, .val (.int n.toInt32), .val (.int f), .val (.ref b11), .val (.int (r + 1).toInt32), .val (.int (n + (r + 1)).toInt32)] [(.int (n.toInt32 + (r + 1).toInt32)), (.int (n + (r + 1)).toInt32)])) (fun _ k_ => XS.iadd X25.here hx rfl (hb hby at_117) rfl k_) ?_
  refine Go.st (S' := T25.setTop (mkF m 123 #[.val (.long q0), .second, .val (.int p1), .val (.int p2), .val (.int p3), .val (.long d), .second, .val (.int n.toInt32), .val (.int f), .val (.ref b11), .val (.int (r + 1).toInt32), .val (.int (n + (r + 1)).toInt32)] [])) (fun _ k_ => XS.icmpYes X25.here hx rfl (pc0 := 118) (pc' := 123) rfl (hb hby at_118) rfl (teq ((own_tadd n (r + 1)).symm)).1 (by decide) (by decide) k_) ?_
  refine Go.st (S' := T25.setTop (mkF m 125 #[.val (.long q0), .second, .val (.int p1), .val (.int p2), .val (.int p3), .val (.long d), .second, .val (.int n.toInt32), .val (.int f), .val (.ref b11), .val (.int (r + 1).toInt32), .val (.int (n + (r + 1)).toInt32)] [(.ref b11)])) (fun _ k_ => XS.aload X25.here hx rfl (hb hby at_123) rfl rfl k_) ?_
  refine Go.st (S' := T25.setTop (mkF m 126 #[.val (.long q0), .second, .val (.int p1), .val (.int p2), .val (.int p3), .val (.long d), .second, .val (.int n.toInt32), .val (.int f), .val (.ref b11), .val (.int (r + 1).toInt32), .val (.int (n + (r + 1)).toInt32)] [(.int (0 : Int32)), (.ref b11)])) (fun _ k_ => XS.iconst X25.here hx rfl (hb hby at_125) k_) ?_
  refine Go.st (S' := T25.setTop (mkF m 128 #[.val (.long q0), .second, .val (.int p1), .val (.int p2), .val (.int p3), .val (.long d), .second, .val (.int n.toInt32), .val (.int f), .val (.ref b11), .val (.int (r + 1).toInt32), .val (.int (n + (r + 1)).toInt32)] [(.int n.toInt32), (.int (0 : Int32)), (.ref b11)])) (fun _ k_ => XS.iload X25.here hx rfl (hb hby at_126) rfl k_) ?_
  refine Go.st (S' := T25.setTop (mkF m 130 #[.val (.long q0), .second, .val (.int p1), .val (.int p2), .val (.int p3), .val (.long d), .second, .val (.int n.toInt32), .val (.int f), .val (.ref b11), .val (.int (r + 1).toInt32), .val (.int (n + (r + 1)).toInt32)] [(.int (r + 1).toInt32), (.int n.toInt32), (.int (0 : Int32)), (.ref b11)])) (fun _ k_ => XS.iload X25.here hx rfl (hb hby at_128) rfl k_) ?_
  refine Go.st (S' := T25.setTop (mkF m 132 #[.val (.long q0), .second, .val (.int p1), .val (.int p2), .val (.int p3), .val (.long d), .second, .val (.int n.toInt32), .val (.int f), .val (.ref b11), .val (.int (r + 1).toInt32), .val (.int (n + (r + 1)).toInt32)] [(.long d), (.int (r + 1).toInt32), (.int n.toInt32), (.int (0 : Int32)), (.ref b11)])) (fun _ k_ => XS.lload X25.here hx rfl (hb hby at_130) rfl k_) ?_
  refine Go.st (S' := T25.setTop (mkF m 134 #[.val (.long q0), .second, .val (.int p1), .val (.int p2), .val (.int p3), .val (.long d), .second, .val (.int n.toInt32), .val (.int f), .val (.ref b11), .val (.int (r + 1).toInt32), .val (.int (n + (r + 1)).toInt32)] [(.int f), (.long d), (.int (r + 1).toInt32), (.int n.toInt32), (.int (0 : Int32)), (.ref b11)])) (fun _ k_ => XS.iload X25.here hx rfl (hb hby at_132) rfl k_) ?_
  obtain ⟨v26, T26, h26, L26, X26, e26, hQ26, st26⟩ := callSt X25 hx hZ hown (w11 hw) (w12 hw) (w4 hw) (w13 hw) (by decide) (W := 0) (argsL := [(.ref b11), (.int (0 : Int32)), (.int n.toInt32), (.int (r + 1).toInt32), (.long d), (.int f)]) (rest := []) e25 (rm_ok l Z a0 hw b11 (0 : Int32) n.toInt32 (r + 1).toInt32 d f ys25 h25 n0 Z0 A_b11 (by decide) (own_cell hW25 (by omega) r9 (own_hlast hh2) 0 (by decide))) (by decide) (by decide) pd2 rfl (g := (mkF m 134 #[.val (.long q0), .second, .val (.int p1), .val (.int p2), .val (.int p3), .val (.long d), .second, .val (.int n.toInt32), .val (.int f), .val (.ref b11), .val (.int (r + 1).toInt32), .val (.int (n + (r + 1)).toInt32)] [(.int f), (.long d), (.int (r + 1).toInt32), (.int n.toInt32), (.int (0 : Int32)), (.ref b11)])) rfl (by rw [hml]; rfl) rfl (by show 2 * 0 + _ ≤ _; exact Nat.le_of_eq rfl) (hb hby at_134) (by decide) (by decide)
  obtain ⟨rfl, Nq26, hh26⟩ := hQ26
  rw [hh26] at e26
  have N26 := Fr.app N25 Nq26
  refine Go.st (S' := T26.setTop (mkF m 137 #[.val (.long q0), .second, .val (.int p1), .val (.int p2), .val (.int p3), .val (.long d), .second, .val (.int n.toInt32), .val (.int f), .val (.ref b11), .val (.int (r + 1).toInt32), .val (.int (n + (r + 1)).toInt32)] [(.int (1 : Int32))])) (st26) ?_
  refine Go.st (S' := T26.setTop (mkF m 140 #[.val (.long q0), .second, .val (.int p1), .val (.int p2), .val (.int p3), .val (.long d), .second, .val (.int n.toInt32), .val (.int f), .val (.ref b11), .val (.int (r + 1).toInt32), .val (.int (n + (r + 1)).toInt32)] [])) (fun _ k_ => XS.ifNo X26.here hx rfl (hb hby at_137) rfl ((if0 _ _).trans (feq (by decide)).1) k_) ?_
  refine Go.st (S' := T26.setTop (mkF m 142 #[.val (.long q0), .second, .val (.int p1), .val (.int p2), .val (.int p3), .val (.long d), .second, .val (.int n.toInt32), .val (.int f), .val (.ref b11), .val (.int (r + 1).toInt32), .val (.int (n + (r + 1)).toInt32)] [(.ref b11)])) (fun _ k_ => XS.aload X26.here hx rfl (hb hby at_140) rfl rfl k_) ?_
  refine Go.st (S' := T26.setTop (mkF m 143 #[.val (.long q0), .second, .val (.int p1), .val (.int p2), .val (.int p3), .val (.long d), .second, .val (.int n.toInt32), .val (.int f), .val (.ref b11), .val (.int (r + 1).toInt32), .val (.int (n + (r + 1)).toInt32)] [(.int (1 : Int32)), (.ref b11)])) (fun _ k_ => XS.iconst X26.here hx rfl (hb hby at_142) k_) ?_
  refine Go.st (S' := T26.setTop (mkF m 145 #[.val (.long q0), .second, .val (.int p1), .val (.int p2), .val (.int p3), .val (.long d), .second, .val (.int n.toInt32), .val (.int f), .val (.ref b11), .val (.int (r + 1).toInt32), .val (.int (n + (r + 1)).toInt32)] [(.int n.toInt32), (.int (1 : Int32)), (.ref b11)])) (fun _ k_ => XS.iload X26.here hx rfl (hb hby at_143) rfl k_) ?_
  refine Go.st (S' := T26.setTop (mkF m 147 #[.val (.long q0), .second, .val (.int p1), .val (.int p2), .val (.int p3), .val (.long d), .second, .val (.int n.toInt32), .val (.int f), .val (.ref b11), .val (.int (r + 1).toInt32), .val (.int (n + (r + 1)).toInt32)] [(.int (r + 1).toInt32), (.int n.toInt32), (.int (1 : Int32)), (.ref b11)])) (fun _ k_ => XS.iload X26.here hx rfl (hb hby at_145) rfl k_) ?_
  refine Go.st (S' := T26.setTop (mkF m 149 #[.val (.long q0), .second, .val (.int p1), .val (.int p2), .val (.int p3), .val (.long d), .second, .val (.int n.toInt32), .val (.int f), .val (.ref b11), .val (.int (r + 1).toInt32), .val (.int (n + (r + 1)).toInt32)] [(.long d), (.int (r + 1).toInt32), (.int n.toInt32), (.int (1 : Int32)), (.ref b11)])) (fun _ k_ => XS.lload X26.here hx rfl (hb hby at_147) rfl k_) ?_
  refine Go.st (S' := T26.setTop (mkF m 151 #[.val (.long q0), .second, .val (.int p1), .val (.int p2), .val (.int p3), .val (.long d), .second, .val (.int n.toInt32), .val (.int f), .val (.ref b11), .val (.int (r + 1).toInt32), .val (.int (n + (r + 1)).toInt32)] [(.int f), (.long d), (.int (r + 1).toInt32), (.int n.toInt32), (.int (1 : Int32)), (.ref b11)])) (fun _ k_ => XS.iload X26.here hx rfl (hb hby at_149) rfl k_) ?_
  obtain ⟨v27, T27, h27, L27, X27, e27, hQ27, st27⟩ := callSt X26 hx hZ hown (w11 hw) (w12 hw) (w4 hw) (w13 hw) (by decide) (W := 0) (argsL := [(.ref b11), (.int (1 : Int32)), (.int n.toInt32), (.int (r + 1).toInt32), (.long d), (.int f)]) (rest := []) e26 (rm_ok l Z a0 hw b11 (1 : Int32) n.toInt32 (r + 1).toInt32 d f ys25 h25 n0 Z0 A_b11 (by decide) (own_cell hW25 (by omega) r9 (own_hlast hh2) 1 (by decide))) (by decide) (by decide) pd2 rfl (g := (mkF m 151 #[.val (.long q0), .second, .val (.int p1), .val (.int p2), .val (.int p3), .val (.long d), .second, .val (.int n.toInt32), .val (.int f), .val (.ref b11), .val (.int (r + 1).toInt32), .val (.int (n + (r + 1)).toInt32)] [(.int f), (.long d), (.int (r + 1).toInt32), (.int n.toInt32), (.int (1 : Int32)), (.ref b11)])) rfl (by rw [hml]; rfl) rfl (by show 2 * 0 + _ ≤ _; exact Nat.le_of_eq rfl) (hb hby at_151) (by decide) (by decide)
  obtain ⟨rfl, Nq27, hh27⟩ := hQ27
  rw [hh27] at e27
  have N27 := Fr.app N26 Nq27
  refine Go.st (S' := T27.setTop (mkF m 154 #[.val (.long q0), .second, .val (.int p1), .val (.int p2), .val (.int p3), .val (.long d), .second, .val (.int n.toInt32), .val (.int f), .val (.ref b11), .val (.int (r + 1).toInt32), .val (.int (n + (r + 1)).toInt32)] [(.int (1 : Int32))])) (st27) ?_
  refine Go.st (S' := T27.setTop (mkF m 157 #[.val (.long q0), .second, .val (.int p1), .val (.int p2), .val (.int p3), .val (.long d), .second, .val (.int n.toInt32), .val (.int f), .val (.ref b11), .val (.int (r + 1).toInt32), .val (.int (n + (r + 1)).toInt32)] [])) (fun _ k_ => XS.ifNo X27.here hx rfl (hb hby at_154) rfl ((if0 _ _).trans (feq (by decide)).1) k_) ?_
  refine Go.st (S' := T27.setTop (mkF m 159 #[.val (.long q0), .second, .val (.int p1), .val (.int p2), .val (.int p3), .val (.long d), .second, .val (.int n.toInt32), .val (.int f), .val (.ref b11), .val (.int (r + 1).toInt32), .val (.int (n + (r + 1)).toInt32)] [(.ref b11)])) (fun _ k_ => XS.aload X27.here hx rfl (hb hby at_157) rfl rfl k_) ?_
  refine Go.st (S' := T27.setTop (mkF m 160 #[.val (.long q0), .second, .val (.int p1), .val (.int p2), .val (.int p3), .val (.long d), .second, .val (.int n.toInt32), .val (.int f), .val (.ref b11), .val (.int (r + 1).toInt32), .val (.int (n + (r + 1)).toInt32)] [(.int (2 : Int32)), (.ref b11)])) (fun _ k_ => XS.iconst X27.here hx rfl (hb hby at_159) k_) ?_
  refine Go.st (S' := T27.setTop (mkF m 162 #[.val (.long q0), .second, .val (.int p1), .val (.int p2), .val (.int p3), .val (.long d), .second, .val (.int n.toInt32), .val (.int f), .val (.ref b11), .val (.int (r + 1).toInt32), .val (.int (n + (r + 1)).toInt32)] [(.int n.toInt32), (.int (2 : Int32)), (.ref b11)])) (fun _ k_ => XS.iload X27.here hx rfl (hb hby at_160) rfl k_) ?_
  refine Go.st (S' := T27.setTop (mkF m 164 #[.val (.long q0), .second, .val (.int p1), .val (.int p2), .val (.int p3), .val (.long d), .second, .val (.int n.toInt32), .val (.int f), .val (.ref b11), .val (.int (r + 1).toInt32), .val (.int (n + (r + 1)).toInt32)] [(.int (r + 1).toInt32), (.int n.toInt32), (.int (2 : Int32)), (.ref b11)])) (fun _ k_ => XS.iload X27.here hx rfl (hb hby at_162) rfl k_) ?_
  refine Go.st (S' := T27.setTop (mkF m 166 #[.val (.long q0), .second, .val (.int p1), .val (.int p2), .val (.int p3), .val (.long d), .second, .val (.int n.toInt32), .val (.int f), .val (.ref b11), .val (.int (r + 1).toInt32), .val (.int (n + (r + 1)).toInt32)] [(.long d), (.int (r + 1).toInt32), (.int n.toInt32), (.int (2 : Int32)), (.ref b11)])) (fun _ k_ => XS.lload X27.here hx rfl (hb hby at_164) rfl k_) ?_
  refine Go.st (S' := T27.setTop (mkF m 168 #[.val (.long q0), .second, .val (.int p1), .val (.int p2), .val (.int p3), .val (.long d), .second, .val (.int n.toInt32), .val (.int f), .val (.ref b11), .val (.int (r + 1).toInt32), .val (.int (n + (r + 1)).toInt32)] [(.int f), (.long d), (.int (r + 1).toInt32), (.int n.toInt32), (.int (2 : Int32)), (.ref b11)])) (fun _ k_ => XS.iload X27.here hx rfl (hb hby at_166) rfl k_) ?_
  obtain ⟨v28, T28, h28, L28, X28, e28, hQ28, st28⟩ := callSt X27 hx hZ hown (w11 hw) (w12 hw) (w4 hw) (w13 hw) (by decide) (W := 0) (argsL := [(.ref b11), (.int (2 : Int32)), (.int n.toInt32), (.int (r + 1).toInt32), (.long d), (.int f)]) (rest := []) e27 (rm_ok l Z a0 hw b11 (2 : Int32) n.toInt32 (r + 1).toInt32 d f ys25 h25 n0 Z0 A_b11 (by decide) (own_cell hW25 (by omega) r9 (own_hlast hh2) 2 (by decide))) (by decide) (by decide) pd2 rfl (g := (mkF m 168 #[.val (.long q0), .second, .val (.int p1), .val (.int p2), .val (.int p3), .val (.long d), .second, .val (.int n.toInt32), .val (.int f), .val (.ref b11), .val (.int (r + 1).toInt32), .val (.int (n + (r + 1)).toInt32)] [(.int f), (.long d), (.int (r + 1).toInt32), (.int n.toInt32), (.int (2 : Int32)), (.ref b11)])) rfl (by rw [hml]; rfl) rfl (by show 2 * 0 + _ ≤ _; exact Nat.le_of_eq rfl) (hb hby at_168) (by decide) (by decide)
  obtain ⟨rfl, Nq28, hh28⟩ := hQ28
  rw [hh28] at e28
  have N28 := Fr.app N27 Nq28
  refine Go.st (S' := T28.setTop (mkF m 171 #[.val (.long q0), .second, .val (.int p1), .val (.int p2), .val (.int p3), .val (.long d), .second, .val (.int n.toInt32), .val (.int f), .val (.ref b11), .val (.int (r + 1).toInt32), .val (.int (n + (r + 1)).toInt32)] [(.int (1 : Int32))])) (st28) ?_
  refine Go.st (S' := T28.setTop (mkF m 174 #[.val (.long q0), .second, .val (.int p1), .val (.int p2), .val (.int p3), .val (.long d), .second, .val (.int n.toInt32), .val (.int f), .val (.ref b11), .val (.int (r + 1).toInt32), .val (.int (n + (r + 1)).toInt32)] [])) (fun _ k_ => XS.ifNo X28.here hx rfl (hb hby at_171) rfl ((if0 _ _).trans (feq (by decide)).1) k_) ?_
  refine Go.st (S' := T28.setTop (mkF m 176 #[.val (.long q0), .second, .val (.int p1), .val (.int p2), .val (.int p3), .val (.long d), .second, .val (.int n.toInt32), .val (.int f), .val (.ref b11), .val (.int (r + 1).toInt32), .val (.int (n + (r + 1)).toInt32)] [(.ref b11)])) (fun _ k_ => XS.aload X28.here hx rfl (hb hby at_174) rfl rfl k_) ?_
  refine Go.st (S' := T28.setTop (mkF m 177 #[.val (.long q0), .second, .val (.int p1), .val (.int p2), .val (.int p3), .val (.long d), .second, .val (.int n.toInt32), .val (.int f), .val (.ref b11), .val (.int (r + 1).toInt32), .val (.int (n + (r + 1)).toInt32)] [(.int (3 : Int32)), (.ref b11)])) (fun _ k_ => XS.iconst X28.here hx rfl (hb hby at_176) k_) ?_
  refine Go.st (S' := T28.setTop (mkF m 179 #[.val (.long q0), .second, .val (.int p1), .val (.int p2), .val (.int p3), .val (.long d), .second, .val (.int n.toInt32), .val (.int f), .val (.ref b11), .val (.int (r + 1).toInt32), .val (.int (n + (r + 1)).toInt32)] [(.int n.toInt32), (.int (3 : Int32)), (.ref b11)])) (fun _ k_ => XS.iload X28.here hx rfl (hb hby at_177) rfl k_) ?_
  refine Go.st (S' := T28.setTop (mkF m 181 #[.val (.long q0), .second, .val (.int p1), .val (.int p2), .val (.int p3), .val (.long d), .second, .val (.int n.toInt32), .val (.int f), .val (.ref b11), .val (.int (r + 1).toInt32), .val (.int (n + (r + 1)).toInt32)] [(.int (r + 1).toInt32), (.int n.toInt32), (.int (3 : Int32)), (.ref b11)])) (fun _ k_ => XS.iload X28.here hx rfl (hb hby at_179) rfl k_) ?_
  refine Go.st (S' := T28.setTop (mkF m 183 #[.val (.long q0), .second, .val (.int p1), .val (.int p2), .val (.int p3), .val (.long d), .second, .val (.int n.toInt32), .val (.int f), .val (.ref b11), .val (.int (r + 1).toInt32), .val (.int (n + (r + 1)).toInt32)] [(.long d), (.int (r + 1).toInt32), (.int n.toInt32), (.int (3 : Int32)), (.ref b11)])) (fun _ k_ => XS.lload X28.here hx rfl (hb hby at_181) rfl k_) ?_
  refine Go.st (S' := T28.setTop (mkF m 185 #[.val (.long q0), .second, .val (.int p1), .val (.int p2), .val (.int p3), .val (.long d), .second, .val (.int n.toInt32), .val (.int f), .val (.ref b11), .val (.int (r + 1).toInt32), .val (.int (n + (r + 1)).toInt32)] [(.int f), (.long d), (.int (r + 1).toInt32), (.int n.toInt32), (.int (3 : Int32)), (.ref b11)])) (fun _ k_ => XS.iload X28.here hx rfl (hb hby at_183) rfl k_) ?_
  obtain ⟨v29, T29, h29, L29, X29, e29, hQ29, st29⟩ := callSt X28 hx hZ hown (w11 hw) (w12 hw) (w4 hw) (w13 hw) (by decide) (W := 0) (argsL := [(.ref b11), (.int (3 : Int32)), (.int n.toInt32), (.int (r + 1).toInt32), (.long d), (.int f)]) (rest := []) e28 (rm_ok l Z a0 hw b11 (3 : Int32) n.toInt32 (r + 1).toInt32 d f ys25 h25 n0 Z0 A_b11 (by decide) (own_cell hW25 (by omega) r9 (own_hlast hh2) 3 (by decide))) (by decide) (by decide) pd2 rfl (g := (mkF m 185 #[.val (.long q0), .second, .val (.int p1), .val (.int p2), .val (.int p3), .val (.long d), .second, .val (.int n.toInt32), .val (.int f), .val (.ref b11), .val (.int (r + 1).toInt32), .val (.int (n + (r + 1)).toInt32)] [(.int f), (.long d), (.int (r + 1).toInt32), (.int n.toInt32), (.int (3 : Int32)), (.ref b11)])) rfl (by rw [hml]; rfl) rfl (by show 2 * 0 + _ ≤ _; exact Nat.le_of_eq rfl) (hb hby at_185) (by decide) (by decide)
  obtain ⟨rfl, Nq29, hh29⟩ := hQ29
  rw [hh29] at e29
  have N29 := Fr.app N28 Nq29
  refine Go.st (S' := T29.setTop (mkF m 188 #[.val (.long q0), .second, .val (.int p1), .val (.int p2), .val (.int p3), .val (.long d), .second, .val (.int n.toInt32), .val (.int f), .val (.ref b11), .val (.int (r + 1).toInt32), .val (.int (n + (r + 1)).toInt32)] [(.int (1 : Int32))])) (st29) ?_
  refine Go.st (S' := T29.setTop (mkF m 191 #[.val (.long q0), .second, .val (.int p1), .val (.int p2), .val (.int p3), .val (.long d), .second, .val (.int n.toInt32), .val (.int f), .val (.ref b11), .val (.int (r + 1).toInt32), .val (.int (n + (r + 1)).toInt32)] [])) (fun _ k_ => XS.ifNo X29.here hx rfl (hb hby at_188) rfl ((if0 _ _).trans (feq (by decide)).1) k_) ?_
  refine Go.st (S' := T29.setTop (mkF m 193 #[.val (.long q0), .second, .val (.int p1), .val (.int p2), .val (.int p3), .val (.long d), .second, .val (.int n.toInt32), .val (.int f), .val (.ref b11), .val (.int (r + 1).toInt32), .val (.int (n + (r + 1)).toInt32)] [(.ref b11)])) (fun _ k_ => XS.aload X29.here hx rfl (hb hby at_191) rfl rfl k_) ?_
  refine Go.st (S' := T29.setTop (mkF m 194 #[.val (.long q0), .second, .val (.int p1), .val (.int p2), .val (.int p3), .val (.long d), .second, .val (.int n.toInt32), .val (.int f), .val (.ref b11), .val (.int (r + 1).toInt32), .val (.int (n + (r + 1)).toInt32)] [(.int (4 : Int32)), (.ref b11)])) (fun _ k_ => XS.iconst X29.here hx rfl (hb hby at_193) k_) ?_
  refine Go.st (S' := T29.setTop (mkF m 196 #[.val (.long q0), .second, .val (.int p1), .val (.int p2), .val (.int p3), .val (.long d), .second, .val (.int n.toInt32), .val (.int f), .val (.ref b11), .val (.int (r + 1).toInt32), .val (.int (n + (r + 1)).toInt32)] [(.int n.toInt32), (.int (4 : Int32)), (.ref b11)])) (fun _ k_ => XS.iload X29.here hx rfl (hb hby at_194) rfl k_) ?_
  refine Go.st (S' := T29.setTop (mkF m 198 #[.val (.long q0), .second, .val (.int p1), .val (.int p2), .val (.int p3), .val (.long d), .second, .val (.int n.toInt32), .val (.int f), .val (.ref b11), .val (.int (r + 1).toInt32), .val (.int (n + (r + 1)).toInt32)] [(.int (r + 1).toInt32), (.int n.toInt32), (.int (4 : Int32)), (.ref b11)])) (fun _ k_ => XS.iload X29.here hx rfl (hb hby at_196) rfl k_) ?_
  refine Go.st (S' := T29.setTop (mkF m 200 #[.val (.long q0), .second, .val (.int p1), .val (.int p2), .val (.int p3), .val (.long d), .second, .val (.int n.toInt32), .val (.int f), .val (.ref b11), .val (.int (r + 1).toInt32), .val (.int (n + (r + 1)).toInt32)] [(.long d), (.int (r + 1).toInt32), (.int n.toInt32), (.int (4 : Int32)), (.ref b11)])) (fun _ k_ => XS.lload X29.here hx rfl (hb hby at_198) rfl k_) ?_
  refine Go.st (S' := T29.setTop (mkF m 202 #[.val (.long q0), .second, .val (.int p1), .val (.int p2), .val (.int p3), .val (.long d), .second, .val (.int n.toInt32), .val (.int f), .val (.ref b11), .val (.int (r + 1).toInt32), .val (.int (n + (r + 1)).toInt32)] [(.int f), (.long d), (.int (r + 1).toInt32), (.int n.toInt32), (.int (4 : Int32)), (.ref b11)])) (fun _ k_ => XS.iload X29.here hx rfl (hb hby at_200) rfl k_) ?_
  obtain ⟨v30, T30, h30, L30, X30, e30, hQ30, st30⟩ := callSt X29 hx hZ hown (w11 hw) (w12 hw) (w4 hw) (w13 hw) (by decide) (W := 0) (argsL := [(.ref b11), (.int (4 : Int32)), (.int n.toInt32), (.int (r + 1).toInt32), (.long d), (.int f)]) (rest := []) e29 (rm_ok l Z a0 hw b11 (4 : Int32) n.toInt32 (r + 1).toInt32 d f ys25 h25 n0 Z0 A_b11 (by decide) (own_cell hW25 (by omega) r9 (own_hlast hh2) 4 (by decide))) (by decide) (by decide) pd2 rfl (g := (mkF m 202 #[.val (.long q0), .second, .val (.int p1), .val (.int p2), .val (.int p3), .val (.long d), .second, .val (.int n.toInt32), .val (.int f), .val (.ref b11), .val (.int (r + 1).toInt32), .val (.int (n + (r + 1)).toInt32)] [(.int f), (.long d), (.int (r + 1).toInt32), (.int n.toInt32), (.int (4 : Int32)), (.ref b11)])) rfl (by rw [hml]; rfl) rfl (by show 2 * 0 + _ ≤ _; exact Nat.le_of_eq rfl) (hb hby at_202) (by decide) (by decide)
  obtain ⟨rfl, Nq30, hh30⟩ := hQ30
  rw [hh30] at e30
  have N30 := Fr.app N29 Nq30
  refine Go.st (S' := T30.setTop (mkF m 205 #[.val (.long q0), .second, .val (.int p1), .val (.int p2), .val (.int p3), .val (.long d), .second, .val (.int n.toInt32), .val (.int f), .val (.ref b11), .val (.int (r + 1).toInt32), .val (.int (n + (r + 1)).toInt32)] [(.int (1 : Int32))])) (st30) ?_
  refine Go.st (S' := T30.setTop (mkF m 208 #[.val (.long q0), .second, .val (.int p1), .val (.int p2), .val (.int p3), .val (.long d), .second, .val (.int n.toInt32), .val (.int f), .val (.ref b11), .val (.int (r + 1).toInt32), .val (.int (n + (r + 1)).toInt32)] [])) (fun _ k_ => XS.ifNo X30.here hx rfl (hb hby at_205) rfl ((if0 _ _).trans (feq (by decide)).1) k_) ?_
  refine Go.st (S' := T30.setTop (mkF m 210 #[.val (.long q0), .second, .val (.int p1), .val (.int p2), .val (.int p3), .val (.long d), .second, .val (.int n.toInt32), .val (.int f), .val (.ref b11), .val (.int (r + 1).toInt32), .val (.int (n + (r + 1)).toInt32)] [(.ref b11)])) (fun _ k_ => XS.aload X30.here hx rfl (hb hby at_208) rfl rfl k_) ?_
  refine Go.st (S' := T30.setTop (mkF m 211 #[.val (.long q0), .second, .val (.int p1), .val (.int p2), .val (.int p3), .val (.long d), .second, .val (.int n.toInt32), .val (.int f), .val (.ref b11), .val (.int (r + 1).toInt32), .val (.int (n + (r + 1)).toInt32)] [(.int (5 : Int32)), (.ref b11)])) (fun _ k_ => XS.iconst X30.here hx rfl (hb hby at_210) k_) ?_
  refine Go.st (S' := T30.setTop (mkF m 213 #[.val (.long q0), .second, .val (.int p1), .val (.int p2), .val (.int p3), .val (.long d), .second, .val (.int n.toInt32), .val (.int f), .val (.ref b11), .val (.int (r + 1).toInt32), .val (.int (n + (r + 1)).toInt32)] [(.int n.toInt32), (.int (5 : Int32)), (.ref b11)])) (fun _ k_ => XS.iload X30.here hx rfl (hb hby at_211) rfl k_) ?_
  refine Go.st (S' := T30.setTop (mkF m 215 #[.val (.long q0), .second, .val (.int p1), .val (.int p2), .val (.int p3), .val (.long d), .second, .val (.int n.toInt32), .val (.int f), .val (.ref b11), .val (.int (r + 1).toInt32), .val (.int (n + (r + 1)).toInt32)] [(.int (r + 1).toInt32), (.int n.toInt32), (.int (5 : Int32)), (.ref b11)])) (fun _ k_ => XS.iload X30.here hx rfl (hb hby at_213) rfl k_) ?_
  refine Go.st (S' := T30.setTop (mkF m 217 #[.val (.long q0), .second, .val (.int p1), .val (.int p2), .val (.int p3), .val (.long d), .second, .val (.int n.toInt32), .val (.int f), .val (.ref b11), .val (.int (r + 1).toInt32), .val (.int (n + (r + 1)).toInt32)] [(.long d), (.int (r + 1).toInt32), (.int n.toInt32), (.int (5 : Int32)), (.ref b11)])) (fun _ k_ => XS.lload X30.here hx rfl (hb hby at_215) rfl k_) ?_
  refine Go.st (S' := T30.setTop (mkF m 219 #[.val (.long q0), .second, .val (.int p1), .val (.int p2), .val (.int p3), .val (.long d), .second, .val (.int n.toInt32), .val (.int f), .val (.ref b11), .val (.int (r + 1).toInt32), .val (.int (n + (r + 1)).toInt32)] [(.int f), (.long d), (.int (r + 1).toInt32), (.int n.toInt32), (.int (5 : Int32)), (.ref b11)])) (fun _ k_ => XS.iload X30.here hx rfl (hb hby at_217) rfl k_) ?_
  obtain ⟨v31, T31, h31, L31, X31, e31, hQ31, st31⟩ := callSt X30 hx hZ hown (w11 hw) (w12 hw) (w4 hw) (w13 hw) (by decide) (W := 0) (argsL := [(.ref b11), (.int (5 : Int32)), (.int n.toInt32), (.int (r + 1).toInt32), (.long d), (.int f)]) (rest := []) e30 (rm_ok l Z a0 hw b11 (5 : Int32) n.toInt32 (r + 1).toInt32 d f ys25 h25 n0 Z0 A_b11 (by decide) (own_cell hW25 (by omega) r9 (own_hlast hh2) 5 (by decide))) (by decide) (by decide) pd2 rfl (g := (mkF m 219 #[.val (.long q0), .second, .val (.int p1), .val (.int p2), .val (.int p3), .val (.long d), .second, .val (.int n.toInt32), .val (.int f), .val (.ref b11), .val (.int (r + 1).toInt32), .val (.int (n + (r + 1)).toInt32)] [(.int f), (.long d), (.int (r + 1).toInt32), (.int n.toInt32), (.int (5 : Int32)), (.ref b11)])) rfl (by rw [hml]; rfl) rfl (by show 2 * 0 + _ ≤ _; exact Nat.le_of_eq rfl) (hb hby at_219) (by decide) (by decide)
  obtain ⟨rfl, Nq31, hh31⟩ := hQ31
  rw [hh31] at e31
  have N31 := Fr.app N30 Nq31
  refine Go.st (S' := T31.setTop (mkF m 222 #[.val (.long q0), .second, .val (.int p1), .val (.int p2), .val (.int p3), .val (.long d), .second, .val (.int n.toInt32), .val (.int f), .val (.ref b11), .val (.int (r + 1).toInt32), .val (.int (n + (r + 1)).toInt32)] [(.int (1 : Int32))])) (st31) ?_
  refine Go.st (S' := T31.setTop (mkF m 225 #[.val (.long q0), .second, .val (.int p1), .val (.int p2), .val (.int p3), .val (.long d), .second, .val (.int n.toInt32), .val (.int f), .val (.ref b11), .val (.int (r + 1).toInt32), .val (.int (n + (r + 1)).toInt32)] [])) (fun _ k_ => XS.ifNo X31.here hx rfl (hb hby at_222) rfl ((if0 _ _).trans (feq (by decide)).1) k_) ?_
  refine Go.st (S' := T31.setTop (mkF m 227 #[.val (.long q0), .second, .val (.int p1), .val (.int p2), .val (.int p3), .val (.long d), .second, .val (.int n.toInt32), .val (.int f), .val (.ref b11), .val (.int (r + 1).toInt32), .val (.int (n + (r + 1)).toInt32)] [(.ref b11)])) (fun _ k_ => XS.aload X31.here hx rfl (hb hby at_225) rfl rfl k_) ?_
  refine Go.st (S' := T31.setTop (mkF m 229 #[.val (.long q0), .second, .val (.int p1), .val (.int p2), .val (.int p3), .val (.long d), .second, .val (.int n.toInt32), .val (.int f), .val (.ref b11), .val (.int (r + 1).toInt32), .val (.int (n + (r + 1)).toInt32)] [(.int (6 : Int32)), (.ref b11)])) (fun _ k_ => XS.bipush X31.here hx rfl (hb hby at_227) k_) ?_
  refine Go.st (S' := T31.setTop (mkF m 231 #[.val (.long q0), .second, .val (.int p1), .val (.int p2), .val (.int p3), .val (.long d), .second, .val (.int n.toInt32), .val (.int f), .val (.ref b11), .val (.int (r + 1).toInt32), .val (.int (n + (r + 1)).toInt32)] [(.int n.toInt32), (.int (6 : Int32)), (.ref b11)])) (fun _ k_ => XS.iload X31.here hx rfl (hb hby at_229) rfl k_) ?_
  refine Go.st (S' := T31.setTop (mkF m 233 #[.val (.long q0), .second, .val (.int p1), .val (.int p2), .val (.int p3), .val (.long d), .second, .val (.int n.toInt32), .val (.int f), .val (.ref b11), .val (.int (r + 1).toInt32), .val (.int (n + (r + 1)).toInt32)] [(.int (r + 1).toInt32), (.int n.toInt32), (.int (6 : Int32)), (.ref b11)])) (fun _ k_ => XS.iload X31.here hx rfl (hb hby at_231) rfl k_) ?_
  refine Go.st (S' := T31.setTop (mkF m 235 #[.val (.long q0), .second, .val (.int p1), .val (.int p2), .val (.int p3), .val (.long d), .second, .val (.int n.toInt32), .val (.int f), .val (.ref b11), .val (.int (r + 1).toInt32), .val (.int (n + (r + 1)).toInt32)] [(.long d), (.int (r + 1).toInt32), (.int n.toInt32), (.int (6 : Int32)), (.ref b11)])) (fun _ k_ => XS.lload X31.here hx rfl (hb hby at_233) rfl k_) ?_
  refine Go.st (S' := T31.setTop (mkF m 237 #[.val (.long q0), .second, .val (.int p1), .val (.int p2), .val (.int p3), .val (.long d), .second, .val (.int n.toInt32), .val (.int f), .val (.ref b11), .val (.int (r + 1).toInt32), .val (.int (n + (r + 1)).toInt32)] [(.int f), (.long d), (.int (r + 1).toInt32), (.int n.toInt32), (.int (6 : Int32)), (.ref b11)])) (fun _ k_ => XS.iload X31.here hx rfl (hb hby at_235) rfl k_) ?_
  obtain ⟨v32, T32, h32, L32, X32, e32, hQ32, st32⟩ := callSt X31 hx hZ hown (w11 hw) (w12 hw) (w4 hw) (w13 hw) (by decide) (W := 0) (argsL := [(.ref b11), (.int (6 : Int32)), (.int n.toInt32), (.int (r + 1).toInt32), (.long d), (.int f)]) (rest := []) e31 (rm_ok l Z a0 hw b11 (6 : Int32) n.toInt32 (r + 1).toInt32 d f ys25 h25 n0 Z0 A_b11 (by decide) (own_cell hW25 (by omega) r9 (own_hlast hh2) 6 (by decide))) (by decide) (by decide) pd2 rfl (g := (mkF m 237 #[.val (.long q0), .second, .val (.int p1), .val (.int p2), .val (.int p3), .val (.long d), .second, .val (.int n.toInt32), .val (.int f), .val (.ref b11), .val (.int (r + 1).toInt32), .val (.int (n + (r + 1)).toInt32)] [(.int f), (.long d), (.int (r + 1).toInt32), (.int n.toInt32), (.int (6 : Int32)), (.ref b11)])) rfl (by rw [hml]; rfl) rfl (by show 2 * 0 + _ ≤ _; exact Nat.le_of_eq rfl) (hb hby at_237) (by decide) (by decide)
  obtain ⟨rfl, Nq32, hh32⟩ := hQ32
  rw [hh32] at e32
  have N32 := Fr.app N31 Nq32
  refine Go.st (S' := T32.setTop (mkF m 240 #[.val (.long q0), .second, .val (.int p1), .val (.int p2), .val (.int p3), .val (.long d), .second, .val (.int n.toInt32), .val (.int f), .val (.ref b11), .val (.int (r + 1).toInt32), .val (.int (n + (r + 1)).toInt32)] [(.int (1 : Int32))])) (st32) ?_
  refine Go.st (S' := T32.setTop (mkF m 243 #[.val (.long q0), .second, .val (.int p1), .val (.int p2), .val (.int p3), .val (.long d), .second, .val (.int n.toInt32), .val (.int f), .val (.ref b11), .val (.int (r + 1).toInt32), .val (.int (n + (r + 1)).toInt32)] [])) (fun _ k_ => XS.ifNo X32.here hx rfl (hb hby at_240) rfl ((if0 _ _).trans (feq (by decide)).1) k_) ?_
  refine Go.st (S' := T32.setTop (mkF m 245 #[.val (.long q0), .second, .val (.int p1), .val (.int p2), .val (.int p3), .val (.long d), .second, .val (.int n.toInt32), .val (.int f), .val (.ref b11), .val (.int (r + 1).toInt32), .val (.int (n + (r + 1)).toInt32)] [(.ref b11)])) (fun _ k_ => XS.aload X32.here hx rfl (hb hby at_243) rfl rfl k_) ?_
  refine Go.st (S' := T32.setTop (mkF m 247 #[.val (.long q0), .second, .val (.int p1), .val (.int p2), .val (.int p3), .val (.long d), .second, .val (.int n.toInt32), .val (.int f), .val (.ref b11), .val (.int (r + 1).toInt32), .val (.int (n + (r + 1)).toInt32)] [(.int (7 : Int32)), (.ref b11)])) (fun _ k_ => XS.bipush X32.here hx rfl (hb hby at_245) k_) ?_
  refine Go.st (S' := T32.setTop (mkF m 249 #[.val (.long q0), .second, .val (.int p1), .val (.int p2), .val (.int p3), .val (.long d), .second, .val (.int n.toInt32), .val (.int f), .val (.ref b11), .val (.int (r + 1).toInt32), .val (.int (n + (r + 1)).toInt32)] [(.int n.toInt32), (.int (7 : Int32)), (.ref b11)])) (fun _ k_ => XS.iload X32.here hx rfl (hb hby at_247) rfl k_) ?_
  refine Go.st (S' := T32.setTop (mkF m 251 #[.val (.long q0), .second, .val (.int p1), .val (.int p2), .val (.int p3), .val (.long d), .second, .val (.int n.toInt32), .val (.int f), .val (.ref b11), .val (.int (r + 1).toInt32), .val (.int (n + (r + 1)).toInt32)] [(.int (r + 1).toInt32), (.int n.toInt32), (.int (7 : Int32)), (.ref b11)])) (fun _ k_ => XS.iload X32.here hx rfl (hb hby at_249) rfl k_) ?_
  refine Go.st (S' := T32.setTop (mkF m 253 #[.val (.long q0), .second, .val (.int p1), .val (.int p2), .val (.int p3), .val (.long d), .second, .val (.int n.toInt32), .val (.int f), .val (.ref b11), .val (.int (r + 1).toInt32), .val (.int (n + (r + 1)).toInt32)] [(.long d), (.int (r + 1).toInt32), (.int n.toInt32), (.int (7 : Int32)), (.ref b11)])) (fun _ k_ => XS.lload X32.here hx rfl (hb hby at_251) rfl k_) ?_
  refine Go.st (S' := T32.setTop (mkF m 255 #[.val (.long q0), .second, .val (.int p1), .val (.int p2), .val (.int p3), .val (.long d), .second, .val (.int n.toInt32), .val (.int f), .val (.ref b11), .val (.int (r + 1).toInt32), .val (.int (n + (r + 1)).toInt32)] [(.int f), (.long d), (.int (r + 1).toInt32), (.int n.toInt32), (.int (7 : Int32)), (.ref b11)])) (fun _ k_ => XS.iload X32.here hx rfl (hb hby at_253) rfl k_) ?_
  obtain ⟨v33, T33, h33, L33, X33, e33, hQ33, st33⟩ := callSt X32 hx hZ hown (w11 hw) (w12 hw) (w4 hw) (w13 hw) (by decide) (W := 0) (argsL := [(.ref b11), (.int (7 : Int32)), (.int n.toInt32), (.int (r + 1).toInt32), (.long d), (.int f)]) (rest := []) e32 (rm_ok l Z a0 hw b11 (7 : Int32) n.toInt32 (r + 1).toInt32 d f ys25 h25 n0 Z0 A_b11 (by decide) (own_cell hW25 (by omega) r9 (own_hlast hh2) 7 (by decide))) (by decide) (by decide) pd2 rfl (g := (mkF m 255 #[.val (.long q0), .second, .val (.int p1), .val (.int p2), .val (.int p3), .val (.long d), .second, .val (.int n.toInt32), .val (.int f), .val (.ref b11), .val (.int (r + 1).toInt32), .val (.int (n + (r + 1)).toInt32)] [(.int f), (.long d), (.int (r + 1).toInt32), (.int n.toInt32), (.int (7 : Int32)), (.ref b11)])) rfl (by rw [hml]; rfl) rfl (by show 2 * 0 + _ ≤ _; exact Nat.le_of_eq rfl) (hb hby at_255) (by decide) (by decide)
  obtain ⟨rfl, Nq33, hh33⟩ := hQ33
  rw [hh33] at e33
  have N33 := Fr.app N32 Nq33
  refine Go.st (S' := T33.setTop (mkF m 258 #[.val (.long q0), .second, .val (.int p1), .val (.int p2), .val (.int p3), .val (.long d), .second, .val (.int n.toInt32), .val (.int f), .val (.ref b11), .val (.int (r + 1).toInt32), .val (.int (n + (r + 1)).toInt32)] [(.int (1 : Int32))])) (st33) ?_
  refine Go.st (S' := T33.setTop (mkF m 261 #[.val (.long q0), .second, .val (.int p1), .val (.int p2), .val (.int p3), .val (.long d), .second, .val (.int n.toInt32), .val (.int f), .val (.ref b11), .val (.int (r + 1).toInt32), .val (.int (n + (r + 1)).toInt32)] [])) (fun _ k_ => XS.ifNo X33.here hx rfl (hb hby at_258) rfl ((if0 _ _).trans (feq (by decide)).1) k_) ?_
  refine Go.st (S' := T33.setTop (mkF m 263 #[.val (.long q0), .second, .val (.int p1), .val (.int p2), .val (.int p3), .val (.long d), .second, .val (.int n.toInt32), .val (.int f), .val (.ref b11), .val (.int (r + 1).toInt32), .val (.int (n + (r + 1)).toInt32)] [(.ref b11)])) (fun _ k_ => XS.aload X33.here hx rfl (hb hby at_261) rfl rfl k_) ?_
  refine Go.st (S' := T33.setTop (mkF m 265 #[.val (.long q0), .second, .val (.int p1), .val (.int p2), .val (.int p3), .val (.long d), .second, .val (.int n.toInt32), .val (.int f), .val (.ref b11), .val (.int (r + 1).toInt32), .val (.int (n + (r + 1)).toInt32)] [(.int (8 : Int32)), (.ref b11)])) (fun _ k_ => XS.bipush X33.here hx rfl (hb hby at_263) k_) ?_
  refine Go.st (S' := T33.setTop (mkF m 267 #[.val (.long q0), .second, .val (.int p1), .val (.int p2), .val (.int p3), .val (.long d), .second, .val (.int n.toInt32), .val (.int f), .val (.ref b11), .val (.int (r + 1).toInt32), .val (.int (n + (r + 1)).toInt32)] [(.int n.toInt32), (.int (8 : Int32)), (.ref b11)])) (fun _ k_ => XS.iload X33.here hx rfl (hb hby at_265) rfl k_) ?_
  refine Go.st (S' := T33.setTop (mkF m 269 #[.val (.long q0), .second, .val (.int p1), .val (.int p2), .val (.int p3), .val (.long d), .second, .val (.int n.toInt32), .val (.int f), .val (.ref b11), .val (.int (r + 1).toInt32), .val (.int (n + (r + 1)).toInt32)] [(.int (r + 1).toInt32), (.int n.toInt32), (.int (8 : Int32)), (.ref b11)])) (fun _ k_ => XS.iload X33.here hx rfl (hb hby at_267) rfl k_) ?_
  refine Go.st (S' := T33.setTop (mkF m 271 #[.val (.long q0), .second, .val (.int p1), .val (.int p2), .val (.int p3), .val (.long d), .second, .val (.int n.toInt32), .val (.int f), .val (.ref b11), .val (.int (r + 1).toInt32), .val (.int (n + (r + 1)).toInt32)] [(.long d), (.int (r + 1).toInt32), (.int n.toInt32), (.int (8 : Int32)), (.ref b11)])) (fun _ k_ => XS.lload X33.here hx rfl (hb hby at_269) rfl k_) ?_
  refine Go.st (S' := T33.setTop (mkF m 273 #[.val (.long q0), .second, .val (.int p1), .val (.int p2), .val (.int p3), .val (.long d), .second, .val (.int n.toInt32), .val (.int f), .val (.ref b11), .val (.int (r + 1).toInt32), .val (.int (n + (r + 1)).toInt32)] [(.int f), (.long d), (.int (r + 1).toInt32), (.int n.toInt32), (.int (8 : Int32)), (.ref b11)])) (fun _ k_ => XS.iload X33.here hx rfl (hb hby at_271) rfl k_) ?_
  obtain ⟨v34, T34, h34, L34, X34, e34, hQ34, st34⟩ := callSt X33 hx hZ hown (w11 hw) (w12 hw) (w4 hw) (w13 hw) (by decide) (W := 0) (argsL := [(.ref b11), (.int (8 : Int32)), (.int n.toInt32), (.int (r + 1).toInt32), (.long d), (.int f)]) (rest := []) e33 (rm_ok l Z a0 hw b11 (8 : Int32) n.toInt32 (r + 1).toInt32 d f ys25 h25 n0 Z0 A_b11 (by decide) (own_cell hW25 (by omega) r9 (own_hlast hh2) 8 (by decide))) (by decide) (by decide) pd2 rfl (g := (mkF m 273 #[.val (.long q0), .second, .val (.int p1), .val (.int p2), .val (.int p3), .val (.long d), .second, .val (.int n.toInt32), .val (.int f), .val (.ref b11), .val (.int (r + 1).toInt32), .val (.int (n + (r + 1)).toInt32)] [(.int f), (.long d), (.int (r + 1).toInt32), (.int n.toInt32), (.int (8 : Int32)), (.ref b11)])) rfl (by rw [hml]; rfl) rfl (by show 2 * 0 + _ ≤ _; exact Nat.le_of_eq rfl) (hb hby at_273) (by decide) (by decide)
  obtain ⟨rfl, Nq34, hh34⟩ := hQ34
  rw [hh34] at e34
  have N34 := Fr.app N33 Nq34
  refine Go.st (S' := T34.setTop (mkF m 276 #[.val (.long q0), .second, .val (.int p1), .val (.int p2), .val (.int p3), .val (.long d), .second, .val (.int n.toInt32), .val (.int f), .val (.ref b11), .val (.int (r + 1).toInt32), .val (.int (n + (r + 1)).toInt32)] [(.int (1 : Int32))])) (st34) ?_
  refine Go.st (S' := T34.setTop (mkF m 279 #[.val (.long q0), .second, .val (.int p1), .val (.int p2), .val (.int p3), .val (.long d), .second, .val (.int n.toInt32), .val (.int f), .val (.ref b11), .val (.int (r + 1).toInt32), .val (.int (n + (r + 1)).toInt32)] [])) (fun _ k_ => XS.ifNo X34.here hx rfl (hb hby at_276) rfl ((if0 _ _).trans (feq (by decide)).1) k_) ?_
  refine Go.st (S' := T34.setTop (mkF m 281 #[.val (.long q0), .second, .val (.int p1), .val (.int p2), .val (.int p3), .val (.long d), .second, .val (.int n.toInt32), .val (.int f), .val (.ref b11), .val (.int (r + 1).toInt32), .val (.int (n + (r + 1)).toInt32)] [(.ref b11)])) (fun _ k_ => XS.aload X34.here hx rfl (hb hby at_279) rfl rfl k_) ?_
  refine Go.st (S' := T34.setTop (mkF m 283 #[.val (.long q0), .second, .val (.int p1), .val (.int p2), .val (.int p3), .val (.long d), .second, .val (.int n.toInt32), .val (.int f), .val (.ref b11), .val (.int (r + 1).toInt32), .val (.int (n + (r + 1)).toInt32)] [(.int (9 : Int32)), (.ref b11)])) (fun _ k_ => XS.bipush X34.here hx rfl (hb hby at_281) k_) ?_
  refine Go.st (S' := T34.setTop (mkF m 285 #[.val (.long q0), .second, .val (.int p1), .val (.int p2), .val (.int p3), .val (.long d), .second, .val (.int n.toInt32), .val (.int f), .val (.ref b11), .val (.int (r + 1).toInt32), .val (.int (n + (r + 1)).toInt32)] [(.int n.toInt32), (.int (9 : Int32)), (.ref b11)])) (fun _ k_ => XS.iload X34.here hx rfl (hb hby at_283) rfl k_) ?_
  refine Go.st (S' := T34.setTop (mkF m 287 #[.val (.long q0), .second, .val (.int p1), .val (.int p2), .val (.int p3), .val (.long d), .second, .val (.int n.toInt32), .val (.int f), .val (.ref b11), .val (.int (r + 1).toInt32), .val (.int (n + (r + 1)).toInt32)] [(.int (r + 1).toInt32), (.int n.toInt32), (.int (9 : Int32)), (.ref b11)])) (fun _ k_ => XS.iload X34.here hx rfl (hb hby at_285) rfl k_) ?_
  refine Go.st (S' := T34.setTop (mkF m 289 #[.val (.long q0), .second, .val (.int p1), .val (.int p2), .val (.int p3), .val (.long d), .second, .val (.int n.toInt32), .val (.int f), .val (.ref b11), .val (.int (r + 1).toInt32), .val (.int (n + (r + 1)).toInt32)] [(.long d), (.int (r + 1).toInt32), (.int n.toInt32), (.int (9 : Int32)), (.ref b11)])) (fun _ k_ => XS.lload X34.here hx rfl (hb hby at_287) rfl k_) ?_
  refine Go.st (S' := T34.setTop (mkF m 291 #[.val (.long q0), .second, .val (.int p1), .val (.int p2), .val (.int p3), .val (.long d), .second, .val (.int n.toInt32), .val (.int f), .val (.ref b11), .val (.int (r + 1).toInt32), .val (.int (n + (r + 1)).toInt32)] [(.int f), (.long d), (.int (r + 1).toInt32), (.int n.toInt32), (.int (9 : Int32)), (.ref b11)])) (fun _ k_ => XS.iload X34.here hx rfl (hb hby at_289) rfl k_) ?_
  obtain ⟨v35, T35, h35, L35, X35, e35, hQ35, st35⟩ := callSt X34 hx hZ hown (w11 hw) (w12 hw) (w4 hw) (w13 hw) (by decide) (W := 0) (argsL := [(.ref b11), (.int (9 : Int32)), (.int n.toInt32), (.int (r + 1).toInt32), (.long d), (.int f)]) (rest := []) e34 (rm_ok l Z a0 hw b11 (9 : Int32) n.toInt32 (r + 1).toInt32 d f ys25 h25 n0 Z0 A_b11 (by decide) (own_cell hW25 (by omega) r9 (own_hlast hh2) 9 (by decide))) (by decide) (by decide) pd2 rfl (g := (mkF m 291 #[.val (.long q0), .second, .val (.int p1), .val (.int p2), .val (.int p3), .val (.long d), .second, .val (.int n.toInt32), .val (.int f), .val (.ref b11), .val (.int (r + 1).toInt32), .val (.int (n + (r + 1)).toInt32)] [(.int f), (.long d), (.int (r + 1).toInt32), (.int n.toInt32), (.int (9 : Int32)), (.ref b11)])) rfl (by rw [hml]; rfl) rfl (by show 2 * 0 + _ ≤ _; exact Nat.le_of_eq rfl) (hb hby at_291) (by decide) (by decide)
  obtain ⟨rfl, Nq35, hh35⟩ := hQ35
  rw [hh35] at e35
  have N35 := Fr.app N34 Nq35
  refine Go.st (S' := T35.setTop (mkF m 294 #[.val (.long q0), .second, .val (.int p1), .val (.int p2), .val (.int p3), .val (.long d), .second, .val (.int n.toInt32), .val (.int f), .val (.ref b11), .val (.int (r + 1).toInt32), .val (.int (n + (r + 1)).toInt32)] [(.int (1 : Int32))])) (st35) ?_
  refine Go.st (S' := T35.setTop (mkF m 297 #[.val (.long q0), .second, .val (.int p1), .val (.int p2), .val (.int p3), .val (.long d), .second, .val (.int n.toInt32), .val (.int f), .val (.ref b11), .val (.int (r + 1).toInt32), .val (.int (n + (r + 1)).toInt32)] [])) (fun _ k_ => XS.ifNo X35.here hx rfl (hb hby at_294) rfl ((if0 _ _).trans (feq (by decide)).1) k_) ?_
  refine Go.st (S' := T35.setTop (mkF m 299 #[.val (.long q0), .second, .val (.int p1), .val (.int p2), .val (.int p3), .val (.long d), .second, .val (.int n.toInt32), .val (.int f), .val (.ref b11), .val (.int (r + 1).toInt32), .val (.int (n + (r + 1)).toInt32)] [(.ref b11)])) (fun _ k_ => XS.aload X35.here hx rfl (hb hby at_297) rfl rfl k_) ?_
  refine Go.st (S' := T35.setTop (mkF m 301 #[.val (.long q0), .second, .val (.int p1), .val (.int p2), .val (.int p3), .val (.long d), .second, .val (.int n.toInt32), .val (.int f), .val (.ref b11), .val (.int (r + 1).toInt32), .val (.int (n + (r + 1)).toInt32)] [(.int (10 : Int32)), (.ref b11)])) (fun _ k_ => XS.bipush X35.here hx rfl (hb hby at_299) k_) ?_
  refine Go.st (S' := T35.setTop (mkF m 303 #[.val (.long q0), .second, .val (.int p1), .val (.int p2), .val (.int p3), .val (.long d), .second, .val (.int n.toInt32), .val (.int f), .val (.ref b11), .val (.int (r + 1).toInt32), .val (.int (n + (r + 1)).toInt32)] [(.int n.toInt32), (.int (10 : Int32)), (.ref b11)])) (fun _ k_ => XS.iload X35.here hx rfl (hb hby at_301) rfl k_) ?_
  refine Go.st (S' := T35.setTop (mkF m 305 #[.val (.long q0), .second, .val (.int p1), .val (.int p2), .val (.int p3), .val (.long d), .second, .val (.int n.toInt32), .val (.int f), .val (.ref b11), .val (.int (r + 1).toInt32), .val (.int (n + (r + 1)).toInt32)] [(.int (r + 1).toInt32), (.int n.toInt32), (.int (10 : Int32)), (.ref b11)])) (fun _ k_ => XS.iload X35.here hx rfl (hb hby at_303) rfl k_) ?_
  refine Go.st (S' := T35.setTop (mkF m 307 #[.val (.long q0), .second, .val (.int p1), .val (.int p2), .val (.int p3), .val (.long d), .second, .val (.int n.toInt32), .val (.int f), .val (.ref b11), .val (.int (r + 1).toInt32), .val (.int (n + (r + 1)).toInt32)] [(.long d), (.int (r + 1).toInt32), (.int n.toInt32), (.int (10 : Int32)), (.ref b11)])) (fun _ k_ => XS.lload X35.here hx rfl (hb hby at_305) rfl k_) ?_
  refine Go.st (S' := T35.setTop (mkF m 309 #[.val (.long q0), .second, .val (.int p1), .val (.int p2), .val (.int p3), .val (.long d), .second, .val (.int n.toInt32), .val (.int f), .val (.ref b11), .val (.int (r + 1).toInt32), .val (.int (n + (r + 1)).toInt32)] [(.int f), (.long d), (.int (r + 1).toInt32), (.int n.toInt32), (.int (10 : Int32)), (.ref b11)])) (fun _ k_ => XS.iload X35.here hx rfl (hb hby at_307) rfl k_) ?_
  obtain ⟨v36, T36, h36, L36, X36, e36, hQ36, st36⟩ := callSt X35 hx hZ hown (w11 hw) (w12 hw) (w4 hw) (w13 hw) (by decide) (W := 0) (argsL := [(.ref b11), (.int (10 : Int32)), (.int n.toInt32), (.int (r + 1).toInt32), (.long d), (.int f)]) (rest := []) e35 (rm_ok l Z a0 hw b11 (10 : Int32) n.toInt32 (r + 1).toInt32 d f ys25 h25 n0 Z0 A_b11 (by decide) (own_cell hW25 (by omega) r9 (own_hlast hh2) 10 (by decide))) (by decide) (by decide) pd2 rfl (g := (mkF m 309 #[.val (.long q0), .second, .val (.int p1), .val (.int p2), .val (.int p3), .val (.long d), .second, .val (.int n.toInt32), .val (.int f), .val (.ref b11), .val (.int (r + 1).toInt32), .val (.int (n + (r + 1)).toInt32)] [(.int f), (.long d), (.int (r + 1).toInt32), (.int n.toInt32), (.int (10 : Int32)), (.ref b11)])) rfl (by rw [hml]; rfl) rfl (by show 2 * 0 + _ ≤ _; exact Nat.le_of_eq rfl) (hb hby at_309) (by decide) (by decide)
  obtain ⟨rfl, Nq36, hh36⟩ := hQ36
  rw [hh36] at e36
  have N36 := Fr.app N35 Nq36
  refine Go.st (S' := T36.setTop (mkF m 312 #[.val (.long q0), .second, .val (.int p1), .val (.int p2), .val (.int p3), .val (.long d), .second, .val (.int n.toInt32), .val (.int f), .val (.ref b11), .val (.int (r + 1).toInt32), .val (.int (n + (r + 1)).toInt32)] [(.int (1 : Int32))])) (st36) ?_
  refine Go.st (S' := T36.setTop (mkF m 315 #[.val (.long q0), .second, .val (.int p1), .val (.int p2), .val (.int p3), .val (.long d), .second, .val (.int n.toInt32), .val (.int f), .val (.ref b11), .val (.int (r + 1).toInt32), .val (.int (n + (r + 1)).toInt32)] [])) (fun _ k_ => XS.ifNo X36.here hx rfl (hb hby at_312) rfl ((if0 _ _).trans (feq (by decide)).1) k_) ?_
  refine Go.st (S' := T36.setTop (mkF m 317 #[.val (.long q0), .second, .val (.int p1), .val (.int p2), .val (.int p3), .val (.long d), .second, .val (.int n.toInt32), .val (.int f), .val (.ref b11), .val (.int (r + 1).toInt32), .val (.int (n + (r + 1)).toInt32)] [(.ref b11)])) (fun _ k_ => XS.aload X36.here hx rfl (hb hby at_315) rfl rfl k_) ?_
  refine Go.st (S' := T36.setTop (mkF m 319 #[.val (.long q0), .second, .val (.int p1), .val (.int p2), .val (.int p3), .val (.long d), .second, .val (.int n.toInt32), .val (.int f), .val (.ref b11), .val (.int (r + 1).toInt32), .val (.int (n + (r + 1)).toInt32)] [(.int (11 : Int32)), (.ref b11)])) (fun _ k_ => XS.bipush X36.here hx rfl (hb hby at_317) k_) ?_
  refine Go.st (S' := T36.setTop (mkF m 321 #[.val (.long q0), .second, .val (.int p1), .val (.int p2), .val (.int p3), .val (.long d), .second, .val (.int n.toInt32), .val (.int f), .val (.ref b11), .val (.int (r + 1).toInt32), .val (.int (n + (r + 1)).toInt32)] [(.int n.toInt32), (.int (11 : Int32)), (.ref b11)])) (fun _ k_ => XS.iload X36.here hx rfl (hb hby at_319) rfl k_) ?_
  refine Go.st (S' := T36.setTop (mkF m 323 #[.val (.long q0), .second, .val (.int p1), .val (.int p2), .val (.int p3), .val (.long d), .second, .val (.int n.toInt32), .val (.int f), .val (.ref b11), .val (.int (r + 1).toInt32), .val (.int (n + (r + 1)).toInt32)] [(.int (r + 1).toInt32), (.int n.toInt32), (.int (11 : Int32)), (.ref b11)])) (fun _ k_ => XS.iload X36.here hx rfl (hb hby at_321) rfl k_) ?_
  refine Go.st (S' := T36.setTop (mkF m 325 #[.val (.long q0), .second, .val (.int p1), .val (.int p2), .val (.int p3), .val (.long d), .second, .val (.int n.toInt32), .val (.int f), .val (.ref b11), .val (.int (r + 1).toInt32), .val (.int (n + (r + 1)).toInt32)] [(.long d), (.int (r + 1).toInt32), (.int n.toInt32), (.int (11 : Int32)), (.ref b11)])) (fun _ k_ => XS.lload X36.here hx rfl (hb hby at_323) rfl k_) ?_
  refine Go.st (S' := T36.setTop (mkF m 327 #[.val (.long q0), .second, .val (.int p1), .val (.int p2), .val (.int p3), .val (.long d), .second, .val (.int n.toInt32), .val (.int f), .val (.ref b11), .val (.int (r + 1).toInt32), .val (.int (n + (r + 1)).toInt32)] [(.int f), (.long d), (.int (r + 1).toInt32), (.int n.toInt32), (.int (11 : Int32)), (.ref b11)])) (fun _ k_ => XS.iload X36.here hx rfl (hb hby at_325) rfl k_) ?_
  obtain ⟨v37, T37, h37, L37, X37, e37, hQ37, st37⟩ := callSt X36 hx hZ hown (w11 hw) (w12 hw) (w4 hw) (w13 hw) (by decide) (W := 0) (argsL := [(.ref b11), (.int (11 : Int32)), (.int n.toInt32), (.int (r + 1).toInt32), (.long d), (.int f)]) (rest := []) e36 (rm_ok l Z a0 hw b11 (11 : Int32) n.toInt32 (r + 1).toInt32 d f ys25 h25 n0 Z0 A_b11 (by decide) (own_cell hW25 (by omega) r9 (own_hlast hh2) 11 (by decide))) (by decide) (by decide) pd2 rfl (g := (mkF m 327 #[.val (.long q0), .second, .val (.int p1), .val (.int p2), .val (.int p3), .val (.long d), .second, .val (.int n.toInt32), .val (.int f), .val (.ref b11), .val (.int (r + 1).toInt32), .val (.int (n + (r + 1)).toInt32)] [(.int f), (.long d), (.int (r + 1).toInt32), (.int n.toInt32), (.int (11 : Int32)), (.ref b11)])) rfl (by rw [hml]; rfl) rfl (by show 2 * 0 + _ ≤ _; exact Nat.le_of_eq rfl) (hb hby at_327) (by decide) (by decide)
  obtain ⟨rfl, Nq37, hh37⟩ := hQ37
  rw [hh37] at e37
  have N37 := Fr.app N36 Nq37
  refine Go.st (S' := T37.setTop (mkF m 330 #[.val (.long q0), .second, .val (.int p1), .val (.int p2), .val (.int p3), .val (.long d), .second, .val (.int n.toInt32), .val (.int f), .val (.ref b11), .val (.int (r + 1).toInt32), .val (.int (n + (r + 1)).toInt32)] [(.int (1 : Int32))])) (st37) ?_
  refine Go.st (S' := T37.setTop (mkF m 333 #[.val (.long q0), .second, .val (.int p1), .val (.int p2), .val (.int p3), .val (.long d), .second, .val (.int n.toInt32), .val (.int f), .val (.ref b11), .val (.int (r + 1).toInt32), .val (.int (n + (r + 1)).toInt32)] [])) (fun _ k_ => XS.ifNo X37.here hx rfl (hb hby at_330) rfl ((if0 _ _).trans (feq (by decide)).1) k_) ?_
  refine Go.st (S' := T37.setTop (mkF m 334 #[.val (.long q0), .second, .val (.int p1), .val (.int p2), .val (.int p3), .val (.long d), .second, .val (.int n.toInt32), .val (.int f), .val (.ref b11), .val (.int (r + 1).toInt32), .val (.int (n + (r + 1)).toInt32)] [(.int (1 : Int32))])) (fun _ k_ => XS.iconst X37.here hx rfl (hb hby at_333) k_) ?_
  refine Go.st (S' := T37.setTop (mkF m 338 #[.val (.long q0), .second, .val (.int p1), .val (.int p2), .val (.int p3), .val (.long d), .second, .val (.int n.toInt32), .val (.int f), .val (.ref b11), .val (.int (r + 1).toInt32), .val (.int (n + (r + 1)).toInt32)] [(.int (1 : Int32))])) (fun _ k_ => XS.goto X37.here hx rfl (pc0 := 334) (pc' := 338) rfl (hb hby at_334) (by decide) (by decide) k_) ?_
  exact Go.retN X37 hx (t := .boolean) hret (by simp) hlk (hb hby at_338) (by decide) (by decide) ⟨rfl, N37⟩
set_option maxRecDepth 65536 in
set_option maxHeartbeats 40000000 in
theorem comes_1 {Post : Tables → Env → Array Value → State → Outcome → State → Prop} (hpost : ∀ tb e args s v u, (limb_1_1.after args s (.returned v) u = true ∧ limb_1_2.after args s (.returned v) u = true ∧ True) → FrameEnd s (.returned v) u (Jvm.fieldLocs frame_1_writes args s ++ Jvm.arrayLocs frame_1_arrays args s ++ Jvm.staticLocs frame_1_statics s) 16 128 → Post tb e args s (.returned v) u) :
    ArmFor flags0 classFile x code maxLocals ret World_1 tables_1 room_1 Calls_1 rest_1 Pre_1 Post := by
  intro l hfl _ _ p e ha hc hk s m args below hf hA hF happ hP
  obtain ⟨hcalls, hrest, hpre⟩ := hP
  obtain ⟨-, -, -, hnamed, -, -, -, hat⟩ := (Spec.applies_iff hf).mp happ
  obtain ⟨hg, hn⟩ := and_e (Cond.before_iff.mp (show (Jvm.Cond.and given_1 narrow_1).before args s = true from hpre))
  obtain ⟨g1, g2⟩ := and_e hg
  obtain ⟨g3, g4⟩ := and_e g2
  obtain ⟨g5, g6⟩ := and_e g4
  obtain ⟨g7, g8⟩ := and_e g6
  obtain ⟨u0, u1, u2, u3, rfl⟩ : ∃ u0 u1 u2 u3 : Value, args = #[u0, u1, u2, u3] := by
    have hs : args.size = 4 := by simpa [Cond.value, given_1] using g1
    obtain ⟨L⟩ := args
    match L, hs with
    | [u0, u1, u2, u3], _ => exact ⟨u0, u1, u2, u3, rfl⟩
  have hw := fun d (hd : d ∈ tables_1) => atoms_spec (ws := Jvm.Cond.code x code maxLocals ret :: tables_1) hat d (List.mem_cons_of_mem _ hd)
  obtain ⟨i0, ei0⟩ := isL_v g3
  obtain rfl : u0 = (.long i0) := Option.some.inj ei0
  obtain ⟨i1, ei1⟩ := is_v g5
  obtain rfl : u1 = (.int i1) := Option.some.inj ei1
  obtain ⟨i2, ei2⟩ := is_v g7
  obtain rfl : u2 = (.int i2) := Option.some.inj ei2
  obtain ⟨i3, ei3⟩ := is_v g8
  obtain rfl : u3 = (.int i3) := Option.some.inj ei3
  obtain ⟨n, o, h1, h2, h3, v, L, rfl, ⟨hv, N⟩, hq⟩ := rm0 l s _ hw tables_1 i0 i1 i2 i3 s.heap s.heap.size (Nat.le_refl _) p e ha hc hk s m _ below hf ((Spec.applies_iff_loose hf).mp happ).1 ⟨rfl, State.Warmed39.refl s, rfl⟩ trivial
  subst hv
  refine ⟨n, _, h1, h2, h3, hpost _ _ _ _ _ _ ⟨Cond.after_iff.mpr rfl, Cond.after_iff.mpr (eq_i res_at (Term.int_eval (1)) rfl), trivial⟩ ⟨hq.1, hq.2.1, (hq.2.2.sift fun y hy => Or.inr (N y hy)).mono (by decide) (by decide)⟩⟩
theorem main_1_1 : Claimed_1_1 := comes_1 fun _ _ _ _ _ _ h hF => ⟨h.1, hF⟩
theorem main_1_2 : Claimed_1_2 := comes_1 fun _ _ _ _ _ _ h hF => ⟨h.2.1, hF⟩
end Jvm.Pilot.@@N@@
namespace Jvm.Pilot.@@N@@
open Jvm Jvm.ClassFile Sem Op Lib Jvm.Free Jvm.Stand Jvm.Pilot.@@N@@.Jvm.D
/-! MADE BY PROGRAM (witnessworld.py) out of the Statement's table words and the real class files: 9 classes; the members and pool entries that the words name. The judged class is class 1, her method 1. -/
namespace start1
open Jvm.ClassFile
def u (s : String) : CpInfo := .utf8 (stringToUtf16 s)
/-- a pool by its gaps: so many unusable entries, then the entry; so many at the end -/
def gap : Nat → List CpInfo → List CpInfo
  | 0, r => r
  | n + 1, r => .unusable :: gap n r
def poolList (es : List (Nat × CpInfo)) (last : Nat) : List CpInfo := es.foldr (fun e r => gap e.1 (e.2 :: r)) (gap last [])
def pool (es : List (Nat × CpInfo)) (last : Nat) : Array CpInfo := ⟨poolList es last⟩
def fileOf (pool : Array CpInfo) (this : Nat) (attrs : Array Attribute := #[]) (ms : Array MethodInfo := #[]) (fl : Nat := 33) (sup : Nat := 0) (ifs : Array Nat := #[]) (fds : Array FieldInfo := #[]) : ClassFile where
  minorVersion := 0
  majorVersion := 65
  constantPool := pool
  accessFlags := fl
  thisClass := this
  superClass := sup
  interfaces := ifs
  fields := fds
  methods := ms
  attributes := attrs
def plain (name : String) (sup : Option ClassId) : Class where
  name := name
  kind := .ordinary
  loader := none
  accessFlags := 33
  super := sup
  interfaces := #[]
  cf := none
  fields := #[]
  methods := #[]
  instanceTypes := #[]
  staticTypes := #[]
  resolved := #[]
  callSites := []
  init := .initialized
  statics := none
  mirror := none

def pool0 : Array CpInfo := pool [(5, u "<init>"), (0, u "()V"), (1, .class_ 10), (1, u "java/lang/Object")] 113

def k0m0 : Method := { name := "<init>", desc := "()V", sig := { parameters := [], returnType := none }, accessFlags := 1, code := none }
/-- java/lang/Object -/
def k0 : Class := { plain "java/lang/Object" none with
  accessFlags := 33
  interfaces := #[]
  cf := some (fileOf pool0 8 #[] #[{ accessFlags := 1, nameIndex := 5, descriptorIndex := 6, attributes := #[] }] 33 0 #[] #[])
  fields := #[]
  methods := #[k0m0]
  instanceTypes := #[]
  staticTypes := #[]
  resolved := Array.replicate 124 none
  statics := none }

def pool1 : Array CpInfo := pool [(2, .class_ 4), (1, u "java/lang/Object"), (0, u "<init>"), (0, u "()V"), (0, .integer 2147483647), (0, .methodref 9 10), (0, .class_ 11), (0, .nameAndType 12 13), (0, u "io/tightbits/VarIntPutGroupsPinLaw"), (0, u "groups"), (0, u "(J)I"), (0, .methodref 15 16), (0, .class_ 17), (0, .nameAndType 18 19), (0, u "io/tightbits/VarInt"), (0, u "putGroups"), (0, u "([BIJ)I"), (0, .methodref 9 21), (0, .nameAndType 22 23), (0, u "ok"), (0, u "([BIIIJB)Z"), (0, .long 127), (3, u "law"), (0, u "(JIII)Z")] 5

def k1m0 : Method := { name := "<init>", desc := "()V", sig := { parameters := [], returnType := none }, accessFlags := 2, code := none }
def k1c1 : Code := { maxStack := 7, maxLocals := 12, code := code, exceptionTable := #[], attributes := #[] }
def k1m1 : Method := { name := "law", desc := "(JIII)Z", sig := { parameters := [.long, .int, .int, .int], returnType := some .boolean }, accessFlags := 9, code := some k1c1 }
def k1c2 : Code := { maxStack := 4, maxLocals := 2, code := method_3_code, exceptionTable := #[], attributes := #[] }
def k1m2 : Method := { name := "groups", desc := "(J)I", sig := { parameters := [.long], returnType := some .int }, accessFlags := 10, code := some k1c2 }
def k1c3 : Code := { maxStack := 4, maxLocals := 10, code := method_4_code, exceptionTable := #[], attributes := #[] }
def k1m3 : Method := { name := "ok", desc := "([BIIIJB)Z", sig := { parameters := [(.array .byte), .int, .int, .int, .long, .byte], returnType := some .boolean }, accessFlags := 10, code := some k1c3 }
/-- io/tightbits/VarIntPutGroupsPinLaw -/
def k1 : Class := { plain "io/tightbits/VarIntPutGroupsPinLaw" (some 0) with
  accessFlags := 49
  interfaces := #[]
  cf := some (fileOf pool1 9 #[] #[{ accessFlags := 2, nameIndex := 5, descriptorIndex := 6, attributes := #[] }, { accessFlags := 9, nameIndex := 28, descriptorIndex := 29, attributes := #[] }, { accessFlags := 10, nameIndex := 12, descriptorIndex := 13, attributes := #[] }, { accessFlags := 10, nameIndex := 22, descriptorIndex := 23, attributes := #[] }] 49 2 #[] #[])
  fields := #[]
  methods := #[k1m0, k1m1, k1m2, k1m3]
  instanceTypes := #[]
  staticTypes := #[]
  resolved := Array.replicate 35 none
  statics := none }

def pool2 : Array CpInfo := pool [(2, .class_ 4), (1, u "java/lang/Object"), (0, u "<init>"), (0, u "()V"), (7, .class_ 16), (1, u "io/tightbits/VarInt"), (64, u "putGroups"), (0, u "([BIJ)I"), (3, .long 18446744073709551488), (1, .long 128)] 70

def k2m0 : Method := { name := "<init>", desc := "()V", sig := { parameters := [], returnType := none }, accessFlags := 2, code := none }
def k2c1 : Code := { maxStack := 6, maxLocals := 4, code := prog_92_method_19_code, exceptionTable := #[], attributes := #[] }
def k2m1 : Method := { name := "putGroups", desc := "([BIJ)I", sig := { parameters := [(.array .byte), .int, .long], returnType := some .int }, accessFlags := 8, code := some k2c1 }
/-- io/tightbits/VarInt -/
def k2 : Class := { plain "io/tightbits/VarInt" (some 0) with
  accessFlags := 49
  interfaces := #[]
  cf := some (fileOf pool2 14 #[] #[{ accessFlags := 2, nameIndex := 5, descriptorIndex := 6, attributes := #[] }, { accessFlags := 8, nameIndex := 81, descriptorIndex := 82, attributes := #[] }] 49 2 #[] #[])
  fields := #[]
  methods := #[k2m0, k2m1]
  instanceTypes := #[]
  staticTypes := #[]
  resolved := Array.replicate 159 none
  statics := none }

def pool3 : Array CpInfo := pool [(1, u "java/lang/Cloneable"), (0, .class_ 1), (0, u "java/lang/Object"), (0, .class_ 3)] 3

/-- java/lang/Cloneable -/
def k3 : Class := { plain "java/lang/Cloneable" (some 0) with
  accessFlags := 1537
  interfaces := #[]
  cf := some (fileOf pool3 2 #[] #[] 1537 4 #[] #[])
  fields := #[]
  methods := #[]
  instanceTypes := #[]
  staticTypes := #[]
  resolved := Array.replicate 8 none
  statics := none }

def pool4 : Array CpInfo := pool [(1, u "java/io/Serializable"), (0, .class_ 1), (0, u "java/lang/Object"), (0, .class_ 3)] 3

/-- java/io/Serializable -/
def k4 : Class := { plain "java/io/Serializable" (some 0) with
  accessFlags := 1537
  interfaces := #[]
  cf := some (fileOf pool4 2 #[] #[] 1537 4 #[] #[])
  fields := #[]
  methods := #[]
  instanceTypes := #[]
  staticTypes := #[]
  resolved := Array.replicate 8 none
  statics := none }

/-- the primitive byte -/
def k5 : Class := { plain "byte" none with kind := .primitive 'B', accessFlags := 0x411 }
/-- [B -/
def k6 : Class := { plain "[B" (some 0) with kind := .array 5 .byte, interfaces := #[3, 4], accessFlags := 1041 }

/-- the primitive int -/
def k7 : Class := { plain "int" none with kind := .primitive 'I', accessFlags := 0x411 }
/-- [I -/
def k8 : Class := { plain "[I" (some 0) with kind := .array 7 .int, interfaces := #[3, 4], accessFlags := 1041 }

def heap : Heap := #[]
def classes : Array Class := #[k0, k1, k2, k3, k4, k5, k6, k7, k8]
def interned : List (Array UInt16 × Addr) := []
def slotsUsed : Nat := 0
def theMethod : MethodId := ⟨1, 1⟩
def args0 : Array Value := #[.long 5, .int 7, .int 2, .int 9]
def aboutOver (below : List Frame) : State where
  vm := { classes := classes, interned := interned.toArray }
  heap := heap
  slotsUsed := slotsUsed
  threads := #[{ frames := .invoking theMethod args0 :: below }]
def below0 : List Frame := [.native { method := ⟨0, 0⟩, args := #[] }]
def about1 : State := aboutOver below0
def p0 : Program := .bare "" "" ""
def e0 : Env := launch0.env 0 0 0
theorem w_frames : about1.frames = Frame.invoking theMethod args0 :: below0 := rfl
set_option maxRecDepth 65536 in
theorem w_args : argsFit about1.vm theMethod args0 = true := by decide +kernel
set_option maxRecDepth 65536 in
theorem w_heap : heapFits about1 = true := by decide +kernel
set_option maxRecDepth 65536 in
theorem w_runnable : about1.curStatus? = some .runnable := by decide +kernel
set_option maxRecDepth 65536 in
theorem w_alone : about1.alone = true := by decide +kernel
set_option maxRecDepth 65536 in
theorem w_named : about1.methodNamed? x = some theMethod := by decide +kernel
set_option maxRecDepth 65536 in
theorem w_hears : about1.hears theMethod below0 = true := by decide +kernel
set_option maxRecDepth 65536 in
theorem w_ripe : about1.ripe theMethod args0 below0 = true := by decide +kernel
theorem w_running : about1.status = .running := rfl
set_option maxRecDepth 65536 in
theorem w_room : about1.hasRoom e0.platform room_1 = true :=
  launch0.hasRoom_least _ room_1 (by decide +kernel) (by decide +kernel) (by decide +kernel) (by decide +kernel) (by decide +kernel) (by decide +kernel)
theorem allAtoms_all (ts : List Jvm.Cond) (a : Array Jvm.Value) (st : Jvm.State) : (allAtoms ts).before a st = ts.all (fun c => c.before a st) := by
  induction ts with
  | nil => rfl
  | cons c t ih =>
    show (Jvm.Cond.and c (allAtoms t)).before a st = _
    rw [Jvm.Cond.before_and, ih, List.all_cons]
def words1 : List Jvm.Cond := Jvm.Cond.code x code maxLocals ret :: tables_1
/-- a 'code' word, met by the world's own term for the bytes: nothing is compared byte by byte -/
theorem code_word {y : MethodName} {bytes : ByteArray} {mx : Nat} {rt : Option FieldType} {a : Array Value} {s : State} {m : MethodId} {meth : Method} {c : Code} (h1 : s.methodNamed? y = some m) (h2 : s.vm.method? m = some meth) (h3 : meth.code = some c) (h4 : c.code = bytes)
    (h5 : (c.maxLocals == mx && c.exceptionTable.isEmpty && decide (c.maxStack ≤ mostOperands) && decide (meth.sig.returnType = rt) && !meth.locks && decide (parseMethodDescriptor y.desc = some meth.sig)) = true) : (Jvm.Cond.code y bytes mx rt).before a s = true := by
  simp only [Bool.and_eq_true, beq_iff_eq, Bool.not_eq_true', decide_eq_true_eq] at h5
  obtain ⟨⟨⟨⟨⟨g1, g2⟩, g3⟩, g4⟩, g5⟩, g6⟩ := h5
  simp [Cond.before, Cond.holds, Cond.value, h1, h2, h3, h4, g1, g2, g3, g4, g5, g6]
def isCode : Jvm.Cond → Bool
  | .code _ _ _ _ => true
  | _ => false
theorem all_split {L : List Jvm.Cond} {P : Jvm.Cond → Bool} (h1 : L.all (fun c => isCode c || P c) = true) (h2 : ∀ c ∈ L.filter isCode, P c = true) : L.all P = true := by
  refine List.all_eq_true.mpr fun c hc => ?_
  have h := List.all_eq_true.mp h1 c hc
  rcases Bool.eq_false_or_eq_true (isCode c) with hi | hi
  · exact h2 c (List.mem_filter.mpr ⟨hc, hi⟩)
  · simpa [hi] using h
set_option maxRecDepth 65536 in
theorem w_c0 : (Jvm.Cond.code x code maxLocals ret).before args0 about1 = true := code_word (m := ⟨1, 1⟩) (meth := k1m1) (c := k1c1) (by decide +kernel) rfl rfl rfl (by decide +kernel)
set_option maxRecDepth 65536 in
theorem w_c1 : (Jvm.Cond.code ({ cls := "io/tightbits/VarIntPutGroupsPinLaw", name := "groups", desc := "(J)I" } : Jvm.MethodName) method_3_code (2 : Nat) (Option.some Jvm.ClassFile.FieldType.int)).before args0 about1 = true := code_word (m := ⟨1, 2⟩) (meth := k1m2) (c := k1c2) (by decide +kernel) rfl rfl rfl (by decide +kernel)
set_option maxRecDepth 65536 in
theorem w_c2 : (Jvm.Cond.code ({ cls := "io/tightbits/VarInt", name := "putGroups", desc := "([BIJ)I" } : Jvm.MethodName) prog_92_method_19_code (4 : Nat) (Option.some Jvm.ClassFile.FieldType.int)).before args0 about1 = true := code_word (m := ⟨2, 1⟩) (meth := k2m1) (c := k2c1) (by decide +kernel) rfl rfl rfl (by decide +kernel)
set_option maxRecDepth 65536 in
theorem w_c3 : (Jvm.Cond.code ({ cls := "io/tightbits/VarIntPutGroupsPinLaw", name := "ok", desc := "([BIIIJB)Z" } : Jvm.MethodName) method_4_code (10 : Nat) (Option.some Jvm.ClassFile.FieldType.boolean)).before args0 about1 = true := code_word (m := ⟨1, 3⟩) (meth := k1m3) (c := k1c3) (by decide +kernel) rfl rfl rfl (by decide +kernel)
def codes1 : List Jvm.Cond := [Jvm.Cond.code x code maxLocals ret, Jvm.Cond.code ({ cls := "io/tightbits/VarIntPutGroupsPinLaw", name := "groups", desc := "(J)I" } : Jvm.MethodName) method_3_code (2 : Nat) (Option.some Jvm.ClassFile.FieldType.int), Jvm.Cond.code ({ cls := "io/tightbits/VarInt", name := "putGroups", desc := "([BIJ)I" } : Jvm.MethodName) prog_92_method_19_code (4 : Nat) (Option.some Jvm.ClassFile.FieldType.int), Jvm.Cond.code ({ cls := "io/tightbits/VarIntPutGroupsPinLaw", name := "ok", desc := "([BIIIJB)Z" } : Jvm.MethodName) method_4_code (10 : Nat) (Option.some Jvm.ClassFile.FieldType.boolean)]
set_option maxRecDepth 65536 in
theorem codes_eq : words1.filter isCode = codes1 := rfl
theorem w_codes : ∀ c ∈ words1.filter isCode, c.before args0 about1 = true := by
  rw [codes_eq]
  intro c hc
  simp only [codes1, List.mem_cons, List.not_mem_nil, or_false] at hc
  rcases hc with rfl | rfl | rfl | rfl
  · exact w_c0
  · exact w_c1
  · exact w_c2
  · exact w_c3
set_option maxRecDepth 65536 in
theorem w_t1 : words1.all (fun c => isCode c || c.before args0 about1) = true := by decide +kernel
theorem w_tables : (allAtoms (Jvm.Cond.code x code maxLocals ret :: tables_1)).before args0 about1 = true := by
  rw [allAtoms_all]
  show words1.all (fun c => c.before args0 about1) = true
  refine all_split ?_ w_codes
  rw [w_t1]
set_option maxRecDepth 65536 in
theorem w_case : (Jvm.Cond.and given_1 narrow_1).before args0 about1 = true := by decide +kernel
theorem w_applies : (headSpec (Jvm.Cond.code x code maxLocals ret :: tables_1) room_1).applies x e0.platform about1 = true :=
  (Spec.applies_iff w_frames).mpr ⟨w_running, w_runnable, w_alone, w_named, w_hears, w_ripe, w_room, w_tables⟩
theorem atStart : AtStart classFile x code maxLocals ret World_1 tables_1 room_1 Calls_1 rest_1 Pre_1 launch0 p0 e0 about1 theMethod args0 below0 :=
  ⟨lists_1, trivial, launch0.admits_env _ _ _, launch0.least_env, fairChoices_fair.cas, fairChoices_fair.clock, w_frames, w_args, w_heap, w_applies, trivial, trivial, w_case⟩
end start1
theorem witness_1 : WitnessClaimed_1 := ⟨start1.p0, start1.e0, start1.about1, start1.theMethod, start1.args0, start1.below0, start1.atStart⟩
end Jvm.Pilot.@@N@@
