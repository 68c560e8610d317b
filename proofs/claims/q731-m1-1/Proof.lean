import JvmDerived
import JvmDerived.Pilot.@@N@@Statement
import JvmDerived.Pilot.@@N@@Code
set_option linter.unusedVariables false
set_option linter.unusedSimpArgs false
namespace Jvm.Pilot.@@N@@
open Jvm Jvm.ClassFile Sem Op Lib Jvm.Free Jvm.Stand Jvm.LawKit Jvm.RoadKit Bundle Jvm.Pilot.@@N@@.Jvm.D
/-! ## own layer: walks in goal-directed form -/
section Layer
variable {p : Program} {l : Launch} {e : Env} {R : Room} {s : State} {m : MethodId} {args : Array Value} {below : List Frame} {meth : Method} {c : Code} {T : State} {locs : List Loc} {cells slots : Nat} {Z : State} {a0 : Array Value} {h h' : Heap} {a b : Addr} {ty : FieldType} {xs ys : List Int32} {ls : List Int64}
/-- from S the run comes to the invocation's end, with what Q says of the value, the heap and the written places -/
def Go (p : Program) (e : Env) (below : List Frame) (s : State) (rm : Room) (Q : Option Value → Heap → List Loc → Prop) (S : State) : Prop :=
  ∃ t o, Steps p.tables e below S t ∧ t.status = .running ∧ Ended t below o ∧ ∃ v L, o = .returned v ∧ Q v t.heap L ∧ FrameEnd s o t L rm.cells rm.slots
theorem Go.st {rm : Room} {Q : Option Value → Heap → List Loc → Prop} {S S' : State} (k : ∀ t, Steps p.tables e below S' t → Steps p.tables e below S t) (g : Go p e below s rm Q S') : Go p e below s rm Q S := by
  obtain ⟨t, o, h, r⟩ := g; exact ⟨t, o, k t h, r⟩
theorem Go.ret {rm : Room} {Q : Option Value → Heap → List Loc → Prop} {S : State} {v : Option Value} (X : Stand p l e rm s m args below meth c T locs cells slots) (hv : meth.sig.returnType = none → v = none) (hlk : meth.locks = false) (hc : cells ≤ rm.cells) (hs : slots ≤ rm.slots) (hQ : Q v T.heap locs)
    (st : ∀ fs, (∀ (f : JFrame) (acts : List Action), f.method = m → f.locked = none → f.entered = [] → (doReturn e (T.setTop f) acts v).1 = T.setFrames fs) → Steps p.tables e below S (T.setFrames fs)) : Go p e below s rm Q S := by
  obtain ⟨fs, hr, hrun, hended, hW, hsame⟩ := X.leave (v := v) hv hlk
  exact ⟨_, _, st fs hr, hrun, hended, v, locs, rfl, hQ, ⟨v, rfl⟩, hW, hsame.mono hc hs⟩
theorem Go.retI {rm : Room} {Q : Option Value → Heap → List Loc → Prop} (X : Stand p l e rm s m args below meth c T locs cells slots) (hx : p.tables.exec = Jvm.exec) (hret : meth.sig.returnType = some .int) (hlk : meth.locks = false) {pc : Nat} {Ls : Array Slot} {z : Int32} {rest : List Value} (hd : decode c.code pc = .ok (.ireturn, 1)) (hc : cells ≤ rm.cells) (hs : slots ≤ rm.slots)
    (hQ : Q (some (.int z)) T.heap locs) : Go p e below s rm Q (T.setTop (mkF m pc Ls (.int z :: rest))) := by
  refine Go.ret X (v := some (.int z)) (fun q => by rw [hret] at q; cases q) hlk hc hs hQ fun fs hr => ?_
  have hm' : T.vm.method? m = some meth := X.method'
  have hn : narrow .int (.int z) = .int z := rfl
  show Steps p.tables e below (T.setTop { method := m, pc := pc, locals := Ls, stack := _ :: rest, locked := none }) _
  jvm_step X.here [X.here.top, hx, hd, hm', hret, hn]
  first | (intro acts; rw [hr _ acts rfl rfl rfl]) | rw [hr _ _ rfl rfl rfl]
  exact Steps.refl _
theorem Go.retN {rm : Room} {Q : Option Value → Heap → List Loc → Prop} {t : FieldType} (X : Stand p l e rm s m args below meth c T locs cells slots) (hx : p.tables.exec = Jvm.exec) (hret : meth.sig.returnType = some t) (ht : t = .boolean ∨ t = .byte ∨ t = .char ∨ t = .short) (hlk : meth.locks = false) {pc : Nat} {Ls : Array Slot} {z : Int32} {rest : List Value} (hd : decode c.code pc = .ok (.ireturn, 1)) (hc : cells ≤ rm.cells) (hs : slots ≤ rm.slots)
    (hQ : Q (some (.int (nar t z))) T.heap locs) : Go p e below s rm Q (T.setTop (mkF m pc Ls (.int z :: rest))) :=
  Go.ret X (v := some (.int (nar t z))) (fun q => by rw [hret] at q; cases q) hlk hc hs hQ fun fs hr => Jvm.RoadKit.retN X hx hret ht hd hr
theorem Go.retV {rm : Room} {Q : Option Value → Heap → List Loc → Prop} (X : Stand p l e rm s m args below meth c T locs cells slots) (hx : p.tables.exec = Jvm.exec) (hret : meth.sig.returnType = none) (hlk : meth.locks = false) {pc : Nat} {Ls : Array Slot} (hd : decode c.code pc = .ok (.return_, 1)) (hc : cells ≤ rm.cells) (hs : slots ≤ rm.slots)
    (hQ : Q none T.heap locs) : Go p e below s rm Q (T.setTop (mkF m pc Ls [])) :=
  Go.ret X (v := none) (fun _ => rfl) hlk hc hs hQ fun fs hr => X.returnOut hx hret hd hr
theorem Go.retJ {rm : Room} {Q : Option Value → Heap → List Loc → Prop} (X : Stand p l e rm s m args below meth c T locs cells slots) (hx : p.tables.exec = Jvm.exec) (hret : meth.sig.returnType = some .long) (hlk : meth.locks = false) {pc : Nat} {Ls : Array Slot} {z : Int64} {rest : List Value} (hd : decode c.code pc = .ok (.lreturn, 1)) (hc : cells ≤ rm.cells) (hs : slots ≤ rm.slots)
    (hQ : Q (some (.long z)) T.heap locs) : Go p e below s rm Q (T.setTop (mkF m pc Ls (.long z :: rest))) := by
  refine Go.ret X (v := some (.long z)) (fun q => by rw [hret] at q; cases q) hlk hc hs hQ fun fs hr => ?_
  have hm' : T.vm.method? m = some meth := X.method'
  show Steps p.tables e below (T.setTop { method := m, pc := pc, locals := Ls, stack := _ :: rest, locked := none }) _
  jvm_step X.here [X.here.top, hx, hd, hm', hret, narrow]
  first | (intro acts; rw [hr _ acts rfl rfl rfl]) | rw [hr _ _ rfl rfl rfl]
  exact Steps.refl _
theorem Go.retR {rm : Room} {Q : Option Value → Heap → List Loc → Prop} {t : FieldType} (X : Stand p l e rm s m args below meth c T locs cells slots) (hx : p.tables.exec = Jvm.exec) (hret : meth.sig.returnType = some t) (ht : t.isReference = true) (hlk : meth.locks = false) {pc : Nat} {Ls : Array Slot} {z : Addr} (hd : decode c.code pc = .ok (.areturn, 1)) (hc : cells ≤ rm.cells) (hs : slots ≤ rm.slots)
    (hQ : Q (some (.ref z)) T.heap locs) : Go p e below s rm Q (T.setTop (mkF m pc Ls [.ref z])) := by
  refine Go.ret X (v := some (.ref z)) (fun q => by rw [hret] at q; cases q) hlk hc hs hQ fun fs hr => ?_
  exact X.areturnOut hx rfl hret ht hd hr
/-- the contract of a body: called with these arguments over the heap h0 it comes back, and Q -/
abbrev Con (l : Launch) (Z : State) (y : MethodName) (bytes : ByteArray) (maxL : Nat) (ret : Option FieldType) (ws : List Jvm.Cond) (rm : Room) (as : Array Value) (h0 : Heap) (Q : Option Value → Heap → List Loc → Prop) : Prop :=
  MetFree l y (head1 (Jvm.Cond.code y bytes maxL ret :: ws) rm) (fun a U => a = as ∧ Z.Warmed39 U.vm ∧ U.heap = h0) (fun _ _ _ _ _ => True) (fun _ U o U' => ∃ v L, o = .returned v ∧ Q v U'.heap L ∧ FrameEnd U o U' L rm.cells rm.slots)
theorem Con.mk {y : MethodName} {bytes : ByteArray} {maxL : Nat} {ret : Option FieldType} {ws : List Jvm.Cond} {rm : Room} {as : Array Value} {h0 : Heap} {Q : Option Value → Heap → List Loc → Prop} (hp : plainFor y = true)
    (body : ∀ (p : Program) (e : Env) (s : State) (m : MethodId) (below : List Frame) (meth : Method) (c : Code) (T : State), p.tables.exec = Jvm.exec → c.code = bytes → c.maxLocals = maxL → s.vm.findClass y.cls = some m.cls → meth.name = y.name → meth.sig.returnType = ret → meth.locks = false → Z.Warmed39 s.vm →
      Stand p l e rm s m as below meth c T [] 0 0 → T.heap = h0 → Go p e below s rm Q (T.setTop (entryFrame m as maxL))) : Con l Z y bytes maxL ret ws rm as h0 Q := by
  refine MetFree.of_bodySF hp hisR ?_
  intro p e s m args below meth c s₁ Bd hml0 hP hK
  obtain ⟨rfl, hZ, hh⟩ := hP
  exact body p e s m below meth c s₁ Bd.exec Bd.bytes hml0 (findClass_of_methodNamed Bd.named) (name_of_methodNamed Bd.named Bd.method).1 Bd.returns Bd.notSynchronized hZ (Stand.of_body Bd) (by rw [← hh, Bd.state]; rfl)
theorem Go.cast {rm : Room} {Q : Option Value → Heap → List Loc → Prop} {f f' : JFrame} (q : f = f') (g : Go p e below s rm Q (T.setTop f')) : Go p e below s rm Q (T.setTop f) := q ▸ g
/-! calls -/
theorem callSt (X : Stand p l e R s m args below meth c T locs cells slots) (hx : p.tables.exec = Jvm.exec) (hZ : Z.Warmed39 s.vm) {own : String} {index : Nat} {y : MethodName} {bytes : ByteArray} {maxL : Nat} {ret : Option FieldType} {rm : Room} {W : Nat} {Q : Option Value → Heap → List Loc → Prop} {argsL rest : List Value}
    (hown : s.vm.findClass own = some m.cls) (w1 : (Jvm.Cond.methodLink own index y).before a0 Z = true) (w2 : (Jvm.Cond.static y).before a0 Z = true) (w3 : (Jvm.Cond.initialized y.cls).before a0 Z = true) (w4 : (Jvm.Cond.code y bytes maxL ret).before a0 Z = true) (hy : y.cls ≠ "java/lang/invoke/MethodHandle" ∧ y.cls ≠ "java/lang/invoke/VarHandle")
    (eT : T.heap = h) (hM : Con l Z y bytes maxL ret [] rm argsL.toArray h Q) (hf : rm.frames + 1 ≤ R.frames) (hl : W + (maxL + 11) + rm.locals ≤ R.locals) {sig : MethodDescriptor} (hpd : parseMethodDescriptor y.desc = some sig) (hlen : argsL.length = sig.parameters.length)
    {g : JFrame} (hg : g.method = m) (hsize : g.locals.size = c.maxLocals) (hstack : g.stack = argsL.reverse ++ rest) (hW : 2 * g.monitorRoom + (rest.map fun v => v.category).sum ≤ W) (hdg : decode c.code g.pc = .ok (.invokestatic index, 3)) (hc : cells + rm.cells ≤ R.cells) (hs : slots + rm.slots ≤ R.slots) :
    ∃ (v : Option Value) (T' : State) (h' : Heap) (L : List Loc), Stand p l e R s m args below meth c T' (locs ++ L) (cells + rm.cells) (slots + rm.slots) ∧ T'.heap = h' ∧ Q v h' L ∧ ∀ t, Steps p.tables e below (T'.setTop { g with pc := g.pc + 3, stack := v.toList ++ rest }) t → Steps p.tables e below (T.setTop g) t := by
  obtain ⟨v, _, ⟨T1, L1, k1, n1⟩, -, X1, ⟨Lc, hQ, l1, y1, z1⟩, st⟩ := Jvm.LawKit.callS X hx (y := y) hown (mvT hZ w1) (mvT hZ w2) (mvT hZ w3) (mvT hZ w4) hy (backOf (W := W) (Z := Z) (a0 := a0) (h := h) hM hZ w4 w3 hf hl) (g := g) hg hsize (argsL := argsL) (rest := rest) (fun sg q => by rw [hpd] at q; cases q; exact hlen) hstack hW hdg (fun _ _ => ⟨rfl, eT, hc, hs⟩)
  dsimp only [Pt.U, Pt.locs, Pt.cells, Pt.slots] at X1 l1 y1 z1 st hQ
  subst l1 y1 z1
  exact ⟨v, T1, T1.heap, Lc, X1, rfl, hQ, st⟩
theorem callIn (X : Stand p l e R s m args below meth c T locs cells slots) (hx : p.tables.exec = Jvm.exec) (hZ : Z.Warmed39 s.vm) {own : String} {index : Nat} {y : MethodName} {bytes : ByteArray} {maxL : Nat} {rm : Room} {W : Nat} {Q : Option Value → Heap → List Loc → Prop} {argsL rest : List Value} (hi : y.name = "<init>")
    (hown : s.vm.findClass own = some m.cls) (w1 : (Jvm.Cond.methodLink own index y).before a0 Z = true) (w2 : (Jvm.Cond.instanceMethod y).before a0 Z = true) (w3 : (Jvm.Cond.initialized y.cls).before a0 Z = true) (w4 : (Jvm.Cond.code y bytes maxL none).before a0 Z = true) (hy : y.cls ≠ "java/lang/invoke/MethodHandle" ∧ y.cls ≠ "java/lang/invoke/VarHandle")
    (eT : T.heap = h) (hM : Con l Z y bytes maxL none [] rm (.ref a :: argsL).toArray h Q) (hf : rm.frames + 1 ≤ R.frames) (hl : W + (maxL + 11) + rm.locals ≤ R.locals) {sig : MethodDescriptor} (hpd : parseMethodDescriptor y.desc = some sig) (hlen : argsL.length = sig.parameters.length)
    {g : JFrame} (hg : g.method = m) (hsize : g.locals.size = c.maxLocals) (hstack : g.stack = argsL.reverse ++ .ref a :: rest) (hW : 2 * g.monitorRoom + (rest.map fun v => v.category).sum ≤ W) (hdg : decode c.code g.pc = .ok (.invokespecial index, 3)) (hc : cells + rm.cells ≤ R.cells) (hs : slots + rm.slots ≤ R.slots) :
    ∃ (v : Option Value) (T' : State) (h' : Heap) (L : List Loc), Stand p l e R s m args below meth c T' (locs ++ L) (cells + rm.cells) (slots + rm.slots) ∧ T'.heap = h' ∧ Q v h' L ∧ ∀ t, Steps p.tables e below (T'.setTop { g with pc := g.pc + 3, stack := v.toList ++ rest }) t → Steps p.tables e below (T.setTop g) t := by
  obtain ⟨v, _, ⟨T1, L1, k1, n1⟩, -, X1, ⟨Lc, hQ, l1, y1, z1⟩, st⟩ := X.specialBack hx (y := y) hi hown (mvT hZ w1) (mvT hZ w2) (mvT hZ w4) hy (backOf (W := W) (Z := Z) (a0 := a0) (h := h) hM hZ w4 w3 hf hl) (g := g) hg hsize (Steps.refl _) (a := a) (argsL := argsL) (rest := rest) (fun sg q => by rw [hpd] at q; cases q; exact hlen) hstack hW hdg (fun _ _ => ⟨rfl, eT, hc, hs⟩)
  dsimp only [Pt.U, Pt.locs, Pt.cells, Pt.slots] at X1 l1 y1 z1 st hQ
  subst l1 y1 z1
  exact ⟨v, T1, T1.heap, Lc, X1, rfl, hQ, fun t k => st.trans k⟩
theorem callVi (X : Stand p l e R s m args below meth c T locs cells slots) (hx : p.tables.exec = Jvm.exec) (hZ : Z.Warmed39 s.vm) {own C : String} {index : Nat} {y : MethodName} {bytes : ByteArray} {maxL : Nat} {ret : Option FieldType} {rm : Room} {W : Nat} {Q : Option Value → Heap → List Loc → Prop} {argsL rest : List Value}
    (hown : s.vm.findClass own = some m.cls) (w1 : (Jvm.Cond.methodLink own index y).before a0 Z = true) (wd : (Jvm.Cond.declares y).before a0 Z = true) (ws : (Jvm.Cond.selects C y y).before a0 Z = true) (w2 : (Jvm.Cond.instanceMethod y).before a0 Z = true) (w3 : (Jvm.Cond.initialized y.cls).before a0 Z = true) (w4 : (Jvm.Cond.code y bytes maxL ret).before a0 Z = true) (hy : y.cls ≠ "java/lang/invoke/MethodHandle" ∧ y.cls ≠ "java/lang/invoke/VarHandle")
    (eT : T.heap = h) (E : Exa Z h a C) (hM : Con l Z y bytes maxL ret [] rm (.ref a :: argsL).toArray h Q) (hf : rm.frames + 1 ≤ R.frames) (hl : W + (maxL + 11) + rm.locals ≤ R.locals) {sig : MethodDescriptor} (hpd : parseMethodDescriptor y.desc = some sig) (hlen : argsL.length = sig.parameters.length)
    {g : JFrame} (hg : g.method = m) (hsize : g.locals.size = c.maxLocals) (hstack : g.stack = argsL.reverse ++ .ref a :: rest) (hW : 2 * g.monitorRoom + (rest.map fun v => v.category).sum ≤ W) (hdg : decode c.code g.pc = .ok (.invokevirtual index, 3)) (hc : cells + rm.cells ≤ R.cells) (hs : slots + rm.slots ≤ R.slots) :
    ∃ (v : Option Value) (T' : State) (h' : Heap) (L : List Loc), Stand p l e R s m args below meth c T' (locs ++ L) (cells + rm.cells) (slots + rm.slots) ∧ T'.heap = h' ∧ Q v h' L ∧ ∀ t, Steps p.tables e below (T'.setTop { g with pc := g.pc + 3, stack := v.toList ++ rest }) t → Steps p.tables e below (T.setTop g) t := by
  obtain ⟨cB, kB, q1, q2, q3⟩ := isOf hZ eT E
  obtain ⟨v, _, ⟨T1, L1, k1, n1⟩, -, X1, ⟨Lc, hQ, l1, y1, z1⟩, st⟩ := X.virtualBack hx (y := y) (z := y) hown (mvT hZ w1) (mvT hZ wd) (notFace_of_selects (args := #[]) (mvT hZ ws)) (mvT hZ ws) (mvT hZ w2) hy (backOf (W := W) (Z := Z) (a0 := a0) (h := h) hM hZ w4 w3 hf hl) q1 q3 (g := g) hg hsize (Steps.refl _) (argsL := argsL) (rest := rest) (fun sg q => by rw [hpd] at q; cases q; exact hlen) hstack hW hdg (fun _ _ => ⟨rfl, eT, hc, hs⟩)
  dsimp only [Pt.U, Pt.locs, Pt.cells, Pt.slots] at X1 l1 y1 z1 st hQ
  subst l1 y1 z1
  exact ⟨v, T1, T1.heap, Lc, X1, rfl, hQ, fun t k => st.trans k⟩
theorem callPr (X : Stand p l e R s m args below meth c T locs cells slots) (hx : p.tables.exec = Jvm.exec) (hZ : Z.Warmed39 s.vm) {own : String} {index ni : Nat} {y : MethodName} {bytes : ByteArray} {maxL : Nat} {ret : Option FieldType} {rm : Room} {W : Nat} {Q : Option Value → Heap → List Loc → Prop} {argsL rest : List Value}
    (hown : s.vm.findClass own = some m.cls) (w1 : (Jvm.Cond.methodLink own index y).before a0 Z = true) (w2 : (Jvm.Cond.instanceMethod y).before a0 Z = true) (wi : (Jvm.Cond.instantiable y.cls ni).before a0 Z = true) (wp : (Jvm.Cond.privateMethod y).before a0 Z = true) (w3 : (Jvm.Cond.initialized y.cls).before a0 Z = true) (w4 : (Jvm.Cond.code y bytes maxL ret).before a0 Z = true) (hy : y.cls ≠ "java/lang/invoke/MethodHandle" ∧ y.cls ≠ "java/lang/invoke/VarHandle")
    (eT : T.heap = h) {C : String} (E : Exa Z h a C) (hM : Con l Z y bytes maxL ret [] rm (.ref a :: argsL).toArray h Q) (hf : rm.frames + 1 ≤ R.frames) (hl : W + (maxL + 11) + rm.locals ≤ R.locals) {sig : MethodDescriptor} (hpd : parseMethodDescriptor y.desc = some sig) (hlen : argsL.length = sig.parameters.length)
    {g : JFrame} (hg : g.method = m) (hsize : g.locals.size = c.maxLocals) (hstack : g.stack = argsL.reverse ++ .ref a :: rest) (hW : 2 * g.monitorRoom + (rest.map fun v => v.category).sum ≤ W) (hdg : decode c.code g.pc = .ok (.invokevirtual index, 3)) (hc : cells + rm.cells ≤ R.cells) (hs : slots + rm.slots ≤ R.slots) :
    ∃ (v : Option Value) (T' : State) (h' : Heap) (L : List Loc), Stand p l e R s m args below meth c T' (locs ++ L) (cells + rm.cells) (slots + rm.slots) ∧ T'.heap = h' ∧ Q v h' L ∧ ∀ t, Steps p.tables e below (T'.setTop { g with pc := g.pc + 3, stack := v.toList ++ rest }) t → Steps p.tables e below (T.setTop g) t := by
  obtain ⟨cell, q1, q2⟩ := E.cell
  have wi' : (Jvm.Cond.instantiable y.cls ni).before args s = true := mvT hZ wi
  obtain ⟨cI, kI, i1, i2, i3, i4, -⟩ := Cond.instantiable_spec wi'
  have i5 : kI.isInterface = false := by cases hq : kI.isInterface <;> simp [hq] at i4 ⊢
  have hpriv : s.PrivateAt y := Cond.privateMethod_at (mvP hZ wp (args := args))
  have hinst : (Jvm.Cond.instanceMethod y).before args s = true := mvT hZ w2
  obtain ⟨v, _, ⟨T1, L1, k1, n1⟩, -, X1, ⟨Lc, hQ, l1, y1, z1⟩, st⟩ := X.privateBack hx (y := y) hown (mvT hZ w1) hinst (selects_self_of_private i1 i2 i5 hpriv hinst hy) hpriv (mvT hZ w4) hy (backOf (W := W) (Z := Z) (a0 := a0) (h := h) hM hZ w4 w3 hf hl) (g := g) hg hsize (Steps.refl _) (a := a) (cell := cell) (by rw [eT]; exact q1) q2 (argsL := argsL) (rest := rest) (fun sg q => by rw [hpd] at q; cases q; exact hlen) hstack hW hdg (fun _ _ => ⟨rfl, eT, hc, hs⟩)
  dsimp only [Pt.U, Pt.locs, Pt.cells, Pt.slots] at X1 l1 y1 z1 st hQ
  subst l1 y1 z1
  exact ⟨v, T1, T1.heap, Lc, X1, rfl, hQ, fun t k => st.trans k⟩
/-! arrays of ints, bytes, .. by the list of what they hold -/
def Ai (Z : State) (h : Heap) (a : Addr) (ty : FieldType) (xs : List Int32) : Prop := ∃ (k : ClassId) (z : Int32), Arv Z h a k ty z (xs.map Value.int) (.int 0) ∧ z.toNatClampNeg = xs.length
theorem Ai.lt (A : Ai Z h a ty xs) : a < h.size := by obtain ⟨_, _, q, -⟩ := A; exact q.lt
theorem Ai.ext (A : Ai Z h a ty xs) (E : Ext h h') : Ai Z h' a ty xs := by obtain ⟨k, z, q, r⟩ := A; exact ⟨k, z, q.ext E, r⟩
theorem Ai.other {sl : Nat} {v : Value} (A : Ai Z h a ty xs) (W : Wr h h' b sl v) (ne : a ≠ b) : Ai Z h' a ty xs := by obtain ⟨k, z, q, r⟩ := A; exact ⟨k, z, q.other W ne, r⟩
theorem Ai.keep {ws : List Addr} (A : Ai Z h a ty xs) (K : Keep h h' ws) (nin : a ∉ ws) : Ai Z h' a ty xs := by obtain ⟨k, z, q, r⟩ := A; exact ⟨k, z, q.keep K nin, r⟩
theorem Ai.len (A : Ai Z h a ty xs) : xs.length < 2 ^ 31 := by
  obtain ⟨k, z, ⟨c, -, -, -, hz, -⟩, r⟩ := A
  rw [← r]; exact (back32 hz).2
theorem Ai.open (A : Ai Z h a ty xs) : ∃ c : Cell, Arr Z h a c ty ∧ c.slots.size = xs.length ∧ ∀ (i : Nat) (v : Int32), xs[i]? = some v → c.slots[i]? = some (.int v) := by
  obtain ⟨k, z, ⟨c, A, q1, S, q3, H, G⟩, r⟩ := A
  refine ⟨c, A, S.trans r, fun i v hv => ?_⟩
  have hi : i < xs.length := (List.getElem?_eq_some_iff.mp hv).1
  rw [H i (by rw [S, r]; exact hi)]
  simp [List.getD_eq_getElem?_getD, hv]
theorem Ai.fitsOf {i : Nat} {v : Int32} (A : Ai Z h a ty xs) (hv : xs[i]? = some v) : fits ty (.int v) = true := by
  obtain ⟨k, z, ⟨c, A, q1, S, q3, H, G⟩, r⟩ := A
  have hi : i < xs.length := (List.getElem?_eq_some_iff.mp hv).1
  have := G i (by rw [S, r]; exact hi)
  simpa [List.getD_eq_getElem?_getD, hv] using this
theorem own_in {n : Nat} {j : Int32} (hj : ¬ j < 0) (hi : j.toNatClampNeg < n) : ¬ (j < 0 ∨ n ≤ j.toNatClampNeg) := fun q => q.elim hj fun r => absurd hi (Nat.not_lt.mpr r)
theorem Ai.load (A : Ai Z h a .int xs) (X : Stand p l e R s m args below meth c T locs cells slots) (hx : p.tables.exec = Jvm.exec) (hZ : Z.Warmed39 s.vm) (eT : T.heap = h) {j v : Int32} (hj : ¬ j < 0) (hv : xs[j.toNatClampNeg]? = some v) {g : JFrame} (hg : g.method = m) {rest : List Value} (hs : g.stack = .int j :: .ref a :: rest) (hd : decode c.code g.pc = .ok (.iaload, 1)) :
    ∀ t, Steps p.tables e below (T.setTop { g with pc := g.pc + 1, stack := .int v :: rest }) t → Steps p.tables e below (T.setTop g) t := by
  obtain ⟨cl, Ar, S, H⟩ := A.open
  exact fun t k => X.iaload hx (j := j) (v := .int v) (by rw [eT]; exact Ar.1) (State.isArrayOf_alike hZ.alike Ar.2.1) Ar.2.2 (own_in hj (by rw [S]; exact (List.getElem?_eq_some_iff.mp hv).1)) (H _ _ hv) hg hs hd t k
theorem Ai.bload (A : Ai Z h a .byte xs) (X : Stand p l e R s m args below meth c T locs cells slots) (hx : p.tables.exec = Jvm.exec) (hZ : Z.Warmed39 s.vm) (eT : T.heap = h) {j v : Int32} (hj : ¬ j < 0) (hv : xs[j.toNatClampNeg]? = some v) {g : JFrame} (hg : g.method = m) {rest : List Value} (hs : g.stack = .int j :: .ref a :: rest) (hd : decode c.code g.pc = .ok (.baload, 1)) :
    ∀ t, Steps p.tables e below (T.setTop { g with pc := g.pc + 1, stack := .int v :: rest }) t → Steps p.tables e below (T.setTop g) t := by
  obtain ⟨cl, Ar, S, H⟩ := A.open
  exact fun t k => X.baloadBytes hx (j := j) (v := .int v) (by rw [eT]; exact Ar.1) (State.isArrayOf_alike hZ.alike Ar.2.1) Ar.2.2 (own_in hj (by rw [S]; exact (List.getElem?_eq_some_iff.mp hv).1)) (H _ _ hv) hg hs hd t k
theorem Ai.length (A : Ai Z h a ty xs) (X : Stand p l e R s m args below meth c T locs cells slots) (hx : p.tables.exec = Jvm.exec) (hZ : Z.Warmed39 s.vm) (eT : T.heap = h) {n : Int32} (hn : xs.length.toInt32 = n) {g : JFrame} (hg : g.method = m) {rest : List Value} (hs : g.stack = .ref a :: rest) (hd : decode c.code g.pc = .ok (.arraylength, 1)) :
    ∀ t, Steps p.tables e below (T.setTop { g with pc := g.pc + 1, stack := .int n :: rest }) t → Steps p.tables e below (T.setTop g) t := by
  obtain ⟨cl, Ar, S, H⟩ := A.open
  subst hn
  rw [← S]
  exact fun t k => X.arraylength hx (by rw [eT]; exact Ar.1) (State.isArrayOf_alike hZ.alike Ar.2.1) hg hs hd t k
theorem Ai.set {j v : Int32} (A : Ai Z h a ty xs) (hf : fits ty (.int v) = true) (W : Wr h h' a j.toNatClampNeg (.int v)) (hi : j.toNatClampNeg < xs.length) : Ai Z h' a ty (xs.set j.toNatClampNeg v) := by
  obtain ⟨k, z, ⟨c, A, q1, S, q3, H, G⟩, r⟩ := A
  refine ⟨k, z, ?_, by simpa using r⟩
  rw [List.map_set]
  exact Arv.set A q1 S q3 H G hf W j.toNatClampNeg rfl (by simpa using hi)
theorem Ai.store (A : Ai Z h a .int xs) (X : Stand p l e R s m args below meth c T locs cells slots) (hx : p.tables.exec = Jvm.exec) (hZ : Z.Warmed39 s.vm) (eT : T.heap = h) {j v : Int32} (hj : ¬ j < 0) (hi : j.toNatClampNeg < xs.length) {g : JFrame} (hg : g.method = m) {rest : List Value} (hs : g.stack = .int v :: .int j :: .ref a :: rest) (hd : decode c.code g.pc = .ok (.iastore, 1)) :
    ∃ T' h', Stand p l e R s m args below meth c T' (locs ++ [⟨a, j.toNatClampNeg⟩]) cells slots ∧ T'.heap = h' ∧ Wr h h' a j.toNatClampNeg (.int v) ∧ Ai Z h' a .int (xs.set j.toNatClampNeg v) ∧
      ∀ t, Steps p.tables e below (T'.setTop { g with pc := g.pc + 1, stack := rest }) t → Steps p.tables e below (T.setTop g) t := by
  obtain ⟨cl, Ar, S, H⟩ := A.open
  obtain ⟨T', h', X', e', W, st⟩ := stI X hx hZ eT Ar (j := j) (own_in hj (by rw [S]; exact hi)) hg hs hd
  exact ⟨T', h', X', e', W, A.set rfl W hi, st⟩
theorem Ai.bstore (A : Ai Z h a .byte xs) (X : Stand p l e R s m args below meth c T locs cells slots) (hx : p.tables.exec = Jvm.exec) (hZ : Z.Warmed39 s.vm) (eT : T.heap = h) {j v : Int32} (hj : ¬ j < 0) (hi : j.toNatClampNeg < xs.length) {g : JFrame} (hg : g.method = m) {rest : List Value} (hs : g.stack = .int v :: .int j :: .ref a :: rest) (hd : decode c.code g.pc = .ok (.bastore, 1)) :
    ∃ T' h', Stand p l e R s m args below meth c T' (locs ++ [⟨a, j.toNatClampNeg⟩]) cells slots ∧ T'.heap = h' ∧ Wr h h' a j.toNatClampNeg (.int v.toInt8.toInt32) ∧ Ai Z h' a .byte (xs.set j.toNatClampNeg v.toInt8.toInt32) ∧
      ∀ t, Steps p.tables e below (T'.setTop { g with pc := g.pc + 1, stack := rest }) t → Steps p.tables e below (T.setTop g) t := by
  obtain ⟨cl, Ar, S, H⟩ := A.open
  obtain ⟨T', h', X', e', W, st⟩ := stB X hx hZ eT Ar (j := j) (own_in hj (by rw [S]; exact hi)) hg hs hd
  exact ⟨T', h', X', e', W, A.set (fits_nar_byte v) W hi, st⟩
theorem Ai.new (X : Stand p l e R s m args below meth c T locs cells slots) (hx : p.tables.exec = Jvm.exec) (hZ : Z.Warmed39 s.vm) {aty : ArrayType} (w : (Jvm.Cond.arrayClass (newarray.typeOf aty)).before a0 Z = true) (hdef : defaultValue (newarray.typeOf aty) = .int 0) (eT : T.heap = h) {n : Int32} (hn : ¬ n < 0) (cap : Nat) (hcap : n.toNatClampNeg ≤ cap) (hb : cap * 8 ≤ 536870912) (hc : cells + 1 ≤ R.cells) (hl : slots + cap ≤ R.slots)
    {g : JFrame} (hg : g.method = m) {rest : List Value} (hs : g.stack = .int n :: rest) (hd : decode c.code g.pc = .ok (.newarray aty, 2)) :
    ∃ T' h' b, Stand p l e R s m args below meth c T' locs (cells + 1) (slots + cap) ∧ T'.heap = h' ∧ b = h.size ∧ Ext h h' ∧ Ai Z h' b (newarray.typeOf aty) (List.replicate n.toNatClampNeg 0) ∧
      ∀ t, Steps p.tables e below (T'.setTop { g with pc := g.pc + 2, stack := .ref b :: rest }) t → Steps p.tables e below (T.setTop g) t := by
  obtain ⟨T', h', k, X', e', E, A, st⟩ := newP X hx hZ w eT (g := g) hg hd hs hn hcap hb hc hl
  refine ⟨T', h', _, X', e', rfl, E, ⟨k, n, ?_, by simp⟩, st⟩
  have V := Arv.new A hn
  rw [hdef] at V
  rw [List.map_replicate]
  exact V.pad (pad_rep [] (.int 0) n.toNatClampNeg)
theorem Ai.newE (X : Stand p l e R s m args below meth c T locs cells slots) (hx : p.tables.exec = Jvm.exec) (hZ : Z.Warmed39 s.vm) {aty : ArrayType} (w : (Jvm.Cond.arrayClass (newarray.typeOf aty)).before a0 Z = true) (hdef : defaultValue (newarray.typeOf aty) = .int 0) (eT : T.heap = h) {n : Int32} (hn : ¬ n < 0) (cap : Nat) (hcap : n.toNatClampNeg ≤ cap) (hb : cap * 8 ≤ 536870912) (hc : cells + 1 ≤ R.cells) (hl : slots + cap ≤ R.slots) {ad : String} (had : "[" ++ (newarray.typeOf aty).toString = ad)
    {g : JFrame} (hg : g.method = m) {rest : List Value} (hs : g.stack = .int n :: rest) (hd : decode c.code g.pc = .ok (.newarray aty, 2)) :
    ∃ T' h' b, Stand p l e R s m args below meth c T' locs (cells + 1) (slots + cap) ∧ T'.heap = h' ∧ b = h.size ∧ Ext h h' ∧ Ai Z h' b (newarray.typeOf aty) (List.replicate n.toNatClampNeg 0) ∧ Exa Z h' b ad ∧
      ∀ t, Steps p.tables e below (T'.setTop { g with pc := g.pc + 2, stack := .ref b :: rest }) t → Steps p.tables e below (T.setTop g) t := by
  obtain ⟨T', h', k, X', e', E, A, Ex, st⟩ := newPE X hx hZ w eT (g := g) hg hd hs hn hcap hb hc hl had
  refine ⟨T', h', _, X', e', rfl, E, ⟨k, n, ?_, by simp⟩, Ex, st⟩
  have V := Arv.new A hn
  rw [hdef] at V
  rw [List.map_replicate]
  exact V.pad (pad_rep [] (.int 0) n.toNatClampNeg)
theorem Ai.copy (X : Stand p l e R s m args below meth c T locs cells slots) (hx : p.tables.exec = Jvm.exec) (hZ : Z.Warmed39 s.vm) {own : String} {index : Nat} (hown : s.vm.findClass own = some m.cls)
    (w1 : (Jvm.Cond.methodLink own index Jvm.Stand.acN).before a0 Z = true) (w2 : (Jvm.Cond.native Jvm.Stand.acN).before a0 Z = true) (w3 : (Jvm.Cond.static Jvm.Stand.acN).before a0 Z = true) (w4 : (Jvm.Cond.initialized "java/lang/System").before a0 Z = true) (eT : T.heap = h)
    {sp dp nn : Int32} (A : Ai Z h a ty xs) (B : Ai Z h b ty ys) (hty : refKind ty = false) (h1 : ¬ sp < 0) (h2 : ¬ dp < 0) (h3 : ¬ nn < 0) (h4 : sp.toNatClampNeg + nn.toNatClampNeg ≤ xs.length) (h5 : dp.toNatClampNeg + nn.toNatClampNeg ≤ ys.length) {n0 : Nat} (N : Fr n0 locs) (ge : n0 ≤ b)
    {g : JFrame} (hg : g.method = m) (hsize : g.locals.size = c.maxLocals) {rest : List Value} (hs : g.stack = .int nn :: .int dp :: .ref b :: .int sp :: .ref a :: rest) (hd : decode c.code g.pc = .ok (.invokestatic index, 3))
    (hf : 1 ≤ R.frames) {W : Nat} (hW : 2 * g.monitorRoom + (rest.map fun v => v.category).sum ≤ W) (hlo : W + (nativeFrameWords "java/lang/System" "arraycopy" 5 + 11) ≤ R.locals) :
    ∃ T' h' L, Stand p l e R s m args below meth c T' L cells slots ∧ T'.heap = h' ∧ Fr n0 L ∧ Keep h h' [b] ∧ Ai Z h' b ty (ys.take dp.toNatClampNeg ++ (xs.drop sp.toNatClampNeg).take nn.toNatClampNeg ++ ys.drop (dp.toNatClampNeg + nn.toNatClampNeg)) ∧
      ∀ t, Steps p.tables e below (T'.setTop { g with pc := g.pc + 3, stack := rest }) t → Steps p.tables e below (T.setTop g) t := by
  obtain ⟨k, z, A, r⟩ := A
  obtain ⟨k', z', B, r'⟩ := B
  obtain ⟨T', h', L, X', e', N', K, V, st⟩ := cpA X hx hZ hown w1 w2 w3 w4 eT A B (Or.inl ⟨rfl, hty⟩) h1 h2 h3 (by rw [r]; exact h4) (by rw [r']; exact h5) rfl (by simpa using h5) N ge hg hsize hs hd hf hW hlo
  refine ⟨T', h', L, X', e', N', K, ⟨k', z', ?_, ?_⟩, st⟩
  · have q : (List.range nn.toNatClampNeg).map (fun i => (xs.map Value.int).getD (sp.toNatClampNeg + i) (.int 0)) = ((xs.drop sp.toNatClampNeg).take nn.toNatClampNeg).map Value.int := by
      apply List.ext_getElem?
      intro i
      by_cases hi : i < nn.toNatClampNeg
      · have h6 : sp.toNatClampNeg + i < xs.length := by omega
        simp [List.getElem?_take, hi, h6, List.getD_eq_getElem?_getD]
      · simp [List.getElem?_take, hi]
    rw [q] at V
    simpa [List.map_append, List.map_take, List.map_drop] using V
  · rw [r']; simp; omega
/-! arrays of longs -/
def Al (Z : State) (h : Heap) (a : Addr) (ls : List Int64) : Prop := ∃ (k : ClassId) (z : Int32), Arv Z h a k .long z (ls.map Value.long) (.long 0) ∧ z.toNatClampNeg = ls.length
theorem Al.lt (A : Al Z h a ls) : a < h.size := by obtain ⟨_, _, q, -⟩ := A; exact q.lt
theorem Al.ext (A : Al Z h a ls) (E : Ext h h') : Al Z h' a ls := by obtain ⟨k, z, q, r⟩ := A; exact ⟨k, z, q.ext E, r⟩
theorem Al.other {sl : Nat} {v : Value} (A : Al Z h a ls) (W : Wr h h' b sl v) (ne : a ≠ b) : Al Z h' a ls := by obtain ⟨k, z, q, r⟩ := A; exact ⟨k, z, q.other W ne, r⟩
theorem Al.keep {ws : List Addr} (A : Al Z h a ls) (K : Keep h h' ws) (nin : a ∉ ws) : Al Z h' a ls := by obtain ⟨k, z, q, r⟩ := A; exact ⟨k, z, q.keep K nin, r⟩
theorem Al.len (A : Al Z h a ls) : ls.length < 2 ^ 31 := by
  obtain ⟨k, z, ⟨c, -, -, -, hz, -⟩, r⟩ := A
  rw [← r]; exact (back32 hz).2
theorem Al.open (A : Al Z h a ls) : ∃ c : Cell, Arr Z h a c .long ∧ c.slots.size = ls.length ∧ ∀ (i : Nat) (v : Int64), ls[i]? = some v → c.slots[i]? = some (.long v) := by
  obtain ⟨k, z, ⟨c, A, q1, S, q3, H, G⟩, r⟩ := A
  refine ⟨c, A, S.trans r, fun i v hv => ?_⟩
  have hi : i < ls.length := (List.getElem?_eq_some_iff.mp hv).1
  rw [H i (by rw [S, r]; exact hi)]
  simp [List.getD_eq_getElem?_getD, hv]
theorem Al.load (A : Al Z h a ls) (X : Stand p l e R s m args below meth c T locs cells slots) (hx : p.tables.exec = Jvm.exec) (hZ : Z.Warmed39 s.vm) (eT : T.heap = h) {j : Int32} {v : Int64} (hj : ¬ j < 0) (hv : ls[j.toNatClampNeg]? = some v) {g : JFrame} (hg : g.method = m) {rest : List Value} (hs : g.stack = .int j :: .ref a :: rest) (hd : decode c.code g.pc = .ok (.laload, 1)) :
    ∀ t, Steps p.tables e below (T.setTop { g with pc := g.pc + 1, stack := .long v :: rest }) t → Steps p.tables e below (T.setTop g) t := by
  obtain ⟨cl, Ar, S, H⟩ := A.open
  exact fun t k => X.laload hx (j := j) (v := .long v) (by rw [eT]; exact Ar.1) (State.isArrayOf_alike hZ.alike Ar.2.1) Ar.2.2 (own_in hj (by rw [S]; exact (List.getElem?_eq_some_iff.mp hv).1)) (H _ _ hv) hg hs hd t k
theorem Al.length (A : Al Z h a ls) (X : Stand p l e R s m args below meth c T locs cells slots) (hx : p.tables.exec = Jvm.exec) (hZ : Z.Warmed39 s.vm) (eT : T.heap = h) {n : Int32} (hn : ls.length.toInt32 = n) {g : JFrame} (hg : g.method = m) {rest : List Value} (hs : g.stack = .ref a :: rest) (hd : decode c.code g.pc = .ok (.arraylength, 1)) :
    ∀ t, Steps p.tables e below (T.setTop { g with pc := g.pc + 1, stack := .int n :: rest }) t → Steps p.tables e below (T.setTop g) t := by
  obtain ⟨cl, Ar, S, H⟩ := A.open
  subst hn
  rw [← S]
  exact fun t k => X.arraylength hx (by rw [eT]; exact Ar.1) (State.isArrayOf_alike hZ.alike Ar.2.1) hg hs hd t k
theorem Al.store (A : Al Z h a ls) (X : Stand p l e R s m args below meth c T locs cells slots) (hx : p.tables.exec = Jvm.exec) (hZ : Z.Warmed39 s.vm) (eT : T.heap = h) {j : Int32} {v : Int64} (hj : ¬ j < 0) (hi : j.toNatClampNeg < ls.length) {g : JFrame} (hg : g.method = m) {rest : List Value} (hs : g.stack = .long v :: .int j :: .ref a :: rest) (hd : decode c.code g.pc = .ok (.lastore, 1)) :
    ∃ T' h', Stand p l e R s m args below meth c T' (locs ++ [⟨a, j.toNatClampNeg⟩]) cells slots ∧ T'.heap = h' ∧ Wr h h' a j.toNatClampNeg (.long v) ∧ Al Z h' a (ls.set j.toNatClampNeg v) ∧
      ∀ t, Steps p.tables e below (T'.setTop { g with pc := g.pc + 1, stack := rest }) t → Steps p.tables e below (T.setTop g) t := by
  obtain ⟨cl, Ar, S, H⟩ := A.open
  obtain ⟨T', h', X', e', W, st⟩ := stJ X hx hZ eT Ar (j := j) (own_in hj (by rw [S]; exact hi)) hg hs hd
  refine ⟨T', h', X', e', W, ?_, st⟩
  obtain ⟨k, z, ⟨c, A, q1, S, q3, H, G⟩, r⟩ := A
  refine ⟨k, z, ?_, by simpa using r⟩
  rw [List.map_set]
  exact Arv.set A q1 S q3 H G rfl W j.toNatClampNeg rfl (by simpa using hi)
theorem Al.new (X : Stand p l e R s m args below meth c T locs cells slots) (hx : p.tables.exec = Jvm.exec) (hZ : Z.Warmed39 s.vm) {aty : ArrayType} (w : (Jvm.Cond.arrayClass (newarray.typeOf aty)).before a0 Z = true) (hdef : aty = .long) (eT : T.heap = h) {n : Int32} (hn : ¬ n < 0) (cap : Nat) (hcap : n.toNatClampNeg ≤ cap) (hb : cap * 8 ≤ 536870912) (hc : cells + 1 ≤ R.cells) (hl : slots + cap ≤ R.slots)
    {g : JFrame} (hg : g.method = m) {rest : List Value} (hs : g.stack = .int n :: rest) (hd : decode c.code g.pc = .ok (.newarray aty, 2)) :
    ∃ T' h' b, Stand p l e R s m args below meth c T' locs (cells + 1) (slots + cap) ∧ T'.heap = h' ∧ b = h.size ∧ Ext h h' ∧ Al Z h' b (List.replicate n.toNatClampNeg 0) ∧
      ∀ t, Steps p.tables e below (T'.setTop { g with pc := g.pc + 2, stack := .ref b :: rest }) t → Steps p.tables e below (T.setTop g) t := by
  obtain ⟨T', h', k, X', e', E, A, st⟩ := newP X hx hZ w eT (g := g) hg hd hs hn hcap hb hc hl
  subst hdef
  refine ⟨T', h', _, X', e', rfl, E, ⟨k, n, ?_, by simp⟩, st⟩
  have V := Arv.new A hn
  rw [List.map_replicate]
  exact V.pad (pad_rep [] (.long 0) n.toNatClampNeg)
theorem own_if1 {P : Prop} [Decidable P] (h : P) : ¬ ((if P then (1 : Int32) else (0 : Int32)) = 0) := by rw [if_pos h]; decide
theorem own_if0 {P : Prop} [Decidable P] (h : ¬ P) : (if P then (1 : Int32) else (0 : Int32)) = 0 := if_neg h
theorem own_ifc {P Q : Prop} [Decidable P] [Decidable Q] (h : P ↔ Q) : (if P then (1 : Int32) else (0 : Int32)) = (if Q then (1 : Int32) else (0 : Int32)) := by
  by_cases p : P
  · rw [if_pos p, if_pos (h.mp p)]
  · rw [if_neg p, if_neg (fun q => p (h.mpr q))]
theorem own_narI {P : Prop} [Decidable P] : nar .boolean (if P then (1 : Int32) else (0 : Int32)) = (if P then (1 : Int32) else (0 : Int32)) := by
  by_cases p : P
  · rw [if_pos p]; rfl
  · rw [if_neg p]; rfl
theorem own_bb (x : Int32) : x.toInt8.toInt32.toInt8.toInt32 = x.toInt8.toInt32 := by simp
end Layer
section Numbers
theorem own_mod (x k : Int32) (hk : 0 < k.toInt) : 0 ≤ ((x &&& (2147483647 : Int32)) % k).toInt ∧ ((x &&& (2147483647 : Int32)) % k).toInt < k.toInt := by
  have h1 := c_and x 2147483647 (by decide)
  have h2 := (c_iremV (x &&& 2147483647) k).1 h1.1 hk
  exact ⟨h2.1, h2.2.1⟩
theorem own_nn {j : Int32} (h : 0 ≤ j.toInt) : ¬ j < 0 := by
  rw [Int32.lt_iff_toInt_lt, show (0 : Int32).toInt = 0 from rfl]; omega
theorem own_nat {j : Int32} {k : Nat} (h : 0 ≤ j.toInt) (h2 : j.toInt < k) : j.toNatClampNeg < k := by
  simp only [Int32.toNatClampNeg]; omega
theorem own_at {xs : List Int32} {i : Nat} (h : i < xs.length) : ∃ v, xs[i]? = some v := ⟨xs[i], List.getElem?_eq_getElem h⟩
end Numbers
def own_next (st iv : Int64) (ct nx : Int32) (rd : Int64) : Int64 := (st + (rd * iv)) + (((iv / ct.toInt64) * nx.toInt64) + (((iv % ct.toInt64) * nx.toInt64) / ct.toInt64))
theorem own_pzp (d jj X q r qj rj rjd s : Int) (c : (d = 2 ∧ jj = 1) ∨ (d = 3 ∧ jj = 1) ∨ (d = 3 ∧ jj = 2) ∨ (d = 4 ∧ jj = 1) ∨ (d = 4 ∧ jj = 2) ∨ (d = 4 ∧ jj = 3)) (hX : -9223372036854775808 ≤ X ∧ X ≤ 9223372036854775807) (h0 : 0 ≤ X) (b1 : q = X / d) (b2 : r = X % d) (r3 : -9223372036854775808 ≤ qj ∧ qj ≤ 9223372036854775807) (r4 : -9223372036854775808 ≤ rj ∧ rj ≤ 9223372036854775807) (r5 : -9223372036854775808 ≤ s ∧ s ≤ 9223372036854775807) (a3 : (qj - q * jj) % 18446744073709551616 = 0) (a4 : (rj - r * jj) % 18446744073709551616 = 0) (a5 : (0 ≤ rj → rjd = rj / d) ∧ (rj < 0 → rjd = -((-rj) / d))) (a6 : (s - (qj + rjd)) % 18446744073709551616 = 0) : s = (X / d) * jj + (X % d * jj) / d := by
  rcases c with ⟨rfl, rfl⟩ | ⟨rfl, rfl⟩ | ⟨rfl, rfl⟩ | ⟨rfl, rfl⟩ | ⟨rfl, rfl⟩ | ⟨rfl, rfl⟩
  · have m4 : rj = X % 2 * 1 := by clear a3 a6 a5 r3 r5 b1; omega
    have m3 : qj = X / 2 * 1 := by clear a4 a6 a5 r4 r5 b2 m4; omega
    have m5 : rjd = (X % 2 * 1) / 2 := by rw [a5.1 (by rw [m4]; clear a3 a4 a5 a6 m3 m4 r3 r4 r5; omega), m4]
    rw [m3, m5] at a6
    clear a3 a4 a5 m3 m4 m5 r3 r4 b1 b2
    have m6 : X % 2 * 1 / 2 ≤ 3 ∧ 0 ≤ X % 2 * 1 / 2 := by clear a6 r5; omega
    generalize X % 2 * 1 / 2 = Y at *
    omega
  · have m4 : rj = X % 3 * 1 := by clear a3 a6 a5 r3 r5 b1; omega
    have m3 : qj = X / 3 * 1 := by clear a4 a6 a5 r4 r5 b2 m4; omega
    have m5 : rjd = (X % 3 * 1) / 3 := by rw [a5.1 (by rw [m4]; clear a3 a4 a5 a6 m3 m4 r3 r4 r5; omega), m4]
    rw [m3, m5] at a6
    clear a3 a4 a5 m3 m4 m5 r3 r4 b1 b2
    have m6 : X % 3 * 1 / 3 ≤ 3 ∧ 0 ≤ X % 3 * 1 / 3 := by clear a6 r5; omega
    generalize X % 3 * 1 / 3 = Y at *
    omega
  · have m4 : rj = X % 3 * 2 := by clear a3 a6 a5 r3 r5 b1; omega
    have m3 : qj = X / 3 * 2 := by clear a4 a6 a5 r4 r5 b2 m4; omega
    have m5 : rjd = (X % 3 * 2) / 3 := by rw [a5.1 (by rw [m4]; clear a3 a4 a5 a6 m3 m4 r3 r4 r5; omega), m4]
    rw [m3, m5] at a6
    clear a3 a4 a5 m3 m4 m5 r3 r4 b1 b2
    have m6 : X % 3 * 2 / 3 ≤ 3 ∧ 0 ≤ X % 3 * 2 / 3 := by clear a6 r5; omega
    generalize X % 3 * 2 / 3 = Y at *
    omega
  · have m4 : rj = X % 4 * 1 := by clear a3 a6 a5 r3 r5 b1; omega
    have m3 : qj = X / 4 * 1 := by clear a4 a6 a5 r4 r5 b2 m4; omega
    have m5 : rjd = (X % 4 * 1) / 4 := by rw [a5.1 (by rw [m4]; clear a3 a4 a5 a6 m3 m4 r3 r4 r5; omega), m4]
    rw [m3, m5] at a6
    clear a3 a4 a5 m3 m4 m5 r3 r4 b1 b2
    have m6 : X % 4 * 1 / 4 ≤ 3 ∧ 0 ≤ X % 4 * 1 / 4 := by clear a6 r5; omega
    generalize X % 4 * 1 / 4 = Y at *
    omega
  · have m4 : rj = X % 4 * 2 := by clear a3 a6 a5 r3 r5 b1; omega
    have m3 : qj = X / 4 * 2 := by clear a4 a6 a5 r4 r5 b2 m4; omega
    have m5 : rjd = (X % 4 * 2) / 4 := by rw [a5.1 (by rw [m4]; clear a3 a4 a5 a6 m3 m4 r3 r4 r5; omega), m4]
    rw [m3, m5] at a6
    clear a3 a4 a5 m3 m4 m5 r3 r4 b1 b2
    have m6 : X % 4 * 2 / 4 ≤ 3 ∧ 0 ≤ X % 4 * 2 / 4 := by clear a6 r5; omega
    generalize X % 4 * 2 / 4 = Y at *
    omega
  · have m4 : rj = X % 4 * 3 := by clear a3 a6 a5 r3 r5 b1; omega
    have m3 : qj = X / 4 * 3 := by clear a4 a6 a5 r4 r5 b2 m4; omega
    have m5 : rjd = (X % 4 * 3) / 4 := by rw [a5.1 (by rw [m4]; clear a3 a4 a5 a6 m3 m4 r3 r4 r5; omega), m4]
    rw [m3, m5] at a6
    clear a3 a4 a5 m3 m4 m5 r3 r4 b1 b2
    have m6 : X % 4 * 3 / 4 ≤ 3 ∧ 0 ≤ X % 4 * 3 / 4 := by clear a6 r5; omega
    generalize X % 4 * 3 / 4 = Y at *
    omega
theorem own_pzn (d jj X q r qj rj rjd s : Int) (c : (d = 2 ∧ jj = 1) ∨ (d = 3 ∧ jj = 1) ∨ (d = 3 ∧ jj = 2) ∨ (d = 4 ∧ jj = 1) ∨ (d = 4 ∧ jj = 2) ∨ (d = 4 ∧ jj = 3)) (hX : -9223372036854775808 ≤ X ∧ X ≤ 9223372036854775807) (h0 : ¬ 0 ≤ X) (b1 : q = -((-X) / d)) (b2 : r = -((-X) % d)) (r3 : -9223372036854775808 ≤ qj ∧ qj ≤ 9223372036854775807) (r4 : -9223372036854775808 ≤ rj ∧ rj ≤ 9223372036854775807) (r5 : -9223372036854775808 ≤ s ∧ s ≤ 9223372036854775807) (a3 : (qj - q * jj) % 18446744073709551616 = 0) (a4 : (rj - r * jj) % 18446744073709551616 = 0) (a5 : (0 ≤ rj → rjd = rj / d) ∧ (rj < 0 → rjd = -((-rj) / d))) (a6 : (s - (qj + rjd)) % 18446744073709551616 = 0) : s = -(((-X) / d) * jj + ((-X) % d * jj) / d) := by
  generalize hN : -X = N at *
  rcases c with ⟨rfl, rfl⟩ | ⟨rfl, rfl⟩ | ⟨rfl, rfl⟩ | ⟨rfl, rfl⟩ | ⟨rfl, rfl⟩ | ⟨rfl, rfl⟩
  · have m4 : rj = -(N % 2 * 1) := by clear a3 a6 a5 r3 r5 b1; omega
    have m3 : qj = -(N / 2 * 1) := by clear a4 a6 a5 r4 r5 b2 m4; omega
    have m5 : rjd = -((N % 2 * 1) / 2) := by
      by_cases t : rj < 0
      · rw [a5.2 t, m4, Int.neg_neg]
      · rw [a5.1 (by omega)]
        have t2 : N % 2 * 1 = 0 := by clear a3 a4 a5 a6 m3 b1 b2; omega
        rw [m4, t2]; rfl
    rw [m3, m5] at a6
    clear a3 a4 a5 m3 m4 m5 r3 r4 b1 b2
    have m6 : N % 2 * 1 / 2 ≤ 3 ∧ 0 ≤ N % 2 * 1 / 2 := by clear a6 r5; omega
    generalize N % 2 * 1 / 2 = Y at *
    omega
  · have m4 : rj = -(N % 3 * 1) := by clear a3 a6 a5 r3 r5 b1; omega
    have m3 : qj = -(N / 3 * 1) := by clear a4 a6 a5 r4 r5 b2 m4; omega
    have m5 : rjd = -((N % 3 * 1) / 3) := by
      by_cases t : rj < 0
      · rw [a5.2 t, m4, Int.neg_neg]
      · rw [a5.1 (by omega)]
        have t2 : N % 3 * 1 = 0 := by clear a3 a4 a5 a6 m3 b1 b2; omega
        rw [m4, t2]; rfl
    rw [m3, m5] at a6
    clear a3 a4 a5 m3 m4 m5 r3 r4 b1 b2
    have m6 : N % 3 * 1 / 3 ≤ 3 ∧ 0 ≤ N % 3 * 1 / 3 := by clear a6 r5; omega
    generalize N % 3 * 1 / 3 = Y at *
    omega
  · have m4 : rj = -(N % 3 * 2) := by clear a3 a6 a5 r3 r5 b1; omega
    have m3 : qj = -(N / 3 * 2) := by clear a4 a6 a5 r4 r5 b2 m4; omega
    have m5 : rjd = -((N % 3 * 2) / 3) := by
      by_cases t : rj < 0
      · rw [a5.2 t, m4, Int.neg_neg]
      · rw [a5.1 (by omega)]
        have t2 : N % 3 * 2 = 0 := by clear a3 a4 a5 a6 m3 b1 b2; omega
        rw [m4, t2]; rfl
    rw [m3, m5] at a6
    clear a3 a4 a5 m3 m4 m5 r3 r4 b1 b2
    have m6 : N % 3 * 2 / 3 ≤ 3 ∧ 0 ≤ N % 3 * 2 / 3 := by clear a6 r5; omega
    generalize N % 3 * 2 / 3 = Y at *
    omega
  · have m4 : rj = -(N % 4 * 1) := by clear a3 a6 a5 r3 r5 b1; omega
    have m3 : qj = -(N / 4 * 1) := by clear a4 a6 a5 r4 r5 b2 m4; omega
    have m5 : rjd = -((N % 4 * 1) / 4) := by
      by_cases t : rj < 0
      · rw [a5.2 t, m4, Int.neg_neg]
      · rw [a5.1 (by omega)]
        have t2 : N % 4 * 1 = 0 := by clear a3 a4 a5 a6 m3 b1 b2; omega
        rw [m4, t2]; rfl
    rw [m3, m5] at a6
    clear a3 a4 a5 m3 m4 m5 r3 r4 b1 b2
    have m6 : N % 4 * 1 / 4 ≤ 3 ∧ 0 ≤ N % 4 * 1 / 4 := by clear a6 r5; omega
    generalize N % 4 * 1 / 4 = Y at *
    omega
  · have m4 : rj = -(N % 4 * 2) := by clear a3 a6 a5 r3 r5 b1; omega
    have m3 : qj = -(N / 4 * 2) := by clear a4 a6 a5 r4 r5 b2 m4; omega
    have m5 : rjd = -((N % 4 * 2) / 4) := by
      by_cases t : rj < 0
      · rw [a5.2 t, m4, Int.neg_neg]
      · rw [a5.1 (by omega)]
        have t2 : N % 4 * 2 = 0 := by clear a3 a4 a5 a6 m3 b1 b2; omega
        rw [m4, t2]; rfl
    rw [m3, m5] at a6
    clear a3 a4 a5 m3 m4 m5 r3 r4 b1 b2
    have m6 : N % 4 * 2 / 4 ≤ 3 ∧ 0 ≤ N % 4 * 2 / 4 := by clear a6 r5; omega
    generalize N % 4 * 2 / 4 = Y at *
    omega
  · have m4 : rj = -(N % 4 * 3) := by clear a3 a6 a5 r3 r5 b1; omega
    have m3 : qj = -(N / 4 * 3) := by clear a4 a6 a5 r4 r5 b2 m4; omega
    have m5 : rjd = -((N % 4 * 3) / 4) := by
      by_cases t : rj < 0
      · rw [a5.2 t, m4, Int.neg_neg]
      · rw [a5.1 (by omega)]
        have t2 : N % 4 * 3 = 0 := by clear a3 a4 a5 a6 m3 b1 b2; omega
        rw [m4, t2]; rfl
    rw [m3, m5] at a6
    clear a3 a4 a5 m3 m4 m5 r3 r4 b1 b2
    have m6 : N % 4 * 3 / 4 ≤ 3 ∧ 0 ≤ N % 4 * 3 / 4 := by clear a6 r5; omega
    generalize N % 4 * 3 / 4 = Y at *
    omega
theorem own_lzp (d X q c xs s : Int) (hd : d = 3 ∨ d = 4) (hX : -9223372036854775808 ≤ X ∧ X ≤ 9223372036854775807) (r3 : -9223372036854775808 ≤ xs ∧ xs ≤ 9223372036854775807) (r4 : -9223372036854775808 ≤ s ∧ s ≤ 9223372036854775807) (a3 : (xs - (X - q)) % 18446744073709551616 = 0) (a4 : (s - (xs - c)) % 18446744073709551616 = 0) (a2 : c = if X % d = 0 then 0 else if 0 < X then 1 else -1) (h0 : 0 ≤ X) (b1 : q = X / d) : (X / d) * (d - 1) + (X % d * (d - 1)) / d = s := by
  rcases hd with rfl | rfl
  · have m3 : xs = X - X / 3 := by clear a2 a4 r4; omega
    have k : c = 0 ∧ X % 3 = 0 ∨ c = 1 ∧ ¬ X % 3 = 0 := by
      by_cases z : X % 3 = 0
      · rw [if_pos z] at a2; exact Or.inl ⟨a2, z⟩
      · rw [if_neg z, if_pos (by clear a2 a3 a4 m3 b1 r3 r4; omega)] at a2; exact Or.inr ⟨a2, z⟩
    clear a2
    have m4 : s = X - X / 3 - c := by clear a3 b1; omega
    clear a3 a4 b1 r3 r4 hX
    rw [m4]; clear m4 m3
    rcases k with ⟨k1, k2⟩ | ⟨k1, k2⟩
    · omega
    · omega
  · have m3 : xs = X - X / 4 := by clear a2 a4 r4; omega
    have k : c = 0 ∧ X % 4 = 0 ∨ c = 1 ∧ ¬ X % 4 = 0 := by
      by_cases z : X % 4 = 0
      · rw [if_pos z] at a2; exact Or.inl ⟨a2, z⟩
      · rw [if_neg z, if_pos (by clear a2 a3 a4 m3 b1 r3 r4; omega)] at a2; exact Or.inr ⟨a2, z⟩
    clear a2
    have m4 : s = X - X / 4 - c := by clear a3 b1; omega
    clear a3 a4 b1 r3 r4 hX
    rw [m4]; clear m4 m3
    rcases k with ⟨k1, k2⟩ | ⟨k1, k2⟩
    · omega
    · omega
theorem own_lzn (d X q c xs s : Int) (hd : d = 3 ∨ d = 4) (hX : -9223372036854775808 ≤ X ∧ X ≤ 9223372036854775807) (r3 : -9223372036854775808 ≤ xs ∧ xs ≤ 9223372036854775807) (r4 : -9223372036854775808 ≤ s ∧ s ≤ 9223372036854775807) (a3 : (xs - (X - q)) % 18446744073709551616 = 0) (a4 : (s - (xs - c)) % 18446744073709551616 = 0) (a2 : c = if X % d = 0 then 0 else if 0 < X then 1 else -1) (h0 : ¬ 0 ≤ X) (b1 : q = -((-X) / d)) : -(((-X) / d) * (d - 1) + ((-X) % d * (d - 1)) / d) = s := by
  rcases hd with rfl | rfl
  · have m3 : xs = X + (-X) / 3 := by clear a2 a4 r4; omega
    have k : c = 0 ∧ X % 3 = 0 ∨ c = -1 ∧ ¬ X % 3 = 0 := by
      by_cases z : X % 3 = 0
      · rw [if_pos z] at a2; exact Or.inl ⟨a2, z⟩
      · rw [if_neg z, if_neg (by clear a2 a3 a4 m3 b1 r3 r4; omega)] at a2; exact Or.inr ⟨a2, z⟩
    clear a2
    have m4 : s = X + (-X) / 3 - c := by clear a3 b1; omega
    clear a3 a4 b1 r3 r4 hX
    rw [m4]; clear m4 m3
    have k : c = 0 ∧ (-X) % 3 = 0 ∨ c = -1 ∧ ¬ (-X) % 3 = 0 := by omega
    obtain ⟨N, rfl⟩ : ∃ N, X = -N := ⟨-X, by omega⟩
    rw [Int.neg_neg] at *
    rcases k with ⟨k1, k2⟩ | ⟨k1, k2⟩
    · omega
    · omega
  · have m3 : xs = X + (-X) / 4 := by clear a2 a4 r4; omega
    have k : c = 0 ∧ X % 4 = 0 ∨ c = -1 ∧ ¬ X % 4 = 0 := by
      by_cases z : X % 4 = 0
      · rw [if_pos z] at a2; exact Or.inl ⟨a2, z⟩
      · rw [if_neg z, if_neg (by clear a2 a3 a4 m3 b1 r3 r4; omega)] at a2; exact Or.inr ⟨a2, z⟩
    clear a2
    have m4 : s = X + (-X) / 4 - c := by clear a3 b1; omega
    clear a3 a4 b1 r3 r4 hX
    rw [m4]; clear m4 m3
    have k : c = 0 ∧ (-X) % 4 = 0 ∨ c = -1 ∧ ¬ (-X) % 4 = 0 := by omega
    obtain ⟨N, rfl⟩ : ∃ N, X = -N := ⟨-X, by omega⟩
    rw [Int.neg_neg] at *
    rcases k with ⟨k1, k2⟩ | ⟨k1, k2⟩
    · omega
    · omega
def own_corr (x n : Int64) : Int64 := if x % n = 0 then 0 else if 0 < x then 1 else -1
def own_off (x : Int64) (n j : Int32) : Int64 := if j = 0 then 0 else if n = 2 then x / 2 else if n = 3 then (if j = 1 then x / 3 else x - x / 3 - own_corr x 3) else if n = 4 then (if j = 1 then x / 4 else if j = 2 then x / 2 else x - x / 4 - own_corr x 4) else 0
theorem w0 {Z : State} {a0 : Array Value} (hw : ∀ d ∈ tables_1, d.before a0 Z = true) : (Jvm.Cond.constant "com/example/vigilant_coordinator/vigilantcoordinator/load/SpreadNextNanosPinLaw" (21 : Nat) (2147483647 : Int32)).before a0 Z = true := hw _ (List.mem_of_getElem? (i := 0) rfl)
theorem w1 {Z : State} {a0 : Array Value} (hw : ∀ d ∈ tables_1, d.before a0 Z = true) : (Jvm.Cond.classLink "com/example/vigilant_coordinator/vigilantcoordinator/load/SpreadNextNanosPinLaw" (22 : Nat) "com/example/vigilant_coordinator/vigilantcoordinator/load/Spread").before a0 Z = true := hw _ (List.mem_of_getElem? (i := 1) rfl)
theorem w2 {Z : State} {a0 : Array Value} (hw : ∀ d ∈ tables_1, d.before a0 Z = true) : (Jvm.Cond.instantiable "com/example/vigilant_coordinator/vigilantcoordinator/load/Spread" (6 : Nat)).before a0 Z = true := hw _ (List.mem_of_getElem? (i := 2) rfl)
theorem w3 {Z : State} {a0 : Array Value} (hw : ∀ d ∈ tables_1, d.before a0 Z = true) : (Jvm.Cond.initialized "com/example/vigilant_coordinator/vigilantcoordinator/load/Spread").before a0 Z = true := hw _ (List.mem_of_getElem? (i := 3) rfl)
theorem w4 {Z : State} {a0 : Array Value} (hw : ∀ d ∈ tables_1, d.before a0 Z = true) : (Jvm.Cond.methodLink "com/example/vigilant_coordinator/vigilantcoordinator/load/SpreadNextNanosPinLaw" (24 : Nat) ({ cls := "com/example/vigilant_coordinator/vigilantcoordinator/load/Spread", name := "<init>", desc := "(JJII)V" } : Jvm.MethodName)).before a0 Z = true := hw _ (List.mem_of_getElem? (i := 4) rfl)
theorem w5 {Z : State} {a0 : Array Value} (hw : ∀ d ∈ tables_1, d.before a0 Z = true) : (Jvm.Cond.instanceMethod ({ cls := "com/example/vigilant_coordinator/vigilantcoordinator/load/Spread", name := "<init>", desc := "(JJII)V" } : Jvm.MethodName)).before a0 Z = true := hw _ (List.mem_of_getElem? (i := 5) rfl)
theorem w6 {Z : State} {a0 : Array Value} (hw : ∀ d ∈ tables_1, d.before a0 Z = true) : (Jvm.Cond.code ({ cls := "com/example/vigilant_coordinator/vigilantcoordinator/load/Spread", name := "<init>", desc := "(JJII)V" } : Jvm.MethodName) prog_45_method_1_code (7 : Nat) (Option.none : Option Jvm.ClassFile.FieldType)).before a0 Z = true := hw _ (List.mem_of_getElem? (i := 6) rfl)
theorem w7 {Z : State} {a0 : Array Value} (hw : ∀ d ∈ tables_1, d.before a0 Z = true) : (Jvm.Cond.methodLink "com/example/vigilant_coordinator/vigilantcoordinator/load/Spread" (1 : Nat) ({ cls := "java/lang/Object", name := "<init>", desc := "()V" } : Jvm.MethodName)).before a0 Z = true := hw _ (List.mem_of_getElem? (i := 7) rfl)
theorem w8 {Z : State} {a0 : Array Value} (hw : ∀ d ∈ tables_1, d.before a0 Z = true) : (Jvm.Cond.instanceMethod ({ cls := "java/lang/Object", name := "<init>", desc := "()V" } : Jvm.MethodName)).before a0 Z = true := hw _ (List.mem_of_getElem? (i := 8) rfl)
theorem w9 {Z : State} {a0 : Array Value} (hw : ∀ d ∈ tables_1, d.before a0 Z = true) : (Jvm.Cond.code ({ cls := "java/lang/Object", name := "<init>", desc := "()V" } : Jvm.MethodName) object_method_1_code (1 : Nat) (Option.none : Option Jvm.ClassFile.FieldType)).before a0 Z = true := hw _ (List.mem_of_getElem? (i := 9) rfl)
theorem w10 {Z : State} {a0 : Array Value} (hw : ∀ d ∈ tables_1, d.before a0 Z = true) : (Jvm.Cond.fieldLink "com/example/vigilant_coordinator/vigilantcoordinator/load/Spread" (7 : Nat) "com/example/vigilant_coordinator/vigilantcoordinator/load/Spread" "startNanos" "J").before a0 Z = true := hw _ (List.mem_of_getElem? (i := 10) rfl)
theorem w11 {Z : State} {a0 : Array Value} (hw : ∀ d ∈ tables_1, d.before a0 Z = true) : (Jvm.Cond.laysFinal "com/example/vigilant_coordinator/vigilantcoordinator/load/Spread" "com/example/vigilant_coordinator/vigilantcoordinator/load/Spread" "startNanos" "J").before a0 Z = true := hw _ (List.mem_of_getElem? (i := 11) rfl)
theorem w12 {Z : State} {a0 : Array Value} (hw : ∀ d ∈ tables_1, d.before a0 Z = true) : (Jvm.Cond.fieldLink "com/example/vigilant_coordinator/vigilantcoordinator/load/Spread" (13 : Nat) "com/example/vigilant_coordinator/vigilantcoordinator/load/Spread" "intervalNanos" "J").before a0 Z = true := hw _ (List.mem_of_getElem? (i := 12) rfl)
theorem w13 {Z : State} {a0 : Array Value} (hw : ∀ d ∈ tables_1, d.before a0 Z = true) : (Jvm.Cond.laysFinal "com/example/vigilant_coordinator/vigilantcoordinator/load/Spread" "com/example/vigilant_coordinator/vigilantcoordinator/load/Spread" "intervalNanos" "J").before a0 Z = true := hw _ (List.mem_of_getElem? (i := 13) rfl)
theorem w14 {Z : State} {a0 : Array Value} (hw : ∀ d ∈ tables_1, d.before a0 Z = true) : (Jvm.Cond.fieldLink "com/example/vigilant_coordinator/vigilantcoordinator/load/Spread" (16 : Nat) "com/example/vigilant_coordinator/vigilantcoordinator/load/Spread" "count" "I").before a0 Z = true := hw _ (List.mem_of_getElem? (i := 14) rfl)
theorem w15 {Z : State} {a0 : Array Value} (hw : ∀ d ∈ tables_1, d.before a0 Z = true) : (Jvm.Cond.laysFinal "com/example/vigilant_coordinator/vigilantcoordinator/load/Spread" "com/example/vigilant_coordinator/vigilantcoordinator/load/Spread" "count" "I").before a0 Z = true := hw _ (List.mem_of_getElem? (i := 15) rfl)
theorem w16 {Z : State} {a0 : Array Value} (hw : ∀ d ∈ tables_1, d.before a0 Z = true) : (Jvm.Cond.fieldLink "com/example/vigilant_coordinator/vigilantcoordinator/load/Spread" (20 : Nat) "com/example/vigilant_coordinator/vigilantcoordinator/load/Spread" "first" "I").before a0 Z = true := hw _ (List.mem_of_getElem? (i := 16) rfl)
theorem w17 {Z : State} {a0 : Array Value} (hw : ∀ d ∈ tables_1, d.before a0 Z = true) : (Jvm.Cond.laysFinal "com/example/vigilant_coordinator/vigilantcoordinator/load/Spread" "com/example/vigilant_coordinator/vigilantcoordinator/load/Spread" "first" "I").before a0 Z = true := hw _ (List.mem_of_getElem? (i := 17) rfl)
theorem w18 {Z : State} {a0 : Array Value} (hw : ∀ d ∈ tables_1, d.before a0 Z = true) : (Jvm.Cond.methodLink "com/example/vigilant_coordinator/vigilantcoordinator/load/SpreadNextNanosPinLaw" (31 : Nat) ({ cls := "com/example/vigilant_coordinator/vigilantcoordinator/load/Spread", name := "nextNanos", desc := "()J" } : Jvm.MethodName)).before a0 Z = true := hw _ (List.mem_of_getElem? (i := 18) rfl)
theorem w19 {Z : State} {a0 : Array Value} (hw : ∀ d ∈ tables_1, d.before a0 Z = true) : (Jvm.Cond.declares ({ cls := "com/example/vigilant_coordinator/vigilantcoordinator/load/Spread", name := "nextNanos", desc := "()J" } : Jvm.MethodName)).before a0 Z = true := hw _ (List.mem_of_getElem? (i := 19) rfl)
theorem w20 {Z : State} {a0 : Array Value} (hw : ∀ d ∈ tables_1, d.before a0 Z = true) : (Jvm.Cond.instanceMethod ({ cls := "com/example/vigilant_coordinator/vigilantcoordinator/load/Spread", name := "nextNanos", desc := "()J" } : Jvm.MethodName)).before a0 Z = true := hw _ (List.mem_of_getElem? (i := 20) rfl)
theorem w21 {Z : State} {a0 : Array Value} (hw : ∀ d ∈ tables_1, d.before a0 Z = true) : (Jvm.Cond.selects "com/example/vigilant_coordinator/vigilantcoordinator/load/Spread" ({ cls := "com/example/vigilant_coordinator/vigilantcoordinator/load/Spread", name := "nextNanos", desc := "()J" } : Jvm.MethodName) ({ cls := "com/example/vigilant_coordinator/vigilantcoordinator/load/Spread", name := "nextNanos", desc := "()J" } : Jvm.MethodName)).before a0 Z = true := hw _ (List.mem_of_getElem? (i := 21) rfl)
theorem w22 {Z : State} {a0 : Array Value} (hw : ∀ d ∈ tables_1, d.before a0 Z = true) : (Jvm.Cond.code ({ cls := "com/example/vigilant_coordinator/vigilantcoordinator/load/Spread", name := "nextNanos", desc := "()J" } : Jvm.MethodName) prog_45_method_2_code (3 : Nat) (Option.some Jvm.ClassFile.FieldType.long)).before a0 Z = true := hw _ (List.mem_of_getElem? (i := 22) rfl)
theorem w23 {Z : State} {a0 : Array Value} (hw : ∀ d ∈ tables_1, d.before a0 Z = true) : (Jvm.Cond.fieldLink "com/example/vigilant_coordinator/vigilantcoordinator/load/Spread" (23 : Nat) "com/example/vigilant_coordinator/vigilantcoordinator/load/Spread" "next" "I").before a0 Z = true := hw _ (List.mem_of_getElem? (i := 23) rfl)
theorem w24 {Z : State} {a0 : Array Value} (hw : ∀ d ∈ tables_1, d.before a0 Z = true) : (Jvm.Cond.lays "com/example/vigilant_coordinator/vigilantcoordinator/load/Spread" "com/example/vigilant_coordinator/vigilantcoordinator/load/Spread" "next" "I").before a0 Z = true := hw _ (List.mem_of_getElem? (i := 24) rfl)
theorem w25 {Z : State} {a0 : Array Value} (hw : ∀ d ∈ tables_1, d.before a0 Z = true) : (Jvm.Cond.fieldLink "com/example/vigilant_coordinator/vigilantcoordinator/load/Spread" (26 : Nat) "com/example/vigilant_coordinator/vigilantcoordinator/load/Spread" "round" "J").before a0 Z = true := hw _ (List.mem_of_getElem? (i := 25) rfl)
theorem w26 {Z : State} {a0 : Array Value} (hw : ∀ d ∈ tables_1, d.before a0 Z = true) : (Jvm.Cond.lays "com/example/vigilant_coordinator/vigilantcoordinator/load/Spread" "com/example/vigilant_coordinator/vigilantcoordinator/load/Spread" "round" "J").before a0 Z = true := hw _ (List.mem_of_getElem? (i := 26) rfl)
theorem w27 {Z : State} {a0 : Array Value} (hw : ∀ d ∈ tables_1, d.before a0 Z = true) : (Jvm.Cond.methodLink "com/example/vigilant_coordinator/vigilantcoordinator/load/SpreadNextNanosPinLaw" (35 : Nat) ({ cls := "com/example/vigilant_coordinator/vigilantcoordinator/load/SpreadNextNanosPinLaw", name := "offset", desc := "(JII)J" } : Jvm.MethodName)).before a0 Z = true := hw _ (List.mem_of_getElem? (i := 27) rfl)
theorem w28 {Z : State} {a0 : Array Value} (hw : ∀ d ∈ tables_1, d.before a0 Z = true) : (Jvm.Cond.static ({ cls := "com/example/vigilant_coordinator/vigilantcoordinator/load/SpreadNextNanosPinLaw", name := "offset", desc := "(JII)J" } : Jvm.MethodName)).before a0 Z = true := hw _ (List.mem_of_getElem? (i := 28) rfl)
theorem w29 {Z : State} {a0 : Array Value} (hw : ∀ d ∈ tables_1, d.before a0 Z = true) : (Jvm.Cond.initialized "com/example/vigilant_coordinator/vigilantcoordinator/load/SpreadNextNanosPinLaw").before a0 Z = true := hw _ (List.mem_of_getElem? (i := 29) rfl)
theorem w30 {Z : State} {a0 : Array Value} (hw : ∀ d ∈ tables_1, d.before a0 Z = true) : (Jvm.Cond.code ({ cls := "com/example/vigilant_coordinator/vigilantcoordinator/load/SpreadNextNanosPinLaw", name := "offset", desc := "(JII)J" } : Jvm.MethodName) method_3_code (4 : Nat) (Option.some Jvm.ClassFile.FieldType.long)).before a0 Z = true := hw _ (List.mem_of_getElem? (i := 30) rfl)
theorem w31 {Z : State} {a0 : Array Value} (hw : ∀ d ∈ tables_1, d.before a0 Z = true) : (Jvm.Cond.methodLink "com/example/vigilant_coordinator/vigilantcoordinator/load/SpreadNextNanosPinLaw" (27 : Nat) ({ cls := "com/example/vigilant_coordinator/vigilantcoordinator/load/Spread", name := "take", desc := "()I" } : Jvm.MethodName)).before a0 Z = true := hw _ (List.mem_of_getElem? (i := 31) rfl)
theorem w32 {Z : State} {a0 : Array Value} (hw : ∀ d ∈ tables_1, d.before a0 Z = true) : (Jvm.Cond.declares ({ cls := "com/example/vigilant_coordinator/vigilantcoordinator/load/Spread", name := "take", desc := "()I" } : Jvm.MethodName)).before a0 Z = true := hw _ (List.mem_of_getElem? (i := 32) rfl)
theorem w33 {Z : State} {a0 : Array Value} (hw : ∀ d ∈ tables_1, d.before a0 Z = true) : (Jvm.Cond.instanceMethod ({ cls := "com/example/vigilant_coordinator/vigilantcoordinator/load/Spread", name := "take", desc := "()I" } : Jvm.MethodName)).before a0 Z = true := hw _ (List.mem_of_getElem? (i := 33) rfl)
theorem w34 {Z : State} {a0 : Array Value} (hw : ∀ d ∈ tables_1, d.before a0 Z = true) : (Jvm.Cond.selects "com/example/vigilant_coordinator/vigilantcoordinator/load/Spread" ({ cls := "com/example/vigilant_coordinator/vigilantcoordinator/load/Spread", name := "take", desc := "()I" } : Jvm.MethodName) ({ cls := "com/example/vigilant_coordinator/vigilantcoordinator/load/Spread", name := "take", desc := "()I" } : Jvm.MethodName)).before a0 Z = true := hw _ (List.mem_of_getElem? (i := 34) rfl)
theorem w35 {Z : State} {a0 : Array Value} (hw : ∀ d ∈ tables_1, d.before a0 Z = true) : (Jvm.Cond.code ({ cls := "com/example/vigilant_coordinator/vigilantcoordinator/load/Spread", name := "take", desc := "()I" } : Jvm.MethodName) prog_45_method_3_code (2 : Nat) (Option.some Jvm.ClassFile.FieldType.int)).before a0 Z = true := hw _ (List.mem_of_getElem? (i := 35) rfl)
theorem w36 {Z : State} {a0 : Array Value} (hw : ∀ d ∈ tables_1, d.before a0 Z = true) : (Jvm.Cond.constantLong "com/example/vigilant_coordinator/vigilantcoordinator/load/SpreadNextNanosPinLaw" (11 : Nat) (3 : Int64)).before a0 Z = true := hw _ (List.mem_of_getElem? (i := 36) rfl)
theorem w37 {Z : State} {a0 : Array Value} (hw : ∀ d ∈ tables_1, d.before a0 Z = true) : (Jvm.Cond.methodLink "com/example/vigilant_coordinator/vigilantcoordinator/load/SpreadNextNanosPinLaw" (13 : Nat) ({ cls := "com/example/vigilant_coordinator/vigilantcoordinator/load/SpreadNextNanosPinLaw", name := "corr", desc := "(JJ)J" } : Jvm.MethodName)).before a0 Z = true := hw _ (List.mem_of_getElem? (i := 37) rfl)
theorem w38 {Z : State} {a0 : Array Value} (hw : ∀ d ∈ tables_1, d.before a0 Z = true) : (Jvm.Cond.static ({ cls := "com/example/vigilant_coordinator/vigilantcoordinator/load/SpreadNextNanosPinLaw", name := "corr", desc := "(JJ)J" } : Jvm.MethodName)).before a0 Z = true := hw _ (List.mem_of_getElem? (i := 38) rfl)
theorem w39 {Z : State} {a0 : Array Value} (hw : ∀ d ∈ tables_1, d.before a0 Z = true) : (Jvm.Cond.code ({ cls := "com/example/vigilant_coordinator/vigilantcoordinator/load/SpreadNextNanosPinLaw", name := "corr", desc := "(JJ)J" } : Jvm.MethodName) method_2_code (4 : Nat) (Option.some Jvm.ClassFile.FieldType.long)).before a0 Z = true := hw _ (List.mem_of_getElem? (i := 39) rfl)
theorem w40 {Z : State} {a0 : Array Value} (hw : ∀ d ∈ tables_1, d.before a0 Z = true) : (Jvm.Cond.constantLong "com/example/vigilant_coordinator/vigilantcoordinator/load/SpreadNextNanosPinLaw" (9 : Nat) (2 : Int64)).before a0 Z = true := hw _ (List.mem_of_getElem? (i := 40) rfl)
theorem w41 {Z : State} {a0 : Array Value} (hw : ∀ d ∈ tables_1, d.before a0 Z = true) : (Jvm.Cond.constantLong "com/example/vigilant_coordinator/vigilantcoordinator/load/SpreadNextNanosPinLaw" (19 : Nat) (4 : Int64)).before a0 Z = true := hw _ (List.mem_of_getElem? (i := 41) rfl)
theorem w42 {Z : State} {a0 : Array Value} (hw : ∀ d ∈ tables_1, d.before a0 Z = true) : (Jvm.Cond.constantLong "com/example/vigilant_coordinator/vigilantcoordinator/load/SpreadNextNanosPinLaw" (7 : Nat) (-1 : Int64)).before a0 Z = true := hw _ (List.mem_of_getElem? (i := 42) rfl)
theorem pd0 : parseMethodDescriptor "(JJ)J" = some ⟨[.long, .long], some .long⟩ := by decide +kernel
theorem pd1 : parseMethodDescriptor "(JJII)V" = some ⟨[.long, .long, .int, .int], none⟩ := by decide +kernel
theorem pd2 : parseMethodDescriptor "()J" = some ⟨[], some .long⟩ := by decide +kernel
theorem pd3 : parseMethodDescriptor "(JII)J" = some ⟨[.long, .int, .int], some .long⟩ := by decide +kernel
theorem pd4 : parseMethodDescriptor "()I" = some ⟨[], some .int⟩ := by decide +kernel
theorem pn0 : plainName "com/example/vigilant_coordinator/vigilantcoordinator/load/Spread" = true := by first | (simp [plainName, overriddenIn]; done) | decide +kernel
theorem pn1 : plainName "com/example/vigilant_coordinator/vigilantcoordinator/load/SpreadNextNanosPinLaw" = true := by first | (simp [plainName, overriddenIn]; done) | decide +kernel
theorem d1_0 : decode prog_45_method_1_code 0 = .ok (.aload_n 0, 1) := by decide +kernel
theorem d1_1 : decode prog_45_method_1_code 1 = .ok (.invokespecial 1, 3) := by decide +kernel
theorem d1_4 : decode prog_45_method_1_code 4 = .ok (.aload_n 0, 1) := by decide +kernel
theorem d1_5 : decode prog_45_method_1_code 5 = .ok (.lload_n 1, 1) := by decide +kernel
theorem d1_6 : decode prog_45_method_1_code 6 = .ok (.putfield 7, 3) := by decide +kernel
theorem d1_9 : decode prog_45_method_1_code 9 = .ok (.aload_n 0, 1) := by decide +kernel
theorem d1_10 : decode prog_45_method_1_code 10 = .ok (.lload_n 3, 1) := by decide +kernel
theorem d1_11 : decode prog_45_method_1_code 11 = .ok (.putfield 13, 3) := by decide +kernel
theorem d1_14 : decode prog_45_method_1_code 14 = .ok (.aload_n 0, 1) := by decide +kernel
theorem d1_15 : decode prog_45_method_1_code 15 = .ok (.iload 5, 2) := by decide +kernel
theorem d1_17 : decode prog_45_method_1_code 17 = .ok (.putfield 16, 3) := by decide +kernel
theorem d1_20 : decode prog_45_method_1_code 20 = .ok (.aload_n 0, 1) := by decide +kernel
theorem d1_21 : decode prog_45_method_1_code 21 = .ok (.iload 6, 2) := by decide +kernel
theorem d1_23 : decode prog_45_method_1_code 23 = .ok (.putfield 20, 3) := by decide +kernel
theorem d1_26 : decode prog_45_method_1_code 26 = .ok (.return_, 1) := by decide +kernel
theorem d3_0 : decode prog_45_method_2_code 0 = .ok (.aload_n 0, 1) := by decide +kernel
theorem d3_1 : decode prog_45_method_2_code 1 = .ok (.getfield 13, 3) := by decide +kernel
theorem d3_4 : decode prog_45_method_2_code 4 = .ok (.aload_n 0, 1) := by decide +kernel
theorem d3_5 : decode prog_45_method_2_code 5 = .ok (.getfield 16, 3) := by decide +kernel
theorem d3_8 : decode prog_45_method_2_code 8 = .ok (.i2l, 1) := by decide +kernel
theorem d3_9 : decode prog_45_method_2_code 9 = .ok (.ldiv, 1) := by decide +kernel
theorem d3_10 : decode prog_45_method_2_code 10 = .ok (.aload_n 0, 1) := by decide +kernel
theorem d3_11 : decode prog_45_method_2_code 11 = .ok (.getfield 23, 3) := by decide +kernel
theorem d3_14 : decode prog_45_method_2_code 14 = .ok (.i2l, 1) := by decide +kernel
theorem d3_15 : decode prog_45_method_2_code 15 = .ok (.lmul, 1) := by decide +kernel
theorem d3_16 : decode prog_45_method_2_code 16 = .ok (.aload_n 0, 1) := by decide +kernel
theorem d3_17 : decode prog_45_method_2_code 17 = .ok (.getfield 13, 3) := by decide +kernel
theorem d3_20 : decode prog_45_method_2_code 20 = .ok (.aload_n 0, 1) := by decide +kernel
theorem d3_21 : decode prog_45_method_2_code 21 = .ok (.getfield 16, 3) := by decide +kernel
theorem d3_24 : decode prog_45_method_2_code 24 = .ok (.i2l, 1) := by decide +kernel
theorem d3_25 : decode prog_45_method_2_code 25 = .ok (.lrem, 1) := by decide +kernel
theorem d3_26 : decode prog_45_method_2_code 26 = .ok (.aload_n 0, 1) := by decide +kernel
theorem d3_27 : decode prog_45_method_2_code 27 = .ok (.getfield 23, 3) := by decide +kernel
theorem d3_30 : decode prog_45_method_2_code 30 = .ok (.i2l, 1) := by decide +kernel
theorem d3_31 : decode prog_45_method_2_code 31 = .ok (.lmul, 1) := by decide +kernel
theorem d3_32 : decode prog_45_method_2_code 32 = .ok (.aload_n 0, 1) := by decide +kernel
theorem d3_33 : decode prog_45_method_2_code 33 = .ok (.getfield 16, 3) := by decide +kernel
theorem d3_36 : decode prog_45_method_2_code 36 = .ok (.i2l, 1) := by decide +kernel
theorem d3_37 : decode prog_45_method_2_code 37 = .ok (.ldiv, 1) := by decide +kernel
theorem d3_38 : decode prog_45_method_2_code 38 = .ok (.ladd, 1) := by decide +kernel
theorem d3_39 : decode prog_45_method_2_code 39 = .ok (.lstore_n 1, 1) := by decide +kernel
theorem d3_40 : decode prog_45_method_2_code 40 = .ok (.aload_n 0, 1) := by decide +kernel
theorem d3_41 : decode prog_45_method_2_code 41 = .ok (.getfield 7, 3) := by decide +kernel
theorem d3_44 : decode prog_45_method_2_code 44 = .ok (.aload_n 0, 1) := by decide +kernel
theorem d3_45 : decode prog_45_method_2_code 45 = .ok (.getfield 26, 3) := by decide +kernel
theorem d3_48 : decode prog_45_method_2_code 48 = .ok (.aload_n 0, 1) := by decide +kernel
theorem d3_49 : decode prog_45_method_2_code 49 = .ok (.getfield 13, 3) := by decide +kernel
theorem d3_52 : decode prog_45_method_2_code 52 = .ok (.lmul, 1) := by decide +kernel
theorem d3_53 : decode prog_45_method_2_code 53 = .ok (.ladd, 1) := by decide +kernel
theorem d3_54 : decode prog_45_method_2_code 54 = .ok (.lload_n 1, 1) := by decide +kernel
theorem d3_55 : decode prog_45_method_2_code 55 = .ok (.ladd, 1) := by decide +kernel
theorem d3_56 : decode prog_45_method_2_code 56 = .ok (.lreturn, 1) := by decide +kernel
theorem d4_0 : decode method_3_code 0 = .ok (.iload_n 3, 1) := by decide +kernel
theorem d4_1 : decode method_3_code 1 = .ok (.ifCond .ne 5, 3) := by decide +kernel
theorem d4_4 : decode method_3_code 4 = .ok (.lconst 0, 1) := by decide +kernel
theorem d4_5 : decode method_3_code 5 = .ok (.lreturn, 1) := by decide +kernel
theorem d4_6 : decode method_3_code 6 = .ok (.iload_n 2, 1) := by decide +kernel
theorem d4_7 : decode method_3_code 7 = .ok (.iconst 2, 1) := by decide +kernel
theorem d4_8 : decode method_3_code 8 = .ok (.if_icmp .ne 9, 3) := by decide +kernel
theorem d4_11 : decode method_3_code 11 = .ok (.lload_n 0, 1) := by decide +kernel
theorem d4_12 : decode method_3_code 12 = .ok (.ldc2_w 9, 3) := by decide +kernel
theorem d4_15 : decode method_3_code 15 = .ok (.ldiv, 1) := by decide +kernel
theorem d4_16 : decode method_3_code 16 = .ok (.lreturn, 1) := by decide +kernel
theorem d4_17 : decode method_3_code 17 = .ok (.iload_n 2, 1) := by decide +kernel
theorem d4_18 : decode method_3_code 18 = .ok (.iconst 3, 1) := by decide +kernel
theorem d4_19 : decode method_3_code 19 = .ok (.if_icmp .ne 30, 3) := by decide +kernel
theorem d4_22 : decode method_3_code 22 = .ok (.iload_n 3, 1) := by decide +kernel
theorem d4_23 : decode method_3_code 23 = .ok (.iconst 1, 1) := by decide +kernel
theorem d4_24 : decode method_3_code 24 = .ok (.if_icmp .ne 9, 3) := by decide +kernel
theorem d4_27 : decode method_3_code 27 = .ok (.lload_n 0, 1) := by decide +kernel
theorem d4_28 : decode method_3_code 28 = .ok (.ldc2_w 11, 3) := by decide +kernel
theorem d4_31 : decode method_3_code 31 = .ok (.ldiv, 1) := by decide +kernel
theorem d4_32 : decode method_3_code 32 = .ok (.lreturn, 1) := by decide +kernel
theorem d4_33 : decode method_3_code 33 = .ok (.lload_n 0, 1) := by decide +kernel
theorem d4_34 : decode method_3_code 34 = .ok (.lload_n 0, 1) := by decide +kernel
theorem d4_35 : decode method_3_code 35 = .ok (.ldc2_w 11, 3) := by decide +kernel
theorem d4_38 : decode method_3_code 38 = .ok (.ldiv, 1) := by decide +kernel
theorem d4_39 : decode method_3_code 39 = .ok (.lsub, 1) := by decide +kernel
theorem d4_40 : decode method_3_code 40 = .ok (.lload_n 0, 1) := by decide +kernel
theorem d4_41 : decode method_3_code 41 = .ok (.ldc2_w 11, 3) := by decide +kernel
theorem d4_44 : decode method_3_code 44 = .ok (.invokestatic 13, 3) := by decide +kernel
theorem d4_47 : decode method_3_code 47 = .ok (.lsub, 1) := by decide +kernel
theorem d4_48 : decode method_3_code 48 = .ok (.lreturn, 1) := by decide +kernel
theorem d4_49 : decode method_3_code 49 = .ok (.iload_n 2, 1) := by decide +kernel
theorem d4_50 : decode method_3_code 50 = .ok (.iconst 4, 1) := by decide +kernel
theorem d4_51 : decode method_3_code 51 = .ok (.if_icmp .ne 41, 3) := by decide +kernel
theorem d4_54 : decode method_3_code 54 = .ok (.iload_n 3, 1) := by decide +kernel
theorem d4_55 : decode method_3_code 55 = .ok (.iconst 1, 1) := by decide +kernel
theorem d4_56 : decode method_3_code 56 = .ok (.if_icmp .ne 9, 3) := by decide +kernel
theorem d4_59 : decode method_3_code 59 = .ok (.lload_n 0, 1) := by decide +kernel
theorem d4_60 : decode method_3_code 60 = .ok (.ldc2_w 19, 3) := by decide +kernel
theorem d4_63 : decode method_3_code 63 = .ok (.ldiv, 1) := by decide +kernel
theorem d4_64 : decode method_3_code 64 = .ok (.lreturn, 1) := by decide +kernel
theorem d4_65 : decode method_3_code 65 = .ok (.iload_n 3, 1) := by decide +kernel
theorem d4_66 : decode method_3_code 66 = .ok (.iconst 2, 1) := by decide +kernel
theorem d4_67 : decode method_3_code 67 = .ok (.if_icmp .ne 9, 3) := by decide +kernel
theorem d4_70 : decode method_3_code 70 = .ok (.lload_n 0, 1) := by decide +kernel
theorem d4_71 : decode method_3_code 71 = .ok (.ldc2_w 9, 3) := by decide +kernel
theorem d4_74 : decode method_3_code 74 = .ok (.ldiv, 1) := by decide +kernel
theorem d4_75 : decode method_3_code 75 = .ok (.lreturn, 1) := by decide +kernel
theorem d4_76 : decode method_3_code 76 = .ok (.lload_n 0, 1) := by decide +kernel
theorem d4_77 : decode method_3_code 77 = .ok (.lload_n 0, 1) := by decide +kernel
theorem d4_78 : decode method_3_code 78 = .ok (.ldc2_w 19, 3) := by decide +kernel
theorem d4_81 : decode method_3_code 81 = .ok (.ldiv, 1) := by decide +kernel
theorem d4_82 : decode method_3_code 82 = .ok (.lsub, 1) := by decide +kernel
theorem d4_83 : decode method_3_code 83 = .ok (.lload_n 0, 1) := by decide +kernel
theorem d4_84 : decode method_3_code 84 = .ok (.ldc2_w 19, 3) := by decide +kernel
theorem d4_87 : decode method_3_code 87 = .ok (.invokestatic 13, 3) := by decide +kernel
theorem d4_90 : decode method_3_code 90 = .ok (.lsub, 1) := by decide +kernel
theorem d4_91 : decode method_3_code 91 = .ok (.lreturn, 1) := by decide +kernel
theorem d4_92 : decode method_3_code 92 = .ok (.lconst 0, 1) := by decide +kernel
theorem d4_93 : decode method_3_code 93 = .ok (.lreturn, 1) := by decide +kernel
theorem d5_0 : decode prog_45_method_3_code 0 = .ok (.aload_n 0, 1) := by decide +kernel
theorem d5_1 : decode prog_45_method_3_code 1 = .ok (.getfield 20, 3) := by decide +kernel
theorem d5_4 : decode prog_45_method_3_code 4 = .ok (.i2l, 1) := by decide +kernel
theorem d5_5 : decode prog_45_method_3_code 5 = .ok (.aload_n 0, 1) := by decide +kernel
theorem d5_6 : decode prog_45_method_3_code 6 = .ok (.getfield 23, 3) := by decide +kernel
theorem d5_9 : decode prog_45_method_3_code 9 = .ok (.i2l, 1) := by decide +kernel
theorem d5_10 : decode prog_45_method_3_code 10 = .ok (.ladd, 1) := by decide +kernel
theorem d5_11 : decode prog_45_method_3_code 11 = .ok (.aload_n 0, 1) := by decide +kernel
theorem d5_12 : decode prog_45_method_3_code 12 = .ok (.getfield 16, 3) := by decide +kernel
theorem d5_15 : decode prog_45_method_3_code 15 = .ok (.i2l, 1) := by decide +kernel
theorem d5_16 : decode prog_45_method_3_code 16 = .ok (.lrem, 1) := by decide +kernel
theorem d5_17 : decode prog_45_method_3_code 17 = .ok (.l2i, 1) := by decide +kernel
theorem d5_18 : decode prog_45_method_3_code 18 = .ok (.istore_n 1, 1) := by decide +kernel
theorem d5_19 : decode prog_45_method_3_code 19 = .ok (.aload_n 0, 1) := by decide +kernel
theorem d5_20 : decode prog_45_method_3_code 20 = .ok (.dup, 1) := by decide +kernel
theorem d5_21 : decode prog_45_method_3_code 21 = .ok (.getfield 23, 3) := by decide +kernel
theorem d5_24 : decode prog_45_method_3_code 24 = .ok (.iconst 1, 1) := by decide +kernel
theorem d5_25 : decode prog_45_method_3_code 25 = .ok (.iadd, 1) := by decide +kernel
theorem d5_26 : decode prog_45_method_3_code 26 = .ok (.putfield 23, 3) := by decide +kernel
theorem d5_29 : decode prog_45_method_3_code 29 = .ok (.aload_n 0, 1) := by decide +kernel
theorem d5_30 : decode prog_45_method_3_code 30 = .ok (.getfield 23, 3) := by decide +kernel
theorem d5_33 : decode prog_45_method_3_code 33 = .ok (.aload_n 0, 1) := by decide +kernel
theorem d5_34 : decode prog_45_method_3_code 34 = .ok (.getfield 16, 3) := by decide +kernel
theorem d5_37 : decode prog_45_method_3_code 37 = .ok (.if_icmp .ne 18, 3) := by decide +kernel
theorem d5_40 : decode prog_45_method_3_code 40 = .ok (.aload_n 0, 1) := by decide +kernel
theorem d5_41 : decode prog_45_method_3_code 41 = .ok (.iconst 0, 1) := by decide +kernel
theorem d5_42 : decode prog_45_method_3_code 42 = .ok (.putfield 23, 3) := by decide +kernel
theorem d5_45 : decode prog_45_method_3_code 45 = .ok (.aload_n 0, 1) := by decide +kernel
theorem d5_46 : decode prog_45_method_3_code 46 = .ok (.dup, 1) := by decide +kernel
theorem d5_47 : decode prog_45_method_3_code 47 = .ok (.getfield 26, 3) := by decide +kernel
theorem d5_50 : decode prog_45_method_3_code 50 = .ok (.lconst 1, 1) := by decide +kernel
theorem d5_51 : decode prog_45_method_3_code 51 = .ok (.ladd, 1) := by decide +kernel
theorem d5_52 : decode prog_45_method_3_code 52 = .ok (.putfield 26, 3) := by decide +kernel
theorem d5_55 : decode prog_45_method_3_code 55 = .ok (.iload_n 1, 1) := by decide +kernel
theorem d5_56 : decode prog_45_method_3_code 56 = .ok (.ireturn, 1) := by decide +kernel
theorem d6_0 : decode method_2_code 0 = .ok (.lload_n 0, 1) := by decide +kernel
theorem d6_1 : decode method_2_code 1 = .ok (.lload_n 2, 1) := by decide +kernel
theorem d6_2 : decode method_2_code 2 = .ok (.lrem, 1) := by decide +kernel
theorem d6_3 : decode method_2_code 3 = .ok (.lconst 0, 1) := by decide +kernel
theorem d6_4 : decode method_2_code 4 = .ok (.lcmp, 1) := by decide +kernel
theorem d6_5 : decode method_2_code 5 = .ok (.ifCond .ne 5, 3) := by decide +kernel
theorem d6_8 : decode method_2_code 8 = .ok (.lconst 0, 1) := by decide +kernel
theorem d6_9 : decode method_2_code 9 = .ok (.lreturn, 1) := by decide +kernel
theorem d6_10 : decode method_2_code 10 = .ok (.lload_n 0, 1) := by decide +kernel
theorem d6_11 : decode method_2_code 11 = .ok (.lconst 0, 1) := by decide +kernel
theorem d6_12 : decode method_2_code 12 = .ok (.lcmp, 1) := by decide +kernel
theorem d6_13 : decode method_2_code 13 = .ok (.ifCond .le 5, 3) := by decide +kernel
theorem d6_16 : decode method_2_code 16 = .ok (.lconst 1, 1) := by decide +kernel
theorem d6_17 : decode method_2_code 17 = .ok (.lreturn, 1) := by decide +kernel
theorem d6_18 : decode method_2_code 18 = .ok (.ldc2_w 7, 3) := by decide +kernel
theorem d6_21 : decode method_2_code 21 = .ok (.lreturn, 1) := by decide +kernel
def SP (Z : State) (h : Heap) (a : Addr) (st iv : Int64) (ct f nx : Int32) (rd : Int64) : Prop := Exa Z h a "com/example/vigilant_coordinator/vigilantcoordinator/load/Spread" ∧ Fld Z h a "com/example/vigilant_coordinator/vigilantcoordinator/load/Spread" "startNanos" "J" (.long st) ∧ Fld Z h a "com/example/vigilant_coordinator/vigilantcoordinator/load/Spread" "intervalNanos" "J" (.long iv) ∧ Fld Z h a "com/example/vigilant_coordinator/vigilantcoordinator/load/Spread" "count" "I" (.int ct) ∧ Fld Z h a "com/example/vigilant_coordinator/vigilantcoordinator/load/Spread" "first" "I" (.int f) ∧ Fld Z h a "com/example/vigilant_coordinator/vigilantcoordinator/load/Spread" "next" "I" (.int nx) ∧ Fld Z h a "com/example/vigilant_coordinator/vigilantcoordinator/load/Spread" "round" "J" (.long rd)
theorem SP.ext {Z : State} {h h' : Heap} {a : Addr} {st iv rd : Int64} {ct f nx : Int32} (H : SP Z h a st iv ct f nx rd) (E : Ext h h') : SP Z h' a st iv ct f nx rd := ⟨H.1.ext E, H.2.1.ext E, H.2.2.1.ext E, H.2.2.2.1.ext E, H.2.2.2.2.1.ext E, H.2.2.2.2.2.1.ext E, H.2.2.2.2.2.2.ext E⟩
/-- the next and the round behind j takes -/
def own_nx (ct : Int32) : Nat → Int32
  | 0 => 0
  | j + 1 => if own_nx ct j + (1 : Int32) = ct then 0 else own_nx ct j + (1 : Int32)
def own_rd (ct : Int32) : Nat → Int64
  | 0 => 0
  | j + 1 => if own_nx ct j + (1 : Int32) = ct then own_rd ct j + (1 : Int64) else own_rd ct j
theorem own_i64 {ct : Int32} (h : ¬ ct = 0) : ct.toInt64 ≠ 0 := by
  intro q
  have := congrArg Int64.toInt q
  rw [c_i2l, show (0 : Int64).toInt = 0 from rfl] at this
  exact h (Int32.toInt_inj.mp this)

theorem ef_sp_init (m : MethodId) (x0 : Addr) (x1 : Int64) (x2 : Int64) (x3 : Int32) (x4 : Int32) : entryFrame m #[(.ref x0), (.long x1), (.long x2), (.int x3), (.int x4)] 7 = mkF m 0 #[.val (.ref x0), .val (.long x1), .second, .val (.long x2), .second, .val (.int x3), .val (.int x4)] [] := by first | (simp [entryFrame, mkF, argsToLocals, Value.category]; done) | rfl
set_option maxRecDepth 65536 in
set_option maxHeartbeats 40000000 in
theorem sp_init (l : Launch) (Z : State) (a0 : Array Value) (hw : ∀ d ∈ tables_1, d.before a0 Z = true) (a : Addr) (st iv : Int64) (ct f : Int32) (h0 : Heap) (n0 : Nat) (Z0 : n0 ≤ h0.size) (E_a : Exa Z h0 a "com/example/vigilant_coordinator/vigilantcoordinator/load/Spread") (F_startNanos_a : Fld Z h0 a "com/example/vigilant_coordinator/vigilantcoordinator/load/Spread" "startNanos" "J" (.long 0)) (F_intervalNanos_a : Fld Z h0 a "com/example/vigilant_coordinator/vigilantcoordinator/load/Spread" "intervalNanos" "J" (.long 0)) (F_count_a : Fld Z h0 a "com/example/vigilant_coordinator/vigilantcoordinator/load/Spread" "count" "I" (.int 0)) (F_first_a : Fld Z h0 a "com/example/vigilant_coordinator/vigilantcoordinator/load/Spread" "first" "I" (.int 0)) (F_next_a : Fld Z h0 a "com/example/vigilant_coordinator/vigilantcoordinator/load/Spread" "next" "I" (.int 0)) (F_round_a : Fld Z h0 a "com/example/vigilant_coordinator/vigilantcoordinator/load/Spread" "round" "J" (.long 0)) (g_a : n0 ≤ a) :
    Con l Z (⟨"com/example/vigilant_coordinator/vigilantcoordinator/load/Spread", "<init>", "(JJII)V"⟩ : MethodName) prog_45_method_1_code 7 none [] ({ frames := 1, cells := 0, slots := 0, locals := 12 } : Room) #[(.ref a), (.long st), (.long iv), (.int ct), (.int f)] h0 (fun v h L => v = none ∧ Fr n0 L ∧ Keep h0 h [a] ∧ SP Z h a st iv ct f 0 0) := by
  refine Con.mk (plainFor_of_name pn0) ?_
  intro p e s m below meth c T0 hx hby hml hown hnm hret hlk hZ X0 e0
  have hown : s.vm.findClass "com/example/vigilant_coordinator/vigilantcoordinator/load/Spread" = some m.cls := hown
  have hnm : meth.name = "<init>" := hnm
  have N0 := Fr.nil n0
  have K0 := Keep.refl h0 [a]
  refine Go.cast (ef_sp_init m a st iv ct f) ?_
  refine Go.st (S' := T0.setTop (mkF m 1 #[.val (.ref a), .val (.long st), .second, .val (.long iv), .second, .val (.int ct), .val (.int f)] [(.ref a)])) (fun _ k_ => XS.aloadN X0.here hx rfl (hb hby d1_0) rfl rfl k_) ?_
  obtain ⟨T11, X11, e11, st11⟩ := initO X0 hx hZ hown (w7 hw) (w8 hw) (w9 hw) e0 (g := (mkF m 1 #[.val (.ref a), .val (.long st), .second, .val (.long iv), .second, .val (.int ct), .val (.int f)] [(.ref a)])) rfl (by rw [hml]; rfl) rfl (hb hby d1_1) (by decide) (W := 0) (by show 2 * 0 + _ ≤ _; exact Nat.le_of_eq rfl) (by decide)
  refine Go.st (S' := T11.setTop (mkF m 4 #[.val (.ref a), .val (.long st), .second, .val (.long iv), .second, .val (.int ct), .val (.int f)] [])) (st11) ?_
  refine Go.st (S' := T11.setTop (mkF m 5 #[.val (.ref a), .val (.long st), .second, .val (.long iv), .second, .val (.int ct), .val (.int f)] [(.ref a)])) (fun _ k_ => XS.aloadN X11.here hx rfl (hb hby d1_4) rfl rfl k_) ?_
  refine Go.st (S' := T11.setTop (mkF m 6 #[.val (.ref a), .val (.long st), .second, .val (.long iv), .second, .val (.int ct), .val (.int f)] [(.long st), (.ref a)])) (fun _ k_ => XS.lloadN X11.here hx rfl (hb hby d1_5) rfl k_) ?_
  obtain ⟨T12, h12, X12, e12, W12, st12⟩ := putF X11 hx hZ hown (host := "") (Or.inl (w10 hw)) Via.refl e11 F_startNanos_a E_a (Or.inr ⟨(w11 hw), rfl, hnm⟩) (w2 hw) (ty := .long) (by decide) rfl rfl (g := (mkF m 6 #[.val (.ref a), .val (.long st), .second, .val (.long iv), .second, .val (.int ct), .val (.int f)] [(.long st), (.ref a)])) rfl rfl (hb hby d1_6)
  replace F_startNanos_a := F_startNanos_a.same W12
  replace E_a := E_a.wr W12
  replace F_intervalNanos_a := F_intervalNanos_a.other W12 (Or.inr (slot_ne (Or.inr (w13 hw)) (Or.inr (w11 hw)) (by decide) (t := .long) (t' := .long) (by decide) (by decide)))
  replace F_count_a := F_count_a.other W12 (Or.inr (slot_ne (Or.inr (w15 hw)) (Or.inr (w11 hw)) (by decide) (t := .int) (t' := .long) (by decide) (by decide)))
  replace F_first_a := F_first_a.other W12 (Or.inr (slot_ne (Or.inr (w17 hw)) (Or.inr (w11 hw)) (by decide) (t := .int) (t' := .long) (by decide) (by decide)))
  replace F_next_a := F_next_a.other W12 (Or.inr (slot_ne (Or.inl (w24 hw)) (Or.inr (w11 hw)) (by decide) (t := .int) (t' := .long) (by decide) (by decide)))
  replace F_round_a := F_round_a.other W12 (Or.inr (slot_ne (Or.inl (w26 hw)) (Or.inr (w11 hw)) (by decide) (t := .long) (t' := .long) (by decide) (by decide)))
  replace Z0 := Nat.le_trans Z0 (Keep.of_wr W12).1
  replace K0 := K0.wr W12 (Or.inl (by simp))
  have N12 := Fr.snoc X12 N0 g_a
  refine Go.st (S' := T12.setTop (mkF m 9 #[.val (.ref a), .val (.long st), .second, .val (.long iv), .second, .val (.int ct), .val (.int f)] [])) (st12) ?_
  refine Go.st (S' := T12.setTop (mkF m 10 #[.val (.ref a), .val (.long st), .second, .val (.long iv), .second, .val (.int ct), .val (.int f)] [(.ref a)])) (fun _ k_ => XS.aloadN X12.here hx rfl (hb hby d1_9) rfl rfl k_) ?_
  refine Go.st (S' := T12.setTop (mkF m 11 #[.val (.ref a), .val (.long st), .second, .val (.long iv), .second, .val (.int ct), .val (.int f)] [(.long iv), (.ref a)])) (fun _ k_ => XS.lloadN X12.here hx rfl (hb hby d1_10) rfl k_) ?_
  obtain ⟨T13, h13, X13, e13, W13, st13⟩ := putF X12 hx hZ hown (host := "") (Or.inl (w12 hw)) Via.refl e12 F_intervalNanos_a E_a (Or.inr ⟨(w13 hw), rfl, hnm⟩) (w2 hw) (ty := .long) (by decide) rfl rfl (g := (mkF m 11 #[.val (.ref a), .val (.long st), .second, .val (.long iv), .second, .val (.int ct), .val (.int f)] [(.long iv), (.ref a)])) rfl rfl (hb hby d1_11)
  replace F_intervalNanos_a := F_intervalNanos_a.same W13
  replace E_a := E_a.wr W13
  replace F_startNanos_a := F_startNanos_a.other W13 (Or.inr (slot_ne (Or.inr (w11 hw)) (Or.inr (w13 hw)) (by decide) (t := .long) (t' := .long) (by decide) (by decide)))
  replace F_count_a := F_count_a.other W13 (Or.inr (slot_ne (Or.inr (w15 hw)) (Or.inr (w13 hw)) (by decide) (t := .int) (t' := .long) (by decide) (by decide)))
  replace F_first_a := F_first_a.other W13 (Or.inr (slot_ne (Or.inr (w17 hw)) (Or.inr (w13 hw)) (by decide) (t := .int) (t' := .long) (by decide) (by decide)))
  replace F_next_a := F_next_a.other W13 (Or.inr (slot_ne (Or.inl (w24 hw)) (Or.inr (w13 hw)) (by decide) (t := .int) (t' := .long) (by decide) (by decide)))
  replace F_round_a := F_round_a.other W13 (Or.inr (slot_ne (Or.inl (w26 hw)) (Or.inr (w13 hw)) (by decide) (t := .long) (t' := .long) (by decide) (by decide)))
  replace Z0 := Nat.le_trans Z0 (Keep.of_wr W13).1
  replace K0 := K0.wr W13 (Or.inl (by simp))
  have N13 := Fr.snoc X13 N12 g_a
  refine Go.st (S' := T13.setTop (mkF m 14 #[.val (.ref a), .val (.long st), .second, .val (.long iv), .second, .val (.int ct), .val (.int f)] [])) (st13) ?_
  refine Go.st (S' := T13.setTop (mkF m 15 #[.val (.ref a), .val (.long st), .second, .val (.long iv), .second, .val (.int ct), .val (.int f)] [(.ref a)])) (fun _ k_ => XS.aloadN X13.here hx rfl (hb hby d1_14) rfl rfl k_) ?_
  refine Go.st (S' := T13.setTop (mkF m 17 #[.val (.ref a), .val (.long st), .second, .val (.long iv), .second, .val (.int ct), .val (.int f)] [(.int ct), (.ref a)])) (fun _ k_ => XS.iload X13.here hx rfl (hb hby d1_15) rfl k_) ?_
  obtain ⟨T14, h14, X14, e14, W14, st14⟩ := putF X13 hx hZ hown (host := "") (Or.inl (w14 hw)) Via.refl e13 F_count_a E_a (Or.inr ⟨(w15 hw), rfl, hnm⟩) (w2 hw) (ty := .int) (by decide) rfl rfl (g := (mkF m 17 #[.val (.ref a), .val (.long st), .second, .val (.long iv), .second, .val (.int ct), .val (.int f)] [(.int ct), (.ref a)])) rfl rfl (hb hby d1_17)
  replace F_count_a := F_count_a.same W14
  replace E_a := E_a.wr W14
  replace F_startNanos_a := F_startNanos_a.other W14 (Or.inr (slot_ne (Or.inr (w11 hw)) (Or.inr (w15 hw)) (by decide) (t := .long) (t' := .int) (by decide) (by decide)))
  replace F_intervalNanos_a := F_intervalNanos_a.other W14 (Or.inr (slot_ne (Or.inr (w13 hw)) (Or.inr (w15 hw)) (by decide) (t := .long) (t' := .int) (by decide) (by decide)))
  replace F_first_a := F_first_a.other W14 (Or.inr (slot_ne (Or.inr (w17 hw)) (Or.inr (w15 hw)) (by decide) (t := .int) (t' := .int) (by decide) (by decide)))
  replace F_next_a := F_next_a.other W14 (Or.inr (slot_ne (Or.inl (w24 hw)) (Or.inr (w15 hw)) (by decide) (t := .int) (t' := .int) (by decide) (by decide)))
  replace F_round_a := F_round_a.other W14 (Or.inr (slot_ne (Or.inl (w26 hw)) (Or.inr (w15 hw)) (by decide) (t := .long) (t' := .int) (by decide) (by decide)))
  replace Z0 := Nat.le_trans Z0 (Keep.of_wr W14).1
  replace K0 := K0.wr W14 (Or.inl (by simp))
  have N14 := Fr.snoc X14 N13 g_a
  refine Go.st (S' := T14.setTop (mkF m 20 #[.val (.ref a), .val (.long st), .second, .val (.long iv), .second, .val (.int ct), .val (.int f)] [])) (st14) ?_
  refine Go.st (S' := T14.setTop (mkF m 21 #[.val (.ref a), .val (.long st), .second, .val (.long iv), .second, .val (.int ct), .val (.int f)] [(.ref a)])) (fun _ k_ => XS.aloadN X14.here hx rfl (hb hby d1_20) rfl rfl k_) ?_
  refine Go.st (S' := T14.setTop (mkF m 23 #[.val (.ref a), .val (.long st), .second, .val (.long iv), .second, .val (.int ct), .val (.int f)] [(.int f), (.ref a)])) (fun _ k_ => XS.iload X14.here hx rfl (hb hby d1_21) rfl k_) ?_
  obtain ⟨T15, h15, X15, e15, W15, st15⟩ := putF X14 hx hZ hown (host := "") (Or.inl (w16 hw)) Via.refl e14 F_first_a E_a (Or.inr ⟨(w17 hw), rfl, hnm⟩) (w2 hw) (ty := .int) (by decide) rfl rfl (g := (mkF m 23 #[.val (.ref a), .val (.long st), .second, .val (.long iv), .second, .val (.int ct), .val (.int f)] [(.int f), (.ref a)])) rfl rfl (hb hby d1_23)
  replace F_first_a := F_first_a.same W15
  replace E_a := E_a.wr W15
  replace F_startNanos_a := F_startNanos_a.other W15 (Or.inr (slot_ne (Or.inr (w11 hw)) (Or.inr (w17 hw)) (by decide) (t := .long) (t' := .int) (by decide) (by decide)))
  replace F_intervalNanos_a := F_intervalNanos_a.other W15 (Or.inr (slot_ne (Or.inr (w13 hw)) (Or.inr (w17 hw)) (by decide) (t := .long) (t' := .int) (by decide) (by decide)))
  replace F_count_a := F_count_a.other W15 (Or.inr (slot_ne (Or.inr (w15 hw)) (Or.inr (w17 hw)) (by decide) (t := .int) (t' := .int) (by decide) (by decide)))
  replace F_next_a := F_next_a.other W15 (Or.inr (slot_ne (Or.inl (w24 hw)) (Or.inr (w17 hw)) (by decide) (t := .int) (t' := .int) (by decide) (by decide)))
  replace F_round_a := F_round_a.other W15 (Or.inr (slot_ne (Or.inl (w26 hw)) (Or.inr (w17 hw)) (by decide) (t := .long) (t' := .int) (by decide) (by decide)))
  replace Z0 := Nat.le_trans Z0 (Keep.of_wr W15).1
  replace K0 := K0.wr W15 (Or.inl (by simp))
  have N15 := Fr.snoc X15 N14 g_a
  refine Go.st (S' := T15.setTop (mkF m 26 #[.val (.ref a), .val (.long st), .second, .val (.long iv), .second, .val (.int ct), .val (.int f)] [])) (st15) ?_
  exact Go.retV X15 hx hret hlk (hb hby d1_26) (by decide) (by decide) (by rw [e15]; exact ⟨rfl, N15, K0, E_a, F_startNanos_a, F_intervalNanos_a, F_count_a, F_first_a, F_next_a, F_round_a⟩)
theorem ef_sp_take (m : MethodId) (x0 : Addr) : entryFrame m #[(.ref x0)] 2 = mkF m 0 #[.val (.ref x0), .unset] [] := by first | (simp [entryFrame, mkF, argsToLocals, Value.category]; done) | rfl
set_option maxRecDepth 65536 in
set_option maxHeartbeats 40000000 in
theorem sp_take (l : Launch) (Z : State) (a0 : Array Value) (hw : ∀ d ∈ tables_1, d.before a0 Z = true) (a : Addr) (st iv : Int64) (ct f nx : Int32) (rd : Int64) (h0 : Heap) (n0 : Nat) (Z0 : n0 ≤ h0.size) (H : SP Z h0 a st iv ct f nx rd) (hct : ¬ ct = 0) (g_a : n0 ≤ a) :
    Con l Z (⟨"com/example/vigilant_coordinator/vigilantcoordinator/load/Spread", "take", "()I"⟩ : MethodName) prog_45_method_3_code 2 (some .int) [] ({ frames := 0, cells := 0, slots := 0, locals := 0 } : Room) #[(.ref a)] h0 (fun v h L => v = some (.int ((f.toInt64 + nx.toInt64) % ct.toInt64).toInt32) ∧ Fr n0 L ∧ Keep h0 h [a] ∧ SP Z h a st iv ct f (if nx + (1 : Int32) = ct then 0 else nx + (1 : Int32)) (if nx + (1 : Int32) = ct then rd + (1 : Int64) else rd)) := by
  refine Con.mk (plainFor_of_name pn0) ?_
  intro p e s m below meth c T0 hx hby hml hown hnm hret hlk hZ X0 e0
  have hown : s.vm.findClass "com/example/vigilant_coordinator/vigilantcoordinator/load/Spread" = some m.cls := hown
  have hnm : meth.name = "take" := hnm
  have N0 := Fr.nil n0
  have K0 := Keep.refl h0 [a]
  refine Go.cast (ef_sp_take m a) ?_
  obtain ⟨E_a, F_startNanos_a, F_intervalNanos_a, F_count_a, F_first_a, F_next_a, F_round_a⟩ := H
  refine Go.st (S' := T0.setTop (mkF m 1 #[.val (.ref a), .unset] [(.ref a)])) (fun _ k_ => XS.aloadN X0.here hx rfl (hb hby d5_0) rfl rfl k_) ?_
  obtain ⟨T11, X11, e11, st11⟩ := getF X0 hx hZ hown (host := "") (Or.inl (w16 hw)) Via.refl e0 F_first_a (g := (mkF m 1 #[.val (.ref a), .unset] [(.ref a)])) rfl rfl (hb hby d5_1)
  refine Go.st (S' := T11.setTop (mkF m 4 #[.val (.ref a), .unset] [(.int f)])) (st11) ?_
  refine Go.st (S' := T11.setTop (mkF m 5 #[.val (.ref a), .unset] [(.long (f.toInt64))])) (fun _ k_ => XS.i2l X11.here hx rfl (hb hby d5_4) rfl k_) ?_
  refine Go.st (S' := T11.setTop (mkF m 6 #[.val (.ref a), .unset] [(.ref a), (.long (f.toInt64))])) (fun _ k_ => XS.aloadN X11.here hx rfl (hb hby d5_5) rfl rfl k_) ?_
  obtain ⟨T12, X12, e12, st12⟩ := getF X11 hx hZ hown (host := "") (Or.inl (w23 hw)) Via.refl e11 F_next_a (g := (mkF m 6 #[.val (.ref a), .unset] [(.ref a), (.long (f.toInt64))])) rfl rfl (hb hby d5_6)
  refine Go.st (S' := T12.setTop (mkF m 9 #[.val (.ref a), .unset] [(.int nx), (.long (f.toInt64))])) (st12) ?_
  refine Go.st (S' := T12.setTop (mkF m 10 #[.val (.ref a), .unset] [(.long (nx.toInt64)), (.long (f.toInt64))])) (fun _ k_ => XS.i2l X12.here hx rfl (hb hby d5_9) rfl k_) ?_
  refine Go.st (S' := T12.setTop (mkF m 11 #[.val (.ref a), .unset] [(.long ((f.toInt64) + (nx.toInt64)))])) (fun _ k_ => XS.ladd X12.here hx rfl (hb hby d5_10) rfl k_) ?_
  refine Go.st (S' := T12.setTop (mkF m 12 #[.val (.ref a), .unset] [(.ref a), (.long ((f.toInt64) + (nx.toInt64)))])) (fun _ k_ => XS.aloadN X12.here hx rfl (hb hby d5_11) rfl rfl k_) ?_
  obtain ⟨T13, X13, e13, st13⟩ := getF X12 hx hZ hown (host := "") (Or.inl (w14 hw)) Via.refl e12 F_count_a (g := (mkF m 12 #[.val (.ref a), .unset] [(.ref a), (.long ((f.toInt64) + (nx.toInt64)))])) rfl rfl (hb hby d5_12)
  refine Go.st (S' := T13.setTop (mkF m 15 #[.val (.ref a), .unset] [(.int ct), (.long ((f.toInt64) + (nx.toInt64)))])) (st13) ?_
  refine Go.st (S' := T13.setTop (mkF m 16 #[.val (.ref a), .unset] [(.long (ct.toInt64)), (.long ((f.toInt64) + (nx.toInt64)))])) (fun _ k_ => XS.i2l X13.here hx rfl (hb hby d5_15) rfl k_) ?_
  refine Go.st (S' := T13.setTop (mkF m 17 #[.val (.ref a), .unset] [(.long (((f.toInt64) + (nx.toInt64)) - (((f.toInt64) + (nx.toInt64)) / (ct.toInt64)) * (ct.toInt64)))])) (fun _ k_ => XS.lrem X13.here hx rfl (hb hby d5_16) rfl (own_i64 hct) k_) ?_
  rw [show (((f.toInt64) + (nx.toInt64)) - (((f.toInt64) + (nx.toInt64)) / (ct.toInt64)) * (ct.toInt64)) = (((f.toInt64) + (nx.toInt64)) % (ct.toInt64)) from lrem_mod _ _]
  refine Go.st (S' := T13.setTop (mkF m 18 #[.val (.ref a), .unset] [(.int ((((f.toInt64) + (nx.toInt64)) % (ct.toInt64)).toInt32))])) (fun _ k_ => XS.l2i X13.here hx rfl (hb hby d5_17) rfl k_) ?_
  refine Go.st (S' := T13.setTop (mkF m 19 #[.val (.ref a), .val (.int ((((f.toInt64) + (nx.toInt64)) % (ct.toInt64)).toInt32))] [])) (fun _ k_ => XS.istoreN X13.here hx rfl (hb hby d5_18) rfl (l' := #[.val (.ref a), .val (.int ((((f.toInt64) + (nx.toInt64)) % (ct.toInt64)).toInt32))]) rfl k_) ?_
  refine Go.st (S' := T13.setTop (mkF m 20 #[.val (.ref a), .val (.int ((((f.toInt64) + (nx.toInt64)) % (ct.toInt64)).toInt32))] [(.ref a)])) (fun _ k_ => XS.aloadN X13.here hx rfl (hb hby d5_19) rfl rfl k_) ?_
  refine Go.st (S' := T13.setTop (mkF m 21 #[.val (.ref a), .val (.int ((((f.toInt64) + (nx.toInt64)) % (ct.toInt64)).toInt32))] [(.ref a), (.ref a)])) (fun _ k_ => XS.dup X13.here hx rfl (hb hby d5_20) rfl rfl k_) ?_
  obtain ⟨T14, X14, e14, st14⟩ := getF X13 hx hZ hown (host := "") (Or.inl (w23 hw)) Via.refl e13 F_next_a (g := (mkF m 21 #[.val (.ref a), .val (.int ((((f.toInt64) + (nx.toInt64)) % (ct.toInt64)).toInt32))] [(.ref a), (.ref a)])) rfl rfl (hb hby d5_21)
  refine Go.st (S' := T14.setTop (mkF m 24 #[.val (.ref a), .val (.int ((((f.toInt64) + (nx.toInt64)) % (ct.toInt64)).toInt32))] [(.int nx), (.ref a)])) (st14) ?_
  refine Go.st (S' := T14.setTop (mkF m 25 #[.val (.ref a), .val (.int ((((f.toInt64) + (nx.toInt64)) % (ct.toInt64)).toInt32))] [(.int (1 : Int32)), (.int nx), (.ref a)])) (fun _ k_ => XS.iconst X14.here hx rfl (hb hby d5_24) k_) ?_
  refine Go.st (S' := T14.setTop (mkF m 26 #[.val (.ref a), .val (.int ((((f.toInt64) + (nx.toInt64)) % (ct.toInt64)).toInt32))] [(.int (nx + (1 : Int32))), (.ref a)])) (fun _ k_ => XS.iadd X14.here hx rfl (hb hby d5_25) rfl k_) ?_
  obtain ⟨T15, h15, X15, e15, W15, st15⟩ := putF X14 hx hZ hown (host := "") (Or.inl (w23 hw)) Via.refl e14 F_next_a E_a (Or.inl (w24 hw)) (w2 hw) (ty := .int) (by decide) rfl rfl (g := (mkF m 26 #[.val (.ref a), .val (.int ((((f.toInt64) + (nx.toInt64)) % (ct.toInt64)).toInt32))] [(.int (nx + (1 : Int32))), (.ref a)])) rfl rfl (hb hby d5_26)
  replace F_next_a := F_next_a.same W15
  replace E_a := E_a.wr W15
  replace F_startNanos_a := F_startNanos_a.other W15 (Or.inr (slot_ne (Or.inr (w11 hw)) (Or.inl (w24 hw)) (by decide) (t := .long) (t' := .int) (by decide) (by decide)))
  replace F_intervalNanos_a := F_intervalNanos_a.other W15 (Or.inr (slot_ne (Or.inr (w13 hw)) (Or.inl (w24 hw)) (by decide) (t := .long) (t' := .int) (by decide) (by decide)))
  replace F_count_a := F_count_a.other W15 (Or.inr (slot_ne (Or.inr (w15 hw)) (Or.inl (w24 hw)) (by decide) (t := .int) (t' := .int) (by decide) (by decide)))
  replace F_first_a := F_first_a.other W15 (Or.inr (slot_ne (Or.inr (w17 hw)) (Or.inl (w24 hw)) (by decide) (t := .int) (t' := .int) (by decide) (by decide)))
  replace F_round_a := F_round_a.other W15 (Or.inr (slot_ne (Or.inl (w26 hw)) (Or.inl (w24 hw)) (by decide) (t := .long) (t' := .int) (by decide) (by decide)))
  replace Z0 := Nat.le_trans Z0 (Keep.of_wr W15).1
  replace K0 := K0.wr W15 (Or.inl (by simp))
  have N15 := Fr.snoc X15 N0 g_a
  refine Go.st (S' := T15.setTop (mkF m 29 #[.val (.ref a), .val (.int ((((f.toInt64) + (nx.toInt64)) % (ct.toInt64)).toInt32))] [])) (st15) ?_
  refine Go.st (S' := T15.setTop (mkF m 30 #[.val (.ref a), .val (.int ((((f.toInt64) + (nx.toInt64)) % (ct.toInt64)).toInt32))] [(.ref a)])) (fun _ k_ => XS.aloadN X15.here hx rfl (hb hby d5_29) rfl rfl k_) ?_
  obtain ⟨T16, X16, e16, st16⟩ := getF X15 hx hZ hown (host := "") (Or.inl (w23 hw)) Via.refl e15 F_next_a (g := (mkF m 30 #[.val (.ref a), .val (.int ((((f.toInt64) + (nx.toInt64)) % (ct.toInt64)).toInt32))] [(.ref a)])) rfl rfl (hb hby d5_30)
  refine Go.st (S' := T16.setTop (mkF m 33 #[.val (.ref a), .val (.int ((((f.toInt64) + (nx.toInt64)) % (ct.toInt64)).toInt32))] [(.int (nx + (1 : Int32)))])) (st16) ?_
  refine Go.st (S' := T16.setTop (mkF m 34 #[.val (.ref a), .val (.int ((((f.toInt64) + (nx.toInt64)) % (ct.toInt64)).toInt32))] [(.ref a), (.int (nx + (1 : Int32)))])) (fun _ k_ => XS.aloadN X16.here hx rfl (hb hby d5_33) rfl rfl k_) ?_
  obtain ⟨T17, X17, e17, st17⟩ := getF X16 hx hZ hown (host := "") (Or.inl (w14 hw)) Via.refl e16 F_count_a (g := (mkF m 34 #[.val (.ref a), .val (.int ((((f.toInt64) + (nx.toInt64)) % (ct.toInt64)).toInt32))] [(.ref a), (.int (nx + (1 : Int32)))])) rfl rfl (hb hby d5_34)
  refine Go.st (S' := T17.setTop (mkF m 37 #[.val (.ref a), .val (.int ((((f.toInt64) + (nx.toInt64)) % (ct.toInt64)).toInt32))] [(.int ct), (.int (nx + (1 : Int32)))])) (st17) ?_
  by_cases hc37 : (nx + (1 : Int32)) = ct
  · skip
    refine Go.st (S' := T17.setTop (mkF m 40 #[.val (.ref a), .val (.int ((((f.toInt64) + (nx.toInt64)) % (ct.toInt64)).toInt32))] [])) (fun _ k_ => XS.icmpNo X17.here hx rfl (hb hby d5_37) rfl (teq hc37).2 k_) ?_
    refine Go.st (S' := T17.setTop (mkF m 41 #[.val (.ref a), .val (.int ((((f.toInt64) + (nx.toInt64)) % (ct.toInt64)).toInt32))] [(.ref a)])) (fun _ k_ => XS.aloadN X17.here hx rfl (hb hby d5_40) rfl rfl k_) ?_
    refine Go.st (S' := T17.setTop (mkF m 42 #[.val (.ref a), .val (.int ((((f.toInt64) + (nx.toInt64)) % (ct.toInt64)).toInt32))] [(.int (0 : Int32)), (.ref a)])) (fun _ k_ => XS.iconst X17.here hx rfl (hb hby d5_41) k_) ?_
    obtain ⟨T18, h18, X18, e18, W18, st18⟩ := putF X17 hx hZ hown (host := "") (Or.inl (w23 hw)) Via.refl e17 F_next_a E_a (Or.inl (w24 hw)) (w2 hw) (ty := .int) (by decide) rfl rfl (g := (mkF m 42 #[.val (.ref a), .val (.int ((((f.toInt64) + (nx.toInt64)) % (ct.toInt64)).toInt32))] [(.int (0 : Int32)), (.ref a)])) rfl rfl (hb hby d5_42)
    replace F_next_a := F_next_a.same W18
    replace E_a := E_a.wr W18
    replace F_startNanos_a := F_startNanos_a.other W18 (Or.inr (slot_ne (Or.inr (w11 hw)) (Or.inl (w24 hw)) (by decide) (t := .long) (t' := .int) (by decide) (by decide)))
    replace F_intervalNanos_a := F_intervalNanos_a.other W18 (Or.inr (slot_ne (Or.inr (w13 hw)) (Or.inl (w24 hw)) (by decide) (t := .long) (t' := .int) (by decide) (by decide)))
    replace F_count_a := F_count_a.other W18 (Or.inr (slot_ne (Or.inr (w15 hw)) (Or.inl (w24 hw)) (by decide) (t := .int) (t' := .int) (by decide) (by decide)))
    replace F_first_a := F_first_a.other W18 (Or.inr (slot_ne (Or.inr (w17 hw)) (Or.inl (w24 hw)) (by decide) (t := .int) (t' := .int) (by decide) (by decide)))
    replace F_round_a := F_round_a.other W18 (Or.inr (slot_ne (Or.inl (w26 hw)) (Or.inl (w24 hw)) (by decide) (t := .long) (t' := .int) (by decide) (by decide)))
    replace Z0 := Nat.le_trans Z0 (Keep.of_wr W18).1
    replace K0 := K0.wr W18 (Or.inl (by simp))
    have N18 := Fr.snoc X18 N15 g_a
    refine Go.st (S' := T18.setTop (mkF m 45 #[.val (.ref a), .val (.int ((((f.toInt64) + (nx.toInt64)) % (ct.toInt64)).toInt32))] [])) (st18) ?_
    refine Go.st (S' := T18.setTop (mkF m 46 #[.val (.ref a), .val (.int ((((f.toInt64) + (nx.toInt64)) % (ct.toInt64)).toInt32))] [(.ref a)])) (fun _ k_ => XS.aloadN X18.here hx rfl (hb hby d5_45) rfl rfl k_) ?_
    refine Go.st (S' := T18.setTop (mkF m 47 #[.val (.ref a), .val (.int ((((f.toInt64) + (nx.toInt64)) % (ct.toInt64)).toInt32))] [(.ref a), (.ref a)])) (fun _ k_ => XS.dup X18.here hx rfl (hb hby d5_46) rfl rfl k_) ?_
    obtain ⟨T19, X19, e19, st19⟩ := getF X18 hx hZ hown (host := "") (Or.inl (w25 hw)) Via.refl e18 F_round_a (g := (mkF m 47 #[.val (.ref a), .val (.int ((((f.toInt64) + (nx.toInt64)) % (ct.toInt64)).toInt32))] [(.ref a), (.ref a)])) rfl rfl (hb hby d5_47)
    refine Go.st (S' := T19.setTop (mkF m 50 #[.val (.ref a), .val (.int ((((f.toInt64) + (nx.toInt64)) % (ct.toInt64)).toInt32))] [(.long rd), (.ref a)])) (st19) ?_
    refine Go.st (S' := T19.setTop (mkF m 51 #[.val (.ref a), .val (.int ((((f.toInt64) + (nx.toInt64)) % (ct.toInt64)).toInt32))] [(.long (1 : Int64)), (.long rd), (.ref a)])) (fun _ k_ => XS.lconst X19.here hx rfl (hb hby d5_50) k_) ?_
    refine Go.st (S' := T19.setTop (mkF m 52 #[.val (.ref a), .val (.int ((((f.toInt64) + (nx.toInt64)) % (ct.toInt64)).toInt32))] [(.long (rd + (1 : Int64))), (.ref a)])) (fun _ k_ => XS.ladd X19.here hx rfl (hb hby d5_51) rfl k_) ?_
    obtain ⟨T20, h20, X20, e20, W20, st20⟩ := putF X19 hx hZ hown (host := "") (Or.inl (w25 hw)) Via.refl e19 F_round_a E_a (Or.inl (w26 hw)) (w2 hw) (ty := .long) (by decide) rfl rfl (g := (mkF m 52 #[.val (.ref a), .val (.int ((((f.toInt64) + (nx.toInt64)) % (ct.toInt64)).toInt32))] [(.long (rd + (1 : Int64))), (.ref a)])) rfl rfl (hb hby d5_52)
    replace F_round_a := F_round_a.same W20
    replace E_a := E_a.wr W20
    replace F_startNanos_a := F_startNanos_a.other W20 (Or.inr (slot_ne (Or.inr (w11 hw)) (Or.inl (w26 hw)) (by decide) (t := .long) (t' := .long) (by decide) (by decide)))
    replace F_intervalNanos_a := F_intervalNanos_a.other W20 (Or.inr (slot_ne (Or.inr (w13 hw)) (Or.inl (w26 hw)) (by decide) (t := .long) (t' := .long) (by decide) (by decide)))
    replace F_count_a := F_count_a.other W20 (Or.inr (slot_ne (Or.inr (w15 hw)) (Or.inl (w26 hw)) (by decide) (t := .int) (t' := .long) (by decide) (by decide)))
    replace F_first_a := F_first_a.other W20 (Or.inr (slot_ne (Or.inr (w17 hw)) (Or.inl (w26 hw)) (by decide) (t := .int) (t' := .long) (by decide) (by decide)))
    replace F_next_a := F_next_a.other W20 (Or.inr (slot_ne (Or.inl (w24 hw)) (Or.inl (w26 hw)) (by decide) (t := .int) (t' := .long) (by decide) (by decide)))
    replace Z0 := Nat.le_trans Z0 (Keep.of_wr W20).1
    replace K0 := K0.wr W20 (Or.inl (by simp))
    have N20 := Fr.snoc X20 N18 g_a
    refine Go.st (S' := T20.setTop (mkF m 55 #[.val (.ref a), .val (.int ((((f.toInt64) + (nx.toInt64)) % (ct.toInt64)).toInt32))] [])) (st20) ?_
    refine Go.st (S' := T20.setTop (mkF m 56 #[.val (.ref a), .val (.int ((((f.toInt64) + (nx.toInt64)) % (ct.toInt64)).toInt32))] [(.int ((((f.toInt64) + (nx.toInt64)) % (ct.toInt64)).toInt32))])) (fun _ k_ => XS.iloadN X20.here hx rfl (hb hby d5_55) rfl k_) ?_
    exact Go.retI X20 hx hret hlk (hb hby d5_56) (by decide) (by decide) (by rw [e20]; exact ⟨rfl, N20, K0, by rw [if_pos hc37, if_pos hc37]; exact ⟨E_a, F_startNanos_a, F_intervalNanos_a, F_count_a, F_first_a, F_next_a, F_round_a⟩⟩)
  · skip
    refine Go.st (S' := T17.setTop (mkF m 55 #[.val (.ref a), .val (.int ((((f.toInt64) + (nx.toInt64)) % (ct.toInt64)).toInt32))] [])) (fun _ k_ => XS.icmpYes X17.here hx rfl (pc0 := 37) (pc' := 55) rfl (hb hby d5_37) rfl (feq hc37).2 (by decide) (by decide) k_) ?_
    refine Go.st (S' := T17.setTop (mkF m 56 #[.val (.ref a), .val (.int ((((f.toInt64) + (nx.toInt64)) % (ct.toInt64)).toInt32))] [(.int ((((f.toInt64) + (nx.toInt64)) % (ct.toInt64)).toInt32))])) (fun _ k_ => XS.iloadN X17.here hx rfl (hb hby d5_55) rfl k_) ?_
    exact Go.retI X17 hx hret hlk (hb hby d5_56) (by decide) (by decide) (by rw [e17]; exact ⟨rfl, N15, K0, by rw [if_neg hc37, if_neg hc37]; exact ⟨E_a, F_startNanos_a, F_intervalNanos_a, F_count_a, F_first_a, F_next_a, F_round_a⟩⟩)
theorem ef_sp_next (m : MethodId) (x0 : Addr) : entryFrame m #[(.ref x0)] 3 = mkF m 0 #[.val (.ref x0), .unset, .unset] [] := by first | (simp [entryFrame, mkF, argsToLocals, Value.category]; done) | rfl
set_option maxRecDepth 65536 in
set_option maxHeartbeats 40000000 in
theorem sp_next (l : Launch) (Z : State) (a0 : Array Value) (hw : ∀ d ∈ tables_1, d.before a0 Z = true) (a : Addr) (st iv : Int64) (ct f nx : Int32) (rd : Int64) (h0 : Heap) (n0 : Nat) (Z0 : n0 ≤ h0.size) (H : SP Z h0 a st iv ct f nx rd) (hct : ¬ ct = 0) :
    Con l Z (⟨"com/example/vigilant_coordinator/vigilantcoordinator/load/Spread", "nextNanos", "()J"⟩ : MethodName) prog_45_method_2_code 3 (some .long) [] ({ frames := 0, cells := 0, slots := 0, locals := 0 } : Room) #[(.ref a)] h0 (fun v h L => v = some (.long (own_next st iv ct nx rd)) ∧ Fr n0 L ∧ h = h0) := by
  refine Con.mk (plainFor_of_name pn0) ?_
  intro p e s m below meth c T0 hx hby hml hown hnm hret hlk hZ X0 e0
  have hown : s.vm.findClass "com/example/vigilant_coordinator/vigilantcoordinator/load/Spread" = some m.cls := hown
  have hnm : meth.name = "nextNanos" := hnm
  have N0 := Fr.nil n0
  refine Go.cast (ef_sp_next m a) ?_
  obtain ⟨E_a, F_startNanos_a, F_intervalNanos_a, F_count_a, F_first_a, F_next_a, F_round_a⟩ := H
  refine Go.st (S' := T0.setTop (mkF m 1 #[.val (.ref a), .unset, .unset] [(.ref a)])) (fun _ k_ => XS.aloadN X0.here hx rfl (hb hby d3_0) rfl rfl k_) ?_
  obtain ⟨T11, X11, e11, st11⟩ := getF X0 hx hZ hown (host := "") (Or.inl (w12 hw)) Via.refl e0 F_intervalNanos_a (g := (mkF m 1 #[.val (.ref a), .unset, .unset] [(.ref a)])) rfl rfl (hb hby d3_1)
  refine Go.st (S' := T11.setTop (mkF m 4 #[.val (.ref a), .unset, .unset] [(.long iv)])) (st11) ?_
  refine Go.st (S' := T11.setTop (mkF m 5 #[.val (.ref a), .unset, .unset] [(.ref a), (.long iv)])) (fun _ k_ => XS.aloadN X11.here hx rfl (hb hby d3_4) rfl rfl k_) ?_
  obtain ⟨T12, X12, e12, st12⟩ := getF X11 hx hZ hown (host := "") (Or.inl (w14 hw)) Via.refl e11 F_count_a (g := (mkF m 5 #[.val (.ref a), .unset, .unset] [(.ref a), (.long iv)])) rfl rfl (hb hby d3_5)
  refine Go.st (S' := T12.setTop (mkF m 8 #[.val (.ref a), .unset, .unset] [(.int ct), (.long iv)])) (st12) ?_
  refine Go.st (S' := T12.setTop (mkF m 9 #[.val (.ref a), .unset, .unset] [(.long (ct.toInt64)), (.long iv)])) (fun _ k_ => XS.i2l X12.here hx rfl (hb hby d3_8) rfl k_) ?_
  refine Go.st (S' := T12.setTop (mkF m 10 #[.val (.ref a), .unset, .unset] [(.long (iv / (ct.toInt64)))])) (fun _ k_ => XS.ldiv X12.here hx rfl (hb hby d3_9) rfl (own_i64 hct) k_) ?_
  refine Go.st (S' := T12.setTop (mkF m 11 #[.val (.ref a), .unset, .unset] [(.ref a), (.long (iv / (ct.toInt64)))])) (fun _ k_ => XS.aloadN X12.here hx rfl (hb hby d3_10) rfl rfl k_) ?_
  obtain ⟨T13, X13, e13, st13⟩ := getF X12 hx hZ hown (host := "") (Or.inl (w23 hw)) Via.refl e12 F_next_a (g := (mkF m 11 #[.val (.ref a), .unset, .unset] [(.ref a), (.long (iv / (ct.toInt64)))])) rfl rfl (hb hby d3_11)
  refine Go.st (S' := T13.setTop (mkF m 14 #[.val (.ref a), .unset, .unset] [(.int nx), (.long (iv / (ct.toInt64)))])) (st13) ?_
  refine Go.st (S' := T13.setTop (mkF m 15 #[.val (.ref a), .unset, .unset] [(.long (nx.toInt64)), (.long (iv / (ct.toInt64)))])) (fun _ k_ => XS.i2l X13.here hx rfl (hb hby d3_14) rfl k_) ?_
  refine Go.st (S' := T13.setTop (mkF m 16 #[.val (.ref a), .unset, .unset] [(.long ((iv / (ct.toInt64)) * (nx.toInt64)))])) (fun _ k_ => XS.lmul X13.here hx rfl (hb hby d3_15) rfl k_) ?_
  refine Go.st (S' := T13.setTop (mkF m 17 #[.val (.ref a), .unset, .unset] [(.ref a), (.long ((iv / (ct.toInt64)) * (nx.toInt64)))])) (fun _ k_ => XS.aloadN X13.here hx rfl (hb hby d3_16) rfl rfl k_) ?_
  obtain ⟨T14, X14, e14, st14⟩ := getF X13 hx hZ hown (host := "") (Or.inl (w12 hw)) Via.refl e13 F_intervalNanos_a (g := (mkF m 17 #[.val (.ref a), .unset, .unset] [(.ref a), (.long ((iv / (ct.toInt64)) * (nx.toInt64)))])) rfl rfl (hb hby d3_17)
  refine Go.st (S' := T14.setTop (mkF m 20 #[.val (.ref a), .unset, .unset] [(.long iv), (.long ((iv / (ct.toInt64)) * (nx.toInt64)))])) (st14) ?_
  refine Go.st (S' := T14.setTop (mkF m 21 #[.val (.ref a), .unset, .unset] [(.ref a), (.long iv), (.long ((iv / (ct.toInt64)) * (nx.toInt64)))])) (fun _ k_ => XS.aloadN X14.here hx rfl (hb hby d3_20) rfl rfl k_) ?_
  obtain ⟨T15, X15, e15, st15⟩ := getF X14 hx hZ hown (host := "") (Or.inl (w14 hw)) Via.refl e14 F_count_a (g := (mkF m 21 #[.val (.ref a), .unset, .unset] [(.ref a), (.long iv), (.long ((iv / (ct.toInt64)) * (nx.toInt64)))])) rfl rfl (hb hby d3_21)
  refine Go.st (S' := T15.setTop (mkF m 24 #[.val (.ref a), .unset, .unset] [(.int ct), (.long iv), (.long ((iv / (ct.toInt64)) * (nx.toInt64)))])) (st15) ?_
  refine Go.st (S' := T15.setTop (mkF m 25 #[.val (.ref a), .unset, .unset] [(.long (ct.toInt64)), (.long iv), (.long ((iv / (ct.toInt64)) * (nx.toInt64)))])) (fun _ k_ => XS.i2l X15.here hx rfl (hb hby d3_24) rfl k_) ?_
  refine Go.st (S' := T15.setTop (mkF m 26 #[.val (.ref a), .unset, .unset] [(.long (iv - (iv / (ct.toInt64)) * (ct.toInt64))), (.long ((iv / (ct.toInt64)) * (nx.toInt64)))])) (fun _ k_ => XS.lrem X15.here hx rfl (hb hby d3_25) rfl (own_i64 hct) k_) ?_
  rw [show (iv - (iv / (ct.toInt64)) * (ct.toInt64)) = (iv % (ct.toInt64)) from lrem_mod _ _]
  refine Go.st (S' := T15.setTop (mkF m 27 #[.val (.ref a), .unset, .unset] [(.ref a), (.long (iv % (ct.toInt64))), (.long ((iv / (ct.toInt64)) * (nx.toInt64)))])) (fun _ k_ => XS.aloadN X15.here hx rfl (hb hby d3_26) rfl rfl k_) ?_
  obtain ⟨T16, X16, e16, st16⟩ := getF X15 hx hZ hown (host := "") (Or.inl (w23 hw)) Via.refl e15 F_next_a (g := (mkF m 27 #[.val (.ref a), .unset, .unset] [(.ref a), (.long (iv % (ct.toInt64))), (.long ((iv / (ct.toInt64)) * (nx.toInt64)))])) rfl rfl (hb hby d3_27)
  refine Go.st (S' := T16.setTop (mkF m 30 #[.val (.ref a), .unset, .unset] [(.int nx), (.long (iv % (ct.toInt64))), (.long ((iv / (ct.toInt64)) * (nx.toInt64)))])) (st16) ?_
  refine Go.st (S' := T16.setTop (mkF m 31 #[.val (.ref a), .unset, .unset] [(.long (nx.toInt64)), (.long (iv % (ct.toInt64))), (.long ((iv / (ct.toInt64)) * (nx.toInt64)))])) (fun _ k_ => XS.i2l X16.here hx rfl (hb hby d3_30) rfl k_) ?_
  refine Go.st (S' := T16.setTop (mkF m 32 #[.val (.ref a), .unset, .unset] [(.long ((iv % (ct.toInt64)) * (nx.toInt64))), (.long ((iv / (ct.toInt64)) * (nx.toInt64)))])) (fun _ k_ => XS.lmul X16.here hx rfl (hb hby d3_31) rfl k_) ?_
  refine Go.st (S' := T16.setTop (mkF m 33 #[.val (.ref a), .unset, .unset] [(.ref a), (.long ((iv % (ct.toInt64)) * (nx.toInt64))), (.long ((iv / (ct.toInt64)) * (nx.toInt64)))])) (fun _ k_ => XS.aloadN X16.here hx rfl (hb hby d3_32) rfl rfl k_) ?_
  obtain ⟨T17, X17, e17, st17⟩ := getF X16 hx hZ hown (host := "") (Or.inl (w14 hw)) Via.refl e16 F_count_a (g := (mkF m 33 #[.val (.ref a), .unset, .unset] [(.ref a), (.long ((iv % (ct.toInt64)) * (nx.toInt64))), (.long ((iv / (ct.toInt64)) * (nx.toInt64)))])) rfl rfl (hb hby d3_33)
  refine Go.st (S' := T17.setTop (mkF m 36 #[.val (.ref a), .unset, .unset] [(.int ct), (.long ((iv % (ct.toInt64)) * (nx.toInt64))), (.long ((iv / (ct.toInt64)) * (nx.toInt64)))])) (st17) ?_
  refine Go.st (S' := T17.setTop (mkF m 37 #[.val (.ref a), .unset, .unset] [(.long (ct.toInt64)), (.long ((iv % (ct.toInt64)) * (nx.toInt64))), (.long ((iv / (ct.toInt64)) * (nx.toInt64)))])) (fun _ k_ => XS.i2l X17.here hx rfl (hb hby d3_36) rfl k_) ?_
  refine Go.st (S' := T17.setTop (mkF m 38 #[.val (.ref a), .unset, .unset] [(.long (((iv % (ct.toInt64)) * (nx.toInt64)) / (ct.toInt64))), (.long ((iv / (ct.toInt64)) * (nx.toInt64)))])) (fun _ k_ => XS.ldiv X17.here hx rfl (hb hby d3_37) rfl (own_i64 hct) k_) ?_
  refine Go.st (S' := T17.setTop (mkF m 39 #[.val (.ref a), .unset, .unset] [(.long (((iv / (ct.toInt64)) * (nx.toInt64)) + (((iv % (ct.toInt64)) * (nx.toInt64)) / (ct.toInt64))))])) (fun _ k_ => XS.ladd X17.here hx rfl (hb hby d3_38) rfl k_) ?_
  refine Go.st (S' := T17.setTop (mkF m 40 #[.val (.ref a), .val (.long (((iv / (ct.toInt64)) * (nx.toInt64)) + (((iv % (ct.toInt64)) * (nx.toInt64)) / (ct.toInt64)))), .second] [])) (fun _ k_ => XS.lstoreN X17.here hx rfl (hb hby d3_39) rfl (l' := #[.val (.ref a), .val (.long (((iv / (ct.toInt64)) * (nx.toInt64)) + (((iv % (ct.toInt64)) * (nx.toInt64)) / (ct.toInt64)))), .second]) rfl k_) ?_
  refine Go.st (S' := T17.setTop (mkF m 41 #[.val (.ref a), .val (.long (((iv / (ct.toInt64)) * (nx.toInt64)) + (((iv % (ct.toInt64)) * (nx.toInt64)) / (ct.toInt64)))), .second] [(.ref a)])) (fun _ k_ => XS.aloadN X17.here hx rfl (hb hby d3_40) rfl rfl k_) ?_
  obtain ⟨T18, X18, e18, st18⟩ := getF X17 hx hZ hown (host := "") (Or.inl (w10 hw)) Via.refl e17 F_startNanos_a (g := (mkF m 41 #[.val (.ref a), .val (.long (((iv / (ct.toInt64)) * (nx.toInt64)) + (((iv % (ct.toInt64)) * (nx.toInt64)) / (ct.toInt64)))), .second] [(.ref a)])) rfl rfl (hb hby d3_41)
  refine Go.st (S' := T18.setTop (mkF m 44 #[.val (.ref a), .val (.long (((iv / (ct.toInt64)) * (nx.toInt64)) + (((iv % (ct.toInt64)) * (nx.toInt64)) / (ct.toInt64)))), .second] [(.long st)])) (st18) ?_
  refine Go.st (S' := T18.setTop (mkF m 45 #[.val (.ref a), .val (.long (((iv / (ct.toInt64)) * (nx.toInt64)) + (((iv % (ct.toInt64)) * (nx.toInt64)) / (ct.toInt64)))), .second] [(.ref a), (.long st)])) (fun _ k_ => XS.aloadN X18.here hx rfl (hb hby d3_44) rfl rfl k_) ?_
  obtain ⟨T19, X19, e19, st19⟩ := getF X18 hx hZ hown (host := "") (Or.inl (w25 hw)) Via.refl e18 F_round_a (g := (mkF m 45 #[.val (.ref a), .val (.long (((iv / (ct.toInt64)) * (nx.toInt64)) + (((iv % (ct.toInt64)) * (nx.toInt64)) / (ct.toInt64)))), .second] [(.ref a), (.long st)])) rfl rfl (hb hby d3_45)
  refine Go.st (S' := T19.setTop (mkF m 48 #[.val (.ref a), .val (.long (((iv / (ct.toInt64)) * (nx.toInt64)) + (((iv % (ct.toInt64)) * (nx.toInt64)) / (ct.toInt64)))), .second] [(.long rd), (.long st)])) (st19) ?_
  refine Go.st (S' := T19.setTop (mkF m 49 #[.val (.ref a), .val (.long (((iv / (ct.toInt64)) * (nx.toInt64)) + (((iv % (ct.toInt64)) * (nx.toInt64)) / (ct.toInt64)))), .second] [(.ref a), (.long rd), (.long st)])) (fun _ k_ => XS.aloadN X19.here hx rfl (hb hby d3_48) rfl rfl k_) ?_
  obtain ⟨T20, X20, e20, st20⟩ := getF X19 hx hZ hown (host := "") (Or.inl (w12 hw)) Via.refl e19 F_intervalNanos_a (g := (mkF m 49 #[.val (.ref a), .val (.long (((iv / (ct.toInt64)) * (nx.toInt64)) + (((iv % (ct.toInt64)) * (nx.toInt64)) / (ct.toInt64)))), .second] [(.ref a), (.long rd), (.long st)])) rfl rfl (hb hby d3_49)
  refine Go.st (S' := T20.setTop (mkF m 52 #[.val (.ref a), .val (.long (((iv / (ct.toInt64)) * (nx.toInt64)) + (((iv % (ct.toInt64)) * (nx.toInt64)) / (ct.toInt64)))), .second] [(.long iv), (.long rd), (.long st)])) (st20) ?_
  refine Go.st (S' := T20.setTop (mkF m 53 #[.val (.ref a), .val (.long (((iv / (ct.toInt64)) * (nx.toInt64)) + (((iv % (ct.toInt64)) * (nx.toInt64)) / (ct.toInt64)))), .second] [(.long (rd * iv)), (.long st)])) (fun _ k_ => XS.lmul X20.here hx rfl (hb hby d3_52) rfl k_) ?_
  refine Go.st (S' := T20.setTop (mkF m 54 #[.val (.ref a), .val (.long (((iv / (ct.toInt64)) * (nx.toInt64)) + (((iv % (ct.toInt64)) * (nx.toInt64)) / (ct.toInt64)))), .second] [(.long (st + (rd * iv)))])) (fun _ k_ => XS.ladd X20.here hx rfl (hb hby d3_53) rfl k_) ?_
  refine Go.st (S' := T20.setTop (mkF m 55 #[.val (.ref a), .val (.long (((iv / (ct.toInt64)) * (nx.toInt64)) + (((iv % (ct.toInt64)) * (nx.toInt64)) / (ct.toInt64)))), .second] [(.long (((iv / (ct.toInt64)) * (nx.toInt64)) + (((iv % (ct.toInt64)) * (nx.toInt64)) / (ct.toInt64)))), (.long (st + (rd * iv)))])) (fun _ k_ => XS.lloadN X20.here hx rfl (hb hby d3_54) rfl k_) ?_
  refine Go.st (S' := T20.setTop (mkF m 56 #[.val (.ref a), .val (.long (((iv / (ct.toInt64)) * (nx.toInt64)) + (((iv % (ct.toInt64)) * (nx.toInt64)) / (ct.toInt64)))), .second] [(.long ((st + (rd * iv)) + (((iv / (ct.toInt64)) * (nx.toInt64)) + (((iv % (ct.toInt64)) * (nx.toInt64)) / (ct.toInt64)))))])) (fun _ k_ => XS.ladd X20.here hx rfl (hb hby d3_55) rfl k_) ?_
  exact Go.retJ X20 hx hret hlk (hb hby d3_56) (by decide) (by decide) (by rw [e20]; exact ⟨rfl, N0, rfl⟩)
theorem ef_rm_corr (m : MethodId) (x0 : Int64) (x1 : Int64) : entryFrame m #[(.long x0), (.long x1)] 4 = mkF m 0 #[.val (.long x0), .second, .val (.long x1), .second] [] := by first | (simp [entryFrame, mkF, argsToLocals, Value.category]; done) | rfl
set_option maxRecDepth 65536 in
set_option maxHeartbeats 40000000 in
theorem rm_corr (l : Launch) (Z : State) (a0 : Array Value) (hw : ∀ d ∈ tables_1, d.before a0 Z = true) (q0 q1 : Int64) (h0 : Heap) (n0 : Nat) (Z0 : n0 ≤ h0.size) (hn : q1 ≠ 0) :
    Con l Z (⟨"com/example/vigilant_coordinator/vigilantcoordinator/load/SpreadNextNanosPinLaw", "corr", "(JJ)J"⟩ : MethodName) method_2_code 4 (some .long) [] ({ frames := 0, cells := 0, slots := 0, locals := 0 } : Room) #[(.long q0), (.long q1)] h0 (fun v h L => v = some (.long (own_corr q0 q1)) ∧ Fr n0 L ∧ h = h0) := by
  refine Con.mk (plainFor_of_name pn1) ?_
  intro p e s m below meth c T0 hx hby hml hown hnm hret hlk hZ X0 e0
  have hown : s.vm.findClass "com/example/vigilant_coordinator/vigilantcoordinator/load/SpreadNextNanosPinLaw" = some m.cls := hown
  have hnm : meth.name = "corr" := hnm
  have N0 := Fr.nil n0
  refine Go.cast (ef_rm_corr m q0 q1) ?_
  refine Go.st (S' := T0.setTop (mkF m 1 #[.val (.long q0), .second, .val (.long q1), .second] [(.long q0)])) (fun _ k_ => XS.lloadN X0.here hx rfl (hb hby d6_0) rfl k_) ?_
  refine Go.st (S' := T0.setTop (mkF m 2 #[.val (.long q0), .second, .val (.long q1), .second] [(.long q1), (.long q0)])) (fun _ k_ => XS.lloadN X0.here hx rfl (hb hby d6_1) rfl k_) ?_
  refine Go.st (S' := T0.setTop (mkF m 3 #[.val (.long q0), .second, .val (.long q1), .second] [(.long (q0 - (q0 / q1) * q1))])) (fun _ k_ => XS.lrem X0.here hx rfl (hb hby d6_2) rfl hn k_) ?_
  rw [show (q0 - (q0 / q1) * q1) = (q0 % q1) from lrem_mod _ _]
  refine Go.st (S' := T0.setTop (mkF m 4 #[.val (.long q0), .second, .val (.long q1), .second] [(.long (0 : Int64)), (.long (q0 % q1))])) (fun _ k_ => XS.lconst X0.here hx rfl (hb hby d6_3) k_) ?_
  refine Go.st (S' := T0.setTop (mkF m 5 #[.val (.long q0), .second, .val (.long q1), .second] [(.int (lcmpW (q0 % q1) (0 : Int64)))])) (fun _ k_ => XS.lcmp X0.here hx rfl (hb hby d6_4) rfl k_) ?_
  by_cases hc5 : (q0 % q1) = (0 : Int64)
  · skip
    refine Go.st (S' := T0.setTop (mkF m 8 #[.val (.long q0), .second, .val (.long q1), .second] [])) (fun _ k_ => XS.ifNo X0.here hx rfl (hb hby d6_5) rfl ((if0 _ _).trans (teq ((lw_eq (q0 % q1) (0 : Int64)).mpr hc5)).2) k_) ?_
    refine Go.st (S' := T0.setTop (mkF m 9 #[.val (.long q0), .second, .val (.long q1), .second] [(.long (0 : Int64))])) (fun _ k_ => XS.lconst X0.here hx rfl (hb hby d6_8) k_) ?_
    exact Go.retJ X0 hx hret hlk (hb hby d6_9) (by decide) (by decide) (by rw [e0]; exact ⟨by simp_all [own_corr], N0, rfl⟩)
  · skip
    refine Go.st (S' := T0.setTop (mkF m 10 #[.val (.long q0), .second, .val (.long q1), .second] [])) (fun _ k_ => XS.ifYes X0.here hx rfl (pc0 := 5) (pc' := 10) rfl (hb hby d6_5) rfl ((if0 _ _).trans (feq (fun q => hc5 ((lw_eq (q0 % q1) (0 : Int64)).mp q))).2) (by decide) (by decide) k_) ?_
    refine Go.st (S' := T0.setTop (mkF m 11 #[.val (.long q0), .second, .val (.long q1), .second] [(.long q0)])) (fun _ k_ => XS.lloadN X0.here hx rfl (hb hby d6_10) rfl k_) ?_
    refine Go.st (S' := T0.setTop (mkF m 12 #[.val (.long q0), .second, .val (.long q1), .second] [(.long (0 : Int64)), (.long q0)])) (fun _ k_ => XS.lconst X0.here hx rfl (hb hby d6_11) k_) ?_
    refine Go.st (S' := T0.setTop (mkF m 13 #[.val (.long q0), .second, .val (.long q1), .second] [(.int (lcmpW q0 (0 : Int64)))])) (fun _ k_ => XS.lcmp X0.here hx rfl (hb hby d6_12) rfl k_) ?_
    by_cases hc13 : (0 : Int64) < q0
    · skip
      refine Go.st (S' := T0.setTop (mkF m 16 #[.val (.long q0), .second, .val (.long q1), .second] [])) (fun _ k_ => XS.ifNo X0.here hx rfl (hb hby d6_13) rfl ((if0 _ _).trans (tlt ((lw_gt q0 (0 : Int64)).mpr hc13)).2.2.2) k_) ?_
      refine Go.st (S' := T0.setTop (mkF m 17 #[.val (.long q0), .second, .val (.long q1), .second] [(.long (1 : Int64))])) (fun _ k_ => XS.lconst X0.here hx rfl (hb hby d6_16) k_) ?_
      exact Go.retJ X0 hx hret hlk (hb hby d6_17) (by decide) (by decide) (by rw [e0]; exact ⟨by simp_all [own_corr], N0, rfl⟩)
    · skip
      refine Go.st (S' := T0.setTop (mkF m 18 #[.val (.long q0), .second, .val (.long q1), .second] [])) (fun _ k_ => XS.ifYes X0.here hx rfl (pc0 := 13) (pc' := 18) rfl (hb hby d6_13) rfl ((if0 _ _).trans (flt (fun q => hc13 ((lw_gt q0 (0 : Int64)).mp q))).2.2.2) (by decide) (by decide) k_) ?_
      refine Go.st (S' := T0.setTop (mkF m 21 #[.val (.long q0), .second, .val (.long q1), .second] [(.long (-1 : Int64))])) (X0.ldc2Long hx hown (mvT hZ (w42 hw)) (g := (mkF m 18 #[.val (.long q0), .second, .val (.long q1), .second] [])) rfl (hb hby d6_18)) ?_
      exact Go.retJ X0 hx hret hlk (hb hby d6_21) (by decide) (by decide) (by rw [e0]; exact ⟨by simp_all [own_corr], N0, rfl⟩)
theorem ef_rm_off (m : MethodId) (x0 : Int64) (x1 : Int32) (x2 : Int32) : entryFrame m #[(.long x0), (.int x1), (.int x2)] 4 = mkF m 0 #[.val (.long x0), .second, .val (.int x1), .val (.int x2)] [] := by first | (simp [entryFrame, mkF, argsToLocals, Value.category]; done) | rfl
set_option maxRecDepth 65536 in
set_option maxHeartbeats 40000000 in
theorem rm_off (l : Launch) (Z : State) (a0 : Array Value) (hw : ∀ d ∈ tables_1, d.before a0 Z = true) (q0 : Int64) (p1 : Int32) (p2 : Int32) (h0 : Heap) (n0 : Nat) (Z0 : n0 ≤ h0.size) :
    Con l Z (⟨"com/example/vigilant_coordinator/vigilantcoordinator/load/SpreadNextNanosPinLaw", "offset", "(JII)J"⟩ : MethodName) method_3_code 4 (some .long) [] ({ frames := 1, cells := 0, slots := 0, locals := 30 } : Room) #[(.long q0), (.int p1), (.int p2)] h0 (fun v h L => v = some (.long (own_off q0 p1 p2)) ∧ Fr n0 L ∧ h = h0) := by
  refine Con.mk (plainFor_of_name pn1) ?_
  intro p e s m below meth c T0 hx hby hml hown hnm hret hlk hZ X0 e0
  have hown : s.vm.findClass "com/example/vigilant_coordinator/vigilantcoordinator/load/SpreadNextNanosPinLaw" = some m.cls := hown
  have hnm : meth.name = "offset" := hnm
  have N0 := Fr.nil n0
  refine Go.cast (ef_rm_off m q0 p1 p2) ?_
  refine Go.st (S' := T0.setTop (mkF m 1 #[.val (.long q0), .second, .val (.int p1), .val (.int p2)] [(.int p2)])) (fun _ k_ => XS.iloadN X0.here hx rfl (hb hby d4_0) rfl k_) ?_
  by_cases hc1 : p2 = (0 : Int32)
  · skip
    refine Go.st (S' := T0.setTop (mkF m 4 #[.val (.long q0), .second, .val (.int p1), .val (.int p2)] [])) (fun _ k_ => XS.ifNo X0.here hx rfl (hb hby d4_1) rfl ((if0 _ _).trans (teq hc1).2) k_) ?_
    refine Go.st (S' := T0.setTop (mkF m 5 #[.val (.long q0), .second, .val (.int p1), .val (.int p2)] [(.long (0 : Int64))])) (fun _ k_ => XS.lconst X0.here hx rfl (hb hby d4_4) k_) ?_
    exact Go.retJ X0 hx hret hlk (hb hby d4_5) (by decide) (by decide) (by rw [e0]; exact ⟨by simp_all [own_off], N0, rfl⟩)
  · skip
    refine Go.st (S' := T0.setTop (mkF m 6 #[.val (.long q0), .second, .val (.int p1), .val (.int p2)] [])) (fun _ k_ => XS.ifYes X0.here hx rfl (pc0 := 1) (pc' := 6) rfl (hb hby d4_1) rfl ((if0 _ _).trans (feq hc1).2) (by decide) (by decide) k_) ?_
    refine Go.st (S' := T0.setTop (mkF m 7 #[.val (.long q0), .second, .val (.int p1), .val (.int p2)] [(.int p1)])) (fun _ k_ => XS.iloadN X0.here hx rfl (hb hby d4_6) rfl k_) ?_
    refine Go.st (S' := T0.setTop (mkF m 8 #[.val (.long q0), .second, .val (.int p1), .val (.int p2)] [(.int (2 : Int32)), (.int p1)])) (fun _ k_ => XS.iconst X0.here hx rfl (hb hby d4_7) k_) ?_
    by_cases hc8 : p1 = (2 : Int32)
    · skip
      refine Go.st (S' := T0.setTop (mkF m 11 #[.val (.long q0), .second, .val (.int p1), .val (.int p2)] [])) (fun _ k_ => XS.icmpNo X0.here hx rfl (hb hby d4_8) rfl (teq hc8).2 k_) ?_
      refine Go.st (S' := T0.setTop (mkF m 12 #[.val (.long q0), .second, .val (.int p1), .val (.int p2)] [(.long q0)])) (fun _ k_ => XS.lloadN X0.here hx rfl (hb hby d4_11) rfl k_) ?_
      refine Go.st (S' := T0.setTop (mkF m 15 #[.val (.long q0), .second, .val (.int p1), .val (.int p2)] [(.long (2 : Int64)), (.long q0)])) (X0.ldc2Long hx hown (mvT hZ (w40 hw)) (g := (mkF m 12 #[.val (.long q0), .second, .val (.int p1), .val (.int p2)] [(.long q0)])) rfl (hb hby d4_12)) ?_
      refine Go.st (S' := T0.setTop (mkF m 16 #[.val (.long q0), .second, .val (.int p1), .val (.int p2)] [(.long (q0 / (2 : Int64)))])) (fun _ k_ => XS.ldiv X0.here hx rfl (hb hby d4_15) rfl (by decide) k_) ?_
      exact Go.retJ X0 hx hret hlk (hb hby d4_16) (by decide) (by decide) (by rw [e0]; exact ⟨by simp_all [own_off], N0, rfl⟩)
    · skip
      refine Go.st (S' := T0.setTop (mkF m 17 #[.val (.long q0), .second, .val (.int p1), .val (.int p2)] [])) (fun _ k_ => XS.icmpYes X0.here hx rfl (pc0 := 8) (pc' := 17) rfl (hb hby d4_8) rfl (feq hc8).2 (by decide) (by decide) k_) ?_
      refine Go.st (S' := T0.setTop (mkF m 18 #[.val (.long q0), .second, .val (.int p1), .val (.int p2)] [(.int p1)])) (fun _ k_ => XS.iloadN X0.here hx rfl (hb hby d4_17) rfl k_) ?_
      refine Go.st (S' := T0.setTop (mkF m 19 #[.val (.long q0), .second, .val (.int p1), .val (.int p2)] [(.int (3 : Int32)), (.int p1)])) (fun _ k_ => XS.iconst X0.here hx rfl (hb hby d4_18) k_) ?_
      by_cases hc19 : p1 = (3 : Int32)
      · skip
        refine Go.st (S' := T0.setTop (mkF m 22 #[.val (.long q0), .second, .val (.int p1), .val (.int p2)] [])) (fun _ k_ => XS.icmpNo X0.here hx rfl (hb hby d4_19) rfl (teq hc19).2 k_) ?_
        refine Go.st (S' := T0.setTop (mkF m 23 #[.val (.long q0), .second, .val (.int p1), .val (.int p2)] [(.int p2)])) (fun _ k_ => XS.iloadN X0.here hx rfl (hb hby d4_22) rfl k_) ?_
        refine Go.st (S' := T0.setTop (mkF m 24 #[.val (.long q0), .second, .val (.int p1), .val (.int p2)] [(.int (1 : Int32)), (.int p2)])) (fun _ k_ => XS.iconst X0.here hx rfl (hb hby d4_23) k_) ?_
        by_cases hc24 : p2 = (1 : Int32)
        · skip
          refine Go.st (S' := T0.setTop (mkF m 27 #[.val (.long q0), .second, .val (.int p1), .val (.int p2)] [])) (fun _ k_ => XS.icmpNo X0.here hx rfl (hb hby d4_24) rfl (teq hc24).2 k_) ?_
          refine Go.st (S' := T0.setTop (mkF m 28 #[.val (.long q0), .second, .val (.int p1), .val (.int p2)] [(.long q0)])) (fun _ k_ => XS.lloadN X0.here hx rfl (hb hby d4_27) rfl k_) ?_
          refine Go.st (S' := T0.setTop (mkF m 31 #[.val (.long q0), .second, .val (.int p1), .val (.int p2)] [(.long (3 : Int64)), (.long q0)])) (X0.ldc2Long hx hown (mvT hZ (w36 hw)) (g := (mkF m 28 #[.val (.long q0), .second, .val (.int p1), .val (.int p2)] [(.long q0)])) rfl (hb hby d4_28)) ?_
          refine Go.st (S' := T0.setTop (mkF m 32 #[.val (.long q0), .second, .val (.int p1), .val (.int p2)] [(.long (q0 / (3 : Int64)))])) (fun _ k_ => XS.ldiv X0.here hx rfl (hb hby d4_31) rfl (by decide) k_) ?_
          exact Go.retJ X0 hx hret hlk (hb hby d4_32) (by decide) (by decide) (by rw [e0]; exact ⟨by simp_all [own_off], N0, rfl⟩)
        · skip
          refine Go.st (S' := T0.setTop (mkF m 33 #[.val (.long q0), .second, .val (.int p1), .val (.int p2)] [])) (fun _ k_ => XS.icmpYes X0.here hx rfl (pc0 := 24) (pc' := 33) rfl (hb hby d4_24) rfl (feq hc24).2 (by decide) (by decide) k_) ?_
          refine Go.st (S' := T0.setTop (mkF m 34 #[.val (.long q0), .second, .val (.int p1), .val (.int p2)] [(.long q0)])) (fun _ k_ => XS.lloadN X0.here hx rfl (hb hby d4_33) rfl k_) ?_
          refine Go.st (S' := T0.setTop (mkF m 35 #[.val (.long q0), .second, .val (.int p1), .val (.int p2)] [(.long q0), (.long q0)])) (fun _ k_ => XS.lloadN X0.here hx rfl (hb hby d4_34) rfl k_) ?_
          refine Go.st (S' := T0.setTop (mkF m 38 #[.val (.long q0), .second, .val (.int p1), .val (.int p2)] [(.long (3 : Int64)), (.long q0), (.long q0)])) (X0.ldc2Long hx hown (mvT hZ (w36 hw)) (g := (mkF m 35 #[.val (.long q0), .second, .val (.int p1), .val (.int p2)] [(.long q0), (.long q0)])) rfl (hb hby d4_35)) ?_
          refine Go.st (S' := T0.setTop (mkF m 39 #[.val (.long q0), .second, .val (.int p1), .val (.int p2)] [(.long (q0 / (3 : Int64))), (.long q0)])) (fun _ k_ => XS.ldiv X0.here hx rfl (hb hby d4_38) rfl (by decide) k_) ?_
          refine Go.st (S' := T0.setTop (mkF m 40 #[.val (.long q0), .second, .val (.int p1), .val (.int p2)] [(.long (q0 - (q0 / (3 : Int64))))])) (fun _ k_ => XS.lsub X0.here hx rfl (hb hby d4_39) rfl k_) ?_
          refine Go.st (S' := T0.setTop (mkF m 41 #[.val (.long q0), .second, .val (.int p1), .val (.int p2)] [(.long q0), (.long (q0 - (q0 / (3 : Int64))))])) (fun _ k_ => XS.lloadN X0.here hx rfl (hb hby d4_40) rfl k_) ?_
          refine Go.st (S' := T0.setTop (mkF m 44 #[.val (.long q0), .second, .val (.int p1), .val (.int p2)] [(.long (3 : Int64)), (.long q0), (.long (q0 - (q0 / (3 : Int64))))])) (X0.ldc2Long hx hown (mvT hZ (w36 hw)) (g := (mkF m 41 #[.val (.long q0), .second, .val (.int p1), .val (.int p2)] [(.long q0), (.long (q0 - (q0 / (3 : Int64))))])) rfl (hb hby d4_41)) ?_
          obtain ⟨v11, T11, h11, L11, X11, e11, hQ11, st11⟩ := callSt X0 hx hZ hown (w37 hw) (w38 hw) (w29 hw) (w39 hw) (by decide) (W := 2) (argsL := [(.long q0), (.long (3 : Int64))]) (rest := [(.long (q0 - (q0 / (3 : Int64))))]) e0 (rm_corr l Z a0 hw q0 (3 : Int64) h0 n0 Z0 (by decide)) (by decide) (by decide) pd0 rfl (g := (mkF m 44 #[.val (.long q0), .second, .val (.int p1), .val (.int p2)] [(.long (3 : Int64)), (.long q0), (.long (q0 - (q0 / (3 : Int64))))])) rfl (by rw [hml]; rfl) rfl (by show 2 * 0 + _ ≤ _; exact Nat.le_of_eq rfl) (hb hby d4_44) (by decide) (by decide)
          obtain ⟨rfl, Nq11, hh11⟩ := hQ11
          rw [hh11] at e11
          have N11 := Fr.app N0 Nq11
          refine Go.st (S' := T11.setTop (mkF m 47 #[.val (.long q0), .second, .val (.int p1), .val (.int p2)] [(.long (own_corr q0 (3 : Int64))), (.long (q0 - (q0 / (3 : Int64))))])) (st11) ?_
          refine Go.st (S' := T11.setTop (mkF m 48 #[.val (.long q0), .second, .val (.int p1), .val (.int p2)] [(.long ((q0 - (q0 / (3 : Int64))) - (own_corr q0 (3 : Int64))))])) (fun _ k_ => XS.lsub X11.here hx rfl (hb hby d4_47) rfl k_) ?_
          exact Go.retJ X11 hx hret hlk (hb hby d4_48) (by decide) (by decide) (by rw [e11]; exact ⟨by simp_all [own_off], N11, rfl⟩)
      · skip
        refine Go.st (S' := T0.setTop (mkF m 49 #[.val (.long q0), .second, .val (.int p1), .val (.int p2)] [])) (fun _ k_ => XS.icmpYes X0.here hx rfl (pc0 := 19) (pc' := 49) rfl (hb hby d4_19) rfl (feq hc19).2 (by decide) (by decide) k_) ?_
        refine Go.st (S' := T0.setTop (mkF m 50 #[.val (.long q0), .second, .val (.int p1), .val (.int p2)] [(.int p1)])) (fun _ k_ => XS.iloadN X0.here hx rfl (hb hby d4_49) rfl k_) ?_
        refine Go.st (S' := T0.setTop (mkF m 51 #[.val (.long q0), .second, .val (.int p1), .val (.int p2)] [(.int (4 : Int32)), (.int p1)])) (fun _ k_ => XS.iconst X0.here hx rfl (hb hby d4_50) k_) ?_
        by_cases hc51 : p1 = (4 : Int32)
        · skip
          refine Go.st (S' := T0.setTop (mkF m 54 #[.val (.long q0), .second, .val (.int p1), .val (.int p2)] [])) (fun _ k_ => XS.icmpNo X0.here hx rfl (hb hby d4_51) rfl (teq hc51).2 k_) ?_
          refine Go.st (S' := T0.setTop (mkF m 55 #[.val (.long q0), .second, .val (.int p1), .val (.int p2)] [(.int p2)])) (fun _ k_ => XS.iloadN X0.here hx rfl (hb hby d4_54) rfl k_) ?_
          refine Go.st (S' := T0.setTop (mkF m 56 #[.val (.long q0), .second, .val (.int p1), .val (.int p2)] [(.int (1 : Int32)), (.int p2)])) (fun _ k_ => XS.iconst X0.here hx rfl (hb hby d4_55) k_) ?_
          by_cases hc56 : p2 = (1 : Int32)
          · skip
            refine Go.st (S' := T0.setTop (mkF m 59 #[.val (.long q0), .second, .val (.int p1), .val (.int p2)] [])) (fun _ k_ => XS.icmpNo X0.here hx rfl (hb hby d4_56) rfl (teq hc56).2 k_) ?_
            refine Go.st (S' := T0.setTop (mkF m 60 #[.val (.long q0), .second, .val (.int p1), .val (.int p2)] [(.long q0)])) (fun _ k_ => XS.lloadN X0.here hx rfl (hb hby d4_59) rfl k_) ?_
            refine Go.st (S' := T0.setTop (mkF m 63 #[.val (.long q0), .second, .val (.int p1), .val (.int p2)] [(.long (4 : Int64)), (.long q0)])) (X0.ldc2Long hx hown (mvT hZ (w41 hw)) (g := (mkF m 60 #[.val (.long q0), .second, .val (.int p1), .val (.int p2)] [(.long q0)])) rfl (hb hby d4_60)) ?_
            refine Go.st (S' := T0.setTop (mkF m 64 #[.val (.long q0), .second, .val (.int p1), .val (.int p2)] [(.long (q0 / (4 : Int64)))])) (fun _ k_ => XS.ldiv X0.here hx rfl (hb hby d4_63) rfl (by decide) k_) ?_
            exact Go.retJ X0 hx hret hlk (hb hby d4_64) (by decide) (by decide) (by rw [e0]; exact ⟨by simp_all [own_off], N0, rfl⟩)
          · skip
            refine Go.st (S' := T0.setTop (mkF m 65 #[.val (.long q0), .second, .val (.int p1), .val (.int p2)] [])) (fun _ k_ => XS.icmpYes X0.here hx rfl (pc0 := 56) (pc' := 65) rfl (hb hby d4_56) rfl (feq hc56).2 (by decide) (by decide) k_) ?_
            refine Go.st (S' := T0.setTop (mkF m 66 #[.val (.long q0), .second, .val (.int p1), .val (.int p2)] [(.int p2)])) (fun _ k_ => XS.iloadN X0.here hx rfl (hb hby d4_65) rfl k_) ?_
            refine Go.st (S' := T0.setTop (mkF m 67 #[.val (.long q0), .second, .val (.int p1), .val (.int p2)] [(.int (2 : Int32)), (.int p2)])) (fun _ k_ => XS.iconst X0.here hx rfl (hb hby d4_66) k_) ?_
            by_cases hc67 : p2 = (2 : Int32)
            · skip
              refine Go.st (S' := T0.setTop (mkF m 70 #[.val (.long q0), .second, .val (.int p1), .val (.int p2)] [])) (fun _ k_ => XS.icmpNo X0.here hx rfl (hb hby d4_67) rfl (teq hc67).2 k_) ?_
              refine Go.st (S' := T0.setTop (mkF m 71 #[.val (.long q0), .second, .val (.int p1), .val (.int p2)] [(.long q0)])) (fun _ k_ => XS.lloadN X0.here hx rfl (hb hby d4_70) rfl k_) ?_
              refine Go.st (S' := T0.setTop (mkF m 74 #[.val (.long q0), .second, .val (.int p1), .val (.int p2)] [(.long (2 : Int64)), (.long q0)])) (X0.ldc2Long hx hown (mvT hZ (w40 hw)) (g := (mkF m 71 #[.val (.long q0), .second, .val (.int p1), .val (.int p2)] [(.long q0)])) rfl (hb hby d4_71)) ?_
              refine Go.st (S' := T0.setTop (mkF m 75 #[.val (.long q0), .second, .val (.int p1), .val (.int p2)] [(.long (q0 / (2 : Int64)))])) (fun _ k_ => XS.ldiv X0.here hx rfl (hb hby d4_74) rfl (by decide) k_) ?_
              exact Go.retJ X0 hx hret hlk (hb hby d4_75) (by decide) (by decide) (by rw [e0]; exact ⟨by simp_all [own_off], N0, rfl⟩)
            · skip
              refine Go.st (S' := T0.setTop (mkF m 76 #[.val (.long q0), .second, .val (.int p1), .val (.int p2)] [])) (fun _ k_ => XS.icmpYes X0.here hx rfl (pc0 := 67) (pc' := 76) rfl (hb hby d4_67) rfl (feq hc67).2 (by decide) (by decide) k_) ?_
              refine Go.st (S' := T0.setTop (mkF m 77 #[.val (.long q0), .second, .val (.int p1), .val (.int p2)] [(.long q0)])) (fun _ k_ => XS.lloadN X0.here hx rfl (hb hby d4_76) rfl k_) ?_
              refine Go.st (S' := T0.setTop (mkF m 78 #[.val (.long q0), .second, .val (.int p1), .val (.int p2)] [(.long q0), (.long q0)])) (fun _ k_ => XS.lloadN X0.here hx rfl (hb hby d4_77) rfl k_) ?_
              refine Go.st (S' := T0.setTop (mkF m 81 #[.val (.long q0), .second, .val (.int p1), .val (.int p2)] [(.long (4 : Int64)), (.long q0), (.long q0)])) (X0.ldc2Long hx hown (mvT hZ (w41 hw)) (g := (mkF m 78 #[.val (.long q0), .second, .val (.int p1), .val (.int p2)] [(.long q0), (.long q0)])) rfl (hb hby d4_78)) ?_
              refine Go.st (S' := T0.setTop (mkF m 82 #[.val (.long q0), .second, .val (.int p1), .val (.int p2)] [(.long (q0 / (4 : Int64))), (.long q0)])) (fun _ k_ => XS.ldiv X0.here hx rfl (hb hby d4_81) rfl (by decide) k_) ?_
              refine Go.st (S' := T0.setTop (mkF m 83 #[.val (.long q0), .second, .val (.int p1), .val (.int p2)] [(.long (q0 - (q0 / (4 : Int64))))])) (fun _ k_ => XS.lsub X0.here hx rfl (hb hby d4_82) rfl k_) ?_
              refine Go.st (S' := T0.setTop (mkF m 84 #[.val (.long q0), .second, .val (.int p1), .val (.int p2)] [(.long q0), (.long (q0 - (q0 / (4 : Int64))))])) (fun _ k_ => XS.lloadN X0.here hx rfl (hb hby d4_83) rfl k_) ?_
              refine Go.st (S' := T0.setTop (mkF m 87 #[.val (.long q0), .second, .val (.int p1), .val (.int p2)] [(.long (4 : Int64)), (.long q0), (.long (q0 - (q0 / (4 : Int64))))])) (X0.ldc2Long hx hown (mvT hZ (w41 hw)) (g := (mkF m 84 #[.val (.long q0), .second, .val (.int p1), .val (.int p2)] [(.long q0), (.long (q0 - (q0 / (4 : Int64))))])) rfl (hb hby d4_84)) ?_
              obtain ⟨v12, T12, h12, L12, X12, e12, hQ12, st12⟩ := callSt X0 hx hZ hown (w37 hw) (w38 hw) (w29 hw) (w39 hw) (by decide) (W := 2) (argsL := [(.long q0), (.long (4 : Int64))]) (rest := [(.long (q0 - (q0 / (4 : Int64))))]) e0 (rm_corr l Z a0 hw q0 (4 : Int64) h0 n0 Z0 (by decide)) (by decide) (by decide) pd0 rfl (g := (mkF m 87 #[.val (.long q0), .second, .val (.int p1), .val (.int p2)] [(.long (4 : Int64)), (.long q0), (.long (q0 - (q0 / (4 : Int64))))])) rfl (by rw [hml]; rfl) rfl (by show 2 * 0 + _ ≤ _; exact Nat.le_of_eq rfl) (hb hby d4_87) (by decide) (by decide)
              obtain ⟨rfl, Nq12, hh12⟩ := hQ12
              rw [hh12] at e12
              have N12 := Fr.app N0 Nq12
              refine Go.st (S' := T12.setTop (mkF m 90 #[.val (.long q0), .second, .val (.int p1), .val (.int p2)] [(.long (own_corr q0 (4 : Int64))), (.long (q0 - (q0 / (4 : Int64))))])) (st12) ?_
              refine Go.st (S' := T12.setTop (mkF m 91 #[.val (.long q0), .second, .val (.int p1), .val (.int p2)] [(.long ((q0 - (q0 / (4 : Int64))) - (own_corr q0 (4 : Int64))))])) (fun _ k_ => XS.lsub X12.here hx rfl (hb hby d4_90) rfl k_) ?_
              exact Go.retJ X12 hx hret hlk (hb hby d4_91) (by decide) (by decide) (by rw [e12]; exact ⟨by simp_all [own_off], N12, rfl⟩)
        · skip
          refine Go.st (S' := T0.setTop (mkF m 92 #[.val (.long q0), .second, .val (.int p1), .val (.int p2)] [])) (fun _ k_ => XS.icmpYes X0.here hx rfl (pc0 := 51) (pc' := 92) rfl (hb hby d4_51) rfl (feq hc51).2 (by decide) (by decide) k_) ?_
          refine Go.st (S' := T0.setTop (mkF m 93 #[.val (.long q0), .second, .val (.int p1), .val (.int p2)] [(.long (0 : Int64))])) (fun _ k_ => XS.lconst X0.here hx rfl (hb hby d4_92) k_) ?_
          exact Go.retJ X0 hx hret hlk (hb hby d4_93) (by decide) (by decide) (by rw [e0]; exact ⟨by simp_all [own_off], N0, rfl⟩)
theorem own_cnt (c : Int32) : ((1 : Int32) + (c &&& (3 : Int32))) = 1 ∨ ((1 : Int32) + (c &&& (3 : Int32))) = 2 ∨ ((1 : Int32) + (c &&& (3 : Int32))) = 3 ∨ ((1 : Int32) + (c &&& (3 : Int32))) = 4 := by
  have h1 := c_and c 3 (by decide); have h2 := c_iadd 1 (c &&& 3); have e1 : (1 : Int32).toInt = 1 := rfl; have e3 : (3 : Int32).toInt = 3 := rfl
  have e2 : (2 : Int32).toInt = 2 := rfl; have e4 : (4 : Int32).toInt = 4 := rfl
  have r := rng32 ((1 : Int32) + (c &&& 3)); simp only [← Int32.toInt_inj, e1, e2, e3, e4] at *; omega
theorem own_k (t : Int32) : ((t &&& (2147483647 : Int32)) % (6 : Int32)) = 0 ∨ ((t &&& (2147483647 : Int32)) % (6 : Int32)) = 1 ∨ ((t &&& (2147483647 : Int32)) % (6 : Int32)) = 2 ∨ ((t &&& (2147483647 : Int32)) % (6 : Int32)) = 3 ∨ ((t &&& (2147483647 : Int32)) % (6 : Int32)) = 4 ∨ ((t &&& (2147483647 : Int32)) % (6 : Int32)) = 5 := by
  have h := own_mod t 6 (by decide)
  simp only [← Int32.toInt_inj, show (0 : Int32).toInt = 0 from rfl, show (1 : Int32).toInt = 1 from rfl, show (2 : Int32).toInt = 2 from rfl, show (3 : Int32).toInt = 3 from rfl, show (4 : Int32).toInt = 4 from rfl, show (5 : Int32).toInt = 5 from rfl]; rw [show (6 : Int32).toInt = 6 from rfl] at h; omega
theorem own_ct0 {ct : Int32} (h : ct = 1 ∨ ct = 2 ∨ ct = 3 ∨ ct = 4) : ¬ ct = 0 := by rcases h with rfl | rfl | rfl | rfl <;> decide
/-- d * j + (r * j) / n against the law's own way, n and j known -/
theorem own_o1 (x : Int64) (n : Int64) : (x / n) * (0 : Int64) + ((x % n) * (0 : Int64)) / n = 0 := by
  rw [Int64.mul_zero, Int64.mul_zero, Int64.zero_add]
  apply Int64.toInt_inj.mp
  by_cases q : n = -1
  · subst q; decide
  · rw [Int64.toInt_div_of_ne_right _ _ q]; simp
theorem own_part (x : Int64) (n j : Int64) (d jj : Int) (hn : n.toInt = d) (hj : j.toInt = jj) (h1 : n ≠ -1) (hd : 2 ≤ d) (hd4 : d ≤ 4) (hj0 : 1 ≤ jj) (hj4 : jj < d) : ((x / n) * j + ((x % n) * j) / n).toInt = (if 0 ≤ x.toInt then (x.toInt / d) * jj + (x.toInt % d * jj) / d else -(((-x.toInt) / d) * jj + ((-x.toInt) % d * jj) / d)) := by
  have r := rng64 x
  have a1 := c_ldiv x n d hn h1
  have a2 : (0 ≤ x.toInt → (x % n).toInt = x.toInt % d) ∧ (x.toInt < 0 → (x % n).toInt = -((-x.toInt) % d)) := by have := c_lrem x n d hn; rwa [lrem_mod] at this
  have a3 := c_lmul (x / n) j
  have a4 := c_lmul (x % n) j
  have a5 := c_ldiv ((x % n) * j) n d hn h1
  have a6 := c_ladd ((x / n) * j) (((x % n) * j) / n)
  have r3 := rng64 ((x / n) * j); have r4 := rng64 ((x % n) * j); have r5 := rng64 ((x / n) * j + ((x % n) * j) / n); have r6 := rng64 (((x % n) * j) / n)
  rw [hj] at a3 a4
  have c1 : d = 2 ∨ d = 3 ∨ d = 4 := by omega
  have c2 : jj = 1 ∨ jj = 2 ∨ jj = 3 := by omega
  have cc : (d = 2 ∧ jj = 1) ∨ (d = 3 ∧ jj = 1) ∨ (d = 3 ∧ jj = 2) ∨ (d = 4 ∧ jj = 1) ∨ (d = 4 ∧ jj = 2) ∨ (d = 4 ∧ jj = 3) := by clear a1 a2 a3 a4 a5 a6 r r3 r4 r5 r6; omega
  by_cases s : 0 ≤ x.toInt
  · rw [if_pos s]
    exact own_pzp d jj x.toInt _ _ _ _ _ _ cc ⟨by omega, by omega⟩ s (a1.1 s) (a2.1 s) ⟨by omega, by omega⟩ ⟨by omega, by omega⟩ ⟨by omega, by omega⟩ a3 a4 a5 a6
  · rw [if_neg s]
    exact own_pzn d jj x.toInt _ _ _ _ _ _ cc ⟨by omega, by omega⟩ s (a1.2 (by omega)) (a2.2 (by omega)) ⟨by omega, by omega⟩ ⟨by omega, by omega⟩ ⟨by omega, by omega⟩ a3 a4 a5 a6
theorem own_corrv (x n : Int64) (d : Int) (hn : n.toInt = d) (hd : 2 ≤ d) : (own_corr x n).toInt = (if x.toInt % d = 0 then 0 else if 0 < x.toInt then 1 else -1) := by
  have a2 : (0 ≤ x.toInt → (x % n).toInt = x.toInt % d) ∧ (x.toInt < 0 → (x % n).toInt = -((-x.toInt) % d)) := by have := c_lrem x n d hn; rwa [lrem_mod] at this
  have q1 : (x % n = 0) ↔ x.toInt % d = 0 := by
    rw [← Int64.toInt_inj, show (0 : Int64).toInt = 0 from rfl]
    by_cases s : 0 ≤ x.toInt
    · rw [a2.1 s]
    · rw [a2.2 (by omega)]; constructor
      · intro q
        have : (d ∣ -x.toInt) := Int.dvd_of_emod_eq_zero (by omega)
        exact Int.emod_eq_zero_of_dvd (Int.dvd_neg.mp this)
      · intro q
        have : (d ∣ x.toInt) := Int.dvd_of_emod_eq_zero q
        have := Int.emod_eq_zero_of_dvd (Int.dvd_neg.mpr this); omega
  have q2 : (0 < x) ↔ 0 < x.toInt := by rw [Int64.lt_iff_toInt_lt]; exact Iff.rfl
  unfold own_corr
  by_cases z : x % n = 0
  · rw [if_pos z, if_pos (q1.mp z)]; rfl
  · rw [if_neg z, if_neg (fun q => z (q1.mpr q))]
    by_cases y : 0 < x
    · rw [if_pos y, if_pos (q2.mp y)]; rfl
    · rw [if_neg y, if_neg (fun q => y (q2.mpr q))]; rfl
theorem own_last (x n j : Int64) (d : Int) (hn : n.toInt = d) (h1 : n ≠ -1) (hd : d = 3 ∨ d = 4) (hj : j.toInt = d - 1) : (x / n) * j + ((x % n) * j) / n = x - x / n - own_corr x n := by
  apply Int64.toInt_inj.mp
  rw [own_part x n j d (d - 1) hn hj h1 (by omega) (by omega) (by omega) (by omega)]
  have r := rng64 x
  have a1 := c_ldiv x n d hn h1
  have a2 := own_corrv x n d hn (by omega)
  have a3 := c_lsub x (x / n)
  have a4 := c_lsub (x - x / n) (own_corr x n)
  have r3 := rng64 (x - x / n); have r4 := rng64 (x - x / n - own_corr x n); have r5 := rng64 (own_corr x n); have r6 := rng64 (x / n)
  by_cases s : 0 ≤ x.toInt
  · rw [if_pos s]
    exact own_lzp d x.toInt _ _ _ _ hd ⟨by omega, by omega⟩ ⟨by omega, by omega⟩ ⟨by omega, by omega⟩ a3 a4 a2 s (a1.1 s)
  · rw [if_neg s]
    exact own_lzn d x.toInt _ _ _ _ hd ⟨by omega, by omega⟩ ⟨by omega, by omega⟩ ⟨by omega, by omega⟩ a3 a4 a2 s (a1.2 (by omega))
theorem own_one (x n : Int64) (d : Int) (hn : n.toInt = d) (h1 : n ≠ -1) (hd : d = 2 ∨ d = 3 ∨ d = 4) : (x / n) * 1 + ((x % n) * 1) / n = x / n := by
  apply Int64.toInt_inj.mp
  rw [own_part x n 1 d 1 hn rfl h1 (by omega) (by omega) (by omega) (by omega)]
  have a1 := c_ldiv x n d hn h1
  by_cases s : 0 ≤ x.toInt
  · rw [if_pos s, a1.1 s]; rcases hd with rfl | rfl | rfl <;> omega
  · rw [if_neg s, a1.2 (by omega)]; rcases hd with rfl | rfl | rfl <;> omega
theorem own_half (x : Int64) : (x / 4) * 2 + ((x % 4) * 2) / 4 = x / 2 := by
  apply Int64.toInt_inj.mp
  rw [own_part x 4 2 4 2 rfl rfl (by decide) (by omega) (by omega) (by omega) (by omega)]
  have a1 := c_ldiv x 2 2 rfl (by decide)
  by_cases s : 0 ≤ x.toInt
  · rw [if_pos s, a1.1 s]; omega
  · rw [if_neg s, a1.2 (by omega)]; omega
theorem own_val (iv : Int64) (ct : Int32) (hct : ct = 1 ∨ ct = 2 ∨ ct = 3 ∨ ct = 4) (j : Int32) (h0 : 0 ≤ j.toInt) (hj : j.toInt < ct.toInt) : (iv / ct.toInt64) * j.toInt64 + ((iv % ct.toInt64) * j.toInt64) / ct.toInt64 = own_off iv ct j := by
  have cj : j = 0 ∨ j = 1 ∨ j = 2 ∨ j = 3 := by
    have e1 : (1 : Int32).toInt = 1 := rfl
    have e2 : (2 : Int32).toInt = 2 := rfl
    have e3 : (3 : Int32).toInt = 3 := rfl
    have e4 : (4 : Int32).toInt = 4 := rfl
    have e0 : (0 : Int32).toInt = 0 := rfl
    have : ct.toInt ≤ 4 := by rcases hct with rfl | rfl | rfl | rfl <;> decide
    simp only [← Int32.toInt_inj, e0, e1, e2, e3]; omega
  rcases cj with rfl | rfl | rfl | rfl
  · show _ * (0 : Int64) + (_ * (0 : Int64)) / _ = _
    rw [own_o1]; rfl
  · rcases hct with rfl | rfl | rfl | rfl
    · exact absurd hj (by decide)
    · exact own_one iv 2 2 rfl (by decide) (by decide)
    · exact own_one iv 3 3 rfl (by decide) (by decide)
    · exact own_one iv 4 4 rfl (by decide) (by decide)
  · rcases hct with rfl | rfl | rfl | rfl
    · exact absurd hj (by decide)
    · exact absurd hj (by decide)
    · exact own_last iv 3 2 3 rfl (by decide) (by decide) rfl
    · exact own_half iv
  · rcases hct with rfl | rfl | rfl | rfl
    · exact absurd hj (by decide)
    · exact absurd hj (by decide)
    · exact absurd hj (by decide)
    · exact own_last iv 4 3 4 rfl (by decide) (by decide) rfl
theorem own_kc (k : Nat) (hk : k ≤ 5) (ct : Int32) (hct : ct = 1 ∨ ct = 2 ∨ ct = 3 ∨ ct = 4) : own_nx ct k = Int32.ofNat k % ct ∧ own_rd ct k = (Int32.ofNat k / ct).toInt64 ∧ 0 ≤ (Int32.ofNat k % ct).toInt ∧ (Int32.ofNat k % ct).toInt < ct.toInt := by
  have ck : k = 0 ∨ k = 1 ∨ k = 2 ∨ k = 3 ∨ k = 4 ∨ k = 5 := by omega
  rcases ck with rfl | rfl | rfl | rfl | rfl | rfl <;> rcases hct with rfl | rfl | rfl | rfl <;> decide
theorem own_end (st iv : Int64) (ct : Int32) (hct : ct = 1 ∨ ct = 2 ∨ ct = 3 ∨ ct = 4) (k : Nat) (hk : k ≤ 5) : own_next st iv ct (own_nx ct k) (own_rd ct k) = (st + ((Int32.ofNat k / ct).toInt64 * iv)) + own_off iv ct (Int32.ofNat k % ct) := by
  obtain ⟨h1, h2, h3, h4⟩ := own_kc k hk ct hct
  rw [own_next, h1, h2, own_val iv ct hct _ h3 h4]
theorem ef_rm0 (m : MethodId) (x0 : Int64) (x1 : Int64) (x2 : Int32) (x3 : Int32) (x4 : Int32) : entryFrame m #[(.long x0), (.long x1), (.int x2), (.int x3), (.int x4)] maxLocals = mkF m 0 #[.val (.long x0), .second, .val (.long x1), .second, .val (.int x2), .val (.int x3), .val (.int x4), .unset, .unset, .unset, .unset, .unset, .unset, .unset, .unset, .unset] [] := by first | (simp [entryFrame, mkF, argsToLocals, Value.category, maxLocals]; done) | rfl
set_option maxRecDepth 65536 in
set_option maxHeartbeats 40000000 in
theorem rm0 (l : Launch) (Z : State) (a0 : Array Value) (hw : ∀ d ∈ tables_1, d.before a0 Z = true) (ws : List Jvm.Cond) (q0 : Int64) (q1 : Int64) (p2 : Int32) (p3 : Int32) (p4 : Int32) (h0 : Heap) (n0 : Nat) (Z0 : n0 ≤ h0.size) :
    Con l Z x code maxLocals ret ws room_1 #[(.long q0), (.long q1), (.int p2), (.int p3), (.int p4)] h0 (fun v h L => v = some (.int 1) ∧ Fr n0 L) := by
  refine Con.mk (plainFor_of_name pn1) ?_
  intro p e s m below meth c T0 hx hby hml hown hnm hret hlk hZ X0 e0
  have hret : meth.sig.returnType = some .boolean := hret
  have hml : c.maxLocals = 16 := hml
  have hown : s.vm.findClass "com/example/vigilant_coordinator/vigilantcoordinator/load/SpreadNextNanosPinLaw" = some m.cls := hown
  have hby : c.code = code := hby
  have N0 := Fr.nil n0
  refine Go.cast (ef_rm0 m q0 q1 p2 p3 p4) ?_
  refine Go.st (S' := T0.setTop (mkF m 1 #[.val (.long q0), .second, .val (.long q1), .second, .val (.int p2), .val (.int p3), .val (.int p4), .unset, .unset, .unset, .unset, .unset, .unset, .unset, .unset, .unset] [(.int (1 : Int32))])) (fun _ k_ => XS.iconst X0.here hx rfl (hb hby at_0) k_) ?_
  refine Go.st (S' := T0.setTop (mkF m 3 #[.val (.long q0), .second, .val (.long q1), .second, .val (.int p2), .val (.int p3), .val (.int p4), .unset, .unset, .unset, .unset, .unset, .unset, .unset, .unset, .unset] [(.int p2), (.int (1 : Int32))])) (fun _ k_ => XS.iload X0.here hx rfl (hb hby at_1) rfl k_) ?_
  refine Go.st (S' := T0.setTop (mkF m 4 #[.val (.long q0), .second, .val (.long q1), .second, .val (.int p2), .val (.int p3), .val (.int p4), .unset, .unset, .unset, .unset, .unset, .unset, .unset, .unset, .unset] [(.int (3 : Int32)), (.int p2), (.int (1 : Int32))])) (fun _ k_ => XS.iconst X0.here hx rfl (hb hby at_3) k_) ?_
  refine Go.st (S' := T0.setTop (mkF m 5 #[.val (.long q0), .second, .val (.long q1), .second, .val (.int p2), .val (.int p3), .val (.int p4), .unset, .unset, .unset, .unset, .unset, .unset, .unset, .unset, .unset] [(.int (p2 &&& (3 : Int32))), (.int (1 : Int32))])) (fun _ k_ => XS.iand X0.here hx rfl (hb hby at_4) rfl k_) ?_
  refine Go.st (S' := T0.setTop (mkF m 6 #[.val (.long q0), .second, .val (.long q1), .second, .val (.int p2), .val (.int p3), .val (.int p4), .unset, .unset, .unset, .unset, .unset, .unset, .unset, .unset, .unset] [(.int ((1 : Int32) + (p2 &&& (3 : Int32))))])) (fun _ k_ => XS.iadd X0.here hx rfl (hb hby at_5) rfl k_) ?_
  have hct := own_cnt p2
  obtain ⟨ct, q_ct⟩ : ∃ z : Int32, z = ((1 : Int32) + (p2 &&& (3 : Int32))) := ⟨_, rfl⟩
  rw [← q_ct]
  rw [← q_ct] at hct
  refine Go.st (S' := T0.setTop (mkF m 8 #[.val (.long q0), .second, .val (.long q1), .second, .val (.int p2), .val (.int p3), .val (.int p4), .val (.int ct), .unset, .unset, .unset, .unset, .unset, .unset, .unset, .unset] [])) (fun _ k_ => XS.istore X0.here hx rfl (hb hby at_6) rfl (l' := #[.val (.long q0), .second, .val (.long q1), .second, .val (.int p2), .val (.int p3), .val (.int p4), .val (.int ct), .unset, .unset, .unset, .unset, .unset, .unset, .unset, .unset]) rfl k_) ?_
  refine Go.st (S' := T0.setTop (mkF m 10 #[.val (.long q0), .second, .val (.long q1), .second, .val (.int p2), .val (.int p3), .val (.int p4), .val (.int ct), .unset, .unset, .unset, .unset, .unset, .unset, .unset, .unset] [(.int p4)])) (fun _ k_ => XS.iload X0.here hx rfl (hb hby at_8) rfl k_) ?_
  refine Go.st (S' := T0.setTop (mkF m 12 #[.val (.long q0), .second, .val (.long q1), .second, .val (.int p2), .val (.int p3), .val (.int p4), .val (.int ct), .unset, .unset, .unset, .unset, .unset, .unset, .unset, .unset] [(.int (2147483647 : Int32)), (.int p4)])) (X0.ldcInt hx hown (mvT hZ (w0 hw)) (g := (mkF m 10 #[.val (.long q0), .second, .val (.long q1), .second, .val (.int p2), .val (.int p3), .val (.int p4), .val (.int ct), .unset, .unset, .unset, .unset, .unset, .unset, .unset, .unset] [(.int p4)])) rfl (hb hby at_10)) ?_
  refine Go.st (S' := T0.setTop (mkF m 13 #[.val (.long q0), .second, .val (.long q1), .second, .val (.int p2), .val (.int p3), .val (.int p4), .val (.int ct), .unset, .unset, .unset, .unset, .unset, .unset, .unset, .unset] [(.int (p4 &&& (2147483647 : Int32)))])) (fun _ k_ => XS.iand X0.here hx rfl (hb hby at_12) rfl k_) ?_
  refine Go.st (S' := T0.setTop (mkF m 15 #[.val (.long q0), .second, .val (.long q1), .second, .val (.int p2), .val (.int p3), .val (.int p4), .val (.int ct), .unset, .unset, .unset, .unset, .unset, .unset, .unset, .unset] [(.int (6 : Int32)), (.int (p4 &&& (2147483647 : Int32)))])) (fun _ k_ => XS.bipush X0.here hx rfl (hb hby at_13) k_) ?_
  refine Go.st (S' := T0.setTop (mkF m 16 #[.val (.long q0), .second, .val (.long q1), .second, .val (.int p2), .val (.int p3), .val (.int p4), .val (.int ct), .unset, .unset, .unset, .unset, .unset, .unset, .unset, .unset] [(.int ((p4 &&& (2147483647 : Int32)) % (6 : Int32)))])) (fun _ k_ => iremM X0 hx rfl (hb hby at_15) rfl (by decide) k_) ?_
  have hk := own_k p4
  obtain ⟨kk, q_kk⟩ : ∃ z : Int32, z = ((p4 &&& (2147483647 : Int32)) % (6 : Int32)) := ⟨_, rfl⟩
  rw [← q_kk]
  rw [← q_kk] at hk
  refine Go.st (S' := T0.setTop (mkF m 18 #[.val (.long q0), .second, .val (.long q1), .second, .val (.int p2), .val (.int p3), .val (.int p4), .val (.int ct), .val (.int kk), .unset, .unset, .unset, .unset, .unset, .unset, .unset] [])) (fun _ k_ => XS.istore X0.here hx rfl (hb hby at_16) rfl (l' := #[.val (.long q0), .second, .val (.long q1), .second, .val (.int p2), .val (.int p3), .val (.int p4), .val (.int ct), .val (.int kk), .unset, .unset, .unset, .unset, .unset, .unset, .unset]) rfl k_) ?_
  obtain ⟨T11, h11, X11, e11, E11, A11, D11, -, st11⟩ := newO X0 hx hZ hown (w1 hw) (w2 hw) (w3 hw) e0 (g := (mkF m 18 #[.val (.long q0), .second, .val (.long q1), .second, .val (.int p2), .val (.int p3), .val (.int p4), .val (.int ct), .val (.int kk), .unset, .unset, .unset, .unset, .unset, .unset, .unset] [])) rfl (hb hby at_18) (by decide) (by decide)
  obtain ⟨b11, q11⟩ : ∃ z, z = h0.size := ⟨_, rfl⟩
  rw [← q11] at A11 D11 st11
  have g_b11 : n0 ≤ b11 := Nat.le_trans Z0 (Nat.le_of_eq q11.symm)
  replace Z0 := Nat.le_trans Z0 E11.1
  have E_b11 := A11
  have F_startNanos_b11 : Fld Z h11 b11 "com/example/vigilant_coordinator/vigilantcoordinator/load/Spread" "startNanos" "J" (.long (0 : Int64)) := D11 (Or.inr (w11 hw)) (ty := .long) (by decide)
  have F_intervalNanos_b11 : Fld Z h11 b11 "com/example/vigilant_coordinator/vigilantcoordinator/load/Spread" "intervalNanos" "J" (.long (0 : Int64)) := D11 (Or.inr (w13 hw)) (ty := .long) (by decide)
  have F_count_b11 : Fld Z h11 b11 "com/example/vigilant_coordinator/vigilantcoordinator/load/Spread" "count" "I" (.int (0 : Int32)) := D11 (Or.inr (w15 hw)) (ty := .int) (by decide)
  have F_first_b11 : Fld Z h11 b11 "com/example/vigilant_coordinator/vigilantcoordinator/load/Spread" "first" "I" (.int (0 : Int32)) := D11 (Or.inr (w17 hw)) (ty := .int) (by decide)
  have F_next_b11 : Fld Z h11 b11 "com/example/vigilant_coordinator/vigilantcoordinator/load/Spread" "next" "I" (.int (0 : Int32)) := D11 (Or.inl (w24 hw)) (ty := .int) (by decide)
  have F_round_b11 : Fld Z h11 b11 "com/example/vigilant_coordinator/vigilantcoordinator/load/Spread" "round" "J" (.long (0 : Int64)) := D11 (Or.inl (w26 hw)) (ty := .long) (by decide)
  refine Go.st (S' := T11.setTop (mkF m 21 #[.val (.long q0), .second, .val (.long q1), .second, .val (.int p2), .val (.int p3), .val (.int p4), .val (.int ct), .val (.int kk), .unset, .unset, .unset, .unset, .unset, .unset, .unset] [(.ref b11)])) (st11) ?_
  refine Go.st (S' := T11.setTop (mkF m 22 #[.val (.long q0), .second, .val (.long q1), .second, .val (.int p2), .val (.int p3), .val (.int p4), .val (.int ct), .val (.int kk), .unset, .unset, .unset, .unset, .unset, .unset, .unset] [(.ref b11), (.ref b11)])) (fun _ k_ => XS.dup X11.here hx rfl (hb hby at_21) rfl rfl k_) ?_
  refine Go.st (S' := T11.setTop (mkF m 23 #[.val (.long q0), .second, .val (.long q1), .second, .val (.int p2), .val (.int p3), .val (.int p4), .val (.int ct), .val (.int kk), .unset, .unset, .unset, .unset, .unset, .unset, .unset] [(.long q0), (.ref b11), (.ref b11)])) (fun _ k_ => XS.lloadN X11.here hx rfl (hb hby at_22) rfl k_) ?_
  refine Go.st (S' := T11.setTop (mkF m 24 #[.val (.long q0), .second, .val (.long q1), .second, .val (.int p2), .val (.int p3), .val (.int p4), .val (.int ct), .val (.int kk), .unset, .unset, .unset, .unset, .unset, .unset, .unset] [(.long q1), (.long q0), (.ref b11), (.ref b11)])) (fun _ k_ => XS.lloadN X11.here hx rfl (hb hby at_23) rfl k_) ?_
  refine Go.st (S' := T11.setTop (mkF m 26 #[.val (.long q0), .second, .val (.long q1), .second, .val (.int p2), .val (.int p3), .val (.int p4), .val (.int ct), .val (.int kk), .unset, .unset, .unset, .unset, .unset, .unset, .unset] [(.int ct), (.long q1), (.long q0), (.ref b11), (.ref b11)])) (fun _ k_ => XS.iload X11.here hx rfl (hb hby at_24) rfl k_) ?_
  refine Go.st (S' := T11.setTop (mkF m 28 #[.val (.long q0), .second, .val (.long q1), .second, .val (.int p2), .val (.int p3), .val (.int p4), .val (.int ct), .val (.int kk), .unset, .unset, .unset, .unset, .unset, .unset, .unset] [(.int p3), (.int ct), (.long q1), (.long q0), (.ref b11), (.ref b11)])) (fun _ k_ => XS.iload X11.here hx rfl (hb hby at_26) rfl k_) ?_
  obtain ⟨v12, T12, h12, L12, X12, e12, hQ12, st12⟩ := callIn X11 hx hZ rfl hown (w4 hw) (w5 hw) (w3 hw) (w6 hw) (by decide) (W := 1) (argsL := [(.long q0), (.long q1), (.int ct), (.int p3)]) (rest := [(.ref b11)]) e11 (sp_init l Z a0 hw b11 q0 q1 ct p3 h11 n0 Z0 E_b11 F_startNanos_b11 F_intervalNanos_b11 F_count_b11 F_first_b11 F_next_b11 F_round_b11 g_b11) (by decide) (by decide) pd1 rfl (g := (mkF m 28 #[.val (.long q0), .second, .val (.long q1), .second, .val (.int p2), .val (.int p3), .val (.int p4), .val (.int ct), .val (.int kk), .unset, .unset, .unset, .unset, .unset, .unset, .unset] [(.int p3), (.int ct), (.long q1), (.long q0), (.ref b11), (.ref b11)])) rfl (by rw [hml]; rfl) rfl (by show 2 * 0 + _ ≤ _; exact Nat.le_of_eq rfl) (hb hby at_28) (by decide) (by decide)
  obtain ⟨rfl, Nq12, Kq12, SP_b11⟩ := hQ12
  have N12 := Fr.app N0 Nq12
  replace Z0 := Nat.le_trans Z0 Kq12.1
  have SP_b11 : SP Z h12 b11 q0 q1 ct p3 (own_nx ct 0) (own_rd ct 0) := SP_b11
  refine Go.st (S' := T12.setTop (mkF m 31 #[.val (.long q0), .second, .val (.long q1), .second, .val (.int p2), .val (.int p3), .val (.int p4), .val (.int ct), .val (.int kk), .unset, .unset, .unset, .unset, .unset, .unset, .unset] [(.ref b11)])) (st12) ?_
  refine Go.st (S' := T12.setTop (mkF m 33 #[.val (.long q0), .second, .val (.long q1), .second, .val (.int p2), .val (.int p3), .val (.int p4), .val (.int ct), .val (.int kk), .val (.ref b11), .unset, .unset, .unset, .unset, .unset, .unset] [])) (fun _ k_ => XS.astore X12.here hx rfl (hb hby at_31) rfl rfl (l' := #[.val (.long q0), .second, .val (.long q1), .second, .val (.int p2), .val (.int p3), .val (.int p4), .val (.int ct), .val (.int kk), .val (.ref b11), .unset, .unset, .unset, .unset, .unset, .unset]) rfl k_) ?_
  rcases hk with rfl | rfl | rfl | rfl | rfl | rfl
  · skip
    refine Go.st (S' := T12.setTop (mkF m 35 #[.val (.long q0), .second, .val (.long q1), .second, .val (.int p2), .val (.int p3), .val (.int p4), .val (.int ct), .val (.int (0 : Int32)), .val (.ref b11), .unset, .unset, .unset, .unset, .unset, .unset] [(.int (0 : Int32))])) (fun _ k_ => XS.iload X12.here hx rfl (hb hby at_33) rfl k_) ?_
    refine Go.st (S' := T12.setTop (mkF m 44 #[.val (.long q0), .second, .val (.long q1), .second, .val (.int p2), .val (.int p3), .val (.int p4), .val (.int ct), .val (.int (0 : Int32)), .val (.ref b11), .unset, .unset, .unset, .unset, .unset, .unset] [])) (fun _ k_ => XS.ifYes X12.here hx rfl (pc0 := 35) (pc' := 44) rfl (hb hby at_35) rfl ((if0 _ _).trans (flt (by decide)).2.2.2) (by decide) (by decide) k_) ?_
    refine Go.st (S' := T12.setTop (mkF m 46 #[.val (.long q0), .second, .val (.long q1), .second, .val (.int p2), .val (.int p3), .val (.int p4), .val (.int ct), .val (.int (0 : Int32)), .val (.ref b11), .unset, .unset, .unset, .unset, .unset, .unset] [(.int (0 : Int32))])) (fun _ k_ => XS.iload X12.here hx rfl (hb hby at_44) rfl k_) ?_
    refine Go.st (S' := T12.setTop (mkF m 47 #[.val (.long q0), .second, .val (.long q1), .second, .val (.int p2), .val (.int p3), .val (.int p4), .val (.int ct), .val (.int (0 : Int32)), .val (.ref b11), .unset, .unset, .unset, .unset, .unset, .unset] [(.int (1 : Int32)), (.int (0 : Int32))])) (fun _ k_ => XS.iconst X12.here hx rfl (hb hby at_46) k_) ?_
    refine Go.st (S' := T12.setTop (mkF m 56 #[.val (.long q0), .second, .val (.long q1), .second, .val (.int p2), .val (.int p3), .val (.int p4), .val (.int ct), .val (.int (0 : Int32)), .val (.ref b11), .unset, .unset, .unset, .unset, .unset, .unset] [])) (fun _ k_ => XS.icmpYes X12.here hx rfl (pc0 := 47) (pc' := 56) rfl (hb hby at_47) rfl (flt (by decide)).2.2.2 (by decide) (by decide) k_) ?_
    refine Go.st (S' := T12.setTop (mkF m 58 #[.val (.long q0), .second, .val (.long q1), .second, .val (.int p2), .val (.int p3), .val (.int p4), .val (.int ct), .val (.int (0 : Int32)), .val (.ref b11), .unset, .unset, .unset, .unset, .unset, .unset] [(.int (0 : Int32))])) (fun _ k_ => XS.iload X12.here hx rfl (hb hby at_56) rfl k_) ?_
    refine Go.st (S' := T12.setTop (mkF m 59 #[.val (.long q0), .second, .val (.long q1), .second, .val (.int p2), .val (.int p3), .val (.int p4), .val (.int ct), .val (.int (0 : Int32)), .val (.ref b11), .unset, .unset, .unset, .unset, .unset, .unset] [(.int (2 : Int32)), (.int (0 : Int32))])) (fun _ k_ => XS.iconst X12.here hx rfl (hb hby at_58) k_) ?_
    refine Go.st (S' := T12.setTop (mkF m 68 #[.val (.long q0), .second, .val (.long q1), .second, .val (.int p2), .val (.int p3), .val (.int p4), .val (.int ct), .val (.int (0 : Int32)), .val (.ref b11), .unset, .unset, .unset, .unset, .unset, .unset] [])) (fun _ k_ => XS.icmpYes X12.here hx rfl (pc0 := 59) (pc' := 68) rfl (hb hby at_59) rfl (flt (by decide)).2.2.2 (by decide) (by decide) k_) ?_
    refine Go.st (S' := T12.setTop (mkF m 70 #[.val (.long q0), .second, .val (.long q1), .second, .val (.int p2), .val (.int p3), .val (.int p4), .val (.int ct), .val (.int (0 : Int32)), .val (.ref b11), .unset, .unset, .unset, .unset, .unset, .unset] [(.int (0 : Int32))])) (fun _ k_ => XS.iload X12.here hx rfl (hb hby at_68) rfl k_) ?_
    refine Go.st (S' := T12.setTop (mkF m 71 #[.val (.long q0), .second, .val (.long q1), .second, .val (.int p2), .val (.int p3), .val (.int p4), .val (.int ct), .val (.int (0 : Int32)), .val (.ref b11), .unset, .unset, .unset, .unset, .unset, .unset] [(.int (3 : Int32)), (.int (0 : Int32))])) (fun _ k_ => XS.iconst X12.here hx rfl (hb hby at_70) k_) ?_
    refine Go.st (S' := T12.setTop (mkF m 80 #[.val (.long q0), .second, .val (.long q1), .second, .val (.int p2), .val (.int p3), .val (.int p4), .val (.int ct), .val (.int (0 : Int32)), .val (.ref b11), .unset, .unset, .unset, .unset, .unset, .unset] [])) (fun _ k_ => XS.icmpYes X12.here hx rfl (pc0 := 71) (pc' := 80) rfl (hb hby at_71) rfl (flt (by decide)).2.2.2 (by decide) (by decide) k_) ?_
    refine Go.st (S' := T12.setTop (mkF m 82 #[.val (.long q0), .second, .val (.long q1), .second, .val (.int p2), .val (.int p3), .val (.int p4), .val (.int ct), .val (.int (0 : Int32)), .val (.ref b11), .unset, .unset, .unset, .unset, .unset, .unset] [(.int (0 : Int32))])) (fun _ k_ => XS.iload X12.here hx rfl (hb hby at_80) rfl k_) ?_
    refine Go.st (S' := T12.setTop (mkF m 83 #[.val (.long q0), .second, .val (.long q1), .second, .val (.int p2), .val (.int p3), .val (.int p4), .val (.int ct), .val (.int (0 : Int32)), .val (.ref b11), .unset, .unset, .unset, .unset, .unset, .unset] [(.int (4 : Int32)), (.int (0 : Int32))])) (fun _ k_ => XS.iconst X12.here hx rfl (hb hby at_82) k_) ?_
    refine Go.st (S' := T12.setTop (mkF m 92 #[.val (.long q0), .second, .val (.long q1), .second, .val (.int p2), .val (.int p3), .val (.int p4), .val (.int ct), .val (.int (0 : Int32)), .val (.ref b11), .unset, .unset, .unset, .unset, .unset, .unset] [])) (fun _ k_ => XS.icmpYes X12.here hx rfl (pc0 := 83) (pc' := 92) rfl (hb hby at_83) rfl (flt (by decide)).2.2.2 (by decide) (by decide) k_) ?_
    refine Go.st (S' := T12.setTop (mkF m 94 #[.val (.long q0), .second, .val (.long q1), .second, .val (.int p2), .val (.int p3), .val (.int p4), .val (.int ct), .val (.int (0 : Int32)), .val (.ref b11), .unset, .unset, .unset, .unset, .unset, .unset] [(.ref b11)])) (fun _ k_ => XS.aload X12.here hx rfl (hb hby at_92) rfl rfl k_) ?_
    obtain ⟨v13, T13, h13, L13, X13, e13, hQ13, st13⟩ := callVi X12 hx hZ hown (w18 hw) (w19 hw) (w21 hw) (w20 hw) (w3 hw) (w22 hw) (by decide) (W := 0) (argsL := []) (rest := []) e12 SP_b11.1 (sp_next l Z a0 hw b11 q0 q1 ct p3 (own_nx ct 0) (own_rd ct 0) h12 n0 Z0 SP_b11 (own_ct0 hct)) (by decide) (by decide) pd2 rfl (g := (mkF m 94 #[.val (.long q0), .second, .val (.long q1), .second, .val (.int p2), .val (.int p3), .val (.int p4), .val (.int ct), .val (.int (0 : Int32)), .val (.ref b11), .unset, .unset, .unset, .unset, .unset, .unset] [(.ref b11)])) rfl (by rw [hml]; rfl) rfl (by show 2 * 0 + _ ≤ _; exact Nat.le_of_eq rfl) (hb hby at_94) (by decide) (by decide)
    obtain ⟨rfl, Nq13, hh13⟩ := hQ13
    rw [hh13] at e13
    have N13 := Fr.app N12 Nq13
    refine Go.st (S' := T13.setTop (mkF m 97 #[.val (.long q0), .second, .val (.long q1), .second, .val (.int p2), .val (.int p3), .val (.int p4), .val (.int ct), .val (.int (0 : Int32)), .val (.ref b11), .unset, .unset, .unset, .unset, .unset, .unset] [(.long (own_next q0 q1 ct (own_nx ct 0) (own_rd ct 0)))])) (st13) ?_
    refine Go.st (S' := T13.setTop (mkF m 99 #[.val (.long q0), .second, .val (.long q1), .second, .val (.int p2), .val (.int p3), .val (.int p4), .val (.int ct), .val (.int (0 : Int32)), .val (.ref b11), .val (.long (own_next q0 q1 ct (own_nx ct 0) (own_rd ct 0))), .second, .unset, .unset, .unset, .unset] [])) (fun _ k_ => XS.lstore X13.here hx rfl (hb hby at_97) rfl (l' := #[.val (.long q0), .second, .val (.long q1), .second, .val (.int p2), .val (.int p3), .val (.int p4), .val (.int ct), .val (.int (0 : Int32)), .val (.ref b11), .val (.long (own_next q0 q1 ct (own_nx ct 0) (own_rd ct 0))), .second, .unset, .unset, .unset, .unset]) rfl k_) ?_
    refine Go.st (S' := T13.setTop (mkF m 101 #[.val (.long q0), .second, .val (.long q1), .second, .val (.int p2), .val (.int p3), .val (.int p4), .val (.int ct), .val (.int (0 : Int32)), .val (.ref b11), .val (.long (own_next q0 q1 ct (own_nx ct 0) (own_rd ct 0))), .second, .unset, .unset, .unset, .unset] [(.int (0 : Int32))])) (fun _ k_ => XS.iload X13.here hx rfl (hb hby at_99) rfl k_) ?_
    refine Go.st (S' := T13.setTop (mkF m 103 #[.val (.long q0), .second, .val (.long q1), .second, .val (.int p2), .val (.int p3), .val (.int p4), .val (.int ct), .val (.int (0 : Int32)), .val (.ref b11), .val (.long (own_next q0 q1 ct (own_nx ct 0) (own_rd ct 0))), .second, .unset, .unset, .unset, .unset] [(.int ct), (.int (0 : Int32))])) (fun _ k_ => XS.iload X13.here hx rfl (hb hby at_101) rfl k_) ?_
    refine Go.st (S' := T13.setTop (mkF m 104 #[.val (.long q0), .second, .val (.long q1), .second, .val (.int p2), .val (.int p3), .val (.int p4), .val (.int ct), .val (.int (0 : Int32)), .val (.ref b11), .val (.long (own_next q0 q1 ct (own_nx ct 0) (own_rd ct 0))), .second, .unset, .unset, .unset, .unset] [(.int ((0 : Int32) / ct))])) (fun _ k_ => XS.idiv X13.here hx rfl (hb hby at_103) rfl (own_ct0 hct) k_) ?_
    refine Go.st (S' := T13.setTop (mkF m 106 #[.val (.long q0), .second, .val (.long q1), .second, .val (.int p2), .val (.int p3), .val (.int p4), .val (.int ct), .val (.int (0 : Int32)), .val (.ref b11), .val (.long (own_next q0 q1 ct (own_nx ct 0) (own_rd ct 0))), .second, .val (.int ((0 : Int32) / ct)), .unset, .unset, .unset] [])) (fun _ k_ => XS.istore X13.here hx rfl (hb hby at_104) rfl (l' := #[.val (.long q0), .second, .val (.long q1), .second, .val (.int p2), .val (.int p3), .val (.int p4), .val (.int ct), .val (.int (0 : Int32)), .val (.ref b11), .val (.long (own_next q0 q1 ct (own_nx ct 0) (own_rd ct 0))), .second, .val (.int ((0 : Int32) / ct)), .unset, .unset, .unset]) rfl k_) ?_
    refine Go.st (S' := T13.setTop (mkF m 108 #[.val (.long q0), .second, .val (.long q1), .second, .val (.int p2), .val (.int p3), .val (.int p4), .val (.int ct), .val (.int (0 : Int32)), .val (.ref b11), .val (.long (own_next q0 q1 ct (own_nx ct 0) (own_rd ct 0))), .second, .val (.int ((0 : Int32) / ct)), .unset, .unset, .unset] [(.int (0 : Int32))])) (fun _ k_ => XS.iload X13.here hx rfl (hb hby at_106) rfl k_) ?_
    refine Go.st (S' := T13.setTop (mkF m 110 #[.val (.long q0), .second, .val (.long q1), .second, .val (.int p2), .val (.int p3), .val (.int p4), .val (.int ct), .val (.int (0 : Int32)), .val (.ref b11), .val (.long (own_next q0 q1 ct (own_nx ct 0) (own_rd ct 0))), .second, .val (.int ((0 : Int32) / ct)), .unset, .unset, .unset] [(.int ct), (.int (0 : Int32))])) (fun _ k_ => XS.iload X13.here hx rfl (hb hby at_108) rfl k_) ?_
    refine Go.st (S' := T13.setTop (mkF m 111 #[.val (.long q0), .second, .val (.long q1), .second, .val (.int p2), .val (.int p3), .val (.int p4), .val (.int ct), .val (.int (0 : Int32)), .val (.ref b11), .val (.long (own_next q0 q1 ct (own_nx ct 0) (own_rd ct 0))), .second, .val (.int ((0 : Int32) / ct)), .unset, .unset, .unset] [(.int ((0 : Int32) % ct))])) (fun _ k_ => iremM X13 hx rfl (hb hby at_110) rfl (own_ct0 hct) k_) ?_
    refine Go.st (S' := T13.setTop (mkF m 113 #[.val (.long q0), .second, .val (.long q1), .second, .val (.int p2), .val (.int p3), .val (.int p4), .val (.int ct), .val (.int (0 : Int32)), .val (.ref b11), .val (.long (own_next q0 q1 ct (own_nx ct 0) (own_rd ct 0))), .second, .val (.int ((0 : Int32) / ct)), .val (.int ((0 : Int32) % ct)), .unset, .unset] [])) (fun _ k_ => XS.istore X13.here hx rfl (hb hby at_111) rfl (l' := #[.val (.long q0), .second, .val (.long q1), .second, .val (.int p2), .val (.int p3), .val (.int p4), .val (.int ct), .val (.int (0 : Int32)), .val (.ref b11), .val (.long (own_next q0 q1 ct (own_nx ct 0) (own_rd ct 0))), .second, .val (.int ((0 : Int32) / ct)), .val (.int ((0 : Int32) % ct)), .unset, .unset]) rfl k_) ?_
    refine Go.st (S' := T13.setTop (mkF m 114 #[.val (.long q0), .second, .val (.long q1), .second, .val (.int p2), .val (.int p3), .val (.int p4), .val (.int ct), .val (.int (0 : Int32)), .val (.ref b11), .val (.long (own_next q0 q1 ct (own_nx ct 0) (own_rd ct 0))), .second, .val (.int ((0 : Int32) / ct)), .val (.int ((0 : Int32) % ct)), .unset, .unset] [(.long q0)])) (fun _ k_ => XS.lloadN X13.here hx rfl (hb hby at_113) rfl k_) ?_
    refine Go.st (S' := T13.setTop (mkF m 116 #[.val (.long q0), .second, .val (.long q1), .second, .val (.int p2), .val (.int p3), .val (.int p4), .val (.int ct), .val (.int (0 : Int32)), .val (.ref b11), .val (.long (own_next q0 q1 ct (own_nx ct 0) (own_rd ct 0))), .second, .val (.int ((0 : Int32) / ct)), .val (.int ((0 : Int32) % ct)), .unset, .unset] [(.int ((0 : Int32) / ct)), (.long q0)])) (fun _ k_ => XS.iload X13.here hx rfl (hb hby at_114) rfl k_) ?_
    refine Go.st (S' := T13.setTop (mkF m 117 #[.val (.long q0), .second, .val (.long q1), .second, .val (.int p2), .val (.int p3), .val (.int p4), .val (.int ct), .val (.int (0 : Int32)), .val (.ref b11), .val (.long (own_next q0 q1 ct (own_nx ct 0) (own_rd ct 0))), .second, .val (.int ((0 : Int32) / ct)), .val (.int ((0 : Int32) % ct)), .unset, .unset] [(.long (((0 : Int32) / ct).toInt64)), (.long q0)])) (fun _ k_ => XS.i2l X13.here hx rfl (hb hby at_116) rfl k_) ?_
    refine Go.st (S' := T13.setTop (mkF m 118 #[.val (.long q0), .second, .val (.long q1), .second, .val (.int p2), .val (.int p3), .val (.int p4), .val (.int ct), .val (.int (0 : Int32)), .val (.ref b11), .val (.long (own_next q0 q1 ct (own_nx ct 0) (own_rd ct 0))), .second, .val (.int ((0 : Int32) / ct)), .val (.int ((0 : Int32) % ct)), .unset, .unset] [(.long q1), (.long (((0 : Int32) / ct).toInt64)), (.long q0)])) (fun _ k_ => XS.lloadN X13.here hx rfl (hb hby at_117) rfl k_) ?_
    refine Go.st (S' := T13.setTop (mkF m 119 #[.val (.long q0), .second, .val (.long q1), .second, .val (.int p2), .val (.int p3), .val (.int p4), .val (.int ct), .val (.int (0 : Int32)), .val (.ref b11), .val (.long (own_next q0 q1 ct (own_nx ct 0) (own_rd ct 0))), .second, .val (.int ((0 : Int32) / ct)), .val (.int ((0 : Int32) % ct)), .unset, .unset] [(.long ((((0 : Int32) / ct).toInt64) * q1)), (.long q0)])) (fun _ k_ => XS.lmul X13.here hx rfl (hb hby at_118) rfl k_) ?_
    refine Go.st (S' := T13.setTop (mkF m 120 #[.val (.long q0), .second, .val (.long q1), .second, .val (.int p2), .val (.int p3), .val (.int p4), .val (.int ct), .val (.int (0 : Int32)), .val (.ref b11), .val (.long (own_next q0 q1 ct (own_nx ct 0) (own_rd ct 0))), .second, .val (.int ((0 : Int32) / ct)), .val (.int ((0 : Int32) % ct)), .unset, .unset] [(.long (q0 + ((((0 : Int32) / ct).toInt64) * q1)))])) (fun _ k_ => XS.ladd X13.here hx rfl (hb hby at_119) rfl k_) ?_
    refine Go.st (S' := T13.setTop (mkF m 121 #[.val (.long q0), .second, .val (.long q1), .second, .val (.int p2), .val (.int p3), .val (.int p4), .val (.int ct), .val (.int (0 : Int32)), .val (.ref b11), .val (.long (own_next q0 q1 ct (own_nx ct 0) (own_rd ct 0))), .second, .val (.int ((0 : Int32) / ct)), .val (.int ((0 : Int32) % ct)), .unset, .unset] [(.long q1), (.long (q0 + ((((0 : Int32) / ct).toInt64) * q1)))])) (fun _ k_ => XS.lloadN X13.here hx rfl (hb hby at_120) rfl k_) ?_
    refine Go.st (S' := T13.setTop (mkF m 123 #[.val (.long q0), .second, .val (.long q1), .second, .val (.int p2), .val (.int p3), .val (.int p4), .val (.int ct), .val (.int (0 : Int32)), .val (.ref b11), .val (.long (own_next q0 q1 ct (own_nx ct 0) (own_rd ct 0))), .second, .val (.int ((0 : Int32) / ct)), .val (.int ((0 : Int32) % ct)), .unset, .unset] [(.int ct), (.long q1), (.long (q0 + ((((0 : Int32) / ct).toInt64) * q1)))])) (fun _ k_ => XS.iload X13.here hx rfl (hb hby at_121) rfl k_) ?_
    refine Go.st (S' := T13.setTop (mkF m 125 #[.val (.long q0), .second, .val (.long q1), .second, .val (.int p2), .val (.int p3), .val (.int p4), .val (.int ct), .val (.int (0 : Int32)), .val (.ref b11), .val (.long (own_next q0 q1 ct (own_nx ct 0) (own_rd ct 0))), .second, .val (.int ((0 : Int32) / ct)), .val (.int ((0 : Int32) % ct)), .unset, .unset] [(.int ((0 : Int32) % ct)), (.int ct), (.long q1), (.long (q0 + ((((0 : Int32) / ct).toInt64) * q1)))])) (fun _ k_ => XS.iload X13.here hx rfl (hb hby at_123) rfl k_) ?_
    obtain ⟨v14, T14, h14, L14, X14, e14, hQ14, st14⟩ := callSt X13 hx hZ hown (w27 hw) (w28 hw) (w29 hw) (w30 hw) (by decide) (W := 2) (argsL := [(.long q1), (.int ct), (.int ((0 : Int32) % ct))]) (rest := [(.long (q0 + ((((0 : Int32) / ct).toInt64) * q1)))]) e13 (rm_off l Z a0 hw q1 ct ((0 : Int32) % ct) h12 n0 Z0) (by decide) (by decide) pd3 rfl (g := (mkF m 125 #[.val (.long q0), .second, .val (.long q1), .second, .val (.int p2), .val (.int p3), .val (.int p4), .val (.int ct), .val (.int (0 : Int32)), .val (.ref b11), .val (.long (own_next q0 q1 ct (own_nx ct 0) (own_rd ct 0))), .second, .val (.int ((0 : Int32) / ct)), .val (.int ((0 : Int32) % ct)), .unset, .unset] [(.int ((0 : Int32) % ct)), (.int ct), (.long q1), (.long (q0 + ((((0 : Int32) / ct).toInt64) * q1)))])) rfl (by rw [hml]; rfl) rfl (by show 2 * 0 + _ ≤ _; exact Nat.le_of_eq rfl) (hb hby at_125) (by decide) (by decide)
    obtain ⟨rfl, Nq14, hh14⟩ := hQ14
    rw [hh14] at e14
    have N14 := Fr.app N13 Nq14
    refine Go.st (S' := T14.setTop (mkF m 128 #[.val (.long q0), .second, .val (.long q1), .second, .val (.int p2), .val (.int p3), .val (.int p4), .val (.int ct), .val (.int (0 : Int32)), .val (.ref b11), .val (.long (own_next q0 q1 ct (own_nx ct 0) (own_rd ct 0))), .second, .val (.int ((0 : Int32) / ct)), .val (.int ((0 : Int32) % ct)), .unset, .unset] [(.long (own_off q1 ct ((0 : Int32) % ct))), (.long (q0 + ((((0 : Int32) / ct).toInt64) * q1)))])) (st14) ?_
    refine Go.st (S' := T14.setTop (mkF m 129 #[.val (.long q0), .second, .val (.long q1), .second, .val (.int p2), .val (.int p3), .val (.int p4), .val (.int ct), .val (.int (0 : Int32)), .val (.ref b11), .val (.long (own_next q0 q1 ct (own_nx ct 0) (own_rd ct 0))), .second, .val (.int ((0 : Int32) / ct)), .val (.int ((0 : Int32) % ct)), .unset, .unset] [(.long ((q0 + ((((0 : Int32) / ct).toInt64) * q1)) + (own_off q1 ct ((0 : Int32) % ct))))])) (fun _ k_ => XS.ladd X14.here hx rfl (hb hby at_128) rfl k_) ?_
    refine Go.st (S' := T14.setTop (mkF m 131 #[.val (.long q0), .second, .val (.long q1), .second, .val (.int p2), .val (.int p3), .val (.int p4), .val (.int ct), .val (.int (0 : Int32)), .val (.ref b11), .val (.long (own_next q0 q1 ct (own_nx ct 0) (own_rd ct 0))), .second, .val (.int ((0 : Int32) / ct)), .val (.int ((0 : Int32) % ct)), .val (.long ((q0 + ((((0 : Int32) / ct).toInt64) * q1)) + (own_off q1 ct ((0 : Int32) % ct)))), .second] [])) (fun _ k_ => XS.lstore X14.here hx rfl (hb hby at_129) rfl (l' := #[.val (.long q0), .second, .val (.long q1), .second, .val (.int p2), .val (.int p3), .val (.int p4), .val (.int ct), .val (.int (0 : Int32)), .val (.ref b11), .val (.long (own_next q0 q1 ct (own_nx ct 0) (own_rd ct 0))), .second, .val (.int ((0 : Int32) / ct)), .val (.int ((0 : Int32) % ct)), .val (.long ((q0 + ((((0 : Int32) / ct).toInt64) * q1)) + (own_off q1 ct ((0 : Int32) % ct)))), .second]) rfl k_) ?_
    refine Go.st (S' := T14.setTop (mkF m 133 #[.val (.long q0), .second, .val (.long q1), .second, .val (.int p2), .val (.int p3), .val (.int p4), .val (.int ct), .val (.int (0 : Int32)), .val (.ref b11), .val (.long (own_next q0 q1 ct (own_nx ct 0) (own_rd ct 0))), .second, .val (.int ((0 : Int32) / ct)), .val (.int ((0 : Int32) % ct)), .val (.long ((q0 + ((((0 : Int32) / ct).toInt64) * q1)) + (own_off q1 ct ((0 : Int32) % ct)))), .second] [(.long (own_next q0 q1 ct (own_nx ct 0) (own_rd ct 0)))])) (fun _ k_ => XS.lload X14.here hx rfl (hb hby at_131) rfl k_) ?_
    refine Go.st (S' := T14.setTop (mkF m 135 #[.val (.long q0), .second, .val (.long q1), .second, .val (.int p2), .val (.int p3), .val (.int p4), .val (.int ct), .val (.int (0 : Int32)), .val (.ref b11), .val (.long (own_next q0 q1 ct (own_nx ct 0) (own_rd ct 0))), .second, .val (.int ((0 : Int32) / ct)), .val (.int ((0 : Int32) % ct)), .val (.long ((q0 + ((((0 : Int32) / ct).toInt64) * q1)) + (own_off q1 ct ((0 : Int32) % ct)))), .second] [(.long ((q0 + ((((0 : Int32) / ct).toInt64) * q1)) + (own_off q1 ct ((0 : Int32) % ct)))), (.long (own_next q0 q1 ct (own_nx ct 0) (own_rd ct 0)))])) (fun _ k_ => XS.lload X14.here hx rfl (hb hby at_133) rfl k_) ?_
    refine Go.st (S' := T14.setTop (mkF m 136 #[.val (.long q0), .second, .val (.long q1), .second, .val (.int p2), .val (.int p3), .val (.int p4), .val (.int ct), .val (.int (0 : Int32)), .val (.ref b11), .val (.long (own_next q0 q1 ct (own_nx ct 0) (own_rd ct 0))), .second, .val (.int ((0 : Int32) / ct)), .val (.int ((0 : Int32) % ct)), .val (.long ((q0 + ((((0 : Int32) / ct).toInt64) * q1)) + (own_off q1 ct ((0 : Int32) % ct)))), .second] [(.int (lcmpW (own_next q0 q1 ct (own_nx ct 0) (own_rd ct 0)) ((q0 + ((((0 : Int32) / ct).toInt64) * q1)) + (own_off q1 ct ((0 : Int32) % ct)))))])) (fun _ k_ => XS.lcmp X14.here hx rfl (hb hby at_135) rfl k_) ?_
    refine Go.st (S' := T14.setTop (mkF m 139 #[.val (.long q0), .second, .val (.long q1), .second, .val (.int p2), .val (.int p3), .val (.int p4), .val (.int ct), .val (.int (0 : Int32)), .val (.ref b11), .val (.long (own_next q0 q1 ct (own_nx ct 0) (own_rd ct 0))), .second, .val (.int ((0 : Int32) / ct)), .val (.int ((0 : Int32) % ct)), .val (.long ((q0 + ((((0 : Int32) / ct).toInt64) * q1)) + (own_off q1 ct ((0 : Int32) % ct)))), .second] [])) (fun _ k_ => XS.ifNo X14.here hx rfl (hb hby at_136) rfl ((if0 _ _).trans (teq ((lw_eq _ _).mpr (own_end q0 q1 ct hct 0 (by decide)))).2) k_) ?_
    refine Go.st (S' := T14.setTop (mkF m 140 #[.val (.long q0), .second, .val (.long q1), .second, .val (.int p2), .val (.int p3), .val (.int p4), .val (.int ct), .val (.int (0 : Int32)), .val (.ref b11), .val (.long (own_next q0 q1 ct (own_nx ct 0) (own_rd ct 0))), .second, .val (.int ((0 : Int32) / ct)), .val (.int ((0 : Int32) % ct)), .val (.long ((q0 + ((((0 : Int32) / ct).toInt64) * q1)) + (own_off q1 ct ((0 : Int32) % ct)))), .second] [(.int (1 : Int32))])) (fun _ k_ => XS.iconst X14.here hx rfl (hb hby at_139) k_) ?_
    refine Go.st (S' := T14.setTop (mkF m 144 #[.val (.long q0), .second, .val (.long q1), .second, .val (.int p2), .val (.int p3), .val (.int p4), .val (.int ct), .val (.int (0 : Int32)), .val (.ref b11), .val (.long (own_next q0 q1 ct (own_nx ct 0) (own_rd ct 0))), .second, .val (.int ((0 : Int32) / ct)), .val (.int ((0 : Int32) % ct)), .val (.long ((q0 + ((((0 : Int32) / ct).toInt64) * q1)) + (own_off q1 ct ((0 : Int32) % ct)))), .second] [(.int (1 : Int32))])) (fun _ k_ => XS.goto X14.here hx rfl (pc0 := 140) (pc' := 144) rfl (hb hby at_140) (by decide) (by decide) k_) ?_
    exact Go.retN X14 hx (t := .boolean) hret (by simp) hlk (hb hby at_144) (by decide) (by decide) ⟨rfl, N14⟩
  · skip
    refine Go.st (S' := T12.setTop (mkF m 35 #[.val (.long q0), .second, .val (.long q1), .second, .val (.int p2), .val (.int p3), .val (.int p4), .val (.int ct), .val (.int (1 : Int32)), .val (.ref b11), .unset, .unset, .unset, .unset, .unset, .unset] [(.int (1 : Int32))])) (fun _ k_ => XS.iload X12.here hx rfl (hb hby at_33) rfl k_) ?_
    refine Go.st (S' := T12.setTop (mkF m 38 #[.val (.long q0), .second, .val (.long q1), .second, .val (.int p2), .val (.int p3), .val (.int p4), .val (.int ct), .val (.int (1 : Int32)), .val (.ref b11), .unset, .unset, .unset, .unset, .unset, .unset] [])) (fun _ k_ => XS.ifNo X12.here hx rfl (hb hby at_35) rfl ((if0 _ _).trans (tlt (by decide)).2.2.2) k_) ?_
    refine Go.st (S' := T12.setTop (mkF m 40 #[.val (.long q0), .second, .val (.long q1), .second, .val (.int p2), .val (.int p3), .val (.int p4), .val (.int ct), .val (.int (1 : Int32)), .val (.ref b11), .unset, .unset, .unset, .unset, .unset, .unset] [(.ref b11)])) (fun _ k_ => XS.aload X12.here hx rfl (hb hby at_38) rfl rfl k_) ?_
    obtain ⟨v15, T15, h15, L15, X15, e15, hQ15, st15⟩ := callVi X12 hx hZ hown (w31 hw) (w32 hw) (w34 hw) (w33 hw) (w3 hw) (w35 hw) (by decide) (W := 0) (argsL := []) (rest := []) e12 SP_b11.1 (sp_take l Z a0 hw b11 q0 q1 ct p3 (own_nx ct 0) (own_rd ct 0) h12 n0 Z0 SP_b11 (own_ct0 hct) g_b11) (by decide) (by decide) pd4 rfl (g := (mkF m 40 #[.val (.long q0), .second, .val (.long q1), .second, .val (.int p2), .val (.int p3), .val (.int p4), .val (.int ct), .val (.int (1 : Int32)), .val (.ref b11), .unset, .unset, .unset, .unset, .unset, .unset] [(.ref b11)])) rfl (by rw [hml]; rfl) rfl (by show 2 * 0 + _ ≤ _; exact Nat.le_of_eq rfl) (hb hby at_40) (by decide) (by decide)
    obtain ⟨rfl, Nq15, Kq15, SP_b11⟩ := hQ15
    have N15 := Fr.app N12 Nq15
    replace Z0 := Nat.le_trans Z0 Kq15.1
    replace SP_b11 : SP Z h15 b11 q0 q1 ct p3 (own_nx ct 1) (own_rd ct 1) := SP_b11
    refine Go.st (S' := T15.setTop (mkF m 43 #[.val (.long q0), .second, .val (.long q1), .second, .val (.int p2), .val (.int p3), .val (.int p4), .val (.int ct), .val (.int (1 : Int32)), .val (.ref b11), .unset, .unset, .unset, .unset, .unset, .unset] [(.int ((p3.toInt64 + (own_nx ct 0).toInt64) % ct.toInt64).toInt32)])) (st15) ?_
    refine Go.st (S' := T15.setTop (mkF m 44 #[.val (.long q0), .second, .val (.long q1), .second, .val (.int p2), .val (.int p3), .val (.int p4), .val (.int ct), .val (.int (1 : Int32)), .val (.ref b11), .unset, .unset, .unset, .unset, .unset, .unset] [])) (fun _ k_ => XS.pop X15.here hx rfl (hb hby at_43) rfl rfl k_) ?_
    refine Go.st (S' := T15.setTop (mkF m 46 #[.val (.long q0), .second, .val (.long q1), .second, .val (.int p2), .val (.int p3), .val (.int p4), .val (.int ct), .val (.int (1 : Int32)), .val (.ref b11), .unset, .unset, .unset, .unset, .unset, .unset] [(.int (1 : Int32))])) (fun _ k_ => XS.iload X15.here hx rfl (hb hby at_44) rfl k_) ?_
    refine Go.st (S' := T15.setTop (mkF m 47 #[.val (.long q0), .second, .val (.long q1), .second, .val (.int p2), .val (.int p3), .val (.int p4), .val (.int ct), .val (.int (1 : Int32)), .val (.ref b11), .unset, .unset, .unset, .unset, .unset, .unset] [(.int (1 : Int32)), (.int (1 : Int32))])) (fun _ k_ => XS.iconst X15.here hx rfl (hb hby at_46) k_) ?_
    refine Go.st (S' := T15.setTop (mkF m 56 #[.val (.long q0), .second, .val (.long q1), .second, .val (.int p2), .val (.int p3), .val (.int p4), .val (.int ct), .val (.int (1 : Int32)), .val (.ref b11), .unset, .unset, .unset, .unset, .unset, .unset] [])) (fun _ k_ => XS.icmpYes X15.here hx rfl (pc0 := 47) (pc' := 56) rfl (hb hby at_47) rfl (flt (by decide)).2.2.2 (by decide) (by decide) k_) ?_
    refine Go.st (S' := T15.setTop (mkF m 58 #[.val (.long q0), .second, .val (.long q1), .second, .val (.int p2), .val (.int p3), .val (.int p4), .val (.int ct), .val (.int (1 : Int32)), .val (.ref b11), .unset, .unset, .unset, .unset, .unset, .unset] [(.int (1 : Int32))])) (fun _ k_ => XS.iload X15.here hx rfl (hb hby at_56) rfl k_) ?_
    refine Go.st (S' := T15.setTop (mkF m 59 #[.val (.long q0), .second, .val (.long q1), .second, .val (.int p2), .val (.int p3), .val (.int p4), .val (.int ct), .val (.int (1 : Int32)), .val (.ref b11), .unset, .unset, .unset, .unset, .unset, .unset] [(.int (2 : Int32)), (.int (1 : Int32))])) (fun _ k_ => XS.iconst X15.here hx rfl (hb hby at_58) k_) ?_
    refine Go.st (S' := T15.setTop (mkF m 68 #[.val (.long q0), .second, .val (.long q1), .second, .val (.int p2), .val (.int p3), .val (.int p4), .val (.int ct), .val (.int (1 : Int32)), .val (.ref b11), .unset, .unset, .unset, .unset, .unset, .unset] [])) (fun _ k_ => XS.icmpYes X15.here hx rfl (pc0 := 59) (pc' := 68) rfl (hb hby at_59) rfl (flt (by decide)).2.2.2 (by decide) (by decide) k_) ?_
    refine Go.st (S' := T15.setTop (mkF m 70 #[.val (.long q0), .second, .val (.long q1), .second, .val (.int p2), .val (.int p3), .val (.int p4), .val (.int ct), .val (.int (1 : Int32)), .val (.ref b11), .unset, .unset, .unset, .unset, .unset, .unset] [(.int (1 : Int32))])) (fun _ k_ => XS.iload X15.here hx rfl (hb hby at_68) rfl k_) ?_
    refine Go.st (S' := T15.setTop (mkF m 71 #[.val (.long q0), .second, .val (.long q1), .second, .val (.int p2), .val (.int p3), .val (.int p4), .val (.int ct), .val (.int (1 : Int32)), .val (.ref b11), .unset, .unset, .unset, .unset, .unset, .unset] [(.int (3 : Int32)), (.int (1 : Int32))])) (fun _ k_ => XS.iconst X15.here hx rfl (hb hby at_70) k_) ?_
    refine Go.st (S' := T15.setTop (mkF m 80 #[.val (.long q0), .second, .val (.long q1), .second, .val (.int p2), .val (.int p3), .val (.int p4), .val (.int ct), .val (.int (1 : Int32)), .val (.ref b11), .unset, .unset, .unset, .unset, .unset, .unset] [])) (fun _ k_ => XS.icmpYes X15.here hx rfl (pc0 := 71) (pc' := 80) rfl (hb hby at_71) rfl (flt (by decide)).2.2.2 (by decide) (by decide) k_) ?_
    refine Go.st (S' := T15.setTop (mkF m 82 #[.val (.long q0), .second, .val (.long q1), .second, .val (.int p2), .val (.int p3), .val (.int p4), .val (.int ct), .val (.int (1 : Int32)), .val (.ref b11), .unset, .unset, .unset, .unset, .unset, .unset] [(.int (1 : Int32))])) (fun _ k_ => XS.iload X15.here hx rfl (hb hby at_80) rfl k_) ?_
    refine Go.st (S' := T15.setTop (mkF m 83 #[.val (.long q0), .second, .val (.long q1), .second, .val (.int p2), .val (.int p3), .val (.int p4), .val (.int ct), .val (.int (1 : Int32)), .val (.ref b11), .unset, .unset, .unset, .unset, .unset, .unset] [(.int (4 : Int32)), (.int (1 : Int32))])) (fun _ k_ => XS.iconst X15.here hx rfl (hb hby at_82) k_) ?_
    refine Go.st (S' := T15.setTop (mkF m 92 #[.val (.long q0), .second, .val (.long q1), .second, .val (.int p2), .val (.int p3), .val (.int p4), .val (.int ct), .val (.int (1 : Int32)), .val (.ref b11), .unset, .unset, .unset, .unset, .unset, .unset] [])) (fun _ k_ => XS.icmpYes X15.here hx rfl (pc0 := 83) (pc' := 92) rfl (hb hby at_83) rfl (flt (by decide)).2.2.2 (by decide) (by decide) k_) ?_
    refine Go.st (S' := T15.setTop (mkF m 94 #[.val (.long q0), .second, .val (.long q1), .second, .val (.int p2), .val (.int p3), .val (.int p4), .val (.int ct), .val (.int (1 : Int32)), .val (.ref b11), .unset, .unset, .unset, .unset, .unset, .unset] [(.ref b11)])) (fun _ k_ => XS.aload X15.here hx rfl (hb hby at_92) rfl rfl k_) ?_
    obtain ⟨v16, T16, h16, L16, X16, e16, hQ16, st16⟩ := callVi X15 hx hZ hown (w18 hw) (w19 hw) (w21 hw) (w20 hw) (w3 hw) (w22 hw) (by decide) (W := 0) (argsL := []) (rest := []) e15 SP_b11.1 (sp_next l Z a0 hw b11 q0 q1 ct p3 (own_nx ct 1) (own_rd ct 1) h15 n0 Z0 SP_b11 (own_ct0 hct)) (by decide) (by decide) pd2 rfl (g := (mkF m 94 #[.val (.long q0), .second, .val (.long q1), .second, .val (.int p2), .val (.int p3), .val (.int p4), .val (.int ct), .val (.int (1 : Int32)), .val (.ref b11), .unset, .unset, .unset, .unset, .unset, .unset] [(.ref b11)])) rfl (by rw [hml]; rfl) rfl (by show 2 * 0 + _ ≤ _; exact Nat.le_of_eq rfl) (hb hby at_94) (by decide) (by decide)
    obtain ⟨rfl, Nq16, hh16⟩ := hQ16
    rw [hh16] at e16
    have N16 := Fr.app N15 Nq16
    refine Go.st (S' := T16.setTop (mkF m 97 #[.val (.long q0), .second, .val (.long q1), .second, .val (.int p2), .val (.int p3), .val (.int p4), .val (.int ct), .val (.int (1 : Int32)), .val (.ref b11), .unset, .unset, .unset, .unset, .unset, .unset] [(.long (own_next q0 q1 ct (own_nx ct 1) (own_rd ct 1)))])) (st16) ?_
    refine Go.st (S' := T16.setTop (mkF m 99 #[.val (.long q0), .second, .val (.long q1), .second, .val (.int p2), .val (.int p3), .val (.int p4), .val (.int ct), .val (.int (1 : Int32)), .val (.ref b11), .val (.long (own_next q0 q1 ct (own_nx ct 1) (own_rd ct 1))), .second, .unset, .unset, .unset, .unset] [])) (fun _ k_ => XS.lstore X16.here hx rfl (hb hby at_97) rfl (l' := #[.val (.long q0), .second, .val (.long q1), .second, .val (.int p2), .val (.int p3), .val (.int p4), .val (.int ct), .val (.int (1 : Int32)), .val (.ref b11), .val (.long (own_next q0 q1 ct (own_nx ct 1) (own_rd ct 1))), .second, .unset, .unset, .unset, .unset]) rfl k_) ?_
    refine Go.st (S' := T16.setTop (mkF m 101 #[.val (.long q0), .second, .val (.long q1), .second, .val (.int p2), .val (.int p3), .val (.int p4), .val (.int ct), .val (.int (1 : Int32)), .val (.ref b11), .val (.long (own_next q0 q1 ct (own_nx ct 1) (own_rd ct 1))), .second, .unset, .unset, .unset, .unset] [(.int (1 : Int32))])) (fun _ k_ => XS.iload X16.here hx rfl (hb hby at_99) rfl k_) ?_
    refine Go.st (S' := T16.setTop (mkF m 103 #[.val (.long q0), .second, .val (.long q1), .second, .val (.int p2), .val (.int p3), .val (.int p4), .val (.int ct), .val (.int (1 : Int32)), .val (.ref b11), .val (.long (own_next q0 q1 ct (own_nx ct 1) (own_rd ct 1))), .second, .unset, .unset, .unset, .unset] [(.int ct), (.int (1 : Int32))])) (fun _ k_ => XS.iload X16.here hx rfl (hb hby at_101) rfl k_) ?_
    refine Go.st (S' := T16.setTop (mkF m 104 #[.val (.long q0), .second, .val (.long q1), .second, .val (.int p2), .val (.int p3), .val (.int p4), .val (.int ct), .val (.int (1 : Int32)), .val (.ref b11), .val (.long (own_next q0 q1 ct (own_nx ct 1) (own_rd ct 1))), .second, .unset, .unset, .unset, .unset] [(.int ((1 : Int32) / ct))])) (fun _ k_ => XS.idiv X16.here hx rfl (hb hby at_103) rfl (own_ct0 hct) k_) ?_
    refine Go.st (S' := T16.setTop (mkF m 106 #[.val (.long q0), .second, .val (.long q1), .second, .val (.int p2), .val (.int p3), .val (.int p4), .val (.int ct), .val (.int (1 : Int32)), .val (.ref b11), .val (.long (own_next q0 q1 ct (own_nx ct 1) (own_rd ct 1))), .second, .val (.int ((1 : Int32) / ct)), .unset, .unset, .unset] [])) (fun _ k_ => XS.istore X16.here hx rfl (hb hby at_104) rfl (l' := #[.val (.long q0), .second, .val (.long q1), .second, .val (.int p2), .val (.int p3), .val (.int p4), .val (.int ct), .val (.int (1 : Int32)), .val (.ref b11), .val (.long (own_next q0 q1 ct (own_nx ct 1) (own_rd ct 1))), .second, .val (.int ((1 : Int32) / ct)), .unset, .unset, .unset]) rfl k_) ?_
    refine Go.st (S' := T16.setTop (mkF m 108 #[.val (.long q0), .second, .val (.long q1), .second, .val (.int p2), .val (.int p3), .val (.int p4), .val (.int ct), .val (.int (1 : Int32)), .val (.ref b11), .val (.long (own_next q0 q1 ct (own_nx ct 1) (own_rd ct 1))), .second, .val (.int ((1 : Int32) / ct)), .unset, .unset, .unset] [(.int (1 : Int32))])) (fun _ k_ => XS.iload X16.here hx rfl (hb hby at_106) rfl k_) ?_
    refine Go.st (S' := T16.setTop (mkF m 110 #[.val (.long q0), .second, .val (.long q1), .second, .val (.int p2), .val (.int p3), .val (.int p4), .val (.int ct), .val (.int (1 : Int32)), .val (.ref b11), .val (.long (own_next q0 q1 ct (own_nx ct 1) (own_rd ct 1))), .second, .val (.int ((1 : Int32) / ct)), .unset, .unset, .unset] [(.int ct), (.int (1 : Int32))])) (fun _ k_ => XS.iload X16.here hx rfl (hb hby at_108) rfl k_) ?_
    refine Go.st (S' := T16.setTop (mkF m 111 #[.val (.long q0), .second, .val (.long q1), .second, .val (.int p2), .val (.int p3), .val (.int p4), .val (.int ct), .val (.int (1 : Int32)), .val (.ref b11), .val (.long (own_next q0 q1 ct (own_nx ct 1) (own_rd ct 1))), .second, .val (.int ((1 : Int32) / ct)), .unset, .unset, .unset] [(.int ((1 : Int32) % ct))])) (fun _ k_ => iremM X16 hx rfl (hb hby at_110) rfl (own_ct0 hct) k_) ?_
    refine Go.st (S' := T16.setTop (mkF m 113 #[.val (.long q0), .second, .val (.long q1), .second, .val (.int p2), .val (.int p3), .val (.int p4), .val (.int ct), .val (.int (1 : Int32)), .val (.ref b11), .val (.long (own_next q0 q1 ct (own_nx ct 1) (own_rd ct 1))), .second, .val (.int ((1 : Int32) / ct)), .val (.int ((1 : Int32) % ct)), .unset, .unset] [])) (fun _ k_ => XS.istore X16.here hx rfl (hb hby at_111) rfl (l' := #[.val (.long q0), .second, .val (.long q1), .second, .val (.int p2), .val (.int p3), .val (.int p4), .val (.int ct), .val (.int (1 : Int32)), .val (.ref b11), .val (.long (own_next q0 q1 ct (own_nx ct 1) (own_rd ct 1))), .second, .val (.int ((1 : Int32) / ct)), .val (.int ((1 : Int32) % ct)), .unset, .unset]) rfl k_) ?_
    refine Go.st (S' := T16.setTop (mkF m 114 #[.val (.long q0), .second, .val (.long q1), .second, .val (.int p2), .val (.int p3), .val (.int p4), .val (.int ct), .val (.int (1 : Int32)), .val (.ref b11), .val (.long (own_next q0 q1 ct (own_nx ct 1) (own_rd ct 1))), .second, .val (.int ((1 : Int32) / ct)), .val (.int ((1 : Int32) % ct)), .unset, .unset] [(.long q0)])) (fun _ k_ => XS.lloadN X16.here hx rfl (hb hby at_113) rfl k_) ?_
    refine Go.st (S' := T16.setTop (mkF m 116 #[.val (.long q0), .second, .val (.long q1), .second, .val (.int p2), .val (.int p3), .val (.int p4), .val (.int ct), .val (.int (1 : Int32)), .val (.ref b11), .val (.long (own_next q0 q1 ct (own_nx ct 1) (own_rd ct 1))), .second, .val (.int ((1 : Int32) / ct)), .val (.int ((1 : Int32) % ct)), .unset, .unset] [(.int ((1 : Int32) / ct)), (.long q0)])) (fun _ k_ => XS.iload X16.here hx rfl (hb hby at_114) rfl k_) ?_
    refine Go.st (S' := T16.setTop (mkF m 117 #[.val (.long q0), .second, .val (.long q1), .second, .val (.int p2), .val (.int p3), .val (.int p4), .val (.int ct), .val (.int (1 : Int32)), .val (.ref b11), .val (.long (own_next q0 q1 ct (own_nx ct 1) (own_rd ct 1))), .second, .val (.int ((1 : Int32) / ct)), .val (.int ((1 : Int32) % ct)), .unset, .unset] [(.long (((1 : Int32) / ct).toInt64)), (.long q0)])) (fun _ k_ => XS.i2l X16.here hx rfl (hb hby at_116) rfl k_) ?_
    refine Go.st (S' := T16.setTop (mkF m 118 #[.val (.long q0), .second, .val (.long q1), .second, .val (.int p2), .val (.int p3), .val (.int p4), .val (.int ct), .val (.int (1 : Int32)), .val (.ref b11), .val (.long (own_next q0 q1 ct (own_nx ct 1) (own_rd ct 1))), .second, .val (.int ((1 : Int32) / ct)), .val (.int ((1 : Int32) % ct)), .unset, .unset] [(.long q1), (.long (((1 : Int32) / ct).toInt64)), (.long q0)])) (fun _ k_ => XS.lloadN X16.here hx rfl (hb hby at_117) rfl k_) ?_
    refine Go.st (S' := T16.setTop (mkF m 119 #[.val (.long q0), .second, .val (.long q1), .second, .val (.int p2), .val (.int p3), .val (.int p4), .val (.int ct), .val (.int (1 : Int32)), .val (.ref b11), .val (.long (own_next q0 q1 ct (own_nx ct 1) (own_rd ct 1))), .second, .val (.int ((1 : Int32) / ct)), .val (.int ((1 : Int32) % ct)), .unset, .unset] [(.long ((((1 : Int32) / ct).toInt64) * q1)), (.long q0)])) (fun _ k_ => XS.lmul X16.here hx rfl (hb hby at_118) rfl k_) ?_
    refine Go.st (S' := T16.setTop (mkF m 120 #[.val (.long q0), .second, .val (.long q1), .second, .val (.int p2), .val (.int p3), .val (.int p4), .val (.int ct), .val (.int (1 : Int32)), .val (.ref b11), .val (.long (own_next q0 q1 ct (own_nx ct 1) (own_rd ct 1))), .second, .val (.int ((1 : Int32) / ct)), .val (.int ((1 : Int32) % ct)), .unset, .unset] [(.long (q0 + ((((1 : Int32) / ct).toInt64) * q1)))])) (fun _ k_ => XS.ladd X16.here hx rfl (hb hby at_119) rfl k_) ?_
    refine Go.st (S' := T16.setTop (mkF m 121 #[.val (.long q0), .second, .val (.long q1), .second, .val (.int p2), .val (.int p3), .val (.int p4), .val (.int ct), .val (.int (1 : Int32)), .val (.ref b11), .val (.long (own_next q0 q1 ct (own_nx ct 1) (own_rd ct 1))), .second, .val (.int ((1 : Int32) / ct)), .val (.int ((1 : Int32) % ct)), .unset, .unset] [(.long q1), (.long (q0 + ((((1 : Int32) / ct).toInt64) * q1)))])) (fun _ k_ => XS.lloadN X16.here hx rfl (hb hby at_120) rfl k_) ?_
    refine Go.st (S' := T16.setTop (mkF m 123 #[.val (.long q0), .second, .val (.long q1), .second, .val (.int p2), .val (.int p3), .val (.int p4), .val (.int ct), .val (.int (1 : Int32)), .val (.ref b11), .val (.long (own_next q0 q1 ct (own_nx ct 1) (own_rd ct 1))), .second, .val (.int ((1 : Int32) / ct)), .val (.int ((1 : Int32) % ct)), .unset, .unset] [(.int ct), (.long q1), (.long (q0 + ((((1 : Int32) / ct).toInt64) * q1)))])) (fun _ k_ => XS.iload X16.here hx rfl (hb hby at_121) rfl k_) ?_
    refine Go.st (S' := T16.setTop (mkF m 125 #[.val (.long q0), .second, .val (.long q1), .second, .val (.int p2), .val (.int p3), .val (.int p4), .val (.int ct), .val (.int (1 : Int32)), .val (.ref b11), .val (.long (own_next q0 q1 ct (own_nx ct 1) (own_rd ct 1))), .second, .val (.int ((1 : Int32) / ct)), .val (.int ((1 : Int32) % ct)), .unset, .unset] [(.int ((1 : Int32) % ct)), (.int ct), (.long q1), (.long (q0 + ((((1 : Int32) / ct).toInt64) * q1)))])) (fun _ k_ => XS.iload X16.here hx rfl (hb hby at_123) rfl k_) ?_
    obtain ⟨v17, T17, h17, L17, X17, e17, hQ17, st17⟩ := callSt X16 hx hZ hown (w27 hw) (w28 hw) (w29 hw) (w30 hw) (by decide) (W := 2) (argsL := [(.long q1), (.int ct), (.int ((1 : Int32) % ct))]) (rest := [(.long (q0 + ((((1 : Int32) / ct).toInt64) * q1)))]) e16 (rm_off l Z a0 hw q1 ct ((1 : Int32) % ct) h15 n0 Z0) (by decide) (by decide) pd3 rfl (g := (mkF m 125 #[.val (.long q0), .second, .val (.long q1), .second, .val (.int p2), .val (.int p3), .val (.int p4), .val (.int ct), .val (.int (1 : Int32)), .val (.ref b11), .val (.long (own_next q0 q1 ct (own_nx ct 1) (own_rd ct 1))), .second, .val (.int ((1 : Int32) / ct)), .val (.int ((1 : Int32) % ct)), .unset, .unset] [(.int ((1 : Int32) % ct)), (.int ct), (.long q1), (.long (q0 + ((((1 : Int32) / ct).toInt64) * q1)))])) rfl (by rw [hml]; rfl) rfl (by show 2 * 0 + _ ≤ _; exact Nat.le_of_eq rfl) (hb hby at_125) (by decide) (by decide)
    obtain ⟨rfl, Nq17, hh17⟩ := hQ17
    rw [hh17] at e17
    have N17 := Fr.app N16 Nq17
    refine Go.st (S' := T17.setTop (mkF m 128 #[.val (.long q0), .second, .val (.long q1), .second, .val (.int p2), .val (.int p3), .val (.int p4), .val (.int ct), .val (.int (1 : Int32)), .val (.ref b11), .val (.long (own_next q0 q1 ct (own_nx ct 1) (own_rd ct 1))), .second, .val (.int ((1 : Int32) / ct)), .val (.int ((1 : Int32) % ct)), .unset, .unset] [(.long (own_off q1 ct ((1 : Int32) % ct))), (.long (q0 + ((((1 : Int32) / ct).toInt64) * q1)))])) (st17) ?_
    refine Go.st (S' := T17.setTop (mkF m 129 #[.val (.long q0), .second, .val (.long q1), .second, .val (.int p2), .val (.int p3), .val (.int p4), .val (.int ct), .val (.int (1 : Int32)), .val (.ref b11), .val (.long (own_next q0 q1 ct (own_nx ct 1) (own_rd ct 1))), .second, .val (.int ((1 : Int32) / ct)), .val (.int ((1 : Int32) % ct)), .unset, .unset] [(.long ((q0 + ((((1 : Int32) / ct).toInt64) * q1)) + (own_off q1 ct ((1 : Int32) % ct))))])) (fun _ k_ => XS.ladd X17.here hx rfl (hb hby at_128) rfl k_) ?_
    refine Go.st (S' := T17.setTop (mkF m 131 #[.val (.long q0), .second, .val (.long q1), .second, .val (.int p2), .val (.int p3), .val (.int p4), .val (.int ct), .val (.int (1 : Int32)), .val (.ref b11), .val (.long (own_next q0 q1 ct (own_nx ct 1) (own_rd ct 1))), .second, .val (.int ((1 : Int32) / ct)), .val (.int ((1 : Int32) % ct)), .val (.long ((q0 + ((((1 : Int32) / ct).toInt64) * q1)) + (own_off q1 ct ((1 : Int32) % ct)))), .second] [])) (fun _ k_ => XS.lstore X17.here hx rfl (hb hby at_129) rfl (l' := #[.val (.long q0), .second, .val (.long q1), .second, .val (.int p2), .val (.int p3), .val (.int p4), .val (.int ct), .val (.int (1 : Int32)), .val (.ref b11), .val (.long (own_next q0 q1 ct (own_nx ct 1) (own_rd ct 1))), .second, .val (.int ((1 : Int32) / ct)), .val (.int ((1 : Int32) % ct)), .val (.long ((q0 + ((((1 : Int32) / ct).toInt64) * q1)) + (own_off q1 ct ((1 : Int32) % ct)))), .second]) rfl k_) ?_
    refine Go.st (S' := T17.setTop (mkF m 133 #[.val (.long q0), .second, .val (.long q1), .second, .val (.int p2), .val (.int p3), .val (.int p4), .val (.int ct), .val (.int (1 : Int32)), .val (.ref b11), .val (.long (own_next q0 q1 ct (own_nx ct 1) (own_rd ct 1))), .second, .val (.int ((1 : Int32) / ct)), .val (.int ((1 : Int32) % ct)), .val (.long ((q0 + ((((1 : Int32) / ct).toInt64) * q1)) + (own_off q1 ct ((1 : Int32) % ct)))), .second] [(.long (own_next q0 q1 ct (own_nx ct 1) (own_rd ct 1)))])) (fun _ k_ => XS.lload X17.here hx rfl (hb hby at_131) rfl k_) ?_
    refine Go.st (S' := T17.setTop (mkF m 135 #[.val (.long q0), .second, .val (.long q1), .second, .val (.int p2), .val (.int p3), .val (.int p4), .val (.int ct), .val (.int (1 : Int32)), .val (.ref b11), .val (.long (own_next q0 q1 ct (own_nx ct 1) (own_rd ct 1))), .second, .val (.int ((1 : Int32) / ct)), .val (.int ((1 : Int32) % ct)), .val (.long ((q0 + ((((1 : Int32) / ct).toInt64) * q1)) + (own_off q1 ct ((1 : Int32) % ct)))), .second] [(.long ((q0 + ((((1 : Int32) / ct).toInt64) * q1)) + (own_off q1 ct ((1 : Int32) % ct)))), (.long (own_next q0 q1 ct (own_nx ct 1) (own_rd ct 1)))])) (fun _ k_ => XS.lload X17.here hx rfl (hb hby at_133) rfl k_) ?_
    refine Go.st (S' := T17.setTop (mkF m 136 #[.val (.long q0), .second, .val (.long q1), .second, .val (.int p2), .val (.int p3), .val (.int p4), .val (.int ct), .val (.int (1 : Int32)), .val (.ref b11), .val (.long (own_next q0 q1 ct (own_nx ct 1) (own_rd ct 1))), .second, .val (.int ((1 : Int32) / ct)), .val (.int ((1 : Int32) % ct)), .val (.long ((q0 + ((((1 : Int32) / ct).toInt64) * q1)) + (own_off q1 ct ((1 : Int32) % ct)))), .second] [(.int (lcmpW (own_next q0 q1 ct (own_nx ct 1) (own_rd ct 1)) ((q0 + ((((1 : Int32) / ct).toInt64) * q1)) + (own_off q1 ct ((1 : Int32) % ct)))))])) (fun _ k_ => XS.lcmp X17.here hx rfl (hb hby at_135) rfl k_) ?_
    refine Go.st (S' := T17.setTop (mkF m 139 #[.val (.long q0), .second, .val (.long q1), .second, .val (.int p2), .val (.int p3), .val (.int p4), .val (.int ct), .val (.int (1 : Int32)), .val (.ref b11), .val (.long (own_next q0 q1 ct (own_nx ct 1) (own_rd ct 1))), .second, .val (.int ((1 : Int32) / ct)), .val (.int ((1 : Int32) % ct)), .val (.long ((q0 + ((((1 : Int32) / ct).toInt64) * q1)) + (own_off q1 ct ((1 : Int32) % ct)))), .second] [])) (fun _ k_ => XS.ifNo X17.here hx rfl (hb hby at_136) rfl ((if0 _ _).trans (teq ((lw_eq _ _).mpr (own_end q0 q1 ct hct 1 (by decide)))).2) k_) ?_
    refine Go.st (S' := T17.setTop (mkF m 140 #[.val (.long q0), .second, .val (.long q1), .second, .val (.int p2), .val (.int p3), .val (.int p4), .val (.int ct), .val (.int (1 : Int32)), .val (.ref b11), .val (.long (own_next q0 q1 ct (own_nx ct 1) (own_rd ct 1))), .second, .val (.int ((1 : Int32) / ct)), .val (.int ((1 : Int32) % ct)), .val (.long ((q0 + ((((1 : Int32) / ct).toInt64) * q1)) + (own_off q1 ct ((1 : Int32) % ct)))), .second] [(.int (1 : Int32))])) (fun _ k_ => XS.iconst X17.here hx rfl (hb hby at_139) k_) ?_
    refine Go.st (S' := T17.setTop (mkF m 144 #[.val (.long q0), .second, .val (.long q1), .second, .val (.int p2), .val (.int p3), .val (.int p4), .val (.int ct), .val (.int (1 : Int32)), .val (.ref b11), .val (.long (own_next q0 q1 ct (own_nx ct 1) (own_rd ct 1))), .second, .val (.int ((1 : Int32) / ct)), .val (.int ((1 : Int32) % ct)), .val (.long ((q0 + ((((1 : Int32) / ct).toInt64) * q1)) + (own_off q1 ct ((1 : Int32) % ct)))), .second] [(.int (1 : Int32))])) (fun _ k_ => XS.goto X17.here hx rfl (pc0 := 140) (pc' := 144) rfl (hb hby at_140) (by decide) (by decide) k_) ?_
    exact Go.retN X17 hx (t := .boolean) hret (by simp) hlk (hb hby at_144) (by decide) (by decide) ⟨rfl, N17⟩
  · skip
    refine Go.st (S' := T12.setTop (mkF m 35 #[.val (.long q0), .second, .val (.long q1), .second, .val (.int p2), .val (.int p3), .val (.int p4), .val (.int ct), .val (.int (2 : Int32)), .val (.ref b11), .unset, .unset, .unset, .unset, .unset, .unset] [(.int (2 : Int32))])) (fun _ k_ => XS.iload X12.here hx rfl (hb hby at_33) rfl k_) ?_
    refine Go.st (S' := T12.setTop (mkF m 38 #[.val (.long q0), .second, .val (.long q1), .second, .val (.int p2), .val (.int p3), .val (.int p4), .val (.int ct), .val (.int (2 : Int32)), .val (.ref b11), .unset, .unset, .unset, .unset, .unset, .unset] [])) (fun _ k_ => XS.ifNo X12.here hx rfl (hb hby at_35) rfl ((if0 _ _).trans (tlt (by decide)).2.2.2) k_) ?_
    refine Go.st (S' := T12.setTop (mkF m 40 #[.val (.long q0), .second, .val (.long q1), .second, .val (.int p2), .val (.int p3), .val (.int p4), .val (.int ct), .val (.int (2 : Int32)), .val (.ref b11), .unset, .unset, .unset, .unset, .unset, .unset] [(.ref b11)])) (fun _ k_ => XS.aload X12.here hx rfl (hb hby at_38) rfl rfl k_) ?_
    obtain ⟨v18, T18, h18, L18, X18, e18, hQ18, st18⟩ := callVi X12 hx hZ hown (w31 hw) (w32 hw) (w34 hw) (w33 hw) (w3 hw) (w35 hw) (by decide) (W := 0) (argsL := []) (rest := []) e12 SP_b11.1 (sp_take l Z a0 hw b11 q0 q1 ct p3 (own_nx ct 0) (own_rd ct 0) h12 n0 Z0 SP_b11 (own_ct0 hct) g_b11) (by decide) (by decide) pd4 rfl (g := (mkF m 40 #[.val (.long q0), .second, .val (.long q1), .second, .val (.int p2), .val (.int p3), .val (.int p4), .val (.int ct), .val (.int (2 : Int32)), .val (.ref b11), .unset, .unset, .unset, .unset, .unset, .unset] [(.ref b11)])) rfl (by rw [hml]; rfl) rfl (by show 2 * 0 + _ ≤ _; exact Nat.le_of_eq rfl) (hb hby at_40) (by decide) (by decide)
    obtain ⟨rfl, Nq18, Kq18, SP_b11⟩ := hQ18
    have N18 := Fr.app N12 Nq18
    replace Z0 := Nat.le_trans Z0 Kq18.1
    replace SP_b11 : SP Z h18 b11 q0 q1 ct p3 (own_nx ct 1) (own_rd ct 1) := SP_b11
    refine Go.st (S' := T18.setTop (mkF m 43 #[.val (.long q0), .second, .val (.long q1), .second, .val (.int p2), .val (.int p3), .val (.int p4), .val (.int ct), .val (.int (2 : Int32)), .val (.ref b11), .unset, .unset, .unset, .unset, .unset, .unset] [(.int ((p3.toInt64 + (own_nx ct 0).toInt64) % ct.toInt64).toInt32)])) (st18) ?_
    refine Go.st (S' := T18.setTop (mkF m 44 #[.val (.long q0), .second, .val (.long q1), .second, .val (.int p2), .val (.int p3), .val (.int p4), .val (.int ct), .val (.int (2 : Int32)), .val (.ref b11), .unset, .unset, .unset, .unset, .unset, .unset] [])) (fun _ k_ => XS.pop X18.here hx rfl (hb hby at_43) rfl rfl k_) ?_
    refine Go.st (S' := T18.setTop (mkF m 46 #[.val (.long q0), .second, .val (.long q1), .second, .val (.int p2), .val (.int p3), .val (.int p4), .val (.int ct), .val (.int (2 : Int32)), .val (.ref b11), .unset, .unset, .unset, .unset, .unset, .unset] [(.int (2 : Int32))])) (fun _ k_ => XS.iload X18.here hx rfl (hb hby at_44) rfl k_) ?_
    refine Go.st (S' := T18.setTop (mkF m 47 #[.val (.long q0), .second, .val (.long q1), .second, .val (.int p2), .val (.int p3), .val (.int p4), .val (.int ct), .val (.int (2 : Int32)), .val (.ref b11), .unset, .unset, .unset, .unset, .unset, .unset] [(.int (1 : Int32)), (.int (2 : Int32))])) (fun _ k_ => XS.iconst X18.here hx rfl (hb hby at_46) k_) ?_
    refine Go.st (S' := T18.setTop (mkF m 50 #[.val (.long q0), .second, .val (.long q1), .second, .val (.int p2), .val (.int p3), .val (.int p4), .val (.int ct), .val (.int (2 : Int32)), .val (.ref b11), .unset, .unset, .unset, .unset, .unset, .unset] [])) (fun _ k_ => XS.icmpNo X18.here hx rfl (hb hby at_47) rfl (tlt (by decide)).2.2.2 k_) ?_
    refine Go.st (S' := T18.setTop (mkF m 52 #[.val (.long q0), .second, .val (.long q1), .second, .val (.int p2), .val (.int p3), .val (.int p4), .val (.int ct), .val (.int (2 : Int32)), .val (.ref b11), .unset, .unset, .unset, .unset, .unset, .unset] [(.ref b11)])) (fun _ k_ => XS.aload X18.here hx rfl (hb hby at_50) rfl rfl k_) ?_
    obtain ⟨v19, T19, h19, L19, X19, e19, hQ19, st19⟩ := callVi X18 hx hZ hown (w31 hw) (w32 hw) (w34 hw) (w33 hw) (w3 hw) (w35 hw) (by decide) (W := 0) (argsL := []) (rest := []) e18 SP_b11.1 (sp_take l Z a0 hw b11 q0 q1 ct p3 (own_nx ct 1) (own_rd ct 1) h18 n0 Z0 SP_b11 (own_ct0 hct) g_b11) (by decide) (by decide) pd4 rfl (g := (mkF m 52 #[.val (.long q0), .second, .val (.long q1), .second, .val (.int p2), .val (.int p3), .val (.int p4), .val (.int ct), .val (.int (2 : Int32)), .val (.ref b11), .unset, .unset, .unset, .unset, .unset, .unset] [(.ref b11)])) rfl (by rw [hml]; rfl) rfl (by show 2 * 0 + _ ≤ _; exact Nat.le_of_eq rfl) (hb hby at_52) (by decide) (by decide)
    obtain ⟨rfl, Nq19, Kq19, SP_b11⟩ := hQ19
    have N19 := Fr.app N18 Nq19
    replace Z0 := Nat.le_trans Z0 Kq19.1
    replace SP_b11 : SP Z h19 b11 q0 q1 ct p3 (own_nx ct 2) (own_rd ct 2) := SP_b11
    refine Go.st (S' := T19.setTop (mkF m 55 #[.val (.long q0), .second, .val (.long q1), .second, .val (.int p2), .val (.int p3), .val (.int p4), .val (.int ct), .val (.int (2 : Int32)), .val (.ref b11), .unset, .unset, .unset, .unset, .unset, .unset] [(.int ((p3.toInt64 + (own_nx ct 1).toInt64) % ct.toInt64).toInt32)])) (st19) ?_
    refine Go.st (S' := T19.setTop (mkF m 56 #[.val (.long q0), .second, .val (.long q1), .second, .val (.int p2), .val (.int p3), .val (.int p4), .val (.int ct), .val (.int (2 : Int32)), .val (.ref b11), .unset, .unset, .unset, .unset, .unset, .unset] [])) (fun _ k_ => XS.pop X19.here hx rfl (hb hby at_55) rfl rfl k_) ?_
    refine Go.st (S' := T19.setTop (mkF m 58 #[.val (.long q0), .second, .val (.long q1), .second, .val (.int p2), .val (.int p3), .val (.int p4), .val (.int ct), .val (.int (2 : Int32)), .val (.ref b11), .unset, .unset, .unset, .unset, .unset, .unset] [(.int (2 : Int32))])) (fun _ k_ => XS.iload X19.here hx rfl (hb hby at_56) rfl k_) ?_
    refine Go.st (S' := T19.setTop (mkF m 59 #[.val (.long q0), .second, .val (.long q1), .second, .val (.int p2), .val (.int p3), .val (.int p4), .val (.int ct), .val (.int (2 : Int32)), .val (.ref b11), .unset, .unset, .unset, .unset, .unset, .unset] [(.int (2 : Int32)), (.int (2 : Int32))])) (fun _ k_ => XS.iconst X19.here hx rfl (hb hby at_58) k_) ?_
    refine Go.st (S' := T19.setTop (mkF m 68 #[.val (.long q0), .second, .val (.long q1), .second, .val (.int p2), .val (.int p3), .val (.int p4), .val (.int ct), .val (.int (2 : Int32)), .val (.ref b11), .unset, .unset, .unset, .unset, .unset, .unset] [])) (fun _ k_ => XS.icmpYes X19.here hx rfl (pc0 := 59) (pc' := 68) rfl (hb hby at_59) rfl (flt (by decide)).2.2.2 (by decide) (by decide) k_) ?_
    refine Go.st (S' := T19.setTop (mkF m 70 #[.val (.long q0), .second, .val (.long q1), .second, .val (.int p2), .val (.int p3), .val (.int p4), .val (.int ct), .val (.int (2 : Int32)), .val (.ref b11), .unset, .unset, .unset, .unset, .unset, .unset] [(.int (2 : Int32))])) (fun _ k_ => XS.iload X19.here hx rfl (hb hby at_68) rfl k_) ?_
    refine Go.st (S' := T19.setTop (mkF m 71 #[.val (.long q0), .second, .val (.long q1), .second, .val (.int p2), .val (.int p3), .val (.int p4), .val (.int ct), .val (.int (2 : Int32)), .val (.ref b11), .unset, .unset, .unset, .unset, .unset, .unset] [(.int (3 : Int32)), (.int (2 : Int32))])) (fun _ k_ => XS.iconst X19.here hx rfl (hb hby at_70) k_) ?_
    refine Go.st (S' := T19.setTop (mkF m 80 #[.val (.long q0), .second, .val (.long q1), .second, .val (.int p2), .val (.int p3), .val (.int p4), .val (.int ct), .val (.int (2 : Int32)), .val (.ref b11), .unset, .unset, .unset, .unset, .unset, .unset] [])) (fun _ k_ => XS.icmpYes X19.here hx rfl (pc0 := 71) (pc' := 80) rfl (hb hby at_71) rfl (flt (by decide)).2.2.2 (by decide) (by decide) k_) ?_
    refine Go.st (S' := T19.setTop (mkF m 82 #[.val (.long q0), .second, .val (.long q1), .second, .val (.int p2), .val (.int p3), .val (.int p4), .val (.int ct), .val (.int (2 : Int32)), .val (.ref b11), .unset, .unset, .unset, .unset, .unset, .unset] [(.int (2 : Int32))])) (fun _ k_ => XS.iload X19.here hx rfl (hb hby at_80) rfl k_) ?_
    refine Go.st (S' := T19.setTop (mkF m 83 #[.val (.long q0), .second, .val (.long q1), .second, .val (.int p2), .val (.int p3), .val (.int p4), .val (.int ct), .val (.int (2 : Int32)), .val (.ref b11), .unset, .unset, .unset, .unset, .unset, .unset] [(.int (4 : Int32)), (.int (2 : Int32))])) (fun _ k_ => XS.iconst X19.here hx rfl (hb hby at_82) k_) ?_
    refine Go.st (S' := T19.setTop (mkF m 92 #[.val (.long q0), .second, .val (.long q1), .second, .val (.int p2), .val (.int p3), .val (.int p4), .val (.int ct), .val (.int (2 : Int32)), .val (.ref b11), .unset, .unset, .unset, .unset, .unset, .unset] [])) (fun _ k_ => XS.icmpYes X19.here hx rfl (pc0 := 83) (pc' := 92) rfl (hb hby at_83) rfl (flt (by decide)).2.2.2 (by decide) (by decide) k_) ?_
    refine Go.st (S' := T19.setTop (mkF m 94 #[.val (.long q0), .second, .val (.long q1), .second, .val (.int p2), .val (.int p3), .val (.int p4), .val (.int ct), .val (.int (2 : Int32)), .val (.ref b11), .unset, .unset, .unset, .unset, .unset, .unset] [(.ref b11)])) (fun _ k_ => XS.aload X19.here hx rfl (hb hby at_92) rfl rfl k_) ?_
    obtain ⟨v20, T20, h20, L20, X20, e20, hQ20, st20⟩ := callVi X19 hx hZ hown (w18 hw) (w19 hw) (w21 hw) (w20 hw) (w3 hw) (w22 hw) (by decide) (W := 0) (argsL := []) (rest := []) e19 SP_b11.1 (sp_next l Z a0 hw b11 q0 q1 ct p3 (own_nx ct 2) (own_rd ct 2) h19 n0 Z0 SP_b11 (own_ct0 hct)) (by decide) (by decide) pd2 rfl (g := (mkF m 94 #[.val (.long q0), .second, .val (.long q1), .second, .val (.int p2), .val (.int p3), .val (.int p4), .val (.int ct), .val (.int (2 : Int32)), .val (.ref b11), .unset, .unset, .unset, .unset, .unset, .unset] [(.ref b11)])) rfl (by rw [hml]; rfl) rfl (by show 2 * 0 + _ ≤ _; exact Nat.le_of_eq rfl) (hb hby at_94) (by decide) (by decide)
    obtain ⟨rfl, Nq20, hh20⟩ := hQ20
    rw [hh20] at e20
    have N20 := Fr.app N19 Nq20
    refine Go.st (S' := T20.setTop (mkF m 97 #[.val (.long q0), .second, .val (.long q1), .second, .val (.int p2), .val (.int p3), .val (.int p4), .val (.int ct), .val (.int (2 : Int32)), .val (.ref b11), .unset, .unset, .unset, .unset, .unset, .unset] [(.long (own_next q0 q1 ct (own_nx ct 2) (own_rd ct 2)))])) (st20) ?_
    refine Go.st (S' := T20.setTop (mkF m 99 #[.val (.long q0), .second, .val (.long q1), .second, .val (.int p2), .val (.int p3), .val (.int p4), .val (.int ct), .val (.int (2 : Int32)), .val (.ref b11), .val (.long (own_next q0 q1 ct (own_nx ct 2) (own_rd ct 2))), .second, .unset, .unset, .unset, .unset] [])) (fun _ k_ => XS.lstore X20.here hx rfl (hb hby at_97) rfl (l' := #[.val (.long q0), .second, .val (.long q1), .second, .val (.int p2), .val (.int p3), .val (.int p4), .val (.int ct), .val (.int (2 : Int32)), .val (.ref b11), .val (.long (own_next q0 q1 ct (own_nx ct 2) (own_rd ct 2))), .second, .unset, .unset, .unset, .unset]) rfl k_) ?_
    refine Go.st (S' := T20.setTop (mkF m 101 #[.val (.long q0), .second, .val (.long q1), .second, .val (.int p2), .val (.int p3), .val (.int p4), .val (.int ct), .val (.int (2 : Int32)), .val (.ref b11), .val (.long (own_next q0 q1 ct (own_nx ct 2) (own_rd ct 2))), .second, .unset, .unset, .unset, .unset] [(.int (2 : Int32))])) (fun _ k_ => XS.iload X20.here hx rfl (hb hby at_99) rfl k_) ?_
    refine Go.st (S' := T20.setTop (mkF m 103 #[.val (.long q0), .second, .val (.long q1), .second, .val (.int p2), .val (.int p3), .val (.int p4), .val (.int ct), .val (.int (2 : Int32)), .val (.ref b11), .val (.long (own_next q0 q1 ct (own_nx ct 2) (own_rd ct 2))), .second, .unset, .unset, .unset, .unset] [(.int ct), (.int (2 : Int32))])) (fun _ k_ => XS.iload X20.here hx rfl (hb hby at_101) rfl k_) ?_
    refine Go.st (S' := T20.setTop (mkF m 104 #[.val (.long q0), .second, .val (.long q1), .second, .val (.int p2), .val (.int p3), .val (.int p4), .val (.int ct), .val (.int (2 : Int32)), .val (.ref b11), .val (.long (own_next q0 q1 ct (own_nx ct 2) (own_rd ct 2))), .second, .unset, .unset, .unset, .unset] [(.int ((2 : Int32) / ct))])) (fun _ k_ => XS.idiv X20.here hx rfl (hb hby at_103) rfl (own_ct0 hct) k_) ?_
    refine Go.st (S' := T20.setTop (mkF m 106 #[.val (.long q0), .second, .val (.long q1), .second, .val (.int p2), .val (.int p3), .val (.int p4), .val (.int ct), .val (.int (2 : Int32)), .val (.ref b11), .val (.long (own_next q0 q1 ct (own_nx ct 2) (own_rd ct 2))), .second, .val (.int ((2 : Int32) / ct)), .unset, .unset, .unset] [])) (fun _ k_ => XS.istore X20.here hx rfl (hb hby at_104) rfl (l' := #[.val (.long q0), .second, .val (.long q1), .second, .val (.int p2), .val (.int p3), .val (.int p4), .val (.int ct), .val (.int (2 : Int32)), .val (.ref b11), .val (.long (own_next q0 q1 ct (own_nx ct 2) (own_rd ct 2))), .second, .val (.int ((2 : Int32) / ct)), .unset, .unset, .unset]) rfl k_) ?_
    refine Go.st (S' := T20.setTop (mkF m 108 #[.val (.long q0), .second, .val (.long q1), .second, .val (.int p2), .val (.int p3), .val (.int p4), .val (.int ct), .val (.int (2 : Int32)), .val (.ref b11), .val (.long (own_next q0 q1 ct (own_nx ct 2) (own_rd ct 2))), .second, .val (.int ((2 : Int32) / ct)), .unset, .unset, .unset] [(.int (2 : Int32))])) (fun _ k_ => XS.iload X20.here hx rfl (hb hby at_106) rfl k_) ?_
    refine Go.st (S' := T20.setTop (mkF m 110 #[.val (.long q0), .second, .val (.long q1), .second, .val (.int p2), .val (.int p3), .val (.int p4), .val (.int ct), .val (.int (2 : Int32)), .val (.ref b11), .val (.long (own_next q0 q1 ct (own_nx ct 2) (own_rd ct 2))), .second, .val (.int ((2 : Int32) / ct)), .unset, .unset, .unset] [(.int ct), (.int (2 : Int32))])) (fun _ k_ => XS.iload X20.here hx rfl (hb hby at_108) rfl k_) ?_
    refine Go.st (S' := T20.setTop (mkF m 111 #[.val (.long q0), .second, .val (.long q1), .second, .val (.int p2), .val (.int p3), .val (.int p4), .val (.int ct), .val (.int (2 : Int32)), .val (.ref b11), .val (.long (own_next q0 q1 ct (own_nx ct 2) (own_rd ct 2))), .second, .val (.int ((2 : Int32) / ct)), .unset, .unset, .unset] [(.int ((2 : Int32) % ct))])) (fun _ k_ => iremM X20 hx rfl (hb hby at_110) rfl (own_ct0 hct) k_) ?_
    refine Go.st (S' := T20.setTop (mkF m 113 #[.val (.long q0), .second, .val (.long q1), .second, .val (.int p2), .val (.int p3), .val (.int p4), .val (.int ct), .val (.int (2 : Int32)), .val (.ref b11), .val (.long (own_next q0 q1 ct (own_nx ct 2) (own_rd ct 2))), .second, .val (.int ((2 : Int32) / ct)), .val (.int ((2 : Int32) % ct)), .unset, .unset] [])) (fun _ k_ => XS.istore X20.here hx rfl (hb hby at_111) rfl (l' := #[.val (.long q0), .second, .val (.long q1), .second, .val (.int p2), .val (.int p3), .val (.int p4), .val (.int ct), .val (.int (2 : Int32)), .val (.ref b11), .val (.long (own_next q0 q1 ct (own_nx ct 2) (own_rd ct 2))), .second, .val (.int ((2 : Int32) / ct)), .val (.int ((2 : Int32) % ct)), .unset, .unset]) rfl k_) ?_
    refine Go.st (S' := T20.setTop (mkF m 114 #[.val (.long q0), .second, .val (.long q1), .second, .val (.int p2), .val (.int p3), .val (.int p4), .val (.int ct), .val (.int (2 : Int32)), .val (.ref b11), .val (.long (own_next q0 q1 ct (own_nx ct 2) (own_rd ct 2))), .second, .val (.int ((2 : Int32) / ct)), .val (.int ((2 : Int32) % ct)), .unset, .unset] [(.long q0)])) (fun _ k_ => XS.lloadN X20.here hx rfl (hb hby at_113) rfl k_) ?_
    refine Go.st (S' := T20.setTop (mkF m 116 #[.val (.long q0), .second, .val (.long q1), .second, .val (.int p2), .val (.int p3), .val (.int p4), .val (.int ct), .val (.int (2 : Int32)), .val (.ref b11), .val (.long (own_next q0 q1 ct (own_nx ct 2) (own_rd ct 2))), .second, .val (.int ((2 : Int32) / ct)), .val (.int ((2 : Int32) % ct)), .unset, .unset] [(.int ((2 : Int32) / ct)), (.long q0)])) (fun _ k_ => XS.iload X20.here hx rfl (hb hby at_114) rfl k_) ?_
    refine Go.st (S' := T20.setTop (mkF m 117 #[.val (.long q0), .second, .val (.long q1), .second, .val (.int p2), .val (.int p3), .val (.int p4), .val (.int ct), .val (.int (2 : Int32)), .val (.ref b11), .val (.long (own_next q0 q1 ct (own_nx ct 2) (own_rd ct 2))), .second, .val (.int ((2 : Int32) / ct)), .val (.int ((2 : Int32) % ct)), .unset, .unset] [(.long (((2 : Int32) / ct).toInt64)), (.long q0)])) (fun _ k_ => XS.i2l X20.here hx rfl (hb hby at_116) rfl k_) ?_
    refine Go.st (S' := T20.setTop (mkF m 118 #[.val (.long q0), .second, .val (.long q1), .second, .val (.int p2), .val (.int p3), .val (.int p4), .val (.int ct), .val (.int (2 : Int32)), .val (.ref b11), .val (.long (own_next q0 q1 ct (own_nx ct 2) (own_rd ct 2))), .second, .val (.int ((2 : Int32) / ct)), .val (.int ((2 : Int32) % ct)), .unset, .unset] [(.long q1), (.long (((2 : Int32) / ct).toInt64)), (.long q0)])) (fun _ k_ => XS.lloadN X20.here hx rfl (hb hby at_117) rfl k_) ?_
    refine Go.st (S' := T20.setTop (mkF m 119 #[.val (.long q0), .second, .val (.long q1), .second, .val (.int p2), .val (.int p3), .val (.int p4), .val (.int ct), .val (.int (2 : Int32)), .val (.ref b11), .val (.long (own_next q0 q1 ct (own_nx ct 2) (own_rd ct 2))), .second, .val (.int ((2 : Int32) / ct)), .val (.int ((2 : Int32) % ct)), .unset, .unset] [(.long ((((2 : Int32) / ct).toInt64) * q1)), (.long q0)])) (fun _ k_ => XS.lmul X20.here hx rfl (hb hby at_118) rfl k_) ?_
    refine Go.st (S' := T20.setTop (mkF m 120 #[.val (.long q0), .second, .val (.long q1), .second, .val (.int p2), .val (.int p3), .val (.int p4), .val (.int ct), .val (.int (2 : Int32)), .val (.ref b11), .val (.long (own_next q0 q1 ct (own_nx ct 2) (own_rd ct 2))), .second, .val (.int ((2 : Int32) / ct)), .val (.int ((2 : Int32) % ct)), .unset, .unset] [(.long (q0 + ((((2 : Int32) / ct).toInt64) * q1)))])) (fun _ k_ => XS.ladd X20.here hx rfl (hb hby at_119) rfl k_) ?_
    refine Go.st (S' := T20.setTop (mkF m 121 #[.val (.long q0), .second, .val (.long q1), .second, .val (.int p2), .val (.int p3), .val (.int p4), .val (.int ct), .val (.int (2 : Int32)), .val (.ref b11), .val (.long (own_next q0 q1 ct (own_nx ct 2) (own_rd ct 2))), .second, .val (.int ((2 : Int32) / ct)), .val (.int ((2 : Int32) % ct)), .unset, .unset] [(.long q1), (.long (q0 + ((((2 : Int32) / ct).toInt64) * q1)))])) (fun _ k_ => XS.lloadN X20.here hx rfl (hb hby at_120) rfl k_) ?_
    refine Go.st (S' := T20.setTop (mkF m 123 #[.val (.long q0), .second, .val (.long q1), .second, .val (.int p2), .val (.int p3), .val (.int p4), .val (.int ct), .val (.int (2 : Int32)), .val (.ref b11), .val (.long (own_next q0 q1 ct (own_nx ct 2) (own_rd ct 2))), .second, .val (.int ((2 : Int32) / ct)), .val (.int ((2 : Int32) % ct)), .unset, .unset] [(.int ct), (.long q1), (.long (q0 + ((((2 : Int32) / ct).toInt64) * q1)))])) (fun _ k_ => XS.iload X20.here hx rfl (hb hby at_121) rfl k_) ?_
    refine Go.st (S' := T20.setTop (mkF m 125 #[.val (.long q0), .second, .val (.long q1), .second, .val (.int p2), .val (.int p3), .val (.int p4), .val (.int ct), .val (.int (2 : Int32)), .val (.ref b11), .val (.long (own_next q0 q1 ct (own_nx ct 2) (own_rd ct 2))), .second, .val (.int ((2 : Int32) / ct)), .val (.int ((2 : Int32) % ct)), .unset, .unset] [(.int ((2 : Int32) % ct)), (.int ct), (.long q1), (.long (q0 + ((((2 : Int32) / ct).toInt64) * q1)))])) (fun _ k_ => XS.iload X20.here hx rfl (hb hby at_123) rfl k_) ?_
    obtain ⟨v21, T21, h21, L21, X21, e21, hQ21, st21⟩ := callSt X20 hx hZ hown (w27 hw) (w28 hw) (w29 hw) (w30 hw) (by decide) (W := 2) (argsL := [(.long q1), (.int ct), (.int ((2 : Int32) % ct))]) (rest := [(.long (q0 + ((((2 : Int32) / ct).toInt64) * q1)))]) e20 (rm_off l Z a0 hw q1 ct ((2 : Int32) % ct) h19 n0 Z0) (by decide) (by decide) pd3 rfl (g := (mkF m 125 #[.val (.long q0), .second, .val (.long q1), .second, .val (.int p2), .val (.int p3), .val (.int p4), .val (.int ct), .val (.int (2 : Int32)), .val (.ref b11), .val (.long (own_next q0 q1 ct (own_nx ct 2) (own_rd ct 2))), .second, .val (.int ((2 : Int32) / ct)), .val (.int ((2 : Int32) % ct)), .unset, .unset] [(.int ((2 : Int32) % ct)), (.int ct), (.long q1), (.long (q0 + ((((2 : Int32) / ct).toInt64) * q1)))])) rfl (by rw [hml]; rfl) rfl (by show 2 * 0 + _ ≤ _; exact Nat.le_of_eq rfl) (hb hby at_125) (by decide) (by decide)
    obtain ⟨rfl, Nq21, hh21⟩ := hQ21
    rw [hh21] at e21
    have N21 := Fr.app N20 Nq21
    refine Go.st (S' := T21.setTop (mkF m 128 #[.val (.long q0), .second, .val (.long q1), .second, .val (.int p2), .val (.int p3), .val (.int p4), .val (.int ct), .val (.int (2 : Int32)), .val (.ref b11), .val (.long (own_next q0 q1 ct (own_nx ct 2) (own_rd ct 2))), .second, .val (.int ((2 : Int32) / ct)), .val (.int ((2 : Int32) % ct)), .unset, .unset] [(.long (own_off q1 ct ((2 : Int32) % ct))), (.long (q0 + ((((2 : Int32) / ct).toInt64) * q1)))])) (st21) ?_
    refine Go.st (S' := T21.setTop (mkF m 129 #[.val (.long q0), .second, .val (.long q1), .second, .val (.int p2), .val (.int p3), .val (.int p4), .val (.int ct), .val (.int (2 : Int32)), .val (.ref b11), .val (.long (own_next q0 q1 ct (own_nx ct 2) (own_rd ct 2))), .second, .val (.int ((2 : Int32) / ct)), .val (.int ((2 : Int32) % ct)), .unset, .unset] [(.long ((q0 + ((((2 : Int32) / ct).toInt64) * q1)) + (own_off q1 ct ((2 : Int32) % ct))))])) (fun _ k_ => XS.ladd X21.here hx rfl (hb hby at_128) rfl k_) ?_
    refine Go.st (S' := T21.setTop (mkF m 131 #[.val (.long q0), .second, .val (.long q1), .second, .val (.int p2), .val (.int p3), .val (.int p4), .val (.int ct), .val (.int (2 : Int32)), .val (.ref b11), .val (.long (own_next q0 q1 ct (own_nx ct 2) (own_rd ct 2))), .second, .val (.int ((2 : Int32) / ct)), .val (.int ((2 : Int32) % ct)), .val (.long ((q0 + ((((2 : Int32) / ct).toInt64) * q1)) + (own_off q1 ct ((2 : Int32) % ct)))), .second] [])) (fun _ k_ => XS.lstore X21.here hx rfl (hb hby at_129) rfl (l' := #[.val (.long q0), .second, .val (.long q1), .second, .val (.int p2), .val (.int p3), .val (.int p4), .val (.int ct), .val (.int (2 : Int32)), .val (.ref b11), .val (.long (own_next q0 q1 ct (own_nx ct 2) (own_rd ct 2))), .second, .val (.int ((2 : Int32) / ct)), .val (.int ((2 : Int32) % ct)), .val (.long ((q0 + ((((2 : Int32) / ct).toInt64) * q1)) + (own_off q1 ct ((2 : Int32) % ct)))), .second]) rfl k_) ?_
    refine Go.st (S' := T21.setTop (mkF m 133 #[.val (.long q0), .second, .val (.long q1), .second, .val (.int p2), .val (.int p3), .val (.int p4), .val (.int ct), .val (.int (2 : Int32)), .val (.ref b11), .val (.long (own_next q0 q1 ct (own_nx ct 2) (own_rd ct 2))), .second, .val (.int ((2 : Int32) / ct)), .val (.int ((2 : Int32) % ct)), .val (.long ((q0 + ((((2 : Int32) / ct).toInt64) * q1)) + (own_off q1 ct ((2 : Int32) % ct)))), .second] [(.long (own_next q0 q1 ct (own_nx ct 2) (own_rd ct 2)))])) (fun _ k_ => XS.lload X21.here hx rfl (hb hby at_131) rfl k_) ?_
    refine Go.st (S' := T21.setTop (mkF m 135 #[.val (.long q0), .second, .val (.long q1), .second, .val (.int p2), .val (.int p3), .val (.int p4), .val (.int ct), .val (.int (2 : Int32)), .val (.ref b11), .val (.long (own_next q0 q1 ct (own_nx ct 2) (own_rd ct 2))), .second, .val (.int ((2 : Int32) / ct)), .val (.int ((2 : Int32) % ct)), .val (.long ((q0 + ((((2 : Int32) / ct).toInt64) * q1)) + (own_off q1 ct ((2 : Int32) % ct)))), .second] [(.long ((q0 + ((((2 : Int32) / ct).toInt64) * q1)) + (own_off q1 ct ((2 : Int32) % ct)))), (.long (own_next q0 q1 ct (own_nx ct 2) (own_rd ct 2)))])) (fun _ k_ => XS.lload X21.here hx rfl (hb hby at_133) rfl k_) ?_
    refine Go.st (S' := T21.setTop (mkF m 136 #[.val (.long q0), .second, .val (.long q1), .second, .val (.int p2), .val (.int p3), .val (.int p4), .val (.int ct), .val (.int (2 : Int32)), .val (.ref b11), .val (.long (own_next q0 q1 ct (own_nx ct 2) (own_rd ct 2))), .second, .val (.int ((2 : Int32) / ct)), .val (.int ((2 : Int32) % ct)), .val (.long ((q0 + ((((2 : Int32) / ct).toInt64) * q1)) + (own_off q1 ct ((2 : Int32) % ct)))), .second] [(.int (lcmpW (own_next q0 q1 ct (own_nx ct 2) (own_rd ct 2)) ((q0 + ((((2 : Int32) / ct).toInt64) * q1)) + (own_off q1 ct ((2 : Int32) % ct)))))])) (fun _ k_ => XS.lcmp X21.here hx rfl (hb hby at_135) rfl k_) ?_
    refine Go.st (S' := T21.setTop (mkF m 139 #[.val (.long q0), .second, .val (.long q1), .second, .val (.int p2), .val (.int p3), .val (.int p4), .val (.int ct), .val (.int (2 : Int32)), .val (.ref b11), .val (.long (own_next q0 q1 ct (own_nx ct 2) (own_rd ct 2))), .second, .val (.int ((2 : Int32) / ct)), .val (.int ((2 : Int32) % ct)), .val (.long ((q0 + ((((2 : Int32) / ct).toInt64) * q1)) + (own_off q1 ct ((2 : Int32) % ct)))), .second] [])) (fun _ k_ => XS.ifNo X21.here hx rfl (hb hby at_136) rfl ((if0 _ _).trans (teq ((lw_eq _ _).mpr (own_end q0 q1 ct hct 2 (by decide)))).2) k_) ?_
    refine Go.st (S' := T21.setTop (mkF m 140 #[.val (.long q0), .second, .val (.long q1), .second, .val (.int p2), .val (.int p3), .val (.int p4), .val (.int ct), .val (.int (2 : Int32)), .val (.ref b11), .val (.long (own_next q0 q1 ct (own_nx ct 2) (own_rd ct 2))), .second, .val (.int ((2 : Int32) / ct)), .val (.int ((2 : Int32) % ct)), .val (.long ((q0 + ((((2 : Int32) / ct).toInt64) * q1)) + (own_off q1 ct ((2 : Int32) % ct)))), .second] [(.int (1 : Int32))])) (fun _ k_ => XS.iconst X21.here hx rfl (hb hby at_139) k_) ?_
    refine Go.st (S' := T21.setTop (mkF m 144 #[.val (.long q0), .second, .val (.long q1), .second, .val (.int p2), .val (.int p3), .val (.int p4), .val (.int ct), .val (.int (2 : Int32)), .val (.ref b11), .val (.long (own_next q0 q1 ct (own_nx ct 2) (own_rd ct 2))), .second, .val (.int ((2 : Int32) / ct)), .val (.int ((2 : Int32) % ct)), .val (.long ((q0 + ((((2 : Int32) / ct).toInt64) * q1)) + (own_off q1 ct ((2 : Int32) % ct)))), .second] [(.int (1 : Int32))])) (fun _ k_ => XS.goto X21.here hx rfl (pc0 := 140) (pc' := 144) rfl (hb hby at_140) (by decide) (by decide) k_) ?_
    exact Go.retN X21 hx (t := .boolean) hret (by simp) hlk (hb hby at_144) (by decide) (by decide) ⟨rfl, N21⟩
  · skip
    refine Go.st (S' := T12.setTop (mkF m 35 #[.val (.long q0), .second, .val (.long q1), .second, .val (.int p2), .val (.int p3), .val (.int p4), .val (.int ct), .val (.int (3 : Int32)), .val (.ref b11), .unset, .unset, .unset, .unset, .unset, .unset] [(.int (3 : Int32))])) (fun _ k_ => XS.iload X12.here hx rfl (hb hby at_33) rfl k_) ?_
    refine Go.st (S' := T12.setTop (mkF m 38 #[.val (.long q0), .second, .val (.long q1), .second, .val (.int p2), .val (.int p3), .val (.int p4), .val (.int ct), .val (.int (3 : Int32)), .val (.ref b11), .unset, .unset, .unset, .unset, .unset, .unset] [])) (fun _ k_ => XS.ifNo X12.here hx rfl (hb hby at_35) rfl ((if0 _ _).trans (tlt (by decide)).2.2.2) k_) ?_
    refine Go.st (S' := T12.setTop (mkF m 40 #[.val (.long q0), .second, .val (.long q1), .second, .val (.int p2), .val (.int p3), .val (.int p4), .val (.int ct), .val (.int (3 : Int32)), .val (.ref b11), .unset, .unset, .unset, .unset, .unset, .unset] [(.ref b11)])) (fun _ k_ => XS.aload X12.here hx rfl (hb hby at_38) rfl rfl k_) ?_
    obtain ⟨v22, T22, h22, L22, X22, e22, hQ22, st22⟩ := callVi X12 hx hZ hown (w31 hw) (w32 hw) (w34 hw) (w33 hw) (w3 hw) (w35 hw) (by decide) (W := 0) (argsL := []) (rest := []) e12 SP_b11.1 (sp_take l Z a0 hw b11 q0 q1 ct p3 (own_nx ct 0) (own_rd ct 0) h12 n0 Z0 SP_b11 (own_ct0 hct) g_b11) (by decide) (by decide) pd4 rfl (g := (mkF m 40 #[.val (.long q0), .second, .val (.long q1), .second, .val (.int p2), .val (.int p3), .val (.int p4), .val (.int ct), .val (.int (3 : Int32)), .val (.ref b11), .unset, .unset, .unset, .unset, .unset, .unset] [(.ref b11)])) rfl (by rw [hml]; rfl) rfl (by show 2 * 0 + _ ≤ _; exact Nat.le_of_eq rfl) (hb hby at_40) (by decide) (by decide)
    obtain ⟨rfl, Nq22, Kq22, SP_b11⟩ := hQ22
    have N22 := Fr.app N12 Nq22
    replace Z0 := Nat.le_trans Z0 Kq22.1
    replace SP_b11 : SP Z h22 b11 q0 q1 ct p3 (own_nx ct 1) (own_rd ct 1) := SP_b11
    refine Go.st (S' := T22.setTop (mkF m 43 #[.val (.long q0), .second, .val (.long q1), .second, .val (.int p2), .val (.int p3), .val (.int p4), .val (.int ct), .val (.int (3 : Int32)), .val (.ref b11), .unset, .unset, .unset, .unset, .unset, .unset] [(.int ((p3.toInt64 + (own_nx ct 0).toInt64) % ct.toInt64).toInt32)])) (st22) ?_
    refine Go.st (S' := T22.setTop (mkF m 44 #[.val (.long q0), .second, .val (.long q1), .second, .val (.int p2), .val (.int p3), .val (.int p4), .val (.int ct), .val (.int (3 : Int32)), .val (.ref b11), .unset, .unset, .unset, .unset, .unset, .unset] [])) (fun _ k_ => XS.pop X22.here hx rfl (hb hby at_43) rfl rfl k_) ?_
    refine Go.st (S' := T22.setTop (mkF m 46 #[.val (.long q0), .second, .val (.long q1), .second, .val (.int p2), .val (.int p3), .val (.int p4), .val (.int ct), .val (.int (3 : Int32)), .val (.ref b11), .unset, .unset, .unset, .unset, .unset, .unset] [(.int (3 : Int32))])) (fun _ k_ => XS.iload X22.here hx rfl (hb hby at_44) rfl k_) ?_
    refine Go.st (S' := T22.setTop (mkF m 47 #[.val (.long q0), .second, .val (.long q1), .second, .val (.int p2), .val (.int p3), .val (.int p4), .val (.int ct), .val (.int (3 : Int32)), .val (.ref b11), .unset, .unset, .unset, .unset, .unset, .unset] [(.int (1 : Int32)), (.int (3 : Int32))])) (fun _ k_ => XS.iconst X22.here hx rfl (hb hby at_46) k_) ?_
    refine Go.st (S' := T22.setTop (mkF m 50 #[.val (.long q0), .second, .val (.long q1), .second, .val (.int p2), .val (.int p3), .val (.int p4), .val (.int ct), .val (.int (3 : Int32)), .val (.ref b11), .unset, .unset, .unset, .unset, .unset, .unset] [])) (fun _ k_ => XS.icmpNo X22.here hx rfl (hb hby at_47) rfl (tlt (by decide)).2.2.2 k_) ?_
    refine Go.st (S' := T22.setTop (mkF m 52 #[.val (.long q0), .second, .val (.long q1), .second, .val (.int p2), .val (.int p3), .val (.int p4), .val (.int ct), .val (.int (3 : Int32)), .val (.ref b11), .unset, .unset, .unset, .unset, .unset, .unset] [(.ref b11)])) (fun _ k_ => XS.aload X22.here hx rfl (hb hby at_50) rfl rfl k_) ?_
    obtain ⟨v23, T23, h23, L23, X23, e23, hQ23, st23⟩ := callVi X22 hx hZ hown (w31 hw) (w32 hw) (w34 hw) (w33 hw) (w3 hw) (w35 hw) (by decide) (W := 0) (argsL := []) (rest := []) e22 SP_b11.1 (sp_take l Z a0 hw b11 q0 q1 ct p3 (own_nx ct 1) (own_rd ct 1) h22 n0 Z0 SP_b11 (own_ct0 hct) g_b11) (by decide) (by decide) pd4 rfl (g := (mkF m 52 #[.val (.long q0), .second, .val (.long q1), .second, .val (.int p2), .val (.int p3), .val (.int p4), .val (.int ct), .val (.int (3 : Int32)), .val (.ref b11), .unset, .unset, .unset, .unset, .unset, .unset] [(.ref b11)])) rfl (by rw [hml]; rfl) rfl (by show 2 * 0 + _ ≤ _; exact Nat.le_of_eq rfl) (hb hby at_52) (by decide) (by decide)
    obtain ⟨rfl, Nq23, Kq23, SP_b11⟩ := hQ23
    have N23 := Fr.app N22 Nq23
    replace Z0 := Nat.le_trans Z0 Kq23.1
    replace SP_b11 : SP Z h23 b11 q0 q1 ct p3 (own_nx ct 2) (own_rd ct 2) := SP_b11
    refine Go.st (S' := T23.setTop (mkF m 55 #[.val (.long q0), .second, .val (.long q1), .second, .val (.int p2), .val (.int p3), .val (.int p4), .val (.int ct), .val (.int (3 : Int32)), .val (.ref b11), .unset, .unset, .unset, .unset, .unset, .unset] [(.int ((p3.toInt64 + (own_nx ct 1).toInt64) % ct.toInt64).toInt32)])) (st23) ?_
    refine Go.st (S' := T23.setTop (mkF m 56 #[.val (.long q0), .second, .val (.long q1), .second, .val (.int p2), .val (.int p3), .val (.int p4), .val (.int ct), .val (.int (3 : Int32)), .val (.ref b11), .unset, .unset, .unset, .unset, .unset, .unset] [])) (fun _ k_ => XS.pop X23.here hx rfl (hb hby at_55) rfl rfl k_) ?_
    refine Go.st (S' := T23.setTop (mkF m 58 #[.val (.long q0), .second, .val (.long q1), .second, .val (.int p2), .val (.int p3), .val (.int p4), .val (.int ct), .val (.int (3 : Int32)), .val (.ref b11), .unset, .unset, .unset, .unset, .unset, .unset] [(.int (3 : Int32))])) (fun _ k_ => XS.iload X23.here hx rfl (hb hby at_56) rfl k_) ?_
    refine Go.st (S' := T23.setTop (mkF m 59 #[.val (.long q0), .second, .val (.long q1), .second, .val (.int p2), .val (.int p3), .val (.int p4), .val (.int ct), .val (.int (3 : Int32)), .val (.ref b11), .unset, .unset, .unset, .unset, .unset, .unset] [(.int (2 : Int32)), (.int (3 : Int32))])) (fun _ k_ => XS.iconst X23.here hx rfl (hb hby at_58) k_) ?_
    refine Go.st (S' := T23.setTop (mkF m 62 #[.val (.long q0), .second, .val (.long q1), .second, .val (.int p2), .val (.int p3), .val (.int p4), .val (.int ct), .val (.int (3 : Int32)), .val (.ref b11), .unset, .unset, .unset, .unset, .unset, .unset] [])) (fun _ k_ => XS.icmpNo X23.here hx rfl (hb hby at_59) rfl (tlt (by decide)).2.2.2 k_) ?_
    refine Go.st (S' := T23.setTop (mkF m 64 #[.val (.long q0), .second, .val (.long q1), .second, .val (.int p2), .val (.int p3), .val (.int p4), .val (.int ct), .val (.int (3 : Int32)), .val (.ref b11), .unset, .unset, .unset, .unset, .unset, .unset] [(.ref b11)])) (fun _ k_ => XS.aload X23.here hx rfl (hb hby at_62) rfl rfl k_) ?_
    obtain ⟨v24, T24, h24, L24, X24, e24, hQ24, st24⟩ := callVi X23 hx hZ hown (w31 hw) (w32 hw) (w34 hw) (w33 hw) (w3 hw) (w35 hw) (by decide) (W := 0) (argsL := []) (rest := []) e23 SP_b11.1 (sp_take l Z a0 hw b11 q0 q1 ct p3 (own_nx ct 2) (own_rd ct 2) h23 n0 Z0 SP_b11 (own_ct0 hct) g_b11) (by decide) (by decide) pd4 rfl (g := (mkF m 64 #[.val (.long q0), .second, .val (.long q1), .second, .val (.int p2), .val (.int p3), .val (.int p4), .val (.int ct), .val (.int (3 : Int32)), .val (.ref b11), .unset, .unset, .unset, .unset, .unset, .unset] [(.ref b11)])) rfl (by rw [hml]; rfl) rfl (by show 2 * 0 + _ ≤ _; exact Nat.le_of_eq rfl) (hb hby at_64) (by decide) (by decide)
    obtain ⟨rfl, Nq24, Kq24, SP_b11⟩ := hQ24
    have N24 := Fr.app N23 Nq24
    replace Z0 := Nat.le_trans Z0 Kq24.1
    replace SP_b11 : SP Z h24 b11 q0 q1 ct p3 (own_nx ct 3) (own_rd ct 3) := SP_b11
    refine Go.st (S' := T24.setTop (mkF m 67 #[.val (.long q0), .second, .val (.long q1), .second, .val (.int p2), .val (.int p3), .val (.int p4), .val (.int ct), .val (.int (3 : Int32)), .val (.ref b11), .unset, .unset, .unset, .unset, .unset, .unset] [(.int ((p3.toInt64 + (own_nx ct 2).toInt64) % ct.toInt64).toInt32)])) (st24) ?_
    refine Go.st (S' := T24.setTop (mkF m 68 #[.val (.long q0), .second, .val (.long q1), .second, .val (.int p2), .val (.int p3), .val (.int p4), .val (.int ct), .val (.int (3 : Int32)), .val (.ref b11), .unset, .unset, .unset, .unset, .unset, .unset] [])) (fun _ k_ => XS.pop X24.here hx rfl (hb hby at_67) rfl rfl k_) ?_
    refine Go.st (S' := T24.setTop (mkF m 70 #[.val (.long q0), .second, .val (.long q1), .second, .val (.int p2), .val (.int p3), .val (.int p4), .val (.int ct), .val (.int (3 : Int32)), .val (.ref b11), .unset, .unset, .unset, .unset, .unset, .unset] [(.int (3 : Int32))])) (fun _ k_ => XS.iload X24.here hx rfl (hb hby at_68) rfl k_) ?_
    refine Go.st (S' := T24.setTop (mkF m 71 #[.val (.long q0), .second, .val (.long q1), .second, .val (.int p2), .val (.int p3), .val (.int p4), .val (.int ct), .val (.int (3 : Int32)), .val (.ref b11), .unset, .unset, .unset, .unset, .unset, .unset] [(.int (3 : Int32)), (.int (3 : Int32))])) (fun _ k_ => XS.iconst X24.here hx rfl (hb hby at_70) k_) ?_
    refine Go.st (S' := T24.setTop (mkF m 80 #[.val (.long q0), .second, .val (.long q1), .second, .val (.int p2), .val (.int p3), .val (.int p4), .val (.int ct), .val (.int (3 : Int32)), .val (.ref b11), .unset, .unset, .unset, .unset, .unset, .unset] [])) (fun _ k_ => XS.icmpYes X24.here hx rfl (pc0 := 71) (pc' := 80) rfl (hb hby at_71) rfl (flt (by decide)).2.2.2 (by decide) (by decide) k_) ?_
    refine Go.st (S' := T24.setTop (mkF m 82 #[.val (.long q0), .second, .val (.long q1), .second, .val (.int p2), .val (.int p3), .val (.int p4), .val (.int ct), .val (.int (3 : Int32)), .val (.ref b11), .unset, .unset, .unset, .unset, .unset, .unset] [(.int (3 : Int32))])) (fun _ k_ => XS.iload X24.here hx rfl (hb hby at_80) rfl k_) ?_
    refine Go.st (S' := T24.setTop (mkF m 83 #[.val (.long q0), .second, .val (.long q1), .second, .val (.int p2), .val (.int p3), .val (.int p4), .val (.int ct), .val (.int (3 : Int32)), .val (.ref b11), .unset, .unset, .unset, .unset, .unset, .unset] [(.int (4 : Int32)), (.int (3 : Int32))])) (fun _ k_ => XS.iconst X24.here hx rfl (hb hby at_82) k_) ?_
    refine Go.st (S' := T24.setTop (mkF m 92 #[.val (.long q0), .second, .val (.long q1), .second, .val (.int p2), .val (.int p3), .val (.int p4), .val (.int ct), .val (.int (3 : Int32)), .val (.ref b11), .unset, .unset, .unset, .unset, .unset, .unset] [])) (fun _ k_ => XS.icmpYes X24.here hx rfl (pc0 := 83) (pc' := 92) rfl (hb hby at_83) rfl (flt (by decide)).2.2.2 (by decide) (by decide) k_) ?_
    refine Go.st (S' := T24.setTop (mkF m 94 #[.val (.long q0), .second, .val (.long q1), .second, .val (.int p2), .val (.int p3), .val (.int p4), .val (.int ct), .val (.int (3 : Int32)), .val (.ref b11), .unset, .unset, .unset, .unset, .unset, .unset] [(.ref b11)])) (fun _ k_ => XS.aload X24.here hx rfl (hb hby at_92) rfl rfl k_) ?_
    obtain ⟨v25, T25, h25, L25, X25, e25, hQ25, st25⟩ := callVi X24 hx hZ hown (w18 hw) (w19 hw) (w21 hw) (w20 hw) (w3 hw) (w22 hw) (by decide) (W := 0) (argsL := []) (rest := []) e24 SP_b11.1 (sp_next l Z a0 hw b11 q0 q1 ct p3 (own_nx ct 3) (own_rd ct 3) h24 n0 Z0 SP_b11 (own_ct0 hct)) (by decide) (by decide) pd2 rfl (g := (mkF m 94 #[.val (.long q0), .second, .val (.long q1), .second, .val (.int p2), .val (.int p3), .val (.int p4), .val (.int ct), .val (.int (3 : Int32)), .val (.ref b11), .unset, .unset, .unset, .unset, .unset, .unset] [(.ref b11)])) rfl (by rw [hml]; rfl) rfl (by show 2 * 0 + _ ≤ _; exact Nat.le_of_eq rfl) (hb hby at_94) (by decide) (by decide)
    obtain ⟨rfl, Nq25, hh25⟩ := hQ25
    rw [hh25] at e25
    have N25 := Fr.app N24 Nq25
    refine Go.st (S' := T25.setTop (mkF m 97 #[.val (.long q0), .second, .val (.long q1), .second, .val (.int p2), .val (.int p3), .val (.int p4), .val (.int ct), .val (.int (3 : Int32)), .val (.ref b11), .unset, .unset, .unset, .unset, .unset, .unset] [(.long (own_next q0 q1 ct (own_nx ct 3) (own_rd ct 3)))])) (st25) ?_
    refine Go.st (S' := T25.setTop (mkF m 99 #[.val (.long q0), .second, .val (.long q1), .second, .val (.int p2), .val (.int p3), .val (.int p4), .val (.int ct), .val (.int (3 : Int32)), .val (.ref b11), .val (.long (own_next q0 q1 ct (own_nx ct 3) (own_rd ct 3))), .second, .unset, .unset, .unset, .unset] [])) (fun _ k_ => XS.lstore X25.here hx rfl (hb hby at_97) rfl (l' := #[.val (.long q0), .second, .val (.long q1), .second, .val (.int p2), .val (.int p3), .val (.int p4), .val (.int ct), .val (.int (3 : Int32)), .val (.ref b11), .val (.long (own_next q0 q1 ct (own_nx ct 3) (own_rd ct 3))), .second, .unset, .unset, .unset, .unset]) rfl k_) ?_
    refine Go.st (S' := T25.setTop (mkF m 101 #[.val (.long q0), .second, .val (.long q1), .second, .val (.int p2), .val (.int p3), .val (.int p4), .val (.int ct), .val (.int (3 : Int32)), .val (.ref b11), .val (.long (own_next q0 q1 ct (own_nx ct 3) (own_rd ct 3))), .second, .unset, .unset, .unset, .unset] [(.int (3 : Int32))])) (fun _ k_ => XS.iload X25.here hx rfl (hb hby at_99) rfl k_) ?_
    refine Go.st (S' := T25.setTop (mkF m 103 #[.val (.long q0), .second, .val (.long q1), .second, .val (.int p2), .val (.int p3), .val (.int p4), .val (.int ct), .val (.int (3 : Int32)), .val (.ref b11), .val (.long (own_next q0 q1 ct (own_nx ct 3) (own_rd ct 3))), .second, .unset, .unset, .unset, .unset] [(.int ct), (.int (3 : Int32))])) (fun _ k_ => XS.iload X25.here hx rfl (hb hby at_101) rfl k_) ?_
    refine Go.st (S' := T25.setTop (mkF m 104 #[.val (.long q0), .second, .val (.long q1), .second, .val (.int p2), .val (.int p3), .val (.int p4), .val (.int ct), .val (.int (3 : Int32)), .val (.ref b11), .val (.long (own_next q0 q1 ct (own_nx ct 3) (own_rd ct 3))), .second, .unset, .unset, .unset, .unset] [(.int ((3 : Int32) / ct))])) (fun _ k_ => XS.idiv X25.here hx rfl (hb hby at_103) rfl (own_ct0 hct) k_) ?_
    refine Go.st (S' := T25.setTop (mkF m 106 #[.val (.long q0), .second, .val (.long q1), .second, .val (.int p2), .val (.int p3), .val (.int p4), .val (.int ct), .val (.int (3 : Int32)), .val (.ref b11), .val (.long (own_next q0 q1 ct (own_nx ct 3) (own_rd ct 3))), .second, .val (.int ((3 : Int32) / ct)), .unset, .unset, .unset] [])) (fun _ k_ => XS.istore X25.here hx rfl (hb hby at_104) rfl (l' := #[.val (.long q0), .second, .val (.long q1), .second, .val (.int p2), .val (.int p3), .val (.int p4), .val (.int ct), .val (.int (3 : Int32)), .val (.ref b11), .val (.long (own_next q0 q1 ct (own_nx ct 3) (own_rd ct 3))), .second, .val (.int ((3 : Int32) / ct)), .unset, .unset, .unset]) rfl k_) ?_
    refine Go.st (S' := T25.setTop (mkF m 108 #[.val (.long q0), .second, .val (.long q1), .second, .val (.int p2), .val (.int p3), .val (.int p4), .val (.int ct), .val (.int (3 : Int32)), .val (.ref b11), .val (.long (own_next q0 q1 ct (own_nx ct 3) (own_rd ct 3))), .second, .val (.int ((3 : Int32) / ct)), .unset, .unset, .unset] [(.int (3 : Int32))])) (fun _ k_ => XS.iload X25.here hx rfl (hb hby at_106) rfl k_) ?_
    refine Go.st (S' := T25.setTop (mkF m 110 #[.val (.long q0), .second, .val (.long q1), .second, .val (.int p2), .val (.int p3), .val (.int p4), .val (.int ct), .val (.int (3 : Int32)), .val (.ref b11), .val (.long (own_next q0 q1 ct (own_nx ct 3) (own_rd ct 3))), .second, .val (.int ((3 : Int32) / ct)), .unset, .unset, .unset] [(.int ct), (.int (3 : Int32))])) (fun _ k_ => XS.iload X25.here hx rfl (hb hby at_108) rfl k_) ?_
    refine Go.st (S' := T25.setTop (mkF m 111 #[.val (.long q0), .second, .val (.long q1), .second, .val (.int p2), .val (.int p3), .val (.int p4), .val (.int ct), .val (.int (3 : Int32)), .val (.ref b11), .val (.long (own_next q0 q1 ct (own_nx ct 3) (own_rd ct 3))), .second, .val (.int ((3 : Int32) / ct)), .unset, .unset, .unset] [(.int ((3 : Int32) % ct))])) (fun _ k_ => iremM X25 hx rfl (hb hby at_110) rfl (own_ct0 hct) k_) ?_
    refine Go.st (S' := T25.setTop (mkF m 113 #[.val (.long q0), .second, .val (.long q1), .second, .val (.int p2), .val (.int p3), .val (.int p4), .val (.int ct), .val (.int (3 : Int32)), .val (.ref b11), .val (.long (own_next q0 q1 ct (own_nx ct 3) (own_rd ct 3))), .second, .val (.int ((3 : Int32) / ct)), .val (.int ((3 : Int32) % ct)), .unset, .unset] [])) (fun _ k_ => XS.istore X25.here hx rfl (hb hby at_111) rfl (l' := #[.val (.long q0), .second, .val (.long q1), .second, .val (.int p2), .val (.int p3), .val (.int p4), .val (.int ct), .val (.int (3 : Int32)), .val (.ref b11), .val (.long (own_next q0 q1 ct (own_nx ct 3) (own_rd ct 3))), .second, .val (.int ((3 : Int32) / ct)), .val (.int ((3 : Int32) % ct)), .unset, .unset]) rfl k_) ?_
    refine Go.st (S' := T25.setTop (mkF m 114 #[.val (.long q0), .second, .val (.long q1), .second, .val (.int p2), .val (.int p3), .val (.int p4), .val (.int ct), .val (.int (3 : Int32)), .val (.ref b11), .val (.long (own_next q0 q1 ct (own_nx ct 3) (own_rd ct 3))), .second, .val (.int ((3 : Int32) / ct)), .val (.int ((3 : Int32) % ct)), .unset, .unset] [(.long q0)])) (fun _ k_ => XS.lloadN X25.here hx rfl (hb hby at_113) rfl k_) ?_
    refine Go.st (S' := T25.setTop (mkF m 116 #[.val (.long q0), .second, .val (.long q1), .second, .val (.int p2), .val (.int p3), .val (.int p4), .val (.int ct), .val (.int (3 : Int32)), .val (.ref b11), .val (.long (own_next q0 q1 ct (own_nx ct 3) (own_rd ct 3))), .second, .val (.int ((3 : Int32) / ct)), .val (.int ((3 : Int32) % ct)), .unset, .unset] [(.int ((3 : Int32) / ct)), (.long q0)])) (fun _ k_ => XS.iload X25.here hx rfl (hb hby at_114) rfl k_) ?_
    refine Go.st (S' := T25.setTop (mkF m 117 #[.val (.long q0), .second, .val (.long q1), .second, .val (.int p2), .val (.int p3), .val (.int p4), .val (.int ct), .val (.int (3 : Int32)), .val (.ref b11), .val (.long (own_next q0 q1 ct (own_nx ct 3) (own_rd ct 3))), .second, .val (.int ((3 : Int32) / ct)), .val (.int ((3 : Int32) % ct)), .unset, .unset] [(.long (((3 : Int32) / ct).toInt64)), (.long q0)])) (fun _ k_ => XS.i2l X25.here hx rfl (hb hby at_116) rfl k_) ?_
    refine Go.st (S' := T25.setTop (mkF m 118 #[.val (.long q0), .second, .val (.long q1), .second, .val (.int p2), .val (.int p3), .val (.int p4), .val (.int ct), .val (.int (3 : Int32)), .val (.ref b11), .val (.long (own_next q0 q1 ct (own_nx ct 3) (own_rd ct 3))), .second, .val (.int ((3 : Int32) / ct)), .val (.int ((3 : Int32) % ct)), .unset, .unset] [(.long q1), (.long (((3 : Int32) / ct).toInt64)), (.long q0)])) (fun _ k_ => XS.lloadN X25.here hx rfl (hb hby at_117) rfl k_) ?_
    refine Go.st (S' := T25.setTop (mkF m 119 #[.val (.long q0), .second, .val (.long q1), .second, .val (.int p2), .val (.int p3), .val (.int p4), .val (.int ct), .val (.int (3 : Int32)), .val (.ref b11), .val (.long (own_next q0 q1 ct (own_nx ct 3) (own_rd ct 3))), .second, .val (.int ((3 : Int32) / ct)), .val (.int ((3 : Int32) % ct)), .unset, .unset] [(.long ((((3 : Int32) / ct).toInt64) * q1)), (.long q0)])) (fun _ k_ => XS.lmul X25.here hx rfl (hb hby at_118) rfl k_) ?_
    refine Go.st (S' := T25.setTop (mkF m 120 #[.val (.long q0), .second, .val (.long q1), .second, .val (.int p2), .val (.int p3), .val (.int p4), .val (.int ct), .val (.int (3 : Int32)), .val (.ref b11), .val (.long (own_next q0 q1 ct (own_nx ct 3) (own_rd ct 3))), .second, .val (.int ((3 : Int32) / ct)), .val (.int ((3 : Int32) % ct)), .unset, .unset] [(.long (q0 + ((((3 : Int32) / ct).toInt64) * q1)))])) (fun _ k_ => XS.ladd X25.here hx rfl (hb hby at_119) rfl k_) ?_
    refine Go.st (S' := T25.setTop (mkF m 121 #[.val (.long q0), .second, .val (.long q1), .second, .val (.int p2), .val (.int p3), .val (.int p4), .val (.int ct), .val (.int (3 : Int32)), .val (.ref b11), .val (.long (own_next q0 q1 ct (own_nx ct 3) (own_rd ct 3))), .second, .val (.int ((3 : Int32) / ct)), .val (.int ((3 : Int32) % ct)), .unset, .unset] [(.long q1), (.long (q0 + ((((3 : Int32) / ct).toInt64) * q1)))])) (fun _ k_ => XS.lloadN X25.here hx rfl (hb hby at_120) rfl k_) ?_
    refine Go.st (S' := T25.setTop (mkF m 123 #[.val (.long q0), .second, .val (.long q1), .second, .val (.int p2), .val (.int p3), .val (.int p4), .val (.int ct), .val (.int (3 : Int32)), .val (.ref b11), .val (.long (own_next q0 q1 ct (own_nx ct 3) (own_rd ct 3))), .second, .val (.int ((3 : Int32) / ct)), .val (.int ((3 : Int32) % ct)), .unset, .unset] [(.int ct), (.long q1), (.long (q0 + ((((3 : Int32) / ct).toInt64) * q1)))])) (fun _ k_ => XS.iload X25.here hx rfl (hb hby at_121) rfl k_) ?_
    refine Go.st (S' := T25.setTop (mkF m 125 #[.val (.long q0), .second, .val (.long q1), .second, .val (.int p2), .val (.int p3), .val (.int p4), .val (.int ct), .val (.int (3 : Int32)), .val (.ref b11), .val (.long (own_next q0 q1 ct (own_nx ct 3) (own_rd ct 3))), .second, .val (.int ((3 : Int32) / ct)), .val (.int ((3 : Int32) % ct)), .unset, .unset] [(.int ((3 : Int32) % ct)), (.int ct), (.long q1), (.long (q0 + ((((3 : Int32) / ct).toInt64) * q1)))])) (fun _ k_ => XS.iload X25.here hx rfl (hb hby at_123) rfl k_) ?_
    obtain ⟨v26, T26, h26, L26, X26, e26, hQ26, st26⟩ := callSt X25 hx hZ hown (w27 hw) (w28 hw) (w29 hw) (w30 hw) (by decide) (W := 2) (argsL := [(.long q1), (.int ct), (.int ((3 : Int32) % ct))]) (rest := [(.long (q0 + ((((3 : Int32) / ct).toInt64) * q1)))]) e25 (rm_off l Z a0 hw q1 ct ((3 : Int32) % ct) h24 n0 Z0) (by decide) (by decide) pd3 rfl (g := (mkF m 125 #[.val (.long q0), .second, .val (.long q1), .second, .val (.int p2), .val (.int p3), .val (.int p4), .val (.int ct), .val (.int (3 : Int32)), .val (.ref b11), .val (.long (own_next q0 q1 ct (own_nx ct 3) (own_rd ct 3))), .second, .val (.int ((3 : Int32) / ct)), .val (.int ((3 : Int32) % ct)), .unset, .unset] [(.int ((3 : Int32) % ct)), (.int ct), (.long q1), (.long (q0 + ((((3 : Int32) / ct).toInt64) * q1)))])) rfl (by rw [hml]; rfl) rfl (by show 2 * 0 + _ ≤ _; exact Nat.le_of_eq rfl) (hb hby at_125) (by decide) (by decide)
    obtain ⟨rfl, Nq26, hh26⟩ := hQ26
    rw [hh26] at e26
    have N26 := Fr.app N25 Nq26
    refine Go.st (S' := T26.setTop (mkF m 128 #[.val (.long q0), .second, .val (.long q1), .second, .val (.int p2), .val (.int p3), .val (.int p4), .val (.int ct), .val (.int (3 : Int32)), .val (.ref b11), .val (.long (own_next q0 q1 ct (own_nx ct 3) (own_rd ct 3))), .second, .val (.int ((3 : Int32) / ct)), .val (.int ((3 : Int32) % ct)), .unset, .unset] [(.long (own_off q1 ct ((3 : Int32) % ct))), (.long (q0 + ((((3 : Int32) / ct).toInt64) * q1)))])) (st26) ?_
    refine Go.st (S' := T26.setTop (mkF m 129 #[.val (.long q0), .second, .val (.long q1), .second, .val (.int p2), .val (.int p3), .val (.int p4), .val (.int ct), .val (.int (3 : Int32)), .val (.ref b11), .val (.long (own_next q0 q1 ct (own_nx ct 3) (own_rd ct 3))), .second, .val (.int ((3 : Int32) / ct)), .val (.int ((3 : Int32) % ct)), .unset, .unset] [(.long ((q0 + ((((3 : Int32) / ct).toInt64) * q1)) + (own_off q1 ct ((3 : Int32) % ct))))])) (fun _ k_ => XS.ladd X26.here hx rfl (hb hby at_128) rfl k_) ?_
    refine Go.st (S' := T26.setTop (mkF m 131 #[.val (.long q0), .second, .val (.long q1), .second, .val (.int p2), .val (.int p3), .val (.int p4), .val (.int ct), .val (.int (3 : Int32)), .val (.ref b11), .val (.long (own_next q0 q1 ct (own_nx ct 3) (own_rd ct 3))), .second, .val (.int ((3 : Int32) / ct)), .val (.int ((3 : Int32) % ct)), .val (.long ((q0 + ((((3 : Int32) / ct).toInt64) * q1)) + (own_off q1 ct ((3 : Int32) % ct)))), .second] [])) (fun _ k_ => XS.lstore X26.here hx rfl (hb hby at_129) rfl (l' := #[.val (.long q0), .second, .val (.long q1), .second, .val (.int p2), .val (.int p3), .val (.int p4), .val (.int ct), .val (.int (3 : Int32)), .val (.ref b11), .val (.long (own_next q0 q1 ct (own_nx ct 3) (own_rd ct 3))), .second, .val (.int ((3 : Int32) / ct)), .val (.int ((3 : Int32) % ct)), .val (.long ((q0 + ((((3 : Int32) / ct).toInt64) * q1)) + (own_off q1 ct ((3 : Int32) % ct)))), .second]) rfl k_) ?_
    refine Go.st (S' := T26.setTop (mkF m 133 #[.val (.long q0), .second, .val (.long q1), .second, .val (.int p2), .val (.int p3), .val (.int p4), .val (.int ct), .val (.int (3 : Int32)), .val (.ref b11), .val (.long (own_next q0 q1 ct (own_nx ct 3) (own_rd ct 3))), .second, .val (.int ((3 : Int32) / ct)), .val (.int ((3 : Int32) % ct)), .val (.long ((q0 + ((((3 : Int32) / ct).toInt64) * q1)) + (own_off q1 ct ((3 : Int32) % ct)))), .second] [(.long (own_next q0 q1 ct (own_nx ct 3) (own_rd ct 3)))])) (fun _ k_ => XS.lload X26.here hx rfl (hb hby at_131) rfl k_) ?_
    refine Go.st (S' := T26.setTop (mkF m 135 #[.val (.long q0), .second, .val (.long q1), .second, .val (.int p2), .val (.int p3), .val (.int p4), .val (.int ct), .val (.int (3 : Int32)), .val (.ref b11), .val (.long (own_next q0 q1 ct (own_nx ct 3) (own_rd ct 3))), .second, .val (.int ((3 : Int32) / ct)), .val (.int ((3 : Int32) % ct)), .val (.long ((q0 + ((((3 : Int32) / ct).toInt64) * q1)) + (own_off q1 ct ((3 : Int32) % ct)))), .second] [(.long ((q0 + ((((3 : Int32) / ct).toInt64) * q1)) + (own_off q1 ct ((3 : Int32) % ct)))), (.long (own_next q0 q1 ct (own_nx ct 3) (own_rd ct 3)))])) (fun _ k_ => XS.lload X26.here hx rfl (hb hby at_133) rfl k_) ?_
    refine Go.st (S' := T26.setTop (mkF m 136 #[.val (.long q0), .second, .val (.long q1), .second, .val (.int p2), .val (.int p3), .val (.int p4), .val (.int ct), .val (.int (3 : Int32)), .val (.ref b11), .val (.long (own_next q0 q1 ct (own_nx ct 3) (own_rd ct 3))), .second, .val (.int ((3 : Int32) / ct)), .val (.int ((3 : Int32) % ct)), .val (.long ((q0 + ((((3 : Int32) / ct).toInt64) * q1)) + (own_off q1 ct ((3 : Int32) % ct)))), .second] [(.int (lcmpW (own_next q0 q1 ct (own_nx ct 3) (own_rd ct 3)) ((q0 + ((((3 : Int32) / ct).toInt64) * q1)) + (own_off q1 ct ((3 : Int32) % ct)))))])) (fun _ k_ => XS.lcmp X26.here hx rfl (hb hby at_135) rfl k_) ?_
    refine Go.st (S' := T26.setTop (mkF m 139 #[.val (.long q0), .second, .val (.long q1), .second, .val (.int p2), .val (.int p3), .val (.int p4), .val (.int ct), .val (.int (3 : Int32)), .val (.ref b11), .val (.long (own_next q0 q1 ct (own_nx ct 3) (own_rd ct 3))), .second, .val (.int ((3 : Int32) / ct)), .val (.int ((3 : Int32) % ct)), .val (.long ((q0 + ((((3 : Int32) / ct).toInt64) * q1)) + (own_off q1 ct ((3 : Int32) % ct)))), .second] [])) (fun _ k_ => XS.ifNo X26.here hx rfl (hb hby at_136) rfl ((if0 _ _).trans (teq ((lw_eq _ _).mpr (own_end q0 q1 ct hct 3 (by decide)))).2) k_) ?_
    refine Go.st (S' := T26.setTop (mkF m 140 #[.val (.long q0), .second, .val (.long q1), .second, .val (.int p2), .val (.int p3), .val (.int p4), .val (.int ct), .val (.int (3 : Int32)), .val (.ref b11), .val (.long (own_next q0 q1 ct (own_nx ct 3) (own_rd ct 3))), .second, .val (.int ((3 : Int32) / ct)), .val (.int ((3 : Int32) % ct)), .val (.long ((q0 + ((((3 : Int32) / ct).toInt64) * q1)) + (own_off q1 ct ((3 : Int32) % ct)))), .second] [(.int (1 : Int32))])) (fun _ k_ => XS.iconst X26.here hx rfl (hb hby at_139) k_) ?_
    refine Go.st (S' := T26.setTop (mkF m 144 #[.val (.long q0), .second, .val (.long q1), .second, .val (.int p2), .val (.int p3), .val (.int p4), .val (.int ct), .val (.int (3 : Int32)), .val (.ref b11), .val (.long (own_next q0 q1 ct (own_nx ct 3) (own_rd ct 3))), .second, .val (.int ((3 : Int32) / ct)), .val (.int ((3 : Int32) % ct)), .val (.long ((q0 + ((((3 : Int32) / ct).toInt64) * q1)) + (own_off q1 ct ((3 : Int32) % ct)))), .second] [(.int (1 : Int32))])) (fun _ k_ => XS.goto X26.here hx rfl (pc0 := 140) (pc' := 144) rfl (hb hby at_140) (by decide) (by decide) k_) ?_
    exact Go.retN X26 hx (t := .boolean) hret (by simp) hlk (hb hby at_144) (by decide) (by decide) ⟨rfl, N26⟩
  · skip
    refine Go.st (S' := T12.setTop (mkF m 35 #[.val (.long q0), .second, .val (.long q1), .second, .val (.int p2), .val (.int p3), .val (.int p4), .val (.int ct), .val (.int (4 : Int32)), .val (.ref b11), .unset, .unset, .unset, .unset, .unset, .unset] [(.int (4 : Int32))])) (fun _ k_ => XS.iload X12.here hx rfl (hb hby at_33) rfl k_) ?_
    refine Go.st (S' := T12.setTop (mkF m 38 #[.val (.long q0), .second, .val (.long q1), .second, .val (.int p2), .val (.int p3), .val (.int p4), .val (.int ct), .val (.int (4 : Int32)), .val (.ref b11), .unset, .unset, .unset, .unset, .unset, .unset] [])) (fun _ k_ => XS.ifNo X12.here hx rfl (hb hby at_35) rfl ((if0 _ _).trans (tlt (by decide)).2.2.2) k_) ?_
    refine Go.st (S' := T12.setTop (mkF m 40 #[.val (.long q0), .second, .val (.long q1), .second, .val (.int p2), .val (.int p3), .val (.int p4), .val (.int ct), .val (.int (4 : Int32)), .val (.ref b11), .unset, .unset, .unset, .unset, .unset, .unset] [(.ref b11)])) (fun _ k_ => XS.aload X12.here hx rfl (hb hby at_38) rfl rfl k_) ?_
    obtain ⟨v27, T27, h27, L27, X27, e27, hQ27, st27⟩ := callVi X12 hx hZ hown (w31 hw) (w32 hw) (w34 hw) (w33 hw) (w3 hw) (w35 hw) (by decide) (W := 0) (argsL := []) (rest := []) e12 SP_b11.1 (sp_take l Z a0 hw b11 q0 q1 ct p3 (own_nx ct 0) (own_rd ct 0) h12 n0 Z0 SP_b11 (own_ct0 hct) g_b11) (by decide) (by decide) pd4 rfl (g := (mkF m 40 #[.val (.long q0), .second, .val (.long q1), .second, .val (.int p2), .val (.int p3), .val (.int p4), .val (.int ct), .val (.int (4 : Int32)), .val (.ref b11), .unset, .unset, .unset, .unset, .unset, .unset] [(.ref b11)])) rfl (by rw [hml]; rfl) rfl (by show 2 * 0 + _ ≤ _; exact Nat.le_of_eq rfl) (hb hby at_40) (by decide) (by decide)
    obtain ⟨rfl, Nq27, Kq27, SP_b11⟩ := hQ27
    have N27 := Fr.app N12 Nq27
    replace Z0 := Nat.le_trans Z0 Kq27.1
    replace SP_b11 : SP Z h27 b11 q0 q1 ct p3 (own_nx ct 1) (own_rd ct 1) := SP_b11
    refine Go.st (S' := T27.setTop (mkF m 43 #[.val (.long q0), .second, .val (.long q1), .second, .val (.int p2), .val (.int p3), .val (.int p4), .val (.int ct), .val (.int (4 : Int32)), .val (.ref b11), .unset, .unset, .unset, .unset, .unset, .unset] [(.int ((p3.toInt64 + (own_nx ct 0).toInt64) % ct.toInt64).toInt32)])) (st27) ?_
    refine Go.st (S' := T27.setTop (mkF m 44 #[.val (.long q0), .second, .val (.long q1), .second, .val (.int p2), .val (.int p3), .val (.int p4), .val (.int ct), .val (.int (4 : Int32)), .val (.ref b11), .unset, .unset, .unset, .unset, .unset, .unset] [])) (fun _ k_ => XS.pop X27.here hx rfl (hb hby at_43) rfl rfl k_) ?_
    refine Go.st (S' := T27.setTop (mkF m 46 #[.val (.long q0), .second, .val (.long q1), .second, .val (.int p2), .val (.int p3), .val (.int p4), .val (.int ct), .val (.int (4 : Int32)), .val (.ref b11), .unset, .unset, .unset, .unset, .unset, .unset] [(.int (4 : Int32))])) (fun _ k_ => XS.iload X27.here hx rfl (hb hby at_44) rfl k_) ?_
    refine Go.st (S' := T27.setTop (mkF m 47 #[.val (.long q0), .second, .val (.long q1), .second, .val (.int p2), .val (.int p3), .val (.int p4), .val (.int ct), .val (.int (4 : Int32)), .val (.ref b11), .unset, .unset, .unset, .unset, .unset, .unset] [(.int (1 : Int32)), (.int (4 : Int32))])) (fun _ k_ => XS.iconst X27.here hx rfl (hb hby at_46) k_) ?_
    refine Go.st (S' := T27.setTop (mkF m 50 #[.val (.long q0), .second, .val (.long q1), .second, .val (.int p2), .val (.int p3), .val (.int p4), .val (.int ct), .val (.int (4 : Int32)), .val (.ref b11), .unset, .unset, .unset, .unset, .unset, .unset] [])) (fun _ k_ => XS.icmpNo X27.here hx rfl (hb hby at_47) rfl (tlt (by decide)).2.2.2 k_) ?_
    refine Go.st (S' := T27.setTop (mkF m 52 #[.val (.long q0), .second, .val (.long q1), .second, .val (.int p2), .val (.int p3), .val (.int p4), .val (.int ct), .val (.int (4 : Int32)), .val (.ref b11), .unset, .unset, .unset, .unset, .unset, .unset] [(.ref b11)])) (fun _ k_ => XS.aload X27.here hx rfl (hb hby at_50) rfl rfl k_) ?_
    obtain ⟨v28, T28, h28, L28, X28, e28, hQ28, st28⟩ := callVi X27 hx hZ hown (w31 hw) (w32 hw) (w34 hw) (w33 hw) (w3 hw) (w35 hw) (by decide) (W := 0) (argsL := []) (rest := []) e27 SP_b11.1 (sp_take l Z a0 hw b11 q0 q1 ct p3 (own_nx ct 1) (own_rd ct 1) h27 n0 Z0 SP_b11 (own_ct0 hct) g_b11) (by decide) (by decide) pd4 rfl (g := (mkF m 52 #[.val (.long q0), .second, .val (.long q1), .second, .val (.int p2), .val (.int p3), .val (.int p4), .val (.int ct), .val (.int (4 : Int32)), .val (.ref b11), .unset, .unset, .unset, .unset, .unset, .unset] [(.ref b11)])) rfl (by rw [hml]; rfl) rfl (by show 2 * 0 + _ ≤ _; exact Nat.le_of_eq rfl) (hb hby at_52) (by decide) (by decide)
    obtain ⟨rfl, Nq28, Kq28, SP_b11⟩ := hQ28
    have N28 := Fr.app N27 Nq28
    replace Z0 := Nat.le_trans Z0 Kq28.1
    replace SP_b11 : SP Z h28 b11 q0 q1 ct p3 (own_nx ct 2) (own_rd ct 2) := SP_b11
    refine Go.st (S' := T28.setTop (mkF m 55 #[.val (.long q0), .second, .val (.long q1), .second, .val (.int p2), .val (.int p3), .val (.int p4), .val (.int ct), .val (.int (4 : Int32)), .val (.ref b11), .unset, .unset, .unset, .unset, .unset, .unset] [(.int ((p3.toInt64 + (own_nx ct 1).toInt64) % ct.toInt64).toInt32)])) (st28) ?_
    refine Go.st (S' := T28.setTop (mkF m 56 #[.val (.long q0), .second, .val (.long q1), .second, .val (.int p2), .val (.int p3), .val (.int p4), .val (.int ct), .val (.int (4 : Int32)), .val (.ref b11), .unset, .unset, .unset, .unset, .unset, .unset] [])) (fun _ k_ => XS.pop X28.here hx rfl (hb hby at_55) rfl rfl k_) ?_
    refine Go.st (S' := T28.setTop (mkF m 58 #[.val (.long q0), .second, .val (.long q1), .second, .val (.int p2), .val (.int p3), .val (.int p4), .val (.int ct), .val (.int (4 : Int32)), .val (.ref b11), .unset, .unset, .unset, .unset, .unset, .unset] [(.int (4 : Int32))])) (fun _ k_ => XS.iload X28.here hx rfl (hb hby at_56) rfl k_) ?_
    refine Go.st (S' := T28.setTop (mkF m 59 #[.val (.long q0), .second, .val (.long q1), .second, .val (.int p2), .val (.int p3), .val (.int p4), .val (.int ct), .val (.int (4 : Int32)), .val (.ref b11), .unset, .unset, .unset, .unset, .unset, .unset] [(.int (2 : Int32)), (.int (4 : Int32))])) (fun _ k_ => XS.iconst X28.here hx rfl (hb hby at_58) k_) ?_
    refine Go.st (S' := T28.setTop (mkF m 62 #[.val (.long q0), .second, .val (.long q1), .second, .val (.int p2), .val (.int p3), .val (.int p4), .val (.int ct), .val (.int (4 : Int32)), .val (.ref b11), .unset, .unset, .unset, .unset, .unset, .unset] [])) (fun _ k_ => XS.icmpNo X28.here hx rfl (hb hby at_59) rfl (tlt (by decide)).2.2.2 k_) ?_
    refine Go.st (S' := T28.setTop (mkF m 64 #[.val (.long q0), .second, .val (.long q1), .second, .val (.int p2), .val (.int p3), .val (.int p4), .val (.int ct), .val (.int (4 : Int32)), .val (.ref b11), .unset, .unset, .unset, .unset, .unset, .unset] [(.ref b11)])) (fun _ k_ => XS.aload X28.here hx rfl (hb hby at_62) rfl rfl k_) ?_
    obtain ⟨v29, T29, h29, L29, X29, e29, hQ29, st29⟩ := callVi X28 hx hZ hown (w31 hw) (w32 hw) (w34 hw) (w33 hw) (w3 hw) (w35 hw) (by decide) (W := 0) (argsL := []) (rest := []) e28 SP_b11.1 (sp_take l Z a0 hw b11 q0 q1 ct p3 (own_nx ct 2) (own_rd ct 2) h28 n0 Z0 SP_b11 (own_ct0 hct) g_b11) (by decide) (by decide) pd4 rfl (g := (mkF m 64 #[.val (.long q0), .second, .val (.long q1), .second, .val (.int p2), .val (.int p3), .val (.int p4), .val (.int ct), .val (.int (4 : Int32)), .val (.ref b11), .unset, .unset, .unset, .unset, .unset, .unset] [(.ref b11)])) rfl (by rw [hml]; rfl) rfl (by show 2 * 0 + _ ≤ _; exact Nat.le_of_eq rfl) (hb hby at_64) (by decide) (by decide)
    obtain ⟨rfl, Nq29, Kq29, SP_b11⟩ := hQ29
    have N29 := Fr.app N28 Nq29
    replace Z0 := Nat.le_trans Z0 Kq29.1
    replace SP_b11 : SP Z h29 b11 q0 q1 ct p3 (own_nx ct 3) (own_rd ct 3) := SP_b11
    refine Go.st (S' := T29.setTop (mkF m 67 #[.val (.long q0), .second, .val (.long q1), .second, .val (.int p2), .val (.int p3), .val (.int p4), .val (.int ct), .val (.int (4 : Int32)), .val (.ref b11), .unset, .unset, .unset, .unset, .unset, .unset] [(.int ((p3.toInt64 + (own_nx ct 2).toInt64) % ct.toInt64).toInt32)])) (st29) ?_
    refine Go.st (S' := T29.setTop (mkF m 68 #[.val (.long q0), .second, .val (.long q1), .second, .val (.int p2), .val (.int p3), .val (.int p4), .val (.int ct), .val (.int (4 : Int32)), .val (.ref b11), .unset, .unset, .unset, .unset, .unset, .unset] [])) (fun _ k_ => XS.pop X29.here hx rfl (hb hby at_67) rfl rfl k_) ?_
    refine Go.st (S' := T29.setTop (mkF m 70 #[.val (.long q0), .second, .val (.long q1), .second, .val (.int p2), .val (.int p3), .val (.int p4), .val (.int ct), .val (.int (4 : Int32)), .val (.ref b11), .unset, .unset, .unset, .unset, .unset, .unset] [(.int (4 : Int32))])) (fun _ k_ => XS.iload X29.here hx rfl (hb hby at_68) rfl k_) ?_
    refine Go.st (S' := T29.setTop (mkF m 71 #[.val (.long q0), .second, .val (.long q1), .second, .val (.int p2), .val (.int p3), .val (.int p4), .val (.int ct), .val (.int (4 : Int32)), .val (.ref b11), .unset, .unset, .unset, .unset, .unset, .unset] [(.int (3 : Int32)), (.int (4 : Int32))])) (fun _ k_ => XS.iconst X29.here hx rfl (hb hby at_70) k_) ?_
    refine Go.st (S' := T29.setTop (mkF m 74 #[.val (.long q0), .second, .val (.long q1), .second, .val (.int p2), .val (.int p3), .val (.int p4), .val (.int ct), .val (.int (4 : Int32)), .val (.ref b11), .unset, .unset, .unset, .unset, .unset, .unset] [])) (fun _ k_ => XS.icmpNo X29.here hx rfl (hb hby at_71) rfl (tlt (by decide)).2.2.2 k_) ?_
    refine Go.st (S' := T29.setTop (mkF m 76 #[.val (.long q0), .second, .val (.long q1), .second, .val (.int p2), .val (.int p3), .val (.int p4), .val (.int ct), .val (.int (4 : Int32)), .val (.ref b11), .unset, .unset, .unset, .unset, .unset, .unset] [(.ref b11)])) (fun _ k_ => XS.aload X29.here hx rfl (hb hby at_74) rfl rfl k_) ?_
    obtain ⟨v30, T30, h30, L30, X30, e30, hQ30, st30⟩ := callVi X29 hx hZ hown (w31 hw) (w32 hw) (w34 hw) (w33 hw) (w3 hw) (w35 hw) (by decide) (W := 0) (argsL := []) (rest := []) e29 SP_b11.1 (sp_take l Z a0 hw b11 q0 q1 ct p3 (own_nx ct 3) (own_rd ct 3) h29 n0 Z0 SP_b11 (own_ct0 hct) g_b11) (by decide) (by decide) pd4 rfl (g := (mkF m 76 #[.val (.long q0), .second, .val (.long q1), .second, .val (.int p2), .val (.int p3), .val (.int p4), .val (.int ct), .val (.int (4 : Int32)), .val (.ref b11), .unset, .unset, .unset, .unset, .unset, .unset] [(.ref b11)])) rfl (by rw [hml]; rfl) rfl (by show 2 * 0 + _ ≤ _; exact Nat.le_of_eq rfl) (hb hby at_76) (by decide) (by decide)
    obtain ⟨rfl, Nq30, Kq30, SP_b11⟩ := hQ30
    have N30 := Fr.app N29 Nq30
    replace Z0 := Nat.le_trans Z0 Kq30.1
    replace SP_b11 : SP Z h30 b11 q0 q1 ct p3 (own_nx ct 4) (own_rd ct 4) := SP_b11
    refine Go.st (S' := T30.setTop (mkF m 79 #[.val (.long q0), .second, .val (.long q1), .second, .val (.int p2), .val (.int p3), .val (.int p4), .val (.int ct), .val (.int (4 : Int32)), .val (.ref b11), .unset, .unset, .unset, .unset, .unset, .unset] [(.int ((p3.toInt64 + (own_nx ct 3).toInt64) % ct.toInt64).toInt32)])) (st30) ?_
    refine Go.st (S' := T30.setTop (mkF m 80 #[.val (.long q0), .second, .val (.long q1), .second, .val (.int p2), .val (.int p3), .val (.int p4), .val (.int ct), .val (.int (4 : Int32)), .val (.ref b11), .unset, .unset, .unset, .unset, .unset, .unset] [])) (fun _ k_ => XS.pop X30.here hx rfl (hb hby at_79) rfl rfl k_) ?_
    refine Go.st (S' := T30.setTop (mkF m 82 #[.val (.long q0), .second, .val (.long q1), .second, .val (.int p2), .val (.int p3), .val (.int p4), .val (.int ct), .val (.int (4 : Int32)), .val (.ref b11), .unset, .unset, .unset, .unset, .unset, .unset] [(.int (4 : Int32))])) (fun _ k_ => XS.iload X30.here hx rfl (hb hby at_80) rfl k_) ?_
    refine Go.st (S' := T30.setTop (mkF m 83 #[.val (.long q0), .second, .val (.long q1), .second, .val (.int p2), .val (.int p3), .val (.int p4), .val (.int ct), .val (.int (4 : Int32)), .val (.ref b11), .unset, .unset, .unset, .unset, .unset, .unset] [(.int (4 : Int32)), (.int (4 : Int32))])) (fun _ k_ => XS.iconst X30.here hx rfl (hb hby at_82) k_) ?_
    refine Go.st (S' := T30.setTop (mkF m 92 #[.val (.long q0), .second, .val (.long q1), .second, .val (.int p2), .val (.int p3), .val (.int p4), .val (.int ct), .val (.int (4 : Int32)), .val (.ref b11), .unset, .unset, .unset, .unset, .unset, .unset] [])) (fun _ k_ => XS.icmpYes X30.here hx rfl (pc0 := 83) (pc' := 92) rfl (hb hby at_83) rfl (flt (by decide)).2.2.2 (by decide) (by decide) k_) ?_
    refine Go.st (S' := T30.setTop (mkF m 94 #[.val (.long q0), .second, .val (.long q1), .second, .val (.int p2), .val (.int p3), .val (.int p4), .val (.int ct), .val (.int (4 : Int32)), .val (.ref b11), .unset, .unset, .unset, .unset, .unset, .unset] [(.ref b11)])) (fun _ k_ => XS.aload X30.here hx rfl (hb hby at_92) rfl rfl k_) ?_
    obtain ⟨v31, T31, h31, L31, X31, e31, hQ31, st31⟩ := callVi X30 hx hZ hown (w18 hw) (w19 hw) (w21 hw) (w20 hw) (w3 hw) (w22 hw) (by decide) (W := 0) (argsL := []) (rest := []) e30 SP_b11.1 (sp_next l Z a0 hw b11 q0 q1 ct p3 (own_nx ct 4) (own_rd ct 4) h30 n0 Z0 SP_b11 (own_ct0 hct)) (by decide) (by decide) pd2 rfl (g := (mkF m 94 #[.val (.long q0), .second, .val (.long q1), .second, .val (.int p2), .val (.int p3), .val (.int p4), .val (.int ct), .val (.int (4 : Int32)), .val (.ref b11), .unset, .unset, .unset, .unset, .unset, .unset] [(.ref b11)])) rfl (by rw [hml]; rfl) rfl (by show 2 * 0 + _ ≤ _; exact Nat.le_of_eq rfl) (hb hby at_94) (by decide) (by decide)
    obtain ⟨rfl, Nq31, hh31⟩ := hQ31
    rw [hh31] at e31
    have N31 := Fr.app N30 Nq31
    refine Go.st (S' := T31.setTop (mkF m 97 #[.val (.long q0), .second, .val (.long q1), .second, .val (.int p2), .val (.int p3), .val (.int p4), .val (.int ct), .val (.int (4 : Int32)), .val (.ref b11), .unset, .unset, .unset, .unset, .unset, .unset] [(.long (own_next q0 q1 ct (own_nx ct 4) (own_rd ct 4)))])) (st31) ?_
    refine Go.st (S' := T31.setTop (mkF m 99 #[.val (.long q0), .second, .val (.long q1), .second, .val (.int p2), .val (.int p3), .val (.int p4), .val (.int ct), .val (.int (4 : Int32)), .val (.ref b11), .val (.long (own_next q0 q1 ct (own_nx ct 4) (own_rd ct 4))), .second, .unset, .unset, .unset, .unset] [])) (fun _ k_ => XS.lstore X31.here hx rfl (hb hby at_97) rfl (l' := #[.val (.long q0), .second, .val (.long q1), .second, .val (.int p2), .val (.int p3), .val (.int p4), .val (.int ct), .val (.int (4 : Int32)), .val (.ref b11), .val (.long (own_next q0 q1 ct (own_nx ct 4) (own_rd ct 4))), .second, .unset, .unset, .unset, .unset]) rfl k_) ?_
    refine Go.st (S' := T31.setTop (mkF m 101 #[.val (.long q0), .second, .val (.long q1), .second, .val (.int p2), .val (.int p3), .val (.int p4), .val (.int ct), .val (.int (4 : Int32)), .val (.ref b11), .val (.long (own_next q0 q1 ct (own_nx ct 4) (own_rd ct 4))), .second, .unset, .unset, .unset, .unset] [(.int (4 : Int32))])) (fun _ k_ => XS.iload X31.here hx rfl (hb hby at_99) rfl k_) ?_
    refine Go.st (S' := T31.setTop (mkF m 103 #[.val (.long q0), .second, .val (.long q1), .second, .val (.int p2), .val (.int p3), .val (.int p4), .val (.int ct), .val (.int (4 : Int32)), .val (.ref b11), .val (.long (own_next q0 q1 ct (own_nx ct 4) (own_rd ct 4))), .second, .unset, .unset, .unset, .unset] [(.int ct), (.int (4 : Int32))])) (fun _ k_ => XS.iload X31.here hx rfl (hb hby at_101) rfl k_) ?_
    refine Go.st (S' := T31.setTop (mkF m 104 #[.val (.long q0), .second, .val (.long q1), .second, .val (.int p2), .val (.int p3), .val (.int p4), .val (.int ct), .val (.int (4 : Int32)), .val (.ref b11), .val (.long (own_next q0 q1 ct (own_nx ct 4) (own_rd ct 4))), .second, .unset, .unset, .unset, .unset] [(.int ((4 : Int32) / ct))])) (fun _ k_ => XS.idiv X31.here hx rfl (hb hby at_103) rfl (own_ct0 hct) k_) ?_
    refine Go.st (S' := T31.setTop (mkF m 106 #[.val (.long q0), .second, .val (.long q1), .second, .val (.int p2), .val (.int p3), .val (.int p4), .val (.int ct), .val (.int (4 : Int32)), .val (.ref b11), .val (.long (own_next q0 q1 ct (own_nx ct 4) (own_rd ct 4))), .second, .val (.int ((4 : Int32) / ct)), .unset, .unset, .unset] [])) (fun _ k_ => XS.istore X31.here hx rfl (hb hby at_104) rfl (l' := #[.val (.long q0), .second, .val (.long q1), .second, .val (.int p2), .val (.int p3), .val (.int p4), .val (.int ct), .val (.int (4 : Int32)), .val (.ref b11), .val (.long (own_next q0 q1 ct (own_nx ct 4) (own_rd ct 4))), .second, .val (.int ((4 : Int32) / ct)), .unset, .unset, .unset]) rfl k_) ?_
    refine Go.st (S' := T31.setTop (mkF m 108 #[.val (.long q0), .second, .val (.long q1), .second, .val (.int p2), .val (.int p3), .val (.int p4), .val (.int ct), .val (.int (4 : Int32)), .val (.ref b11), .val (.long (own_next q0 q1 ct (own_nx ct 4) (own_rd ct 4))), .second, .val (.int ((4 : Int32) / ct)), .unset, .unset, .unset] [(.int (4 : Int32))])) (fun _ k_ => XS.iload X31.here hx rfl (hb hby at_106) rfl k_) ?_
    refine Go.st (S' := T31.setTop (mkF m 110 #[.val (.long q0), .second, .val (.long q1), .second, .val (.int p2), .val (.int p3), .val (.int p4), .val (.int ct), .val (.int (4 : Int32)), .val (.ref b11), .val (.long (own_next q0 q1 ct (own_nx ct 4) (own_rd ct 4))), .second, .val (.int ((4 : Int32) / ct)), .unset, .unset, .unset] [(.int ct), (.int (4 : Int32))])) (fun _ k_ => XS.iload X31.here hx rfl (hb hby at_108) rfl k_) ?_
    refine Go.st (S' := T31.setTop (mkF m 111 #[.val (.long q0), .second, .val (.long q1), .second, .val (.int p2), .val (.int p3), .val (.int p4), .val (.int ct), .val (.int (4 : Int32)), .val (.ref b11), .val (.long (own_next q0 q1 ct (own_nx ct 4) (own_rd ct 4))), .second, .val (.int ((4 : Int32) / ct)), .unset, .unset, .unset] [(.int ((4 : Int32) % ct))])) (fun _ k_ => iremM X31 hx rfl (hb hby at_110) rfl (own_ct0 hct) k_) ?_
    refine Go.st (S' := T31.setTop (mkF m 113 #[.val (.long q0), .second, .val (.long q1), .second, .val (.int p2), .val (.int p3), .val (.int p4), .val (.int ct), .val (.int (4 : Int32)), .val (.ref b11), .val (.long (own_next q0 q1 ct (own_nx ct 4) (own_rd ct 4))), .second, .val (.int ((4 : Int32) / ct)), .val (.int ((4 : Int32) % ct)), .unset, .unset] [])) (fun _ k_ => XS.istore X31.here hx rfl (hb hby at_111) rfl (l' := #[.val (.long q0), .second, .val (.long q1), .second, .val (.int p2), .val (.int p3), .val (.int p4), .val (.int ct), .val (.int (4 : Int32)), .val (.ref b11), .val (.long (own_next q0 q1 ct (own_nx ct 4) (own_rd ct 4))), .second, .val (.int ((4 : Int32) / ct)), .val (.int ((4 : Int32) % ct)), .unset, .unset]) rfl k_) ?_
    refine Go.st (S' := T31.setTop (mkF m 114 #[.val (.long q0), .second, .val (.long q1), .second, .val (.int p2), .val (.int p3), .val (.int p4), .val (.int ct), .val (.int (4 : Int32)), .val (.ref b11), .val (.long (own_next q0 q1 ct (own_nx ct 4) (own_rd ct 4))), .second, .val (.int ((4 : Int32) / ct)), .val (.int ((4 : Int32) % ct)), .unset, .unset] [(.long q0)])) (fun _ k_ => XS.lloadN X31.here hx rfl (hb hby at_113) rfl k_) ?_
    refine Go.st (S' := T31.setTop (mkF m 116 #[.val (.long q0), .second, .val (.long q1), .second, .val (.int p2), .val (.int p3), .val (.int p4), .val (.int ct), .val (.int (4 : Int32)), .val (.ref b11), .val (.long (own_next q0 q1 ct (own_nx ct 4) (own_rd ct 4))), .second, .val (.int ((4 : Int32) / ct)), .val (.int ((4 : Int32) % ct)), .unset, .unset] [(.int ((4 : Int32) / ct)), (.long q0)])) (fun _ k_ => XS.iload X31.here hx rfl (hb hby at_114) rfl k_) ?_
    refine Go.st (S' := T31.setTop (mkF m 117 #[.val (.long q0), .second, .val (.long q1), .second, .val (.int p2), .val (.int p3), .val (.int p4), .val (.int ct), .val (.int (4 : Int32)), .val (.ref b11), .val (.long (own_next q0 q1 ct (own_nx ct 4) (own_rd ct 4))), .second, .val (.int ((4 : Int32) / ct)), .val (.int ((4 : Int32) % ct)), .unset, .unset] [(.long (((4 : Int32) / ct).toInt64)), (.long q0)])) (fun _ k_ => XS.i2l X31.here hx rfl (hb hby at_116) rfl k_) ?_
    refine Go.st (S' := T31.setTop (mkF m 118 #[.val (.long q0), .second, .val (.long q1), .second, .val (.int p2), .val (.int p3), .val (.int p4), .val (.int ct), .val (.int (4 : Int32)), .val (.ref b11), .val (.long (own_next q0 q1 ct (own_nx ct 4) (own_rd ct 4))), .second, .val (.int ((4 : Int32) / ct)), .val (.int ((4 : Int32) % ct)), .unset, .unset] [(.long q1), (.long (((4 : Int32) / ct).toInt64)), (.long q0)])) (fun _ k_ => XS.lloadN X31.here hx rfl (hb hby at_117) rfl k_) ?_
    refine Go.st (S' := T31.setTop (mkF m 119 #[.val (.long q0), .second, .val (.long q1), .second, .val (.int p2), .val (.int p3), .val (.int p4), .val (.int ct), .val (.int (4 : Int32)), .val (.ref b11), .val (.long (own_next q0 q1 ct (own_nx ct 4) (own_rd ct 4))), .second, .val (.int ((4 : Int32) / ct)), .val (.int ((4 : Int32) % ct)), .unset, .unset] [(.long ((((4 : Int32) / ct).toInt64) * q1)), (.long q0)])) (fun _ k_ => XS.lmul X31.here hx rfl (hb hby at_118) rfl k_) ?_
    refine Go.st (S' := T31.setTop (mkF m 120 #[.val (.long q0), .second, .val (.long q1), .second, .val (.int p2), .val (.int p3), .val (.int p4), .val (.int ct), .val (.int (4 : Int32)), .val (.ref b11), .val (.long (own_next q0 q1 ct (own_nx ct 4) (own_rd ct 4))), .second, .val (.int ((4 : Int32) / ct)), .val (.int ((4 : Int32) % ct)), .unset, .unset] [(.long (q0 + ((((4 : Int32) / ct).toInt64) * q1)))])) (fun _ k_ => XS.ladd X31.here hx rfl (hb hby at_119) rfl k_) ?_
    refine Go.st (S' := T31.setTop (mkF m 121 #[.val (.long q0), .second, .val (.long q1), .second, .val (.int p2), .val (.int p3), .val (.int p4), .val (.int ct), .val (.int (4 : Int32)), .val (.ref b11), .val (.long (own_next q0 q1 ct (own_nx ct 4) (own_rd ct 4))), .second, .val (.int ((4 : Int32) / ct)), .val (.int ((4 : Int32) % ct)), .unset, .unset] [(.long q1), (.long (q0 + ((((4 : Int32) / ct).toInt64) * q1)))])) (fun _ k_ => XS.lloadN X31.here hx rfl (hb hby at_120) rfl k_) ?_
    refine Go.st (S' := T31.setTop (mkF m 123 #[.val (.long q0), .second, .val (.long q1), .second, .val (.int p2), .val (.int p3), .val (.int p4), .val (.int ct), .val (.int (4 : Int32)), .val (.ref b11), .val (.long (own_next q0 q1 ct (own_nx ct 4) (own_rd ct 4))), .second, .val (.int ((4 : Int32) / ct)), .val (.int ((4 : Int32) % ct)), .unset, .unset] [(.int ct), (.long q1), (.long (q0 + ((((4 : Int32) / ct).toInt64) * q1)))])) (fun _ k_ => XS.iload X31.here hx rfl (hb hby at_121) rfl k_) ?_
    refine Go.st (S' := T31.setTop (mkF m 125 #[.val (.long q0), .second, .val (.long q1), .second, .val (.int p2), .val (.int p3), .val (.int p4), .val (.int ct), .val (.int (4 : Int32)), .val (.ref b11), .val (.long (own_next q0 q1 ct (own_nx ct 4) (own_rd ct 4))), .second, .val (.int ((4 : Int32) / ct)), .val (.int ((4 : Int32) % ct)), .unset, .unset] [(.int ((4 : Int32) % ct)), (.int ct), (.long q1), (.long (q0 + ((((4 : Int32) / ct).toInt64) * q1)))])) (fun _ k_ => XS.iload X31.here hx rfl (hb hby at_123) rfl k_) ?_
    obtain ⟨v32, T32, h32, L32, X32, e32, hQ32, st32⟩ := callSt X31 hx hZ hown (w27 hw) (w28 hw) (w29 hw) (w30 hw) (by decide) (W := 2) (argsL := [(.long q1), (.int ct), (.int ((4 : Int32) % ct))]) (rest := [(.long (q0 + ((((4 : Int32) / ct).toInt64) * q1)))]) e31 (rm_off l Z a0 hw q1 ct ((4 : Int32) % ct) h30 n0 Z0) (by decide) (by decide) pd3 rfl (g := (mkF m 125 #[.val (.long q0), .second, .val (.long q1), .second, .val (.int p2), .val (.int p3), .val (.int p4), .val (.int ct), .val (.int (4 : Int32)), .val (.ref b11), .val (.long (own_next q0 q1 ct (own_nx ct 4) (own_rd ct 4))), .second, .val (.int ((4 : Int32) / ct)), .val (.int ((4 : Int32) % ct)), .unset, .unset] [(.int ((4 : Int32) % ct)), (.int ct), (.long q1), (.long (q0 + ((((4 : Int32) / ct).toInt64) * q1)))])) rfl (by rw [hml]; rfl) rfl (by show 2 * 0 + _ ≤ _; exact Nat.le_of_eq rfl) (hb hby at_125) (by decide) (by decide)
    obtain ⟨rfl, Nq32, hh32⟩ := hQ32
    rw [hh32] at e32
    have N32 := Fr.app N31 Nq32
    refine Go.st (S' := T32.setTop (mkF m 128 #[.val (.long q0), .second, .val (.long q1), .second, .val (.int p2), .val (.int p3), .val (.int p4), .val (.int ct), .val (.int (4 : Int32)), .val (.ref b11), .val (.long (own_next q0 q1 ct (own_nx ct 4) (own_rd ct 4))), .second, .val (.int ((4 : Int32) / ct)), .val (.int ((4 : Int32) % ct)), .unset, .unset] [(.long (own_off q1 ct ((4 : Int32) % ct))), (.long (q0 + ((((4 : Int32) / ct).toInt64) * q1)))])) (st32) ?_
    refine Go.st (S' := T32.setTop (mkF m 129 #[.val (.long q0), .second, .val (.long q1), .second, .val (.int p2), .val (.int p3), .val (.int p4), .val (.int ct), .val (.int (4 : Int32)), .val (.ref b11), .val (.long (own_next q0 q1 ct (own_nx ct 4) (own_rd ct 4))), .second, .val (.int ((4 : Int32) / ct)), .val (.int ((4 : Int32) % ct)), .unset, .unset] [(.long ((q0 + ((((4 : Int32) / ct).toInt64) * q1)) + (own_off q1 ct ((4 : Int32) % ct))))])) (fun _ k_ => XS.ladd X32.here hx rfl (hb hby at_128) rfl k_) ?_
    refine Go.st (S' := T32.setTop (mkF m 131 #[.val (.long q0), .second, .val (.long q1), .second, .val (.int p2), .val (.int p3), .val (.int p4), .val (.int ct), .val (.int (4 : Int32)), .val (.ref b11), .val (.long (own_next q0 q1 ct (own_nx ct 4) (own_rd ct 4))), .second, .val (.int ((4 : Int32) / ct)), .val (.int ((4 : Int32) % ct)), .val (.long ((q0 + ((((4 : Int32) / ct).toInt64) * q1)) + (own_off q1 ct ((4 : Int32) % ct)))), .second] [])) (fun _ k_ => XS.lstore X32.here hx rfl (hb hby at_129) rfl (l' := #[.val (.long q0), .second, .val (.long q1), .second, .val (.int p2), .val (.int p3), .val (.int p4), .val (.int ct), .val (.int (4 : Int32)), .val (.ref b11), .val (.long (own_next q0 q1 ct (own_nx ct 4) (own_rd ct 4))), .second, .val (.int ((4 : Int32) / ct)), .val (.int ((4 : Int32) % ct)), .val (.long ((q0 + ((((4 : Int32) / ct).toInt64) * q1)) + (own_off q1 ct ((4 : Int32) % ct)))), .second]) rfl k_) ?_
    refine Go.st (S' := T32.setTop (mkF m 133 #[.val (.long q0), .second, .val (.long q1), .second, .val (.int p2), .val (.int p3), .val (.int p4), .val (.int ct), .val (.int (4 : Int32)), .val (.ref b11), .val (.long (own_next q0 q1 ct (own_nx ct 4) (own_rd ct 4))), .second, .val (.int ((4 : Int32) / ct)), .val (.int ((4 : Int32) % ct)), .val (.long ((q0 + ((((4 : Int32) / ct).toInt64) * q1)) + (own_off q1 ct ((4 : Int32) % ct)))), .second] [(.long (own_next q0 q1 ct (own_nx ct 4) (own_rd ct 4)))])) (fun _ k_ => XS.lload X32.here hx rfl (hb hby at_131) rfl k_) ?_
    refine Go.st (S' := T32.setTop (mkF m 135 #[.val (.long q0), .second, .val (.long q1), .second, .val (.int p2), .val (.int p3), .val (.int p4), .val (.int ct), .val (.int (4 : Int32)), .val (.ref b11), .val (.long (own_next q0 q1 ct (own_nx ct 4) (own_rd ct 4))), .second, .val (.int ((4 : Int32) / ct)), .val (.int ((4 : Int32) % ct)), .val (.long ((q0 + ((((4 : Int32) / ct).toInt64) * q1)) + (own_off q1 ct ((4 : Int32) % ct)))), .second] [(.long ((q0 + ((((4 : Int32) / ct).toInt64) * q1)) + (own_off q1 ct ((4 : Int32) % ct)))), (.long (own_next q0 q1 ct (own_nx ct 4) (own_rd ct 4)))])) (fun _ k_ => XS.lload X32.here hx rfl (hb hby at_133) rfl k_) ?_
    refine Go.st (S' := T32.setTop (mkF m 136 #[.val (.long q0), .second, .val (.long q1), .second, .val (.int p2), .val (.int p3), .val (.int p4), .val (.int ct), .val (.int (4 : Int32)), .val (.ref b11), .val (.long (own_next q0 q1 ct (own_nx ct 4) (own_rd ct 4))), .second, .val (.int ((4 : Int32) / ct)), .val (.int ((4 : Int32) % ct)), .val (.long ((q0 + ((((4 : Int32) / ct).toInt64) * q1)) + (own_off q1 ct ((4 : Int32) % ct)))), .second] [(.int (lcmpW (own_next q0 q1 ct (own_nx ct 4) (own_rd ct 4)) ((q0 + ((((4 : Int32) / ct).toInt64) * q1)) + (own_off q1 ct ((4 : Int32) % ct)))))])) (fun _ k_ => XS.lcmp X32.here hx rfl (hb hby at_135) rfl k_) ?_
    refine Go.st (S' := T32.setTop (mkF m 139 #[.val (.long q0), .second, .val (.long q1), .second, .val (.int p2), .val (.int p3), .val (.int p4), .val (.int ct), .val (.int (4 : Int32)), .val (.ref b11), .val (.long (own_next q0 q1 ct (own_nx ct 4) (own_rd ct 4))), .second, .val (.int ((4 : Int32) / ct)), .val (.int ((4 : Int32) % ct)), .val (.long ((q0 + ((((4 : Int32) / ct).toInt64) * q1)) + (own_off q1 ct ((4 : Int32) % ct)))), .second] [])) (fun _ k_ => XS.ifNo X32.here hx rfl (hb hby at_136) rfl ((if0 _ _).trans (teq ((lw_eq _ _).mpr (own_end q0 q1 ct hct 4 (by decide)))).2) k_) ?_
    refine Go.st (S' := T32.setTop (mkF m 140 #[.val (.long q0), .second, .val (.long q1), .second, .val (.int p2), .val (.int p3), .val (.int p4), .val (.int ct), .val (.int (4 : Int32)), .val (.ref b11), .val (.long (own_next q0 q1 ct (own_nx ct 4) (own_rd ct 4))), .second, .val (.int ((4 : Int32) / ct)), .val (.int ((4 : Int32) % ct)), .val (.long ((q0 + ((((4 : Int32) / ct).toInt64) * q1)) + (own_off q1 ct ((4 : Int32) % ct)))), .second] [(.int (1 : Int32))])) (fun _ k_ => XS.iconst X32.here hx rfl (hb hby at_139) k_) ?_
    refine Go.st (S' := T32.setTop (mkF m 144 #[.val (.long q0), .second, .val (.long q1), .second, .val (.int p2), .val (.int p3), .val (.int p4), .val (.int ct), .val (.int (4 : Int32)), .val (.ref b11), .val (.long (own_next q0 q1 ct (own_nx ct 4) (own_rd ct 4))), .second, .val (.int ((4 : Int32) / ct)), .val (.int ((4 : Int32) % ct)), .val (.long ((q0 + ((((4 : Int32) / ct).toInt64) * q1)) + (own_off q1 ct ((4 : Int32) % ct)))), .second] [(.int (1 : Int32))])) (fun _ k_ => XS.goto X32.here hx rfl (pc0 := 140) (pc' := 144) rfl (hb hby at_140) (by decide) (by decide) k_) ?_
    exact Go.retN X32 hx (t := .boolean) hret (by simp) hlk (hb hby at_144) (by decide) (by decide) ⟨rfl, N32⟩
  · skip
    refine Go.st (S' := T12.setTop (mkF m 35 #[.val (.long q0), .second, .val (.long q1), .second, .val (.int p2), .val (.int p3), .val (.int p4), .val (.int ct), .val (.int (5 : Int32)), .val (.ref b11), .unset, .unset, .unset, .unset, .unset, .unset] [(.int (5 : Int32))])) (fun _ k_ => XS.iload X12.here hx rfl (hb hby at_33) rfl k_) ?_
    refine Go.st (S' := T12.setTop (mkF m 38 #[.val (.long q0), .second, .val (.long q1), .second, .val (.int p2), .val (.int p3), .val (.int p4), .val (.int ct), .val (.int (5 : Int32)), .val (.ref b11), .unset, .unset, .unset, .unset, .unset, .unset] [])) (fun _ k_ => XS.ifNo X12.here hx rfl (hb hby at_35) rfl ((if0 _ _).trans (tlt (by decide)).2.2.2) k_) ?_
    refine Go.st (S' := T12.setTop (mkF m 40 #[.val (.long q0), .second, .val (.long q1), .second, .val (.int p2), .val (.int p3), .val (.int p4), .val (.int ct), .val (.int (5 : Int32)), .val (.ref b11), .unset, .unset, .unset, .unset, .unset, .unset] [(.ref b11)])) (fun _ k_ => XS.aload X12.here hx rfl (hb hby at_38) rfl rfl k_) ?_
    obtain ⟨v33, T33, h33, L33, X33, e33, hQ33, st33⟩ := callVi X12 hx hZ hown (w31 hw) (w32 hw) (w34 hw) (w33 hw) (w3 hw) (w35 hw) (by decide) (W := 0) (argsL := []) (rest := []) e12 SP_b11.1 (sp_take l Z a0 hw b11 q0 q1 ct p3 (own_nx ct 0) (own_rd ct 0) h12 n0 Z0 SP_b11 (own_ct0 hct) g_b11) (by decide) (by decide) pd4 rfl (g := (mkF m 40 #[.val (.long q0), .second, .val (.long q1), .second, .val (.int p2), .val (.int p3), .val (.int p4), .val (.int ct), .val (.int (5 : Int32)), .val (.ref b11), .unset, .unset, .unset, .unset, .unset, .unset] [(.ref b11)])) rfl (by rw [hml]; rfl) rfl (by show 2 * 0 + _ ≤ _; exact Nat.le_of_eq rfl) (hb hby at_40) (by decide) (by decide)
    obtain ⟨rfl, Nq33, Kq33, SP_b11⟩ := hQ33
    have N33 := Fr.app N12 Nq33
    replace Z0 := Nat.le_trans Z0 Kq33.1
    replace SP_b11 : SP Z h33 b11 q0 q1 ct p3 (own_nx ct 1) (own_rd ct 1) := SP_b11
    refine Go.st (S' := T33.setTop (mkF m 43 #[.val (.long q0), .second, .val (.long q1), .second, .val (.int p2), .val (.int p3), .val (.int p4), .val (.int ct), .val (.int (5 : Int32)), .val (.ref b11), .unset, .unset, .unset, .unset, .unset, .unset] [(.int ((p3.toInt64 + (own_nx ct 0).toInt64) % ct.toInt64).toInt32)])) (st33) ?_
    refine Go.st (S' := T33.setTop (mkF m 44 #[.val (.long q0), .second, .val (.long q1), .second, .val (.int p2), .val (.int p3), .val (.int p4), .val (.int ct), .val (.int (5 : Int32)), .val (.ref b11), .unset, .unset, .unset, .unset, .unset, .unset] [])) (fun _ k_ => XS.pop X33.here hx rfl (hb hby at_43) rfl rfl k_) ?_
    refine Go.st (S' := T33.setTop (mkF m 46 #[.val (.long q0), .second, .val (.long q1), .second, .val (.int p2), .val (.int p3), .val (.int p4), .val (.int ct), .val (.int (5 : Int32)), .val (.ref b11), .unset, .unset, .unset, .unset, .unset, .unset] [(.int (5 : Int32))])) (fun _ k_ => XS.iload X33.here hx rfl (hb hby at_44) rfl k_) ?_
    refine Go.st (S' := T33.setTop (mkF m 47 #[.val (.long q0), .second, .val (.long q1), .second, .val (.int p2), .val (.int p3), .val (.int p4), .val (.int ct), .val (.int (5 : Int32)), .val (.ref b11), .unset, .unset, .unset, .unset, .unset, .unset] [(.int (1 : Int32)), (.int (5 : Int32))])) (fun _ k_ => XS.iconst X33.here hx rfl (hb hby at_46) k_) ?_
    refine Go.st (S' := T33.setTop (mkF m 50 #[.val (.long q0), .second, .val (.long q1), .second, .val (.int p2), .val (.int p3), .val (.int p4), .val (.int ct), .val (.int (5 : Int32)), .val (.ref b11), .unset, .unset, .unset, .unset, .unset, .unset] [])) (fun _ k_ => XS.icmpNo X33.here hx rfl (hb hby at_47) rfl (tlt (by decide)).2.2.2 k_) ?_
    refine Go.st (S' := T33.setTop (mkF m 52 #[.val (.long q0), .second, .val (.long q1), .second, .val (.int p2), .val (.int p3), .val (.int p4), .val (.int ct), .val (.int (5 : Int32)), .val (.ref b11), .unset, .unset, .unset, .unset, .unset, .unset] [(.ref b11)])) (fun _ k_ => XS.aload X33.here hx rfl (hb hby at_50) rfl rfl k_) ?_
    obtain ⟨v34, T34, h34, L34, X34, e34, hQ34, st34⟩ := callVi X33 hx hZ hown (w31 hw) (w32 hw) (w34 hw) (w33 hw) (w3 hw) (w35 hw) (by decide) (W := 0) (argsL := []) (rest := []) e33 SP_b11.1 (sp_take l Z a0 hw b11 q0 q1 ct p3 (own_nx ct 1) (own_rd ct 1) h33 n0 Z0 SP_b11 (own_ct0 hct) g_b11) (by decide) (by decide) pd4 rfl (g := (mkF m 52 #[.val (.long q0), .second, .val (.long q1), .second, .val (.int p2), .val (.int p3), .val (.int p4), .val (.int ct), .val (.int (5 : Int32)), .val (.ref b11), .unset, .unset, .unset, .unset, .unset, .unset] [(.ref b11)])) rfl (by rw [hml]; rfl) rfl (by show 2 * 0 + _ ≤ _; exact Nat.le_of_eq rfl) (hb hby at_52) (by decide) (by decide)
    obtain ⟨rfl, Nq34, Kq34, SP_b11⟩ := hQ34
    have N34 := Fr.app N33 Nq34
    replace Z0 := Nat.le_trans Z0 Kq34.1
    replace SP_b11 : SP Z h34 b11 q0 q1 ct p3 (own_nx ct 2) (own_rd ct 2) := SP_b11
    refine Go.st (S' := T34.setTop (mkF m 55 #[.val (.long q0), .second, .val (.long q1), .second, .val (.int p2), .val (.int p3), .val (.int p4), .val (.int ct), .val (.int (5 : Int32)), .val (.ref b11), .unset, .unset, .unset, .unset, .unset, .unset] [(.int ((p3.toInt64 + (own_nx ct 1).toInt64) % ct.toInt64).toInt32)])) (st34) ?_
    refine Go.st (S' := T34.setTop (mkF m 56 #[.val (.long q0), .second, .val (.long q1), .second, .val (.int p2), .val (.int p3), .val (.int p4), .val (.int ct), .val (.int (5 : Int32)), .val (.ref b11), .unset, .unset, .unset, .unset, .unset, .unset] [])) (fun _ k_ => XS.pop X34.here hx rfl (hb hby at_55) rfl rfl k_) ?_
    refine Go.st (S' := T34.setTop (mkF m 58 #[.val (.long q0), .second, .val (.long q1), .second, .val (.int p2), .val (.int p3), .val (.int p4), .val (.int ct), .val (.int (5 : Int32)), .val (.ref b11), .unset, .unset, .unset, .unset, .unset, .unset] [(.int (5 : Int32))])) (fun _ k_ => XS.iload X34.here hx rfl (hb hby at_56) rfl k_) ?_
    refine Go.st (S' := T34.setTop (mkF m 59 #[.val (.long q0), .second, .val (.long q1), .second, .val (.int p2), .val (.int p3), .val (.int p4), .val (.int ct), .val (.int (5 : Int32)), .val (.ref b11), .unset, .unset, .unset, .unset, .unset, .unset] [(.int (2 : Int32)), (.int (5 : Int32))])) (fun _ k_ => XS.iconst X34.here hx rfl (hb hby at_58) k_) ?_
    refine Go.st (S' := T34.setTop (mkF m 62 #[.val (.long q0), .second, .val (.long q1), .second, .val (.int p2), .val (.int p3), .val (.int p4), .val (.int ct), .val (.int (5 : Int32)), .val (.ref b11), .unset, .unset, .unset, .unset, .unset, .unset] [])) (fun _ k_ => XS.icmpNo X34.here hx rfl (hb hby at_59) rfl (tlt (by decide)).2.2.2 k_) ?_
    refine Go.st (S' := T34.setTop (mkF m 64 #[.val (.long q0), .second, .val (.long q1), .second, .val (.int p2), .val (.int p3), .val (.int p4), .val (.int ct), .val (.int (5 : Int32)), .val (.ref b11), .unset, .unset, .unset, .unset, .unset, .unset] [(.ref b11)])) (fun _ k_ => XS.aload X34.here hx rfl (hb hby at_62) rfl rfl k_) ?_
    obtain ⟨v35, T35, h35, L35, X35, e35, hQ35, st35⟩ := callVi X34 hx hZ hown (w31 hw) (w32 hw) (w34 hw) (w33 hw) (w3 hw) (w35 hw) (by decide) (W := 0) (argsL := []) (rest := []) e34 SP_b11.1 (sp_take l Z a0 hw b11 q0 q1 ct p3 (own_nx ct 2) (own_rd ct 2) h34 n0 Z0 SP_b11 (own_ct0 hct) g_b11) (by decide) (by decide) pd4 rfl (g := (mkF m 64 #[.val (.long q0), .second, .val (.long q1), .second, .val (.int p2), .val (.int p3), .val (.int p4), .val (.int ct), .val (.int (5 : Int32)), .val (.ref b11), .unset, .unset, .unset, .unset, .unset, .unset] [(.ref b11)])) rfl (by rw [hml]; rfl) rfl (by show 2 * 0 + _ ≤ _; exact Nat.le_of_eq rfl) (hb hby at_64) (by decide) (by decide)
    obtain ⟨rfl, Nq35, Kq35, SP_b11⟩ := hQ35
    have N35 := Fr.app N34 Nq35
    replace Z0 := Nat.le_trans Z0 Kq35.1
    replace SP_b11 : SP Z h35 b11 q0 q1 ct p3 (own_nx ct 3) (own_rd ct 3) := SP_b11
    refine Go.st (S' := T35.setTop (mkF m 67 #[.val (.long q0), .second, .val (.long q1), .second, .val (.int p2), .val (.int p3), .val (.int p4), .val (.int ct), .val (.int (5 : Int32)), .val (.ref b11), .unset, .unset, .unset, .unset, .unset, .unset] [(.int ((p3.toInt64 + (own_nx ct 2).toInt64) % ct.toInt64).toInt32)])) (st35) ?_
    refine Go.st (S' := T35.setTop (mkF m 68 #[.val (.long q0), .second, .val (.long q1), .second, .val (.int p2), .val (.int p3), .val (.int p4), .val (.int ct), .val (.int (5 : Int32)), .val (.ref b11), .unset, .unset, .unset, .unset, .unset, .unset] [])) (fun _ k_ => XS.pop X35.here hx rfl (hb hby at_67) rfl rfl k_) ?_
    refine Go.st (S' := T35.setTop (mkF m 70 #[.val (.long q0), .second, .val (.long q1), .second, .val (.int p2), .val (.int p3), .val (.int p4), .val (.int ct), .val (.int (5 : Int32)), .val (.ref b11), .unset, .unset, .unset, .unset, .unset, .unset] [(.int (5 : Int32))])) (fun _ k_ => XS.iload X35.here hx rfl (hb hby at_68) rfl k_) ?_
    refine Go.st (S' := T35.setTop (mkF m 71 #[.val (.long q0), .second, .val (.long q1), .second, .val (.int p2), .val (.int p3), .val (.int p4), .val (.int ct), .val (.int (5 : Int32)), .val (.ref b11), .unset, .unset, .unset, .unset, .unset, .unset] [(.int (3 : Int32)), (.int (5 : Int32))])) (fun _ k_ => XS.iconst X35.here hx rfl (hb hby at_70) k_) ?_
    refine Go.st (S' := T35.setTop (mkF m 74 #[.val (.long q0), .second, .val (.long q1), .second, .val (.int p2), .val (.int p3), .val (.int p4), .val (.int ct), .val (.int (5 : Int32)), .val (.ref b11), .unset, .unset, .unset, .unset, .unset, .unset] [])) (fun _ k_ => XS.icmpNo X35.here hx rfl (hb hby at_71) rfl (tlt (by decide)).2.2.2 k_) ?_
    refine Go.st (S' := T35.setTop (mkF m 76 #[.val (.long q0), .second, .val (.long q1), .second, .val (.int p2), .val (.int p3), .val (.int p4), .val (.int ct), .val (.int (5 : Int32)), .val (.ref b11), .unset, .unset, .unset, .unset, .unset, .unset] [(.ref b11)])) (fun _ k_ => XS.aload X35.here hx rfl (hb hby at_74) rfl rfl k_) ?_
    obtain ⟨v36, T36, h36, L36, X36, e36, hQ36, st36⟩ := callVi X35 hx hZ hown (w31 hw) (w32 hw) (w34 hw) (w33 hw) (w3 hw) (w35 hw) (by decide) (W := 0) (argsL := []) (rest := []) e35 SP_b11.1 (sp_take l Z a0 hw b11 q0 q1 ct p3 (own_nx ct 3) (own_rd ct 3) h35 n0 Z0 SP_b11 (own_ct0 hct) g_b11) (by decide) (by decide) pd4 rfl (g := (mkF m 76 #[.val (.long q0), .second, .val (.long q1), .second, .val (.int p2), .val (.int p3), .val (.int p4), .val (.int ct), .val (.int (5 : Int32)), .val (.ref b11), .unset, .unset, .unset, .unset, .unset, .unset] [(.ref b11)])) rfl (by rw [hml]; rfl) rfl (by show 2 * 0 + _ ≤ _; exact Nat.le_of_eq rfl) (hb hby at_76) (by decide) (by decide)
    obtain ⟨rfl, Nq36, Kq36, SP_b11⟩ := hQ36
    have N36 := Fr.app N35 Nq36
    replace Z0 := Nat.le_trans Z0 Kq36.1
    replace SP_b11 : SP Z h36 b11 q0 q1 ct p3 (own_nx ct 4) (own_rd ct 4) := SP_b11
    refine Go.st (S' := T36.setTop (mkF m 79 #[.val (.long q0), .second, .val (.long q1), .second, .val (.int p2), .val (.int p3), .val (.int p4), .val (.int ct), .val (.int (5 : Int32)), .val (.ref b11), .unset, .unset, .unset, .unset, .unset, .unset] [(.int ((p3.toInt64 + (own_nx ct 3).toInt64) % ct.toInt64).toInt32)])) (st36) ?_
    refine Go.st (S' := T36.setTop (mkF m 80 #[.val (.long q0), .second, .val (.long q1), .second, .val (.int p2), .val (.int p3), .val (.int p4), .val (.int ct), .val (.int (5 : Int32)), .val (.ref b11), .unset, .unset, .unset, .unset, .unset, .unset] [])) (fun _ k_ => XS.pop X36.here hx rfl (hb hby at_79) rfl rfl k_) ?_
    refine Go.st (S' := T36.setTop (mkF m 82 #[.val (.long q0), .second, .val (.long q1), .second, .val (.int p2), .val (.int p3), .val (.int p4), .val (.int ct), .val (.int (5 : Int32)), .val (.ref b11), .unset, .unset, .unset, .unset, .unset, .unset] [(.int (5 : Int32))])) (fun _ k_ => XS.iload X36.here hx rfl (hb hby at_80) rfl k_) ?_
    refine Go.st (S' := T36.setTop (mkF m 83 #[.val (.long q0), .second, .val (.long q1), .second, .val (.int p2), .val (.int p3), .val (.int p4), .val (.int ct), .val (.int (5 : Int32)), .val (.ref b11), .unset, .unset, .unset, .unset, .unset, .unset] [(.int (4 : Int32)), (.int (5 : Int32))])) (fun _ k_ => XS.iconst X36.here hx rfl (hb hby at_82) k_) ?_
    refine Go.st (S' := T36.setTop (mkF m 86 #[.val (.long q0), .second, .val (.long q1), .second, .val (.int p2), .val (.int p3), .val (.int p4), .val (.int ct), .val (.int (5 : Int32)), .val (.ref b11), .unset, .unset, .unset, .unset, .unset, .unset] [])) (fun _ k_ => XS.icmpNo X36.here hx rfl (hb hby at_83) rfl (tlt (by decide)).2.2.2 k_) ?_
    refine Go.st (S' := T36.setTop (mkF m 88 #[.val (.long q0), .second, .val (.long q1), .second, .val (.int p2), .val (.int p3), .val (.int p4), .val (.int ct), .val (.int (5 : Int32)), .val (.ref b11), .unset, .unset, .unset, .unset, .unset, .unset] [(.ref b11)])) (fun _ k_ => XS.aload X36.here hx rfl (hb hby at_86) rfl rfl k_) ?_
    obtain ⟨v37, T37, h37, L37, X37, e37, hQ37, st37⟩ := callVi X36 hx hZ hown (w31 hw) (w32 hw) (w34 hw) (w33 hw) (w3 hw) (w35 hw) (by decide) (W := 0) (argsL := []) (rest := []) e36 SP_b11.1 (sp_take l Z a0 hw b11 q0 q1 ct p3 (own_nx ct 4) (own_rd ct 4) h36 n0 Z0 SP_b11 (own_ct0 hct) g_b11) (by decide) (by decide) pd4 rfl (g := (mkF m 88 #[.val (.long q0), .second, .val (.long q1), .second, .val (.int p2), .val (.int p3), .val (.int p4), .val (.int ct), .val (.int (5 : Int32)), .val (.ref b11), .unset, .unset, .unset, .unset, .unset, .unset] [(.ref b11)])) rfl (by rw [hml]; rfl) rfl (by show 2 * 0 + _ ≤ _; exact Nat.le_of_eq rfl) (hb hby at_88) (by decide) (by decide)
    obtain ⟨rfl, Nq37, Kq37, SP_b11⟩ := hQ37
    have N37 := Fr.app N36 Nq37
    replace Z0 := Nat.le_trans Z0 Kq37.1
    replace SP_b11 : SP Z h37 b11 q0 q1 ct p3 (own_nx ct 5) (own_rd ct 5) := SP_b11
    refine Go.st (S' := T37.setTop (mkF m 91 #[.val (.long q0), .second, .val (.long q1), .second, .val (.int p2), .val (.int p3), .val (.int p4), .val (.int ct), .val (.int (5 : Int32)), .val (.ref b11), .unset, .unset, .unset, .unset, .unset, .unset] [(.int ((p3.toInt64 + (own_nx ct 4).toInt64) % ct.toInt64).toInt32)])) (st37) ?_
    refine Go.st (S' := T37.setTop (mkF m 92 #[.val (.long q0), .second, .val (.long q1), .second, .val (.int p2), .val (.int p3), .val (.int p4), .val (.int ct), .val (.int (5 : Int32)), .val (.ref b11), .unset, .unset, .unset, .unset, .unset, .unset] [])) (fun _ k_ => XS.pop X37.here hx rfl (hb hby at_91) rfl rfl k_) ?_
    refine Go.st (S' := T37.setTop (mkF m 94 #[.val (.long q0), .second, .val (.long q1), .second, .val (.int p2), .val (.int p3), .val (.int p4), .val (.int ct), .val (.int (5 : Int32)), .val (.ref b11), .unset, .unset, .unset, .unset, .unset, .unset] [(.ref b11)])) (fun _ k_ => XS.aload X37.here hx rfl (hb hby at_92) rfl rfl k_) ?_
    obtain ⟨v38, T38, h38, L38, X38, e38, hQ38, st38⟩ := callVi X37 hx hZ hown (w18 hw) (w19 hw) (w21 hw) (w20 hw) (w3 hw) (w22 hw) (by decide) (W := 0) (argsL := []) (rest := []) e37 SP_b11.1 (sp_next l Z a0 hw b11 q0 q1 ct p3 (own_nx ct 5) (own_rd ct 5) h37 n0 Z0 SP_b11 (own_ct0 hct)) (by decide) (by decide) pd2 rfl (g := (mkF m 94 #[.val (.long q0), .second, .val (.long q1), .second, .val (.int p2), .val (.int p3), .val (.int p4), .val (.int ct), .val (.int (5 : Int32)), .val (.ref b11), .unset, .unset, .unset, .unset, .unset, .unset] [(.ref b11)])) rfl (by rw [hml]; rfl) rfl (by show 2 * 0 + _ ≤ _; exact Nat.le_of_eq rfl) (hb hby at_94) (by decide) (by decide)
    obtain ⟨rfl, Nq38, hh38⟩ := hQ38
    rw [hh38] at e38
    have N38 := Fr.app N37 Nq38
    refine Go.st (S' := T38.setTop (mkF m 97 #[.val (.long q0), .second, .val (.long q1), .second, .val (.int p2), .val (.int p3), .val (.int p4), .val (.int ct), .val (.int (5 : Int32)), .val (.ref b11), .unset, .unset, .unset, .unset, .unset, .unset] [(.long (own_next q0 q1 ct (own_nx ct 5) (own_rd ct 5)))])) (st38) ?_
    refine Go.st (S' := T38.setTop (mkF m 99 #[.val (.long q0), .second, .val (.long q1), .second, .val (.int p2), .val (.int p3), .val (.int p4), .val (.int ct), .val (.int (5 : Int32)), .val (.ref b11), .val (.long (own_next q0 q1 ct (own_nx ct 5) (own_rd ct 5))), .second, .unset, .unset, .unset, .unset] [])) (fun _ k_ => XS.lstore X38.here hx rfl (hb hby at_97) rfl (l' := #[.val (.long q0), .second, .val (.long q1), .second, .val (.int p2), .val (.int p3), .val (.int p4), .val (.int ct), .val (.int (5 : Int32)), .val (.ref b11), .val (.long (own_next q0 q1 ct (own_nx ct 5) (own_rd ct 5))), .second, .unset, .unset, .unset, .unset]) rfl k_) ?_
    refine Go.st (S' := T38.setTop (mkF m 101 #[.val (.long q0), .second, .val (.long q1), .second, .val (.int p2), .val (.int p3), .val (.int p4), .val (.int ct), .val (.int (5 : Int32)), .val (.ref b11), .val (.long (own_next q0 q1 ct (own_nx ct 5) (own_rd ct 5))), .second, .unset, .unset, .unset, .unset] [(.int (5 : Int32))])) (fun _ k_ => XS.iload X38.here hx rfl (hb hby at_99) rfl k_) ?_
    refine Go.st (S' := T38.setTop (mkF m 103 #[.val (.long q0), .second, .val (.long q1), .second, .val (.int p2), .val (.int p3), .val (.int p4), .val (.int ct), .val (.int (5 : Int32)), .val (.ref b11), .val (.long (own_next q0 q1 ct (own_nx ct 5) (own_rd ct 5))), .second, .unset, .unset, .unset, .unset] [(.int ct), (.int (5 : Int32))])) (fun _ k_ => XS.iload X38.here hx rfl (hb hby at_101) rfl k_) ?_
    refine Go.st (S' := T38.setTop (mkF m 104 #[.val (.long q0), .second, .val (.long q1), .second, .val (.int p2), .val (.int p3), .val (.int p4), .val (.int ct), .val (.int (5 : Int32)), .val (.ref b11), .val (.long (own_next q0 q1 ct (own_nx ct 5) (own_rd ct 5))), .second, .unset, .unset, .unset, .unset] [(.int ((5 : Int32) / ct))])) (fun _ k_ => XS.idiv X38.here hx rfl (hb hby at_103) rfl (own_ct0 hct) k_) ?_
    refine Go.st (S' := T38.setTop (mkF m 106 #[.val (.long q0), .second, .val (.long q1), .second, .val (.int p2), .val (.int p3), .val (.int p4), .val (.int ct), .val (.int (5 : Int32)), .val (.ref b11), .val (.long (own_next q0 q1 ct (own_nx ct 5) (own_rd ct 5))), .second, .val (.int ((5 : Int32) / ct)), .unset, .unset, .unset] [])) (fun _ k_ => XS.istore X38.here hx rfl (hb hby at_104) rfl (l' := #[.val (.long q0), .second, .val (.long q1), .second, .val (.int p2), .val (.int p3), .val (.int p4), .val (.int ct), .val (.int (5 : Int32)), .val (.ref b11), .val (.long (own_next q0 q1 ct (own_nx ct 5) (own_rd ct 5))), .second, .val (.int ((5 : Int32) / ct)), .unset, .unset, .unset]) rfl k_) ?_
    refine Go.st (S' := T38.setTop (mkF m 108 #[.val (.long q0), .second, .val (.long q1), .second, .val (.int p2), .val (.int p3), .val (.int p4), .val (.int ct), .val (.int (5 : Int32)), .val (.ref b11), .val (.long (own_next q0 q1 ct (own_nx ct 5) (own_rd ct 5))), .second, .val (.int ((5 : Int32) / ct)), .unset, .unset, .unset] [(.int (5 : Int32))])) (fun _ k_ => XS.iload X38.here hx rfl (hb hby at_106) rfl k_) ?_
    refine Go.st (S' := T38.setTop (mkF m 110 #[.val (.long q0), .second, .val (.long q1), .second, .val (.int p2), .val (.int p3), .val (.int p4), .val (.int ct), .val (.int (5 : Int32)), .val (.ref b11), .val (.long (own_next q0 q1 ct (own_nx ct 5) (own_rd ct 5))), .second, .val (.int ((5 : Int32) / ct)), .unset, .unset, .unset] [(.int ct), (.int (5 : Int32))])) (fun _ k_ => XS.iload X38.here hx rfl (hb hby at_108) rfl k_) ?_
    refine Go.st (S' := T38.setTop (mkF m 111 #[.val (.long q0), .second, .val (.long q1), .second, .val (.int p2), .val (.int p3), .val (.int p4), .val (.int ct), .val (.int (5 : Int32)), .val (.ref b11), .val (.long (own_next q0 q1 ct (own_nx ct 5) (own_rd ct 5))), .second, .val (.int ((5 : Int32) / ct)), .unset, .unset, .unset] [(.int ((5 : Int32) % ct))])) (fun _ k_ => iremM X38 hx rfl (hb hby at_110) rfl (own_ct0 hct) k_) ?_
    refine Go.st (S' := T38.setTop (mkF m 113 #[.val (.long q0), .second, .val (.long q1), .second, .val (.int p2), .val (.int p3), .val (.int p4), .val (.int ct), .val (.int (5 : Int32)), .val (.ref b11), .val (.long (own_next q0 q1 ct (own_nx ct 5) (own_rd ct 5))), .second, .val (.int ((5 : Int32) / ct)), .val (.int ((5 : Int32) % ct)), .unset, .unset] [])) (fun _ k_ => XS.istore X38.here hx rfl (hb hby at_111) rfl (l' := #[.val (.long q0), .second, .val (.long q1), .second, .val (.int p2), .val (.int p3), .val (.int p4), .val (.int ct), .val (.int (5 : Int32)), .val (.ref b11), .val (.long (own_next q0 q1 ct (own_nx ct 5) (own_rd ct 5))), .second, .val (.int ((5 : Int32) / ct)), .val (.int ((5 : Int32) % ct)), .unset, .unset]) rfl k_) ?_
    refine Go.st (S' := T38.setTop (mkF m 114 #[.val (.long q0), .second, .val (.long q1), .second, .val (.int p2), .val (.int p3), .val (.int p4), .val (.int ct), .val (.int (5 : Int32)), .val (.ref b11), .val (.long (own_next q0 q1 ct (own_nx ct 5) (own_rd ct 5))), .second, .val (.int ((5 : Int32) / ct)), .val (.int ((5 : Int32) % ct)), .unset, .unset] [(.long q0)])) (fun _ k_ => XS.lloadN X38.here hx rfl (hb hby at_113) rfl k_) ?_
    refine Go.st (S' := T38.setTop (mkF m 116 #[.val (.long q0), .second, .val (.long q1), .second, .val (.int p2), .val (.int p3), .val (.int p4), .val (.int ct), .val (.int (5 : Int32)), .val (.ref b11), .val (.long (own_next q0 q1 ct (own_nx ct 5) (own_rd ct 5))), .second, .val (.int ((5 : Int32) / ct)), .val (.int ((5 : Int32) % ct)), .unset, .unset] [(.int ((5 : Int32) / ct)), (.long q0)])) (fun _ k_ => XS.iload X38.here hx rfl (hb hby at_114) rfl k_) ?_
    refine Go.st (S' := T38.setTop (mkF m 117 #[.val (.long q0), .second, .val (.long q1), .second, .val (.int p2), .val (.int p3), .val (.int p4), .val (.int ct), .val (.int (5 : Int32)), .val (.ref b11), .val (.long (own_next q0 q1 ct (own_nx ct 5) (own_rd ct 5))), .second, .val (.int ((5 : Int32) / ct)), .val (.int ((5 : Int32) % ct)), .unset, .unset] [(.long (((5 : Int32) / ct).toInt64)), (.long q0)])) (fun _ k_ => XS.i2l X38.here hx rfl (hb hby at_116) rfl k_) ?_
    refine Go.st (S' := T38.setTop (mkF m 118 #[.val (.long q0), .second, .val (.long q1), .second, .val (.int p2), .val (.int p3), .val (.int p4), .val (.int ct), .val (.int (5 : Int32)), .val (.ref b11), .val (.long (own_next q0 q1 ct (own_nx ct 5) (own_rd ct 5))), .second, .val (.int ((5 : Int32) / ct)), .val (.int ((5 : Int32) % ct)), .unset, .unset] [(.long q1), (.long (((5 : Int32) / ct).toInt64)), (.long q0)])) (fun _ k_ => XS.lloadN X38.here hx rfl (hb hby at_117) rfl k_) ?_
    refine Go.st (S' := T38.setTop (mkF m 119 #[.val (.long q0), .second, .val (.long q1), .second, .val (.int p2), .val (.int p3), .val (.int p4), .val (.int ct), .val (.int (5 : Int32)), .val (.ref b11), .val (.long (own_next q0 q1 ct (own_nx ct 5) (own_rd ct 5))), .second, .val (.int ((5 : Int32) / ct)), .val (.int ((5 : Int32) % ct)), .unset, .unset] [(.long ((((5 : Int32) / ct).toInt64) * q1)), (.long q0)])) (fun _ k_ => XS.lmul X38.here hx rfl (hb hby at_118) rfl k_) ?_
    refine Go.st (S' := T38.setTop (mkF m 120 #[.val (.long q0), .second, .val (.long q1), .second, .val (.int p2), .val (.int p3), .val (.int p4), .val (.int ct), .val (.int (5 : Int32)), .val (.ref b11), .val (.long (own_next q0 q1 ct (own_nx ct 5) (own_rd ct 5))), .second, .val (.int ((5 : Int32) / ct)), .val (.int ((5 : Int32) % ct)), .unset, .unset] [(.long (q0 + ((((5 : Int32) / ct).toInt64) * q1)))])) (fun _ k_ => XS.ladd X38.here hx rfl (hb hby at_119) rfl k_) ?_
    refine Go.st (S' := T38.setTop (mkF m 121 #[.val (.long q0), .second, .val (.long q1), .second, .val (.int p2), .val (.int p3), .val (.int p4), .val (.int ct), .val (.int (5 : Int32)), .val (.ref b11), .val (.long (own_next q0 q1 ct (own_nx ct 5) (own_rd ct 5))), .second, .val (.int ((5 : Int32) / ct)), .val (.int ((5 : Int32) % ct)), .unset, .unset] [(.long q1), (.long (q0 + ((((5 : Int32) / ct).toInt64) * q1)))])) (fun _ k_ => XS.lloadN X38.here hx rfl (hb hby at_120) rfl k_) ?_
    refine Go.st (S' := T38.setTop (mkF m 123 #[.val (.long q0), .second, .val (.long q1), .second, .val (.int p2), .val (.int p3), .val (.int p4), .val (.int ct), .val (.int (5 : Int32)), .val (.ref b11), .val (.long (own_next q0 q1 ct (own_nx ct 5) (own_rd ct 5))), .second, .val (.int ((5 : Int32) / ct)), .val (.int ((5 : Int32) % ct)), .unset, .unset] [(.int ct), (.long q1), (.long (q0 + ((((5 : Int32) / ct).toInt64) * q1)))])) (fun _ k_ => XS.iload X38.here hx rfl (hb hby at_121) rfl k_) ?_
    refine Go.st (S' := T38.setTop (mkF m 125 #[.val (.long q0), .second, .val (.long q1), .second, .val (.int p2), .val (.int p3), .val (.int p4), .val (.int ct), .val (.int (5 : Int32)), .val (.ref b11), .val (.long (own_next q0 q1 ct (own_nx ct 5) (own_rd ct 5))), .second, .val (.int ((5 : Int32) / ct)), .val (.int ((5 : Int32) % ct)), .unset, .unset] [(.int ((5 : Int32) % ct)), (.int ct), (.long q1), (.long (q0 + ((((5 : Int32) / ct).toInt64) * q1)))])) (fun _ k_ => XS.iload X38.here hx rfl (hb hby at_123) rfl k_) ?_
    obtain ⟨v39, T39, h39, L39, X39, e39, hQ39, st39⟩ := callSt X38 hx hZ hown (w27 hw) (w28 hw) (w29 hw) (w30 hw) (by decide) (W := 2) (argsL := [(.long q1), (.int ct), (.int ((5 : Int32) % ct))]) (rest := [(.long (q0 + ((((5 : Int32) / ct).toInt64) * q1)))]) e38 (rm_off l Z a0 hw q1 ct ((5 : Int32) % ct) h37 n0 Z0) (by decide) (by decide) pd3 rfl (g := (mkF m 125 #[.val (.long q0), .second, .val (.long q1), .second, .val (.int p2), .val (.int p3), .val (.int p4), .val (.int ct), .val (.int (5 : Int32)), .val (.ref b11), .val (.long (own_next q0 q1 ct (own_nx ct 5) (own_rd ct 5))), .second, .val (.int ((5 : Int32) / ct)), .val (.int ((5 : Int32) % ct)), .unset, .unset] [(.int ((5 : Int32) % ct)), (.int ct), (.long q1), (.long (q0 + ((((5 : Int32) / ct).toInt64) * q1)))])) rfl (by rw [hml]; rfl) rfl (by show 2 * 0 + _ ≤ _; exact Nat.le_of_eq rfl) (hb hby at_125) (by decide) (by decide)
    obtain ⟨rfl, Nq39, hh39⟩ := hQ39
    rw [hh39] at e39
    have N39 := Fr.app N38 Nq39
    refine Go.st (S' := T39.setTop (mkF m 128 #[.val (.long q0), .second, .val (.long q1), .second, .val (.int p2), .val (.int p3), .val (.int p4), .val (.int ct), .val (.int (5 : Int32)), .val (.ref b11), .val (.long (own_next q0 q1 ct (own_nx ct 5) (own_rd ct 5))), .second, .val (.int ((5 : Int32) / ct)), .val (.int ((5 : Int32) % ct)), .unset, .unset] [(.long (own_off q1 ct ((5 : Int32) % ct))), (.long (q0 + ((((5 : Int32) / ct).toInt64) * q1)))])) (st39) ?_
    refine Go.st (S' := T39.setTop (mkF m 129 #[.val (.long q0), .second, .val (.long q1), .second, .val (.int p2), .val (.int p3), .val (.int p4), .val (.int ct), .val (.int (5 : Int32)), .val (.ref b11), .val (.long (own_next q0 q1 ct (own_nx ct 5) (own_rd ct 5))), .second, .val (.int ((5 : Int32) / ct)), .val (.int ((5 : Int32) % ct)), .unset, .unset] [(.long ((q0 + ((((5 : Int32) / ct).toInt64) * q1)) + (own_off q1 ct ((5 : Int32) % ct))))])) (fun _ k_ => XS.ladd X39.here hx rfl (hb hby at_128) rfl k_) ?_
    refine Go.st (S' := T39.setTop (mkF m 131 #[.val (.long q0), .second, .val (.long q1), .second, .val (.int p2), .val (.int p3), .val (.int p4), .val (.int ct), .val (.int (5 : Int32)), .val (.ref b11), .val (.long (own_next q0 q1 ct (own_nx ct 5) (own_rd ct 5))), .second, .val (.int ((5 : Int32) / ct)), .val (.int ((5 : Int32) % ct)), .val (.long ((q0 + ((((5 : Int32) / ct).toInt64) * q1)) + (own_off q1 ct ((5 : Int32) % ct)))), .second] [])) (fun _ k_ => XS.lstore X39.here hx rfl (hb hby at_129) rfl (l' := #[.val (.long q0), .second, .val (.long q1), .second, .val (.int p2), .val (.int p3), .val (.int p4), .val (.int ct), .val (.int (5 : Int32)), .val (.ref b11), .val (.long (own_next q0 q1 ct (own_nx ct 5) (own_rd ct 5))), .second, .val (.int ((5 : Int32) / ct)), .val (.int ((5 : Int32) % ct)), .val (.long ((q0 + ((((5 : Int32) / ct).toInt64) * q1)) + (own_off q1 ct ((5 : Int32) % ct)))), .second]) rfl k_) ?_
    refine Go.st (S' := T39.setTop (mkF m 133 #[.val (.long q0), .second, .val (.long q1), .second, .val (.int p2), .val (.int p3), .val (.int p4), .val (.int ct), .val (.int (5 : Int32)), .val (.ref b11), .val (.long (own_next q0 q1 ct (own_nx ct 5) (own_rd ct 5))), .second, .val (.int ((5 : Int32) / ct)), .val (.int ((5 : Int32) % ct)), .val (.long ((q0 + ((((5 : Int32) / ct).toInt64) * q1)) + (own_off q1 ct ((5 : Int32) % ct)))), .second] [(.long (own_next q0 q1 ct (own_nx ct 5) (own_rd ct 5)))])) (fun _ k_ => XS.lload X39.here hx rfl (hb hby at_131) rfl k_) ?_
    refine Go.st (S' := T39.setTop (mkF m 135 #[.val (.long q0), .second, .val (.long q1), .second, .val (.int p2), .val (.int p3), .val (.int p4), .val (.int ct), .val (.int (5 : Int32)), .val (.ref b11), .val (.long (own_next q0 q1 ct (own_nx ct 5) (own_rd ct 5))), .second, .val (.int ((5 : Int32) / ct)), .val (.int ((5 : Int32) % ct)), .val (.long ((q0 + ((((5 : Int32) / ct).toInt64) * q1)) + (own_off q1 ct ((5 : Int32) % ct)))), .second] [(.long ((q0 + ((((5 : Int32) / ct).toInt64) * q1)) + (own_off q1 ct ((5 : Int32) % ct)))), (.long (own_next q0 q1 ct (own_nx ct 5) (own_rd ct 5)))])) (fun _ k_ => XS.lload X39.here hx rfl (hb hby at_133) rfl k_) ?_
    refine Go.st (S' := T39.setTop (mkF m 136 #[.val (.long q0), .second, .val (.long q1), .second, .val (.int p2), .val (.int p3), .val (.int p4), .val (.int ct), .val (.int (5 : Int32)), .val (.ref b11), .val (.long (own_next q0 q1 ct (own_nx ct 5) (own_rd ct 5))), .second, .val (.int ((5 : Int32) / ct)), .val (.int ((5 : Int32) % ct)), .val (.long ((q0 + ((((5 : Int32) / ct).toInt64) * q1)) + (own_off q1 ct ((5 : Int32) % ct)))), .second] [(.int (lcmpW (own_next q0 q1 ct (own_nx ct 5) (own_rd ct 5)) ((q0 + ((((5 : Int32) / ct).toInt64) * q1)) + (own_off q1 ct ((5 : Int32) % ct)))))])) (fun _ k_ => XS.lcmp X39.here hx rfl (hb hby at_135) rfl k_) ?_
    refine Go.st (S' := T39.setTop (mkF m 139 #[.val (.long q0), .second, .val (.long q1), .second, .val (.int p2), .val (.int p3), .val (.int p4), .val (.int ct), .val (.int (5 : Int32)), .val (.ref b11), .val (.long (own_next q0 q1 ct (own_nx ct 5) (own_rd ct 5))), .second, .val (.int ((5 : Int32) / ct)), .val (.int ((5 : Int32) % ct)), .val (.long ((q0 + ((((5 : Int32) / ct).toInt64) * q1)) + (own_off q1 ct ((5 : Int32) % ct)))), .second] [])) (fun _ k_ => XS.ifNo X39.here hx rfl (hb hby at_136) rfl ((if0 _ _).trans (teq ((lw_eq _ _).mpr (own_end q0 q1 ct hct 5 (by decide)))).2) k_) ?_
    refine Go.st (S' := T39.setTop (mkF m 140 #[.val (.long q0), .second, .val (.long q1), .second, .val (.int p2), .val (.int p3), .val (.int p4), .val (.int ct), .val (.int (5 : Int32)), .val (.ref b11), .val (.long (own_next q0 q1 ct (own_nx ct 5) (own_rd ct 5))), .second, .val (.int ((5 : Int32) / ct)), .val (.int ((5 : Int32) % ct)), .val (.long ((q0 + ((((5 : Int32) / ct).toInt64) * q1)) + (own_off q1 ct ((5 : Int32) % ct)))), .second] [(.int (1 : Int32))])) (fun _ k_ => XS.iconst X39.here hx rfl (hb hby at_139) k_) ?_
    refine Go.st (S' := T39.setTop (mkF m 144 #[.val (.long q0), .second, .val (.long q1), .second, .val (.int p2), .val (.int p3), .val (.int p4), .val (.int ct), .val (.int (5 : Int32)), .val (.ref b11), .val (.long (own_next q0 q1 ct (own_nx ct 5) (own_rd ct 5))), .second, .val (.int ((5 : Int32) / ct)), .val (.int ((5 : Int32) % ct)), .val (.long ((q0 + ((((5 : Int32) / ct).toInt64) * q1)) + (own_off q1 ct ((5 : Int32) % ct)))), .second] [(.int (1 : Int32))])) (fun _ k_ => XS.goto X39.here hx rfl (pc0 := 140) (pc' := 144) rfl (hb hby at_140) (by decide) (by decide) k_) ?_
    exact Go.retN X39 hx (t := .boolean) hret (by simp) hlk (hb hby at_144) (by decide) (by decide) ⟨rfl, N39⟩
set_option maxRecDepth 65536 in
set_option maxHeartbeats 40000000 in
theorem comes_1 {Post : Tables → Env → Array Value → State → Outcome → State → Prop} (hpost : ∀ tb e args s v u, (limb_1_1.after args s (.returned v) u = true ∧ limb_1_2.after args s (.returned v) u = true ∧ True) → FrameEnd s (.returned v) u (Jvm.fieldLocs frame_1_writes args s ++ Jvm.arrayLocs frame_1_arrays args s ++ Jvm.staticLocs frame_1_statics s) 16 128 → Post tb e args s (.returned v) u) :
    ArmFor flags0 classFile x code maxLocals ret World_1 tables_1 room_1 Calls_1 rest_1 Pre_1 Post := by
  intro l hfl _ _ p e ha hc hk s m args below hf hA hF happ hP
  obtain ⟨hcalls, hrest, hpre⟩ := hP
  obtain ⟨-, -, -, hnamed, -, -, -, hat⟩ := (Spec.applies_iff hf).mp happ
  obtain ⟨hg, hn⟩ := and_e (Cond.before_iff.mp (show (Jvm.Cond.and given_1 narrow_1).before args s = true from hpre))
  obtain ⟨g1, g2⟩ := and_e hg
  obtain ⟨g3, g4⟩ := and_e g2
  obtain ⟨g5, g6⟩ := and_e g4
  obtain ⟨g7, g8⟩ := and_e g6
  obtain ⟨g9, g10⟩ := and_e g8
  obtain ⟨u0, u1, u2, u3, u4, rfl⟩ : ∃ u0 u1 u2 u3 u4 : Value, args = #[u0, u1, u2, u3, u4] := by
    have hs : args.size = 5 := by simpa [Cond.value, given_1] using g1
    obtain ⟨L⟩ := args
    match L, hs with
    | [u0, u1, u2, u3, u4], _ => exact ⟨u0, u1, u2, u3, u4, rfl⟩
  have hw := fun d (hd : d ∈ tables_1) => atoms_spec (ws := Jvm.Cond.code x code maxLocals ret :: tables_1) hat d (List.mem_cons_of_mem _ hd)
  obtain ⟨i0, ei0⟩ := isL_v g3
  obtain rfl : u0 = (.long i0) := Option.some.inj ei0
  obtain ⟨i1, ei1⟩ := isL_v g5
  obtain rfl : u1 = (.long i1) := Option.some.inj ei1
  obtain ⟨i2, ei2⟩ := is_v g7
  obtain rfl : u2 = (.int i2) := Option.some.inj ei2
  obtain ⟨i3, ei3⟩ := is_v g9
  obtain rfl : u3 = (.int i3) := Option.some.inj ei3
  obtain ⟨i4, ei4⟩ := is_v g10
  obtain rfl : u4 = (.int i4) := Option.some.inj ei4
  obtain ⟨n, o, h1, h2, h3, v, L, rfl, ⟨hv, N⟩, hq⟩ := rm0 l s _ hw tables_1 i0 i1 i2 i3 i4 s.heap s.heap.size (Nat.le_refl _) p e ha hc hk s m _ below hf ((Spec.applies_iff_loose hf).mp happ).1 ⟨rfl, State.Warmed39.refl s, rfl⟩ trivial
  subst hv
  refine ⟨n, _, h1, h2, h3, hpost _ _ _ _ _ _ ⟨Cond.after_iff.mpr rfl, Cond.after_iff.mpr (eq_i res_at (Term.int_eval (1)) rfl), trivial⟩ ⟨hq.1, hq.2.1, (hq.2.2.sift fun y hy => Or.inr (N y hy)).mono (by decide) (by decide)⟩⟩
theorem main_1_1 : Claimed_1_1 := comes_1 fun _ _ _ _ _ _ h hF => ⟨h.1, hF⟩
theorem main_1_2 : Claimed_1_2 := comes_1 fun _ _ _ _ _ _ h hF => ⟨h.2.1, hF⟩
end Jvm.Pilot.@@N@@
namespace Jvm.Pilot.@@N@@
open Jvm Jvm.ClassFile Sem Op Lib Jvm.Free Jvm.Stand Jvm.Pilot.@@N@@.Jvm.D
/-! MADE BY PROGRAM (witnessworld.py) out of the Statement's table words and the real class files: 9 classes; the members and pool entries that the words name. The judged class is class 1, her method 3. -/
namespace start1
open Jvm.ClassFile
def u (s : String) : CpInfo := .utf8 (stringToUtf16 s)
/-- a pool by its gaps: so many unusable entries, then the entry; so many at the end -/
def gap : Nat → List CpInfo → List CpInfo
  | 0, r => r
  | n + 1, r => .unusable :: gap n r
def poolList (es : List (Nat × CpInfo)) (last : Nat) : List CpInfo := es.foldr (fun e r => gap e.1 (e.2 :: r)) (gap last [])
def pool (es : List (Nat × CpInfo)) (last : Nat) : Array CpInfo := ⟨poolList es last⟩
def fileOf (pool : Array CpInfo) (this : Nat) (attrs : Array Attribute := #[]) (ms : Array MethodInfo := #[]) (fl : Nat := 33) (sup : Nat := 0) (ifs : Array Nat := #[]) (fds : Array FieldInfo := #[]) : ClassFile where
  minorVersion := 0
  majorVersion := 65
  constantPool := pool
  accessFlags := fl
  thisClass := this
  superClass := sup
  interfaces := ifs
  fields := fds
  methods := ms
  attributes := attrs
def plain (name : String) (sup : Option ClassId) : Class where
  name := name
  kind := .ordinary
  loader := none
  accessFlags := 33
  super := sup
  interfaces := #[]
  cf := none
  fields := #[]
  methods := #[]
  instanceTypes := #[]
  staticTypes := #[]
  resolved := #[]
  callSites := []
  init := .initialized
  statics := none
  mirror := none

def pool0 : Array CpInfo := pool [(5, u "<init>"), (0, u "()V"), (1, .class_ 10), (1, u "java/lang/Object")] 113

def k0c0 : Code := { maxStack := 0, maxLocals := 1, code := object_method_1_code, exceptionTable := #[], attributes := #[] }
def k0m0 : Method := { name := "<init>", desc := "()V", sig := { parameters := [], returnType := none }, accessFlags := 1, code := some k0c0 }
/-- java/lang/Object -/
def k0 : Class := { plain "java/lang/Object" none with
  accessFlags := 33
  interfaces := #[]
  cf := some (fileOf pool0 8 #[] #[{ accessFlags := 1, nameIndex := 5, descriptorIndex := 6, attributes := #[] }] 33 0 #[] #[])
  fields := #[]
  methods := #[k0m0]
  instanceTypes := #[]
  staticTypes := #[]
  resolved := Array.replicate 124 none
  statics := none }

def pool1 : Array CpInfo := pool [(2, .class_ 4), (1, u "java/lang/Object"), (0, u "<init>"), (0, u "()V"), (0, .long 18446744073709551615), (1, .long 2), (1, .long 3), (1, .methodref 14 15), (0, .class_ 16), (0, .nameAndType 17 18), (0, u "com/example/vigilant_coordinator/vigilantcoordinator/load/SpreadNextNanosPinLaw"), (0, u "corr"), (0, u "(JJ)J"), (0, .long 4), (1, .integer 2147483647), (0, .class_ 23), (0, u "com/example/vigilant_coordinator/vigilantcoordinator/load/Spread"), (0, .methodref 22 25), (0, .nameAndType 5 26), (0, u "(JJII)V"), (0, .methodref 22 28), (0, .nameAndType 29 30), (0, u "take"), (0, u "()I"), (0, .methodref 22 32), (0, .nameAndType 33 34), (0, u "nextNanos"), (0, u "()J"), (0, .methodref 14 36), (0, .nameAndType 37 38), (0, u "offset"), (0, u "(JII)J"), (3, u "law"), (0, u "(JJIII)Z")] 2

def k1m0 : Method := { name := "<init>", desc := "()V", sig := { parameters := [], returnType := none }, accessFlags := 1, code := none }
def k1c1 : Code := { maxStack := 4, maxLocals := 4, code := method_2_code, exceptionTable := #[], attributes := #[] }
def k1m1 : Method := { name := "corr", desc := "(JJ)J", sig := { parameters := [.long, .long], returnType := some .long }, accessFlags := 10, code := some k1c1 }
def k1c2 : Code := { maxStack := 6, maxLocals := 4, code := method_3_code, exceptionTable := #[], attributes := #[] }
def k1m2 : Method := { name := "offset", desc := "(JII)J", sig := { parameters := [.long, .int, .int], returnType := some .long }, accessFlags := 10, code := some k1c2 }
def k1c3 : Code := { maxStack := 8, maxLocals := 16, code := code, exceptionTable := #[], attributes := #[] }
def k1m3 : Method := { name := "law", desc := "(JJIII)Z", sig := { parameters := [.long, .long, .int, .int, .int], returnType := some .boolean }, accessFlags := 9, code := some k1c3 }
/-- com/example/vigilant_coordinator/vigilantcoordinator/load/SpreadNextNanosPinLaw -/
def k1 : Class := { plain "com/example/vigilant_coordinator/vigilantcoordinator/load/SpreadNextNanosPinLaw" (some 0) with
  accessFlags := 49
  interfaces := #[]
  cf := some (fileOf pool1 14 #[] #[{ accessFlags := 1, nameIndex := 5, descriptorIndex := 6, attributes := #[] }, { accessFlags := 10, nameIndex := 17, descriptorIndex := 18, attributes := #[] }, { accessFlags := 10, nameIndex := 37, descriptorIndex := 38, attributes := #[] }, { accessFlags := 9, nameIndex := 42, descriptorIndex := 43, attributes := #[] }] 49 2 #[] #[])
  fields := #[]
  methods := #[k1m0, k1m1, k1m2, k1m3]
  instanceTypes := #[]
  staticTypes := #[]
  resolved := Array.replicate 46 none
  statics := none }

def pool2 : Array CpInfo := pool [(1, .methodref 2 3), (0, .class_ 4), (0, .nameAndType 5 6), (0, u "java/lang/Object"), (0, u "<init>"), (0, u "()V"), (0, .fieldref 8 9), (0, .class_ 10), (0, .nameAndType 11 12), (0, u "com/example/vigilant_coordinator/vigilantcoordinator/load/Spread"), (0, u "startNanos"), (0, u "J"), (0, .fieldref 8 14), (0, .nameAndType 15 12), (0, u "intervalNanos"), (0, .fieldref 8 17), (0, .nameAndType 18 19), (0, u "count"), (0, u "I"), (0, .fieldref 8 21), (0, .nameAndType 22 19), (0, u "first"), (0, .fieldref 8 24), (0, .nameAndType 25 19), (0, u "next"), (0, .fieldref 8 27), (0, .nameAndType 28 12), (0, u "round"), (0, u "(JJII)V"), (2, u "nextNanos"), (0, u "()J"), (0, u "take"), (0, u "()I")] 3

def k2c0 : Code := { maxStack := 3, maxLocals := 7, code := prog_45_method_1_code, exceptionTable := #[], attributes := #[] }
def k2m0 : Method := { name := "<init>", desc := "(JJII)V", sig := { parameters := [.long, .long, .int, .int], returnType := none }, accessFlags := 0, code := some k2c0 }
def k2c1 : Code := { maxStack := 6, maxLocals := 3, code := prog_45_method_2_code, exceptionTable := #[], attributes := #[] }
def k2m1 : Method := { name := "nextNanos", desc := "()J", sig := { parameters := [], returnType := some .long }, accessFlags := 0, code := some k2c1 }
def k2c2 : Code := { maxStack := 5, maxLocals := 2, code := prog_45_method_3_code, exceptionTable := #[], attributes := #[] }
def k2m2 : Method := { name := "take", desc := "()I", sig := { parameters := [], returnType := some .int }, accessFlags := 0, code := some k2c2 }
/-- com/example/vigilant_coordinator/vigilantcoordinator/load/Spread -/
def k2 : Class := { plain "com/example/vigilant_coordinator/vigilantcoordinator/load/Spread" (some 0) with
  accessFlags := 32
  interfaces := #[]
  cf := some (fileOf pool2 8 #[] #[{ accessFlags := 0, nameIndex := 5, descriptorIndex := 29, attributes := #[] }, { accessFlags := 0, nameIndex := 32, descriptorIndex := 33, attributes := #[] }, { accessFlags := 0, nameIndex := 34, descriptorIndex := 35, attributes := #[] }] 32 2 #[] #[{ accessFlags := 18, nameIndex := 11, descriptorIndex := 12, attributes := #[] }, { accessFlags := 18, nameIndex := 15, descriptorIndex := 12, attributes := #[] }, { accessFlags := 18, nameIndex := 18, descriptorIndex := 19, attributes := #[] }, { accessFlags := 18, nameIndex := 22, descriptorIndex := 19, attributes := #[] }, { accessFlags := 2, nameIndex := 28, descriptorIndex := 12, attributes := #[] }, { accessFlags := 2, nameIndex := 25, descriptorIndex := 19, attributes := #[] }])
  fields := #[{ name := "startNanos", type := .long, accessFlags := 18, slot := 0, constantValue := 0 }, { name := "intervalNanos", type := .long, accessFlags := 18, slot := 1, constantValue := 0 }, { name := "count", type := .int, accessFlags := 18, slot := 2, constantValue := 0 }, { name := "first", type := .int, accessFlags := 18, slot := 3, constantValue := 0 }, { name := "round", type := .long, accessFlags := 2, slot := 4, constantValue := 0 }, { name := "next", type := .int, accessFlags := 2, slot := 5, constantValue := 0 }]
  methods := #[k2m0, k2m1, k2m2]
  instanceTypes := #[.long, .long, .int, .int, .long, .int]
  staticTypes := #[]
  resolved := Array.replicate 39 none
  statics := none }

def pool3 : Array CpInfo := pool [(1, u "java/lang/Cloneable"), (0, .class_ 1), (0, u "java/lang/Object"), (0, .class_ 3)] 3

/-- java/lang/Cloneable -/
def k3 : Class := { plain "java/lang/Cloneable" (some 0) with
  accessFlags := 1537
  interfaces := #[]
  cf := some (fileOf pool3 2 #[] #[] 1537 4 #[] #[])
  fields := #[]
  methods := #[]
  instanceTypes := #[]
  staticTypes := #[]
  resolved := Array.replicate 8 none
  statics := none }

def pool4 : Array CpInfo := pool [(1, u "java/io/Serializable"), (0, .class_ 1), (0, u "java/lang/Object"), (0, .class_ 3)] 3

/-- java/io/Serializable -/
def k4 : Class := { plain "java/io/Serializable" (some 0) with
  accessFlags := 1537
  interfaces := #[]
  cf := some (fileOf pool4 2 #[] #[] 1537 4 #[] #[])
  fields := #[]
  methods := #[]
  instanceTypes := #[]
  staticTypes := #[]
  resolved := Array.replicate 8 none
  statics := none }

/-- the primitive byte -/
def k5 : Class := { plain "byte" none with kind := .primitive 'B', accessFlags := 0x411 }
/-- [B -/
def k6 : Class := { plain "[B" (some 0) with kind := .array 5 .byte, interfaces := #[3, 4], accessFlags := 1041 }

/-- the primitive int -/
def k7 : Class := { plain "int" none with kind := .primitive 'I', accessFlags := 0x411 }
/-- [I -/
def k8 : Class := { plain "[I" (some 0) with kind := .array 7 .int, interfaces := #[3, 4], accessFlags := 1041 }

def heap : Heap := #[]
def classes : Array Class := #[k0, k1, k2, k3, k4, k5, k6, k7, k8]
def interned : List (Array UInt16 × Addr) := []
def slotsUsed : Nat := 0
def theMethod : MethodId := ⟨1, 3⟩
def args0 : Array Value := #[.long 5, .long 7, .int 3, .int 2, .int 4]
def aboutOver (below : List Frame) : State where
  vm := { classes := classes, interned := interned.toArray }
  heap := heap
  slotsUsed := slotsUsed
  threads := #[{ frames := .invoking theMethod args0 :: below }]
def below0 : List Frame := [.native { method := ⟨0, 0⟩, args := #[] }]
def about1 : State := aboutOver below0
def p0 : Program := .bare "" "" ""
def e0 : Env := launch0.env 0 0 0
theorem w_frames : about1.frames = Frame.invoking theMethod args0 :: below0 := rfl
set_option maxRecDepth 65536 in
theorem w_args : argsFit about1.vm theMethod args0 = true := by decide +kernel
set_option maxRecDepth 65536 in
theorem w_heap : heapFits about1 = true := by decide +kernel
set_option maxRecDepth 65536 in
theorem w_runnable : about1.curStatus? = some .runnable := by decide +kernel
set_option maxRecDepth 65536 in
theorem w_alone : about1.alone = true := by decide +kernel
set_option maxRecDepth 65536 in
theorem w_named : about1.methodNamed? x = some theMethod := by decide +kernel
set_option maxRecDepth 65536 in
theorem w_hears : about1.hears theMethod below0 = true := by decide +kernel
set_option maxRecDepth 65536 in
theorem w_ripe : about1.ripe theMethod args0 below0 = true := by decide +kernel
theorem w_running : about1.status = .running := rfl
set_option maxRecDepth 65536 in
theorem w_room : about1.hasRoom e0.platform room_1 = true :=
  launch0.hasRoom_least _ room_1 (by decide +kernel) (by decide +kernel) (by decide +kernel) (by decide +kernel) (by decide +kernel) (by decide +kernel)
theorem allAtoms_all (ts : List Jvm.Cond) (a : Array Jvm.Value) (st : Jvm.State) : (allAtoms ts).before a st = ts.all (fun c => c.before a st) := by
  induction ts with
  | nil => rfl
  | cons c t ih =>
    show (Jvm.Cond.and c (allAtoms t)).before a st = _
    rw [Jvm.Cond.before_and, ih, List.all_cons]
def words1 : List Jvm.Cond := Jvm.Cond.code x code maxLocals ret :: tables_1
/-- a 'code' word, met by the world's own term for the bytes: nothing is compared byte by byte -/
theorem code_word {y : MethodName} {bytes : ByteArray} {mx : Nat} {rt : Option FieldType} {a : Array Value} {s : State} {m : MethodId} {meth : Method} {c : Code} (h1 : s.methodNamed? y = some m) (h2 : s.vm.method? m = some meth) (h3 : meth.code = some c) (h4 : c.code = bytes)
    (h5 : (c.maxLocals == mx && c.exceptionTable.isEmpty && decide (c.maxStack ≤ mostOperands) && decide (meth.sig.returnType = rt) && !meth.locks && decide (parseMethodDescriptor y.desc = some meth.sig)) = true) : (Jvm.Cond.code y bytes mx rt).before a s = true := by
  simp only [Bool.and_eq_true, beq_iff_eq, Bool.not_eq_true', decide_eq_true_eq] at h5
  obtain ⟨⟨⟨⟨⟨g1, g2⟩, g3⟩, g4⟩, g5⟩, g6⟩ := h5
  simp [Cond.before, Cond.holds, Cond.value, h1, h2, h3, h4, g1, g2, g3, g4, g5, g6]
def isCode : Jvm.Cond → Bool
  | .code _ _ _ _ => true
  | _ => false
theorem all_split {L : List Jvm.Cond} {P : Jvm.Cond → Bool} (h1 : L.all (fun c => isCode c || P c) = true) (h2 : ∀ c ∈ L.filter isCode, P c = true) : L.all P = true := by
  refine List.all_eq_true.mpr fun c hc => ?_
  have h := List.all_eq_true.mp h1 c hc
  rcases Bool.eq_false_or_eq_true (isCode c) with hi | hi
  · exact h2 c (List.mem_filter.mpr ⟨hc, hi⟩)
  · simpa [hi] using h
set_option maxRecDepth 65536 in
theorem w_c0 : (Jvm.Cond.code x code maxLocals ret).before args0 about1 = true := code_word (m := ⟨1, 3⟩) (meth := k1m3) (c := k1c3) (by decide +kernel) rfl rfl rfl (by decide +kernel)
set_option maxRecDepth 65536 in
theorem w_c1 : (Jvm.Cond.code ({ cls := "com/example/vigilant_coordinator/vigilantcoordinator/load/Spread", name := "<init>", desc := "(JJII)V" } : Jvm.MethodName) prog_45_method_1_code (7 : Nat) (Option.none : Option Jvm.ClassFile.FieldType)).before args0 about1 = true := code_word (m := ⟨2, 0⟩) (meth := k2m0) (c := k2c0) (by decide +kernel) rfl rfl rfl (by decide +kernel)
set_option maxRecDepth 65536 in
theorem w_c2 : (Jvm.Cond.code ({ cls := "java/lang/Object", name := "<init>", desc := "()V" } : Jvm.MethodName) object_method_1_code (1 : Nat) (Option.none : Option Jvm.ClassFile.FieldType)).before args0 about1 = true := code_word (m := ⟨0, 0⟩) (meth := k0m0) (c := k0c0) (by decide +kernel) rfl rfl rfl (by decide +kernel)
set_option maxRecDepth 65536 in
theorem w_c3 : (Jvm.Cond.code ({ cls := "com/example/vigilant_coordinator/vigilantcoordinator/load/Spread", name := "nextNanos", desc := "()J" } : Jvm.MethodName) prog_45_method_2_code (3 : Nat) (Option.some Jvm.ClassFile.FieldType.long)).before args0 about1 = true := code_word (m := ⟨2, 1⟩) (meth := k2m1) (c := k2c1) (by decide +kernel) rfl rfl rfl (by decide +kernel)
set_option maxRecDepth 65536 in
theorem w_c4 : (Jvm.Cond.code ({ cls := "com/example/vigilant_coordinator/vigilantcoordinator/load/SpreadNextNanosPinLaw", name := "offset", desc := "(JII)J" } : Jvm.MethodName) method_3_code (4 : Nat) (Option.some Jvm.ClassFile.FieldType.long)).before args0 about1 = true := code_word (m := ⟨1, 2⟩) (meth := k1m2) (c := k1c2) (by decide +kernel) rfl rfl rfl (by decide +kernel)
set_option maxRecDepth 65536 in
theorem w_c5 : (Jvm.Cond.code ({ cls := "com/example/vigilant_coordinator/vigilantcoordinator/load/Spread", name := "take", desc := "()I" } : Jvm.MethodName) prog_45_method_3_code (2 : Nat) (Option.some Jvm.ClassFile.FieldType.int)).before args0 about1 = true := code_word (m := ⟨2, 2⟩) (meth := k2m2) (c := k2c2) (by decide +kernel) rfl rfl rfl (by decide +kernel)
set_option maxRecDepth 65536 in
theorem w_c6 : (Jvm.Cond.code ({ cls := "com/example/vigilant_coordinator/vigilantcoordinator/load/SpreadNextNanosPinLaw", name := "corr", desc := "(JJ)J" } : Jvm.MethodName) method_2_code (4 : Nat) (Option.some Jvm.ClassFile.FieldType.long)).before args0 about1 = true := code_word (m := ⟨1, 1⟩) (meth := k1m1) (c := k1c1) (by decide +kernel) rfl rfl rfl (by decide +kernel)
def codes1 : List Jvm.Cond := [Jvm.Cond.code x code maxLocals ret, Jvm.Cond.code ({ cls := "com/example/vigilant_coordinator/vigilantcoordinator/load/Spread", name := "<init>", desc := "(JJII)V" } : Jvm.MethodName) prog_45_method_1_code (7 : Nat) (Option.none : Option Jvm.ClassFile.FieldType), Jvm.Cond.code ({ cls := "java/lang/Object", name := "<init>", desc := "()V" } : Jvm.MethodName) object_method_1_code (1 : Nat) (Option.none : Option Jvm.ClassFile.FieldType), Jvm.Cond.code ({ cls := "com/example/vigilant_coordinator/vigilantcoordinator/load/Spread", name := "nextNanos", desc := "()J" } : Jvm.MethodName) prog_45_method_2_code (3 : Nat) (Option.some Jvm.ClassFile.FieldType.long), Jvm.Cond.code ({ cls := "com/example/vigilant_coordinator/vigilantcoordinator/load/SpreadNextNanosPinLaw", name := "offset", desc := "(JII)J" } : Jvm.MethodName) method_3_code (4 : Nat) (Option.some Jvm.ClassFile.FieldType.long), Jvm.Cond.code ({ cls := "com/example/vigilant_coordinator/vigilantcoordinator/load/Spread", name := "take", desc := "()I" } : Jvm.MethodName) prog_45_method_3_code (2 : Nat) (Option.some Jvm.ClassFile.FieldType.int), Jvm.Cond.code ({ cls := "com/example/vigilant_coordinator/vigilantcoordinator/load/SpreadNextNanosPinLaw", name := "corr", desc := "(JJ)J" } : Jvm.MethodName) method_2_code (4 : Nat) (Option.some Jvm.ClassFile.FieldType.long)]
set_option maxRecDepth 65536 in
theorem codes_eq : words1.filter isCode = codes1 := rfl
theorem w_codes : ∀ c ∈ words1.filter isCode, c.before args0 about1 = true := by
  rw [codes_eq]
  intro c hc
  simp only [codes1, List.mem_cons, List.not_mem_nil, or_false] at hc
  rcases hc with rfl | rfl | rfl | rfl | rfl | rfl | rfl
  · exact w_c0
  · exact w_c1
  · exact w_c2
  · exact w_c3
  · exact w_c4
  · exact w_c5
  · exact w_c6
set_option maxRecDepth 65536 in
theorem w_t1 : (words1.take 24).all (fun c => isCode c || c.before args0 about1) = true := by decide +kernel
set_option maxRecDepth 65536 in
theorem w_t2 : (words1.drop 24).all (fun c => isCode c || c.before args0 about1) = true := by decide +kernel
theorem w_tables : (allAtoms (Jvm.Cond.code x code maxLocals ret :: tables_1)).before args0 about1 = true := by
  rw [allAtoms_all]
  show words1.all (fun c => c.before args0 about1) = true
  refine all_split ?_ w_codes
  rw [← List.take_append_drop 24 words1, List.all_append, w_t1, w_t2]
  rfl
set_option maxRecDepth 65536 in
theorem w_case : (Jvm.Cond.and given_1 narrow_1).before args0 about1 = true := by decide +kernel
theorem w_applies : (headSpec (Jvm.Cond.code x code maxLocals ret :: tables_1) room_1).applies x e0.platform about1 = true :=
  (Spec.applies_iff w_frames).mpr ⟨w_running, w_runnable, w_alone, w_named, w_hears, w_ripe, w_room, w_tables⟩
theorem atStart : AtStart classFile x code maxLocals ret World_1 tables_1 room_1 Calls_1 rest_1 Pre_1 launch0 p0 e0 about1 theMethod args0 below0 :=
  ⟨lists_1, trivial, launch0.admits_env _ _ _, launch0.least_env, fairChoices_fair.cas, fairChoices_fair.clock, w_frames, w_args, w_heap, w_applies, trivial, trivial, w_case⟩
end start1
theorem witness_1 : WitnessClaimed_1 := ⟨start1.p0, start1.e0, start1.about1, start1.theMethod, start1.args0, start1.below0, start1.atStart⟩
end Jvm.Pilot.@@N@@
