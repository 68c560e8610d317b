import JvmDerived
import JvmDerived.Pilot.@@N@@Statement
import JvmDerived.Pilot.@@N@@Code
set_option linter.unusedVariables false
set_option linter.unusedSimpArgs false
namespace Jvm.Pilot.@@N@@
open Jvm Jvm.ClassFile Sem Op Lib Jvm.Free Jvm.Stand Jvm.LawKit Jvm.RoadKit Bundle Jvm.Pilot.@@N@@.Jvm.D
/-! ## own layer: walks in goal-directed form -/
section Layer
variable {p : Program} {l : Launch} {e : Env} {R : Room} {s : State} {m : MethodId} {args : Array Value} {below : List Frame} {meth : Method} {c : Code} {T : State} {locs : List Loc} {cells slots : Nat} {Z : State} {a0 : Array Value} {h h' : Heap} {a b : Addr} {ty : FieldType} {xs ys : List Int32} {ls : List Int64}
/-- from S the run comes to the invocation's end, with what Q says of the value, the heap and the written places -/
def Go (p : Program) (e : Env) (below : List Frame) (s : State) (rm : Room) (Q : Option Value → Heap → List Loc → Prop) (S : State) : Prop :=
  ∃ t o, Steps p.tables e below S t ∧ t.status = .running ∧ Ended t below o ∧ ∃ v L, o = .returned v ∧ Q v t.heap L ∧ FrameEnd s o t L rm.cells rm.slots
theorem Go.st {rm : Room} {Q : Option Value → Heap → List Loc → Prop} {S S' : State} (k : ∀ t, Steps p.tables e below S' t → Steps p.tables e below S t) (g : Go p e below s rm Q S') : Go p e below s rm Q S := by
  obtain ⟨t, o, h, r⟩ := g; exact ⟨t, o, k t h, r⟩
theorem Go.ret {rm : Room} {Q : Option Value → Heap → List Loc → Prop} {S : State} {v : Option Value} (X : Stand p l e rm s m args below meth c T locs cells slots) (hv : meth.sig.returnType = none → v = none) (hlk : meth.locks = false) (hc : cells ≤ rm.cells) (hs : slots ≤ rm.slots) (hQ : Q v T.heap locs)
    (st : ∀ fs, (∀ (f : JFrame) (acts : List Action), f.method = m → f.locked = none → f.entered = [] → (doReturn e (T.setTop f) acts v).1 = T.setFrames fs) → Steps p.tables e below S (T.setFrames fs)) : Go p e below s rm Q S := by
  obtain ⟨fs, hr, hrun, hended, hW, hsame⟩ := X.leave (v := v) hv hlk
  exact ⟨_, _, st fs hr, hrun, hended, v, locs, rfl, hQ, ⟨v, rfl⟩, hW, hsame.mono hc hs⟩
theorem Go.retI {rm : Room} {Q : Option Value → Heap → List Loc → Prop} (X : Stand p l e rm s m args below meth c T locs cells slots) (hx : p.tables.exec = Jvm.exec) (hret : meth.sig.returnType = some .int) (hlk : meth.locks = false) {pc : Nat} {Ls : Array Slot} {z : Int32} {rest : List Value} (hd : decode c.code pc = .ok (.ireturn, 1)) (hc : cells ≤ rm.cells) (hs : slots ≤ rm.slots)
    (hQ : Q (some (.int z)) T.heap locs) : Go p e below s rm Q (T.setTop (mkF m pc Ls (.int z :: rest))) := by
  refine Go.ret X (v := some (.int z)) (fun q => by rw [hret] at q; cases q) hlk hc hs hQ fun fs hr => ?_
  have hm' : T.vm.method? m = some meth := X.method'
  have hn : narrow .int (.int z) = .int z := rfl
  show Steps p.tables e below (T.setTop { method := m, pc := pc, locals := Ls, stack := _ :: rest, locked := none }) _
  jvm_step X.here [X.here.top, hx, hd, hm', hret, hn]
  first | (intro acts; rw [hr _ acts rfl rfl rfl]) | rw [hr _ _ rfl rfl rfl]
  exact Steps.refl _
theorem Go.retN {rm : Room} {Q : Option Value → Heap → List Loc → Prop} {t : FieldType} (X : Stand p l e rm s m args below meth c T locs cells slots) (hx : p.tables.exec = Jvm.exec) (hret : meth.sig.returnType = some t) (ht : t = .boolean ∨ t = .byte ∨ t = .char ∨ t = .short) (hlk : meth.locks = false) {pc : Nat} {Ls : Array Slot} {z : Int32} {rest : List Value} (hd : decode c.code pc = .ok (.ireturn, 1)) (hc : cells ≤ rm.cells) (hs : slots ≤ rm.slots)
    (hQ : Q (some (.int (nar t z))) T.heap locs) : Go p e below s rm Q (T.setTop (mkF m pc Ls (.int z :: rest))) :=
  Go.ret X (v := some (.int (nar t z))) (fun q => by rw [hret] at q; cases q) hlk hc hs hQ fun fs hr => Jvm.RoadKit.retN X hx hret ht hd hr
theorem Go.retV {rm : Room} {Q : Option Value → Heap → List Loc → Prop} (X : Stand p l e rm s m args below meth c T locs cells slots) (hx : p.tables.exec = Jvm.exec) (hret : meth.sig.returnType = none) (hlk : meth.locks = false) {pc : Nat} {Ls : Array Slot} (hd : decode c.code pc = .ok (.return_, 1)) (hc : cells ≤ rm.cells) (hs : slots ≤ rm.slots)
    (hQ : Q none T.heap locs) : Go p e below s rm Q (T.setTop (mkF m pc Ls [])) :=
  Go.ret X (v := none) (fun _ => rfl) hlk hc hs hQ fun fs hr => X.returnOut hx hret hd hr
theorem Go.retJ {rm : Room} {Q : Option Value → Heap → List Loc → Prop} (X : Stand p l e rm s m args below meth c T locs cells slots) (hx : p.tables.exec = Jvm.exec) (hret : meth.sig.returnType = some .long) (hlk : meth.locks = false) {pc : Nat} {Ls : Array Slot} {z : Int64} {rest : List Value} (hd : decode c.code pc = .ok (.lreturn, 1)) (hc : cells ≤ rm.cells) (hs : slots ≤ rm.slots)
    (hQ : Q (some (.long z)) T.heap locs) : Go p e below s rm Q (T.setTop (mkF m pc Ls (.long z :: rest))) := by
  refine Go.ret X (v := some (.long z)) (fun q => by rw [hret] at q; cases q) hlk hc hs hQ fun fs hr => ?_
  have hm' : T.vm.method? m = some meth := X.method'
  show Steps p.tables e below (T.setTop { method := m, pc := pc, locals := Ls, stack := _ :: rest, locked := none }) _
  jvm_step X.here [X.here.top, hx, hd, hm', hret, narrow]
  first | (intro acts; rw [hr _ acts rfl rfl rfl]) | rw [hr _ _ rfl rfl rfl]
  exact Steps.refl _
theorem Go.retR {rm : Room} {Q : Option Value → Heap → List Loc → Prop} {t : FieldType} (X : Stand p l e rm s m args below meth c T locs cells slots) (hx : p.tables.exec = Jvm.exec) (hret : meth.sig.returnType = some t) (ht : t.isReference = true) (hlk : meth.locks = false) {pc : Nat} {Ls : Array Slot} {z : Addr} (hd : decode c.code pc = .ok (.areturn, 1)) (hc : cells ≤ rm.cells) (hs : slots ≤ rm.slots)
    (hQ : Q (some (.ref z)) T.heap locs) : Go p e below s rm Q (T.setTop (mkF m pc Ls [.ref z])) := by
  refine Go.ret X (v := some (.ref z)) (fun q => by rw [hret] at q; cases q) hlk hc hs hQ fun fs hr => ?_
  exact X.areturnOut hx rfl hret ht hd hr
/-- the contract of a body: called with these arguments over the heap h0 it comes back, and Q -/
abbrev Con (l : Launch) (Z : State) (y : MethodName) (bytes : ByteArray) (maxL : Nat) (ret : Option FieldType) (ws : List Jvm.Cond) (rm : Room) (as : Array Value) (h0 : Heap) (Q : Option Value → Heap → List Loc → Prop) : Prop :=
  MetFree l y (head1 (Jvm.Cond.code y bytes maxL ret :: ws) rm) (fun a U => a = as ∧ Z.Warmed39 U.vm ∧ U.heap = h0) (fun _ _ _ _ _ => True) (fun _ U o U' => ∃ v L, o = .returned v ∧ Q v U'.heap L ∧ FrameEnd U o U' L rm.cells rm.slots)
theorem Con.mk {y : MethodName} {bytes : ByteArray} {maxL : Nat} {ret : Option FieldType} {ws : List Jvm.Cond} {rm : Room} {as : Array Value} {h0 : Heap} {Q : Option Value → Heap → List Loc → Prop} (hp : plainFor y = true)
    (body : ∀ (p : Program) (e : Env) (s : State) (m : MethodId) (below : List Frame) (meth : Method) (c : Code) (T : State), p.tables.exec = Jvm.exec → c.code = bytes → c.maxLocals = maxL → s.vm.findClass y.cls = some m.cls → meth.name = y.name → meth.sig.returnType = ret → meth.locks = false → Z.Warmed39 s.vm →
      Stand p l e rm s m as below meth c T [] 0 0 → T.heap = h0 → Go p e below s rm Q (T.setTop (entryFrame m as maxL))) : Con l Z y bytes maxL ret ws rm as h0 Q := by
  refine MetFree.of_bodySF hp hisR ?_
  intro p e s m args below meth c s₁ Bd hml0 hP hK
  obtain ⟨rfl, hZ, hh⟩ := hP
  exact body p e s m below meth c s₁ Bd.exec Bd.bytes hml0 (findClass_of_methodNamed Bd.named) (name_of_methodNamed Bd.named Bd.method).1 Bd.returns Bd.notSynchronized hZ (Stand.of_body Bd) (by rw [← hh, Bd.state]; rfl)
theorem Go.cast {rm : Room} {Q : Option Value → Heap → List Loc → Prop} {f f' : JFrame} (q : f = f') (g : Go p e below s rm Q (T.setTop f')) : Go p e below s rm Q (T.setTop f) := q ▸ g
/-! calls -/
theorem callSt (X : Stand p l e R s m args below meth c T locs cells slots) (hx : p.tables.exec = Jvm.exec) (hZ : Z.Warmed39 s.vm) {own : String} {index : Nat} {y : MethodName} {bytes : ByteArray} {maxL : Nat} {ret : Option FieldType} {rm : Room} {W : Nat} {Q : Option Value → Heap → List Loc → Prop} {argsL rest : List Value}
    (hown : s.vm.findClass own = some m.cls) (w1 : (Jvm.Cond.methodLink own index y).before a0 Z = true) (w2 : (Jvm.Cond.static y).before a0 Z = true) (w3 : (Jvm.Cond.initialized y.cls).before a0 Z = true) (w4 : (Jvm.Cond.code y bytes maxL ret).before a0 Z = true) (hy : y.cls ≠ "java/lang/invoke/MethodHandle" ∧ y.cls ≠ "java/lang/invoke/VarHandle")
    (eT : T.heap = h) (hM : Con l Z y bytes maxL ret [] rm argsL.toArray h Q) (hf : rm.frames + 1 ≤ R.frames) (hl : W + (maxL + 11) + rm.locals ≤ R.locals) {sig : MethodDescriptor} (hpd : parseMethodDescriptor y.desc = some sig) (hlen : argsL.length = sig.parameters.length)
    {g : JFrame} (hg : g.method = m) (hsize : g.locals.size = c.maxLocals) (hstack : g.stack = argsL.reverse ++ rest) (hW : 2 * g.monitorRoom + (rest.map fun v => v.category).sum ≤ W) (hdg : decode c.code g.pc = .ok (.invokestatic index, 3)) (hc : cells + rm.cells ≤ R.cells) (hs : slots + rm.slots ≤ R.slots) :
    ∃ (v : Option Value) (T' : State) (h' : Heap) (L : List Loc), Stand p l e R s m args below meth c T' (locs ++ L) (cells + rm.cells) (slots + rm.slots) ∧ T'.heap = h' ∧ Q v h' L ∧ ∀ t, Steps p.tables e below (T'.setTop { g with pc := g.pc + 3, stack := v.toList ++ rest }) t → Steps p.tables e below (T.setTop g) t := by
  obtain ⟨v, _, ⟨T1, L1, k1, n1⟩, -, X1, ⟨Lc, hQ, l1, y1, z1⟩, st⟩ := Jvm.LawKit.callS X hx (y := y) hown (mvT hZ w1) (mvT hZ w2) (mvT hZ w3) (mvT hZ w4) hy (backOf (W := W) (Z := Z) (a0 := a0) (h := h) hM hZ w4 w3 hf hl) (g := g) hg hsize (argsL := argsL) (rest := rest) (fun sg q => by rw [hpd] at q; cases q; exact hlen) hstack hW hdg (fun _ _ => ⟨rfl, eT, hc, hs⟩)
  dsimp only [Pt.U, Pt.locs, Pt.cells, Pt.slots] at X1 l1 y1 z1 st hQ
  subst l1 y1 z1
  exact ⟨v, T1, T1.heap, Lc, X1, rfl, hQ, st⟩
theorem callIn (X : Stand p l e R s m args below meth c T locs cells slots) (hx : p.tables.exec = Jvm.exec) (hZ : Z.Warmed39 s.vm) {own : String} {index : Nat} {y : MethodName} {bytes : ByteArray} {maxL : Nat} {rm : Room} {W : Nat} {Q : Option Value → Heap → List Loc → Prop} {argsL rest : List Value} (hi : y.name = "<init>")
    (hown : s.vm.findClass own = some m.cls) (w1 : (Jvm.Cond.methodLink own index y).before a0 Z = true) (w2 : (Jvm.Cond.instanceMethod y).before a0 Z = true) (w3 : (Jvm.Cond.initialized y.cls).before a0 Z = true) (w4 : (Jvm.Cond.code y bytes maxL none).before a0 Z = true) (hy : y.cls ≠ "java/lang/invoke/MethodHandle" ∧ y.cls ≠ "java/lang/invoke/VarHandle")
    (eT : T.heap = h) (hM : Con l Z y bytes maxL none [] rm (.ref a :: argsL).toArray h Q) (hf : rm.frames + 1 ≤ R.frames) (hl : W + (maxL + 11) + rm.locals ≤ R.locals) {sig : MethodDescriptor} (hpd : parseMethodDescriptor y.desc = some sig) (hlen : argsL.length = sig.parameters.length)
    {g : JFrame} (hg : g.method = m) (hsize : g.locals.size = c.maxLocals) (hstack : g.stack = argsL.reverse ++ .ref a :: rest) (hW : 2 * g.monitorRoom + (rest.map fun v => v.category).sum ≤ W) (hdg : decode c.code g.pc = .ok (.invokespecial index, 3)) (hc : cells + rm.cells ≤ R.cells) (hs : slots + rm.slots ≤ R.slots) :
    ∃ (v : Option Value) (T' : State) (h' : Heap) (L : List Loc), Stand p l e R s m args below meth c T' (locs ++ L) (cells + rm.cells) (slots + rm.slots) ∧ T'.heap = h' ∧ Q v h' L ∧ ∀ t, Steps p.tables e below (T'.setTop { g with pc := g.pc + 3, stack := v.toList ++ rest }) t → Steps p.tables e below (T.setTop g) t := by
  obtain ⟨v, _, ⟨T1, L1, k1, n1⟩, -, X1, ⟨Lc, hQ, l1, y1, z1⟩, st⟩ := X.specialBack hx (y := y) hi hown (mvT hZ w1) (mvT hZ w2) (mvT hZ w4) hy (backOf (W := W) (Z := Z) (a0 := a0) (h := h) hM hZ w4 w3 hf hl) (g := g) hg hsize (Steps.refl _) (a := a) (argsL := argsL) (rest := rest) (fun sg q => by rw [hpd] at q; cases q; exact hlen) hstack hW hdg (fun _ _ => ⟨rfl, eT, hc, hs⟩)
  dsimp only [Pt.U, Pt.locs, Pt.cells, Pt.slots] at X1 l1 y1 z1 st hQ
  subst l1 y1 z1
  exact ⟨v, T1, T1.heap, Lc, X1, rfl, hQ, fun t k => st.trans k⟩
theorem callVi (X : Stand p l e R s m args below meth c T locs cells slots) (hx : p.tables.exec = Jvm.exec) (hZ : Z.Warmed39 s.vm) {own C : String} {index : Nat} {y : MethodName} {bytes : ByteArray} {maxL : Nat} {ret : Option FieldType} {rm : Room} {W : Nat} {Q : Option Value → Heap → List Loc → Prop} {argsL rest : List Value}
    (hown : s.vm.findClass own = some m.cls) (w1 : (Jvm.Cond.methodLink own index y).before a0 Z = true) (wd : (Jvm.Cond.declares y).before a0 Z = true) (ws : (Jvm.Cond.selects C y y).before a0 Z = true) (w2 : (Jvm.Cond.instanceMethod y).before a0 Z = true) (w3 : (Jvm.Cond.initialized y.cls).before a0 Z = true) (w4 : (Jvm.Cond.code y bytes maxL ret).before a0 Z = true) (hy : y.cls ≠ "java/lang/invoke/MethodHandle" ∧ y.cls ≠ "java/lang/invoke/VarHandle")
    (eT : T.heap = h) (E : Exa Z h a C) (hM : Con l Z y bytes maxL ret [] rm (.ref a :: argsL).toArray h Q) (hf : rm.frames + 1 ≤ R.frames) (hl : W + (maxL + 11) + rm.locals ≤ R.locals) {sig : MethodDescriptor} (hpd : parseMethodDescriptor y.desc = some sig) (hlen : argsL.length = sig.parameters.length)
    {g : JFrame} (hg : g.method = m) (hsize : g.locals.size = c.maxLocals) (hstack : g.stack = argsL.reverse ++ .ref a :: rest) (hW : 2 * g.monitorRoom + (rest.map fun v => v.category).sum ≤ W) (hdg : decode c.code g.pc = .ok (.invokevirtual index, 3)) (hc : cells + rm.cells ≤ R.cells) (hs : slots + rm.slots ≤ R.slots) :
    ∃ (v : Option Value) (T' : State) (h' : Heap) (L : List Loc), Stand p l e R s m args below meth c T' (locs ++ L) (cells + rm.cells) (slots + rm.slots) ∧ T'.heap = h' ∧ Q v h' L ∧ ∀ t, Steps p.tables e below (T'.setTop { g with pc := g.pc + 3, stack := v.toList ++ rest }) t → Steps p.tables e below (T.setTop g) t := by
  obtain ⟨cB, kB, q1, q2, q3⟩ := isOf hZ eT E
  obtain ⟨v, _, ⟨T1, L1, k1, n1⟩, -, X1, ⟨Lc, hQ, l1, y1, z1⟩, st⟩ := X.virtualBack hx (y := y) (z := y) hown (mvT hZ w1) (mvT hZ wd) (notFace_of_selects (args := #[]) (mvT hZ ws)) (mvT hZ ws) (mvT hZ w2) hy (backOf (W := W) (Z := Z) (a0 := a0) (h := h) hM hZ w4 w3 hf hl) q1 q3 (g := g) hg hsize (Steps.refl _) (argsL := argsL) (rest := rest) (fun sg q => by rw [hpd] at q; cases q; exact hlen) hstack hW hdg (fun _ _ => ⟨rfl, eT, hc, hs⟩)
  dsimp only [Pt.U, Pt.locs, Pt.cells, Pt.slots] at X1 l1 y1 z1 st hQ
  subst l1 y1 z1
  exact ⟨v, T1, T1.heap, Lc, X1, rfl, hQ, fun t k => st.trans k⟩
theorem callPr (X : Stand p l e R s m args below meth c T locs cells slots) (hx : p.tables.exec = Jvm.exec) (hZ : Z.Warmed39 s.vm) {own : String} {index ni : Nat} {y : MethodName} {bytes : ByteArray} {maxL : Nat} {ret : Option FieldType} {rm : Room} {W : Nat} {Q : Option Value → Heap → List Loc → Prop} {argsL rest : List Value}
    (hown : s.vm.findClass own = some m.cls) (w1 : (Jvm.Cond.methodLink own index y).before a0 Z = true) (w2 : (Jvm.Cond.instanceMethod y).before a0 Z = true) (wi : (Jvm.Cond.instantiable y.cls ni).before a0 Z = true) (wp : (Jvm.Cond.privateMethod y).before a0 Z = true) (w3 : (Jvm.Cond.initialized y.cls).before a0 Z = true) (w4 : (Jvm.Cond.code y bytes maxL ret).before a0 Z = true) (hy : y.cls ≠ "java/lang/invoke/MethodHandle" ∧ y.cls ≠ "java/lang/invoke/VarHandle")
    (eT : T.heap = h) {C : String} (E : Exa Z h a C) (hM : Con l Z y bytes maxL ret [] rm (.ref a :: argsL).toArray h Q) (hf : rm.frames + 1 ≤ R.frames) (hl : W + (maxL + 11) + rm.locals ≤ R.locals) {sig : MethodDescriptor} (hpd : parseMethodDescriptor y.desc = some sig) (hlen : argsL.length = sig.parameters.length)
    {g : JFrame} (hg : g.method = m) (hsize : g.locals.size = c.maxLocals) (hstack : g.stack = argsL.reverse ++ .ref a :: rest) (hW : 2 * g.monitorRoom + (rest.map fun v => v.category).sum ≤ W) (hdg : decode c.code g.pc = .ok (.invokevirtual index, 3)) (hc : cells + rm.cells ≤ R.cells) (hs : slots + rm.slots ≤ R.slots) :
    ∃ (v : Option Value) (T' : State) (h' : Heap) (L : List Loc), Stand p l e R s m args below meth c T' (locs ++ L) (cells + rm.cells) (slots + rm.slots) ∧ T'.heap = h' ∧ Q v h' L ∧ ∀ t, Steps p.tables e below (T'.setTop { g with pc := g.pc + 3, stack := v.toList ++ rest }) t → Steps p.tables e below (T.setTop g) t := by
  obtain ⟨cell, q1, q2⟩ := E.cell
  have wi' : (Jvm.Cond.instantiable y.cls ni).before args s = true := mvT hZ wi
  obtain ⟨cI, kI, i1, i2, i3, i4, -⟩ := Cond.instantiable_spec wi'
  have i5 : kI.isInterface = false := by cases hq : kI.isInterface <;> simp [hq] at i4 ⊢
  have hpriv : s.PrivateAt y := Cond.privateMethod_at (mvP hZ wp (args := args))
  have hinst : (Jvm.Cond.instanceMethod y).before args s = true := mvT hZ w2
  obtain ⟨v, _, ⟨T1, L1, k1, n1⟩, -, X1, ⟨Lc, hQ, l1, y1, z1⟩, st⟩ := X.privateBack hx (y := y) hown (mvT hZ w1) hinst (selects_self_of_private i1 i2 i5 hpriv hinst hy) hpriv (mvT hZ w4) hy (backOf (W := W) (Z := Z) (a0 := a0) (h := h) hM hZ w4 w3 hf hl) (g := g) hg hsize (Steps.refl _) (a := a) (cell := cell) (by rw [eT]; exact q1) q2 (argsL := argsL) (rest := rest) (fun sg q => by rw [hpd] at q; cases q; exact hlen) hstack hW hdg (fun _ _ => ⟨rfl, eT, hc, hs⟩)
  dsimp only [Pt.U, Pt.locs, Pt.cells, Pt.slots] at X1 l1 y1 z1 st hQ
  subst l1 y1 z1
  exact ⟨v, T1, T1.heap, Lc, X1, rfl, hQ, fun t k => st.trans k⟩
/-! arrays of ints, bytes, .. by the list of what they hold -/
def Ai (Z : State) (h : Heap) (a : Addr) (ty : FieldType) (xs : List Int32) : Prop := ∃ (k : ClassId) (z : Int32), Arv Z h a k ty z (xs.map Value.int) (.int 0) ∧ z.toNatClampNeg = xs.length
theorem Ai.lt (A : Ai Z h a ty xs) : a < h.size := by obtain ⟨_, _, q, -⟩ := A; exact q.lt
theorem Ai.ext (A : Ai Z h a ty xs) (E : Ext h h') : Ai Z h' a ty xs := by obtain ⟨k, z, q, r⟩ := A; exact ⟨k, z, q.ext E, r⟩
theorem Ai.other {sl : Nat} {v : Value} (A : Ai Z h a ty xs) (W : Wr h h' b sl v) (ne : a ≠ b) : Ai Z h' a ty xs := by obtain ⟨k, z, q, r⟩ := A; exact ⟨k, z, q.other W ne, r⟩
theorem Ai.keep {ws : List Addr} (A : Ai Z h a ty xs) (K : Keep h h' ws) (nin : a ∉ ws) : Ai Z h' a ty xs := by obtain ⟨k, z, q, r⟩ := A; exact ⟨k, z, q.keep K nin, r⟩
theorem Ai.len (A : Ai Z h a ty xs) : xs.length < 2 ^ 31 := by
  obtain ⟨k, z, ⟨c, -, -, -, hz, -⟩, r⟩ := A
  rw [← r]; exact (back32 hz).2
theorem Ai.open (A : Ai Z h a ty xs) : ∃ c : Cell, Arr Z h a c ty ∧ c.slots.size = xs.length ∧ ∀ (i : Nat) (v : Int32), xs[i]? = some v → c.slots[i]? = some (.int v) := by
  obtain ⟨k, z, ⟨c, A, q1, S, q3, H, G⟩, r⟩ := A
  refine ⟨c, A, S.trans r, fun i v hv => ?_⟩
  have hi : i < xs.length := (List.getElem?_eq_some_iff.mp hv).1
  rw [H i (by rw [S, r]; exact hi)]
  simp [List.getD_eq_getElem?_getD, hv]
theorem Ai.fitsOf {i : Nat} {v : Int32} (A : Ai Z h a ty xs) (hv : xs[i]? = some v) : fits ty (.int v) = true := by
  obtain ⟨k, z, ⟨c, A, q1, S, q3, H, G⟩, r⟩ := A
  have hi : i < xs.length := (List.getElem?_eq_some_iff.mp hv).1
  have := G i (by rw [S, r]; exact hi)
  simpa [List.getD_eq_getElem?_getD, hv] using this
theorem own_in {n : Nat} {j : Int32} (hj : ¬ j < 0) (hi : j.toNatClampNeg < n) : ¬ (j < 0 ∨ n ≤ j.toNatClampNeg) := fun q => q.elim hj fun r => absurd hi (Nat.not_lt.mpr r)
theorem Ai.load (A : Ai Z h a .int xs) (X : Stand p l e R s m args below meth c T locs cells slots) (hx : p.tables.exec = Jvm.exec) (hZ : Z.Warmed39 s.vm) (eT : T.heap = h) {j v : Int32} (hj : ¬ j < 0) (hv : xs[j.toNatClampNeg]? = some v) {g : JFrame} (hg : g.method = m) {rest : List Value} (hs : g.stack = .int j :: .ref a :: rest) (hd : decode c.code g.pc = .ok (.iaload, 1)) :
    ∀ t, Steps p.tables e below (T.setTop { g with pc := g.pc + 1, stack := .int v :: rest }) t → Steps p.tables e below (T.setTop g) t := by
  obtain ⟨cl, Ar, S, H⟩ := A.open
  exact fun t k => X.iaload hx (j := j) (v := .int v) (by rw [eT]; exact Ar.1) (State.isArrayOf_alike hZ.alike Ar.2.1) Ar.2.2 (own_in hj (by rw [S]; exact (List.getElem?_eq_some_iff.mp hv).1)) (H _ _ hv) hg hs hd t k
theorem Ai.bload (A : Ai Z h a .byte xs) (X : Stand p l e R s m args below meth c T locs cells slots) (hx : p.tables.exec = Jvm.exec) (hZ : Z.Warmed39 s.vm) (eT : T.heap = h) {j v : Int32} (hj : ¬ j < 0) (hv : xs[j.toNatClampNeg]? = some v) {g : JFrame} (hg : g.method = m) {rest : List Value} (hs : g.stack = .int j :: .ref a :: rest) (hd : decode c.code g.pc = .ok (.baload, 1)) :
    ∀ t, Steps p.tables e below (T.setTop { g with pc := g.pc + 1, stack := .int v :: rest }) t → Steps p.tables e below (T.setTop g) t := by
  obtain ⟨cl, Ar, S, H⟩ := A.open
  exact fun t k => X.baloadBytes hx (j := j) (v := .int v) (by rw [eT]; exact Ar.1) (State.isArrayOf_alike hZ.alike Ar.2.1) Ar.2.2 (own_in hj (by rw [S]; exact (List.getElem?_eq_some_iff.mp hv).1)) (H _ _ hv) hg hs hd t k
theorem Ai.length (A : Ai Z h a ty xs) (X : Stand p l e R s m args below meth c T locs cells slots) (hx : p.tables.exec = Jvm.exec) (hZ : Z.Warmed39 s.vm) (eT : T.heap = h) {n : Int32} (hn : xs.length.toInt32 = n) {g : JFrame} (hg : g.method = m) {rest : List Value} (hs : g.stack = .ref a :: rest) (hd : decode c.code g.pc = .ok (.arraylength, 1)) :
    ∀ t, Steps p.tables e below (T.setTop { g with pc := g.pc + 1, stack := .int n :: rest }) t → Steps p.tables e below (T.setTop g) t := by
  obtain ⟨cl, Ar, S, H⟩ := A.open
  subst hn
  rw [← S]
  exact fun t k => X.arraylength hx (by rw [eT]; exact Ar.1) (State.isArrayOf_alike hZ.alike Ar.2.1) hg hs hd t k
theorem Ai.set {j v : Int32} (A : Ai Z h a ty xs) (hf : fits ty (.int v) = true) (W : Wr h h' a j.toNatClampNeg (.int v)) (hi : j.toNatClampNeg < xs.length) : Ai Z h' a ty (xs.set j.toNatClampNeg v) := by
  obtain ⟨k, z, ⟨c, A, q1, S, q3, H, G⟩, r⟩ := A
  refine ⟨k, z, ?_, by simpa using r⟩
  rw [List.map_set]
  exact Arv.set A q1 S q3 H G hf W j.toNatClampNeg rfl (by simpa using hi)
theorem Ai.store (A : Ai Z h a .int xs) (X : Stand p l e R s m args below meth c T locs cells slots) (hx : p.tables.exec = Jvm.exec) (hZ : Z.Warmed39 s.vm) (eT : T.heap = h) {j v : Int32} (hj : ¬ j < 0) (hi : j.toNatClampNeg < xs.length) {g : JFrame} (hg : g.method = m) {rest : List Value} (hs : g.stack = .int v :: .int j :: .ref a :: rest) (hd : decode c.code g.pc = .ok (.iastore, 1)) :
    ∃ T' h', Stand p l e R s m args below meth c T' (locs ++ [⟨a, j.toNatClampNeg⟩]) cells slots ∧ T'.heap = h' ∧ Wr h h' a j.toNatClampNeg (.int v) ∧ Ai Z h' a .int (xs.set j.toNatClampNeg v) ∧
      ∀ t, Steps p.tables e below (T'.setTop { g with pc := g.pc + 1, stack := rest }) t → Steps p.tables e below (T.setTop g) t := by
  obtain ⟨cl, Ar, S, H⟩ := A.open
  obtain ⟨T', h', X', e', W, st⟩ := stI X hx hZ eT Ar (j := j) (own_in hj (by rw [S]; exact hi)) hg hs hd
  exact ⟨T', h', X', e', W, A.set rfl W hi, st⟩
theorem Ai.bstore (A : Ai Z h a .byte xs) (X : Stand p l e R s m args below meth c T locs cells slots) (hx : p.tables.exec = Jvm.exec) (hZ : Z.Warmed39 s.vm) (eT : T.heap = h) {j v : Int32} (hj : ¬ j < 0) (hi : j.toNatClampNeg < xs.length) {g : JFrame} (hg : g.method = m) {rest : List Value} (hs : g.stack = .int v :: .int j :: .ref a :: rest) (hd : decode c.code g.pc = .ok (.bastore, 1)) :
    ∃ T' h', Stand p l e R s m args below meth c T' (locs ++ [⟨a, j.toNatClampNeg⟩]) cells slots ∧ T'.heap = h' ∧ Wr h h' a j.toNatClampNeg (.int v.toInt8.toInt32) ∧ Ai Z h' a .byte (xs.set j.toNatClampNeg v.toInt8.toInt32) ∧
      ∀ t, Steps p.tables e below (T'.setTop { g with pc := g.pc + 1, stack := rest }) t → Steps p.tables e below (T.setTop g) t := by
  obtain ⟨cl, Ar, S, H⟩ := A.open
  obtain ⟨T', h', X', e', W, st⟩ := stB X hx hZ eT Ar (j := j) (own_in hj (by rw [S]; exact hi)) hg hs hd
  exact ⟨T', h', X', e', W, A.set (fits_nar_byte v) W hi, st⟩
theorem Ai.new (X : Stand p l e R s m args below meth c T locs cells slots) (hx : p.tables.exec = Jvm.exec) (hZ : Z.Warmed39 s.vm) {aty : ArrayType} (w : (Jvm.Cond.arrayClass (newarray.typeOf aty)).before a0 Z = true) (hdef : defaultValue (newarray.typeOf aty) = .int 0) (eT : T.heap = h) {n : Int32} (hn : ¬ n < 0) (cap : Nat) (hcap : n.toNatClampNeg ≤ cap) (hb : cap * 8 ≤ 536870912) (hc : cells + 1 ≤ R.cells) (hl : slots + cap ≤ R.slots)
    {g : JFrame} (hg : g.method = m) {rest : List Value} (hs : g.stack = .int n :: rest) (hd : decode c.code g.pc = .ok (.newarray aty, 2)) :
    ∃ T' h' b, Stand p l e R s m args below meth c T' locs (cells + 1) (slots + cap) ∧ T'.heap = h' ∧ b = h.size ∧ Ext h h' ∧ Ai Z h' b (newarray.typeOf aty) (List.replicate n.toNatClampNeg 0) ∧
      ∀ t, Steps p.tables e below (T'.setTop { g with pc := g.pc + 2, stack := .ref b :: rest }) t → Steps p.tables e below (T.setTop g) t := by
  obtain ⟨T', h', k, X', e', E, A, st⟩ := newP X hx hZ w eT (g := g) hg hd hs hn hcap hb hc hl
  refine ⟨T', h', _, X', e', rfl, E, ⟨k, n, ?_, by simp⟩, st⟩
  have V := Arv.new A hn
  rw [hdef] at V
  rw [List.map_replicate]
  exact V.pad (pad_rep [] (.int 0) n.toNatClampNeg)
theorem Ai.newE (X : Stand p l e R s m args below meth c T locs cells slots) (hx : p.tables.exec = Jvm.exec) (hZ : Z.Warmed39 s.vm) {aty : ArrayType} (w : (Jvm.Cond.arrayClass (newarray.typeOf aty)).before a0 Z = true) (hdef : defaultValue (newarray.typeOf aty) = .int 0) (eT : T.heap = h) {n : Int32} (hn : ¬ n < 0) (cap : Nat) (hcap : n.toNatClampNeg ≤ cap) (hb : cap * 8 ≤ 536870912) (hc : cells + 1 ≤ R.cells) (hl : slots + cap ≤ R.slots) {ad : String} (had : "[" ++ (newarray.typeOf aty).toString = ad)
    {g : JFrame} (hg : g.method = m) {rest : List Value} (hs : g.stack = .int n :: rest) (hd : decode c.code g.pc = .ok (.newarray aty, 2)) :
    ∃ T' h' b, Stand p l e R s m args below meth c T' locs (cells + 1) (slots + cap) ∧ T'.heap = h' ∧ b = h.size ∧ Ext h h' ∧ Ai Z h' b (newarray.typeOf aty) (List.replicate n.toNatClampNeg 0) ∧ Exa Z h' b ad ∧
      ∀ t, Steps p.tables e below (T'.setTop { g with pc := g.pc + 2, stack := .ref b :: rest }) t → Steps p.tables e below (T.setTop g) t := by
  obtain ⟨T', h', k, X', e', E, A, Ex, st⟩ := newPE X hx hZ w eT (g := g) hg hd hs hn hcap hb hc hl had
  refine ⟨T', h', _, X', e', rfl, E, ⟨k, n, ?_, by simp⟩, Ex, st⟩
  have V := Arv.new A hn
  rw [hdef] at V
  rw [List.map_replicate]
  exact V.pad (pad_rep [] (.int 0) n.toNatClampNeg)
theorem Ai.copy (X : Stand p l e R s m args below meth c T locs cells slots) (hx : p.tables.exec = Jvm.exec) (hZ : Z.Warmed39 s.vm) {own : String} {index : Nat} (hown : s.vm.findClass own = some m.cls)
    (w1 : (Jvm.Cond.methodLink own index Jvm.Stand.acN).before a0 Z = true) (w2 : (Jvm.Cond.native Jvm.Stand.acN).before a0 Z = true) (w3 : (Jvm.Cond.static Jvm.Stand.acN).before a0 Z = true) (w4 : (Jvm.Cond.initialized "java/lang/System").before a0 Z = true) (eT : T.heap = h)
    {sp dp nn : Int32} (A : Ai Z h a ty xs) (B : Ai Z h b ty ys) (hty : refKind ty = false) (h1 : ¬ sp < 0) (h2 : ¬ dp < 0) (h3 : ¬ nn < 0) (h4 : sp.toNatClampNeg + nn.toNatClampNeg ≤ xs.length) (h5 : dp.toNatClampNeg + nn.toNatClampNeg ≤ ys.length) {n0 : Nat} (N : Fr n0 locs) (ge : n0 ≤ b)
    {g : JFrame} (hg : g.method = m) (hsize : g.locals.size = c.maxLocals) {rest : List Value} (hs : g.stack = .int nn :: .int dp :: .ref b :: .int sp :: .ref a :: rest) (hd : decode c.code g.pc = .ok (.invokestatic index, 3))
    (hf : 1 ≤ R.frames) {W : Nat} (hW : 2 * g.monitorRoom + (rest.map fun v => v.category).sum ≤ W) (hlo : W + (nativeFrameWords "java/lang/System" "arraycopy" 5 + 11) ≤ R.locals) :
    ∃ T' h' L, Stand p l e R s m args below meth c T' L cells slots ∧ T'.heap = h' ∧ Fr n0 L ∧ Keep h h' [b] ∧ Ai Z h' b ty (ys.take dp.toNatClampNeg ++ (xs.drop sp.toNatClampNeg).take nn.toNatClampNeg ++ ys.drop (dp.toNatClampNeg + nn.toNatClampNeg)) ∧
      ∀ t, Steps p.tables e below (T'.setTop { g with pc := g.pc + 3, stack := rest }) t → Steps p.tables e below (T.setTop g) t := by
  obtain ⟨k, z, A, r⟩ := A
  obtain ⟨k', z', B, r'⟩ := B
  obtain ⟨T', h', L, X', e', N', K, V, st⟩ := cpA X hx hZ hown w1 w2 w3 w4 eT A B (Or.inl ⟨rfl, hty⟩) h1 h2 h3 (by rw [r]; exact h4) (by rw [r']; exact h5) rfl (by simpa using h5) N ge hg hsize hs hd hf hW hlo
  refine ⟨T', h', L, X', e', N', K, ⟨k', z', ?_, ?_⟩, st⟩
  · have q : (List.range nn.toNatClampNeg).map (fun i => (xs.map Value.int).getD (sp.toNatClampNeg + i) (.int 0)) = ((xs.drop sp.toNatClampNeg).take nn.toNatClampNeg).map Value.int := by
      apply List.ext_getElem?
      intro i
      by_cases hi : i < nn.toNatClampNeg
      · have h6 : sp.toNatClampNeg + i < xs.length := by omega
        simp [List.getElem?_take, hi, h6, List.getD_eq_getElem?_getD]
      · simp [List.getElem?_take, hi]
    rw [q] at V
    simpa [List.map_append, List.map_take, List.map_drop] using V
  · rw [r']; simp; omega
/-! arrays of longs -/
def Al (Z : State) (h : Heap) (a : Addr) (ls : List Int64) : Prop := ∃ (k : ClassId) (z : Int32), Arv Z h a k .long z (ls.map Value.long) (.long 0) ∧ z.toNatClampNeg = ls.length
theorem Al.lt (A : Al Z h a ls) : a < h.size := by obtain ⟨_, _, q, -⟩ := A; exact q.lt
theorem Al.ext (A : Al Z h a ls) (E : Ext h h') : Al Z h' a ls := by obtain ⟨k, z, q, r⟩ := A; exact ⟨k, z, q.ext E, r⟩
theorem Al.other {sl : Nat} {v : Value} (A : Al Z h a ls) (W : Wr h h' b sl v) (ne : a ≠ b) : Al Z h' a ls := by obtain ⟨k, z, q, r⟩ := A; exact ⟨k, z, q.other W ne, r⟩
theorem Al.keep {ws : List Addr} (A : Al Z h a ls) (K : Keep h h' ws) (nin : a ∉ ws) : Al Z h' a ls := by obtain ⟨k, z, q, r⟩ := A; exact ⟨k, z, q.keep K nin, r⟩
theorem Al.len (A : Al Z h a ls) : ls.length < 2 ^ 31 := by
  obtain ⟨k, z, ⟨c, -, -, -, hz, -⟩, r⟩ := A
  rw [← r]; exact (back32 hz).2
theorem Al.open (A : Al Z h a ls) : ∃ c : Cell, Arr Z h a c .long ∧ c.slots.size = ls.length ∧ ∀ (i : Nat) (v : Int64), ls[i]? = some v → c.slots[i]? = some (.long v) := by
  obtain ⟨k, z, ⟨c, A, q1, S, q3, H, G⟩, r⟩ := A
  refine ⟨c, A, S.trans r, fun i v hv => ?_⟩
  have hi : i < ls.length := (List.getElem?_eq_some_iff.mp hv).1
  rw [H i (by rw [S, r]; exact hi)]
  simp [List.getD_eq_getElem?_getD, hv]
theorem Al.load (A : Al Z h a ls) (X : Stand p l e R s m args below meth c T locs cells slots) (hx : p.tables.exec = Jvm.exec) (hZ : Z.Warmed39 s.vm) (eT : T.heap = h) {j : Int32} {v : Int64} (hj : ¬ j < 0) (hv : ls[j.toNatClampNeg]? = some v) {g : JFrame} (hg : g.method = m) {rest : List Value} (hs : g.stack = .int j :: .ref a :: rest) (hd : decode c.code g.pc = .ok (.laload, 1)) :
    ∀ t, Steps p.tables e below (T.setTop { g with pc := g.pc + 1, stack := .long v :: rest }) t → Steps p.tables e below (T.setTop g) t := by
  obtain ⟨cl, Ar, S, H⟩ := A.open
  exact fun t k => X.laload hx (j := j) (v := .long v) (by rw [eT]; exact Ar.1) (State.isArrayOf_alike hZ.alike Ar.2.1) Ar.2.2 (own_in hj (by rw [S]; exact (List.getElem?_eq_some_iff.mp hv).1)) (H _ _ hv) hg hs hd t k
theorem Al.length (A : Al Z h a ls) (X : Stand p l e R s m args below meth c T locs cells slots) (hx : p.tables.exec = Jvm.exec) (hZ : Z.Warmed39 s.vm) (eT : T.heap = h) {n : Int32} (hn : ls.length.toInt32 = n) {g : JFrame} (hg : g.method = m) {rest : List Value} (hs : g.stack = .ref a :: rest) (hd : decode c.code g.pc = .ok (.arraylength, 1)) :
    ∀ t, Steps p.tables e below (T.setTop { g with pc := g.pc + 1, stack := .int n :: rest }) t → Steps p.tables e below (T.setTop g) t := by
  obtain ⟨cl, Ar, S, H⟩ := A.open
  subst hn
  rw [← S]
  exact fun t k => X.arraylength hx (by rw [eT]; exact Ar.1) (State.isArrayOf_alike hZ.alike Ar.2.1) hg hs hd t k
theorem Al.store (A : Al Z h a ls) (X : Stand p l e R s m args below meth c T locs cells slots) (hx : p.tables.exec = Jvm.exec) (hZ : Z.Warmed39 s.vm) (eT : T.heap = h) {j : Int32} {v : Int64} (hj : ¬ j < 0) (hi : j.toNatClampNeg < ls.length) {g : JFrame} (hg : g.method = m) {rest : List Value} (hs : g.stack = .long v :: .int j :: .ref a :: rest) (hd : decode c.code g.pc = .ok (.lastore, 1)) :
    ∃ T' h', Stand p l e R s m args below meth c T' (locs ++ [⟨a, j.toNatClampNeg⟩]) cells slots ∧ T'.heap = h' ∧ Wr h h' a j.toNatClampNeg (.long v) ∧ Al Z h' a (ls.set j.toNatClampNeg v) ∧
      ∀ t, Steps p.tables e below (T'.setTop { g with pc := g.pc + 1, stack := rest }) t → Steps p.tables e below (T.setTop g) t := by
  obtain ⟨cl, Ar, S, H⟩ := A.open
  obtain ⟨T', h', X', e', W, st⟩ := stJ X hx hZ eT Ar (j := j) (own_in hj (by rw [S]; exact hi)) hg hs hd
  refine ⟨T', h', X', e', W, ?_, st⟩
  obtain ⟨k, z, ⟨c, A, q1, S, q3, H, G⟩, r⟩ := A
  refine ⟨k, z, ?_, by simpa using r⟩
  rw [List.map_set]
  exact Arv.set A q1 S q3 H G rfl W j.toNatClampNeg rfl (by simpa using hi)
theorem Al.new (X : Stand p l e R s m args below meth c T locs cells slots) (hx : p.tables.exec = Jvm.exec) (hZ : Z.Warmed39 s.vm) {aty : ArrayType} (w : (Jvm.Cond.arrayClass (newarray.typeOf aty)).before a0 Z = true) (hdef : aty = .long) (eT : T.heap = h) {n : Int32} (hn : ¬ n < 0) (cap : Nat) (hcap : n.toNatClampNeg ≤ cap) (hb : cap * 8 ≤ 536870912) (hc : cells + 1 ≤ R.cells) (hl : slots + cap ≤ R.slots)
    {g : JFrame} (hg : g.method = m) {rest : List Value} (hs : g.stack = .int n :: rest) (hd : decode c.code g.pc = .ok (.newarray aty, 2)) :
    ∃ T' h' b, Stand p l e R s m args below meth c T' locs (cells + 1) (slots + cap) ∧ T'.heap = h' ∧ b = h.size ∧ Ext h h' ∧ Al Z h' b (List.replicate n.toNatClampNeg 0) ∧
      ∀ t, Steps p.tables e below (T'.setTop { g with pc := g.pc + 2, stack := .ref b :: rest }) t → Steps p.tables e below (T.setTop g) t := by
  obtain ⟨T', h', k, X', e', E, A, st⟩ := newP X hx hZ w eT (g := g) hg hd hs hn hcap hb hc hl
  subst hdef
  refine ⟨T', h', _, X', e', rfl, E, ⟨k, n, ?_, by simp⟩, st⟩
  have V := Arv.new A hn
  rw [List.map_replicate]
  exact V.pad (pad_rep [] (.long 0) n.toNatClampNeg)
theorem own_if1 {P : Prop} [Decidable P] (h : P) : ¬ ((if P then (1 : Int32) else (0 : Int32)) = 0) := by rw [if_pos h]; decide
theorem own_if0 {P : Prop} [Decidable P] (h : ¬ P) : (if P then (1 : Int32) else (0 : Int32)) = 0 := if_neg h
theorem own_ifc {P Q : Prop} [Decidable P] [Decidable Q] (h : P ↔ Q) : (if P then (1 : Int32) else (0 : Int32)) = (if Q then (1 : Int32) else (0 : Int32)) := by
  by_cases p : P
  · rw [if_pos p, if_pos (h.mp p)]
  · rw [if_neg p, if_neg (fun q => p (h.mpr q))]
theorem own_narI {P : Prop} [Decidable P] : nar .boolean (if P then (1 : Int32) else (0 : Int32)) = (if P then (1 : Int32) else (0 : Int32)) := by
  by_cases p : P
  · rw [if_pos p]; rfl
  · rw [if_neg p]; rfl
theorem own_bb (x : Int32) : x.toInt8.toInt32.toInt8.toInt32 = x.toInt8.toInt32 := by simp
end Layer
section Numbers
theorem own_mod (x k : Int32) (hk : 0 < k.toInt) : 0 ≤ ((x &&& (2147483647 : Int32)) % k).toInt ∧ ((x &&& (2147483647 : Int32)) % k).toInt < k.toInt := by
  have h1 := c_and x 2147483647 (by decide)
  have h2 := (c_iremV (x &&& 2147483647) k).1 h1.1 hk
  exact ⟨h2.1, h2.2.1⟩
theorem own_nn {j : Int32} (h : 0 ≤ j.toInt) : ¬ j < 0 := by
  rw [Int32.lt_iff_toInt_lt, show (0 : Int32).toInt = 0 from rfl]; omega
theorem own_nat {j : Int32} {k : Nat} (h : 0 ≤ j.toInt) (h2 : j.toInt < k) : j.toNatClampNeg < k := by
  simp only [Int32.toNatClampNeg]; omega
theorem own_at {xs : List Int32} {i : Nat} (h : i < xs.length) : ∃ v, xs[i]? = some v := ⟨xs[i], List.getElem?_eq_getElem h⟩
end Numbers
theorem own_not (a : Int32) : a ^^^ (-1 : Int32) = -1 - a := by
  apply Int32.toBitVec_inj.mp
  rw [Int32.toBitVec_xor, Int32.toBitVec_sub, show (-1 : Int32).toBitVec = BitVec.allOnes 32 from rfl, BitVec.xor_allOnes]
  exact (BitVec.allOnes_sub_eq_not _).symm
theorem own_agree (a b : Int32) : (a + b = (-1 : Int32)) ↔ b = a ^^^ (-1 : Int32) := by
  rw [own_not]
  have h1 := c_iadd a b
  have h2 := c_isub (-1) a
  have e1 : (-1 : Int32).toInt = -1 := rfl
  have r1 := rng32 (a + b); have r2 := rng32 (-1 - a); have r3 := rng32 a; have r4 := rng32 b
  constructor
  · intro q; rw [← Int32.toInt_inj] at q ⊢; omega
  · intro q; rw [← Int32.toInt_inj] at q ⊢; omega
theorem own_rng (a : Int32) : ((((a - (1 : Int32)).toUInt32 >>> ((20 : Int32) &&& 31).toUInt32).toInt32) = (0 : Int32)) ↔ (¬ a < (1 : Int32) ∧ ¬ (1048576 : Int32) < a) := by
  have h1 := c_isub a 1
  have h2 := c_iushr (a - 1) 20 20 (by decide) (by decide)
  have r1 := rng32 (a - 1); have r2 := rng32 a
  have e1 : (1 : Int32).toInt = 1 := rfl
  have e2 : (1048576 : Int32).toInt = 1048576 := rfl
  have e0 : (0 : Int32).toInt = 0 := rfl
  rw [← Int32.toInt_inj, Int32.lt_iff_toInt_lt, Int32.lt_iff_toInt_lt, e0, e1, e2, h2]
  have e3 : ((2 ^ 20 : Nat) : Int) = 1048576 := rfl
  rw [e3]
  omega
theorem w0 {Z : State} {a0 : Array Value} (hw : ∀ d ∈ tables_1, d.before a0 Z = true) : (Jvm.Cond.methodLink "com/example/vigilant_coordinator/vigilantcoordinator/io/LogRecordLengthHoldsPinLaw" (8 : Nat) ({ cls := "com/example/vigilant_coordinator/vigilantcoordinator/io/LogRecord", name := "lengthHolds", desc := "(II)Z" } : Jvm.MethodName)).before a0 Z = true := hw _ (List.mem_of_getElem? (i := 0) rfl)
theorem w1 {Z : State} {a0 : Array Value} (hw : ∀ d ∈ tables_1, d.before a0 Z = true) : (Jvm.Cond.static ({ cls := "com/example/vigilant_coordinator/vigilantcoordinator/io/LogRecord", name := "lengthHolds", desc := "(II)Z" } : Jvm.MethodName)).before a0 Z = true := hw _ (List.mem_of_getElem? (i := 1) rfl)
theorem w2 {Z : State} {a0 : Array Value} (hw : ∀ d ∈ tables_1, d.before a0 Z = true) : (Jvm.Cond.initialized "com/example/vigilant_coordinator/vigilantcoordinator/io/LogRecord").before a0 Z = true := hw _ (List.mem_of_getElem? (i := 2) rfl)
theorem w3 {Z : State} {a0 : Array Value} (hw : ∀ d ∈ tables_1, d.before a0 Z = true) : (Jvm.Cond.code ({ cls := "com/example/vigilant_coordinator/vigilantcoordinator/io/LogRecord", name := "lengthHolds", desc := "(II)Z" } : Jvm.MethodName) prog_15_method_4_code (2 : Nat) (Option.some Jvm.ClassFile.FieldType.boolean)).before a0 Z = true := hw _ (List.mem_of_getElem? (i := 3) rfl)
theorem w4 {Z : State} {a0 : Array Value} (hw : ∀ d ∈ tables_1, d.before a0 Z = true) : (Jvm.Cond.constant "com/example/vigilant_coordinator/vigilantcoordinator/io/LogRecordLengthHoldsPinLaw" (7 : Nat) (1048575 : Int32)).before a0 Z = true := hw _ (List.mem_of_getElem? (i := 4) rfl)
theorem w5 {Z : State} {a0 : Array Value} (hw : ∀ d ∈ tables_1, d.before a0 Z = true) : (Jvm.Cond.constant "com/example/vigilant_coordinator/vigilantcoordinator/io/LogRecord" (69 : Nat) (1048576 : Int32)).before a0 Z = true := hw _ (List.mem_of_getElem? (i := 5) rfl)
theorem pd0 : parseMethodDescriptor "(II)Z" = some ⟨[.int, .int], some .boolean⟩ := by decide +kernel
theorem pn0 : plainName "com/example/vigilant_coordinator/vigilantcoordinator/io/LogRecord" = true := by first | (simp [plainName, overriddenIn]; done) | decide +kernel
theorem pn1 : plainName "com/example/vigilant_coordinator/vigilantcoordinator/io/LogRecordLengthHoldsPinLaw" = true := by first | (simp [plainName, overriddenIn]; done) | decide +kernel
theorem d1_0 : decode prog_15_method_4_code 0 = .ok (.iload_n 1, 1) := by decide +kernel
theorem d1_1 : decode prog_15_method_4_code 1 = .ok (.iload_n 0, 1) := by decide +kernel
theorem d1_2 : decode prog_15_method_4_code 2 = .ok (.iconst (-1), 1) := by decide +kernel
theorem d1_3 : decode prog_15_method_4_code 3 = .ok (.ixor, 1) := by decide +kernel
theorem d1_4 : decode prog_15_method_4_code 4 = .ok (.if_icmp .ne 18, 3) := by decide +kernel
theorem d1_7 : decode prog_15_method_4_code 7 = .ok (.iload_n 0, 1) := by decide +kernel
theorem d1_8 : decode prog_15_method_4_code 8 = .ok (.iconst 1, 1) := by decide +kernel
theorem d1_9 : decode prog_15_method_4_code 9 = .ok (.if_icmp .lt 13, 3) := by decide +kernel
theorem d1_12 : decode prog_15_method_4_code 12 = .ok (.iload_n 0, 1) := by decide +kernel
theorem d1_13 : decode prog_15_method_4_code 13 = .ok (.ldc 69, 2) := by decide +kernel
theorem d1_15 : decode prog_15_method_4_code 15 = .ok (.if_icmp .gt 7, 3) := by decide +kernel
theorem d1_18 : decode prog_15_method_4_code 18 = .ok (.iconst 1, 1) := by decide +kernel
theorem d1_19 : decode prog_15_method_4_code 19 = .ok (.goto 4, 3) := by decide +kernel
theorem d1_22 : decode prog_15_method_4_code 22 = .ok (.iconst 0, 1) := by decide +kernel
theorem d1_23 : decode prog_15_method_4_code 23 = .ok (.ireturn, 1) := by decide +kernel
theorem ef_rm1 (m : MethodId) (x0 : Int32) (x1 : Int32) : entryFrame m #[(.int x0), (.int x1)] 2 = mkF m 0 #[.val (.int x0), .val (.int x1)] [] := by first | (simp [entryFrame, mkF, argsToLocals, Value.category]; done) | rfl
set_option maxRecDepth 65536 in
set_option maxHeartbeats 40000000 in
theorem rm1 (l : Launch) (Z : State) (a0 : Array Value) (hw : ∀ d ∈ tables_1, d.before a0 Z = true) (p0 : Int32) (p1 : Int32) (h0 : Heap) (n0 : Nat) (Z0 : n0 ≤ h0.size) :
    Con l Z (⟨"com/example/vigilant_coordinator/vigilantcoordinator/io/LogRecord", "lengthHolds", "(II)Z"⟩ : MethodName) prog_15_method_4_code 2 (some .boolean) [] ({ frames := 0, cells := 0, slots := 0, locals := 0 } : Room) #[(.int p0), (.int p1)] h0 (fun v h L => v = some (.int (if (p1 = p0 ^^^ (-1 : Int32) ∧ ¬ p0 < (1 : Int32) ∧ ¬ (1048576 : Int32) < p0) then (1 : Int32) else (0 : Int32))) ∧ Fr n0 L ∧ h = h0) := by
  refine Con.mk (plainFor_of_name pn0) ?_
  intro p e s m below meth c T0 hx hby hml hown hnm hret hlk hZ X0 e0
  have hown : s.vm.findClass "com/example/vigilant_coordinator/vigilantcoordinator/io/LogRecord" = some m.cls := hown
  have hnm : meth.name = "lengthHolds" := hnm
  have N0 := Fr.nil n0
  refine Go.cast (ef_rm1 m p0 p1) ?_
  refine Go.st (S' := T0.setTop (mkF m 1 #[.val (.int p0), .val (.int p1)] [(.int p1)])) (fun _ k_ => XS.iloadN X0.here hx rfl (hb hby d1_0) rfl k_) ?_
  refine Go.st (S' := T0.setTop (mkF m 2 #[.val (.int p0), .val (.int p1)] [(.int p0), (.int p1)])) (fun _ k_ => XS.iloadN X0.here hx rfl (hb hby d1_1) rfl k_) ?_
  refine Go.st (S' := T0.setTop (mkF m 3 #[.val (.int p0), .val (.int p1)] [(.int (-1 : Int32)), (.int p0), (.int p1)])) (fun _ k_ => XS.iconst X0.here hx rfl (hb hby d1_2) k_) ?_
  refine Go.st (S' := T0.setTop (mkF m 4 #[.val (.int p0), .val (.int p1)] [(.int (p0 ^^^ (-1 : Int32))), (.int p1)])) (fun _ k_ => XS.ixor X0.here hx rfl (hb hby d1_3) rfl k_) ?_
  by_cases hc4 : p1 = (p0 ^^^ (-1 : Int32))
  · skip
    refine Go.st (S' := T0.setTop (mkF m 7 #[.val (.int p0), .val (.int p1)] [])) (fun _ k_ => XS.icmpNo X0.here hx rfl (hb hby d1_4) rfl (teq hc4).2 k_) ?_
    refine Go.st (S' := T0.setTop (mkF m 8 #[.val (.int p0), .val (.int p1)] [(.int p0)])) (fun _ k_ => XS.iloadN X0.here hx rfl (hb hby d1_7) rfl k_) ?_
    refine Go.st (S' := T0.setTop (mkF m 9 #[.val (.int p0), .val (.int p1)] [(.int (1 : Int32)), (.int p0)])) (fun _ k_ => XS.iconst X0.here hx rfl (hb hby d1_8) k_) ?_
    by_cases hc9 : p0 < (1 : Int32)
    · skip
      refine Go.st (S' := T0.setTop (mkF m 22 #[.val (.int p0), .val (.int p1)] [])) (fun _ k_ => XS.icmpYes X0.here hx rfl (pc0 := 9) (pc' := 22) rfl (hb hby d1_9) rfl (tlt hc9).1 (by decide) (by decide) k_) ?_
      refine Go.st (S' := T0.setTop (mkF m 23 #[.val (.int p0), .val (.int p1)] [(.int (0 : Int32))])) (fun _ k_ => XS.iconst X0.here hx rfl (hb hby d1_22) k_) ?_
      exact Go.retN X0 hx (t := .boolean) hret (by simp) hlk (hb hby d1_23) (by decide) (by decide) (by rw [e0]; exact ⟨by rw [if_neg (fun z => z.2.1 hc9)]; rfl, N0, rfl⟩)
    · skip
      refine Go.st (S' := T0.setTop (mkF m 12 #[.val (.int p0), .val (.int p1)] [])) (fun _ k_ => XS.icmpNo X0.here hx rfl (hb hby d1_9) rfl (flt hc9).1 k_) ?_
      refine Go.st (S' := T0.setTop (mkF m 13 #[.val (.int p0), .val (.int p1)] [(.int p0)])) (fun _ k_ => XS.iloadN X0.here hx rfl (hb hby d1_12) rfl k_) ?_
      refine Go.st (S' := T0.setTop (mkF m 15 #[.val (.int p0), .val (.int p1)] [(.int (1048576 : Int32)), (.int p0)])) (X0.ldcInt hx hown (mvT hZ (w5 hw)) (g := (mkF m 13 #[.val (.int p0), .val (.int p1)] [(.int p0)])) rfl (hb hby d1_13)) ?_
      by_cases hc15 : (1048576 : Int32) < p0
      · skip
        refine Go.st (S' := T0.setTop (mkF m 22 #[.val (.int p0), .val (.int p1)] [])) (fun _ k_ => XS.icmpYes X0.here hx rfl (pc0 := 15) (pc' := 22) rfl (hb hby d1_15) rfl (tlt hc15).2.2.1 (by decide) (by decide) k_) ?_
        refine Go.st (S' := T0.setTop (mkF m 23 #[.val (.int p0), .val (.int p1)] [(.int (0 : Int32))])) (fun _ k_ => XS.iconst X0.here hx rfl (hb hby d1_22) k_) ?_
        exact Go.retN X0 hx (t := .boolean) hret (by simp) hlk (hb hby d1_23) (by decide) (by decide) (by rw [e0]; exact ⟨by rw [if_neg (fun z => z.2.2 hc15)]; rfl, N0, rfl⟩)
      · skip
        refine Go.st (S' := T0.setTop (mkF m 18 #[.val (.int p0), .val (.int p1)] [])) (fun _ k_ => XS.icmpNo X0.here hx rfl (hb hby d1_15) rfl (flt hc15).2.2.1 k_) ?_
        refine Go.st (S' := T0.setTop (mkF m 19 #[.val (.int p0), .val (.int p1)] [(.int (1 : Int32))])) (fun _ k_ => XS.iconst X0.here hx rfl (hb hby d1_18) k_) ?_
        refine Go.st (S' := T0.setTop (mkF m 23 #[.val (.int p0), .val (.int p1)] [(.int (1 : Int32))])) (fun _ k_ => XS.goto X0.here hx rfl (pc0 := 19) (pc' := 23) rfl (hb hby d1_19) (by decide) (by decide) k_) ?_
        exact Go.retN X0 hx (t := .boolean) hret (by simp) hlk (hb hby d1_23) (by decide) (by decide) (by rw [e0]; exact ⟨by rw [if_pos ⟨hc4, hc9, hc15⟩]; rfl, N0, rfl⟩)
  · skip
    refine Go.st (S' := T0.setTop (mkF m 22 #[.val (.int p0), .val (.int p1)] [])) (fun _ k_ => XS.icmpYes X0.here hx rfl (pc0 := 4) (pc' := 22) rfl (hb hby d1_4) rfl (feq hc4).2 (by decide) (by decide) k_) ?_
    refine Go.st (S' := T0.setTop (mkF m 23 #[.val (.int p0), .val (.int p1)] [(.int (0 : Int32))])) (fun _ k_ => XS.iconst X0.here hx rfl (hb hby d1_22) k_) ?_
    exact Go.retN X0 hx (t := .boolean) hret (by simp) hlk (hb hby d1_23) (by decide) (by decide) (by rw [e0]; exact ⟨by rw [if_neg (fun z => hc4 z.1)]; rfl, N0, rfl⟩)
theorem ef_rm0 (m : MethodId) (x0 : Int32) (x1 : Int32) (x2 : Int32) : entryFrame m #[(.int x0), (.int x1), (.int x2)] maxLocals = mkF m 0 #[.val (.int x0), .val (.int x1), .val (.int x2), .unset, .unset, .unset, .unset, .unset, .unset, .unset] [] := by first | (simp [entryFrame, mkF, argsToLocals, Value.category, maxLocals]; done) | rfl
set_option maxRecDepth 65536 in
set_option maxHeartbeats 40000000 in
theorem rm0 (l : Launch) (Z : State) (a0 : Array Value) (hw : ∀ d ∈ tables_1, d.before a0 Z = true) (ws : List Jvm.Cond) (p0 : Int32) (p1 : Int32) (p2 : Int32) (h0 : Heap) (n0 : Nat) (Z0 : n0 ≤ h0.size) :
    Con l Z x code maxLocals ret ws room_1 #[(.int p0), (.int p1), (.int p2)] h0 (fun v h L => v = some (.int 1) ∧ Fr n0 L) := by
  refine Con.mk (plainFor_of_name pn1) ?_
  intro p e s m below meth c T0 hx hby hml hown hnm hret hlk hZ X0 e0
  have hret : meth.sig.returnType = some .boolean := hret
  have hml : c.maxLocals = 10 := hml
  have hown : s.vm.findClass "com/example/vigilant_coordinator/vigilantcoordinator/io/LogRecordLengthHoldsPinLaw" = some m.cls := hown
  have hby : c.code = code := hby
  have N0 := Fr.nil n0
  have J114 : ∀ (ln fl : Int32), Go p e below s room_1 (fun v h L => v = some (.int 1) ∧ Fr n0 L) (T0.setTop (mkF m 114 #[.val (.int p0), .val (.int p1), .val (.int p2), .val (.int (p2 &&& (7 : Int32))), .val (.int ln), .val (.int (((p2.toUInt32 >>> ((3 : Int32) &&& 31).toUInt32).toInt32) &&& (3 : Int32))), .val (.int fl), .unset, .unset, .unset] [])) := by
    intro ln fl
    refine Go.st (S' := T0.setTop (mkF m 116 #[.val (.int p0), .val (.int p1), .val (.int p2), .val (.int (p2 &&& (7 : Int32))), .val (.int ln), .val (.int (((p2.toUInt32 >>> ((3 : Int32) &&& 31).toUInt32).toInt32) &&& (3 : Int32))), .val (.int fl), .unset, .unset, .unset] [(.int ln)])) (fun _ k_ => XS.iload X0.here hx rfl (hb hby at_114) rfl k_) ?_
    refine Go.st (S' := T0.setTop (mkF m 118 #[.val (.int p0), .val (.int p1), .val (.int p2), .val (.int (p2 &&& (7 : Int32))), .val (.int ln), .val (.int (((p2.toUInt32 >>> ((3 : Int32) &&& 31).toUInt32).toInt32) &&& (3 : Int32))), .val (.int fl), .unset, .unset, .unset] [(.int fl), (.int ln)])) (fun _ k_ => XS.iload X0.here hx rfl (hb hby at_116) rfl k_) ?_
    refine Go.st (S' := T0.setTop (mkF m 119 #[.val (.int p0), .val (.int p1), .val (.int p2), .val (.int (p2 &&& (7 : Int32))), .val (.int ln), .val (.int (((p2.toUInt32 >>> ((3 : Int32) &&& 31).toUInt32).toInt32) &&& (3 : Int32))), .val (.int fl), .unset, .unset, .unset] [(.int (ln + fl))])) (fun _ k_ => XS.iadd X0.here hx rfl (hb hby at_118) rfl k_) ?_
    refine Go.st (S' := T0.setTop (mkF m 120 #[.val (.int p0), .val (.int p1), .val (.int p2), .val (.int (p2 &&& (7 : Int32))), .val (.int ln), .val (.int (((p2.toUInt32 >>> ((3 : Int32) &&& 31).toUInt32).toInt32) &&& (3 : Int32))), .val (.int fl), .unset, .unset, .unset] [(.int (-1 : Int32)), (.int (ln + fl))])) (fun _ k_ => XS.iconst X0.here hx rfl (hb hby at_119) k_) ?_
    by_cases hc120 : (ln + fl) = (-1 : Int32)
    · skip
      refine Go.st (S' := T0.setTop (mkF m 123 #[.val (.int p0), .val (.int p1), .val (.int p2), .val (.int (p2 &&& (7 : Int32))), .val (.int ln), .val (.int (((p2.toUInt32 >>> ((3 : Int32) &&& 31).toUInt32).toInt32) &&& (3 : Int32))), .val (.int fl), .unset, .unset, .unset] [])) (fun _ k_ => XS.icmpNo X0.here hx rfl (hb hby at_120) rfl (teq hc120).2 k_) ?_
      refine Go.st (S' := T0.setTop (mkF m 124 #[.val (.int p0), .val (.int p1), .val (.int p2), .val (.int (p2 &&& (7 : Int32))), .val (.int ln), .val (.int (((p2.toUInt32 >>> ((3 : Int32) &&& 31).toUInt32).toInt32) &&& (3 : Int32))), .val (.int fl), .unset, .unset, .unset] [(.int (1 : Int32))])) (fun _ k_ => XS.iconst X0.here hx rfl (hb hby at_123) k_) ?_
      refine Go.st (S' := T0.setTop (mkF m 128 #[.val (.int p0), .val (.int p1), .val (.int p2), .val (.int (p2 &&& (7 : Int32))), .val (.int ln), .val (.int (((p2.toUInt32 >>> ((3 : Int32) &&& 31).toUInt32).toInt32) &&& (3 : Int32))), .val (.int fl), .unset, .unset, .unset] [(.int (1 : Int32))])) (fun _ k_ => XS.goto X0.here hx rfl (pc0 := 124) (pc' := 128) rfl (hb hby at_124) (by decide) (by decide) k_) ?_
      refine Go.st (S' := T0.setTop (mkF m 130 #[.val (.int p0), .val (.int p1), .val (.int p2), .val (.int (p2 &&& (7 : Int32))), .val (.int ln), .val (.int (((p2.toUInt32 >>> ((3 : Int32) &&& 31).toUInt32).toInt32) &&& (3 : Int32))), .val (.int fl), .val (.int (1 : Int32)), .unset, .unset] [])) (fun _ k_ => XS.istore X0.here hx rfl (hb hby at_128) rfl (l' := #[.val (.int p0), .val (.int p1), .val (.int p2), .val (.int (p2 &&& (7 : Int32))), .val (.int ln), .val (.int (((p2.toUInt32 >>> ((3 : Int32) &&& 31).toUInt32).toInt32) &&& (3 : Int32))), .val (.int fl), .val (.int (1 : Int32)), .unset, .unset]) rfl k_) ?_
      refine Go.st (S' := T0.setTop (mkF m 132 #[.val (.int p0), .val (.int p1), .val (.int p2), .val (.int (p2 &&& (7 : Int32))), .val (.int ln), .val (.int (((p2.toUInt32 >>> ((3 : Int32) &&& 31).toUInt32).toInt32) &&& (3 : Int32))), .val (.int fl), .val (.int (1 : Int32)), .unset, .unset] [(.int ln)])) (fun _ k_ => XS.iload X0.here hx rfl (hb hby at_130) rfl k_) ?_
      refine Go.st (S' := T0.setTop (mkF m 133 #[.val (.int p0), .val (.int p1), .val (.int p2), .val (.int (p2 &&& (7 : Int32))), .val (.int ln), .val (.int (((p2.toUInt32 >>> ((3 : Int32) &&& 31).toUInt32).toInt32) &&& (3 : Int32))), .val (.int fl), .val (.int (1 : Int32)), .unset, .unset] [(.int (1 : Int32)), (.int ln)])) (fun _ k_ => XS.iconst X0.here hx rfl (hb hby at_132) k_) ?_
      refine Go.st (S' := T0.setTop (mkF m 134 #[.val (.int p0), .val (.int p1), .val (.int p2), .val (.int (p2 &&& (7 : Int32))), .val (.int ln), .val (.int (((p2.toUInt32 >>> ((3 : Int32) &&& 31).toUInt32).toInt32) &&& (3 : Int32))), .val (.int fl), .val (.int (1 : Int32)), .unset, .unset] [(.int (ln - (1 : Int32)))])) (fun _ k_ => XS.isub X0.here hx rfl (hb hby at_133) rfl k_) ?_
      refine Go.st (S' := T0.setTop (mkF m 136 #[.val (.int p0), .val (.int p1), .val (.int p2), .val (.int (p2 &&& (7 : Int32))), .val (.int ln), .val (.int (((p2.toUInt32 >>> ((3 : Int32) &&& 31).toUInt32).toInt32) &&& (3 : Int32))), .val (.int fl), .val (.int (1 : Int32)), .unset, .unset] [(.int (20 : Int32)), (.int (ln - (1 : Int32)))])) (fun _ k_ => XS.bipush X0.here hx rfl (hb hby at_134) k_) ?_
      refine Go.st (S' := T0.setTop (mkF m 137 #[.val (.int p0), .val (.int p1), .val (.int p2), .val (.int (p2 &&& (7 : Int32))), .val (.int ln), .val (.int (((p2.toUInt32 >>> ((3 : Int32) &&& 31).toUInt32).toInt32) &&& (3 : Int32))), .val (.int fl), .val (.int (1 : Int32)), .unset, .unset] [(.int (((ln - (1 : Int32)).toUInt32 >>> ((20 : Int32) &&& 31).toUInt32).toInt32))])) (fun _ k_ => XS.iushr X0.here hx rfl (hb hby at_136) rfl k_) ?_
      by_cases hc137 : (((ln - (1 : Int32)).toUInt32 >>> ((20 : Int32) &&& 31).toUInt32).toInt32) = (0 : Int32)
      · skip
        refine Go.st (S' := T0.setTop (mkF m 140 #[.val (.int p0), .val (.int p1), .val (.int p2), .val (.int (p2 &&& (7 : Int32))), .val (.int ln), .val (.int (((p2.toUInt32 >>> ((3 : Int32) &&& 31).toUInt32).toInt32) &&& (3 : Int32))), .val (.int fl), .val (.int (1 : Int32)), .unset, .unset] [])) (fun _ k_ => XS.ifNo X0.here hx rfl (hb hby at_137) rfl ((if0 _ _).trans (teq hc137).2) k_) ?_
        refine Go.st (S' := T0.setTop (mkF m 141 #[.val (.int p0), .val (.int p1), .val (.int p2), .val (.int (p2 &&& (7 : Int32))), .val (.int ln), .val (.int (((p2.toUInt32 >>> ((3 : Int32) &&& 31).toUInt32).toInt32) &&& (3 : Int32))), .val (.int fl), .val (.int (1 : Int32)), .unset, .unset] [(.int (1 : Int32))])) (fun _ k_ => XS.iconst X0.here hx rfl (hb hby at_140) k_) ?_
        refine Go.st (S' := T0.setTop (mkF m 145 #[.val (.int p0), .val (.int p1), .val (.int p2), .val (.int (p2 &&& (7 : Int32))), .val (.int ln), .val (.int (((p2.toUInt32 >>> ((3 : Int32) &&& 31).toUInt32).toInt32) &&& (3 : Int32))), .val (.int fl), .val (.int (1 : Int32)), .unset, .unset] [(.int (1 : Int32))])) (fun _ k_ => XS.goto X0.here hx rfl (pc0 := 141) (pc' := 145) rfl (hb hby at_141) (by decide) (by decide) k_) ?_
        refine Go.st (S' := T0.setTop (mkF m 147 #[.val (.int p0), .val (.int p1), .val (.int p2), .val (.int (p2 &&& (7 : Int32))), .val (.int ln), .val (.int (((p2.toUInt32 >>> ((3 : Int32) &&& 31).toUInt32).toInt32) &&& (3 : Int32))), .val (.int fl), .val (.int (1 : Int32)), .val (.int (1 : Int32)), .unset] [])) (fun _ k_ => XS.istore X0.here hx rfl (hb hby at_145) rfl (l' := #[.val (.int p0), .val (.int p1), .val (.int p2), .val (.int (p2 &&& (7 : Int32))), .val (.int ln), .val (.int (((p2.toUInt32 >>> ((3 : Int32) &&& 31).toUInt32).toInt32) &&& (3 : Int32))), .val (.int fl), .val (.int (1 : Int32)), .val (.int (1 : Int32)), .unset]) rfl k_) ?_
        refine Go.st (S' := T0.setTop (mkF m 149 #[.val (.int p0), .val (.int p1), .val (.int p2), .val (.int (p2 &&& (7 : Int32))), .val (.int ln), .val (.int (((p2.toUInt32 >>> ((3 : Int32) &&& 31).toUInt32).toInt32) &&& (3 : Int32))), .val (.int fl), .val (.int (1 : Int32)), .val (.int (1 : Int32)), .unset] [(.int (1 : Int32))])) (fun _ k_ => XS.iload X0.here hx rfl (hb hby at_147) rfl k_) ?_
        refine Go.st (S' := T0.setTop (mkF m 152 #[.val (.int p0), .val (.int p1), .val (.int p2), .val (.int (p2 &&& (7 : Int32))), .val (.int ln), .val (.int (((p2.toUInt32 >>> ((3 : Int32) &&& 31).toUInt32).toInt32) &&& (3 : Int32))), .val (.int fl), .val (.int (1 : Int32)), .val (.int (1 : Int32)), .unset] [])) (fun _ k_ => XS.ifNo X0.here hx rfl (hb hby at_149) rfl ((if0 _ _).trans (feq (by decide)).1) k_) ?_
        refine Go.st (S' := T0.setTop (mkF m 154 #[.val (.int p0), .val (.int p1), .val (.int p2), .val (.int (p2 &&& (7 : Int32))), .val (.int ln), .val (.int (((p2.toUInt32 >>> ((3 : Int32) &&& 31).toUInt32).toInt32) &&& (3 : Int32))), .val (.int fl), .val (.int (1 : Int32)), .val (.int (1 : Int32)), .unset] [(.int (1 : Int32))])) (fun _ k_ => XS.iload X0.here hx rfl (hb hby at_152) rfl k_) ?_
        refine Go.st (S' := T0.setTop (mkF m 157 #[.val (.int p0), .val (.int p1), .val (.int p2), .val (.int (p2 &&& (7 : Int32))), .val (.int ln), .val (.int (((p2.toUInt32 >>> ((3 : Int32) &&& 31).toUInt32).toInt32) &&& (3 : Int32))), .val (.int fl), .val (.int (1 : Int32)), .val (.int (1 : Int32)), .unset] [])) (fun _ k_ => XS.ifNo X0.here hx rfl (hb hby at_154) rfl ((if0 _ _).trans (feq (by decide)).1) k_) ?_
        refine Go.st (S' := T0.setTop (mkF m 158 #[.val (.int p0), .val (.int p1), .val (.int p2), .val (.int (p2 &&& (7 : Int32))), .val (.int ln), .val (.int (((p2.toUInt32 >>> ((3 : Int32) &&& 31).toUInt32).toInt32) &&& (3 : Int32))), .val (.int fl), .val (.int (1 : Int32)), .val (.int (1 : Int32)), .unset] [(.int (1 : Int32))])) (fun _ k_ => XS.iconst X0.here hx rfl (hb hby at_157) k_) ?_
        refine Go.st (S' := T0.setTop (mkF m 162 #[.val (.int p0), .val (.int p1), .val (.int p2), .val (.int (p2 &&& (7 : Int32))), .val (.int ln), .val (.int (((p2.toUInt32 >>> ((3 : Int32) &&& 31).toUInt32).toInt32) &&& (3 : Int32))), .val (.int fl), .val (.int (1 : Int32)), .val (.int (1 : Int32)), .unset] [(.int (1 : Int32))])) (fun _ k_ => XS.goto X0.here hx rfl (pc0 := 158) (pc' := 162) rfl (hb hby at_158) (by decide) (by decide) k_) ?_
        refine Go.st (S' := T0.setTop (mkF m 164 #[.val (.int p0), .val (.int p1), .val (.int p2), .val (.int (p2 &&& (7 : Int32))), .val (.int ln), .val (.int (((p2.toUInt32 >>> ((3 : Int32) &&& 31).toUInt32).toInt32) &&& (3 : Int32))), .val (.int fl), .val (.int (1 : Int32)), .val (.int (1 : Int32)), .val (.int (1 : Int32))] [])) (fun _ k_ => XS.istore X0.here hx rfl (hb hby at_162) rfl (l' := #[.val (.int p0), .val (.int p1), .val (.int p2), .val (.int (p2 &&& (7 : Int32))), .val (.int ln), .val (.int (((p2.toUInt32 >>> ((3 : Int32) &&& 31).toUInt32).toInt32) &&& (3 : Int32))), .val (.int fl), .val (.int (1 : Int32)), .val (.int (1 : Int32)), .val (.int (1 : Int32))]) rfl k_) ?_
        refine Go.st (S' := T0.setTop (mkF m 166 #[.val (.int p0), .val (.int p1), .val (.int p2), .val (.int (p2 &&& (7 : Int32))), .val (.int ln), .val (.int (((p2.toUInt32 >>> ((3 : Int32) &&& 31).toUInt32).toInt32) &&& (3 : Int32))), .val (.int fl), .val (.int (1 : Int32)), .val (.int (1 : Int32)), .val (.int (1 : Int32))] [(.int ln)])) (fun _ k_ => XS.iload X0.here hx rfl (hb hby at_164) rfl k_) ?_
        refine Go.st (S' := T0.setTop (mkF m 168 #[.val (.int p0), .val (.int p1), .val (.int p2), .val (.int (p2 &&& (7 : Int32))), .val (.int ln), .val (.int (((p2.toUInt32 >>> ((3 : Int32) &&& 31).toUInt32).toInt32) &&& (3 : Int32))), .val (.int fl), .val (.int (1 : Int32)), .val (.int (1 : Int32)), .val (.int (1 : Int32))] [(.int fl), (.int ln)])) (fun _ k_ => XS.iload X0.here hx rfl (hb hby at_166) rfl k_) ?_
        obtain ⟨v11, T11, h11, L11, X11, e11, hQ11, st11⟩ := callSt X0 hx hZ hown (w0 hw) (w1 hw) (w2 hw) (w3 hw) (by decide) (W := 0) (argsL := [(.int ln), (.int fl)]) (rest := []) e0 (rm1 l Z a0 hw ln fl h0 n0 Z0) (by decide) (by decide) pd0 rfl (g := (mkF m 168 #[.val (.int p0), .val (.int p1), .val (.int p2), .val (.int (p2 &&& (7 : Int32))), .val (.int ln), .val (.int (((p2.toUInt32 >>> ((3 : Int32) &&& 31).toUInt32).toInt32) &&& (3 : Int32))), .val (.int fl), .val (.int (1 : Int32)), .val (.int (1 : Int32)), .val (.int (1 : Int32))] [(.int fl), (.int ln)])) rfl (by rw [hml]; rfl) rfl (by show 2 * 0 + _ ≤ _; exact Nat.le_of_eq rfl) (hb hby at_168) (by decide) (by decide)
        obtain ⟨hv11, Nq11, hh11⟩ := hQ11
        rw [hh11] at e11
        have N11 := Fr.app N0 Nq11
        rw [if_pos ⟨(own_agree ln fl).mp hc120, (own_rng ln).mp hc137⟩] at hv11
        subst hv11
        refine Go.st (S' := T11.setTop (mkF m 171 #[.val (.int p0), .val (.int p1), .val (.int p2), .val (.int (p2 &&& (7 : Int32))), .val (.int ln), .val (.int (((p2.toUInt32 >>> ((3 : Int32) &&& 31).toUInt32).toInt32) &&& (3 : Int32))), .val (.int fl), .val (.int (1 : Int32)), .val (.int (1 : Int32)), .val (.int (1 : Int32))] [(.int (1 : Int32))])) (st11) ?_
        refine Go.st (S' := T11.setTop (mkF m 173 #[.val (.int p0), .val (.int p1), .val (.int p2), .val (.int (p2 &&& (7 : Int32))), .val (.int ln), .val (.int (((p2.toUInt32 >>> ((3 : Int32) &&& 31).toUInt32).toInt32) &&& (3 : Int32))), .val (.int fl), .val (.int (1 : Int32)), .val (.int (1 : Int32)), .val (.int (1 : Int32))] [(.int (1 : Int32)), (.int (1 : Int32))])) (fun _ k_ => XS.iload X11.here hx rfl (hb hby at_171) rfl k_) ?_
        refine Go.st (S' := T11.setTop (mkF m 176 #[.val (.int p0), .val (.int p1), .val (.int p2), .val (.int (p2 &&& (7 : Int32))), .val (.int ln), .val (.int (((p2.toUInt32 >>> ((3 : Int32) &&& 31).toUInt32).toInt32) &&& (3 : Int32))), .val (.int fl), .val (.int (1 : Int32)), .val (.int (1 : Int32)), .val (.int (1 : Int32))] [])) (fun _ k_ => XS.icmpNo X11.here hx rfl (hb hby at_173) rfl (teq (by decide)).2 k_) ?_
        refine Go.st (S' := T11.setTop (mkF m 177 #[.val (.int p0), .val (.int p1), .val (.int p2), .val (.int (p2 &&& (7 : Int32))), .val (.int ln), .val (.int (((p2.toUInt32 >>> ((3 : Int32) &&& 31).toUInt32).toInt32) &&& (3 : Int32))), .val (.int fl), .val (.int (1 : Int32)), .val (.int (1 : Int32)), .val (.int (1 : Int32))] [(.int (1 : Int32))])) (fun _ k_ => XS.iconst X11.here hx rfl (hb hby at_176) k_) ?_
        refine Go.st (S' := T11.setTop (mkF m 181 #[.val (.int p0), .val (.int p1), .val (.int p2), .val (.int (p2 &&& (7 : Int32))), .val (.int ln), .val (.int (((p2.toUInt32 >>> ((3 : Int32) &&& 31).toUInt32).toInt32) &&& (3 : Int32))), .val (.int fl), .val (.int (1 : Int32)), .val (.int (1 : Int32)), .val (.int (1 : Int32))] [(.int (1 : Int32))])) (fun _ k_ => XS.goto X11.here hx rfl (pc0 := 177) (pc' := 181) rfl (hb hby at_177) (by decide) (by decide) k_) ?_
        exact Go.retN X11 hx (t := .boolean) hret (by simp) hlk (hb hby at_181) (by decide) (by decide) ⟨rfl, N11⟩
      · skip
        refine Go.st (S' := T0.setTop (mkF m 144 #[.val (.int p0), .val (.int p1), .val (.int p2), .val (.int (p2 &&& (7 : Int32))), .val (.int ln), .val (.int (((p2.toUInt32 >>> ((3 : Int32) &&& 31).toUInt32).toInt32) &&& (3 : Int32))), .val (.int fl), .val (.int (1 : Int32)), .unset, .unset] [])) (fun _ k_ => XS.ifYes X0.here hx rfl (pc0 := 137) (pc' := 144) rfl (hb hby at_137) rfl ((if0 _ _).trans (feq hc137).2) (by decide) (by decide) k_) ?_
        refine Go.st (S' := T0.setTop (mkF m 145 #[.val (.int p0), .val (.int p1), .val (.int p2), .val (.int (p2 &&& (7 : Int32))), .val (.int ln), .val (.int (((p2.toUInt32 >>> ((3 : Int32) &&& 31).toUInt32).toInt32) &&& (3 : Int32))), .val (.int fl), .val (.int (1 : Int32)), .unset, .unset] [(.int (0 : Int32))])) (fun _ k_ => XS.iconst X0.here hx rfl (hb hby at_144) k_) ?_
        refine Go.st (S' := T0.setTop (mkF m 147 #[.val (.int p0), .val (.int p1), .val (.int p2), .val (.int (p2 &&& (7 : Int32))), .val (.int ln), .val (.int (((p2.toUInt32 >>> ((3 : Int32) &&& 31).toUInt32).toInt32) &&& (3 : Int32))), .val (.int fl), .val (.int (1 : Int32)), .val (.int (0 : Int32)), .unset] [])) (fun _ k_ => XS.istore X0.here hx rfl (hb hby at_145) rfl (l' := #[.val (.int p0), .val (.int p1), .val (.int p2), .val (.int (p2 &&& (7 : Int32))), .val (.int ln), .val (.int (((p2.toUInt32 >>> ((3 : Int32) &&& 31).toUInt32).toInt32) &&& (3 : Int32))), .val (.int fl), .val (.int (1 : Int32)), .val (.int (0 : Int32)), .unset]) rfl k_) ?_
        refine Go.st (S' := T0.setTop (mkF m 149 #[.val (.int p0), .val (.int p1), .val (.int p2), .val (.int (p2 &&& (7 : Int32))), .val (.int ln), .val (.int (((p2.toUInt32 >>> ((3 : Int32) &&& 31).toUInt32).toInt32) &&& (3 : Int32))), .val (.int fl), .val (.int (1 : Int32)), .val (.int (0 : Int32)), .unset] [(.int (1 : Int32))])) (fun _ k_ => XS.iload X0.here hx rfl (hb hby at_147) rfl k_) ?_
        refine Go.st (S' := T0.setTop (mkF m 152 #[.val (.int p0), .val (.int p1), .val (.int p2), .val (.int (p2 &&& (7 : Int32))), .val (.int ln), .val (.int (((p2.toUInt32 >>> ((3 : Int32) &&& 31).toUInt32).toInt32) &&& (3 : Int32))), .val (.int fl), .val (.int (1 : Int32)), .val (.int (0 : Int32)), .unset] [])) (fun _ k_ => XS.ifNo X0.here hx rfl (hb hby at_149) rfl ((if0 _ _).trans (feq (by decide)).1) k_) ?_
        refine Go.st (S' := T0.setTop (mkF m 154 #[.val (.int p0), .val (.int p1), .val (.int p2), .val (.int (p2 &&& (7 : Int32))), .val (.int ln), .val (.int (((p2.toUInt32 >>> ((3 : Int32) &&& 31).toUInt32).toInt32) &&& (3 : Int32))), .val (.int fl), .val (.int (1 : Int32)), .val (.int (0 : Int32)), .unset] [(.int (0 : Int32))])) (fun _ k_ => XS.iload X0.here hx rfl (hb hby at_152) rfl k_) ?_
        refine Go.st (S' := T0.setTop (mkF m 161 #[.val (.int p0), .val (.int p1), .val (.int p2), .val (.int (p2 &&& (7 : Int32))), .val (.int ln), .val (.int (((p2.toUInt32 >>> ((3 : Int32) &&& 31).toUInt32).toInt32) &&& (3 : Int32))), .val (.int fl), .val (.int (1 : Int32)), .val (.int (0 : Int32)), .unset] [])) (fun _ k_ => XS.ifYes X0.here hx rfl (pc0 := 154) (pc' := 161) rfl (hb hby at_154) rfl ((if0 _ _).trans (teq (by decide)).1) (by decide) (by decide) k_) ?_
        refine Go.st (S' := T0.setTop (mkF m 162 #[.val (.int p0), .val (.int p1), .val (.int p2), .val (.int (p2 &&& (7 : Int32))), .val (.int ln), .val (.int (((p2.toUInt32 >>> ((3 : Int32) &&& 31).toUInt32).toInt32) &&& (3 : Int32))), .val (.int fl), .val (.int (1 : Int32)), .val (.int (0 : Int32)), .unset] [(.int (0 : Int32))])) (fun _ k_ => XS.iconst X0.here hx rfl (hb hby at_161) k_) ?_
        refine Go.st (S' := T0.setTop (mkF m 164 #[.val (.int p0), .val (.int p1), .val (.int p2), .val (.int (p2 &&& (7 : Int32))), .val (.int ln), .val (.int (((p2.toUInt32 >>> ((3 : Int32) &&& 31).toUInt32).toInt32) &&& (3 : Int32))), .val (.int fl), .val (.int (1 : Int32)), .val (.int (0 : Int32)), .val (.int (0 : Int32))] [])) (fun _ k_ => XS.istore X0.here hx rfl (hb hby at_162) rfl (l' := #[.val (.int p0), .val (.int p1), .val (.int p2), .val (.int (p2 &&& (7 : Int32))), .val (.int ln), .val (.int (((p2.toUInt32 >>> ((3 : Int32) &&& 31).toUInt32).toInt32) &&& (3 : Int32))), .val (.int fl), .val (.int (1 : Int32)), .val (.int (0 : Int32)), .val (.int (0 : Int32))]) rfl k_) ?_
        refine Go.st (S' := T0.setTop (mkF m 166 #[.val (.int p0), .val (.int p1), .val (.int p2), .val (.int (p2 &&& (7 : Int32))), .val (.int ln), .val (.int (((p2.toUInt32 >>> ((3 : Int32) &&& 31).toUInt32).toInt32) &&& (3 : Int32))), .val (.int fl), .val (.int (1 : Int32)), .val (.int (0 : Int32)), .val (.int (0 : Int32))] [(.int ln)])) (fun _ k_ => XS.iload X0.here hx rfl (hb hby at_164) rfl k_) ?_
        refine Go.st (S' := T0.setTop (mkF m 168 #[.val (.int p0), .val (.int p1), .val (.int p2), .val (.int (p2 &&& (7 : Int32))), .val (.int ln), .val (.int (((p2.toUInt32 >>> ((3 : Int32) &&& 31).toUInt32).toInt32) &&& (3 : Int32))), .val (.int fl), .val (.int (1 : Int32)), .val (.int (0 : Int32)), .val (.int (0 : Int32))] [(.int fl), (.int ln)])) (fun _ k_ => XS.iload X0.here hx rfl (hb hby at_166) rfl k_) ?_
        obtain ⟨v12, T12, h12, L12, X12, e12, hQ12, st12⟩ := callSt X0 hx hZ hown (w0 hw) (w1 hw) (w2 hw) (w3 hw) (by decide) (W := 0) (argsL := [(.int ln), (.int fl)]) (rest := []) e0 (rm1 l Z a0 hw ln fl h0 n0 Z0) (by decide) (by decide) pd0 rfl (g := (mkF m 168 #[.val (.int p0), .val (.int p1), .val (.int p2), .val (.int (p2 &&& (7 : Int32))), .val (.int ln), .val (.int (((p2.toUInt32 >>> ((3 : Int32) &&& 31).toUInt32).toInt32) &&& (3 : Int32))), .val (.int fl), .val (.int (1 : Int32)), .val (.int (0 : Int32)), .val (.int (0 : Int32))] [(.int fl), (.int ln)])) rfl (by rw [hml]; rfl) rfl (by show 2 * 0 + _ ≤ _; exact Nat.le_of_eq rfl) (hb hby at_168) (by decide) (by decide)
        obtain ⟨hv12, Nq12, hh12⟩ := hQ12
        rw [hh12] at e12
        have N12 := Fr.app N0 Nq12
        rw [if_neg (fun z => hc137 ((own_rng ln).mpr z.2))] at hv12
        subst hv12
        refine Go.st (S' := T12.setTop (mkF m 171 #[.val (.int p0), .val (.int p1), .val (.int p2), .val (.int (p2 &&& (7 : Int32))), .val (.int ln), .val (.int (((p2.toUInt32 >>> ((3 : Int32) &&& 31).toUInt32).toInt32) &&& (3 : Int32))), .val (.int fl), .val (.int (1 : Int32)), .val (.int (0 : Int32)), .val (.int (0 : Int32))] [(.int (0 : Int32))])) (st12) ?_
        refine Go.st (S' := T12.setTop (mkF m 173 #[.val (.int p0), .val (.int p1), .val (.int p2), .val (.int (p2 &&& (7 : Int32))), .val (.int ln), .val (.int (((p2.toUInt32 >>> ((3 : Int32) &&& 31).toUInt32).toInt32) &&& (3 : Int32))), .val (.int fl), .val (.int (1 : Int32)), .val (.int (0 : Int32)), .val (.int (0 : Int32))] [(.int (0 : Int32)), (.int (0 : Int32))])) (fun _ k_ => XS.iload X12.here hx rfl (hb hby at_171) rfl k_) ?_
        refine Go.st (S' := T12.setTop (mkF m 176 #[.val (.int p0), .val (.int p1), .val (.int p2), .val (.int (p2 &&& (7 : Int32))), .val (.int ln), .val (.int (((p2.toUInt32 >>> ((3 : Int32) &&& 31).toUInt32).toInt32) &&& (3 : Int32))), .val (.int fl), .val (.int (1 : Int32)), .val (.int (0 : Int32)), .val (.int (0 : Int32))] [])) (fun _ k_ => XS.icmpNo X12.here hx rfl (hb hby at_173) rfl (teq (by decide)).2 k_) ?_
        refine Go.st (S' := T12.setTop (mkF m 177 #[.val (.int p0), .val (.int p1), .val (.int p2), .val (.int (p2 &&& (7 : Int32))), .val (.int ln), .val (.int (((p2.toUInt32 >>> ((3 : Int32) &&& 31).toUInt32).toInt32) &&& (3 : Int32))), .val (.int fl), .val (.int (1 : Int32)), .val (.int (0 : Int32)), .val (.int (0 : Int32))] [(.int (1 : Int32))])) (fun _ k_ => XS.iconst X12.here hx rfl (hb hby at_176) k_) ?_
        refine Go.st (S' := T12.setTop (mkF m 181 #[.val (.int p0), .val (.int p1), .val (.int p2), .val (.int (p2 &&& (7 : Int32))), .val (.int ln), .val (.int (((p2.toUInt32 >>> ((3 : Int32) &&& 31).toUInt32).toInt32) &&& (3 : Int32))), .val (.int fl), .val (.int (1 : Int32)), .val (.int (0 : Int32)), .val (.int (0 : Int32))] [(.int (1 : Int32))])) (fun _ k_ => XS.goto X12.here hx rfl (pc0 := 177) (pc' := 181) rfl (hb hby at_177) (by decide) (by decide) k_) ?_
        exact Go.retN X12 hx (t := .boolean) hret (by simp) hlk (hb hby at_181) (by decide) (by decide) ⟨rfl, N12⟩
    · skip
      refine Go.st (S' := T0.setTop (mkF m 127 #[.val (.int p0), .val (.int p1), .val (.int p2), .val (.int (p2 &&& (7 : Int32))), .val (.int ln), .val (.int (((p2.toUInt32 >>> ((3 : Int32) &&& 31).toUInt32).toInt32) &&& (3 : Int32))), .val (.int fl), .unset, .unset, .unset] [])) (fun _ k_ => XS.icmpYes X0.here hx rfl (pc0 := 120) (pc' := 127) rfl (hb hby at_120) rfl (feq hc120).2 (by decide) (by decide) k_) ?_
      refine Go.st (S' := T0.setTop (mkF m 128 #[.val (.int p0), .val (.int p1), .val (.int p2), .val (.int (p2 &&& (7 : Int32))), .val (.int ln), .val (.int (((p2.toUInt32 >>> ((3 : Int32) &&& 31).toUInt32).toInt32) &&& (3 : Int32))), .val (.int fl), .unset, .unset, .unset] [(.int (0 : Int32))])) (fun _ k_ => XS.iconst X0.here hx rfl (hb hby at_127) k_) ?_
      refine Go.st (S' := T0.setTop (mkF m 130 #[.val (.int p0), .val (.int p1), .val (.int p2), .val (.int (p2 &&& (7 : Int32))), .val (.int ln), .val (.int (((p2.toUInt32 >>> ((3 : Int32) &&& 31).toUInt32).toInt32) &&& (3 : Int32))), .val (.int fl), .val (.int (0 : Int32)), .unset, .unset] [])) (fun _ k_ => XS.istore X0.here hx rfl (hb hby at_128) rfl (l' := #[.val (.int p0), .val (.int p1), .val (.int p2), .val (.int (p2 &&& (7 : Int32))), .val (.int ln), .val (.int (((p2.toUInt32 >>> ((3 : Int32) &&& 31).toUInt32).toInt32) &&& (3 : Int32))), .val (.int fl), .val (.int (0 : Int32)), .unset, .unset]) rfl k_) ?_
      refine Go.st (S' := T0.setTop (mkF m 132 #[.val (.int p0), .val (.int p1), .val (.int p2), .val (.int (p2 &&& (7 : Int32))), .val (.int ln), .val (.int (((p2.toUInt32 >>> ((3 : Int32) &&& 31).toUInt32).toInt32) &&& (3 : Int32))), .val (.int fl), .val (.int (0 : Int32)), .unset, .unset] [(.int ln)])) (fun _ k_ => XS.iload X0.here hx rfl (hb hby at_130) rfl k_) ?_
      refine Go.st (S' := T0.setTop (mkF m 133 #[.val (.int p0), .val (.int p1), .val (.int p2), .val (.int (p2 &&& (7 : Int32))), .val (.int ln), .val (.int (((p2.toUInt32 >>> ((3 : Int32) &&& 31).toUInt32).toInt32) &&& (3 : Int32))), .val (.int fl), .val (.int (0 : Int32)), .unset, .unset] [(.int (1 : Int32)), (.int ln)])) (fun _ k_ => XS.iconst X0.here hx rfl (hb hby at_132) k_) ?_
      refine Go.st (S' := T0.setTop (mkF m 134 #[.val (.int p0), .val (.int p1), .val (.int p2), .val (.int (p2 &&& (7 : Int32))), .val (.int ln), .val (.int (((p2.toUInt32 >>> ((3 : Int32) &&& 31).toUInt32).toInt32) &&& (3 : Int32))), .val (.int fl), .val (.int (0 : Int32)), .unset, .unset] [(.int (ln - (1 : Int32)))])) (fun _ k_ => XS.isub X0.here hx rfl (hb hby at_133) rfl k_) ?_
      refine Go.st (S' := T0.setTop (mkF m 136 #[.val (.int p0), .val (.int p1), .val (.int p2), .val (.int (p2 &&& (7 : Int32))), .val (.int ln), .val (.int (((p2.toUInt32 >>> ((3 : Int32) &&& 31).toUInt32).toInt32) &&& (3 : Int32))), .val (.int fl), .val (.int (0 : Int32)), .unset, .unset] [(.int (20 : Int32)), (.int (ln - (1 : Int32)))])) (fun _ k_ => XS.bipush X0.here hx rfl (hb hby at_134) k_) ?_
      refine Go.st (S' := T0.setTop (mkF m 137 #[.val (.int p0), .val (.int p1), .val (.int p2), .val (.int (p2 &&& (7 : Int32))), .val (.int ln), .val (.int (((p2.toUInt32 >>> ((3 : Int32) &&& 31).toUInt32).toInt32) &&& (3 : Int32))), .val (.int fl), .val (.int (0 : Int32)), .unset, .unset] [(.int (((ln - (1 : Int32)).toUInt32 >>> ((20 : Int32) &&& 31).toUInt32).toInt32))])) (fun _ k_ => XS.iushr X0.here hx rfl (hb hby at_136) rfl k_) ?_
      by_cases hc137 : (((ln - (1 : Int32)).toUInt32 >>> ((20 : Int32) &&& 31).toUInt32).toInt32) = (0 : Int32)
      · skip
        refine Go.st (S' := T0.setTop (mkF m 140 #[.val (.int p0), .val (.int p1), .val (.int p2), .val (.int (p2 &&& (7 : Int32))), .val (.int ln), .val (.int (((p2.toUInt32 >>> ((3 : Int32) &&& 31).toUInt32).toInt32) &&& (3 : Int32))), .val (.int fl), .val (.int (0 : Int32)), .unset, .unset] [])) (fun _ k_ => XS.ifNo X0.here hx rfl (hb hby at_137) rfl ((if0 _ _).trans (teq hc137).2) k_) ?_
        refine Go.st (S' := T0.setTop (mkF m 141 #[.val (.int p0), .val (.int p1), .val (.int p2), .val (.int (p2 &&& (7 : Int32))), .val (.int ln), .val (.int (((p2.toUInt32 >>> ((3 : Int32) &&& 31).toUInt32).toInt32) &&& (3 : Int32))), .val (.int fl), .val (.int (0 : Int32)), .unset, .unset] [(.int (1 : Int32))])) (fun _ k_ => XS.iconst X0.here hx rfl (hb hby at_140) k_) ?_
        refine Go.st (S' := T0.setTop (mkF m 145 #[.val (.int p0), .val (.int p1), .val (.int p2), .val (.int (p2 &&& (7 : Int32))), .val (.int ln), .val (.int (((p2.toUInt32 >>> ((3 : Int32) &&& 31).toUInt32).toInt32) &&& (3 : Int32))), .val (.int fl), .val (.int (0 : Int32)), .unset, .unset] [(.int (1 : Int32))])) (fun _ k_ => XS.goto X0.here hx rfl (pc0 := 141) (pc' := 145) rfl (hb hby at_141) (by decide) (by decide) k_) ?_
        refine Go.st (S' := T0.setTop (mkF m 147 #[.val (.int p0), .val (.int p1), .val (.int p2), .val (.int (p2 &&& (7 : Int32))), .val (.int ln), .val (.int (((p2.toUInt32 >>> ((3 : Int32) &&& 31).toUInt32).toInt32) &&& (3 : Int32))), .val (.int fl), .val (.int (0 : Int32)), .val (.int (1 : Int32)), .unset] [])) (fun _ k_ => XS.istore X0.here hx rfl (hb hby at_145) rfl (l' := #[.val (.int p0), .val (.int p1), .val (.int p2), .val (.int (p2 &&& (7 : Int32))), .val (.int ln), .val (.int (((p2.toUInt32 >>> ((3 : Int32) &&& 31).toUInt32).toInt32) &&& (3 : Int32))), .val (.int fl), .val (.int (0 : Int32)), .val (.int (1 : Int32)), .unset]) rfl k_) ?_
        refine Go.st (S' := T0.setTop (mkF m 149 #[.val (.int p0), .val (.int p1), .val (.int p2), .val (.int (p2 &&& (7 : Int32))), .val (.int ln), .val (.int (((p2.toUInt32 >>> ((3 : Int32) &&& 31).toUInt32).toInt32) &&& (3 : Int32))), .val (.int fl), .val (.int (0 : Int32)), .val (.int (1 : Int32)), .unset] [(.int (0 : Int32))])) (fun _ k_ => XS.iload X0.here hx rfl (hb hby at_147) rfl k_) ?_
        refine Go.st (S' := T0.setTop (mkF m 161 #[.val (.int p0), .val (.int p1), .val (.int p2), .val (.int (p2 &&& (7 : Int32))), .val (.int ln), .val (.int (((p2.toUInt32 >>> ((3 : Int32) &&& 31).toUInt32).toInt32) &&& (3 : Int32))), .val (.int fl), .val (.int (0 : Int32)), .val (.int (1 : Int32)), .unset] [])) (fun _ k_ => XS.ifYes X0.here hx rfl (pc0 := 149) (pc' := 161) rfl (hb hby at_149) rfl ((if0 _ _).trans (teq (by decide)).1) (by decide) (by decide) k_) ?_
        refine Go.st (S' := T0.setTop (mkF m 162 #[.val (.int p0), .val (.int p1), .val (.int p2), .val (.int (p2 &&& (7 : Int32))), .val (.int ln), .val (.int (((p2.toUInt32 >>> ((3 : Int32) &&& 31).toUInt32).toInt32) &&& (3 : Int32))), .val (.int fl), .val (.int (0 : Int32)), .val (.int (1 : Int32)), .unset] [(.int (0 : Int32))])) (fun _ k_ => XS.iconst X0.here hx rfl (hb hby at_161) k_) ?_
        refine Go.st (S' := T0.setTop (mkF m 164 #[.val (.int p0), .val (.int p1), .val (.int p2), .val (.int (p2 &&& (7 : Int32))), .val (.int ln), .val (.int (((p2.toUInt32 >>> ((3 : Int32) &&& 31).toUInt32).toInt32) &&& (3 : Int32))), .val (.int fl), .val (.int (0 : Int32)), .val (.int (1 : Int32)), .val (.int (0 : Int32))] [])) (fun _ k_ => XS.istore X0.here hx rfl (hb hby at_162) rfl (l' := #[.val (.int p0), .val (.int p1), .val (.int p2), .val (.int (p2 &&& (7 : Int32))), .val (.int ln), .val (.int (((p2.toUInt32 >>> ((3 : Int32) &&& 31).toUInt32).toInt32) &&& (3 : Int32))), .val (.int fl), .val (.int (0 : Int32)), .val (.int (1 : Int32)), .val (.int (0 : Int32))]) rfl k_) ?_
        refine Go.st (S' := T0.setTop (mkF m 166 #[.val (.int p0), .val (.int p1), .val (.int p2), .val (.int (p2 &&& (7 : Int32))), .val (.int ln), .val (.int (((p2.toUInt32 >>> ((3 : Int32) &&& 31).toUInt32).toInt32) &&& (3 : Int32))), .val (.int fl), .val (.int (0 : Int32)), .val (.int (1 : Int32)), .val (.int (0 : Int32))] [(.int ln)])) (fun _ k_ => XS.iload X0.here hx rfl (hb hby at_164) rfl k_) ?_
        refine Go.st (S' := T0.setTop (mkF m 168 #[.val (.int p0), .val (.int p1), .val (.int p2), .val (.int (p2 &&& (7 : Int32))), .val (.int ln), .val (.int (((p2.toUInt32 >>> ((3 : Int32) &&& 31).toUInt32).toInt32) &&& (3 : Int32))), .val (.int fl), .val (.int (0 : Int32)), .val (.int (1 : Int32)), .val (.int (0 : Int32))] [(.int fl), (.int ln)])) (fun _ k_ => XS.iload X0.here hx rfl (hb hby at_166) rfl k_) ?_
        obtain ⟨v13, T13, h13, L13, X13, e13, hQ13, st13⟩ := callSt X0 hx hZ hown (w0 hw) (w1 hw) (w2 hw) (w3 hw) (by decide) (W := 0) (argsL := [(.int ln), (.int fl)]) (rest := []) e0 (rm1 l Z a0 hw ln fl h0 n0 Z0) (by decide) (by decide) pd0 rfl (g := (mkF m 168 #[.val (.int p0), .val (.int p1), .val (.int p2), .val (.int (p2 &&& (7 : Int32))), .val (.int ln), .val (.int (((p2.toUInt32 >>> ((3 : Int32) &&& 31).toUInt32).toInt32) &&& (3 : Int32))), .val (.int fl), .val (.int (0 : Int32)), .val (.int (1 : Int32)), .val (.int (0 : Int32))] [(.int fl), (.int ln)])) rfl (by rw [hml]; rfl) rfl (by show 2 * 0 + _ ≤ _; exact Nat.le_of_eq rfl) (hb hby at_168) (by decide) (by decide)
        obtain ⟨hv13, Nq13, hh13⟩ := hQ13
        rw [hh13] at e13
        have N13 := Fr.app N0 Nq13
        rw [if_neg (fun z => hc120 ((own_agree ln fl).mpr z.1))] at hv13
        subst hv13
        refine Go.st (S' := T13.setTop (mkF m 171 #[.val (.int p0), .val (.int p1), .val (.int p2), .val (.int (p2 &&& (7 : Int32))), .val (.int ln), .val (.int (((p2.toUInt32 >>> ((3 : Int32) &&& 31).toUInt32).toInt32) &&& (3 : Int32))), .val (.int fl), .val (.int (0 : Int32)), .val (.int (1 : Int32)), .val (.int (0 : Int32))] [(.int (0 : Int32))])) (st13) ?_
        refine Go.st (S' := T13.setTop (mkF m 173 #[.val (.int p0), .val (.int p1), .val (.int p2), .val (.int (p2 &&& (7 : Int32))), .val (.int ln), .val (.int (((p2.toUInt32 >>> ((3 : Int32) &&& 31).toUInt32).toInt32) &&& (3 : Int32))), .val (.int fl), .val (.int (0 : Int32)), .val (.int (1 : Int32)), .val (.int (0 : Int32))] [(.int (0 : Int32)), (.int (0 : Int32))])) (fun _ k_ => XS.iload X13.here hx rfl (hb hby at_171) rfl k_) ?_
        refine Go.st (S' := T13.setTop (mkF m 176 #[.val (.int p0), .val (.int p1), .val (.int p2), .val (.int (p2 &&& (7 : Int32))), .val (.int ln), .val (.int (((p2.toUInt32 >>> ((3 : Int32) &&& 31).toUInt32).toInt32) &&& (3 : Int32))), .val (.int fl), .val (.int (0 : Int32)), .val (.int (1 : Int32)), .val (.int (0 : Int32))] [])) (fun _ k_ => XS.icmpNo X13.here hx rfl (hb hby at_173) rfl (teq (by decide)).2 k_) ?_
        refine Go.st (S' := T13.setTop (mkF m 177 #[.val (.int p0), .val (.int p1), .val (.int p2), .val (.int (p2 &&& (7 : Int32))), .val (.int ln), .val (.int (((p2.toUInt32 >>> ((3 : Int32) &&& 31).toUInt32).toInt32) &&& (3 : Int32))), .val (.int fl), .val (.int (0 : Int32)), .val (.int (1 : Int32)), .val (.int (0 : Int32))] [(.int (1 : Int32))])) (fun _ k_ => XS.iconst X13.here hx rfl (hb hby at_176) k_) ?_
        refine Go.st (S' := T13.setTop (mkF m 181 #[.val (.int p0), .val (.int p1), .val (.int p2), .val (.int (p2 &&& (7 : Int32))), .val (.int ln), .val (.int (((p2.toUInt32 >>> ((3 : Int32) &&& 31).toUInt32).toInt32) &&& (3 : Int32))), .val (.int fl), .val (.int (0 : Int32)), .val (.int (1 : Int32)), .val (.int (0 : Int32))] [(.int (1 : Int32))])) (fun _ k_ => XS.goto X13.here hx rfl (pc0 := 177) (pc' := 181) rfl (hb hby at_177) (by decide) (by decide) k_) ?_
        exact Go.retN X13 hx (t := .boolean) hret (by simp) hlk (hb hby at_181) (by decide) (by decide) ⟨rfl, N13⟩
      · skip
        refine Go.st (S' := T0.setTop (mkF m 144 #[.val (.int p0), .val (.int p1), .val (.int p2), .val (.int (p2 &&& (7 : Int32))), .val (.int ln), .val (.int (((p2.toUInt32 >>> ((3 : Int32) &&& 31).toUInt32).toInt32) &&& (3 : Int32))), .val (.int fl), .val (.int (0 : Int32)), .unset, .unset] [])) (fun _ k_ => XS.ifYes X0.here hx rfl (pc0 := 137) (pc' := 144) rfl (hb hby at_137) rfl ((if0 _ _).trans (feq hc137).2) (by decide) (by decide) k_) ?_
        refine Go.st (S' := T0.setTop (mkF m 145 #[.val (.int p0), .val (.int p1), .val (.int p2), .val (.int (p2 &&& (7 : Int32))), .val (.int ln), .val (.int (((p2.toUInt32 >>> ((3 : Int32) &&& 31).toUInt32).toInt32) &&& (3 : Int32))), .val (.int fl), .val (.int (0 : Int32)), .unset, .unset] [(.int (0 : Int32))])) (fun _ k_ => XS.iconst X0.here hx rfl (hb hby at_144) k_) ?_
        refine Go.st (S' := T0.setTop (mkF m 147 #[.val (.int p0), .val (.int p1), .val (.int p2), .val (.int (p2 &&& (7 : Int32))), .val (.int ln), .val (.int (((p2.toUInt32 >>> ((3 : Int32) &&& 31).toUInt32).toInt32) &&& (3 : Int32))), .val (.int fl), .val (.int (0 : Int32)), .val (.int (0 : Int32)), .unset] [])) (fun _ k_ => XS.istore X0.here hx rfl (hb hby at_145) rfl (l' := #[.val (.int p0), .val (.int p1), .val (.int p2), .val (.int (p2 &&& (7 : Int32))), .val (.int ln), .val (.int (((p2.toUInt32 >>> ((3 : Int32) &&& 31).toUInt32).toInt32) &&& (3 : Int32))), .val (.int fl), .val (.int (0 : Int32)), .val (.int (0 : Int32)), .unset]) rfl k_) ?_
        refine Go.st (S' := T0.setTop (mkF m 149 #[.val (.int p0), .val (.int p1), .val (.int p2), .val (.int (p2 &&& (7 : Int32))), .val (.int ln), .val (.int (((p2.toUInt32 >>> ((3 : Int32) &&& 31).toUInt32).toInt32) &&& (3 : Int32))), .val (.int fl), .val (.int (0 : Int32)), .val (.int (0 : Int32)), .unset] [(.int (0 : Int32))])) (fun _ k_ => XS.iload X0.here hx rfl (hb hby at_147) rfl k_) ?_
        refine Go.st (S' := T0.setTop (mkF m 161 #[.val (.int p0), .val (.int p1), .val (.int p2), .val (.int (p2 &&& (7 : Int32))), .val (.int ln), .val (.int (((p2.toUInt32 >>> ((3 : Int32) &&& 31).toUInt32).toInt32) &&& (3 : Int32))), .val (.int fl), .val (.int (0 : Int32)), .val (.int (0 : Int32)), .unset] [])) (fun _ k_ => XS.ifYes X0.here hx rfl (pc0 := 149) (pc' := 161) rfl (hb hby at_149) rfl ((if0 _ _).trans (teq (by decide)).1) (by decide) (by decide) k_) ?_
        refine Go.st (S' := T0.setTop (mkF m 162 #[.val (.int p0), .val (.int p1), .val (.int p2), .val (.int (p2 &&& (7 : Int32))), .val (.int ln), .val (.int (((p2.toUInt32 >>> ((3 : Int32) &&& 31).toUInt32).toInt32) &&& (3 : Int32))), .val (.int fl), .val (.int (0 : Int32)), .val (.int (0 : Int32)), .unset] [(.int (0 : Int32))])) (fun _ k_ => XS.iconst X0.here hx rfl (hb hby at_161) k_) ?_
        refine Go.st (S' := T0.setTop (mkF m 164 #[.val (.int p0), .val (.int p1), .val (.int p2), .val (.int (p2 &&& (7 : Int32))), .val (.int ln), .val (.int (((p2.toUInt32 >>> ((3 : Int32) &&& 31).toUInt32).toInt32) &&& (3 : Int32))), .val (.int fl), .val (.int (0 : Int32)), .val (.int (0 : Int32)), .val (.int (0 : Int32))] [])) (fun _ k_ => XS.istore X0.here hx rfl (hb hby at_162) rfl (l' := #[.val (.int p0), .val (.int p1), .val (.int p2), .val (.int (p2 &&& (7 : Int32))), .val (.int ln), .val (.int (((p2.toUInt32 >>> ((3 : Int32) &&& 31).toUInt32).toInt32) &&& (3 : Int32))), .val (.int fl), .val (.int (0 : Int32)), .val (.int (0 : Int32)), .val (.int (0 : Int32))]) rfl k_) ?_
        refine Go.st (S' := T0.setTop (mkF m 166 #[.val (.int p0), .val (.int p1), .val (.int p2), .val (.int (p2 &&& (7 : Int32))), .val (.int ln), .val (.int (((p2.toUInt32 >>> ((3 : Int32) &&& 31).toUInt32).toInt32) &&& (3 : Int32))), .val (.int fl), .val (.int (0 : Int32)), .val (.int (0 : Int32)), .val (.int (0 : Int32))] [(.int ln)])) (fun _ k_ => XS.iload X0.here hx rfl (hb hby at_164) rfl k_) ?_
        refine Go.st (S' := T0.setTop (mkF m 168 #[.val (.int p0), .val (.int p1), .val (.int p2), .val (.int (p2 &&& (7 : Int32))), .val (.int ln), .val (.int (((p2.toUInt32 >>> ((3 : Int32) &&& 31).toUInt32).toInt32) &&& (3 : Int32))), .val (.int fl), .val (.int (0 : Int32)), .val (.int (0 : Int32)), .val (.int (0 : Int32))] [(.int fl), (.int ln)])) (fun _ k_ => XS.iload X0.here hx rfl (hb hby at_166) rfl k_) ?_
        obtain ⟨v14, T14, h14, L14, X14, e14, hQ14, st14⟩ := callSt X0 hx hZ hown (w0 hw) (w1 hw) (w2 hw) (w3 hw) (by decide) (W := 0) (argsL := [(.int ln), (.int fl)]) (rest := []) e0 (rm1 l Z a0 hw ln fl h0 n0 Z0) (by decide) (by decide) pd0 rfl (g := (mkF m 168 #[.val (.int p0), .val (.int p1), .val (.int p2), .val (.int (p2 &&& (7 : Int32))), .val (.int ln), .val (.int (((p2.toUInt32 >>> ((3 : Int32) &&& 31).toUInt32).toInt32) &&& (3 : Int32))), .val (.int fl), .val (.int (0 : Int32)), .val (.int (0 : Int32)), .val (.int (0 : Int32))] [(.int fl), (.int ln)])) rfl (by rw [hml]; rfl) rfl (by show 2 * 0 + _ ≤ _; exact Nat.le_of_eq rfl) (hb hby at_168) (by decide) (by decide)
        obtain ⟨hv14, Nq14, hh14⟩ := hQ14
        rw [hh14] at e14
        have N14 := Fr.app N0 Nq14
        rw [if_neg (fun z => hc120 ((own_agree ln fl).mpr z.1))] at hv14
        subst hv14
        refine Go.st (S' := T14.setTop (mkF m 171 #[.val (.int p0), .val (.int p1), .val (.int p2), .val (.int (p2 &&& (7 : Int32))), .val (.int ln), .val (.int (((p2.toUInt32 >>> ((3 : Int32) &&& 31).toUInt32).toInt32) &&& (3 : Int32))), .val (.int fl), .val (.int (0 : Int32)), .val (.int (0 : Int32)), .val (.int (0 : Int32))] [(.int (0 : Int32))])) (st14) ?_
        refine Go.st (S' := T14.setTop (mkF m 173 #[.val (.int p0), .val (.int p1), .val (.int p2), .val (.int (p2 &&& (7 : Int32))), .val (.int ln), .val (.int (((p2.toUInt32 >>> ((3 : Int32) &&& 31).toUInt32).toInt32) &&& (3 : Int32))), .val (.int fl), .val (.int (0 : Int32)), .val (.int (0 : Int32)), .val (.int (0 : Int32))] [(.int (0 : Int32)), (.int (0 : Int32))])) (fun _ k_ => XS.iload X14.here hx rfl (hb hby at_171) rfl k_) ?_
        refine Go.st (S' := T14.setTop (mkF m 176 #[.val (.int p0), .val (.int p1), .val (.int p2), .val (.int (p2 &&& (7 : Int32))), .val (.int ln), .val (.int (((p2.toUInt32 >>> ((3 : Int32) &&& 31).toUInt32).toInt32) &&& (3 : Int32))), .val (.int fl), .val (.int (0 : Int32)), .val (.int (0 : Int32)), .val (.int (0 : Int32))] [])) (fun _ k_ => XS.icmpNo X14.here hx rfl (hb hby at_173) rfl (teq (by decide)).2 k_) ?_
        refine Go.st (S' := T14.setTop (mkF m 177 #[.val (.int p0), .val (.int p1), .val (.int p2), .val (.int (p2 &&& (7 : Int32))), .val (.int ln), .val (.int (((p2.toUInt32 >>> ((3 : Int32) &&& 31).toUInt32).toInt32) &&& (3 : Int32))), .val (.int fl), .val (.int (0 : Int32)), .val (.int (0 : Int32)), .val (.int (0 : Int32))] [(.int (1 : Int32))])) (fun _ k_ => XS.iconst X14.here hx rfl (hb hby at_176) k_) ?_
        refine Go.st (S' := T14.setTop (mkF m 181 #[.val (.int p0), .val (.int p1), .val (.int p2), .val (.int (p2 &&& (7 : Int32))), .val (.int ln), .val (.int (((p2.toUInt32 >>> ((3 : Int32) &&& 31).toUInt32).toInt32) &&& (3 : Int32))), .val (.int fl), .val (.int (0 : Int32)), .val (.int (0 : Int32)), .val (.int (0 : Int32))] [(.int (1 : Int32))])) (fun _ k_ => XS.goto X14.here hx rfl (pc0 := 177) (pc' := 181) rfl (hb hby at_177) (by decide) (by decide) k_) ?_
        exact Go.retN X14 hx (t := .boolean) hret (by simp) hlk (hb hby at_181) (by decide) (by decide) ⟨rfl, N14⟩
  have J55 : ∀ (ln : Int32), Go p e below s room_1 (fun v h L => v = some (.int 1) ∧ Fr n0 L) (T0.setTop (mkF m 55 #[.val (.int p0), .val (.int p1), .val (.int p2), .val (.int (p2 &&& (7 : Int32))), .val (.int ln), .unset, .unset, .unset, .unset, .unset] [])) := by
    intro ln
    refine Go.st (S' := T0.setTop (mkF m 56 #[.val (.int p0), .val (.int p1), .val (.int p2), .val (.int (p2 &&& (7 : Int32))), .val (.int ln), .unset, .unset, .unset, .unset, .unset] [(.int p2)])) (fun _ k_ => XS.iloadN X0.here hx rfl (hb hby at_55) rfl k_) ?_
    refine Go.st (S' := T0.setTop (mkF m 57 #[.val (.int p0), .val (.int p1), .val (.int p2), .val (.int (p2 &&& (7 : Int32))), .val (.int ln), .unset, .unset, .unset, .unset, .unset] [(.int (3 : Int32)), (.int p2)])) (fun _ k_ => XS.iconst X0.here hx rfl (hb hby at_56) k_) ?_
    refine Go.st (S' := T0.setTop (mkF m 58 #[.val (.int p0), .val (.int p1), .val (.int p2), .val (.int (p2 &&& (7 : Int32))), .val (.int ln), .unset, .unset, .unset, .unset, .unset] [(.int ((p2.toUInt32 >>> ((3 : Int32) &&& 31).toUInt32).toInt32))])) (fun _ k_ => XS.iushr X0.here hx rfl (hb hby at_57) rfl k_) ?_
    refine Go.st (S' := T0.setTop (mkF m 59 #[.val (.int p0), .val (.int p1), .val (.int p2), .val (.int (p2 &&& (7 : Int32))), .val (.int ln), .unset, .unset, .unset, .unset, .unset] [(.int (3 : Int32)), (.int ((p2.toUInt32 >>> ((3 : Int32) &&& 31).toUInt32).toInt32))])) (fun _ k_ => XS.iconst X0.here hx rfl (hb hby at_58) k_) ?_
    refine Go.st (S' := T0.setTop (mkF m 60 #[.val (.int p0), .val (.int p1), .val (.int p2), .val (.int (p2 &&& (7 : Int32))), .val (.int ln), .unset, .unset, .unset, .unset, .unset] [(.int (((p2.toUInt32 >>> ((3 : Int32) &&& 31).toUInt32).toInt32) &&& (3 : Int32)))])) (fun _ k_ => XS.iand X0.here hx rfl (hb hby at_59) rfl k_) ?_
    refine Go.st (S' := T0.setTop (mkF m 62 #[.val (.int p0), .val (.int p1), .val (.int p2), .val (.int (p2 &&& (7 : Int32))), .val (.int ln), .val (.int (((p2.toUInt32 >>> ((3 : Int32) &&& 31).toUInt32).toInt32) &&& (3 : Int32))), .unset, .unset, .unset, .unset] [])) (fun _ k_ => XS.istore X0.here hx rfl (hb hby at_60) rfl (l' := #[.val (.int p0), .val (.int p1), .val (.int p2), .val (.int (p2 &&& (7 : Int32))), .val (.int ln), .val (.int (((p2.toUInt32 >>> ((3 : Int32) &&& 31).toUInt32).toInt32) &&& (3 : Int32))), .unset, .unset, .unset, .unset]) rfl k_) ?_
    refine Go.st (S' := T0.setTop (mkF m 64 #[.val (.int p0), .val (.int p1), .val (.int p2), .val (.int (p2 &&& (7 : Int32))), .val (.int ln), .val (.int (((p2.toUInt32 >>> ((3 : Int32) &&& 31).toUInt32).toInt32) &&& (3 : Int32))), .unset, .unset, .unset, .unset] [(.int (((p2.toUInt32 >>> ((3 : Int32) &&& 31).toUInt32).toInt32) &&& (3 : Int32)))])) (fun _ k_ => XS.iload X0.here hx rfl (hb hby at_62) rfl k_) ?_
    by_cases hc64 : (((p2.toUInt32 >>> ((3 : Int32) &&& 31).toUInt32).toInt32) &&& (3 : Int32)) = (0 : Int32)
    · skip
      refine Go.st (S' := T0.setTop (mkF m 67 #[.val (.int p0), .val (.int p1), .val (.int p2), .val (.int (p2 &&& (7 : Int32))), .val (.int ln), .val (.int (((p2.toUInt32 >>> ((3 : Int32) &&& 31).toUInt32).toInt32) &&& (3 : Int32))), .unset, .unset, .unset, .unset] [])) (fun _ k_ => XS.ifNo X0.here hx rfl (hb hby at_64) rfl ((if0 _ _).trans (teq hc64).2) k_) ?_
      refine Go.st (S' := T0.setTop (mkF m 69 #[.val (.int p0), .val (.int p1), .val (.int p2), .val (.int (p2 &&& (7 : Int32))), .val (.int ln), .val (.int (((p2.toUInt32 >>> ((3 : Int32) &&& 31).toUInt32).toInt32) &&& (3 : Int32))), .unset, .unset, .unset, .unset] [(.int ln)])) (fun _ k_ => XS.iload X0.here hx rfl (hb hby at_67) rfl k_) ?_
      refine Go.st (S' := T0.setTop (mkF m 70 #[.val (.int p0), .val (.int p1), .val (.int p2), .val (.int (p2 &&& (7 : Int32))), .val (.int ln), .val (.int (((p2.toUInt32 >>> ((3 : Int32) &&& 31).toUInt32).toInt32) &&& (3 : Int32))), .unset, .unset, .unset, .unset] [(.int (-1 : Int32)), (.int ln)])) (fun _ k_ => XS.iconst X0.here hx rfl (hb hby at_69) k_) ?_
      refine Go.st (S' := T0.setTop (mkF m 71 #[.val (.int p0), .val (.int p1), .val (.int p2), .val (.int (p2 &&& (7 : Int32))), .val (.int ln), .val (.int (((p2.toUInt32 >>> ((3 : Int32) &&& 31).toUInt32).toInt32) &&& (3 : Int32))), .unset, .unset, .unset, .unset] [(.int (ln ^^^ (-1 : Int32)))])) (fun _ k_ => XS.ixor X0.here hx rfl (hb hby at_70) rfl k_) ?_
      refine Go.st (S' := T0.setTop (mkF m 73 #[.val (.int p0), .val (.int p1), .val (.int p2), .val (.int (p2 &&& (7 : Int32))), .val (.int ln), .val (.int (((p2.toUInt32 >>> ((3 : Int32) &&& 31).toUInt32).toInt32) &&& (3 : Int32))), .val (.int (ln ^^^ (-1 : Int32))), .unset, .unset, .unset] [])) (fun _ k_ => XS.istore X0.here hx rfl (hb hby at_71) rfl (l' := #[.val (.int p0), .val (.int p1), .val (.int p2), .val (.int (p2 &&& (7 : Int32))), .val (.int ln), .val (.int (((p2.toUInt32 >>> ((3 : Int32) &&& 31).toUInt32).toInt32) &&& (3 : Int32))), .val (.int (ln ^^^ (-1 : Int32))), .unset, .unset, .unset]) rfl k_) ?_
      refine Go.st (S' := T0.setTop (mkF m 114 #[.val (.int p0), .val (.int p1), .val (.int p2), .val (.int (p2 &&& (7 : Int32))), .val (.int ln), .val (.int (((p2.toUInt32 >>> ((3 : Int32) &&& 31).toUInt32).toInt32) &&& (3 : Int32))), .val (.int (ln ^^^ (-1 : Int32))), .unset, .unset, .unset] [])) (fun _ k_ => XS.goto X0.here hx rfl (pc0 := 73) (pc' := 114) rfl (hb hby at_73) (by decide) (by decide) k_) ?_
      exact J114 _ _
    · skip
      refine Go.st (S' := T0.setTop (mkF m 76 #[.val (.int p0), .val (.int p1), .val (.int p2), .val (.int (p2 &&& (7 : Int32))), .val (.int ln), .val (.int (((p2.toUInt32 >>> ((3 : Int32) &&& 31).toUInt32).toInt32) &&& (3 : Int32))), .unset, .unset, .unset, .unset] [])) (fun _ k_ => XS.ifYes X0.here hx rfl (pc0 := 64) (pc' := 76) rfl (hb hby at_64) rfl ((if0 _ _).trans (feq hc64).2) (by decide) (by decide) k_) ?_
      refine Go.st (S' := T0.setTop (mkF m 78 #[.val (.int p0), .val (.int p1), .val (.int p2), .val (.int (p2 &&& (7 : Int32))), .val (.int ln), .val (.int (((p2.toUInt32 >>> ((3 : Int32) &&& 31).toUInt32).toInt32) &&& (3 : Int32))), .unset, .unset, .unset, .unset] [(.int (((p2.toUInt32 >>> ((3 : Int32) &&& 31).toUInt32).toInt32) &&& (3 : Int32)))])) (fun _ k_ => XS.iload X0.here hx rfl (hb hby at_76) rfl k_) ?_
      refine Go.st (S' := T0.setTop (mkF m 79 #[.val (.int p0), .val (.int p1), .val (.int p2), .val (.int (p2 &&& (7 : Int32))), .val (.int ln), .val (.int (((p2.toUInt32 >>> ((3 : Int32) &&& 31).toUInt32).toInt32) &&& (3 : Int32))), .unset, .unset, .unset, .unset] [(.int (1 : Int32)), (.int (((p2.toUInt32 >>> ((3 : Int32) &&& 31).toUInt32).toInt32) &&& (3 : Int32)))])) (fun _ k_ => XS.iconst X0.here hx rfl (hb hby at_78) k_) ?_
      by_cases hc79 : (((p2.toUInt32 >>> ((3 : Int32) &&& 31).toUInt32).toInt32) &&& (3 : Int32)) = (1 : Int32)
      · skip
        refine Go.st (S' := T0.setTop (mkF m 82 #[.val (.int p0), .val (.int p1), .val (.int p2), .val (.int (p2 &&& (7 : Int32))), .val (.int ln), .val (.int (((p2.toUInt32 >>> ((3 : Int32) &&& 31).toUInt32).toInt32) &&& (3 : Int32))), .unset, .unset, .unset, .unset] [])) (fun _ k_ => XS.icmpNo X0.here hx rfl (hb hby at_79) rfl (teq hc79).2 k_) ?_
        refine Go.st (S' := T0.setTop (mkF m 84 #[.val (.int p0), .val (.int p1), .val (.int p2), .val (.int (p2 &&& (7 : Int32))), .val (.int ln), .val (.int (((p2.toUInt32 >>> ((3 : Int32) &&& 31).toUInt32).toInt32) &&& (3 : Int32))), .unset, .unset, .unset, .unset] [(.int ln)])) (fun _ k_ => XS.iload X0.here hx rfl (hb hby at_82) rfl k_) ?_
        refine Go.st (S' := T0.setTop (mkF m 85 #[.val (.int p0), .val (.int p1), .val (.int p2), .val (.int (p2 &&& (7 : Int32))), .val (.int ln), .val (.int (((p2.toUInt32 >>> ((3 : Int32) &&& 31).toUInt32).toInt32) &&& (3 : Int32))), .unset, .unset, .unset, .unset] [(.int (-1 : Int32)), (.int ln)])) (fun _ k_ => XS.iconst X0.here hx rfl (hb hby at_84) k_) ?_
        refine Go.st (S' := T0.setTop (mkF m 86 #[.val (.int p0), .val (.int p1), .val (.int p2), .val (.int (p2 &&& (7 : Int32))), .val (.int ln), .val (.int (((p2.toUInt32 >>> ((3 : Int32) &&& 31).toUInt32).toInt32) &&& (3 : Int32))), .unset, .unset, .unset, .unset] [(.int (ln ^^^ (-1 : Int32)))])) (fun _ k_ => XS.ixor X0.here hx rfl (hb hby at_85) rfl k_) ?_
        refine Go.st (S' := T0.setTop (mkF m 87 #[.val (.int p0), .val (.int p1), .val (.int p2), .val (.int (p2 &&& (7 : Int32))), .val (.int ln), .val (.int (((p2.toUInt32 >>> ((3 : Int32) &&& 31).toUInt32).toInt32) &&& (3 : Int32))), .unset, .unset, .unset, .unset] [(.int (1 : Int32)), (.int (ln ^^^ (-1 : Int32)))])) (fun _ k_ => XS.iconst X0.here hx rfl (hb hby at_86) k_) ?_
        refine Go.st (S' := T0.setTop (mkF m 88 #[.val (.int p0), .val (.int p1), .val (.int p2), .val (.int (p2 &&& (7 : Int32))), .val (.int ln), .val (.int (((p2.toUInt32 >>> ((3 : Int32) &&& 31).toUInt32).toInt32) &&& (3 : Int32))), .unset, .unset, .unset, .unset] [(.int p1), (.int (1 : Int32)), (.int (ln ^^^ (-1 : Int32)))])) (fun _ k_ => XS.iloadN X0.here hx rfl (hb hby at_87) rfl k_) ?_
        refine Go.st (S' := T0.setTop (mkF m 90 #[.val (.int p0), .val (.int p1), .val (.int p2), .val (.int (p2 &&& (7 : Int32))), .val (.int ln), .val (.int (((p2.toUInt32 >>> ((3 : Int32) &&& 31).toUInt32).toInt32) &&& (3 : Int32))), .unset, .unset, .unset, .unset] [(.int (31 : Int32)), (.int p1), (.int (1 : Int32)), (.int (ln ^^^ (-1 : Int32)))])) (fun _ k_ => XS.bipush X0.here hx rfl (hb hby at_88) k_) ?_
        refine Go.st (S' := T0.setTop (mkF m 91 #[.val (.int p0), .val (.int p1), .val (.int p2), .val (.int (p2 &&& (7 : Int32))), .val (.int ln), .val (.int (((p2.toUInt32 >>> ((3 : Int32) &&& 31).toUInt32).toInt32) &&& (3 : Int32))), .unset, .unset, .unset, .unset] [(.int (p1 &&& (31 : Int32))), (.int (1 : Int32)), (.int (ln ^^^ (-1 : Int32)))])) (fun _ k_ => XS.iand X0.here hx rfl (hb hby at_90) rfl k_) ?_
        refine Go.st (S' := T0.setTop (mkF m 92 #[.val (.int p0), .val (.int p1), .val (.int p2), .val (.int (p2 &&& (7 : Int32))), .val (.int ln), .val (.int (((p2.toUInt32 >>> ((3 : Int32) &&& 31).toUInt32).toInt32) &&& (3 : Int32))), .unset, .unset, .unset, .unset] [(.int ((1 : Int32) <<< ((p1 &&& (31 : Int32)) &&& 31))), (.int (ln ^^^ (-1 : Int32)))])) (fun _ k_ => XS.ishl X0.here hx rfl (hb hby at_91) rfl k_) ?_
        refine Go.st (S' := T0.setTop (mkF m 93 #[.val (.int p0), .val (.int p1), .val (.int p2), .val (.int (p2 &&& (7 : Int32))), .val (.int ln), .val (.int (((p2.toUInt32 >>> ((3 : Int32) &&& 31).toUInt32).toInt32) &&& (3 : Int32))), .unset, .unset, .unset, .unset] [(.int ((ln ^^^ (-1 : Int32)) ^^^ ((1 : Int32) <<< ((p1 &&& (31 : Int32)) &&& 31))))])) (fun _ k_ => XS.ixor X0.here hx rfl (hb hby at_92) rfl k_) ?_
        refine Go.st (S' := T0.setTop (mkF m 95 #[.val (.int p0), .val (.int p1), .val (.int p2), .val (.int (p2 &&& (7 : Int32))), .val (.int ln), .val (.int (((p2.toUInt32 >>> ((3 : Int32) &&& 31).toUInt32).toInt32) &&& (3 : Int32))), .val (.int ((ln ^^^ (-1 : Int32)) ^^^ ((1 : Int32) <<< ((p1 &&& (31 : Int32)) &&& 31)))), .unset, .unset, .unset] [])) (fun _ k_ => XS.istore X0.here hx rfl (hb hby at_93) rfl (l' := #[.val (.int p0), .val (.int p1), .val (.int p2), .val (.int (p2 &&& (7 : Int32))), .val (.int ln), .val (.int (((p2.toUInt32 >>> ((3 : Int32) &&& 31).toUInt32).toInt32) &&& (3 : Int32))), .val (.int ((ln ^^^ (-1 : Int32)) ^^^ ((1 : Int32) <<< ((p1 &&& (31 : Int32)) &&& 31)))), .unset, .unset, .unset]) rfl k_) ?_
        refine Go.st (S' := T0.setTop (mkF m 114 #[.val (.int p0), .val (.int p1), .val (.int p2), .val (.int (p2 &&& (7 : Int32))), .val (.int ln), .val (.int (((p2.toUInt32 >>> ((3 : Int32) &&& 31).toUInt32).toInt32) &&& (3 : Int32))), .val (.int ((ln ^^^ (-1 : Int32)) ^^^ ((1 : Int32) <<< ((p1 &&& (31 : Int32)) &&& 31)))), .unset, .unset, .unset] [])) (fun _ k_ => XS.goto X0.here hx rfl (pc0 := 95) (pc' := 114) rfl (hb hby at_95) (by decide) (by decide) k_) ?_
        exact J114 _ _
      · skip
        refine Go.st (S' := T0.setTop (mkF m 98 #[.val (.int p0), .val (.int p1), .val (.int p2), .val (.int (p2 &&& (7 : Int32))), .val (.int ln), .val (.int (((p2.toUInt32 >>> ((3 : Int32) &&& 31).toUInt32).toInt32) &&& (3 : Int32))), .unset, .unset, .unset, .unset] [])) (fun _ k_ => XS.icmpYes X0.here hx rfl (pc0 := 79) (pc' := 98) rfl (hb hby at_79) rfl (feq hc79).2 (by decide) (by decide) k_) ?_
        refine Go.st (S' := T0.setTop (mkF m 100 #[.val (.int p0), .val (.int p1), .val (.int p2), .val (.int (p2 &&& (7 : Int32))), .val (.int ln), .val (.int (((p2.toUInt32 >>> ((3 : Int32) &&& 31).toUInt32).toInt32) &&& (3 : Int32))), .unset, .unset, .unset, .unset] [(.int (((p2.toUInt32 >>> ((3 : Int32) &&& 31).toUInt32).toInt32) &&& (3 : Int32)))])) (fun _ k_ => XS.iload X0.here hx rfl (hb hby at_98) rfl k_) ?_
        refine Go.st (S' := T0.setTop (mkF m 101 #[.val (.int p0), .val (.int p1), .val (.int p2), .val (.int (p2 &&& (7 : Int32))), .val (.int ln), .val (.int (((p2.toUInt32 >>> ((3 : Int32) &&& 31).toUInt32).toInt32) &&& (3 : Int32))), .unset, .unset, .unset, .unset] [(.int (2 : Int32)), (.int (((p2.toUInt32 >>> ((3 : Int32) &&& 31).toUInt32).toInt32) &&& (3 : Int32)))])) (fun _ k_ => XS.iconst X0.here hx rfl (hb hby at_100) k_) ?_
        by_cases hc101 : (((p2.toUInt32 >>> ((3 : Int32) &&& 31).toUInt32).toInt32) &&& (3 : Int32)) = (2 : Int32)
        · skip
          refine Go.st (S' := T0.setTop (mkF m 104 #[.val (.int p0), .val (.int p1), .val (.int p2), .val (.int (p2 &&& (7 : Int32))), .val (.int ln), .val (.int (((p2.toUInt32 >>> ((3 : Int32) &&& 31).toUInt32).toInt32) &&& (3 : Int32))), .unset, .unset, .unset, .unset] [])) (fun _ k_ => XS.icmpNo X0.here hx rfl (hb hby at_101) rfl (teq hc101).2 k_) ?_
          refine Go.st (S' := T0.setTop (mkF m 105 #[.val (.int p0), .val (.int p1), .val (.int p2), .val (.int (p2 &&& (7 : Int32))), .val (.int ln), .val (.int (((p2.toUInt32 >>> ((3 : Int32) &&& 31).toUInt32).toInt32) &&& (3 : Int32))), .unset, .unset, .unset, .unset] [(.int p1)])) (fun _ k_ => XS.iloadN X0.here hx rfl (hb hby at_104) rfl k_) ?_
          refine Go.st (S' := T0.setTop (mkF m 107 #[.val (.int p0), .val (.int p1), .val (.int p2), .val (.int (p2 &&& (7 : Int32))), .val (.int ln), .val (.int (((p2.toUInt32 >>> ((3 : Int32) &&& 31).toUInt32).toInt32) &&& (3 : Int32))), .val (.int p1), .unset, .unset, .unset] [])) (fun _ k_ => XS.istore X0.here hx rfl (hb hby at_105) rfl (l' := #[.val (.int p0), .val (.int p1), .val (.int p2), .val (.int (p2 &&& (7 : Int32))), .val (.int ln), .val (.int (((p2.toUInt32 >>> ((3 : Int32) &&& 31).toUInt32).toInt32) &&& (3 : Int32))), .val (.int p1), .unset, .unset, .unset]) rfl k_) ?_
          refine Go.st (S' := T0.setTop (mkF m 114 #[.val (.int p0), .val (.int p1), .val (.int p2), .val (.int (p2 &&& (7 : Int32))), .val (.int ln), .val (.int (((p2.toUInt32 >>> ((3 : Int32) &&& 31).toUInt32).toInt32) &&& (3 : Int32))), .val (.int p1), .unset, .unset, .unset] [])) (fun _ k_ => XS.goto X0.here hx rfl (pc0 := 107) (pc' := 114) rfl (hb hby at_107) (by decide) (by decide) k_) ?_
          exact J114 _ _
        · skip
          refine Go.st (S' := T0.setTop (mkF m 110 #[.val (.int p0), .val (.int p1), .val (.int p2), .val (.int (p2 &&& (7 : Int32))), .val (.int ln), .val (.int (((p2.toUInt32 >>> ((3 : Int32) &&& 31).toUInt32).toInt32) &&& (3 : Int32))), .unset, .unset, .unset, .unset] [])) (fun _ k_ => XS.icmpYes X0.here hx rfl (pc0 := 101) (pc' := 110) rfl (hb hby at_101) rfl (feq hc101).2 (by decide) (by decide) k_) ?_
          refine Go.st (S' := T0.setTop (mkF m 112 #[.val (.int p0), .val (.int p1), .val (.int p2), .val (.int (p2 &&& (7 : Int32))), .val (.int ln), .val (.int (((p2.toUInt32 >>> ((3 : Int32) &&& 31).toUInt32).toInt32) &&& (3 : Int32))), .unset, .unset, .unset, .unset] [(.int ln)])) (fun _ k_ => XS.iload X0.here hx rfl (hb hby at_110) rfl k_) ?_
          refine Go.st (S' := T0.setTop (mkF m 114 #[.val (.int p0), .val (.int p1), .val (.int p2), .val (.int (p2 &&& (7 : Int32))), .val (.int ln), .val (.int (((p2.toUInt32 >>> ((3 : Int32) &&& 31).toUInt32).toInt32) &&& (3 : Int32))), .val (.int ln), .unset, .unset, .unset] [])) (fun _ k_ => XS.istore X0.here hx rfl (hb hby at_112) rfl (l' := #[.val (.int p0), .val (.int p1), .val (.int p2), .val (.int (p2 &&& (7 : Int32))), .val (.int ln), .val (.int (((p2.toUInt32 >>> ((3 : Int32) &&& 31).toUInt32).toInt32) &&& (3 : Int32))), .val (.int ln), .unset, .unset, .unset]) rfl k_) ?_
          exact J114 _ _
  refine Go.cast (ef_rm0 m p0 p1 p2) ?_
  refine Go.st (S' := T0.setTop (mkF m 1 #[.val (.int p0), .val (.int p1), .val (.int p2), .unset, .unset, .unset, .unset, .unset, .unset, .unset] [(.int p2)])) (fun _ k_ => XS.iloadN X0.here hx rfl (hb hby at_0) rfl k_) ?_
  refine Go.st (S' := T0.setTop (mkF m 3 #[.val (.int p0), .val (.int p1), .val (.int p2), .unset, .unset, .unset, .unset, .unset, .unset, .unset] [(.int (7 : Int32)), (.int p2)])) (fun _ k_ => XS.bipush X0.here hx rfl (hb hby at_1) k_) ?_
  refine Go.st (S' := T0.setTop (mkF m 4 #[.val (.int p0), .val (.int p1), .val (.int p2), .unset, .unset, .unset, .unset, .unset, .unset, .unset] [(.int (p2 &&& (7 : Int32)))])) (fun _ k_ => XS.iand X0.here hx rfl (hb hby at_3) rfl k_) ?_
  refine Go.st (S' := T0.setTop (mkF m 5 #[.val (.int p0), .val (.int p1), .val (.int p2), .val (.int (p2 &&& (7 : Int32))), .unset, .unset, .unset, .unset, .unset, .unset] [])) (fun _ k_ => XS.istoreN X0.here hx rfl (hb hby at_4) rfl (l' := #[.val (.int p0), .val (.int p1), .val (.int p2), .val (.int (p2 &&& (7 : Int32))), .unset, .unset, .unset, .unset, .unset, .unset]) rfl k_) ?_
  refine Go.st (S' := T0.setTop (mkF m 6 #[.val (.int p0), .val (.int p1), .val (.int p2), .val (.int (p2 &&& (7 : Int32))), .unset, .unset, .unset, .unset, .unset, .unset] [(.int (p2 &&& (7 : Int32)))])) (fun _ k_ => XS.iloadN X0.here hx rfl (hb hby at_5) rfl k_) ?_
  refine Go.st (S' := T0.setTop (mkF m 7 #[.val (.int p0), .val (.int p1), .val (.int p2), .val (.int (p2 &&& (7 : Int32))), .unset, .unset, .unset, .unset, .unset, .unset] [(.int (1 : Int32)), (.int (p2 &&& (7 : Int32)))])) (fun _ k_ => XS.iconst X0.here hx rfl (hb hby at_6) k_) ?_
  by_cases hc7 : (p2 &&& (7 : Int32)) = (1 : Int32)
  · skip
    refine Go.st (S' := T0.setTop (mkF m 10 #[.val (.int p0), .val (.int p1), .val (.int p2), .val (.int (p2 &&& (7 : Int32))), .unset, .unset, .unset, .unset, .unset, .unset] [])) (fun _ k_ => XS.icmpNo X0.here hx rfl (hb hby at_7) rfl (teq hc7).2 k_) ?_
    refine Go.st (S' := T0.setTop (mkF m 11 #[.val (.int p0), .val (.int p1), .val (.int p2), .val (.int (p2 &&& (7 : Int32))), .unset, .unset, .unset, .unset, .unset, .unset] [(.int p0)])) (fun _ k_ => XS.iloadN X0.here hx rfl (hb hby at_10) rfl k_) ?_
    refine Go.st (S' := T0.setTop (mkF m 13 #[.val (.int p0), .val (.int p1), .val (.int p2), .val (.int (p2 &&& (7 : Int32))), .unset, .unset, .unset, .unset, .unset, .unset] [(.int (1048575 : Int32)), (.int p0)])) (X0.ldcInt hx hown (mvT hZ (w4 hw)) (g := (mkF m 11 #[.val (.int p0), .val (.int p1), .val (.int p2), .val (.int (p2 &&& (7 : Int32))), .unset, .unset, .unset, .unset, .unset, .unset] [(.int p0)])) rfl (hb hby at_11)) ?_
    refine Go.st (S' := T0.setTop (mkF m 14 #[.val (.int p0), .val (.int p1), .val (.int p2), .val (.int (p2 &&& (7 : Int32))), .unset, .unset, .unset, .unset, .unset, .unset] [(.int (p0 &&& (1048575 : Int32)))])) (fun _ k_ => XS.iand X0.here hx rfl (hb hby at_13) rfl k_) ?_
    refine Go.st (S' := T0.setTop (mkF m 15 #[.val (.int p0), .val (.int p1), .val (.int p2), .val (.int (p2 &&& (7 : Int32))), .unset, .unset, .unset, .unset, .unset, .unset] [(.int (1 : Int32)), (.int (p0 &&& (1048575 : Int32)))])) (fun _ k_ => XS.iconst X0.here hx rfl (hb hby at_14) k_) ?_
    refine Go.st (S' := T0.setTop (mkF m 16 #[.val (.int p0), .val (.int p1), .val (.int p2), .val (.int (p2 &&& (7 : Int32))), .unset, .unset, .unset, .unset, .unset, .unset] [(.int ((p0 &&& (1048575 : Int32)) + (1 : Int32)))])) (fun _ k_ => XS.iadd X0.here hx rfl (hb hby at_15) rfl k_) ?_
    refine Go.st (S' := T0.setTop (mkF m 18 #[.val (.int p0), .val (.int p1), .val (.int p2), .val (.int (p2 &&& (7 : Int32))), .val (.int ((p0 &&& (1048575 : Int32)) + (1 : Int32))), .unset, .unset, .unset, .unset, .unset] [])) (fun _ k_ => XS.istore X0.here hx rfl (hb hby at_16) rfl (l' := #[.val (.int p0), .val (.int p1), .val (.int p2), .val (.int (p2 &&& (7 : Int32))), .val (.int ((p0 &&& (1048575 : Int32)) + (1 : Int32))), .unset, .unset, .unset, .unset, .unset]) rfl k_) ?_
    refine Go.st (S' := T0.setTop (mkF m 55 #[.val (.int p0), .val (.int p1), .val (.int p2), .val (.int (p2 &&& (7 : Int32))), .val (.int ((p0 &&& (1048575 : Int32)) + (1 : Int32))), .unset, .unset, .unset, .unset, .unset] [])) (fun _ k_ => XS.goto X0.here hx rfl (pc0 := 18) (pc' := 55) rfl (hb hby at_18) (by decide) (by decide) k_) ?_
    exact J55 _
  · skip
    refine Go.st (S' := T0.setTop (mkF m 21 #[.val (.int p0), .val (.int p1), .val (.int p2), .val (.int (p2 &&& (7 : Int32))), .unset, .unset, .unset, .unset, .unset, .unset] [])) (fun _ k_ => XS.icmpYes X0.here hx rfl (pc0 := 7) (pc' := 21) rfl (hb hby at_7) rfl (feq hc7).2 (by decide) (by decide) k_) ?_
    refine Go.st (S' := T0.setTop (mkF m 22 #[.val (.int p0), .val (.int p1), .val (.int p2), .val (.int (p2 &&& (7 : Int32))), .unset, .unset, .unset, .unset, .unset, .unset] [(.int (p2 &&& (7 : Int32)))])) (fun _ k_ => XS.iloadN X0.here hx rfl (hb hby at_21) rfl k_) ?_
    refine Go.st (S' := T0.setTop (mkF m 23 #[.val (.int p0), .val (.int p1), .val (.int p2), .val (.int (p2 &&& (7 : Int32))), .unset, .unset, .unset, .unset, .unset, .unset] [(.int (2 : Int32)), (.int (p2 &&& (7 : Int32)))])) (fun _ k_ => XS.iconst X0.here hx rfl (hb hby at_22) k_) ?_
    by_cases hc23 : (p2 &&& (7 : Int32)) = (2 : Int32)
    · skip
      refine Go.st (S' := T0.setTop (mkF m 26 #[.val (.int p0), .val (.int p1), .val (.int p2), .val (.int (p2 &&& (7 : Int32))), .unset, .unset, .unset, .unset, .unset, .unset] [])) (fun _ k_ => XS.icmpNo X0.here hx rfl (hb hby at_23) rfl (teq hc23).2 k_) ?_
      refine Go.st (S' := T0.setTop (mkF m 27 #[.val (.int p0), .val (.int p1), .val (.int p2), .val (.int (p2 &&& (7 : Int32))), .unset, .unset, .unset, .unset, .unset, .unset] [(.int p0)])) (fun _ k_ => XS.iloadN X0.here hx rfl (hb hby at_26) rfl k_) ?_
      refine Go.st (S' := T0.setTop (mkF m 28 #[.val (.int p0), .val (.int p1), .val (.int p2), .val (.int (p2 &&& (7 : Int32))), .unset, .unset, .unset, .unset, .unset, .unset] [(.int (3 : Int32)), (.int p0)])) (fun _ k_ => XS.iconst X0.here hx rfl (hb hby at_27) k_) ?_
      refine Go.st (S' := T0.setTop (mkF m 29 #[.val (.int p0), .val (.int p1), .val (.int p2), .val (.int (p2 &&& (7 : Int32))), .unset, .unset, .unset, .unset, .unset, .unset] [(.int (p0 &&& (3 : Int32)))])) (fun _ k_ => XS.iand X0.here hx rfl (hb hby at_28) rfl k_) ?_
      refine Go.st (S' := T0.setTop (mkF m 30 #[.val (.int p0), .val (.int p1), .val (.int p2), .val (.int (p2 &&& (7 : Int32))), .unset, .unset, .unset, .unset, .unset, .unset] [(.int (1 : Int32)), (.int (p0 &&& (3 : Int32)))])) (fun _ k_ => XS.iconst X0.here hx rfl (hb hby at_29) k_) ?_
      refine Go.st (S' := T0.setTop (mkF m 31 #[.val (.int p0), .val (.int p1), .val (.int p2), .val (.int (p2 &&& (7 : Int32))), .unset, .unset, .unset, .unset, .unset, .unset] [(.int ((p0 &&& (3 : Int32)) - (1 : Int32)))])) (fun _ k_ => XS.isub X0.here hx rfl (hb hby at_30) rfl k_) ?_
      refine Go.st (S' := T0.setTop (mkF m 33 #[.val (.int p0), .val (.int p1), .val (.int p2), .val (.int (p2 &&& (7 : Int32))), .val (.int ((p0 &&& (3 : Int32)) - (1 : Int32))), .unset, .unset, .unset, .unset, .unset] [])) (fun _ k_ => XS.istore X0.here hx rfl (hb hby at_31) rfl (l' := #[.val (.int p0), .val (.int p1), .val (.int p2), .val (.int (p2 &&& (7 : Int32))), .val (.int ((p0 &&& (3 : Int32)) - (1 : Int32))), .unset, .unset, .unset, .unset, .unset]) rfl k_) ?_
      refine Go.st (S' := T0.setTop (mkF m 55 #[.val (.int p0), .val (.int p1), .val (.int p2), .val (.int (p2 &&& (7 : Int32))), .val (.int ((p0 &&& (3 : Int32)) - (1 : Int32))), .unset, .unset, .unset, .unset, .unset] [])) (fun _ k_ => XS.goto X0.here hx rfl (pc0 := 33) (pc' := 55) rfl (hb hby at_33) (by decide) (by decide) k_) ?_
      exact J55 _
    · skip
      refine Go.st (S' := T0.setTop (mkF m 36 #[.val (.int p0), .val (.int p1), .val (.int p2), .val (.int (p2 &&& (7 : Int32))), .unset, .unset, .unset, .unset, .unset, .unset] [])) (fun _ k_ => XS.icmpYes X0.here hx rfl (pc0 := 23) (pc' := 36) rfl (hb hby at_23) rfl (feq hc23).2 (by decide) (by decide) k_) ?_
      refine Go.st (S' := T0.setTop (mkF m 37 #[.val (.int p0), .val (.int p1), .val (.int p2), .val (.int (p2 &&& (7 : Int32))), .unset, .unset, .unset, .unset, .unset, .unset] [(.int (p2 &&& (7 : Int32)))])) (fun _ k_ => XS.iloadN X0.here hx rfl (hb hby at_36) rfl k_) ?_
      refine Go.st (S' := T0.setTop (mkF m 38 #[.val (.int p0), .val (.int p1), .val (.int p2), .val (.int (p2 &&& (7 : Int32))), .unset, .unset, .unset, .unset, .unset, .unset] [(.int (3 : Int32)), (.int (p2 &&& (7 : Int32)))])) (fun _ k_ => XS.iconst X0.here hx rfl (hb hby at_37) k_) ?_
      by_cases hc38 : (p2 &&& (7 : Int32)) = (3 : Int32)
      · skip
        refine Go.st (S' := T0.setTop (mkF m 41 #[.val (.int p0), .val (.int p1), .val (.int p2), .val (.int (p2 &&& (7 : Int32))), .unset, .unset, .unset, .unset, .unset, .unset] [])) (fun _ k_ => XS.icmpNo X0.here hx rfl (hb hby at_38) rfl (teq hc38).2 k_) ?_
        refine Go.st (S' := T0.setTop (mkF m 43 #[.val (.int p0), .val (.int p1), .val (.int p2), .val (.int (p2 &&& (7 : Int32))), .unset, .unset, .unset, .unset, .unset, .unset] [(.int (1048575 : Int32))])) (X0.ldcInt hx hown (mvT hZ (w4 hw)) (g := (mkF m 41 #[.val (.int p0), .val (.int p1), .val (.int p2), .val (.int (p2 &&& (7 : Int32))), .unset, .unset, .unset, .unset, .unset, .unset] [])) rfl (hb hby at_41)) ?_
        refine Go.st (S' := T0.setTop (mkF m 44 #[.val (.int p0), .val (.int p1), .val (.int p2), .val (.int (p2 &&& (7 : Int32))), .unset, .unset, .unset, .unset, .unset, .unset] [(.int p0), (.int (1048575 : Int32))])) (fun _ k_ => XS.iloadN X0.here hx rfl (hb hby at_43) rfl k_) ?_
        refine Go.st (S' := T0.setTop (mkF m 45 #[.val (.int p0), .val (.int p1), .val (.int p2), .val (.int (p2 &&& (7 : Int32))), .unset, .unset, .unset, .unset, .unset, .unset] [(.int (3 : Int32)), (.int p0), (.int (1048575 : Int32))])) (fun _ k_ => XS.iconst X0.here hx rfl (hb hby at_44) k_) ?_
        refine Go.st (S' := T0.setTop (mkF m 46 #[.val (.int p0), .val (.int p1), .val (.int p2), .val (.int (p2 &&& (7 : Int32))), .unset, .unset, .unset, .unset, .unset, .unset] [(.int (p0 &&& (3 : Int32))), (.int (1048575 : Int32))])) (fun _ k_ => XS.iand X0.here hx rfl (hb hby at_45) rfl k_) ?_
        refine Go.st (S' := T0.setTop (mkF m 47 #[.val (.int p0), .val (.int p1), .val (.int p2), .val (.int (p2 &&& (7 : Int32))), .unset, .unset, .unset, .unset, .unset, .unset] [(.int ((1048575 : Int32) + (p0 &&& (3 : Int32))))])) (fun _ k_ => XS.iadd X0.here hx rfl (hb hby at_46) rfl k_) ?_
        refine Go.st (S' := T0.setTop (mkF m 49 #[.val (.int p0), .val (.int p1), .val (.int p2), .val (.int (p2 &&& (7 : Int32))), .val (.int ((1048575 : Int32) + (p0 &&& (3 : Int32)))), .unset, .unset, .unset, .unset, .unset] [])) (fun _ k_ => XS.istore X0.here hx rfl (hb hby at_47) rfl (l' := #[.val (.int p0), .val (.int p1), .val (.int p2), .val (.int (p2 &&& (7 : Int32))), .val (.int ((1048575 : Int32) + (p0 &&& (3 : Int32)))), .unset, .unset, .unset, .unset, .unset]) rfl k_) ?_
        refine Go.st (S' := T0.setTop (mkF m 55 #[.val (.int p0), .val (.int p1), .val (.int p2), .val (.int (p2 &&& (7 : Int32))), .val (.int ((1048575 : Int32) + (p0 &&& (3 : Int32)))), .unset, .unset, .unset, .unset, .unset] [])) (fun _ k_ => XS.goto X0.here hx rfl (pc0 := 49) (pc' := 55) rfl (hb hby at_49) (by decide) (by decide) k_) ?_
        exact J55 _
      · skip
        refine Go.st (S' := T0.setTop (mkF m 52 #[.val (.int p0), .val (.int p1), .val (.int p2), .val (.int (p2 &&& (7 : Int32))), .unset, .unset, .unset, .unset, .unset, .unset] [])) (fun _ k_ => XS.icmpYes X0.here hx rfl (pc0 := 38) (pc' := 52) rfl (hb hby at_38) rfl (feq hc38).2 (by decide) (by decide) k_) ?_
        refine Go.st (S' := T0.setTop (mkF m 53 #[.val (.int p0), .val (.int p1), .val (.int p2), .val (.int (p2 &&& (7 : Int32))), .unset, .unset, .unset, .unset, .unset, .unset] [(.int p0)])) (fun _ k_ => XS.iloadN X0.here hx rfl (hb hby at_52) rfl k_) ?_
        refine Go.st (S' := T0.setTop (mkF m 55 #[.val (.int p0), .val (.int p1), .val (.int p2), .val (.int (p2 &&& (7 : Int32))), .val (.int p0), .unset, .unset, .unset, .unset, .unset] [])) (fun _ k_ => XS.istore X0.here hx rfl (hb hby at_53) rfl (l' := #[.val (.int p0), .val (.int p1), .val (.int p2), .val (.int (p2 &&& (7 : Int32))), .val (.int p0), .unset, .unset, .unset, .unset, .unset]) rfl k_) ?_
        exact J55 _
set_option maxRecDepth 65536 in
set_option maxHeartbeats 40000000 in
theorem comes_1 {Post : Tables → Env → Array Value → State → Outcome → State → Prop} (hpost : ∀ tb e args s v u, (limb_1_1.after args s (.returned v) u = true ∧ limb_1_2.after args s (.returned v) u = true ∧ True) → FrameEnd s (.returned v) u (Jvm.fieldLocs frame_1_writes args s ++ Jvm.arrayLocs frame_1_arrays args s ++ Jvm.staticLocs frame_1_statics s) 0 0 → Post tb e args s (.returned v) u) :
    ArmFor flags0 classFile x code maxLocals ret World_1 tables_1 room_1 Calls_1 rest_1 Pre_1 Post := by
  intro l hfl _ _ p e ha hc hk s m args below hf hA hF happ hP
  obtain ⟨hcalls, hrest, hpre⟩ := hP
  obtain ⟨-, -, -, hnamed, -, -, -, hat⟩ := (Spec.applies_iff hf).mp happ
  obtain ⟨hg, hn⟩ := and_e (Cond.before_iff.mp (show (Jvm.Cond.and given_1 narrow_1).before args s = true from hpre))
  obtain ⟨g1, g2⟩ := and_e hg
  obtain ⟨g3, g4⟩ := and_e g2
  obtain ⟨g5, g6⟩ := and_e g4
  obtain ⟨u0, u1, u2, rfl⟩ : ∃ u0 u1 u2 : Value, args = #[u0, u1, u2] := by
    have hs : args.size = 3 := by simpa [Cond.value, given_1] using g1
    obtain ⟨L⟩ := args
    match L, hs with
    | [u0, u1, u2], _ => exact ⟨u0, u1, u2, rfl⟩
  have hw := fun d (hd : d ∈ tables_1) => atoms_spec (ws := Jvm.Cond.code x code maxLocals ret :: tables_1) hat d (List.mem_cons_of_mem _ hd)
  obtain ⟨i0, ei0⟩ := is_v g3
  obtain rfl : u0 = (.int i0) := Option.some.inj ei0
  obtain ⟨i1, ei1⟩ := is_v g5
  obtain rfl : u1 = (.int i1) := Option.some.inj ei1
  obtain ⟨i2, ei2⟩ := is_v g6
  obtain rfl : u2 = (.int i2) := Option.some.inj ei2
  obtain ⟨n, o, h1, h2, h3, v, L, rfl, ⟨hv, N⟩, hq⟩ := rm0 l s _ hw tables_1 i0 i1 i2 s.heap s.heap.size (Nat.le_refl _) p e ha hc hk s m _ below hf ((Spec.applies_iff_loose hf).mp happ).1 ⟨rfl, State.Warmed39.refl s, rfl⟩ trivial
  subst hv
  refine ⟨n, _, h1, h2, h3, hpost _ _ _ _ _ _ ⟨Cond.after_iff.mpr rfl, Cond.after_iff.mpr (eq_i res_at (Term.int_eval (1)) rfl), trivial⟩ ⟨hq.1, hq.2.1, (hq.2.2.sift fun y hy => Or.inr (N y hy)).mono (by decide) (by decide)⟩⟩
theorem main_1_1 : Claimed_1_1 := comes_1 fun _ _ _ _ _ _ h hF => ⟨h.1, hF⟩
theorem main_1_2 : Claimed_1_2 := comes_1 fun _ _ _ _ _ _ h hF => ⟨h.2.1, hF⟩
end Jvm.Pilot.@@N@@
namespace Jvm.Pilot.@@N@@
open Jvm Jvm.ClassFile Sem Op Lib Jvm.Free Jvm.Stand Jvm.Pilot.@@N@@.Jvm.D
/-! MADE BY PROGRAM (witnessworld.py) out of the Statement's table words and the real class files: 9 classes; the members and pool entries that the words name. The judged class is class 1, her method 1. -/
namespace start1
open Jvm.ClassFile
def u (s : String) : CpInfo := .utf8 (stringToUtf16 s)
/-- a pool by its gaps: so many unusable entries, then the entry; so many at the end -/
def gap : Nat → List CpInfo → List CpInfo
  | 0, r => r
  | n + 1, r => .unusable :: gap n r
def poolList (es : List (Nat × CpInfo)) (last : Nat) : List CpInfo := es.foldr (fun e r => gap e.1 (e.2 :: r)) (gap last [])
def pool (es : List (Nat × CpInfo)) (last : Nat) : Array CpInfo := ⟨poolList es last⟩
def fileOf (pool : Array CpInfo) (this : Nat) (attrs : Array Attribute := #[]) (ms : Array MethodInfo := #[]) (fl : Nat := 33) (sup : Nat := 0) (ifs : Array Nat := #[]) (fds : Array FieldInfo := #[]) : ClassFile where
  minorVersion := 0
  majorVersion := 65
  constantPool := pool
  accessFlags := fl
  thisClass := this
  superClass := sup
  interfaces := ifs
  fields := fds
  methods := ms
  attributes := attrs
def plain (name : String) (sup : Option ClassId) : Class where
  name := name
  kind := .ordinary
  loader := none
  accessFlags := 33
  super := sup
  interfaces := #[]
  cf := none
  fields := #[]
  methods := #[]
  instanceTypes := #[]
  staticTypes := #[]
  resolved := #[]
  callSites := []
  init := .initialized
  statics := none
  mirror := none

def pool0 : Array CpInfo := pool [(5, u "<init>"), (0, u "()V"), (1, .class_ 10), (1, u "java/lang/Object")] 113

def k0m0 : Method := { name := "<init>", desc := "()V", sig := { parameters := [], returnType := none }, accessFlags := 1, code := none }
/-- java/lang/Object -/
def k0 : Class := { plain "java/lang/Object" none with
  accessFlags := 33
  interfaces := #[]
  cf := some (fileOf pool0 8 #[] #[{ accessFlags := 1, nameIndex := 5, descriptorIndex := 6, attributes := #[] }] 33 0 #[] #[])
  fields := #[]
  methods := #[k0m0]
  instanceTypes := #[]
  staticTypes := #[]
  resolved := Array.replicate 124 none
  statics := none }

def pool1 : Array CpInfo := pool [(2, .class_ 4), (1, u "java/lang/Object"), (0, u "<init>"), (0, u "()V"), (0, .integer 1048575), (0, .interfaceMethodref 9 10), (0, .class_ 11), (0, .nameAndType 12 13), (0, u "com/example/vigilant_coordinator/vigilantcoordinator/io/LogRecord"), (0, u "lengthHolds"), (0, u "(II)Z"), (0, .class_ 15), (0, u "com/example/vigilant_coordinator/vigilantcoordinator/io/LogRecordLengthHoldsPinLaw"), (2, u "law"), (0, u "(III)Z")] 3

def k1m0 : Method := { name := "<init>", desc := "()V", sig := { parameters := [], returnType := none }, accessFlags := 1, code := none }
def k1c1 : Code := { maxStack := 4, maxLocals := 10, code := code, exceptionTable := #[], attributes := #[] }
def k1m1 : Method := { name := "law", desc := "(III)Z", sig := { parameters := [.int, .int, .int], returnType := some .boolean }, accessFlags := 9, code := some k1c1 }
/-- com/example/vigilant_coordinator/vigilantcoordinator/io/LogRecordLengthHoldsPinLaw -/
def k1 : Class := { plain "com/example/vigilant_coordinator/vigilantcoordinator/io/LogRecordLengthHoldsPinLaw" (some 0) with
  accessFlags := 49
  interfaces := #[]
  cf := some (fileOf pool1 14 #[] #[{ accessFlags := 1, nameIndex := 5, descriptorIndex := 6, attributes := #[] }, { accessFlags := 9, nameIndex := 18, descriptorIndex := 19, attributes := #[] }] 49 2 #[] #[])
  fields := #[]
  methods := #[k1m0, k1m1]
  instanceTypes := #[]
  staticTypes := #[]
  resolved := Array.replicate 23 none
  statics := none }

def pool2 : Array CpInfo := pool [(11, .class_ 12), (0, u "com/example/vigilant_coordinator/vigilantcoordinator/io/LogRecord"), (0, .class_ 14), (0, u "com/example/vigilant_coordinator/vigilantcoordinator/io/LogRecord$MalformedRecordException"), (24, .class_ 40), (0, u "com/example/vigilant_coordinator/vigilantcoordinator/io/LogRecord$Commit"), (3, .class_ 45), (0, u "com/example/vigilant_coordinator/vigilantcoordinator/io/LogRecord$Deletion"), (23, .integer 1048576), (43, .class_ 114), (0, u "java/lang/Object"), (0, u "FRAME_BYTES"), (0, u "I"), (2, u "MAX_BODY_BYTES"), (0, u "COMMIT_TYPE"), (0, u "B"), (1, u "UNTIMED_DELETION_TYPE"), (1, u "DELETION_TYPE"), (12, u "lengthHolds"), (0, u "(II)Z")] 35

def k2c0 : Code := { maxStack := 3, maxLocals := 2, code := prog_15_method_4_code, exceptionTable := #[], attributes := #[] }
def k2m0 : Method := { name := "lengthHolds", desc := "(II)Z", sig := { parameters := [.int, .int], returnType := some .boolean }, accessFlags := 9, code := some k2c0 }
/-- com/example/vigilant_coordinator/vigilantcoordinator/io/LogRecord -/
def k2 : Class := { plain "com/example/vigilant_coordinator/vigilantcoordinator/io/LogRecord" (some 0) with
  accessFlags := 1536
  interfaces := #[]
  cf := some (fileOf pool2 11 #[.nestMembers #[13, 44, 39]] #[{ accessFlags := 9, nameIndex := 138, descriptorIndex := 139, attributes := #[] }] 1536 113 #[] #[{ accessFlags := 25, nameIndex := 115, descriptorIndex := 116, attributes := #[] }, { accessFlags := 25, nameIndex := 119, descriptorIndex := 116, attributes := #[] }, { accessFlags := 25, nameIndex := 120, descriptorIndex := 121, attributes := #[] }, { accessFlags := 25, nameIndex := 123, descriptorIndex := 121, attributes := #[] }, { accessFlags := 25, nameIndex := 125, descriptorIndex := 121, attributes := #[] }])
  fields := #[{ name := "FRAME_BYTES", type := .int, accessFlags := 25, slot := 0, constantValue := 0 }, { name := "MAX_BODY_BYTES", type := .int, accessFlags := 25, slot := 1, constantValue := 0 }, { name := "COMMIT_TYPE", type := .byte, accessFlags := 25, slot := 2, constantValue := 0 }, { name := "UNTIMED_DELETION_TYPE", type := .byte, accessFlags := 25, slot := 3, constantValue := 0 }, { name := "DELETION_TYPE", type := .byte, accessFlags := 25, slot := 4, constantValue := 0 }]
  methods := #[k2m0]
  instanceTypes := #[]
  staticTypes := #[.int, .int, .byte, .byte, .byte]
  resolved := Array.replicate 175 none
  statics := none }

def pool3 : Array CpInfo := pool [(1, u "java/lang/Cloneable"), (0, .class_ 1), (0, u "java/lang/Object"), (0, .class_ 3)] 3

/-- java/lang/Cloneable -/
def k3 : Class := { plain "java/lang/Cloneable" (some 0) with
  accessFlags := 1537
  interfaces := #[]
  cf := some (fileOf pool3 2 #[] #[] 1537 4 #[] #[])
  fields := #[]
  methods := #[]
  instanceTypes := #[]
  staticTypes := #[]
  resolved := Array.replicate 8 none
  statics := none }

def pool4 : Array CpInfo := pool [(1, u "java/io/Serializable"), (0, .class_ 1), (0, u "java/lang/Object"), (0, .class_ 3)] 3

/-- java/io/Serializable -/
def k4 : Class := { plain "java/io/Serializable" (some 0) with
  accessFlags := 1537
  interfaces := #[]
  cf := some (fileOf pool4 2 #[] #[] 1537 4 #[] #[])
  fields := #[]
  methods := #[]
  instanceTypes := #[]
  staticTypes := #[]
  resolved := Array.replicate 8 none
  statics := none }

/-- the primitive byte -/
def k5 : Class := { plain "byte" none with kind := .primitive 'B', accessFlags := 0x411 }
/-- [B -/
def k6 : Class := { plain "[B" (some 0) with kind := .array 5 .byte, interfaces := #[3, 4], accessFlags := 1041 }

/-- the primitive int -/
def k7 : Class := { plain "int" none with kind := .primitive 'I', accessFlags := 0x411 }
/-- [I -/
def k8 : Class := { plain "[I" (some 0) with kind := .array 7 .int, interfaces := #[3, 4], accessFlags := 1041 }

def heap : Heap := #[]
def classes : Array Class := #[k0, k1, k2, k3, k4, k5, k6, k7, k8]
def interned : List (Array UInt16 × Addr) := []
def slotsUsed : Nat := 0
def theMethod : MethodId := ⟨1, 1⟩
def args0 : Array Value := #[.int 5, .int 7, .int 3]
def aboutOver (below : List Frame) : State where
  vm := { classes := classes, interned := interned.toArray }
  heap := heap
  slotsUsed := slotsUsed
  threads := #[{ frames := .invoking theMethod args0 :: below }]
def below0 : List Frame := [.native { method := ⟨0, 0⟩, args := #[] }]
def about1 : State := aboutOver below0
def p0 : Program := .bare "" "" ""
def e0 : Env := launch0.env 0 0 0
theorem w_frames : about1.frames = Frame.invoking theMethod args0 :: below0 := rfl
set_option maxRecDepth 65536 in
theorem w_args : argsFit about1.vm theMethod args0 = true := by decide +kernel
set_option maxRecDepth 65536 in
theorem w_heap : heapFits about1 = true := by decide +kernel
set_option maxRecDepth 65536 in
theorem w_runnable : about1.curStatus? = some .runnable := by decide +kernel
set_option maxRecDepth 65536 in
theorem w_alone : about1.alone = true := by decide +kernel
set_option maxRecDepth 65536 in
theorem w_named : about1.methodNamed? x = some theMethod := by decide +kernel
set_option maxRecDepth 65536 in
theorem w_hears : about1.hears theMethod below0 = true := by decide +kernel
set_option maxRecDepth 65536 in
theorem w_ripe : about1.ripe theMethod args0 below0 = true := by decide +kernel
theorem w_running : about1.status = .running := rfl
set_option maxRecDepth 65536 in
theorem w_room : about1.hasRoom e0.platform room_1 = true :=
  launch0.hasRoom_least _ room_1 (by decide +kernel) (by decide +kernel) (by decide +kernel) (by decide +kernel) (by decide +kernel) (by decide +kernel)
theorem allAtoms_all (ts : List Jvm.Cond) (a : Array Jvm.Value) (st : Jvm.State) : (allAtoms ts).before a st = ts.all (fun c => c.before a st) := by
  induction ts with
  | nil => rfl
  | cons c t ih =>
    show (Jvm.Cond.and c (allAtoms t)).before a st = _
    rw [Jvm.Cond.before_and, ih, List.all_cons]
def words1 : List Jvm.Cond := Jvm.Cond.code x code maxLocals ret :: tables_1
/-- a 'code' word, met by the world's own term for the bytes: nothing is compared byte by byte -/
theorem code_word {y : MethodName} {bytes : ByteArray} {mx : Nat} {rt : Option FieldType} {a : Array Value} {s : State} {m : MethodId} {meth : Method} {c : Code} (h1 : s.methodNamed? y = some m) (h2 : s.vm.method? m = some meth) (h3 : meth.code = some c) (h4 : c.code = bytes)
    (h5 : (c.maxLocals == mx && c.exceptionTable.isEmpty && decide (c.maxStack ≤ mostOperands) && decide (meth.sig.returnType = rt) && !meth.locks && decide (parseMethodDescriptor y.desc = some meth.sig)) = true) : (Jvm.Cond.code y bytes mx rt).before a s = true := by
  simp only [Bool.and_eq_true, beq_iff_eq, Bool.not_eq_true', decide_eq_true_eq] at h5
  obtain ⟨⟨⟨⟨⟨g1, g2⟩, g3⟩, g4⟩, g5⟩, g6⟩ := h5
  simp [Cond.before, Cond.holds, Cond.value, h1, h2, h3, h4, g1, g2, g3, g4, g5, g6]
def isCode : Jvm.Cond → Bool
  | .code _ _ _ _ => true
  | _ => false
theorem all_split {L : List Jvm.Cond} {P : Jvm.Cond → Bool} (h1 : L.all (fun c => isCode c || P c) = true) (h2 : ∀ c ∈ L.filter isCode, P c = true) : L.all P = true := by
  refine List.all_eq_true.mpr fun c hc => ?_
  have h := List.all_eq_true.mp h1 c hc
  rcases Bool.eq_false_or_eq_true (isCode c) with hi | hi
  · exact h2 c (List.mem_filter.mpr ⟨hc, hi⟩)
  · simpa [hi] using h
set_option maxRecDepth 65536 in
theorem w_c0 : (Jvm.Cond.code x code maxLocals ret).before args0 about1 = true := code_word (m := ⟨1, 1⟩) (meth := k1m1) (c := k1c1) (by decide +kernel) rfl rfl rfl (by decide +kernel)
set_option maxRecDepth 65536 in
theorem w_c1 : (Jvm.Cond.code ({ cls := "com/example/vigilant_coordinator/vigilantcoordinator/io/LogRecord", name := "lengthHolds", desc := "(II)Z" } : Jvm.MethodName) prog_15_method_4_code (2 : Nat) (Option.some Jvm.ClassFile.FieldType.boolean)).before args0 about1 = true := code_word (m := ⟨2, 0⟩) (meth := k2m0) (c := k2c0) (by decide +kernel) rfl rfl rfl (by decide +kernel)
def codes1 : List Jvm.Cond := [Jvm.Cond.code x code maxLocals ret, Jvm.Cond.code ({ cls := "com/example/vigilant_coordinator/vigilantcoordinator/io/LogRecord", name := "lengthHolds", desc := "(II)Z" } : Jvm.MethodName) prog_15_method_4_code (2 : Nat) (Option.some Jvm.ClassFile.FieldType.boolean)]
set_option maxRecDepth 65536 in
theorem codes_eq : words1.filter isCode = codes1 := rfl
theorem w_codes : ∀ c ∈ words1.filter isCode, c.before args0 about1 = true := by
  rw [codes_eq]
  intro c hc
  simp only [codes1, List.mem_cons, List.not_mem_nil, or_false] at hc
  rcases hc with rfl | rfl
  · exact w_c0
  · exact w_c1
set_option maxRecDepth 65536 in
theorem w_t1 : words1.all (fun c => isCode c || c.before args0 about1) = true := by decide +kernel
theorem w_tables : (allAtoms (Jvm.Cond.code x code maxLocals ret :: tables_1)).before args0 about1 = true := by
  rw [allAtoms_all]
  show words1.all (fun c => c.before args0 about1) = true
  refine all_split ?_ w_codes
  rw [w_t1]
set_option maxRecDepth 65536 in
theorem w_case : (Jvm.Cond.and given_1 narrow_1).before args0 about1 = true := by decide +kernel
theorem w_applies : (headSpec (Jvm.Cond.code x code maxLocals ret :: tables_1) room_1).applies x e0.platform about1 = true :=
  (Spec.applies_iff w_frames).mpr ⟨w_running, w_runnable, w_alone, w_named, w_hears, w_ripe, w_room, w_tables⟩
theorem atStart : AtStart classFile x code maxLocals ret World_1 tables_1 room_1 Calls_1 rest_1 Pre_1 launch0 p0 e0 about1 theMethod args0 below0 :=
  ⟨lists_1, trivial, launch0.admits_env _ _ _, launch0.least_env, fairChoices_fair.cas, fairChoices_fair.clock, w_frames, w_args, w_heap, w_applies, trivial, trivial, w_case⟩
end start1
theorem witness_1 : WitnessClaimed_1 := ⟨start1.p0, start1.e0, start1.about1, start1.theMethod, start1.args0, start1.below0, start1.atStart⟩
end Jvm.Pilot.@@N@@
