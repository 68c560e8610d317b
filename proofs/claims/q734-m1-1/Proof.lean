import JvmDerived
import JvmDerived.Pilot.@@N@@Statement
import JvmDerived.Pilot.@@N@@Code
set_option linter.unusedVariables false
set_option linter.unusedSimpArgs false
namespace Jvm.Pilot.@@N@@
open Jvm Jvm.ClassFile Sem Op Lib Jvm.Free Jvm.Stand Jvm.LawKit Jvm.RoadKit Bundle Jvm.Pilot.@@N@@.Jvm.D
/-! ## own layer: walks in goal-directed form -/
section Layer
variable {p : Program} {l : Launch} {e : Env} {R : Room} {s : State} {m : MethodId} {args : Array Value} {below : List Frame} {meth : Method} {c : Code} {T : State} {locs : List Loc} {cells slots : Nat} {Z : State} {a0 : Array Value} {h h' : Heap} {a b : Addr} {ty : FieldType} {xs ys : List Int32} {ls : List Int64}
/-- from S the run comes to the invocation's end, with what Q says of the value, the heap and the written places -/
def Go (p : Program) (e : Env) (below : List Frame) (s : State) (rm : Room) (Q : Option Value → Heap → List Loc → Prop) (S : State) : Prop :=
  ∃ t o, Steps p.tables e below S t ∧ t.status = .running ∧ Ended t below o ∧ ∃ v L, o = .returned v ∧ Q v t.heap L ∧ FrameEnd s o t L rm.cells rm.slots
theorem Go.st {rm : Room} {Q : Option Value → Heap → List Loc → Prop} {S S' : State} (k : ∀ t, Steps p.tables e below S' t → Steps p.tables e below S t) (g : Go p e below s rm Q S') : Go p e below s rm Q S := by
  obtain ⟨t, o, h, r⟩ := g; exact ⟨t, o, k t h, r⟩
theorem Go.ret {rm : Room} {Q : Option Value → Heap → List Loc → Prop} {S : State} {v : Option Value} (X : Stand p l e rm s m args below meth c T locs cells slots) (hv : meth.sig.returnType = none → v = none) (hlk : meth.locks = false) (hc : cells ≤ rm.cells) (hs : slots ≤ rm.slots) (hQ : Q v T.heap locs)
    (st : ∀ fs, (∀ (f : JFrame) (acts : List Action), f.method = m → f.locked = none → f.entered = [] → (doReturn e (T.setTop f) acts v).1 = T.setFrames fs) → Steps p.tables e below S (T.setFrames fs)) : Go p e below s rm Q S := by
  obtain ⟨fs, hr, hrun, hended, hW, hsame⟩ := X.leave (v := v) hv hlk
  exact ⟨_, _, st fs hr, hrun, hended, v, locs, rfl, hQ, ⟨v, rfl⟩, hW, hsame.mono hc hs⟩
theorem Go.retI {rm : Room} {Q : Option Value → Heap → List Loc → Prop} (X : Stand p l e rm s m args below meth c T locs cells slots) (hx : p.tables.exec = Jvm.exec) (hret : meth.sig.returnType = some .int) (hlk : meth.locks = false) {pc : Nat} {Ls : Array Slot} {z : Int32} {rest : List Value} (hd : decode c.code pc = .ok (.ireturn, 1)) (hc : cells ≤ rm.cells) (hs : slots ≤ rm.slots)
    (hQ : Q (some (.int z)) T.heap locs) : Go p e below s rm Q (T.setTop (mkF m pc Ls (.int z :: rest))) := by
  refine Go.ret X (v := some (.int z)) (fun q => by rw [hret] at q; cases q) hlk hc hs hQ fun fs hr => ?_
  have hm' : T.vm.method? m = some meth := X.method'
  have hn : narrow .int (.int z) = .int z := rfl
  show Steps p.tables e below (T.setTop { method := m, pc := pc, locals := Ls, stack := _ :: rest, locked := none }) _
  jvm_step X.here [X.here.top, hx, hd, hm', hret, hn]
  first | (intro acts; rw [hr _ acts rfl rfl rfl]) | rw [hr _ _ rfl rfl rfl]
  exact Steps.refl _
theorem Go.retN {rm : Room} {Q : Option Value → Heap → List Loc → Prop} {t : FieldType} (X : Stand p l e rm s m args below meth c T locs cells slots) (hx : p.tables.exec = Jvm.exec) (hret : meth.sig.returnType = some t) (ht : t = .boolean ∨ t = .byte ∨ t = .char ∨ t = .short) (hlk : meth.locks = false) {pc : Nat} {Ls : Array Slot} {z : Int32} {rest : List Value} (hd : decode c.code pc = .ok (.ireturn, 1)) (hc : cells ≤ rm.cells) (hs : slots ≤ rm.slots)
    (hQ : Q (some (.int (nar t z))) T.heap locs) : Go p e below s rm Q (T.setTop (mkF m pc Ls (.int z :: rest))) :=
  Go.ret X (v := some (.int (nar t z))) (fun q => by rw [hret] at q; cases q) hlk hc hs hQ fun fs hr => Jvm.RoadKit.retN X hx hret ht hd hr
theorem Go.retV {rm : Room} {Q : Option Value → Heap → List Loc → Prop} (X : Stand p l e rm s m args below meth c T locs cells slots) (hx : p.tables.exec = Jvm.exec) (hret : meth.sig.returnType = none) (hlk : meth.locks = false) {pc : Nat} {Ls : Array Slot} (hd : decode c.code pc = .ok (.return_, 1)) (hc : cells ≤ rm.cells) (hs : slots ≤ rm.slots)
    (hQ : Q none T.heap locs) : Go p e below s rm Q (T.setTop (mkF m pc Ls [])) :=
  Go.ret X (v := none) (fun _ => rfl) hlk hc hs hQ fun fs hr => X.returnOut hx hret hd hr
theorem Go.retJ {rm : Room} {Q : Option Value → Heap → List Loc → Prop} (X : Stand p l e rm s m args below meth c T locs cells slots) (hx : p.tables.exec = Jvm.exec) (hret : meth.sig.returnType = some .long) (hlk : meth.locks = false) {pc : Nat} {Ls : Array Slot} {z : Int64} {rest : List Value} (hd : decode c.code pc = .ok (.lreturn, 1)) (hc : cells ≤ rm.cells) (hs : slots ≤ rm.slots)
    (hQ : Q (some (.long z)) T.heap locs) : Go p e below s rm Q (T.setTop (mkF m pc Ls (.long z :: rest))) := by
  refine Go.ret X (v := some (.long z)) (fun q => by rw [hret] at q; cases q) hlk hc hs hQ fun fs hr => ?_
  have hm' : T.vm.method? m = some meth := X.method'
  show Steps p.tables e below (T.setTop { method := m, pc := pc, locals := Ls, stack := _ :: rest, locked := none }) _
  jvm_step X.here [X.here.top, hx, hd, hm', hret, narrow]
  first | (intro acts; rw [hr _ acts rfl rfl rfl]) | rw [hr _ _ rfl rfl rfl]
  exact Steps.refl _
theorem Go.retR {rm : Room} {Q : Option Value → Heap → List Loc → Prop} {t : FieldType} (X : Stand p l e rm s m args below meth c T locs cells slots) (hx : p.tables.exec = Jvm.exec) (hret : meth.sig.returnType = some t) (ht : t.isReference = true) (hlk : meth.locks = false) {pc : Nat} {Ls : Array Slot} {z : Addr} (hd : decode c.code pc = .ok (.areturn, 1)) (hc : cells ≤ rm.cells) (hs : slots ≤ rm.slots)
    (hQ : Q (some (.ref z)) T.heap locs) : Go p e below s rm Q (T.setTop (mkF m pc Ls [.ref z])) := by
  refine Go.ret X (v := some (.ref z)) (fun q => by rw [hret] at q; cases q) hlk hc hs hQ fun fs hr => ?_
  exact X.areturnOut hx rfl hret ht hd hr
/-- the contract of a body: called with these arguments over the heap h0 it comes back, and Q -/
abbrev Con (l : Launch) (Z : State) (y : MethodName) (bytes : ByteArray) (maxL : Nat) (ret : Option FieldType) (ws : List Jvm.Cond) (rm : Room) (as : Array Value) (h0 : Heap) (Q : Option Value → Heap → List Loc → Prop) : Prop :=
  MetFree l y (head1 (Jvm.Cond.code y bytes maxL ret :: ws) rm) (fun a U => a = as ∧ Z.Warmed39 U.vm ∧ U.heap = h0) (fun _ _ _ _ _ => True) (fun _ U o U' => ∃ v L, o = .returned v ∧ Q v U'.heap L ∧ FrameEnd U o U' L rm.cells rm.slots)
theorem Con.mk {y : MethodName} {bytes : ByteArray} {maxL : Nat} {ret : Option FieldType} {ws : List Jvm.Cond} {rm : Room} {as : Array Value} {h0 : Heap} {Q : Option Value → Heap → List Loc → Prop} (hp : plainFor y = true)
    (body : ∀ (p : Program) (e : Env) (s : State) (m : MethodId) (below : List Frame) (meth : Method) (c : Code) (T : State), p.tables.exec = Jvm.exec → c.code = bytes → c.maxLocals = maxL → s.vm.findClass y.cls = some m.cls → meth.name = y.name → meth.sig.returnType = ret → meth.locks = false → Z.Warmed39 s.vm →
      Stand p l e rm s m as below meth c T [] 0 0 → T.heap = h0 → Go p e below s rm Q (T.setTop (entryFrame m as maxL))) : Con l Z y bytes maxL ret ws rm as h0 Q := by
  refine MetFree.of_bodySF hp hisR ?_
  intro p e s m args below meth c s₁ Bd hml0 hP hK
  obtain ⟨rfl, hZ, hh⟩ := hP
  exact body p e s m below meth c s₁ Bd.exec Bd.bytes hml0 (findClass_of_methodNamed Bd.named) (name_of_methodNamed Bd.named Bd.method).1 Bd.returns Bd.notSynchronized hZ (Stand.of_body Bd) (by rw [← hh, Bd.state]; rfl)
theorem Go.cast {rm : Room} {Q : Option Value → Heap → List Loc → Prop} {f f' : JFrame} (q : f = f') (g : Go p e below s rm Q (T.setTop f')) : Go p e below s rm Q (T.setTop f) := q ▸ g
/-! calls -/
theorem callSt (X : Stand p l e R s m args below meth c T locs cells slots) (hx : p.tables.exec = Jvm.exec) (hZ : Z.Warmed39 s.vm) {own : String} {index : Nat} {y : MethodName} {bytes : ByteArray} {maxL : Nat} {ret : Option FieldType} {rm : Room} {W : Nat} {Q : Option Value → Heap → List Loc → Prop} {argsL rest : List Value}
    (hown : s.vm.findClass own = some m.cls) (w1 : (Jvm.Cond.methodLink own index y).before a0 Z = true) (w2 : (Jvm.Cond.static y).before a0 Z = true) (w3 : (Jvm.Cond.initialized y.cls).before a0 Z = true) (w4 : (Jvm.Cond.code y bytes maxL ret).before a0 Z = true) (hy : y.cls ≠ "java/lang/invoke/MethodHandle" ∧ y.cls ≠ "java/lang/invoke/VarHandle")
    (eT : T.heap = h) (hM : Con l Z y bytes maxL ret [] rm argsL.toArray h Q) (hf : rm.frames + 1 ≤ R.frames) (hl : W + (maxL + 11) + rm.locals ≤ R.locals) {sig : MethodDescriptor} (hpd : parseMethodDescriptor y.desc = some sig) (hlen : argsL.length = sig.parameters.length)
    {g : JFrame} (hg : g.method = m) (hsize : g.locals.size = c.maxLocals) (hstack : g.stack = argsL.reverse ++ rest) (hW : 2 * g.monitorRoom + (rest.map fun v => v.category).sum ≤ W) (hdg : decode c.code g.pc = .ok (.invokestatic index, 3)) (hc : cells + rm.cells ≤ R.cells) (hs : slots + rm.slots ≤ R.slots) :
    ∃ (v : Option Value) (T' : State) (h' : Heap) (L : List Loc), Stand p l e R s m args below meth c T' (locs ++ L) (cells + rm.cells) (slots + rm.slots) ∧ T'.heap = h' ∧ Q v h' L ∧ ∀ t, Steps p.tables e below (T'.setTop { g with pc := g.pc + 3, stack := v.toList ++ rest }) t → Steps p.tables e below (T.setTop g) t := by
  obtain ⟨v, _, ⟨T1, L1, k1, n1⟩, -, X1, ⟨Lc, hQ, l1, y1, z1⟩, st⟩ := Jvm.LawKit.callS X hx (y := y) hown (mvT hZ w1) (mvT hZ w2) (mvT hZ w3) (mvT hZ w4) hy (backOf (W := W) (Z := Z) (a0 := a0) (h := h) hM hZ w4 w3 hf hl) (g := g) hg hsize (argsL := argsL) (rest := rest) (fun sg q => by rw [hpd] at q; cases q; exact hlen) hstack hW hdg (fun _ _ => ⟨rfl, eT, hc, hs⟩)
  dsimp only [Pt.U, Pt.locs, Pt.cells, Pt.slots] at X1 l1 y1 z1 st hQ
  subst l1 y1 z1
  exact ⟨v, T1, T1.heap, Lc, X1, rfl, hQ, st⟩
theorem callIn (X : Stand p l e R s m args below meth c T locs cells slots) (hx : p.tables.exec = Jvm.exec) (hZ : Z.Warmed39 s.vm) {own : String} {index : Nat} {y : MethodName} {bytes : ByteArray} {maxL : Nat} {rm : Room} {W : Nat} {Q : Option Value → Heap → List Loc → Prop} {argsL rest : List Value} (hi : y.name = "<init>")
    (hown : s.vm.findClass own = some m.cls) (w1 : (Jvm.Cond.methodLink own index y).before a0 Z = true) (w2 : (Jvm.Cond.instanceMethod y).before a0 Z = true) (w3 : (Jvm.Cond.initialized y.cls).before a0 Z = true) (w4 : (Jvm.Cond.code y bytes maxL none).before a0 Z = true) (hy : y.cls ≠ "java/lang/invoke/MethodHandle" ∧ y.cls ≠ "java/lang/invoke/VarHandle")
    (eT : T.heap = h) (hM : Con l Z y bytes maxL none [] rm (.ref a :: argsL).toArray h Q) (hf : rm.frames + 1 ≤ R.frames) (hl : W + (maxL + 11) + rm.locals ≤ R.locals) {sig : MethodDescriptor} (hpd : parseMethodDescriptor y.desc = some sig) (hlen : argsL.length = sig.parameters.length)
    {g : JFrame} (hg : g.method = m) (hsize : g.locals.size = c.maxLocals) (hstack : g.stack = argsL.reverse ++ .ref a :: rest) (hW : 2 * g.monitorRoom + (rest.map fun v => v.category).sum ≤ W) (hdg : decode c.code g.pc = .ok (.invokespecial index, 3)) (hc : cells + rm.cells ≤ R.cells) (hs : slots + rm.slots ≤ R.slots) :
    ∃ (v : Option Value) (T' : State) (h' : Heap) (L : List Loc), Stand p l e R s m args below meth c T' (locs ++ L) (cells + rm.cells) (slots + rm.slots) ∧ T'.heap = h' ∧ Q v h' L ∧ ∀ t, Steps p.tables e below (T'.setTop { g with pc := g.pc + 3, stack := v.toList ++ rest }) t → Steps p.tables e below (T.setTop g) t := by
  obtain ⟨v, _, ⟨T1, L1, k1, n1⟩, -, X1, ⟨Lc, hQ, l1, y1, z1⟩, st⟩ := X.specialBack hx (y := y) hi hown (mvT hZ w1) (mvT hZ w2) (mvT hZ w4) hy (backOf (W := W) (Z := Z) (a0 := a0) (h := h) hM hZ w4 w3 hf hl) (g := g) hg hsize (Steps.refl _) (a := a) (argsL := argsL) (rest := rest) (fun sg q => by rw [hpd] at q; cases q; exact hlen) hstack hW hdg (fun _ _ => ⟨rfl, eT, hc, hs⟩)
  dsimp only [Pt.U, Pt.locs, Pt.cells, Pt.slots] at X1 l1 y1 z1 st hQ
  subst l1 y1 z1
  exact ⟨v, T1, T1.heap, Lc, X1, rfl, hQ, fun t k => st.trans k⟩
theorem callVi (X : Stand p l e R s m args below meth c T locs cells slots) (hx : p.tables.exec = Jvm.exec) (hZ : Z.Warmed39 s.vm) {own C : String} {index : Nat} {y : MethodName} {bytes : ByteArray} {maxL : Nat} {ret : Option FieldType} {rm : Room} {W : Nat} {Q : Option Value → Heap → List Loc → Prop} {argsL rest : List Value}
    (hown : s.vm.findClass own = some m.cls) (w1 : (Jvm.Cond.methodLink own index y).before a0 Z = true) (wd : (Jvm.Cond.declares y).before a0 Z = true) (ws : (Jvm.Cond.selects C y y).before a0 Z = true) (w2 : (Jvm.Cond.instanceMethod y).before a0 Z = true) (w3 : (Jvm.Cond.initialized y.cls).before a0 Z = true) (w4 : (Jvm.Cond.code y bytes maxL ret).before a0 Z = true) (hy : y.cls ≠ "java/lang/invoke/MethodHandle" ∧ y.cls ≠ "java/lang/invoke/VarHandle")
    (eT : T.heap = h) (E : Exa Z h a C) (hM : Con l Z y bytes maxL ret [] rm (.ref a :: argsL).toArray h Q) (hf : rm.frames + 1 ≤ R.frames) (hl : W + (maxL + 11) + rm.locals ≤ R.locals) {sig : MethodDescriptor} (hpd : parseMethodDescriptor y.desc = some sig) (hlen : argsL.length = sig.parameters.length)
    {g : JFrame} (hg : g.method = m) (hsize : g.locals.size = c.maxLocals) (hstack : g.stack = argsL.reverse ++ .ref a :: rest) (hW : 2 * g.monitorRoom + (rest.map fun v => v.category).sum ≤ W) (hdg : decode c.code g.pc = .ok (.invokevirtual index, 3)) (hc : cells + rm.cells ≤ R.cells) (hs : slots + rm.slots ≤ R.slots) :
    ∃ (v : Option Value) (T' : State) (h' : Heap) (L : List Loc), Stand p l e R s m args below meth c T' (locs ++ L) (cells + rm.cells) (slots + rm.slots) ∧ T'.heap = h' ∧ Q v h' L ∧ ∀ t, Steps p.tables e below (T'.setTop { g with pc := g.pc + 3, stack := v.toList ++ rest }) t → Steps p.tables e below (T.setTop g) t := by
  obtain ⟨cB, kB, q1, q2, q3⟩ := isOf hZ eT E
  obtain ⟨v, _, ⟨T1, L1, k1, n1⟩, -, X1, ⟨Lc, hQ, l1, y1, z1⟩, st⟩ := X.virtualBack hx (y := y) (z := y) hown (mvT hZ w1) (mvT hZ wd) (notFace_of_selects (args := #[]) (mvT hZ ws)) (mvT hZ ws) (mvT hZ w2) hy (backOf (W := W) (Z := Z) (a0 := a0) (h := h) hM hZ w4 w3 hf hl) q1 q3 (g := g) hg hsize (Steps.refl _) (argsL := argsL) (rest := rest) (fun sg q => by rw [hpd] at q; cases q; exact hlen) hstack hW hdg (fun _ _ => ⟨rfl, eT, hc, hs⟩)
  dsimp only [Pt.U, Pt.locs, Pt.cells, Pt.slots] at X1 l1 y1 z1 st hQ
  subst l1 y1 z1
  exact ⟨v, T1, T1.heap, Lc, X1, rfl, hQ, fun t k => st.trans k⟩
theorem callPr (X : Stand p l e R s m args below meth c T locs cells slots) (hx : p.tables.exec = Jvm.exec) (hZ : Z.Warmed39 s.vm) {own : String} {index ni : Nat} {y : MethodName} {bytes : ByteArray} {maxL : Nat} {ret : Option FieldType} {rm : Room} {W : Nat} {Q : Option Value → Heap → List Loc → Prop} {argsL rest : List Value}
    (hown : s.vm.findClass own = some m.cls) (w1 : (Jvm.Cond.methodLink own index y).before a0 Z = true) (w2 : (Jvm.Cond.instanceMethod y).before a0 Z = true) (wi : (Jvm.Cond.instantiable y.cls ni).before a0 Z = true) (wp : (Jvm.Cond.privateMethod y).before a0 Z = true) (w3 : (Jvm.Cond.initialized y.cls).before a0 Z = true) (w4 : (Jvm.Cond.code y bytes maxL ret).before a0 Z = true) (hy : y.cls ≠ "java/lang/invoke/MethodHandle" ∧ y.cls ≠ "java/lang/invoke/VarHandle")
    (eT : T.heap = h) {C : String} (E : Exa Z h a C) (hM : Con l Z y bytes maxL ret [] rm (.ref a :: argsL).toArray h Q) (hf : rm.frames + 1 ≤ R.frames) (hl : W + (maxL + 11) + rm.locals ≤ R.locals) {sig : MethodDescriptor} (hpd : parseMethodDescriptor y.desc = some sig) (hlen : argsL.length = sig.parameters.length)
    {g : JFrame} (hg : g.method = m) (hsize : g.locals.size = c.maxLocals) (hstack : g.stack = argsL.reverse ++ .ref a :: rest) (hW : 2 * g.monitorRoom + (rest.map fun v => v.category).sum ≤ W) (hdg : decode c.code g.pc = .ok (.invokevirtual index, 3)) (hc : cells + rm.cells ≤ R.cells) (hs : slots + rm.slots ≤ R.slots) :
    ∃ (v : Option Value) (T' : State) (h' : Heap) (L : List Loc), Stand p l e R s m args below meth c T' (locs ++ L) (cells + rm.cells) (slots + rm.slots) ∧ T'.heap = h' ∧ Q v h' L ∧ ∀ t, Steps p.tables e below (T'.setTop { g with pc := g.pc + 3, stack := v.toList ++ rest }) t → Steps p.tables e below (T.setTop g) t := by
  obtain ⟨cell, q1, q2⟩ := E.cell
  have wi' : (Jvm.Cond.instantiable y.cls ni).before args s = true := mvT hZ wi
  obtain ⟨cI, kI, i1, i2, i3, i4, -⟩ := Cond.instantiable_spec wi'
  have i5 : kI.isInterface = false := by cases hq : kI.isInterface <;> simp [hq] at i4 ⊢
  have hpriv : s.PrivateAt y := Cond.privateMethod_at (mvP hZ wp (args := args))
  have hinst : (Jvm.Cond.instanceMethod y).before args s = true := mvT hZ w2
  obtain ⟨v, _, ⟨T1, L1, k1, n1⟩, -, X1, ⟨Lc, hQ, l1, y1, z1⟩, st⟩ := X.privateBack hx (y := y) hown (mvT hZ w1) hinst (selects_self_of_private i1 i2 i5 hpriv hinst hy) hpriv (mvT hZ w4) hy (backOf (W := W) (Z := Z) (a0 := a0) (h := h) hM hZ w4 w3 hf hl) (g := g) hg hsize (Steps.refl _) (a := a) (cell := cell) (by rw [eT]; exact q1) q2 (argsL := argsL) (rest := rest) (fun sg q => by rw [hpd] at q; cases q; exact hlen) hstack hW hdg (fun _ _ => ⟨rfl, eT, hc, hs⟩)
  dsimp only [Pt.U, Pt.locs, Pt.cells, Pt.slots] at X1 l1 y1 z1 st hQ
  subst l1 y1 z1
  exact ⟨v, T1, T1.heap, Lc, X1, rfl, hQ, fun t k => st.trans k⟩
/-! arrays of ints, bytes, .. by the list of what they hold -/
def Ai (Z : State) (h : Heap) (a : Addr) (ty : FieldType) (xs : List Int32) : Prop := ∃ (k : ClassId) (z : Int32), Arv Z h a k ty z (xs.map Value.int) (.int 0) ∧ z.toNatClampNeg = xs.length
theorem Ai.lt (A : Ai Z h a ty xs) : a < h.size := by obtain ⟨_, _, q, -⟩ := A; exact q.lt
theorem Ai.ext (A : Ai Z h a ty xs) (E : Ext h h') : Ai Z h' a ty xs := by obtain ⟨k, z, q, r⟩ := A; exact ⟨k, z, q.ext E, r⟩
theorem Ai.other {sl : Nat} {v : Value} (A : Ai Z h a ty xs) (W : Wr h h' b sl v) (ne : a ≠ b) : Ai Z h' a ty xs := by obtain ⟨k, z, q, r⟩ := A; exact ⟨k, z, q.other W ne, r⟩
theorem Ai.keep {ws : List Addr} (A : Ai Z h a ty xs) (K : Keep h h' ws) (nin : a ∉ ws) : Ai Z h' a ty xs := by obtain ⟨k, z, q, r⟩ := A; exact ⟨k, z, q.keep K nin, r⟩
theorem Ai.len (A : Ai Z h a ty xs) : xs.length < 2 ^ 31 := by
  obtain ⟨k, z, ⟨c, -, -, -, hz, -⟩, r⟩ := A
  rw [← r]; exact (back32 hz).2
theorem Ai.open (A : Ai Z h a ty xs) : ∃ c : Cell, Arr Z h a c ty ∧ c.slots.size = xs.length ∧ ∀ (i : Nat) (v : Int32), xs[i]? = some v → c.slots[i]? = some (.int v) := by
  obtain ⟨k, z, ⟨c, A, q1, S, q3, H, G⟩, r⟩ := A
  refine ⟨c, A, S.trans r, fun i v hv => ?_⟩
  have hi : i < xs.length := (List.getElem?_eq_some_iff.mp hv).1
  rw [H i (by rw [S, r]; exact hi)]
  simp [List.getD_eq_getElem?_getD, hv]
theorem Ai.fitsOf {i : Nat} {v : Int32} (A : Ai Z h a ty xs) (hv : xs[i]? = some v) : fits ty (.int v) = true := by
  obtain ⟨k, z, ⟨c, A, q1, S, q3, H, G⟩, r⟩ := A
  have hi : i < xs.length := (List.getElem?_eq_some_iff.mp hv).1
  have := G i (by rw [S, r]; exact hi)
  simpa [List.getD_eq_getElem?_getD, hv] using this
theorem own_in {n : Nat} {j : Int32} (hj : ¬ j < 0) (hi : j.toNatClampNeg < n) : ¬ (j < 0 ∨ n ≤ j.toNatClampNeg) := fun q => q.elim hj fun r => absurd hi (Nat.not_lt.mpr r)
theorem Ai.load (A : Ai Z h a .int xs) (X : Stand p l e R s m args below meth c T locs cells slots) (hx : p.tables.exec = Jvm.exec) (hZ : Z.Warmed39 s.vm) (eT : T.heap = h) {j v : Int32} (hj : ¬ j < 0) (hv : xs[j.toNatClampNeg]? = some v) {g : JFrame} (hg : g.method = m) {rest : List Value} (hs : g.stack = .int j :: .ref a :: rest) (hd : decode c.code g.pc = .ok (.iaload, 1)) :
    ∀ t, Steps p.tables e below (T.setTop { g with pc := g.pc + 1, stack := .int v :: rest }) t → Steps p.tables e below (T.setTop g) t := by
  obtain ⟨cl, Ar, S, H⟩ := A.open
  exact fun t k => X.iaload hx (j := j) (v := .int v) (by rw [eT]; exact Ar.1) (State.isArrayOf_alike hZ.alike Ar.2.1) Ar.2.2 (own_in hj (by rw [S]; exact (List.getElem?_eq_some_iff.mp hv).1)) (H _ _ hv) hg hs hd t k
theorem Ai.bload (A : Ai Z h a .byte xs) (X : Stand p l e R s m args below meth c T locs cells slots) (hx : p.tables.exec = Jvm.exec) (hZ : Z.Warmed39 s.vm) (eT : T.heap = h) {j v : Int32} (hj : ¬ j < 0) (hv : xs[j.toNatClampNeg]? = some v) {g : JFrame} (hg : g.method = m) {rest : List Value} (hs : g.stack = .int j :: .ref a :: rest) (hd : decode c.code g.pc = .ok (.baload, 1)) :
    ∀ t, Steps p.tables e below (T.setTop { g with pc := g.pc + 1, stack := .int v :: rest }) t → Steps p.tables e below (T.setTop g) t := by
  obtain ⟨cl, Ar, S, H⟩ := A.open
  exact fun t k => X.baloadBytes hx (j := j) (v := .int v) (by rw [eT]; exact Ar.1) (State.isArrayOf_alike hZ.alike Ar.2.1) Ar.2.2 (own_in hj (by rw [S]; exact (List.getElem?_eq_some_iff.mp hv).1)) (H _ _ hv) hg hs hd t k
theorem Ai.length (A : Ai Z h a ty xs) (X : Stand p l e R s m args below meth c T locs cells slots) (hx : p.tables.exec = Jvm.exec) (hZ : Z.Warmed39 s.vm) (eT : T.heap = h) {n : Int32} (hn : xs.length.toInt32 = n) {g : JFrame} (hg : g.method = m) {rest : List Value} (hs : g.stack = .ref a :: rest) (hd : decode c.code g.pc = .ok (.arraylength, 1)) :
    ∀ t, Steps p.tables e below (T.setTop { g with pc := g.pc + 1, stack := .int n :: rest }) t → Steps p.tables e below (T.setTop g) t := by
  obtain ⟨cl, Ar, S, H⟩ := A.open
  subst hn
  rw [← S]
  exact fun t k => X.arraylength hx (by rw [eT]; exact Ar.1) (State.isArrayOf_alike hZ.alike Ar.2.1) hg hs hd t k
theorem Ai.set {j v : Int32} (A : Ai Z h a ty xs) (hf : fits ty (.int v) = true) (W : Wr h h' a j.toNatClampNeg (.int v)) (hi : j.toNatClampNeg < xs.length) : Ai Z h' a ty (xs.set j.toNatClampNeg v) := by
  obtain ⟨k, z, ⟨c, A, q1, S, q3, H, G⟩, r⟩ := A
  refine ⟨k, z, ?_, by simpa using r⟩
  rw [List.map_set]
  exact Arv.set A q1 S q3 H G hf W j.toNatClampNeg rfl (by simpa using hi)
theorem Ai.store (A : Ai Z h a .int xs) (X : Stand p l e R s m args below meth c T locs cells slots) (hx : p.tables.exec = Jvm.exec) (hZ : Z.Warmed39 s.vm) (eT : T.heap = h) {j v : Int32} (hj : ¬ j < 0) (hi : j.toNatClampNeg < xs.length) {g : JFrame} (hg : g.method = m) {rest : List Value} (hs : g.stack = .int v :: .int j :: .ref a :: rest) (hd : decode c.code g.pc = .ok (.iastore, 1)) :
    ∃ T' h', Stand p l e R s m args below meth c T' (locs ++ [⟨a, j.toNatClampNeg⟩]) cells slots ∧ T'.heap = h' ∧ Wr h h' a j.toNatClampNeg (.int v) ∧ Ai Z h' a .int (xs.set j.toNatClampNeg v) ∧
      ∀ t, Steps p.tables e below (T'.setTop { g with pc := g.pc + 1, stack := rest }) t → Steps p.tables e below (T.setTop g) t := by
  obtain ⟨cl, Ar, S, H⟩ := A.open
  obtain ⟨T', h', X', e', W, st⟩ := stI X hx hZ eT Ar (j := j) (own_in hj (by rw [S]; exact hi)) hg hs hd
  exact ⟨T', h', X', e', W, A.set rfl W hi, st⟩
theorem Ai.bstore (A : Ai Z h a .byte xs) (X : Stand p l e R s m args below meth c T locs cells slots) (hx : p.tables.exec = Jvm.exec) (hZ : Z.Warmed39 s.vm) (eT : T.heap = h) {j v : Int32} (hj : ¬ j < 0) (hi : j.toNatClampNeg < xs.length) {g : JFrame} (hg : g.method = m) {rest : List Value} (hs : g.stack = .int v :: .int j :: .ref a :: rest) (hd : decode c.code g.pc = .ok (.bastore, 1)) :
    ∃ T' h', Stand p l e R s m args below meth c T' (locs ++ [⟨a, j.toNatClampNeg⟩]) cells slots ∧ T'.heap = h' ∧ Wr h h' a j.toNatClampNeg (.int v.toInt8.toInt32) ∧ Ai Z h' a .byte (xs.set j.toNatClampNeg v.toInt8.toInt32) ∧
      ∀ t, Steps p.tables e below (T'.setTop { g with pc := g.pc + 1, stack := rest }) t → Steps p.tables e below (T.setTop g) t := by
  obtain ⟨cl, Ar, S, H⟩ := A.open
  obtain ⟨T', h', X', e', W, st⟩ := stB X hx hZ eT Ar (j := j) (own_in hj (by rw [S]; exact hi)) hg hs hd
  exact ⟨T', h', X', e', W, A.set (fits_nar_byte v) W hi, st⟩
theorem Ai.new (X : Stand p l e R s m args below meth c T locs cells slots) (hx : p.tables.exec = Jvm.exec) (hZ : Z.Warmed39 s.vm) {aty : ArrayType} (w : (Jvm.Cond.arrayClass (newarray.typeOf aty)).before a0 Z = true) (hdef : defaultValue (newarray.typeOf aty) = .int 0) (eT : T.heap = h) {n : Int32} (hn : ¬ n < 0) (cap : Nat) (hcap : n.toNatClampNeg ≤ cap) (hb : cap * 8 ≤ 536870912) (hc : cells + 1 ≤ R.cells) (hl : slots + cap ≤ R.slots)
    {g : JFrame} (hg : g.method = m) {rest : List Value} (hs : g.stack = .int n :: rest) (hd : decode c.code g.pc = .ok (.newarray aty, 2)) :
    ∃ T' h' b, Stand p l e R s m args below meth c T' locs (cells + 1) (slots + cap) ∧ T'.heap = h' ∧ b = h.size ∧ Ext h h' ∧ Ai Z h' b (newarray.typeOf aty) (List.replicate n.toNatClampNeg 0) ∧
      ∀ t, Steps p.tables e below (T'.setTop { g with pc := g.pc + 2, stack := .ref b :: rest }) t → Steps p.tables e below (T.setTop g) t := by
  obtain ⟨T', h', k, X', e', E, A, st⟩ := newP X hx hZ w eT (g := g) hg hd hs hn hcap hb hc hl
  refine ⟨T', h', _, X', e', rfl, E, ⟨k, n, ?_, by simp⟩, st⟩
  have V := Arv.new A hn
  rw [hdef] at V
  rw [List.map_replicate]
  exact V.pad (pad_rep [] (.int 0) n.toNatClampNeg)
theorem Ai.newE (X : Stand p l e R s m args below meth c T locs cells slots) (hx : p.tables.exec = Jvm.exec) (hZ : Z.Warmed39 s.vm) {aty : ArrayType} (w : (Jvm.Cond.arrayClass (newarray.typeOf aty)).before a0 Z = true) (hdef : defaultValue (newarray.typeOf aty) = .int 0) (eT : T.heap = h) {n : Int32} (hn : ¬ n < 0) (cap : Nat) (hcap : n.toNatClampNeg ≤ cap) (hb : cap * 8 ≤ 536870912) (hc : cells + 1 ≤ R.cells) (hl : slots + cap ≤ R.slots) {ad : String} (had : "[" ++ (newarray.typeOf aty).toString = ad)
    {g : JFrame} (hg : g.method = m) {rest : List Value} (hs : g.stack = .int n :: rest) (hd : decode c.code g.pc = .ok (.newarray aty, 2)) :
    ∃ T' h' b, Stand p l e R s m args below meth c T' locs (cells + 1) (slots + cap) ∧ T'.heap = h' ∧ b = h.size ∧ Ext h h' ∧ Ai Z h' b (newarray.typeOf aty) (List.replicate n.toNatClampNeg 0) ∧ Exa Z h' b ad ∧
      ∀ t, Steps p.tables e below (T'.setTop { g with pc := g.pc + 2, stack := .ref b :: rest }) t → Steps p.tables e below (T.setTop g) t := by
  obtain ⟨T', h', k, X', e', E, A, Ex, st⟩ := newPE X hx hZ w eT (g := g) hg hd hs hn hcap hb hc hl had
  refine ⟨T', h', _, X', e', rfl, E, ⟨k, n, ?_, by simp⟩, Ex, st⟩
  have V := Arv.new A hn
  rw [hdef] at V
  rw [List.map_replicate]
  exact V.pad (pad_rep [] (.int 0) n.toNatClampNeg)
theorem Ai.copy (X : Stand p l e R s m args below meth c T locs cells slots) (hx : p.tables.exec = Jvm.exec) (hZ : Z.Warmed39 s.vm) {own : String} {index : Nat} (hown : s.vm.findClass own = some m.cls)
    (w1 : (Jvm.Cond.methodLink own index Jvm.Stand.acN).before a0 Z = true) (w2 : (Jvm.Cond.native Jvm.Stand.acN).before a0 Z = true) (w3 : (Jvm.Cond.static Jvm.Stand.acN).before a0 Z = true) (w4 : (Jvm.Cond.initialized "java/lang/System").before a0 Z = true) (eT : T.heap = h)
    {sp dp nn : Int32} (A : Ai Z h a ty xs) (B : Ai Z h b ty ys) (hty : refKind ty = false) (h1 : ¬ sp < 0) (h2 : ¬ dp < 0) (h3 : ¬ nn < 0) (h4 : sp.toNatClampNeg + nn.toNatClampNeg ≤ xs.length) (h5 : dp.toNatClampNeg + nn.toNatClampNeg ≤ ys.length) {n0 : Nat} (N : Fr n0 locs) (ge : n0 ≤ b)
    {g : JFrame} (hg : g.method = m) (hsize : g.locals.size = c.maxLocals) {rest : List Value} (hs : g.stack = .int nn :: .int dp :: .ref b :: .int sp :: .ref a :: rest) (hd : decode c.code g.pc = .ok (.invokestatic index, 3))
    (hf : 1 ≤ R.frames) {W : Nat} (hW : 2 * g.monitorRoom + (rest.map fun v => v.category).sum ≤ W) (hlo : W + (nativeFrameWords "java/lang/System" "arraycopy" 5 + 11) ≤ R.locals) :
    ∃ T' h' L, Stand p l e R s m args below meth c T' L cells slots ∧ T'.heap = h' ∧ Fr n0 L ∧ Keep h h' [b] ∧ Ai Z h' b ty (ys.take dp.toNatClampNeg ++ (xs.drop sp.toNatClampNeg).take nn.toNatClampNeg ++ ys.drop (dp.toNatClampNeg + nn.toNatClampNeg)) ∧
      ∀ t, Steps p.tables e below (T'.setTop { g with pc := g.pc + 3, stack := rest }) t → Steps p.tables e below (T.setTop g) t := by
  obtain ⟨k, z, A, r⟩ := A
  obtain ⟨k', z', B, r'⟩ := B
  obtain ⟨T', h', L, X', e', N', K, V, st⟩ := cpA X hx hZ hown w1 w2 w3 w4 eT A B (Or.inl ⟨rfl, hty⟩) h1 h2 h3 (by rw [r]; exact h4) (by rw [r']; exact h5) rfl (by simpa using h5) N ge hg hsize hs hd hf hW hlo
  refine ⟨T', h', L, X', e', N', K, ⟨k', z', ?_, ?_⟩, st⟩
  · have q : (List.range nn.toNatClampNeg).map (fun i => (xs.map Value.int).getD (sp.toNatClampNeg + i) (.int 0)) = ((xs.drop sp.toNatClampNeg).take nn.toNatClampNeg).map Value.int := by
      apply List.ext_getElem?
      intro i
      by_cases hi : i < nn.toNatClampNeg
      · have h6 : sp.toNatClampNeg + i < xs.length := by omega
        simp [List.getElem?_take, hi, h6, List.getD_eq_getElem?_getD]
      · simp [List.getElem?_take, hi]
    rw [q] at V
    simpa [List.map_append, List.map_take, List.map_drop] using V
  · rw [r']; simp; omega
/-! arrays of longs -/
def Al (Z : State) (h : Heap) (a : Addr) (ls : List Int64) : Prop := ∃ (k : ClassId) (z : Int32), Arv Z h a k .long z (ls.map Value.long) (.long 0) ∧ z.toNatClampNeg = ls.length
theorem Al.lt (A : Al Z h a ls) : a < h.size := by obtain ⟨_, _, q, -⟩ := A; exact q.lt
theorem Al.ext (A : Al Z h a ls) (E : Ext h h') : Al Z h' a ls := by obtain ⟨k, z, q, r⟩ := A; exact ⟨k, z, q.ext E, r⟩
theorem Al.other {sl : Nat} {v : Value} (A : Al Z h a ls) (W : Wr h h' b sl v) (ne : a ≠ b) : Al Z h' a ls := by obtain ⟨k, z, q, r⟩ := A; exact ⟨k, z, q.other W ne, r⟩
theorem Al.keep {ws : List Addr} (A : Al Z h a ls) (K : Keep h h' ws) (nin : a ∉ ws) : Al Z h' a ls := by obtain ⟨k, z, q, r⟩ := A; exact ⟨k, z, q.keep K nin, r⟩
theorem Al.len (A : Al Z h a ls) : ls.length < 2 ^ 31 := by
  obtain ⟨k, z, ⟨c, -, -, -, hz, -⟩, r⟩ := A
  rw [← r]; exact (back32 hz).2
theorem Al.open (A : Al Z h a ls) : ∃ c : Cell, Arr Z h a c .long ∧ c.slots.size = ls.length ∧ ∀ (i : Nat) (v : Int64), ls[i]? = some v → c.slots[i]? = some (.long v) := by
  obtain ⟨k, z, ⟨c, A, q1, S, q3, H, G⟩, r⟩ := A
  refine ⟨c, A, S.trans r, fun i v hv => ?_⟩
  have hi : i < ls.length := (List.getElem?_eq_some_iff.mp hv).1
  rw [H i (by rw [S, r]; exact hi)]
  simp [List.getD_eq_getElem?_getD, hv]
theorem Al.load (A : Al Z h a ls) (X : Stand p l e R s m args below meth c T locs cells slots) (hx : p.tables.exec = Jvm.exec) (hZ : Z.Warmed39 s.vm) (eT : T.heap = h) {j : Int32} {v : Int64} (hj : ¬ j < 0) (hv : ls[j.toNatClampNeg]? = some v) {g : JFrame} (hg : g.method = m) {rest : List Value} (hs : g.stack = .int j :: .ref a :: rest) (hd : decode c.code g.pc = .ok (.laload, 1)) :
    ∀ t, Steps p.tables e below (T.setTop { g with pc := g.pc + 1, stack := .long v :: rest }) t → Steps p.tables e below (T.setTop g) t := by
  obtain ⟨cl, Ar, S, H⟩ := A.open
  exact fun t k => X.laload hx (j := j) (v := .long v) (by rw [eT]; exact Ar.1) (State.isArrayOf_alike hZ.alike Ar.2.1) Ar.2.2 (own_in hj (by rw [S]; exact (List.getElem?_eq_some_iff.mp hv).1)) (H _ _ hv) hg hs hd t k
theorem Al.length (A : Al Z h a ls) (X : Stand p l e R s m args below meth c T locs cells slots) (hx : p.tables.exec = Jvm.exec) (hZ : Z.Warmed39 s.vm) (eT : T.heap = h) {n : Int32} (hn : ls.length.toInt32 = n) {g : JFrame} (hg : g.method = m) {rest : List Value} (hs : g.stack = .ref a :: rest) (hd : decode c.code g.pc = .ok (.arraylength, 1)) :
    ∀ t, Steps p.tables e below (T.setTop { g with pc := g.pc + 1, stack := .int n :: rest }) t → Steps p.tables e below (T.setTop g) t := by
  obtain ⟨cl, Ar, S, H⟩ := A.open
  subst hn
  rw [← S]
  exact fun t k => X.arraylength hx (by rw [eT]; exact Ar.1) (State.isArrayOf_alike hZ.alike Ar.2.1) hg hs hd t k
theorem Al.store (A : Al Z h a ls) (X : Stand p l e R s m args below meth c T locs cells slots) (hx : p.tables.exec = Jvm.exec) (hZ : Z.Warmed39 s.vm) (eT : T.heap = h) {j : Int32} {v : Int64} (hj : ¬ j < 0) (hi : j.toNatClampNeg < ls.length) {g : JFrame} (hg : g.method = m) {rest : List Value} (hs : g.stack = .long v :: .int j :: .ref a :: rest) (hd : decode c.code g.pc = .ok (.lastore, 1)) :
    ∃ T' h', Stand p l e R s m args below meth c T' (locs ++ [⟨a, j.toNatClampNeg⟩]) cells slots ∧ T'.heap = h' ∧ Wr h h' a j.toNatClampNeg (.long v) ∧ Al Z h' a (ls.set j.toNatClampNeg v) ∧
      ∀ t, Steps p.tables e below (T'.setTop { g with pc := g.pc + 1, stack := rest }) t → Steps p.tables e below (T.setTop g) t := by
  obtain ⟨cl, Ar, S, H⟩ := A.open
  obtain ⟨T', h', X', e', W, st⟩ := stJ X hx hZ eT Ar (j := j) (own_in hj (by rw [S]; exact hi)) hg hs hd
  refine ⟨T', h', X', e', W, ?_, st⟩
  obtain ⟨k, z, ⟨c, A, q1, S, q3, H, G⟩, r⟩ := A
  refine ⟨k, z, ?_, by simpa using r⟩
  rw [List.map_set]
  exact Arv.set A q1 S q3 H G rfl W j.toNatClampNeg rfl (by simpa using hi)
theorem Al.new (X : Stand p l e R s m args below meth c T locs cells slots) (hx : p.tables.exec = Jvm.exec) (hZ : Z.Warmed39 s.vm) {aty : ArrayType} (w : (Jvm.Cond.arrayClass (newarray.typeOf aty)).before a0 Z = true) (hdef : aty = .long) (eT : T.heap = h) {n : Int32} (hn : ¬ n < 0) (cap : Nat) (hcap : n.toNatClampNeg ≤ cap) (hb : cap * 8 ≤ 536870912) (hc : cells + 1 ≤ R.cells) (hl : slots + cap ≤ R.slots)
    {g : JFrame} (hg : g.method = m) {rest : List Value} (hs : g.stack = .int n :: rest) (hd : decode c.code g.pc = .ok (.newarray aty, 2)) :
    ∃ T' h' b, Stand p l e R s m args below meth c T' locs (cells + 1) (slots + cap) ∧ T'.heap = h' ∧ b = h.size ∧ Ext h h' ∧ Al Z h' b (List.replicate n.toNatClampNeg 0) ∧
      ∀ t, Steps p.tables e below (T'.setTop { g with pc := g.pc + 2, stack := .ref b :: rest }) t → Steps p.tables e below (T.setTop g) t := by
  obtain ⟨T', h', k, X', e', E, A, st⟩ := newP X hx hZ w eT (g := g) hg hd hs hn hcap hb hc hl
  subst hdef
  refine ⟨T', h', _, X', e', rfl, E, ⟨k, n, ?_, by simp⟩, st⟩
  have V := Arv.new A hn
  rw [List.map_replicate]
  exact V.pad (pad_rep [] (.long 0) n.toNatClampNeg)
theorem own_if1 {P : Prop} [Decidable P] (h : P) : ¬ ((if P then (1 : Int32) else (0 : Int32)) = 0) := by rw [if_pos h]; decide
theorem own_if0 {P : Prop} [Decidable P] (h : ¬ P) : (if P then (1 : Int32) else (0 : Int32)) = 0 := if_neg h
theorem own_ifc {P Q : Prop} [Decidable P] [Decidable Q] (h : P ↔ Q) : (if P then (1 : Int32) else (0 : Int32)) = (if Q then (1 : Int32) else (0 : Int32)) := by
  by_cases p : P
  · rw [if_pos p, if_pos (h.mp p)]
  · rw [if_neg p, if_neg (fun q => p (h.mpr q))]
theorem own_narI {P : Prop} [Decidable P] : nar .boolean (if P then (1 : Int32) else (0 : Int32)) = (if P then (1 : Int32) else (0 : Int32)) := by
  by_cases p : P
  · rw [if_pos p]; rfl
  · rw [if_neg p]; rfl
theorem own_bb (x : Int32) : x.toInt8.toInt32.toInt8.toInt32 = x.toInt8.toInt32 := by simp
end Layer
section Numbers
theorem own_mod (x k : Int32) (hk : 0 < k.toInt) : 0 ≤ ((x &&& (2147483647 : Int32)) % k).toInt ∧ ((x &&& (2147483647 : Int32)) % k).toInt < k.toInt := by
  have h1 := c_and x 2147483647 (by decide)
  have h2 := (c_iremV (x &&& 2147483647) k).1 h1.1 hk
  exact ⟨h2.1, h2.2.1⟩
theorem own_nn {j : Int32} (h : 0 ≤ j.toInt) : ¬ j < 0 := by
  rw [Int32.lt_iff_toInt_lt, show (0 : Int32).toInt = 0 from rfl]; omega
theorem own_nat {j : Int32} {k : Nat} (h : 0 ≤ j.toInt) (h2 : j.toInt < k) : j.toNatClampNeg < k := by
  simp only [Int32.toNatClampNeg]; omega
theorem own_at {xs : List Int32} {i : Nat} (h : i < xs.length) : ∃ v, xs[i]? = some v := ⟨xs[i], List.getElem?_eq_getElem h⟩
end Numbers
theorem own_mn (k : Int32) (n : Nat) (hk : ¬ k < 0) (hn : n < 2 ^ 31) : ¬ (if k < n.toInt32 then k else n.toInt32) < 0 ∧ (if k < n.toInt32 then k else n.toInt32).toNatClampNeg = min k.toNatClampNeg n := by
  have e : n.toInt32.toInt = n := len_toInt hn
  have e2 : n.toInt32.toNatClampNeg = n := by simp only [Int32.toNatClampNeg, e]; rfl
  have ek := nat_of hk
  by_cases h : k < n.toInt32
  · rw [if_pos h]; rw [Int32.lt_iff_toInt_lt, e] at h
    exact ⟨hk, by omega⟩
  · rw [if_neg h]; rw [Int32.lt_iff_toInt_lt, e] at h
    exact ⟨own_nn (by omega), by omega⟩
theorem own_mx (k : Int32) (hk : 0 ≤ k.toInt ∧ k.toInt ≤ 15) : 1 ≤ (if (1 : Int32) < k then k else (1 : Int32)).toInt ∧ (if (1 : Int32) < k then k else (1 : Int32)).toInt ≤ 15 := by
  have e : (1 : Int32).toInt = 1 := rfl
  by_cases h : (1 : Int32) < k
  · rw [if_pos h]; rw [Int32.lt_iff_toInt_lt, e] at h; omega
  · rw [if_neg h]; omega
theorem own_room1 (ys zs : List Int32) (hL : (ys ++ zs).length < 2 ^ 31) : ((ys ++ zs).length.toInt32 - ys.length.toInt32).toInt = zs.length := by
  have h1 : (ys ++ zs).length = ys.length + zs.length := List.length_append
  have e1 : (ys ++ zs).length.toInt32.toInt = (ys ++ zs).length := len_toInt hL
  have e2 : ys.length.toInt32.toInt = ys.length := len_toInt (by omega)
  have h2 := c_isub (ys ++ zs).length.toInt32 ys.length.toInt32
  have h3 := rng32 ((ys ++ zs).length.toInt32 - ys.length.toInt32)
  omega
theorem own_room2 (ys zs : List Int32) (k : Int32) (hk : ¬ k < 0) (hL : (ys ++ zs).length < 2 ^ 31) (hM : zs.length < k.toNatClampNeg → 2 * (ys.length + zs.length) ≤ 16 ∧ ys.length + k.toNatClampNeg ≤ 16) (hlt : zs.length < k.toNatClampNeg) :
    ¬ (if ((ys ++ zs).length.toInt32 * (2 : Int32)) < (ys.length.toInt32 + k) then (ys.length.toInt32 + k) else ((ys ++ zs).length.toInt32 * (2 : Int32))) < 0 ∧ (ys ++ zs).length ≤ (if ((ys ++ zs).length.toInt32 * (2 : Int32)) < (ys.length.toInt32 + k) then (ys.length.toInt32 + k) else ((ys ++ zs).length.toInt32 * (2 : Int32))).toNatClampNeg ∧ ¬ (if ((ys ++ zs).length.toInt32 * (2 : Int32)) < (ys.length.toInt32 + k) then (ys.length.toInt32 + k) else ((ys ++ zs).length.toInt32 * (2 : Int32))) = (ys ++ zs).length.toInt32 ∧ (if ((ys ++ zs).length.toInt32 * (2 : Int32)) < (ys.length.toInt32 + k) then (ys.length.toInt32 + k) else ((ys ++ zs).length.toInt32 * (2 : Int32))).toNatClampNeg ≤ 16 ∧ ys.length + k.toNatClampNeg ≤ (if ((ys ++ zs).length.toInt32 * (2 : Int32)) < (ys.length.toInt32 + k) then (ys.length.toInt32 + k) else ((ys ++ zs).length.toInt32 * (2 : Int32))).toNatClampNeg := by
  obtain ⟨m1, m2⟩ := hM hlt
  have h1 : (ys ++ zs).length = ys.length + zs.length := List.length_append
  have e1 : (ys ++ zs).length.toInt32.toInt = (ys ++ zs).length := len_toInt hL
  have e2 : ys.length.toInt32.toInt = ys.length := len_toInt (by omega)
  have ek := nat_of hk
  have a1 := c_imul (ys ++ zs).length.toInt32 2
  have a2 := c_iadd ys.length.toInt32 k
  have e3 : (2 : Int32).toInt = 2 := rfl
  rw [e3] at a1
  have r1 := rng32 ((ys ++ zs).length.toInt32 * 2); have r2 := rng32 (ys.length.toInt32 + k)
  have b1 : ((ys ++ zs).length.toInt32 * 2).toInt = 2 * (ys ++ zs).length := by omega
  have b2 : (ys.length.toInt32 + k).toInt = ys.length + k.toNatClampNeg := by omega
  generalize hg : (if ((ys ++ zs).length.toInt32 * (2 : Int32)) < (ys.length.toInt32 + k) then (ys.length.toInt32 + k) else ((ys ++ zs).length.toInt32 * (2 : Int32))) = mm
  have hm : (mm.toInt = 2 * (ys ++ zs).length ∨ mm.toInt = ys.length + k.toNatClampNeg) ∧ (ys.length + k.toNatClampNeg : Int) ≤ mm.toInt ∧ 2 * ((ys ++ zs).length : Int) ≤ mm.toInt := by
    by_cases q : ((ys ++ zs).length.toInt32 * (2 : Int32)) < (ys.length.toInt32 + k)
    · rw [if_pos q] at hg; subst hg; rw [Int32.lt_iff_toInt_lt] at q; omega
    · rw [if_neg q] at hg; subst hg; rw [Int32.lt_iff_toInt_lt] at q; omega
  refine ⟨own_nn (by omega), ?_, ?_, ?_, ?_⟩
  · simp only [Int32.toNatClampNeg]; omega
  · intro q; have q := congrArg Int32.toInt q; rw [e1] at q; omega
  · simp only [Int32.toNatClampNeg]; omega
  · simp only [Int32.toNatClampNeg] at *; omega
theorem own_toeq (ys zs : List Int32) (hL : (ys ++ zs).length < 2 ^ 31) (h : ys.length.toInt32 = (ys ++ zs).length.toInt32) : zs = [] := by
  have h1 : (ys ++ zs).length = ys.length + zs.length := List.length_append
  have e1 : (ys ++ zs).length.toInt32.toInt = (ys ++ zs).length := len_toInt hL
  have e2 : ys.length.toInt32.toInt = ys.length := len_toInt (by omega)
  have q := congrArg Int32.toInt h
  exact List.length_eq_zero_iff.mp (by omega)
/-- the four bytes of x written at k -/
def own_si (ys : List Int32) (k : Nat) (x : Int32) : List Int32 := (((ys.set k ((((x.toUInt32 >>> ((24 : Int32) &&& 31).toUInt32).toInt32)).toInt8.toInt32)).set (k + 1) ((((x.toUInt32 >>> ((16 : Int32) &&& 31).toUInt32).toInt32)).toInt8.toInt32)).set (k + 2) ((((x.toUInt32 >>> ((8 : Int32) &&& 31).toUInt32).toInt32)).toInt8.toInt32)).set (k + 3) (x.toInt8.toInt32)
theorem own_bb1 (x : Int32) : x.toInt8.toInt32.toInt8.toInt32 = x.toInt8.toInt32 := by simp
theorem own_setk (k : Int32) (hk : 0 ≤ k.toInt) (h : k.toInt + 3 < 2000) : ¬ (k + 1) < 0 ∧ (k + 1).toNatClampNeg = k.toNatClampNeg + 1 ∧ ¬ (k + 2) < 0 ∧ (k + 2).toNatClampNeg = k.toNatClampNeg + 2 ∧ ¬ (k + 3) < 0 ∧ (k + 3).toNatClampNeg = k.toNatClampNeg + 3 ∧ True ∧ True := by
  have a1 := c_iadd k 1; have a2 := c_iadd k 2; have a3 := c_iadd k 3
  have e1 : (1 : Int32).toInt = 1 := rfl
  have e2 : (2 : Int32).toInt = 2 := rfl
  have e3 : (3 : Int32).toInt = 3 := rfl
  have r1 := rng32 (k + 1); have r2 := rng32 (k + 2); have r3 := rng32 (k + 3)
  refine ⟨own_nn (by omega), ?_, own_nn (by omega), ?_, own_nn (by omega), ?_, trivial, trivial⟩ <;> (simp only [Int32.toNatClampNeg]; omega)
theorem own_natI {j : Int32} (h : 0 ≤ j.toInt) : ∃ n : Nat, j = n.toInt32 ∧ (n : Int) = j.toInt := ⟨j.toNatClampNeg, (back32 (own_nn h)).1.symm, by simp only [Int32.toNatClampNeg]; omega⟩
theorem own_n48 (x : Int32) : 4 ≤ ((4 : Int32) + ((x &&& (7 : Int32)) % (5 : Int32))).toInt ∧ ((4 : Int32) + ((x &&& (7 : Int32)) % (5 : Int32))).toInt ≤ 8 := by
  have h1 := c_and x 7 (by decide)
  have h2 := (c_iremV (x &&& 7) 5).1 h1.1 (by decide)
  have h3 := c_iadd 4 ((x &&& 7) % 5)
  have r := rng32 ((4 : Int32) + ((x &&& 7) % 5))
  have e4 : (4 : Int32).toInt = 4 := rfl
  have e5 : (5 : Int32).toInt = 5 := rfl
  omega
/-- four bytes put together again -/
theorem own_join (x : Int32) : (((((((((x.toUInt32 >>> ((24 : Int32) &&& 31).toUInt32).toInt32).toInt8.toInt32) &&& (255 : Int32)) <<< ((24 : Int32) &&& 31)) ||| (((((x.toUInt32 >>> ((16 : Int32) &&& 31).toUInt32).toInt32).toInt8.toInt32) &&& (255 : Int32)) <<< ((16 : Int32) &&& 31))) ||| (((((x.toUInt32 >>> ((8 : Int32) &&& 31).toUInt32).toInt32).toInt8.toInt32) &&& (255 : Int32)) <<< ((8 : Int32) &&& 31))) ||| ((x.toInt8.toInt32) &&& (255 : Int32)))) = x := by
  have u1 := c_iushr x 24 24 (by decide) (by decide); have u2 := c_iushr x 16 16 (by decide) (by decide); have u3 := c_iushr x 8 8 (by decide) (by decide)
  generalize ((x.toUInt32 >>> ((24 : Int32) &&& 31).toUInt32).toInt32) = y1 at *
  generalize ((x.toUInt32 >>> ((16 : Int32) &&& 31).toUInt32).toInt32) = y2 at *
  generalize ((x.toUInt32 >>> ((8 : Int32) &&& 31).toUInt32).toInt32) = y3 at *
  have b1 := c_i2b y1; have b2 := c_i2b y2; have b3 := c_i2b y3; have b4 := c_i2b x
  generalize y1.toInt8.toInt32 = z1 at *
  generalize y2.toInt8.toInt32 = z2 at *
  generalize y3.toInt8.toInt32 = z3 at *
  generalize x.toInt8.toInt32 = z4 at *
  have m1 := c_mask z1 255 8 (by decide) (by decide); have m2 := c_mask z2 255 8 (by decide) (by decide); have m3 := c_mask z3 255 8 (by decide) (by decide); have m4 := c_mask z4 255 8 (by decide) (by decide)
  generalize z1 &&& 255 = w1 at *
  generalize z2 &&& 255 = w2 at *
  generalize z3 &&& 255 = w3 at *
  generalize z4 &&& 255 = w4 at *
  have s1 := c_ishl w1 24 24 (by decide); have s2 := c_ishl w2 16 16 (by decide); have s3 := c_ishl w3 8 8 (by decide)
  generalize w1 <<< ((24 : Int32) &&& 31) = v1 at *
  generalize w2 <<< ((16 : Int32) &&& 31) = v2 at *
  generalize w3 <<< ((8 : Int32) &&& 31) = v3 at *
  have q24 : ((2 ^ 24 : Nat) : Int) = 16777216 := rfl
  have q16 : ((2 ^ 16 : Nat) : Int) = 65536 := rfl
  have q8 : ((2 ^ 8 : Nat) : Int) = 256 := rfl
  rw [q24] at u1 s1; rw [q16] at u2 s2; rw [q8] at u3 s3 m1 m2 m3 m4
  have rx := rng32 x; have r1 := rng32 v1; have r2 := rng32 v2; have r3 := rng32 v3
  have o1 := c_or v1 v2 24 (by decide) 16777216 rfl (by omega) (by omega) (by omega)
  have ro1 := rng32 (v1 ||| v2)
  have o2 := c_or (v1 ||| v2) v3 16 (by decide) 65536 rfl (by omega) (by omega) (by omega)
  have ro2 := rng32 (v1 ||| v2 ||| v3)
  have o3 := c_or (v1 ||| v2 ||| v3) w4 8 (by decide) 256 rfl (by omega) (by omega) (by omega)
  have ro3 := rng32 (v1 ||| v2 ||| v3 ||| w4)
  exact Int32.toInt_inj.mp (by omega)
theorem own_si_len (ys : List Int32) (k : Nat) (x : Int32) : (own_si ys k x).length = ys.length := by simp [own_si]
theorem own_si_at (ys : List Int32) (k : Nat) (x : Int32) (h : k + 3 < ys.length) : (own_si ys k x)[k]? = some (((x.toUInt32 >>> ((24 : Int32) &&& 31).toUInt32).toInt32).toInt8.toInt32) ∧ (own_si ys k x)[k + 1]? = some (((x.toUInt32 >>> ((16 : Int32) &&& 31).toUInt32).toInt32).toInt8.toInt32) ∧ (own_si ys k x)[k + 2]? = some (((x.toUInt32 >>> ((8 : Int32) &&& 31).toUInt32).toInt32).toInt8.toInt32) ∧ (own_si ys k x)[k + 3]? = some (x.toInt8.toInt32) := by
  have h0 : k < ys.length := by omega
  have h1 : k + 1 < ys.length := by omega
  have h2 : k + 2 < ys.length := by omega
  simp [own_si, List.getElem?_set, h, h0, h1, h2]
theorem own_si_out (ys : List Int32) (k j : Nat) (x : Int32) (h : j < k ∨ k + 4 ≤ j) : (own_si ys k x)[j]? = ys[j]? := by
  have h0 : ¬ k = j := by omega
  have h1 : ¬ k + 1 = j := by omega
  have h2 : ¬ k + 2 = j := by omega
  have h3 : ¬ k + 3 = j := by omega
  simp [own_si, List.getElem?_set, h0, h1, h2, h3]
theorem w0 {Z : State} {a0 : Array Value} (hw : ∀ d ∈ tables_1, d.before a0 Z = true) : (Jvm.Cond.arrayClass Jvm.ClassFile.FieldType.byte).before a0 Z = true := hw _ (List.mem_of_getElem? (i := 0) rfl)
theorem w1 {Z : State} {a0 : Array Value} (hw : ∀ d ∈ tables_1, d.before a0 Z = true) : (Jvm.Cond.constant "com/example/exactor/exactor/sql/BytesSetIntPinLaw" (7 : Nat) (2147483647 : Int32)).before a0 Z = true := hw _ (List.mem_of_getElem? (i := 1) rfl)
theorem w2 {Z : State} {a0 : Array Value} (hw : ∀ d ∈ tables_1, d.before a0 Z = true) : (Jvm.Cond.classLink "com/example/exactor/exactor/sql/BytesSetIntPinLaw" (8 : Nat) "com/example/exactor/exactor/sql/Bytes").before a0 Z = true := hw _ (List.mem_of_getElem? (i := 2) rfl)
theorem w3 {Z : State} {a0 : Array Value} (hw : ∀ d ∈ tables_1, d.before a0 Z = true) : (Jvm.Cond.instantiable "com/example/exactor/exactor/sql/Bytes" (2 : Nat)).before a0 Z = true := hw _ (List.mem_of_getElem? (i := 3) rfl)
theorem w4 {Z : State} {a0 : Array Value} (hw : ∀ d ∈ tables_1, d.before a0 Z = true) : (Jvm.Cond.initialized "com/example/exactor/exactor/sql/Bytes").before a0 Z = true := hw _ (List.mem_of_getElem? (i := 4) rfl)
theorem w5 {Z : State} {a0 : Array Value} (hw : ∀ d ∈ tables_1, d.before a0 Z = true) : (Jvm.Cond.methodLink "com/example/exactor/exactor/sql/BytesSetIntPinLaw" (10 : Nat) ({ cls := "com/example/exactor/exactor/sql/Bytes", name := "<init>", desc := "(I)V" } : Jvm.MethodName)).before a0 Z = true := hw _ (List.mem_of_getElem? (i := 5) rfl)
theorem w6 {Z : State} {a0 : Array Value} (hw : ∀ d ∈ tables_1, d.before a0 Z = true) : (Jvm.Cond.instanceMethod ({ cls := "com/example/exactor/exactor/sql/Bytes", name := "<init>", desc := "(I)V" } : Jvm.MethodName)).before a0 Z = true := hw _ (List.mem_of_getElem? (i := 6) rfl)
theorem w7 {Z : State} {a0 : Array Value} (hw : ∀ d ∈ tables_1, d.before a0 Z = true) : (Jvm.Cond.code ({ cls := "com/example/exactor/exactor/sql/Bytes", name := "<init>", desc := "(I)V" } : Jvm.MethodName) prog_53_method_2_code (2 : Nat) (Option.none : Option Jvm.ClassFile.FieldType)).before a0 Z = true := hw _ (List.mem_of_getElem? (i := 7) rfl)
theorem w8 {Z : State} {a0 : Array Value} (hw : ∀ d ∈ tables_1, d.before a0 Z = true) : (Jvm.Cond.methodLink "com/example/exactor/exactor/sql/Bytes" (7 : Nat) ({ cls := "java/lang/Object", name := "<init>", desc := "()V" } : Jvm.MethodName)).before a0 Z = true := hw _ (List.mem_of_getElem? (i := 8) rfl)
theorem w9 {Z : State} {a0 : Array Value} (hw : ∀ d ∈ tables_1, d.before a0 Z = true) : (Jvm.Cond.instanceMethod ({ cls := "java/lang/Object", name := "<init>", desc := "()V" } : Jvm.MethodName)).before a0 Z = true := hw _ (List.mem_of_getElem? (i := 9) rfl)
theorem w10 {Z : State} {a0 : Array Value} (hw : ∀ d ∈ tables_1, d.before a0 Z = true) : (Jvm.Cond.code ({ cls := "java/lang/Object", name := "<init>", desc := "()V" } : Jvm.MethodName) object_method_1_code (1 : Nat) (Option.none : Option Jvm.ClassFile.FieldType)).before a0 Z = true := hw _ (List.mem_of_getElem? (i := 10) rfl)
theorem w11 {Z : State} {a0 : Array Value} (hw : ∀ d ∈ tables_1, d.before a0 Z = true) : (Jvm.Cond.methodLink "com/example/exactor/exactor/sql/Bytes" (12 : Nat) ({ cls := "java/lang/Math", name := "max", desc := "(II)I" } : Jvm.MethodName)).before a0 Z = true := hw _ (List.mem_of_getElem? (i := 11) rfl)
theorem w12 {Z : State} {a0 : Array Value} (hw : ∀ d ∈ tables_1, d.before a0 Z = true) : (Jvm.Cond.static ({ cls := "java/lang/Math", name := "max", desc := "(II)I" } : Jvm.MethodName)).before a0 Z = true := hw _ (List.mem_of_getElem? (i := 12) rfl)
theorem w13 {Z : State} {a0 : Array Value} (hw : ∀ d ∈ tables_1, d.before a0 Z = true) : (Jvm.Cond.initialized "java/lang/Math").before a0 Z = true := hw _ (List.mem_of_getElem? (i := 13) rfl)
theorem w14 {Z : State} {a0 : Array Value} (hw : ∀ d ∈ tables_1, d.before a0 Z = true) : (Jvm.Cond.code ({ cls := "java/lang/Math", name := "max", desc := "(II)I" } : Jvm.MethodName) jdk_29_method_65_code (2 : Nat) (Option.some Jvm.ClassFile.FieldType.int)).before a0 Z = true := hw _ (List.mem_of_getElem? (i := 14) rfl)
theorem w15 {Z : State} {a0 : Array Value} (hw : ∀ d ∈ tables_1, d.before a0 Z = true) : (Jvm.Cond.fieldLink "com/example/exactor/exactor/sql/Bytes" (18 : Nat) "com/example/exactor/exactor/sql/Bytes" "array" "[B").before a0 Z = true := hw _ (List.mem_of_getElem? (i := 15) rfl)
theorem w16 {Z : State} {a0 : Array Value} (hw : ∀ d ∈ tables_1, d.before a0 Z = true) : (Jvm.Cond.lays "com/example/exactor/exactor/sql/Bytes" "com/example/exactor/exactor/sql/Bytes" "array" "[B").before a0 Z = true := hw _ (List.mem_of_getElem? (i := 16) rfl)
theorem w17 {Z : State} {a0 : Array Value} (hw : ∀ d ∈ tables_1, d.before a0 Z = true) : (Jvm.Cond.methodLink "com/example/exactor/exactor/sql/BytesSetIntPinLaw" (13 : Nat) ({ cls := "com/example/exactor/exactor/sql/Bytes", name := "write", desc := "([BII)V" } : Jvm.MethodName)).before a0 Z = true := hw _ (List.mem_of_getElem? (i := 17) rfl)
theorem w18 {Z : State} {a0 : Array Value} (hw : ∀ d ∈ tables_1, d.before a0 Z = true) : (Jvm.Cond.declares ({ cls := "com/example/exactor/exactor/sql/Bytes", name := "write", desc := "([BII)V" } : Jvm.MethodName)).before a0 Z = true := hw _ (List.mem_of_getElem? (i := 18) rfl)
theorem w19 {Z : State} {a0 : Array Value} (hw : ∀ d ∈ tables_1, d.before a0 Z = true) : (Jvm.Cond.instanceMethod ({ cls := "com/example/exactor/exactor/sql/Bytes", name := "write", desc := "([BII)V" } : Jvm.MethodName)).before a0 Z = true := hw _ (List.mem_of_getElem? (i := 19) rfl)
theorem w20 {Z : State} {a0 : Array Value} (hw : ∀ d ∈ tables_1, d.before a0 Z = true) : (Jvm.Cond.selects "com/example/exactor/exactor/sql/Bytes" ({ cls := "com/example/exactor/exactor/sql/Bytes", name := "write", desc := "([BII)V" } : Jvm.MethodName) ({ cls := "com/example/exactor/exactor/sql/Bytes", name := "write", desc := "([BII)V" } : Jvm.MethodName)).before a0 Z = true := hw _ (List.mem_of_getElem? (i := 20) rfl)
theorem w21 {Z : State} {a0 : Array Value} (hw : ∀ d ∈ tables_1, d.before a0 Z = true) : (Jvm.Cond.code ({ cls := "com/example/exactor/exactor/sql/Bytes", name := "write", desc := "([BII)V" } : Jvm.MethodName) prog_53_method_11_code (4 : Nat) (Option.none : Option Jvm.ClassFile.FieldType)).before a0 Z = true := hw _ (List.mem_of_getElem? (i := 21) rfl)
theorem w22 {Z : State} {a0 : Array Value} (hw : ∀ d ∈ tables_1, d.before a0 Z = true) : (Jvm.Cond.methodLink "com/example/exactor/exactor/sql/Bytes" (26 : Nat) ({ cls := "com/example/exactor/exactor/sql/Bytes", name := "room", desc := "(I)V" } : Jvm.MethodName)).before a0 Z = true := hw _ (List.mem_of_getElem? (i := 22) rfl)
theorem w23 {Z : State} {a0 : Array Value} (hw : ∀ d ∈ tables_1, d.before a0 Z = true) : (Jvm.Cond.instanceMethod ({ cls := "com/example/exactor/exactor/sql/Bytes", name := "room", desc := "(I)V" } : Jvm.MethodName)).before a0 Z = true := hw _ (List.mem_of_getElem? (i := 23) rfl)
theorem w24 {Z : State} {a0 : Array Value} (hw : ∀ d ∈ tables_1, d.before a0 Z = true) : (Jvm.Cond.privateMethod ({ cls := "com/example/exactor/exactor/sql/Bytes", name := "room", desc := "(I)V" } : Jvm.MethodName)).before a0 Z = true := hw _ (List.mem_of_getElem? (i := 24) rfl)
theorem w25 {Z : State} {a0 : Array Value} (hw : ∀ d ∈ tables_1, d.before a0 Z = true) : (Jvm.Cond.code ({ cls := "com/example/exactor/exactor/sql/Bytes", name := "room", desc := "(I)V" } : Jvm.MethodName) prog_53_method_13_code (2 : Nat) (Option.none : Option Jvm.ClassFile.FieldType)).before a0 Z = true := hw _ (List.mem_of_getElem? (i := 25) rfl)
theorem w26 {Z : State} {a0 : Array Value} (hw : ∀ d ∈ tables_1, d.before a0 Z = true) : (Jvm.Cond.fieldLink "com/example/exactor/exactor/sql/Bytes" (22 : Nat) "com/example/exactor/exactor/sql/Bytes" "length" "I").before a0 Z = true := hw _ (List.mem_of_getElem? (i := 26) rfl)
theorem w27 {Z : State} {a0 : Array Value} (hw : ∀ d ∈ tables_1, d.before a0 Z = true) : (Jvm.Cond.lays "com/example/exactor/exactor/sql/Bytes" "com/example/exactor/exactor/sql/Bytes" "length" "I").before a0 Z = true := hw _ (List.mem_of_getElem? (i := 27) rfl)
theorem w28 {Z : State} {a0 : Array Value} (hw : ∀ d ∈ tables_1, d.before a0 Z = true) : (Jvm.Cond.methodLink "com/example/exactor/exactor/sql/Bytes" (94 : Nat) ({ cls := "java/util/Arrays", name := "copyOf", desc := "([BI)[B" } : Jvm.MethodName)).before a0 Z = true := hw _ (List.mem_of_getElem? (i := 28) rfl)
theorem w29 {Z : State} {a0 : Array Value} (hw : ∀ d ∈ tables_1, d.before a0 Z = true) : (Jvm.Cond.static ({ cls := "java/util/Arrays", name := "copyOf", desc := "([BI)[B" } : Jvm.MethodName)).before a0 Z = true := hw _ (List.mem_of_getElem? (i := 29) rfl)
theorem w30 {Z : State} {a0 : Array Value} (hw : ∀ d ∈ tables_1, d.before a0 Z = true) : (Jvm.Cond.initialized "java/util/Arrays").before a0 Z = true := hw _ (List.mem_of_getElem? (i := 30) rfl)
theorem w31 {Z : State} {a0 : Array Value} (hw : ∀ d ∈ tables_1, d.before a0 Z = true) : (Jvm.Cond.code ({ cls := "java/util/Arrays", name := "copyOf", desc := "([BI)[B" } : Jvm.MethodName) jdk_65_method_121_code (3 : Nat) (Option.some (Jvm.ClassFile.FieldType.array Jvm.ClassFile.FieldType.byte))).before a0 Z = true := hw _ (List.mem_of_getElem? (i := 31) rfl)
theorem w32 {Z : State} {a0 : Array Value} (hw : ∀ d ∈ tables_1, d.before a0 Z = true) : (Jvm.Cond.methodLink "java/util/Arrays" (304 : Nat) ({ cls := "java/lang/Math", name := "min", desc := "(II)I" } : Jvm.MethodName)).before a0 Z = true := hw _ (List.mem_of_getElem? (i := 32) rfl)
theorem w33 {Z : State} {a0 : Array Value} (hw : ∀ d ∈ tables_1, d.before a0 Z = true) : (Jvm.Cond.static ({ cls := "java/lang/Math", name := "min", desc := "(II)I" } : Jvm.MethodName)).before a0 Z = true := hw _ (List.mem_of_getElem? (i := 33) rfl)
theorem w34 {Z : State} {a0 : Array Value} (hw : ∀ d ∈ tables_1, d.before a0 Z = true) : (Jvm.Cond.code ({ cls := "java/lang/Math", name := "min", desc := "(II)I" } : Jvm.MethodName) jdk_29_method_69_code (2 : Nat) (Option.some Jvm.ClassFile.FieldType.int)).before a0 Z = true := hw _ (List.mem_of_getElem? (i := 34) rfl)
theorem w35 {Z : State} {a0 : Array Value} (hw : ∀ d ∈ tables_1, d.before a0 Z = true) : (Jvm.Cond.methodLink "java/util/Arrays" (150 : Nat) ({ cls := "java/lang/System", name := "arraycopy", desc := "(Ljava/lang/Object;ILjava/lang/Object;II)V" } : Jvm.MethodName)).before a0 Z = true := hw _ (List.mem_of_getElem? (i := 35) rfl)
theorem w36 {Z : State} {a0 : Array Value} (hw : ∀ d ∈ tables_1, d.before a0 Z = true) : (Jvm.Cond.static ({ cls := "java/lang/System", name := "arraycopy", desc := "(Ljava/lang/Object;ILjava/lang/Object;II)V" } : Jvm.MethodName)).before a0 Z = true := hw _ (List.mem_of_getElem? (i := 36) rfl)
theorem w37 {Z : State} {a0 : Array Value} (hw : ∀ d ∈ tables_1, d.before a0 Z = true) : (Jvm.Cond.initialized "java/lang/System").before a0 Z = true := hw _ (List.mem_of_getElem? (i := 37) rfl)
theorem w38 {Z : State} {a0 : Array Value} (hw : ∀ d ∈ tables_1, d.before a0 Z = true) : (Jvm.Cond.native ({ cls := "java/lang/System", name := "arraycopy", desc := "(Ljava/lang/Object;ILjava/lang/Object;II)V" } : Jvm.MethodName)).before a0 Z = true := hw _ (List.mem_of_getElem? (i := 38) rfl)
theorem w39 {Z : State} {a0 : Array Value} (hw : ∀ d ∈ tables_1, d.before a0 Z = true) : (Jvm.Cond.methodLink "com/example/exactor/exactor/sql/Bytes" (88 : Nat) ({ cls := "java/lang/System", name := "arraycopy", desc := "(Ljava/lang/Object;ILjava/lang/Object;II)V" } : Jvm.MethodName)).before a0 Z = true := hw _ (List.mem_of_getElem? (i := 39) rfl)
theorem w40 {Z : State} {a0 : Array Value} (hw : ∀ d ∈ tables_1, d.before a0 Z = true) : (Jvm.Cond.methodLink "com/example/exactor/exactor/sql/BytesSetIntPinLaw" (17 : Nat) ({ cls := "com/example/exactor/exactor/sql/Bytes", name := "setInt", desc := "(II)V" } : Jvm.MethodName)).before a0 Z = true := hw _ (List.mem_of_getElem? (i := 40) rfl)
theorem w41 {Z : State} {a0 : Array Value} (hw : ∀ d ∈ tables_1, d.before a0 Z = true) : (Jvm.Cond.declares ({ cls := "com/example/exactor/exactor/sql/Bytes", name := "setInt", desc := "(II)V" } : Jvm.MethodName)).before a0 Z = true := hw _ (List.mem_of_getElem? (i := 41) rfl)
theorem w42 {Z : State} {a0 : Array Value} (hw : ∀ d ∈ tables_1, d.before a0 Z = true) : (Jvm.Cond.instanceMethod ({ cls := "com/example/exactor/exactor/sql/Bytes", name := "setInt", desc := "(II)V" } : Jvm.MethodName)).before a0 Z = true := hw _ (List.mem_of_getElem? (i := 42) rfl)
theorem w43 {Z : State} {a0 : Array Value} (hw : ∀ d ∈ tables_1, d.before a0 Z = true) : (Jvm.Cond.selects "com/example/exactor/exactor/sql/Bytes" ({ cls := "com/example/exactor/exactor/sql/Bytes", name := "setInt", desc := "(II)V" } : Jvm.MethodName) ({ cls := "com/example/exactor/exactor/sql/Bytes", name := "setInt", desc := "(II)V" } : Jvm.MethodName)).before a0 Z = true := hw _ (List.mem_of_getElem? (i := 43) rfl)
theorem w44 {Z : State} {a0 : Array Value} (hw : ∀ d ∈ tables_1, d.before a0 Z = true) : (Jvm.Cond.code ({ cls := "com/example/exactor/exactor/sql/Bytes", name := "setInt", desc := "(II)V" } : Jvm.MethodName) prog_53_method_8_code (3 : Nat) (Option.none : Option Jvm.ClassFile.FieldType)).before a0 Z = true := hw _ (List.mem_of_getElem? (i := 44) rfl)
theorem w45 {Z : State} {a0 : Array Value} (hw : ∀ d ∈ tables_1, d.before a0 Z = true) : (Jvm.Cond.methodLink "com/example/exactor/exactor/sql/BytesSetIntPinLaw" (21 : Nat) ({ cls := "com/example/exactor/exactor/sql/Bytes", name := "length", desc := "()I" } : Jvm.MethodName)).before a0 Z = true := hw _ (List.mem_of_getElem? (i := 45) rfl)
theorem w46 {Z : State} {a0 : Array Value} (hw : ∀ d ∈ tables_1, d.before a0 Z = true) : (Jvm.Cond.declares ({ cls := "com/example/exactor/exactor/sql/Bytes", name := "length", desc := "()I" } : Jvm.MethodName)).before a0 Z = true := hw _ (List.mem_of_getElem? (i := 46) rfl)
theorem w47 {Z : State} {a0 : Array Value} (hw : ∀ d ∈ tables_1, d.before a0 Z = true) : (Jvm.Cond.instanceMethod ({ cls := "com/example/exactor/exactor/sql/Bytes", name := "length", desc := "()I" } : Jvm.MethodName)).before a0 Z = true := hw _ (List.mem_of_getElem? (i := 47) rfl)
theorem w48 {Z : State} {a0 : Array Value} (hw : ∀ d ∈ tables_1, d.before a0 Z = true) : (Jvm.Cond.selects "com/example/exactor/exactor/sql/Bytes" ({ cls := "com/example/exactor/exactor/sql/Bytes", name := "length", desc := "()I" } : Jvm.MethodName) ({ cls := "com/example/exactor/exactor/sql/Bytes", name := "length", desc := "()I" } : Jvm.MethodName)).before a0 Z = true := hw _ (List.mem_of_getElem? (i := 48) rfl)
theorem w49 {Z : State} {a0 : Array Value} (hw : ∀ d ∈ tables_1, d.before a0 Z = true) : (Jvm.Cond.code ({ cls := "com/example/exactor/exactor/sql/Bytes", name := "length", desc := "()I" } : Jvm.MethodName) prog_53_method_3_code (1 : Nat) (Option.some Jvm.ClassFile.FieldType.int)).before a0 Z = true := hw _ (List.mem_of_getElem? (i := 49) rfl)
theorem w50 {Z : State} {a0 : Array Value} (hw : ∀ d ∈ tables_1, d.before a0 Z = true) : (Jvm.Cond.methodLink "com/example/exactor/exactor/sql/BytesSetIntPinLaw" (25 : Nat) ({ cls := "com/example/exactor/exactor/sql/Bytes", name := "toArray", desc := "()[B" } : Jvm.MethodName)).before a0 Z = true := hw _ (List.mem_of_getElem? (i := 50) rfl)
theorem w51 {Z : State} {a0 : Array Value} (hw : ∀ d ∈ tables_1, d.before a0 Z = true) : (Jvm.Cond.declares ({ cls := "com/example/exactor/exactor/sql/Bytes", name := "toArray", desc := "()[B" } : Jvm.MethodName)).before a0 Z = true := hw _ (List.mem_of_getElem? (i := 51) rfl)
theorem w52 {Z : State} {a0 : Array Value} (hw : ∀ d ∈ tables_1, d.before a0 Z = true) : (Jvm.Cond.instanceMethod ({ cls := "com/example/exactor/exactor/sql/Bytes", name := "toArray", desc := "()[B" } : Jvm.MethodName)).before a0 Z = true := hw _ (List.mem_of_getElem? (i := 52) rfl)
theorem w53 {Z : State} {a0 : Array Value} (hw : ∀ d ∈ tables_1, d.before a0 Z = true) : (Jvm.Cond.selects "com/example/exactor/exactor/sql/Bytes" ({ cls := "com/example/exactor/exactor/sql/Bytes", name := "toArray", desc := "()[B" } : Jvm.MethodName) ({ cls := "com/example/exactor/exactor/sql/Bytes", name := "toArray", desc := "()[B" } : Jvm.MethodName)).before a0 Z = true := hw _ (List.mem_of_getElem? (i := 53) rfl)
theorem w54 {Z : State} {a0 : Array Value} (hw : ∀ d ∈ tables_1, d.before a0 Z = true) : (Jvm.Cond.code ({ cls := "com/example/exactor/exactor/sql/Bytes", name := "toArray", desc := "()[B" } : Jvm.MethodName) prog_53_method_12_code (1 : Nat) (Option.some (Jvm.ClassFile.FieldType.array Jvm.ClassFile.FieldType.byte))).before a0 Z = true := hw _ (List.mem_of_getElem? (i := 54) rfl)
theorem w55 {Z : State} {a0 : Array Value} (hw : ∀ d ∈ tables_1, d.before a0 Z = true) : (Jvm.Cond.methodLink "com/example/exactor/exactor/sql/BytesSetIntPinLaw" (29 : Nat) ({ cls := "com/example/exactor/exactor/sql/BytesSetIntPinLaw", name := "kept", desc := "([B[BIII)Z" } : Jvm.MethodName)).before a0 Z = true := hw _ (List.mem_of_getElem? (i := 55) rfl)
theorem w56 {Z : State} {a0 : Array Value} (hw : ∀ d ∈ tables_1, d.before a0 Z = true) : (Jvm.Cond.static ({ cls := "com/example/exactor/exactor/sql/BytesSetIntPinLaw", name := "kept", desc := "([B[BIII)Z" } : Jvm.MethodName)).before a0 Z = true := hw _ (List.mem_of_getElem? (i := 56) rfl)
theorem w57 {Z : State} {a0 : Array Value} (hw : ∀ d ∈ tables_1, d.before a0 Z = true) : (Jvm.Cond.initialized "com/example/exactor/exactor/sql/BytesSetIntPinLaw").before a0 Z = true := hw _ (List.mem_of_getElem? (i := 57) rfl)
theorem w58 {Z : State} {a0 : Array Value} (hw : ∀ d ∈ tables_1, d.before a0 Z = true) : (Jvm.Cond.code ({ cls := "com/example/exactor/exactor/sql/BytesSetIntPinLaw", name := "kept", desc := "([B[BIII)Z" } : Jvm.MethodName) method_3_code (5 : Nat) (Option.some Jvm.ClassFile.FieldType.boolean)).before a0 Z = true := hw _ (List.mem_of_getElem? (i := 58) rfl)
theorem pd0 : parseMethodDescriptor "(II)I" = some ⟨[.int, .int], some .int⟩ := by decide +kernel
theorem pd1 : parseMethodDescriptor "([BI)[B" = some ⟨[(.array .byte), .int], some (.array .byte)⟩ := by decide +kernel
theorem pd2 : parseMethodDescriptor "(I)V" = some ⟨[.int], none⟩ := by decide +kernel
theorem pd3 : parseMethodDescriptor "([BII)V" = some ⟨[(.array .byte), .int, .int], none⟩ := by decide +kernel
theorem pd4 : parseMethodDescriptor "(II)V" = some ⟨[.int, .int], none⟩ := by decide +kernel
theorem pd5 : parseMethodDescriptor "()I" = some ⟨[], some .int⟩ := by decide +kernel
theorem pd6 : parseMethodDescriptor "()[B" = some ⟨[], some (.array .byte)⟩ := by decide +kernel
theorem pd7 : parseMethodDescriptor "([B[BIII)Z" = some ⟨[(.array .byte), (.array .byte), .int, .int, .int], some .boolean⟩ := by decide +kernel
theorem pn0 : plainName "java/util/Arrays" = true := by first | (simp [plainName, overriddenIn]; done) | decide +kernel
theorem pn1 : plainName "com/example/exactor/exactor/sql/Bytes" = true := by first | (simp [plainName, overriddenIn]; done) | decide +kernel
theorem pn2 : plainName "com/example/exactor/exactor/sql/BytesSetIntPinLaw" = true := by first | (simp [plainName, overriddenIn]; done) | decide +kernel
theorem d1_0 : decode prog_53_method_2_code 0 = .ok (.aload_n 0, 1) := by decide +kernel
theorem d1_1 : decode prog_53_method_2_code 1 = .ok (.invokespecial 7, 3) := by decide +kernel
theorem d1_4 : decode prog_53_method_2_code 4 = .ok (.aload_n 0, 1) := by decide +kernel
theorem d1_5 : decode prog_53_method_2_code 5 = .ok (.iconst 1, 1) := by decide +kernel
theorem d1_6 : decode prog_53_method_2_code 6 = .ok (.iload_n 1, 1) := by decide +kernel
theorem d1_7 : decode prog_53_method_2_code 7 = .ok (.invokestatic 12, 3) := by decide +kernel
theorem d1_10 : decode prog_53_method_2_code 10 = .ok (.newarray .byte, 2) := by decide +kernel
theorem d1_12 : decode prog_53_method_2_code 12 = .ok (.putfield 18, 3) := by decide +kernel
theorem d1_15 : decode prog_53_method_2_code 15 = .ok (.return_, 1) := by decide +kernel
theorem d3_0 : decode jdk_29_method_65_code 0 = .ok (.iload_n 0, 1) := by decide +kernel
theorem d3_1 : decode jdk_29_method_65_code 1 = .ok (.iload_n 1, 1) := by decide +kernel
theorem d3_2 : decode jdk_29_method_65_code 2 = .ok (.if_icmp .lt 7, 3) := by decide +kernel
theorem d3_5 : decode jdk_29_method_65_code 5 = .ok (.iload_n 0, 1) := by decide +kernel
theorem d3_6 : decode jdk_29_method_65_code 6 = .ok (.goto 4, 3) := by decide +kernel
theorem d3_9 : decode jdk_29_method_65_code 9 = .ok (.iload_n 1, 1) := by decide +kernel
theorem d3_10 : decode jdk_29_method_65_code 10 = .ok (.ireturn, 1) := by decide +kernel
theorem d4_0 : decode prog_53_method_11_code 0 = .ok (.aload_n 0, 1) := by decide +kernel
theorem d4_1 : decode prog_53_method_11_code 1 = .ok (.iload_n 3, 1) := by decide +kernel
theorem d4_2 : decode prog_53_method_11_code 2 = .ok (.invokevirtual 26, 3) := by decide +kernel
theorem d4_5 : decode prog_53_method_11_code 5 = .ok (.aload_n 1, 1) := by decide +kernel
theorem d4_6 : decode prog_53_method_11_code 6 = .ok (.iload_n 2, 1) := by decide +kernel
theorem d4_7 : decode prog_53_method_11_code 7 = .ok (.aload_n 0, 1) := by decide +kernel
theorem d4_8 : decode prog_53_method_11_code 8 = .ok (.getfield 18, 3) := by decide +kernel
theorem d4_11 : decode prog_53_method_11_code 11 = .ok (.aload_n 0, 1) := by decide +kernel
theorem d4_12 : decode prog_53_method_11_code 12 = .ok (.getfield 22, 3) := by decide +kernel
theorem d4_15 : decode prog_53_method_11_code 15 = .ok (.iload_n 3, 1) := by decide +kernel
theorem d4_16 : decode prog_53_method_11_code 16 = .ok (.invokestatic 88, 3) := by decide +kernel
theorem d4_19 : decode prog_53_method_11_code 19 = .ok (.aload_n 0, 1) := by decide +kernel
theorem d4_20 : decode prog_53_method_11_code 20 = .ok (.dup, 1) := by decide +kernel
theorem d4_21 : decode prog_53_method_11_code 21 = .ok (.getfield 22, 3) := by decide +kernel
theorem d4_24 : decode prog_53_method_11_code 24 = .ok (.iload_n 3, 1) := by decide +kernel
theorem d4_25 : decode prog_53_method_11_code 25 = .ok (.iadd, 1) := by decide +kernel
theorem d4_26 : decode prog_53_method_11_code 26 = .ok (.putfield 22, 3) := by decide +kernel
theorem d4_29 : decode prog_53_method_11_code 29 = .ok (.return_, 1) := by decide +kernel
theorem d5_0 : decode prog_53_method_13_code 0 = .ok (.aload_n 0, 1) := by decide +kernel
theorem d5_1 : decode prog_53_method_13_code 1 = .ok (.getfield 18, 3) := by decide +kernel
theorem d5_4 : decode prog_53_method_13_code 4 = .ok (.arraylength, 1) := by decide +kernel
theorem d5_5 : decode prog_53_method_13_code 5 = .ok (.aload_n 0, 1) := by decide +kernel
theorem d5_6 : decode prog_53_method_13_code 6 = .ok (.getfield 22, 3) := by decide +kernel
theorem d5_9 : decode prog_53_method_13_code 9 = .ok (.isub, 1) := by decide +kernel
theorem d5_10 : decode prog_53_method_13_code 10 = .ok (.iload_n 1, 1) := by decide +kernel
theorem d5_11 : decode prog_53_method_13_code 11 = .ok (.if_icmp .ge 30, 3) := by decide +kernel
theorem d5_14 : decode prog_53_method_13_code 14 = .ok (.aload_n 0, 1) := by decide +kernel
theorem d5_15 : decode prog_53_method_13_code 15 = .ok (.aload_n 0, 1) := by decide +kernel
theorem d5_16 : decode prog_53_method_13_code 16 = .ok (.getfield 18, 3) := by decide +kernel
theorem d5_19 : decode prog_53_method_13_code 19 = .ok (.aload_n 0, 1) := by decide +kernel
theorem d5_20 : decode prog_53_method_13_code 20 = .ok (.getfield 18, 3) := by decide +kernel
theorem d5_23 : decode prog_53_method_13_code 23 = .ok (.arraylength, 1) := by decide +kernel
theorem d5_24 : decode prog_53_method_13_code 24 = .ok (.iconst 2, 1) := by decide +kernel
theorem d5_25 : decode prog_53_method_13_code 25 = .ok (.imul, 1) := by decide +kernel
theorem d5_26 : decode prog_53_method_13_code 26 = .ok (.aload_n 0, 1) := by decide +kernel
theorem d5_27 : decode prog_53_method_13_code 27 = .ok (.getfield 22, 3) := by decide +kernel
theorem d5_30 : decode prog_53_method_13_code 30 = .ok (.iload_n 1, 1) := by decide +kernel
theorem d5_31 : decode prog_53_method_13_code 31 = .ok (.iadd, 1) := by decide +kernel
theorem d5_32 : decode prog_53_method_13_code 32 = .ok (.invokestatic 12, 3) := by decide +kernel
theorem d5_35 : decode prog_53_method_13_code 35 = .ok (.invokestatic 94, 3) := by decide +kernel
theorem d5_38 : decode prog_53_method_13_code 38 = .ok (.putfield 18, 3) := by decide +kernel
theorem d5_41 : decode prog_53_method_13_code 41 = .ok (.return_, 1) := by decide +kernel
theorem d6_0 : decode jdk_65_method_121_code 0 = .ok (.iload_n 1, 1) := by decide +kernel
theorem d6_1 : decode jdk_65_method_121_code 1 = .ok (.aload_n 0, 1) := by decide +kernel
theorem d6_2 : decode jdk_65_method_121_code 2 = .ok (.arraylength, 1) := by decide +kernel
theorem d6_3 : decode jdk_65_method_121_code 3 = .ok (.if_icmp .ne 11, 3) := by decide +kernel
theorem d6_14 : decode jdk_65_method_121_code 14 = .ok (.iload_n 1, 1) := by decide +kernel
theorem d6_15 : decode jdk_65_method_121_code 15 = .ok (.newarray .byte, 2) := by decide +kernel
theorem d6_17 : decode jdk_65_method_121_code 17 = .ok (.astore_n 2, 1) := by decide +kernel
theorem d6_18 : decode jdk_65_method_121_code 18 = .ok (.aload_n 0, 1) := by decide +kernel
theorem d6_19 : decode jdk_65_method_121_code 19 = .ok (.iconst 0, 1) := by decide +kernel
theorem d6_20 : decode jdk_65_method_121_code 20 = .ok (.aload_n 2, 1) := by decide +kernel
theorem d6_21 : decode jdk_65_method_121_code 21 = .ok (.iconst 0, 1) := by decide +kernel
theorem d6_22 : decode jdk_65_method_121_code 22 = .ok (.aload_n 0, 1) := by decide +kernel
theorem d6_23 : decode jdk_65_method_121_code 23 = .ok (.arraylength, 1) := by decide +kernel
theorem d6_24 : decode jdk_65_method_121_code 24 = .ok (.iload_n 1, 1) := by decide +kernel
theorem d6_25 : decode jdk_65_method_121_code 25 = .ok (.invokestatic 304, 3) := by decide +kernel
theorem d6_28 : decode jdk_65_method_121_code 28 = .ok (.invokestatic 150, 3) := by decide +kernel
theorem d6_31 : decode jdk_65_method_121_code 31 = .ok (.aload_n 2, 1) := by decide +kernel
theorem d6_32 : decode jdk_65_method_121_code 32 = .ok (.areturn, 1) := by decide +kernel
theorem d7_0 : decode jdk_29_method_69_code 0 = .ok (.iload_n 0, 1) := by decide +kernel
theorem d7_1 : decode jdk_29_method_69_code 1 = .ok (.iload_n 1, 1) := by decide +kernel
theorem d7_2 : decode jdk_29_method_69_code 2 = .ok (.if_icmp .gt 7, 3) := by decide +kernel
theorem d7_5 : decode jdk_29_method_69_code 5 = .ok (.iload_n 0, 1) := by decide +kernel
theorem d7_6 : decode jdk_29_method_69_code 6 = .ok (.goto 4, 3) := by decide +kernel
theorem d7_9 : decode jdk_29_method_69_code 9 = .ok (.iload_n 1, 1) := by decide +kernel
theorem d7_10 : decode jdk_29_method_69_code 10 = .ok (.ireturn, 1) := by decide +kernel
theorem d8_0 : decode prog_53_method_8_code 0 = .ok (.aload_n 0, 1) := by decide +kernel
theorem d8_1 : decode prog_53_method_8_code 1 = .ok (.getfield 18, 3) := by decide +kernel
theorem d8_4 : decode prog_53_method_8_code 4 = .ok (.iload_n 1, 1) := by decide +kernel
theorem d8_5 : decode prog_53_method_8_code 5 = .ok (.iload_n 2, 1) := by decide +kernel
theorem d8_6 : decode prog_53_method_8_code 6 = .ok (.bipush 24, 2) := by decide +kernel
theorem d8_8 : decode prog_53_method_8_code 8 = .ok (.iushr, 1) := by decide +kernel
theorem d8_9 : decode prog_53_method_8_code 9 = .ok (.i2b, 1) := by decide +kernel
theorem d8_10 : decode prog_53_method_8_code 10 = .ok (.bastore, 1) := by decide +kernel
theorem d8_11 : decode prog_53_method_8_code 11 = .ok (.aload_n 0, 1) := by decide +kernel
theorem d8_12 : decode prog_53_method_8_code 12 = .ok (.getfield 18, 3) := by decide +kernel
theorem d8_15 : decode prog_53_method_8_code 15 = .ok (.iload_n 1, 1) := by decide +kernel
theorem d8_16 : decode prog_53_method_8_code 16 = .ok (.iconst 1, 1) := by decide +kernel
theorem d8_17 : decode prog_53_method_8_code 17 = .ok (.iadd, 1) := by decide +kernel
theorem d8_18 : decode prog_53_method_8_code 18 = .ok (.iload_n 2, 1) := by decide +kernel
theorem d8_19 : decode prog_53_method_8_code 19 = .ok (.bipush 16, 2) := by decide +kernel
theorem d8_21 : decode prog_53_method_8_code 21 = .ok (.iushr, 1) := by decide +kernel
theorem d8_22 : decode prog_53_method_8_code 22 = .ok (.i2b, 1) := by decide +kernel
theorem d8_23 : decode prog_53_method_8_code 23 = .ok (.bastore, 1) := by decide +kernel
theorem d8_24 : decode prog_53_method_8_code 24 = .ok (.aload_n 0, 1) := by decide +kernel
theorem d8_25 : decode prog_53_method_8_code 25 = .ok (.getfield 18, 3) := by decide +kernel
theorem d8_28 : decode prog_53_method_8_code 28 = .ok (.iload_n 1, 1) := by decide +kernel
theorem d8_29 : decode prog_53_method_8_code 29 = .ok (.iconst 2, 1) := by decide +kernel
theorem d8_30 : decode prog_53_method_8_code 30 = .ok (.iadd, 1) := by decide +kernel
theorem d8_31 : decode prog_53_method_8_code 31 = .ok (.iload_n 2, 1) := by decide +kernel
theorem d8_32 : decode prog_53_method_8_code 32 = .ok (.bipush 8, 2) := by decide +kernel
theorem d8_34 : decode prog_53_method_8_code 34 = .ok (.iushr, 1) := by decide +kernel
theorem d8_35 : decode prog_53_method_8_code 35 = .ok (.i2b, 1) := by decide +kernel
theorem d8_36 : decode prog_53_method_8_code 36 = .ok (.bastore, 1) := by decide +kernel
theorem d8_37 : decode prog_53_method_8_code 37 = .ok (.aload_n 0, 1) := by decide +kernel
theorem d8_38 : decode prog_53_method_8_code 38 = .ok (.getfield 18, 3) := by decide +kernel
theorem d8_41 : decode prog_53_method_8_code 41 = .ok (.iload_n 1, 1) := by decide +kernel
theorem d8_42 : decode prog_53_method_8_code 42 = .ok (.iconst 3, 1) := by decide +kernel
theorem d8_43 : decode prog_53_method_8_code 43 = .ok (.iadd, 1) := by decide +kernel
theorem d8_44 : decode prog_53_method_8_code 44 = .ok (.iload_n 2, 1) := by decide +kernel
theorem d8_45 : decode prog_53_method_8_code 45 = .ok (.i2b, 1) := by decide +kernel
theorem d8_46 : decode prog_53_method_8_code 46 = .ok (.bastore, 1) := by decide +kernel
theorem d8_47 : decode prog_53_method_8_code 47 = .ok (.return_, 1) := by decide +kernel
theorem d9_0 : decode prog_53_method_3_code 0 = .ok (.aload_n 0, 1) := by decide +kernel
theorem d9_1 : decode prog_53_method_3_code 1 = .ok (.getfield 22, 3) := by decide +kernel
theorem d9_4 : decode prog_53_method_3_code 4 = .ok (.ireturn, 1) := by decide +kernel
theorem d10_0 : decode prog_53_method_12_code 0 = .ok (.aload_n 0, 1) := by decide +kernel
theorem d10_1 : decode prog_53_method_12_code 1 = .ok (.getfield 22, 3) := by decide +kernel
theorem d10_4 : decode prog_53_method_12_code 4 = .ok (.aload_n 0, 1) := by decide +kernel
theorem d10_5 : decode prog_53_method_12_code 5 = .ok (.getfield 18, 3) := by decide +kernel
theorem d10_8 : decode prog_53_method_12_code 8 = .ok (.arraylength, 1) := by decide +kernel
theorem d10_9 : decode prog_53_method_12_code 9 = .ok (.if_icmp .ne 10, 3) := by decide +kernel
theorem d10_12 : decode prog_53_method_12_code 12 = .ok (.aload_n 0, 1) := by decide +kernel
theorem d10_13 : decode prog_53_method_12_code 13 = .ok (.getfield 18, 3) := by decide +kernel
theorem d10_16 : decode prog_53_method_12_code 16 = .ok (.goto 14, 3) := by decide +kernel
theorem d10_19 : decode prog_53_method_12_code 19 = .ok (.aload_n 0, 1) := by decide +kernel
theorem d10_20 : decode prog_53_method_12_code 20 = .ok (.getfield 18, 3) := by decide +kernel
theorem d10_23 : decode prog_53_method_12_code 23 = .ok (.aload_n 0, 1) := by decide +kernel
theorem d10_24 : decode prog_53_method_12_code 24 = .ok (.getfield 22, 3) := by decide +kernel
theorem d10_27 : decode prog_53_method_12_code 27 = .ok (.invokestatic 94, 3) := by decide +kernel
theorem d10_30 : decode prog_53_method_12_code 30 = .ok (.areturn, 1) := by decide +kernel
theorem d11_0 : decode method_3_code 0 = .ok (.iload 4, 2) := by decide +kernel
theorem d11_2 : decode method_3_code 2 = .ok (.iload_n 2, 1) := by decide +kernel
theorem d11_3 : decode method_3_code 3 = .ok (.if_icmp .lt 5, 3) := by decide +kernel
theorem d11_6 : decode method_3_code 6 = .ok (.iconst 1, 1) := by decide +kernel
theorem d11_7 : decode method_3_code 7 = .ok (.ireturn, 1) := by decide +kernel
theorem d11_8 : decode method_3_code 8 = .ok (.iload 4, 2) := by decide +kernel
theorem d11_10 : decode method_3_code 10 = .ok (.iload_n 3, 1) := by decide +kernel
theorem d11_11 : decode method_3_code 11 = .ok (.if_icmp .lt 13, 3) := by decide +kernel
theorem d11_14 : decode method_3_code 14 = .ok (.iload 4, 2) := by decide +kernel
theorem d11_16 : decode method_3_code 16 = .ok (.iload_n 3, 1) := by decide +kernel
theorem d11_17 : decode method_3_code 17 = .ok (.iconst 4, 1) := by decide +kernel
theorem d11_18 : decode method_3_code 18 = .ok (.iadd, 1) := by decide +kernel
theorem d11_19 : decode method_3_code 19 = .ok (.if_icmp .ge 5, 3) := by decide +kernel
theorem d11_22 : decode method_3_code 22 = .ok (.iconst 1, 1) := by decide +kernel
theorem d11_23 : decode method_3_code 23 = .ok (.ireturn, 1) := by decide +kernel
theorem d11_24 : decode method_3_code 24 = .ok (.aload_n 0, 1) := by decide +kernel
theorem d11_25 : decode method_3_code 25 = .ok (.iload 4, 2) := by decide +kernel
theorem d11_27 : decode method_3_code 27 = .ok (.baload, 1) := by decide +kernel
theorem d11_28 : decode method_3_code 28 = .ok (.aload_n 1, 1) := by decide +kernel
theorem d11_29 : decode method_3_code 29 = .ok (.iload 4, 2) := by decide +kernel
theorem d11_31 : decode method_3_code 31 = .ok (.baload, 1) := by decide +kernel
theorem d11_32 : decode method_3_code 32 = .ok (.if_icmp .ne 7, 3) := by decide +kernel
theorem d11_35 : decode method_3_code 35 = .ok (.iconst 1, 1) := by decide +kernel
theorem d11_36 : decode method_3_code 36 = .ok (.goto 4, 3) := by decide +kernel
theorem d11_40 : decode method_3_code 40 = .ok (.ireturn, 1) := by decide +kernel
/-- a Bytes at a, its array at b: ys are the bytes written, zs the rest of the array -/
def BY (Z : State) (h : Heap) (a b : Addr) (ys zs : List Int32) : Prop := Exa Z h a "com/example/exactor/exactor/sql/Bytes" ∧ Fld Z h a "com/example/exactor/exactor/sql/Bytes" "array" "[B" (.ref b) ∧ Fld Z h a "com/example/exactor/exactor/sql/Bytes" "length" "I" (.int ys.length.toInt32) ∧ Ai Z h b .byte (ys ++ zs)
theorem BY.ext {Z : State} {h h' : Heap} {a b : Addr} {ys zs : List Int32} (H : BY Z h a b ys zs) (E : Ext h h') : BY Z h' a b ys zs := ⟨H.1.ext E, H.2.1.ext E, H.2.2.1.ext E, H.2.2.2.ext E⟩
theorem BY.keep {Z : State} {h h' : Heap} {a b : Addr} {ys zs : List Int32} {ws : List Addr} (H : BY Z h a b ys zs) (K : Keep h h' ws) (n : a ∉ ws ∧ b ∉ ws) : BY Z h' a b ys zs := ⟨H.1.keep K, H.2.1.keep K n.1, H.2.2.1.keep K n.1, H.2.2.2.keep K n.2⟩
theorem own_ti {n : Nat} (h : n < 2147483648) : n.toInt32.toInt = n := len_toInt h
theorem own_tn {n : Nat} (h : n < 2147483648) : n.toInt32.toNatClampNeg = n := by simp only [Int32.toNatClampNeg, own_ti h]; rfl
theorem own_tpos {n : Nat} (h : n < 2147483648) : ¬ n.toInt32 < 0 := by rw [Int32.lt_iff_toInt_lt, own_ti h, show (0 : Int32).toInt = 0 from rfl]; omega
theorem own_t1 (n : Nat) : n.toInt32 + (1 : Int32) = (n + 1).toInt32 := (Int32.ofNat_add n 1).symm
theorem own_sub (x y : Int32) (h1 : 0 ≤ y.toInt) (h2 : y.toInt ≤ x.toInt) : (x - y).toInt = x.toInt - y.toInt := by
  have := c_isub x y; have := rng32 x; have := rng32 (x - y); omega
theorem own_add (x y : Int32) (h1 : 0 ≤ x.toInt) (h2 : 0 ≤ y.toInt) (h3 : x.toInt + y.toInt < 2147483648) : (x + y).toInt = x.toInt + y.toInt := by
  have := c_iadd x y; have := rng32 (x + y); omega
theorem own_pos {k : Int32} (h : ¬ k < 0) : k.toInt = k.toNatClampNeg := nat_of h
theorem own_back {k : Int32} (h : ¬ k < 0) : k.toNatClampNeg.toInt32 = k := (back32 h).1
/-- what copyOf leaves -/
theorem own_cpres (xs : List Int32) (kk mm : Nat) (hm : mm = min kk xs.length) : (List.replicate kk (0 : Int32)).take (0 : Int32).toNatClampNeg ++ (xs.drop (0 : Int32).toNatClampNeg).take mm ++ (List.replicate kk (0 : Int32)).drop ((0 : Int32).toNatClampNeg + mm) = xs.take kk ++ List.replicate (kk - xs.length) (0 : Int32) := by
  have e : (0 : Int32).toNatClampNeg = 0 := rfl
  subst hm
  rw [e]
  simp only [List.take_zero, List.nil_append, List.drop_zero, List.drop_replicate, Nat.zero_add]
  congr 1
  · by_cases h : kk ≤ xs.length
    · rw [Nat.min_eq_left h]
    · rw [Nat.min_eq_right (by omega), List.take_of_length_le (by omega), List.take_of_length_le (by omega)]
  · congr 1; omega
theorem own_cpgrow (ys zs : List Int32) (kk : Nat) (h : (ys ++ zs).length ≤ kk) : (ys ++ zs).take kk ++ List.replicate (kk - (ys ++ zs).length) (0 : Int32) = ys ++ (zs ++ List.replicate (kk - (ys ++ zs).length) (0 : Int32)) := by
  rw [List.take_of_length_le h, List.append_assoc]
theorem own_cpcut (ys zs : List Int32) : (ys ++ zs).take ys.length ++ List.replicate (ys.length - (ys ++ zs).length) (0 : Int32) = ys := by
  have e : ys.length - (ys ++ zs).length = 0 := by simp
  rw [e]; simp
theorem own_setat (ys zs : List Int32) (x : Int32) (hl : ys.length < 2147483648) (h : 1 ≤ zs.length) : (ys ++ zs).set (ys.length.toInt32.toNatClampNeg) x = (ys ++ [x]) ++ zs.tail := by
  rw [own_tn hl]
  cases zs with
  | nil => simp at h
  | cons z zs => simp
theorem own_setin (ys zs : List Int32) (i : Nat) (x : Int32) (h : i < ys.length) : (ys ++ zs).set i x = ys.set i x ++ zs := List.set_append_left i x h

theorem ef_by_max (m : MethodId) (x0 : Int32) (x1 : Int32) : entryFrame m #[(.int x0), (.int x1)] 2 = mkF m 0 #[.val (.int x0), .val (.int x1)] [] := by first | (simp [entryFrame, mkF, argsToLocals, Value.category]; done) | rfl
set_option maxRecDepth 65536 in
set_option maxHeartbeats 40000000 in
theorem by_max (l : Launch) (Z : State) (a0 : Array Value) (hw : ∀ d ∈ tables_1, d.before a0 Z = true) (p0 : Int32) (p1 : Int32) (h0 : Heap) (n0 : Nat) (Z0 : n0 ≤ h0.size) :
    Con l Z (⟨"java/lang/Math", "max", "(II)I"⟩ : MethodName) jdk_29_method_65_code 2 (some .int) [] ({ frames := 0, cells := 0, slots := 0, locals := 0 } : Room) #[(.int p0), (.int p1)] h0 (fun v h L => v = some (.int (if p0 < p1 then p1 else p0)) ∧ Fr n0 L ∧ h = h0) := by
  refine Con.mk (Jvm.Free.JP.mathPlain rfl (by decide +kernel)) ?_
  intro p e s m below meth c T0 hx hby hml hown hnm hret hlk hZ X0 e0
  have hown : s.vm.findClass "java/lang/Math" = some m.cls := hown
  have hnm : meth.name = "max" := hnm
  have N0 := Fr.nil n0
  refine Go.cast (ef_by_max m p0 p1) ?_
  refine Go.st (S' := T0.setTop (mkF m 1 #[.val (.int p0), .val (.int p1)] [(.int p0)])) (fun _ k_ => XS.iloadN X0.here hx rfl (hb hby d3_0) rfl k_) ?_
  refine Go.st (S' := T0.setTop (mkF m 2 #[.val (.int p0), .val (.int p1)] [(.int p1), (.int p0)])) (fun _ k_ => XS.iloadN X0.here hx rfl (hb hby d3_1) rfl k_) ?_
  by_cases hc2 : p0 < p1
  · skip
    refine Go.st (S' := T0.setTop (mkF m 9 #[.val (.int p0), .val (.int p1)] [])) (fun _ k_ => XS.icmpYes X0.here hx rfl (pc0 := 2) (pc' := 9) rfl (hb hby d3_2) rfl (tlt hc2).1 (by decide) (by decide) k_) ?_
    refine Go.st (S' := T0.setTop (mkF m 10 #[.val (.int p0), .val (.int p1)] [(.int p1)])) (fun _ k_ => XS.iloadN X0.here hx rfl (hb hby d3_9) rfl k_) ?_
    exact Go.retI X0 hx hret hlk (hb hby d3_10) (by decide) (by decide) (by rw [e0]; exact ⟨by rw [if_pos hc2], N0, rfl⟩)
  · skip
    refine Go.st (S' := T0.setTop (mkF m 5 #[.val (.int p0), .val (.int p1)] [])) (fun _ k_ => XS.icmpNo X0.here hx rfl (hb hby d3_2) rfl (flt hc2).1 k_) ?_
    refine Go.st (S' := T0.setTop (mkF m 6 #[.val (.int p0), .val (.int p1)] [(.int p0)])) (fun _ k_ => XS.iloadN X0.here hx rfl (hb hby d3_5) rfl k_) ?_
    refine Go.st (S' := T0.setTop (mkF m 10 #[.val (.int p0), .val (.int p1)] [(.int p0)])) (fun _ k_ => XS.goto X0.here hx rfl (pc0 := 6) (pc' := 10) rfl (hb hby d3_6) (by decide) (by decide) k_) ?_
    exact Go.retI X0 hx hret hlk (hb hby d3_10) (by decide) (by decide) (by rw [e0]; exact ⟨by rw [if_neg hc2], N0, rfl⟩)
theorem ef_by_min (m : MethodId) (x0 : Int32) (x1 : Int32) : entryFrame m #[(.int x0), (.int x1)] 2 = mkF m 0 #[.val (.int x0), .val (.int x1)] [] := by first | (simp [entryFrame, mkF, argsToLocals, Value.category]; done) | rfl
set_option maxRecDepth 65536 in
set_option maxHeartbeats 40000000 in
theorem by_min (l : Launch) (Z : State) (a0 : Array Value) (hw : ∀ d ∈ tables_1, d.before a0 Z = true) (p0 : Int32) (p1 : Int32) (h0 : Heap) (n0 : Nat) (Z0 : n0 ≤ h0.size) :
    Con l Z (⟨"java/lang/Math", "min", "(II)I"⟩ : MethodName) jdk_29_method_69_code 2 (some .int) [] ({ frames := 0, cells := 0, slots := 0, locals := 0 } : Room) #[(.int p0), (.int p1)] h0 (fun v h L => v = some (.int (if p1 < p0 then p1 else p0)) ∧ Fr n0 L ∧ h = h0) := by
  refine Con.mk (Jvm.Free.JP.mathPlain rfl (by decide +kernel)) ?_
  intro p e s m below meth c T0 hx hby hml hown hnm hret hlk hZ X0 e0
  have hown : s.vm.findClass "java/lang/Math" = some m.cls := hown
  have hnm : meth.name = "min" := hnm
  have N0 := Fr.nil n0
  refine Go.cast (ef_by_min m p0 p1) ?_
  refine Go.st (S' := T0.setTop (mkF m 1 #[.val (.int p0), .val (.int p1)] [(.int p0)])) (fun _ k_ => XS.iloadN X0.here hx rfl (hb hby d7_0) rfl k_) ?_
  refine Go.st (S' := T0.setTop (mkF m 2 #[.val (.int p0), .val (.int p1)] [(.int p1), (.int p0)])) (fun _ k_ => XS.iloadN X0.here hx rfl (hb hby d7_1) rfl k_) ?_
  by_cases hc2 : p1 < p0
  · skip
    refine Go.st (S' := T0.setTop (mkF m 9 #[.val (.int p0), .val (.int p1)] [])) (fun _ k_ => XS.icmpYes X0.here hx rfl (pc0 := 2) (pc' := 9) rfl (hb hby d7_2) rfl (tlt hc2).2.2.1 (by decide) (by decide) k_) ?_
    refine Go.st (S' := T0.setTop (mkF m 10 #[.val (.int p0), .val (.int p1)] [(.int p1)])) (fun _ k_ => XS.iloadN X0.here hx rfl (hb hby d7_9) rfl k_) ?_
    exact Go.retI X0 hx hret hlk (hb hby d7_10) (by decide) (by decide) (by rw [e0]; exact ⟨by rw [if_pos hc2], N0, rfl⟩)
  · skip
    refine Go.st (S' := T0.setTop (mkF m 5 #[.val (.int p0), .val (.int p1)] [])) (fun _ k_ => XS.icmpNo X0.here hx rfl (hb hby d7_2) rfl (flt hc2).2.2.1 k_) ?_
    refine Go.st (S' := T0.setTop (mkF m 6 #[.val (.int p0), .val (.int p1)] [(.int p0)])) (fun _ k_ => XS.iloadN X0.here hx rfl (hb hby d7_5) rfl k_) ?_
    refine Go.st (S' := T0.setTop (mkF m 10 #[.val (.int p0), .val (.int p1)] [(.int p0)])) (fun _ k_ => XS.goto X0.here hx rfl (pc0 := 6) (pc' := 10) rfl (hb hby d7_6) (by decide) (by decide) k_) ?_
    exact Go.retI X0 hx hret hlk (hb hby d7_10) (by decide) (by decide) (by rw [e0]; exact ⟨by rw [if_neg hc2], N0, rfl⟩)
theorem ef_by_copy (m : MethodId) (x0 : Addr) (x1 : Int32) : entryFrame m #[(.ref x0), (.int x1)] 3 = mkF m 0 #[.val (.ref x0), .val (.int x1), .unset] [] := by first | (simp [entryFrame, mkF, argsToLocals, Value.category]; done) | rfl
set_option maxRecDepth 65536 in
set_option maxHeartbeats 40000000 in
theorem by_copy (l : Launch) (Z : State) (a0 : Array Value) (hw : ∀ d ∈ tables_1, d.before a0 Z = true) (b : Addr) (k : Int32) (xs : List Int32) (h0 : Heap) (n0 : Nat) (Z0 : n0 ≤ h0.size) (A_b : Ai Z h0 b .byte xs) (hk : ¬ k < 0) (hne : ¬ k = xs.length.toInt32) (hM : k.toNatClampNeg ≤ 16) :
    Con l Z (⟨"java/util/Arrays", "copyOf", "([BI)[B"⟩ : MethodName) jdk_65_method_121_code 3 (some (.array .byte)) [] ({ frames := 1, cells := 1, slots := 16, locals := 40 } : Room) #[(.ref b), (.int k)] h0 (fun v h L => Fr n0 L ∧ Keep h0 h [] ∧ ∃ r, v = some (.ref r) ∧ h0.size ≤ r ∧ Ai Z h r .byte (xs.take k.toNatClampNeg ++ List.replicate (k.toNatClampNeg - xs.length) 0)) := by
  refine Con.mk (plainFor_of_name pn0) ?_
  intro p e s m below meth c T0 hx hby hml hown hnm hret hlk hZ X0 e0
  have hown : s.vm.findClass "java/util/Arrays" = some m.cls := hown
  have hnm : meth.name = "copyOf" := hnm
  have N0 := Fr.nil n0
  have K0 := Keep.refl h0 []
  refine Go.cast (ef_by_copy m b k) ?_
  refine Go.st (S' := T0.setTop (mkF m 1 #[.val (.ref b), .val (.int k), .unset] [(.int k)])) (fun _ k_ => XS.iloadN X0.here hx rfl (hb hby d6_0) rfl k_) ?_
  refine Go.st (S' := T0.setTop (mkF m 2 #[.val (.ref b), .val (.int k), .unset] [(.ref b), (.int k)])) (fun _ k_ => XS.aloadN X0.here hx rfl (hb hby d6_1) rfl rfl k_) ?_
  refine Go.st (S' := T0.setTop (mkF m 3 #[.val (.ref b), .val (.int k), .unset] [(.int xs.length.toInt32), (.int k)])) (A_b.length X0 hx hZ e0 (n := xs.length.toInt32) rfl (g := (mkF m 2 #[.val (.ref b), .val (.int k), .unset] [(.ref b), (.int k)])) rfl rfl (hb hby d6_2)) ?_
  refine Go.st (S' := T0.setTop (mkF m 14 #[.val (.ref b), .val (.int k), .unset] [])) (fun _ k_ => XS.icmpYes X0.here hx rfl (pc0 := 3) (pc' := 14) rfl (hb hby d6_3) rfl (feq (hne)).2 (by decide) (by decide) k_) ?_
  refine Go.st (S' := T0.setTop (mkF m 15 #[.val (.ref b), .val (.int k), .unset] [(.int k)])) (fun _ k_ => XS.iloadN X0.here hx rfl (hb hby d6_14) rfl k_) ?_
  obtain ⟨T11, h11, b11, X11, e11, q11, E11, A11, st11⟩ := Ai.new X0 hx hZ (aty := .byte) (w0 hw) rfl e0 (n := k) hk 16 hM (by decide) (by decide) (by decide) (g := (mkF m 15 #[.val (.ref b), .val (.int k), .unset] [(.int k)])) rfl rfl (hb hby d6_15)
  have ne_b_b11 : b ≠ b11 := Nat.ne_of_lt (Nat.lt_of_lt_of_le A_b.lt (Nat.le_of_eq q11.symm))
  have g_b11 : n0 ≤ b11 := Nat.le_trans Z0 (Nat.le_of_eq q11.symm)
  have sz_b11 : h0.size ≤ b11 := Nat.le_trans K0.1 (Nat.le_of_eq q11.symm)
  replace A_b := A_b.ext E11
  replace Z0 := Nat.le_trans Z0 E11.1
  replace K0 := K0.ext E11
  have A_b11 : Ai Z h11 b11 .byte (List.replicate k.toNatClampNeg 0) := A11
  refine Go.st (S' := T11.setTop (mkF m 17 #[.val (.ref b), .val (.int k), .unset] [(.ref b11)])) (st11) ?_
  refine Go.st (S' := T11.setTop (mkF m 18 #[.val (.ref b), .val (.int k), .val (.ref b11)] [])) (fun _ k_ => XS.astoreN X11.here hx rfl (hb hby d6_17) rfl rfl (l' := #[.val (.ref b), .val (.int k), .val (.ref b11)]) rfl k_) ?_
  refine Go.st (S' := T11.setTop (mkF m 19 #[.val (.ref b), .val (.int k), .val (.ref b11)] [(.ref b)])) (fun _ k_ => XS.aloadN X11.here hx rfl (hb hby d6_18) rfl rfl k_) ?_
  refine Go.st (S' := T11.setTop (mkF m 20 #[.val (.ref b), .val (.int k), .val (.ref b11)] [(.int (0 : Int32)), (.ref b)])) (fun _ k_ => XS.iconst X11.here hx rfl (hb hby d6_19) k_) ?_
  refine Go.st (S' := T11.setTop (mkF m 21 #[.val (.ref b), .val (.int k), .val (.ref b11)] [(.ref b11), (.int (0 : Int32)), (.ref b)])) (fun _ k_ => XS.aloadN X11.here hx rfl (hb hby d6_20) rfl rfl k_) ?_
  refine Go.st (S' := T11.setTop (mkF m 22 #[.val (.ref b), .val (.int k), .val (.ref b11)] [(.int (0 : Int32)), (.ref b11), (.int (0 : Int32)), (.ref b)])) (fun _ k_ => XS.iconst X11.here hx rfl (hb hby d6_21) k_) ?_
  refine Go.st (S' := T11.setTop (mkF m 23 #[.val (.ref b), .val (.int k), .val (.ref b11)] [(.ref b), (.int (0 : Int32)), (.ref b11), (.int (0 : Int32)), (.ref b)])) (fun _ k_ => XS.aloadN X11.here hx rfl (hb hby d6_22) rfl rfl k_) ?_
  refine Go.st (S' := T11.setTop (mkF m 24 #[.val (.ref b), .val (.int k), .val (.ref b11)] [(.int xs.length.toInt32), (.int (0 : Int32)), (.ref b11), (.int (0 : Int32)), (.ref b)])) (A_b.length X11 hx hZ e11 (n := xs.length.toInt32) rfl (g := (mkF m 23 #[.val (.ref b), .val (.int k), .val (.ref b11)] [(.ref b), (.int (0 : Int32)), (.ref b11), (.int (0 : Int32)), (.ref b)])) rfl rfl (hb hby d6_23)) ?_
  refine Go.st (S' := T11.setTop (mkF m 25 #[.val (.ref b), .val (.int k), .val (.ref b11)] [(.int k), (.int xs.length.toInt32), (.int (0 : Int32)), (.ref b11), (.int (0 : Int32)), (.ref b)])) (fun _ k_ => XS.iloadN X11.here hx rfl (hb hby d6_24) rfl k_) ?_
  obtain ⟨v12, T12, h12, L12, X12, e12, hQ12, st12⟩ := callSt X11 hx hZ hown (w32 hw) (w33 hw) (w13 hw) (w34 hw) (by decide) (W := 4) (argsL := [(.int xs.length.toInt32), (.int k)]) (rest := [(.int (0 : Int32)), (.ref b11), (.int (0 : Int32)), (.ref b)]) e11 (by_min l Z a0 hw xs.length.toInt32 k h11 n0 Z0) (by decide) (by decide) pd0 rfl (g := (mkF m 25 #[.val (.ref b), .val (.int k), .val (.ref b11)] [(.int k), (.int xs.length.toInt32), (.int (0 : Int32)), (.ref b11), (.int (0 : Int32)), (.ref b)])) rfl (by rw [hml]; rfl) rfl (by show 2 * 0 + _ ≤ _; exact Nat.le_of_eq rfl) (hb hby d6_25) (by decide) (by decide)
  obtain ⟨rfl, Nq12, hh12⟩ := hQ12
  rw [hh12] at e12
  have N12 := Fr.app N0 Nq12
  refine Go.st (S' := T12.setTop (mkF m 28 #[.val (.ref b), .val (.int k), .val (.ref b11)] [(.int (if k < xs.length.toInt32 then k else xs.length.toInt32)), (.int (0 : Int32)), (.ref b11), (.int (0 : Int32)), (.ref b)])) (st12) ?_
  have hmn := own_mn k xs.length hk A_b.len
  obtain ⟨mn, q_mn⟩ : ∃ z : Int32, z = (if k < xs.length.toInt32 then k else xs.length.toInt32) := ⟨_, rfl⟩
  rw [← q_mn]
  rw [← q_mn] at hmn
  obtain ⟨T13, h13, L13, X13, e13, N13, K13, A13, st13⟩ := Ai.copy X12 hx hZ hown (w35 hw) (w38 hw) (w36 hw) (w37 hw) e12 (sp := (0 : Int32)) (dp := (0 : Int32)) (nn := mn) A_b A_b11 rfl (by decide) (by decide) hmn.1 (by rw [hmn.2]; exact Nat.le_trans (Nat.le_of_eq (Nat.zero_add _)) (Nat.min_le_right _ _)) (by rw [hmn.2, List.length_replicate]; exact Nat.le_trans (Nat.le_of_eq (Nat.zero_add _)) (Nat.min_le_left _ _)) N12 g_b11 (g := (mkF m 28 #[.val (.ref b), .val (.int k), .val (.ref b11)] [(.int mn), (.int (0 : Int32)), (.ref b11), (.int (0 : Int32)), (.ref b)])) rfl (by rw [hml]; rfl) rfl (hb hby d6_28) (by decide) (W := 0) (by show 2 * 0 + _ ≤ _; exact Nat.le_of_eq rfl) (by decide)
  replace A_b := A_b.keep K13 (ninS ne_b_b11 nin0)
  replace Z0 := Nat.le_trans Z0 K13.1
  replace K0 := K0.trans K13 (allS (Or.inr sz_b11) all0)
  replace A_b11 : Ai Z h13 b11 .byte (xs.take k.toNatClampNeg ++ List.replicate (k.toNatClampNeg - xs.length) 0) := own_cpres xs k.toNatClampNeg mn.toNatClampNeg hmn.2 ▸ A13
  refine Go.st (S' := T13.setTop (mkF m 31 #[.val (.ref b), .val (.int k), .val (.ref b11)] [])) (st13) ?_
  refine Go.st (S' := T13.setTop (mkF m 32 #[.val (.ref b), .val (.int k), .val (.ref b11)] [(.ref b11)])) (fun _ k_ => XS.aloadN X13.here hx rfl (hb hby d6_31) rfl rfl k_) ?_
  exact Go.retR X13 hx hret rfl hlk (hb hby d6_32) (by decide) (by decide) (by rw [e13]; exact ⟨N13, K0, b11, rfl, sz_b11, A_b11⟩)
theorem ef_by_init (m : MethodId) (x0 : Addr) (x1 : Int32) : entryFrame m #[(.ref x0), (.int x1)] 2 = mkF m 0 #[.val (.ref x0), .val (.int x1)] [] := by first | (simp [entryFrame, mkF, argsToLocals, Value.category]; done) | rfl
set_option maxRecDepth 65536 in
set_option maxHeartbeats 40000000 in
theorem by_init (l : Launch) (Z : State) (a0 : Array Value) (hw : ∀ d ∈ tables_1, d.before a0 Z = true) (a : Addr) (k : Int32) (h0 : Heap) (n0 : Nat) (Z0 : n0 ≤ h0.size) (E_a : Exa Z h0 a "com/example/exactor/exactor/sql/Bytes") (F_array_a : Fld Z h0 a "com/example/exactor/exactor/sql/Bytes" "array" "[B" .null) (F_length_a : Fld Z h0 a "com/example/exactor/exactor/sql/Bytes" "length" "I" (.int 0)) (g_a : n0 ≤ a) (hk : 0 ≤ k.toInt ∧ k.toInt ≤ 15) :
    Con l Z (⟨"com/example/exactor/exactor/sql/Bytes", "<init>", "(I)V"⟩ : MethodName) prog_53_method_2_code 2 none [] ({ frames := 1, cells := 1, slots := 15, locals := 20 } : Room) #[(.ref a), (.int k)] h0 (fun v h L => v = none ∧ Fr n0 L ∧ Keep h0 h [a] ∧ ∃ b zs, h0.size ≤ b ∧ BY Z h a b [] zs ∧ 1 ≤ zs.length ∧ zs.length ≤ 15) := by
  refine Con.mk (plainFor_of_name pn1) ?_
  intro p e s m below meth c T0 hx hby hml hown hnm hret hlk hZ X0 e0
  have hown : s.vm.findClass "com/example/exactor/exactor/sql/Bytes" = some m.cls := hown
  have hnm : meth.name = "<init>" := hnm
  have N0 := Fr.nil n0
  have K0 := Keep.refl h0 [a]
  refine Go.cast (ef_by_init m a k) ?_
  refine Go.st (S' := T0.setTop (mkF m 1 #[.val (.ref a), .val (.int k)] [(.ref a)])) (fun _ k_ => XS.aloadN X0.here hx rfl (hb hby d1_0) rfl rfl k_) ?_
  obtain ⟨T11, X11, e11, st11⟩ := initO X0 hx hZ hown (w8 hw) (w9 hw) (w10 hw) e0 (g := (mkF m 1 #[.val (.ref a), .val (.int k)] [(.ref a)])) rfl (by rw [hml]; rfl) rfl (hb hby d1_1) (by decide) (W := 0) (by show 2 * 0 + _ ≤ _; exact Nat.le_of_eq rfl) (by decide)
  refine Go.st (S' := T11.setTop (mkF m 4 #[.val (.ref a), .val (.int k)] [])) (st11) ?_
  refine Go.st (S' := T11.setTop (mkF m 5 #[.val (.ref a), .val (.int k)] [(.ref a)])) (fun _ k_ => XS.aloadN X11.here hx rfl (hb hby d1_4) rfl rfl k_) ?_
  refine Go.st (S' := T11.setTop (mkF m 6 #[.val (.ref a), .val (.int k)] [(.int (1 : Int32)), (.ref a)])) (fun _ k_ => XS.iconst X11.here hx rfl (hb hby d1_5) k_) ?_
  refine Go.st (S' := T11.setTop (mkF m 7 #[.val (.ref a), .val (.int k)] [(.int k), (.int (1 : Int32)), (.ref a)])) (fun _ k_ => XS.iloadN X11.here hx rfl (hb hby d1_6) rfl k_) ?_
  obtain ⟨v12, T12, h12, L12, X12, e12, hQ12, st12⟩ := callSt X11 hx hZ hown (w11 hw) (w12 hw) (w13 hw) (w14 hw) (by decide) (W := 1) (argsL := [(.int (1 : Int32)), (.int k)]) (rest := [(.ref a)]) e11 (by_max l Z a0 hw (1 : Int32) k h0 n0 Z0) (by decide) (by decide) pd0 rfl (g := (mkF m 7 #[.val (.ref a), .val (.int k)] [(.int k), (.int (1 : Int32)), (.ref a)])) rfl (by rw [hml]; rfl) rfl (by show 2 * 0 + _ ≤ _; exact Nat.le_of_eq rfl) (hb hby d1_7) (by decide) (by decide)
  obtain ⟨rfl, Nq12, hh12⟩ := hQ12
  rw [hh12] at e12
  have N12 := Fr.app N0 Nq12
  refine Go.st (S' := T12.setTop (mkF m 10 #[.val (.ref a), .val (.int k)] [(.int (if (1 : Int32) < k then k else (1 : Int32))), (.ref a)])) (st12) ?_
  have hm := own_mx k hk
  obtain ⟨mx, q_mx⟩ : ∃ z : Int32, z = (if (1 : Int32) < k then k else (1 : Int32)) := ⟨_, rfl⟩
  rw [← q_mx]
  rw [← q_mx] at hm
  obtain ⟨T13, h13, b13, X13, e13, q13, E13, A13, st13⟩ := Ai.new X12 hx hZ (aty := .byte) (w0 hw) rfl e12 (n := mx) (own_nn (by omega)) 15 (Nat.le_of_lt_succ (own_nat (by omega) (by omega))) (by decide) (by decide) (by decide) (g := (mkF m 10 #[.val (.ref a), .val (.int k)] [(.int mx), (.ref a)])) rfl rfl (hb hby d1_10)
  have ne_a_b13 : a ≠ b13 := Nat.ne_of_lt (Nat.lt_of_lt_of_le E_a.lt (Nat.le_of_eq q13.symm))
  have g_b13 : n0 ≤ b13 := Nat.le_trans Z0 (Nat.le_of_eq q13.symm)
  have sz_b13 : h0.size ≤ b13 := Nat.le_trans K0.1 (Nat.le_of_eq q13.symm)
  replace E_a := E_a.ext E13
  replace F_array_a := F_array_a.ext E13
  replace F_length_a := F_length_a.ext E13
  replace Z0 := Nat.le_trans Z0 E13.1
  replace K0 := K0.ext E13
  have A_b13 : Ai Z h13 b13 .byte (List.replicate mx.toNatClampNeg 0) := A13
  refine Go.st (S' := T13.setTop (mkF m 12 #[.val (.ref a), .val (.int k)] [(.ref b13), (.ref a)])) (st13) ?_
  obtain ⟨T14, h14, X14, e14, W14, st14⟩ := putF X13 hx hZ hown (host := "") (Or.inl (w15 hw)) Via.refl e13 F_array_a E_a (Or.inl (w16 hw)) (w3 hw) (ty := (.array .byte)) (by decide) rfl rfl (g := (mkF m 12 #[.val (.ref a), .val (.int k)] [(.ref b13), (.ref a)])) rfl rfl (hb hby d1_12)
  replace F_array_a := F_array_a.same W14
  replace E_a := E_a.wr W14
  replace F_length_a := F_length_a.other W14 (Or.inr (slot_ne (Or.inl (w27 hw)) (Or.inl (w16 hw)) (by decide) (t := .int) (t' := (.array .byte)) (by decide) (by decide)))
  replace A_b13 := A_b13.other W14 (Ne.symm ne_a_b13)
  replace Z0 := Nat.le_trans Z0 (Keep.of_wr W14).1
  replace K0 := K0.wr W14 (Or.inl (by simp))
  have N14 := Fr.snoc X14 N12 g_a
  refine Go.st (S' := T14.setTop (mkF m 15 #[.val (.ref a), .val (.int k)] [])) (st14) ?_
  exact Go.retV X14 hx hret hlk (hb hby d1_15) (by decide) (by decide) (by rw [e14]; exact ⟨rfl, N14, K0, b13, List.replicate mx.toNatClampNeg 0, sz_b13, ⟨E_a, F_array_a, F_length_a, A_b13⟩, by rw [List.length_replicate]; simp only [Int32.toNatClampNeg]; omega, by rw [List.length_replicate]; simp only [Int32.toNatClampNeg]; omega⟩)
theorem ef_by_room (m : MethodId) (x0 : Addr) (x1 : Int32) : entryFrame m #[(.ref x0), (.int x1)] 2 = mkF m 0 #[.val (.ref x0), .val (.int x1)] [] := by first | (simp [entryFrame, mkF, argsToLocals, Value.category]; done) | rfl
set_option maxRecDepth 65536 in
set_option maxHeartbeats 40000000 in
theorem by_room (l : Launch) (Z : State) (a0 : Array Value) (hw : ∀ d ∈ tables_1, d.before a0 Z = true) (a b : Addr) (ys zs : List Int32) (k : Int32) (h0 : Heap) (n0 : Nat) (Z0 : n0 ≤ h0.size) (H : BY Z h0 a b ys zs) (ne_a_b : a ≠ b) (g_a : n0 ≤ a) (g_b : n0 ≤ b) (hk : ¬ k < 0) (hM : zs.length < k.toNatClampNeg → 2 * (ys.length + zs.length) ≤ 16 ∧ ys.length + k.toNatClampNeg ≤ 16) :
    Con l Z (⟨"com/example/exactor/exactor/sql/Bytes", "room", "(I)V"⟩ : MethodName) prog_53_method_13_code 2 none [] ({ frames := 2, cells := 1, slots := 16, locals := 60 } : Room) #[(.ref a), (.int k)] h0 (fun v h L => v = none ∧ Fr n0 L ∧ Keep h0 h [a] ∧ ∃ b' zs', (b' = b ∨ h0.size ≤ b') ∧ BY Z h a b' ys zs' ∧ k.toNatClampNeg ≤ zs'.length) := by
  refine Con.mk (plainFor_of_name pn1) ?_
  intro p e s m below meth c T0 hx hby hml hown hnm hret hlk hZ X0 e0
  have hown : s.vm.findClass "com/example/exactor/exactor/sql/Bytes" = some m.cls := hown
  have hnm : meth.name = "room" := hnm
  have N0 := Fr.nil n0
  have K0 := Keep.refl h0 [a]
  refine Go.cast (ef_by_room m a k) ?_
  obtain ⟨E_a, F_array_a, F_length_a, A_b⟩ := H
  have hL := A_b.len
  have hL2 : (ys ++ zs).length = ys.length + zs.length := List.length_append
  refine Go.st (S' := T0.setTop (mkF m 1 #[.val (.ref a), .val (.int k)] [(.ref a)])) (fun _ k_ => XS.aloadN X0.here hx rfl (hb hby d5_0) rfl rfl k_) ?_
  obtain ⟨T11, X11, e11, st11⟩ := getF X0 hx hZ hown (host := "") (Or.inl (w15 hw)) Via.refl e0 F_array_a (g := (mkF m 1 #[.val (.ref a), .val (.int k)] [(.ref a)])) rfl rfl (hb hby d5_1)
  refine Go.st (S' := T11.setTop (mkF m 4 #[.val (.ref a), .val (.int k)] [(.ref b)])) (st11) ?_
  refine Go.st (S' := T11.setTop (mkF m 5 #[.val (.ref a), .val (.int k)] [(.int (ys ++ zs).length.toInt32)])) (A_b.length X11 hx hZ e11 (n := (ys ++ zs).length.toInt32) rfl (g := (mkF m 4 #[.val (.ref a), .val (.int k)] [(.ref b)])) rfl rfl (hb hby d5_4)) ?_
  refine Go.st (S' := T11.setTop (mkF m 6 #[.val (.ref a), .val (.int k)] [(.ref a), (.int (ys ++ zs).length.toInt32)])) (fun _ k_ => XS.aloadN X11.here hx rfl (hb hby d5_5) rfl rfl k_) ?_
  obtain ⟨T12, X12, e12, st12⟩ := getF X11 hx hZ hown (host := "") (Or.inl (w26 hw)) Via.refl e11 F_length_a (g := (mkF m 6 #[.val (.ref a), .val (.int k)] [(.ref a), (.int (ys ++ zs).length.toInt32)])) rfl rfl (hb hby d5_6)
  refine Go.st (S' := T12.setTop (mkF m 9 #[.val (.ref a), .val (.int k)] [(.int ys.length.toInt32), (.int (ys ++ zs).length.toInt32)])) (st12) ?_
  refine Go.st (S' := T12.setTop (mkF m 10 #[.val (.ref a), .val (.int k)] [(.int ((ys ++ zs).length.toInt32 - ys.length.toInt32))])) (fun _ k_ => XS.isub X12.here hx rfl (hb hby d5_9) rfl k_) ?_
  have hd := own_room1 ys zs hL
  refine Go.st (S' := T12.setTop (mkF m 11 #[.val (.ref a), .val (.int k)] [(.int k), (.int ((ys ++ zs).length.toInt32 - ys.length.toInt32))])) (fun _ k_ => XS.iloadN X12.here hx rfl (hb hby d5_10) rfl k_) ?_
  by_cases hc11 : ((ys ++ zs).length.toInt32 - ys.length.toInt32) < k
  · skip
    refine Go.st (S' := T12.setTop (mkF m 14 #[.val (.ref a), .val (.int k)] [])) (fun _ k_ => XS.icmpNo X12.here hx rfl (hb hby d5_11) rfl (tlt hc11).2.1 k_) ?_
    refine Go.st (S' := T12.setTop (mkF m 15 #[.val (.ref a), .val (.int k)] [(.ref a)])) (fun _ k_ => XS.aloadN X12.here hx rfl (hb hby d5_14) rfl rfl k_) ?_
    refine Go.st (S' := T12.setTop (mkF m 16 #[.val (.ref a), .val (.int k)] [(.ref a), (.ref a)])) (fun _ k_ => XS.aloadN X12.here hx rfl (hb hby d5_15) rfl rfl k_) ?_
    obtain ⟨T13, X13, e13, st13⟩ := getF X12 hx hZ hown (host := "") (Or.inl (w15 hw)) Via.refl e12 F_array_a (g := (mkF m 16 #[.val (.ref a), .val (.int k)] [(.ref a), (.ref a)])) rfl rfl (hb hby d5_16)
    refine Go.st (S' := T13.setTop (mkF m 19 #[.val (.ref a), .val (.int k)] [(.ref b), (.ref a)])) (st13) ?_
    refine Go.st (S' := T13.setTop (mkF m 20 #[.val (.ref a), .val (.int k)] [(.ref a), (.ref b), (.ref a)])) (fun _ k_ => XS.aloadN X13.here hx rfl (hb hby d5_19) rfl rfl k_) ?_
    obtain ⟨T14, X14, e14, st14⟩ := getF X13 hx hZ hown (host := "") (Or.inl (w15 hw)) Via.refl e13 F_array_a (g := (mkF m 20 #[.val (.ref a), .val (.int k)] [(.ref a), (.ref b), (.ref a)])) rfl rfl (hb hby d5_20)
    refine Go.st (S' := T14.setTop (mkF m 23 #[.val (.ref a), .val (.int k)] [(.ref b), (.ref b), (.ref a)])) (st14) ?_
    refine Go.st (S' := T14.setTop (mkF m 24 #[.val (.ref a), .val (.int k)] [(.int (ys ++ zs).length.toInt32), (.ref b), (.ref a)])) (A_b.length X14 hx hZ e14 (n := (ys ++ zs).length.toInt32) rfl (g := (mkF m 23 #[.val (.ref a), .val (.int k)] [(.ref b), (.ref b), (.ref a)])) rfl rfl (hb hby d5_23)) ?_
    refine Go.st (S' := T14.setTop (mkF m 25 #[.val (.ref a), .val (.int k)] [(.int (2 : Int32)), (.int (ys ++ zs).length.toInt32), (.ref b), (.ref a)])) (fun _ k_ => XS.iconst X14.here hx rfl (hb hby d5_24) k_) ?_
    refine Go.st (S' := T14.setTop (mkF m 26 #[.val (.ref a), .val (.int k)] [(.int ((ys ++ zs).length.toInt32 * (2 : Int32))), (.ref b), (.ref a)])) (fun _ k_ => XS.imul X14.here hx rfl (hb hby d5_25) rfl k_) ?_
    refine Go.st (S' := T14.setTop (mkF m 27 #[.val (.ref a), .val (.int k)] [(.ref a), (.int ((ys ++ zs).length.toInt32 * (2 : Int32))), (.ref b), (.ref a)])) (fun _ k_ => XS.aloadN X14.here hx rfl (hb hby d5_26) rfl rfl k_) ?_
    obtain ⟨T15, X15, e15, st15⟩ := getF X14 hx hZ hown (host := "") (Or.inl (w26 hw)) Via.refl e14 F_length_a (g := (mkF m 27 #[.val (.ref a), .val (.int k)] [(.ref a), (.int ((ys ++ zs).length.toInt32 * (2 : Int32))), (.ref b), (.ref a)])) rfl rfl (hb hby d5_27)
    refine Go.st (S' := T15.setTop (mkF m 30 #[.val (.ref a), .val (.int k)] [(.int ys.length.toInt32), (.int ((ys ++ zs).length.toInt32 * (2 : Int32))), (.ref b), (.ref a)])) (st15) ?_
    refine Go.st (S' := T15.setTop (mkF m 31 #[.val (.ref a), .val (.int k)] [(.int k), (.int ys.length.toInt32), (.int ((ys ++ zs).length.toInt32 * (2 : Int32))), (.ref b), (.ref a)])) (fun _ k_ => XS.iloadN X15.here hx rfl (hb hby d5_30) rfl k_) ?_
    refine Go.st (S' := T15.setTop (mkF m 32 #[.val (.ref a), .val (.int k)] [(.int (ys.length.toInt32 + k)), (.int ((ys ++ zs).length.toInt32 * (2 : Int32))), (.ref b), (.ref a)])) (fun _ k_ => XS.iadd X15.here hx rfl (hb hby d5_31) rfl k_) ?_
    obtain ⟨v16, T16, h16, L16, X16, e16, hQ16, st16⟩ := callSt X15 hx hZ hown (w11 hw) (w12 hw) (w13 hw) (w14 hw) (by decide) (W := 2) (argsL := [(.int ((ys ++ zs).length.toInt32 * (2 : Int32))), (.int (ys.length.toInt32 + k))]) (rest := [(.ref b), (.ref a)]) e15 (by_max l Z a0 hw ((ys ++ zs).length.toInt32 * (2 : Int32)) (ys.length.toInt32 + k) h0 n0 Z0) (by decide) (by decide) pd0 rfl (g := (mkF m 32 #[.val (.ref a), .val (.int k)] [(.int (ys.length.toInt32 + k)), (.int ((ys ++ zs).length.toInt32 * (2 : Int32))), (.ref b), (.ref a)])) rfl (by rw [hml]; rfl) rfl (by show 2 * 0 + _ ≤ _; exact Nat.le_of_eq rfl) (hb hby d5_32) (by decide) (by decide)
    obtain ⟨rfl, Nq16, hh16⟩ := hQ16
    rw [hh16] at e16
    have N16 := Fr.app N0 Nq16
    refine Go.st (S' := T16.setTop (mkF m 35 #[.val (.ref a), .val (.int k)] [(.int (if ((ys ++ zs).length.toInt32 * (2 : Int32)) < (ys.length.toInt32 + k) then (ys.length.toInt32 + k) else ((ys ++ zs).length.toInt32 * (2 : Int32)))), (.ref b), (.ref a)])) (st16) ?_
    have hg := own_room2 ys zs k hk hL hM (by have q := Int32.lt_iff_toInt_lt.mp hc11; rw [hd, own_pos hk] at q; omega)
    obtain ⟨mm, q_mm⟩ : ∃ z : Int32, z = (if ((ys ++ zs).length.toInt32 * (2 : Int32)) < (ys.length.toInt32 + k) then (ys.length.toInt32 + k) else ((ys ++ zs).length.toInt32 * (2 : Int32))) := ⟨_, rfl⟩
    rw [← q_mm]
    rw [← q_mm] at hg
    obtain ⟨v17, T17, h17, L17, X17, e17, hQ17, st17⟩ := callSt X16 hx hZ hown (w28 hw) (w29 hw) (w30 hw) (w31 hw) (by decide) (W := 1) (argsL := [(.ref b), (.int mm)]) (rest := [(.ref a)]) e16 (by_copy l Z a0 hw b mm (ys ++ zs) h0 n0 Z0 A_b hg.1 hg.2.2.1 hg.2.2.2.1) (by decide) (by decide) pd1 rfl (g := (mkF m 35 #[.val (.ref a), .val (.int k)] [(.int mm), (.ref b), (.ref a)])) rfl (by rw [hml]; rfl) rfl (by show 2 * 0 + _ ≤ _; exact Nat.le_of_eq rfl) (hb hby d5_35) (by decide) (by decide)
    obtain ⟨Nq17, Kq17, r17, rfl, hr17, A_r17⟩ := hQ17
    have N17 := Fr.app N16 Nq17
    have ne_a_r17 : a ≠ r17 := Nat.ne_of_lt (Nat.lt_of_lt_of_le E_a.lt hr17)
    have ne_b_r17 : b ≠ r17 := Nat.ne_of_lt (Nat.lt_of_lt_of_le A_b.lt hr17)
    have g_r17 : n0 ≤ r17 := Nat.le_trans Z0 hr17
    have sz_r17 : h0.size ≤ r17 := Nat.le_trans K0.1 hr17
    replace E_a := E_a.keep Kq17
    replace F_array_a := F_array_a.keep Kq17 nin0
    replace F_length_a := F_length_a.keep Kq17 nin0
    replace A_b := A_b.keep Kq17 nin0
    replace Z0 := Nat.le_trans Z0 Kq17.1
    replace K0 := K0.trans Kq17 all0
    rw [own_cpgrow ys zs mm.toNatClampNeg hg.2.1] at A_r17
    refine Go.st (S' := T17.setTop (mkF m 38 #[.val (.ref a), .val (.int k)] [(.ref r17), (.ref a)])) (st17) ?_
    obtain ⟨T18, h18, X18, e18, W18, st18⟩ := putF X17 hx hZ hown (host := "") (Or.inl (w15 hw)) Via.refl e17 F_array_a E_a (Or.inl (w16 hw)) (w3 hw) (ty := (.array .byte)) (by decide) rfl rfl (g := (mkF m 38 #[.val (.ref a), .val (.int k)] [(.ref r17), (.ref a)])) rfl rfl (hb hby d5_38)
    replace F_array_a := F_array_a.same W18
    replace E_a := E_a.wr W18
    replace F_length_a := F_length_a.other W18 (Or.inr (slot_ne (Or.inl (w27 hw)) (Or.inl (w16 hw)) (by decide) (t := .int) (t' := (.array .byte)) (by decide) (by decide)))
    replace A_b := A_b.other W18 (Ne.symm ne_a_b)
    replace A_r17 := A_r17.other W18 (Ne.symm ne_a_r17)
    replace Z0 := Nat.le_trans Z0 (Keep.of_wr W18).1
    replace K0 := K0.wr W18 (Or.inl (by simp))
    have N18 := Fr.snoc X18 N17 g_a
    refine Go.st (S' := T18.setTop (mkF m 41 #[.val (.ref a), .val (.int k)] [])) (st18) ?_
    exact Go.retV X18 hx hret hlk (hb hby d5_41) (by decide) (by decide) (by rw [e18]; exact ⟨rfl, N18, K0, r17, zs ++ List.replicate (mm.toNatClampNeg - (ys ++ zs).length) 0, Or.inr sz_r17, ⟨E_a, F_array_a, F_length_a, A_r17⟩, by rw [List.length_append, List.length_replicate]; have := hg.2.2.2.2; omega⟩)
  · skip
    refine Go.st (S' := T12.setTop (mkF m 41 #[.val (.ref a), .val (.int k)] [])) (fun _ k_ => XS.icmpYes X12.here hx rfl (pc0 := 11) (pc' := 41) rfl (hb hby d5_11) rfl (flt hc11).2.1 (by decide) (by decide) k_) ?_
    exact Go.retV X12 hx hret hlk (hb hby d5_41) (by decide) (by decide) (by rw [e12]; exact ⟨rfl, N0, K0, b, zs, Or.inl rfl, ⟨E_a, F_array_a, F_length_a, A_b⟩, by have q := mt Int32.lt_iff_toInt_lt.mpr hc11; rw [hd, own_pos hk] at q; omega⟩)
theorem ef_by_write (m : MethodId) (x0 : Addr) (x1 : Addr) (x2 : Int32) (x3 : Int32) : entryFrame m #[(.ref x0), (.ref x1), (.int x2), (.int x3)] 4 = mkF m 0 #[.val (.ref x0), .val (.ref x1), .val (.int x2), .val (.int x3)] [] := by first | (simp [entryFrame, mkF, argsToLocals, Value.category]; done) | rfl
set_option maxRecDepth 65536 in
set_option maxHeartbeats 40000000 in
theorem by_write (l : Launch) (Z : State) (a0 : Array Value) (hw : ∀ d ∈ tables_1, d.before a0 Z = true) (a b : Addr) (ys zs : List Int32) (t : Addr) (k : Int32) (xs : List Int32) (h0 : Heap) (n0 : Nat) (Z0 : n0 ≤ h0.size) (H : BY Z h0 a b ys zs) (ne_a_b : a ≠ b) (g_a : n0 ≤ a) (g_b : n0 ≤ b) (A_t : Ai Z h0 t .byte xs) (ne_a_t : a ≠ t) (ne_t_b : t ≠ b) (hy0 : ys = []) (hk : ¬ k < 0) (hkx : k.toNatClampNeg ≤ xs.length) (hM : zs.length < k.toNatClampNeg → 2 * (ys.length + zs.length) ≤ 16 ∧ ys.length + k.toNatClampNeg ≤ 16) :
    Con l Z (⟨"com/example/exactor/exactor/sql/Bytes", "write", "([BII)V"⟩ : MethodName) prog_53_method_11_code 4 none [] ({ frames := 3, cells := 1, slots := 16, locals := 75 } : Room) #[(.ref a), (.ref t), (.int (0 : Int32)), (.int k)] h0 (fun v h L => v = none ∧ Fr n0 L ∧ Keep h0 h [a, b] ∧ ∃ b' zs', (b' = b ∨ h0.size ≤ b') ∧ BY Z h a b' (xs.take k.toNatClampNeg) zs') := by
  refine Con.mk (plainFor_of_name pn1) ?_
  intro p e s m below meth c T0 hx hby hml hown hnm hret hlk hZ X0 e0
  have hown : s.vm.findClass "com/example/exactor/exactor/sql/Bytes" = some m.cls := hown
  have hnm : meth.name = "write" := hnm
  have N0 := Fr.nil n0
  have K0 := Keep.refl h0 [a, b]
  refine Go.cast (ef_by_write m a t (0 : Int32) k) ?_
  obtain ⟨E_a, F_array_a, F_length_a, A_b⟩ := H
  have hL := A_b.len
  have hL2 : (ys ++ zs).length = ys.length + zs.length := List.length_append
  refine Go.st (S' := T0.setTop (mkF m 1 #[.val (.ref a), .val (.ref t), .val (.int (0 : Int32)), .val (.int k)] [(.ref a)])) (fun _ k_ => XS.aloadN X0.here hx rfl (hb hby d4_0) rfl rfl k_) ?_
  refine Go.st (S' := T0.setTop (mkF m 2 #[.val (.ref a), .val (.ref t), .val (.int (0 : Int32)), .val (.int k)] [(.int k), (.ref a)])) (fun _ k_ => XS.iloadN X0.here hx rfl (hb hby d4_1) rfl k_) ?_
  obtain ⟨v11, T11, h11, L11, X11, e11, hQ11, st11⟩ := callPr X0 hx hZ hown (w22 hw) (w23 hw) (w3 hw) (w24 hw) (w4 hw) (w25 hw) (by decide) (W := 0) (argsL := [(.int k)]) (rest := []) e0 E_a (by_room l Z a0 hw a b ys zs k h0 n0 Z0 ⟨E_a, F_array_a, F_length_a, A_b⟩ ne_a_b g_a g_b hk hM) (by decide) (by decide) pd2 rfl (g := (mkF m 2 #[.val (.ref a), .val (.ref t), .val (.int (0 : Int32)), .val (.int k)] [(.int k), (.ref a)])) rfl (by rw [hml]; rfl) rfl (by show 2 * 0 + _ ≤ _; exact Nat.le_of_eq rfl) (hb hby d4_2) (by decide) (by decide)
  obtain ⟨rfl, Nq11, Kq11, c11, zs11, hb11, HB11, hz11⟩ := hQ11
  have N11 := Fr.app N0 Nq11
  have ne_a_c11 : a ≠ c11 := hb11.elim (fun q => q ▸ ne_a_b) (fun q => Nat.ne_of_lt (Nat.lt_of_lt_of_le E_a.lt q))
  have g_c11 : n0 ≤ c11 := hb11.elim (fun q => q ▸ g_b) (fun q => Nat.le_trans Z0 q)
  have ne_t_c11 : t ≠ c11 := hb11.elim (fun q => q ▸ ne_t_b) (fun q => Nat.ne_of_lt (Nat.lt_of_lt_of_le A_t.lt q))
  replace A_t := A_t.keep Kq11 (ninS (Ne.symm ne_a_t) nin0)
  replace Z0 := Nat.le_trans Z0 Kq11.1
  replace K0 := K0.trans Kq11 (allS (Or.inl (by simp)) all0)
  obtain ⟨E_a, F_array_a, F_length_a, A_c11⟩ := HB11
  subst hy0
  replace F_length_a : Fld Z h11 a "com/example/exactor/exactor/sql/Bytes" "length" "I" (.int (0 : Int32)) := F_length_a
  replace A_c11 : Ai Z h11 c11 .byte zs11 := A_c11
  refine Go.st (S' := T11.setTop (mkF m 5 #[.val (.ref a), .val (.ref t), .val (.int (0 : Int32)), .val (.int k)] [])) (st11) ?_
  refine Go.st (S' := T11.setTop (mkF m 6 #[.val (.ref a), .val (.ref t), .val (.int (0 : Int32)), .val (.int k)] [(.ref t)])) (fun _ k_ => XS.aloadN X11.here hx rfl (hb hby d4_5) rfl rfl k_) ?_
  refine Go.st (S' := T11.setTop (mkF m 7 #[.val (.ref a), .val (.ref t), .val (.int (0 : Int32)), .val (.int k)] [(.int (0 : Int32)), (.ref t)])) (fun _ k_ => XS.iloadN X11.here hx rfl (hb hby d4_6) rfl k_) ?_
  refine Go.st (S' := T11.setTop (mkF m 8 #[.val (.ref a), .val (.ref t), .val (.int (0 : Int32)), .val (.int k)] [(.ref a), (.int (0 : Int32)), (.ref t)])) (fun _ k_ => XS.aloadN X11.here hx rfl (hb hby d4_7) rfl rfl k_) ?_
  obtain ⟨T12, X12, e12, st12⟩ := getF X11 hx hZ hown (host := "") (Or.inl (w15 hw)) Via.refl e11 F_array_a (g := (mkF m 8 #[.val (.ref a), .val (.ref t), .val (.int (0 : Int32)), .val (.int k)] [(.ref a), (.int (0 : Int32)), (.ref t)])) rfl rfl (hb hby d4_8)
  refine Go.st (S' := T12.setTop (mkF m 11 #[.val (.ref a), .val (.ref t), .val (.int (0 : Int32)), .val (.int k)] [(.ref c11), (.int (0 : Int32)), (.ref t)])) (st12) ?_
  refine Go.st (S' := T12.setTop (mkF m 12 #[.val (.ref a), .val (.ref t), .val (.int (0 : Int32)), .val (.int k)] [(.ref a), (.ref c11), (.int (0 : Int32)), (.ref t)])) (fun _ k_ => XS.aloadN X12.here hx rfl (hb hby d4_11) rfl rfl k_) ?_
  obtain ⟨T13, X13, e13, st13⟩ := getF X12 hx hZ hown (host := "") (Or.inl (w26 hw)) Via.refl e12 F_length_a (g := (mkF m 12 #[.val (.ref a), .val (.ref t), .val (.int (0 : Int32)), .val (.int k)] [(.ref a), (.ref c11), (.int (0 : Int32)), (.ref t)])) rfl rfl (hb hby d4_12)
  refine Go.st (S' := T13.setTop (mkF m 15 #[.val (.ref a), .val (.ref t), .val (.int (0 : Int32)), .val (.int k)] [(.int (0 : Int32)), (.ref c11), (.int (0 : Int32)), (.ref t)])) (st13) ?_
  refine Go.st (S' := T13.setTop (mkF m 16 #[.val (.ref a), .val (.ref t), .val (.int (0 : Int32)), .val (.int k)] [(.int k), (.int (0 : Int32)), (.ref c11), (.int (0 : Int32)), (.ref t)])) (fun _ k_ => XS.iloadN X13.here hx rfl (hb hby d4_15) rfl k_) ?_
  obtain ⟨T14, h14, L14, X14, e14, N14, K14, A14, st14⟩ := Ai.copy X13 hx hZ hown (w39 hw) (w38 hw) (w36 hw) (w37 hw) e13 (sp := (0 : Int32)) (dp := (0 : Int32)) (nn := k) A_t A_c11 rfl (by decide) (by decide) hk (by rw [show (0 : Int32).toNatClampNeg = 0 from rfl, Nat.zero_add]; exact hkx) (by rw [show (0 : Int32).toNatClampNeg = 0 from rfl, Nat.zero_add]; exact hz11) N11 g_c11 (g := (mkF m 16 #[.val (.ref a), .val (.ref t), .val (.int (0 : Int32)), .val (.int k)] [(.int k), (.int (0 : Int32)), (.ref c11), (.int (0 : Int32)), (.ref t)])) rfl (by rw [hml]; rfl) rfl (hb hby d4_16) (by decide) (W := 0) (by show 2 * 0 + _ ≤ _; exact Nat.le_of_eq rfl) (by decide)
  replace A_t := A_t.keep K14 (ninS ne_t_c11 nin0)
  replace E_a := E_a.keep K14
  replace F_array_a := F_array_a.keep K14 (ninS ne_a_c11 nin0)
  replace F_length_a := F_length_a.keep K14 (ninS ne_a_c11 nin0)
  replace Z0 := Nat.le_trans Z0 K14.1
  replace K0 := K0.trans K14 (allS (hb11.imp (fun q => by simp [q]) id) all0)
  replace A_c11 : Ai Z h14 c11 .byte (xs.take k.toNatClampNeg ++ zs11.drop k.toNatClampNeg) := (by simpa [show (0 : Int32).toNatClampNeg = 0 from rfl] using A14)
  refine Go.st (S' := T14.setTop (mkF m 19 #[.val (.ref a), .val (.ref t), .val (.int (0 : Int32)), .val (.int k)] [])) (st14) ?_
  refine Go.st (S' := T14.setTop (mkF m 20 #[.val (.ref a), .val (.ref t), .val (.int (0 : Int32)), .val (.int k)] [(.ref a)])) (fun _ k_ => XS.aloadN X14.here hx rfl (hb hby d4_19) rfl rfl k_) ?_
  refine Go.st (S' := T14.setTop (mkF m 21 #[.val (.ref a), .val (.ref t), .val (.int (0 : Int32)), .val (.int k)] [(.ref a), (.ref a)])) (fun _ k_ => XS.dup X14.here hx rfl (hb hby d4_20) rfl rfl k_) ?_
  obtain ⟨T15, X15, e15, st15⟩ := getF X14 hx hZ hown (host := "") (Or.inl (w26 hw)) Via.refl e14 F_length_a (g := (mkF m 21 #[.val (.ref a), .val (.ref t), .val (.int (0 : Int32)), .val (.int k)] [(.ref a), (.ref a)])) rfl rfl (hb hby d4_21)
  refine Go.st (S' := T15.setTop (mkF m 24 #[.val (.ref a), .val (.ref t), .val (.int (0 : Int32)), .val (.int k)] [(.int (0 : Int32)), (.ref a)])) (st15) ?_
  refine Go.st (S' := T15.setTop (mkF m 25 #[.val (.ref a), .val (.ref t), .val (.int (0 : Int32)), .val (.int k)] [(.int k), (.int (0 : Int32)), (.ref a)])) (fun _ k_ => XS.iloadN X15.here hx rfl (hb hby d4_24) rfl k_) ?_
  refine Go.st (S' := T15.setTop (mkF m 26 #[.val (.ref a), .val (.ref t), .val (.int (0 : Int32)), .val (.int k)] [(.int ((0 : Int32) + k)), (.ref a)])) (fun _ k_ => XS.iadd X15.here hx rfl (hb hby d4_25) rfl k_) ?_
  obtain ⟨T16, h16, X16, e16, W16, st16⟩ := putF X15 hx hZ hown (host := "") (Or.inl (w26 hw)) Via.refl e15 F_length_a E_a (Or.inl (w27 hw)) (w3 hw) (ty := .int) (by decide) rfl rfl (g := (mkF m 26 #[.val (.ref a), .val (.ref t), .val (.int (0 : Int32)), .val (.int k)] [(.int ((0 : Int32) + k)), (.ref a)])) rfl rfl (hb hby d4_26)
  replace F_length_a := F_length_a.same W16
  replace A_t := A_t.other W16 (Ne.symm ne_a_t)
  replace E_a := E_a.wr W16
  replace F_array_a := F_array_a.other W16 (Or.inr (slot_ne (Or.inl (w16 hw)) (Or.inl (w27 hw)) (by decide) (t := (.array .byte)) (t' := .int) (by decide) (by decide)))
  replace A_c11 := A_c11.other W16 (Ne.symm ne_a_c11)
  replace Z0 := Nat.le_trans Z0 (Keep.of_wr W16).1
  replace K0 := K0.wr W16 (Or.inl (by simp))
  have N16 := Fr.snoc X16 N14 g_a
  refine Go.st (S' := T16.setTop (mkF m 29 #[.val (.ref a), .val (.ref t), .val (.int (0 : Int32)), .val (.int k)] [])) (st16) ?_
  exact Go.retV X16 hx hret hlk (hb hby d4_29) (by decide) (by decide) (by rw [e16]; exact ⟨rfl, N16, K0, c11, zs11.drop k.toNatClampNeg, hb11, E_a, F_array_a, by rw [Int32.zero_add] at F_length_a; rw [List.length_take, Nat.min_eq_left hkx, own_back hk]; exact F_length_a, A_c11⟩)
theorem ef_by_toarr (m : MethodId) (x0 : Addr) : entryFrame m #[(.ref x0)] 1 = mkF m 0 #[.val (.ref x0)] [] := by first | (simp [entryFrame, mkF, argsToLocals, Value.category]; done) | rfl
set_option maxRecDepth 65536 in
set_option maxHeartbeats 40000000 in
theorem by_toarr (l : Launch) (Z : State) (a0 : Array Value) (hw : ∀ d ∈ tables_1, d.before a0 Z = true) (a b : Addr) (ys zs : List Int32) (h0 : Heap) (n0 : Nat) (Z0 : n0 ≤ h0.size) (H : BY Z h0 a b ys zs) (ne_a_b : a ≠ b) (g_a : n0 ≤ a) (g_b : n0 ≤ b) (hM : ys.length ≤ 16) :
    Con l Z (⟨"com/example/exactor/exactor/sql/Bytes", "toArray", "()[B"⟩ : MethodName) prog_53_method_12_code 1 (some (.array .byte)) [] ({ frames := 2, cells := 1, slots := 16, locals := 60 } : Room) #[(.ref a)] h0 (fun v h L => Fr n0 L ∧ Keep h0 h [] ∧ ∃ r, v = some (.ref r) ∧ Ai Z h r .byte ys ∧ (r = b ∨ h0.size ≤ r)) := by
  refine Con.mk (plainFor_of_name pn1) ?_
  intro p e s m below meth c T0 hx hby hml hown hnm hret hlk hZ X0 e0
  have hown : s.vm.findClass "com/example/exactor/exactor/sql/Bytes" = some m.cls := hown
  have hnm : meth.name = "toArray" := hnm
  have N0 := Fr.nil n0
  have K0 := Keep.refl h0 []
  refine Go.cast (ef_by_toarr m a) ?_
  obtain ⟨E_a, F_array_a, F_length_a, A_b⟩ := H
  have hL := A_b.len
  have hL2 : (ys ++ zs).length = ys.length + zs.length := List.length_append
  refine Go.st (S' := T0.setTop (mkF m 1 #[.val (.ref a)] [(.ref a)])) (fun _ k_ => XS.aloadN X0.here hx rfl (hb hby d10_0) rfl rfl k_) ?_
  obtain ⟨T11, X11, e11, st11⟩ := getF X0 hx hZ hown (host := "") (Or.inl (w26 hw)) Via.refl e0 F_length_a (g := (mkF m 1 #[.val (.ref a)] [(.ref a)])) rfl rfl (hb hby d10_1)
  refine Go.st (S' := T11.setTop (mkF m 4 #[.val (.ref a)] [(.int ys.length.toInt32)])) (st11) ?_
  refine Go.st (S' := T11.setTop (mkF m 5 #[.val (.ref a)] [(.ref a), (.int ys.length.toInt32)])) (fun _ k_ => XS.aloadN X11.here hx rfl (hb hby d10_4) rfl rfl k_) ?_
  obtain ⟨T12, X12, e12, st12⟩ := getF X11 hx hZ hown (host := "") (Or.inl (w15 hw)) Via.refl e11 F_array_a (g := (mkF m 5 #[.val (.ref a)] [(.ref a), (.int ys.length.toInt32)])) rfl rfl (hb hby d10_5)
  refine Go.st (S' := T12.setTop (mkF m 8 #[.val (.ref a)] [(.ref b), (.int ys.length.toInt32)])) (st12) ?_
  refine Go.st (S' := T12.setTop (mkF m 9 #[.val (.ref a)] [(.int (ys ++ zs).length.toInt32), (.int ys.length.toInt32)])) (A_b.length X12 hx hZ e12 (n := (ys ++ zs).length.toInt32) rfl (g := (mkF m 8 #[.val (.ref a)] [(.ref b), (.int ys.length.toInt32)])) rfl rfl (hb hby d10_8)) ?_
  by_cases hc9 : ys.length.toInt32 = (ys ++ zs).length.toInt32
  · skip
    refine Go.st (S' := T12.setTop (mkF m 12 #[.val (.ref a)] [])) (fun _ k_ => XS.icmpNo X12.here hx rfl (hb hby d10_9) rfl (teq hc9).2 k_) ?_
    refine Go.st (S' := T12.setTop (mkF m 13 #[.val (.ref a)] [(.ref a)])) (fun _ k_ => XS.aloadN X12.here hx rfl (hb hby d10_12) rfl rfl k_) ?_
    obtain ⟨T13, X13, e13, st13⟩ := getF X12 hx hZ hown (host := "") (Or.inl (w15 hw)) Via.refl e12 F_array_a (g := (mkF m 13 #[.val (.ref a)] [(.ref a)])) rfl rfl (hb hby d10_13)
    refine Go.st (S' := T13.setTop (mkF m 16 #[.val (.ref a)] [(.ref b)])) (st13) ?_
    refine Go.st (S' := T13.setTop (mkF m 30 #[.val (.ref a)] [(.ref b)])) (fun _ k_ => XS.goto X13.here hx rfl (pc0 := 16) (pc' := 30) rfl (hb hby d10_16) (by decide) (by decide) k_) ?_
    exact Go.retR X13 hx hret rfl hlk (hb hby d10_30) (by decide) (by decide) (by rw [e13]; exact ⟨N0, K0, b, rfl, by rw [own_toeq ys zs hL hc9] at A_b; simpa using A_b, Or.inl rfl⟩)
  · skip
    refine Go.st (S' := T12.setTop (mkF m 19 #[.val (.ref a)] [])) (fun _ k_ => XS.icmpYes X12.here hx rfl (pc0 := 9) (pc' := 19) rfl (hb hby d10_9) rfl (feq hc9).2 (by decide) (by decide) k_) ?_
    refine Go.st (S' := T12.setTop (mkF m 20 #[.val (.ref a)] [(.ref a)])) (fun _ k_ => XS.aloadN X12.here hx rfl (hb hby d10_19) rfl rfl k_) ?_
    obtain ⟨T14, X14, e14, st14⟩ := getF X12 hx hZ hown (host := "") (Or.inl (w15 hw)) Via.refl e12 F_array_a (g := (mkF m 20 #[.val (.ref a)] [(.ref a)])) rfl rfl (hb hby d10_20)
    refine Go.st (S' := T14.setTop (mkF m 23 #[.val (.ref a)] [(.ref b)])) (st14) ?_
    refine Go.st (S' := T14.setTop (mkF m 24 #[.val (.ref a)] [(.ref a), (.ref b)])) (fun _ k_ => XS.aloadN X14.here hx rfl (hb hby d10_23) rfl rfl k_) ?_
    obtain ⟨T15, X15, e15, st15⟩ := getF X14 hx hZ hown (host := "") (Or.inl (w26 hw)) Via.refl e14 F_length_a (g := (mkF m 24 #[.val (.ref a)] [(.ref a), (.ref b)])) rfl rfl (hb hby d10_24)
    refine Go.st (S' := T15.setTop (mkF m 27 #[.val (.ref a)] [(.int ys.length.toInt32), (.ref b)])) (st15) ?_
    obtain ⟨v16, T16, h16, L16, X16, e16, hQ16, st16⟩ := callSt X15 hx hZ hown (w28 hw) (w29 hw) (w30 hw) (w31 hw) (by decide) (W := 0) (argsL := [(.ref b), (.int ys.length.toInt32)]) (rest := []) e15 (by_copy l Z a0 hw b ys.length.toInt32 (ys ++ zs) h0 n0 Z0 A_b (own_tpos (by omega)) hc9 (by rw [own_tn (by omega)]; exact hM)) (by decide) (by decide) pd1 rfl (g := (mkF m 27 #[.val (.ref a)] [(.int ys.length.toInt32), (.ref b)])) rfl (by rw [hml]; rfl) rfl (by show 2 * 0 + _ ≤ _; exact Nat.le_of_eq rfl) (hb hby d10_27) (by decide) (by decide)
    obtain ⟨Nq16, Kq16, r16, rfl, hr16, A_r16⟩ := hQ16
    have N16 := Fr.app N0 Nq16
    have ne_a_r16 : a ≠ r16 := Nat.ne_of_lt (Nat.lt_of_lt_of_le E_a.lt hr16)
    have ne_b_r16 : b ≠ r16 := Nat.ne_of_lt (Nat.lt_of_lt_of_le A_b.lt hr16)
    have g_r16 : n0 ≤ r16 := Nat.le_trans Z0 hr16
    have sz_r16 : h0.size ≤ r16 := Nat.le_trans K0.1 hr16
    replace E_a := E_a.keep Kq16
    replace F_array_a := F_array_a.keep Kq16 nin0
    replace F_length_a := F_length_a.keep Kq16 nin0
    replace A_b := A_b.keep Kq16 nin0
    replace Z0 := Nat.le_trans Z0 Kq16.1
    replace K0 := K0.trans Kq16 all0
    rw [own_tn (by omega), own_cpcut ys zs] at A_r16
    refine Go.st (S' := T16.setTop (mkF m 30 #[.val (.ref a)] [(.ref r16)])) (st16) ?_
    exact Go.retR X16 hx hret rfl hlk (hb hby d10_30) (by decide) (by decide) (by rw [e16]; exact ⟨N16, K0, r16, rfl, A_r16, Or.inr sz_r16⟩)
theorem ef_by_len (m : MethodId) (x0 : Addr) : entryFrame m #[(.ref x0)] 1 = mkF m 0 #[.val (.ref x0)] [] := by first | (simp [entryFrame, mkF, argsToLocals, Value.category]; done) | rfl
set_option maxRecDepth 65536 in
set_option maxHeartbeats 40000000 in
theorem by_len (l : Launch) (Z : State) (a0 : Array Value) (hw : ∀ d ∈ tables_1, d.before a0 Z = true) (a b : Addr) (ys zs : List Int32) (h0 : Heap) (n0 : Nat) (Z0 : n0 ≤ h0.size) (H : BY Z h0 a b ys zs) (ne_a_b : a ≠ b) (g_a : n0 ≤ a) (g_b : n0 ≤ b) :
    Con l Z (⟨"com/example/exactor/exactor/sql/Bytes", "length", "()I"⟩ : MethodName) prog_53_method_3_code 1 (some .int) [] ({ frames := 0, cells := 0, slots := 0, locals := 0 } : Room) #[(.ref a)] h0 (fun v h L => v = some (.int ys.length.toInt32) ∧ Fr n0 L ∧ h = h0) := by
  refine Con.mk (plainFor_of_name pn1) ?_
  intro p e s m below meth c T0 hx hby hml hown hnm hret hlk hZ X0 e0
  have hown : s.vm.findClass "com/example/exactor/exactor/sql/Bytes" = some m.cls := hown
  have hnm : meth.name = "length" := hnm
  have N0 := Fr.nil n0
  refine Go.cast (ef_by_len m a) ?_
  obtain ⟨E_a, F_array_a, F_length_a, A_b⟩ := H
  have hL := A_b.len
  have hL2 : (ys ++ zs).length = ys.length + zs.length := List.length_append
  refine Go.st (S' := T0.setTop (mkF m 1 #[.val (.ref a)] [(.ref a)])) (fun _ k_ => XS.aloadN X0.here hx rfl (hb hby d9_0) rfl rfl k_) ?_
  obtain ⟨T11, X11, e11, st11⟩ := getF X0 hx hZ hown (host := "") (Or.inl (w26 hw)) Via.refl e0 F_length_a (g := (mkF m 1 #[.val (.ref a)] [(.ref a)])) rfl rfl (hb hby d9_1)
  refine Go.st (S' := T11.setTop (mkF m 4 #[.val (.ref a)] [(.int ys.length.toInt32)])) (st11) ?_
  exact Go.retI X11 hx hret hlk (hb hby d9_4) (by decide) (by decide) (by rw [e11]; exact ⟨rfl, N0, rfl⟩)
theorem ef_by_setint (m : MethodId) (x0 : Addr) (x1 : Int32) (x2 : Int32) : entryFrame m #[(.ref x0), (.int x1), (.int x2)] 3 = mkF m 0 #[.val (.ref x0), .val (.int x1), .val (.int x2)] [] := by first | (simp [entryFrame, mkF, argsToLocals, Value.category]; done) | rfl
set_option maxRecDepth 65536 in
set_option maxHeartbeats 40000000 in
theorem by_setint (l : Launch) (Z : State) (a0 : Array Value) (hw : ∀ d ∈ tables_1, d.before a0 Z = true) (a b : Addr) (ys zs : List Int32) (k x : Int32) (h0 : Heap) (n0 : Nat) (Z0 : n0 ≤ h0.size) (H : BY Z h0 a b ys zs) (ne_a_b : a ≠ b) (g_a : n0 ≤ a) (g_b : n0 ≤ b) (hk : 0 ≤ k.toInt) (hk3 : k.toInt + 3 < ys.length) (hys : ys.length ≤ 1000) :
    Con l Z (⟨"com/example/exactor/exactor/sql/Bytes", "setInt", "(II)V"⟩ : MethodName) prog_53_method_8_code 3 none [] ({ frames := 0, cells := 0, slots := 0, locals := 0 } : Room) #[(.ref a), (.int k), (.int x)] h0 (fun v h L => v = none ∧ Fr n0 L ∧ Keep h0 h [b] ∧ BY Z h a b (own_si ys k.toNatClampNeg x) zs) := by
  refine Con.mk (plainFor_of_name pn1) ?_
  intro p e s m below meth c T0 hx hby hml hown hnm hret hlk hZ X0 e0
  have hown : s.vm.findClass "com/example/exactor/exactor/sql/Bytes" = some m.cls := hown
  have hnm : meth.name = "setInt" := hnm
  have N0 := Fr.nil n0
  have K0 := Keep.refl h0 [b]
  refine Go.cast (ef_by_setint m a k x) ?_
  obtain ⟨E_a, F_array_a, F_length_a, A_b⟩ := H
  have hL := A_b.len
  have hL2 : (ys ++ zs).length = ys.length + zs.length := List.length_append
  obtain ⟨k1, k2, k3, k4, k5, k6, k7, k8⟩ := own_setk k hk (by omega)
  have kn := own_pos (own_nn hk)
  have k9 : k.toNatClampNeg + 3 < ys.length := by omega
  refine Go.st (S' := T0.setTop (mkF m 1 #[.val (.ref a), .val (.int k), .val (.int x)] [(.ref a)])) (fun _ k_ => XS.aloadN X0.here hx rfl (hb hby d8_0) rfl rfl k_) ?_
  obtain ⟨T11, X11, e11, st11⟩ := getF X0 hx hZ hown (host := "") (Or.inl (w15 hw)) Via.refl e0 F_array_a (g := (mkF m 1 #[.val (.ref a), .val (.int k), .val (.int x)] [(.ref a)])) rfl rfl (hb hby d8_1)
  refine Go.st (S' := T11.setTop (mkF m 4 #[.val (.ref a), .val (.int k), .val (.int x)] [(.ref b)])) (st11) ?_
  refine Go.st (S' := T11.setTop (mkF m 5 #[.val (.ref a), .val (.int k), .val (.int x)] [(.int k), (.ref b)])) (fun _ k_ => XS.iloadN X11.here hx rfl (hb hby d8_4) rfl k_) ?_
  refine Go.st (S' := T11.setTop (mkF m 6 #[.val (.ref a), .val (.int k), .val (.int x)] [(.int x), (.int k), (.ref b)])) (fun _ k_ => XS.iloadN X11.here hx rfl (hb hby d8_5) rfl k_) ?_
  refine Go.st (S' := T11.setTop (mkF m 8 #[.val (.ref a), .val (.int k), .val (.int x)] [(.int (24 : Int32)), (.int x), (.int k), (.ref b)])) (fun _ k_ => XS.bipush X11.here hx rfl (hb hby d8_6) k_) ?_
  refine Go.st (S' := T11.setTop (mkF m 9 #[.val (.ref a), .val (.int k), .val (.int x)] [(.int ((x.toUInt32 >>> ((24 : Int32) &&& 31).toUInt32).toInt32)), (.int k), (.ref b)])) (fun _ k_ => XS.iushr X11.here hx rfl (hb hby d8_8) rfl k_) ?_
  refine Go.st (S' := T11.setTop (mkF m 10 #[.val (.ref a), .val (.int k), .val (.int x)] [(.int (((x.toUInt32 >>> ((24 : Int32) &&& 31).toUInt32).toInt32).toInt8.toInt32)), (.int k), (.ref b)])) (fun _ k_ => XS.i2b X11.here hx rfl (hb hby d8_9) rfl k_) ?_
  obtain ⟨T12, h12, X12, e12, W12, A12, st12⟩ := A_b.bstore X11 hx hZ e11 (j := k) (own_nn hk) (by rw [ List.length_append]; omega) (g := (mkF m 10 #[.val (.ref a), .val (.int k), .val (.int x)] [(.int (((x.toUInt32 >>> ((24 : Int32) &&& 31).toUInt32).toInt32).toInt8.toInt32)), (.int k), (.ref b)])) rfl rfl (hb hby d8_10)
  replace A_b : Ai Z h12 b .byte ((ys.set k.toNatClampNeg (((x.toUInt32 >>> ((24 : Int32) &&& 31).toUInt32).toInt32).toInt8.toInt32)) ++ zs) := (by have q := A12; simp only [own_bb1] at q; rw [own_setin ys zs k.toNatClampNeg (((x.toUInt32 >>> ((24 : Int32) &&& 31).toUInt32).toInt32).toInt8.toInt32) (by omega)] at q; exact q)
  replace E_a := E_a.wr W12
  replace F_array_a := F_array_a.other W12 (Or.inl ne_a_b)
  replace F_length_a := F_length_a.other W12 (Or.inl ne_a_b)
  replace Z0 := Nat.le_trans Z0 (Keep.of_wr W12).1
  replace K0 := K0.wr W12 (Or.inl (by simp))
  have N12 := Fr.snoc X12 N0 g_b
  refine Go.st (S' := T12.setTop (mkF m 11 #[.val (.ref a), .val (.int k), .val (.int x)] [])) (st12) ?_
  refine Go.st (S' := T12.setTop (mkF m 12 #[.val (.ref a), .val (.int k), .val (.int x)] [(.ref a)])) (fun _ k_ => XS.aloadN X12.here hx rfl (hb hby d8_11) rfl rfl k_) ?_
  obtain ⟨T13, X13, e13, st13⟩ := getF X12 hx hZ hown (host := "") (Or.inl (w15 hw)) Via.refl e12 F_array_a (g := (mkF m 12 #[.val (.ref a), .val (.int k), .val (.int x)] [(.ref a)])) rfl rfl (hb hby d8_12)
  refine Go.st (S' := T13.setTop (mkF m 15 #[.val (.ref a), .val (.int k), .val (.int x)] [(.ref b)])) (st13) ?_
  refine Go.st (S' := T13.setTop (mkF m 16 #[.val (.ref a), .val (.int k), .val (.int x)] [(.int k), (.ref b)])) (fun _ k_ => XS.iloadN X13.here hx rfl (hb hby d8_15) rfl k_) ?_
  refine Go.st (S' := T13.setTop (mkF m 17 #[.val (.ref a), .val (.int k), .val (.int x)] [(.int (1 : Int32)), (.int k), (.ref b)])) (fun _ k_ => XS.iconst X13.here hx rfl (hb hby d8_16) k_) ?_
  refine Go.st (S' := T13.setTop (mkF m 18 #[.val (.ref a), .val (.int k), .val (.int x)] [(.int (k + (1 : Int32))), (.ref b)])) (fun _ k_ => XS.iadd X13.here hx rfl (hb hby d8_17) rfl k_) ?_
  refine Go.st (S' := T13.setTop (mkF m 19 #[.val (.ref a), .val (.int k), .val (.int x)] [(.int x), (.int (k + (1 : Int32))), (.ref b)])) (fun _ k_ => XS.iloadN X13.here hx rfl (hb hby d8_18) rfl k_) ?_
  refine Go.st (S' := T13.setTop (mkF m 21 #[.val (.ref a), .val (.int k), .val (.int x)] [(.int (16 : Int32)), (.int x), (.int (k + (1 : Int32))), (.ref b)])) (fun _ k_ => XS.bipush X13.here hx rfl (hb hby d8_19) k_) ?_
  refine Go.st (S' := T13.setTop (mkF m 22 #[.val (.ref a), .val (.int k), .val (.int x)] [(.int ((x.toUInt32 >>> ((16 : Int32) &&& 31).toUInt32).toInt32)), (.int (k + (1 : Int32))), (.ref b)])) (fun _ k_ => XS.iushr X13.here hx rfl (hb hby d8_21) rfl k_) ?_
  refine Go.st (S' := T13.setTop (mkF m 23 #[.val (.ref a), .val (.int k), .val (.int x)] [(.int (((x.toUInt32 >>> ((16 : Int32) &&& 31).toUInt32).toInt32).toInt8.toInt32)), (.int (k + (1 : Int32))), (.ref b)])) (fun _ k_ => XS.i2b X13.here hx rfl (hb hby d8_22) rfl k_) ?_
  obtain ⟨T14, h14, X14, e14, W14, A14, st14⟩ := A_b.bstore X13 hx hZ e13 (j := (k + (1 : Int32))) (k1) (by rw [show _ = _ from k2, List.length_append, List.length_set]; omega) (g := (mkF m 23 #[.val (.ref a), .val (.int k), .val (.int x)] [(.int (((x.toUInt32 >>> ((16 : Int32) &&& 31).toUInt32).toInt32).toInt8.toInt32)), (.int (k + (1 : Int32))), (.ref b)])) rfl rfl (hb hby d8_23)
  replace A_b : Ai Z h14 b .byte (((ys.set k.toNatClampNeg (((x.toUInt32 >>> ((24 : Int32) &&& 31).toUInt32).toInt32).toInt8.toInt32)).set (k.toNatClampNeg + 1) (((x.toUInt32 >>> ((16 : Int32) &&& 31).toUInt32).toInt32).toInt8.toInt32)) ++ zs) := (by have q := A14; simp only [own_bb1] at q; rw [k2] at q; rw [own_setin (ys.set k.toNatClampNeg (((x.toUInt32 >>> ((24 : Int32) &&& 31).toUInt32).toInt32).toInt8.toInt32)) zs (k.toNatClampNeg + 1) (((x.toUInt32 >>> ((16 : Int32) &&& 31).toUInt32).toInt32).toInt8.toInt32) (by rw [List.length_set]; omega)] at q; exact q)
  replace E_a := E_a.wr W14
  replace F_array_a := F_array_a.other W14 (Or.inl ne_a_b)
  replace F_length_a := F_length_a.other W14 (Or.inl ne_a_b)
  replace Z0 := Nat.le_trans Z0 (Keep.of_wr W14).1
  replace K0 := K0.wr W14 (Or.inl (by simp))
  have N14 := Fr.snoc X14 N12 g_b
  refine Go.st (S' := T14.setTop (mkF m 24 #[.val (.ref a), .val (.int k), .val (.int x)] [])) (st14) ?_
  refine Go.st (S' := T14.setTop (mkF m 25 #[.val (.ref a), .val (.int k), .val (.int x)] [(.ref a)])) (fun _ k_ => XS.aloadN X14.here hx rfl (hb hby d8_24) rfl rfl k_) ?_
  obtain ⟨T15, X15, e15, st15⟩ := getF X14 hx hZ hown (host := "") (Or.inl (w15 hw)) Via.refl e14 F_array_a (g := (mkF m 25 #[.val (.ref a), .val (.int k), .val (.int x)] [(.ref a)])) rfl rfl (hb hby d8_25)
  refine Go.st (S' := T15.setTop (mkF m 28 #[.val (.ref a), .val (.int k), .val (.int x)] [(.ref b)])) (st15) ?_
  refine Go.st (S' := T15.setTop (mkF m 29 #[.val (.ref a), .val (.int k), .val (.int x)] [(.int k), (.ref b)])) (fun _ k_ => XS.iloadN X15.here hx rfl (hb hby d8_28) rfl k_) ?_
  refine Go.st (S' := T15.setTop (mkF m 30 #[.val (.ref a), .val (.int k), .val (.int x)] [(.int (2 : Int32)), (.int k), (.ref b)])) (fun _ k_ => XS.iconst X15.here hx rfl (hb hby d8_29) k_) ?_
  refine Go.st (S' := T15.setTop (mkF m 31 #[.val (.ref a), .val (.int k), .val (.int x)] [(.int (k + (2 : Int32))), (.ref b)])) (fun _ k_ => XS.iadd X15.here hx rfl (hb hby d8_30) rfl k_) ?_
  refine Go.st (S' := T15.setTop (mkF m 32 #[.val (.ref a), .val (.int k), .val (.int x)] [(.int x), (.int (k + (2 : Int32))), (.ref b)])) (fun _ k_ => XS.iloadN X15.here hx rfl (hb hby d8_31) rfl k_) ?_
  refine Go.st (S' := T15.setTop (mkF m 34 #[.val (.ref a), .val (.int k), .val (.int x)] [(.int (8 : Int32)), (.int x), (.int (k + (2 : Int32))), (.ref b)])) (fun _ k_ => XS.bipush X15.here hx rfl (hb hby d8_32) k_) ?_
  refine Go.st (S' := T15.setTop (mkF m 35 #[.val (.ref a), .val (.int k), .val (.int x)] [(.int ((x.toUInt32 >>> ((8 : Int32) &&& 31).toUInt32).toInt32)), (.int (k + (2 : Int32))), (.ref b)])) (fun _ k_ => XS.iushr X15.here hx rfl (hb hby d8_34) rfl k_) ?_
  refine Go.st (S' := T15.setTop (mkF m 36 #[.val (.ref a), .val (.int k), .val (.int x)] [(.int (((x.toUInt32 >>> ((8 : Int32) &&& 31).toUInt32).toInt32).toInt8.toInt32)), (.int (k + (2 : Int32))), (.ref b)])) (fun _ k_ => XS.i2b X15.here hx rfl (hb hby d8_35) rfl k_) ?_
  obtain ⟨T16, h16, X16, e16, W16, A16, st16⟩ := A_b.bstore X15 hx hZ e15 (j := (k + (2 : Int32))) (k3) (by rw [show _ = _ from k4, List.length_append, List.length_set, List.length_set]; omega) (g := (mkF m 36 #[.val (.ref a), .val (.int k), .val (.int x)] [(.int (((x.toUInt32 >>> ((8 : Int32) &&& 31).toUInt32).toInt32).toInt8.toInt32)), (.int (k + (2 : Int32))), (.ref b)])) rfl rfl (hb hby d8_36)
  replace A_b : Ai Z h16 b .byte ((((ys.set k.toNatClampNeg (((x.toUInt32 >>> ((24 : Int32) &&& 31).toUInt32).toInt32).toInt8.toInt32)).set (k.toNatClampNeg + 1) (((x.toUInt32 >>> ((16 : Int32) &&& 31).toUInt32).toInt32).toInt8.toInt32)).set (k.toNatClampNeg + 2) (((x.toUInt32 >>> ((8 : Int32) &&& 31).toUInt32).toInt32).toInt8.toInt32)) ++ zs) := (by have q := A16; simp only [own_bb1] at q; rw [k4] at q; rw [own_setin ((ys.set k.toNatClampNeg (((x.toUInt32 >>> ((24 : Int32) &&& 31).toUInt32).toInt32).toInt8.toInt32)).set (k.toNatClampNeg + 1) (((x.toUInt32 >>> ((16 : Int32) &&& 31).toUInt32).toInt32).toInt8.toInt32)) zs (k.toNatClampNeg + 2) (((x.toUInt32 >>> ((8 : Int32) &&& 31).toUInt32).toInt32).toInt8.toInt32) (by rw [List.length_set, List.length_set]; omega)] at q; exact q)
  replace E_a := E_a.wr W16
  replace F_array_a := F_array_a.other W16 (Or.inl ne_a_b)
  replace F_length_a := F_length_a.other W16 (Or.inl ne_a_b)
  replace Z0 := Nat.le_trans Z0 (Keep.of_wr W16).1
  replace K0 := K0.wr W16 (Or.inl (by simp))
  have N16 := Fr.snoc X16 N14 g_b
  refine Go.st (S' := T16.setTop (mkF m 37 #[.val (.ref a), .val (.int k), .val (.int x)] [])) (st16) ?_
  refine Go.st (S' := T16.setTop (mkF m 38 #[.val (.ref a), .val (.int k), .val (.int x)] [(.ref a)])) (fun _ k_ => XS.aloadN X16.here hx rfl (hb hby d8_37) rfl rfl k_) ?_
  obtain ⟨T17, X17, e17, st17⟩ := getF X16 hx hZ hown (host := "") (Or.inl (w15 hw)) Via.refl e16 F_array_a (g := (mkF m 38 #[.val (.ref a), .val (.int k), .val (.int x)] [(.ref a)])) rfl rfl (hb hby d8_38)
  refine Go.st (S' := T17.setTop (mkF m 41 #[.val (.ref a), .val (.int k), .val (.int x)] [(.ref b)])) (st17) ?_
  refine Go.st (S' := T17.setTop (mkF m 42 #[.val (.ref a), .val (.int k), .val (.int x)] [(.int k), (.ref b)])) (fun _ k_ => XS.iloadN X17.here hx rfl (hb hby d8_41) rfl k_) ?_
  refine Go.st (S' := T17.setTop (mkF m 43 #[.val (.ref a), .val (.int k), .val (.int x)] [(.int (3 : Int32)), (.int k), (.ref b)])) (fun _ k_ => XS.iconst X17.here hx rfl (hb hby d8_42) k_) ?_
  refine Go.st (S' := T17.setTop (mkF m 44 #[.val (.ref a), .val (.int k), .val (.int x)] [(.int (k + (3 : Int32))), (.ref b)])) (fun _ k_ => XS.iadd X17.here hx rfl (hb hby d8_43) rfl k_) ?_
  refine Go.st (S' := T17.setTop (mkF m 45 #[.val (.ref a), .val (.int k), .val (.int x)] [(.int x), (.int (k + (3 : Int32))), (.ref b)])) (fun _ k_ => XS.iloadN X17.here hx rfl (hb hby d8_44) rfl k_) ?_
  refine Go.st (S' := T17.setTop (mkF m 46 #[.val (.ref a), .val (.int k), .val (.int x)] [(.int (x.toInt8.toInt32)), (.int (k + (3 : Int32))), (.ref b)])) (fun _ k_ => XS.i2b X17.here hx rfl (hb hby d8_45) rfl k_) ?_
  obtain ⟨T18, h18, X18, e18, W18, A18, st18⟩ := A_b.bstore X17 hx hZ e17 (j := (k + (3 : Int32))) (k5) (by rw [show _ = _ from k6, List.length_append, List.length_set, List.length_set, List.length_set]; omega) (g := (mkF m 46 #[.val (.ref a), .val (.int k), .val (.int x)] [(.int (x.toInt8.toInt32)), (.int (k + (3 : Int32))), (.ref b)])) rfl rfl (hb hby d8_46)
  replace A_b : Ai Z h18 b .byte (((((ys.set k.toNatClampNeg (((x.toUInt32 >>> ((24 : Int32) &&& 31).toUInt32).toInt32).toInt8.toInt32)).set (k.toNatClampNeg + 1) (((x.toUInt32 >>> ((16 : Int32) &&& 31).toUInt32).toInt32).toInt8.toInt32)).set (k.toNatClampNeg + 2) (((x.toUInt32 >>> ((8 : Int32) &&& 31).toUInt32).toInt32).toInt8.toInt32)).set (k.toNatClampNeg + 3) (x.toInt8.toInt32)) ++ zs) := (by have q := A18; simp only [own_bb1] at q; rw [k6] at q; rw [own_setin (((ys.set k.toNatClampNeg (((x.toUInt32 >>> ((24 : Int32) &&& 31).toUInt32).toInt32).toInt8.toInt32)).set (k.toNatClampNeg + 1) (((x.toUInt32 >>> ((16 : Int32) &&& 31).toUInt32).toInt32).toInt8.toInt32)).set (k.toNatClampNeg + 2) (((x.toUInt32 >>> ((8 : Int32) &&& 31).toUInt32).toInt32).toInt8.toInt32)) zs (k.toNatClampNeg + 3) (x.toInt8.toInt32) (by rw [List.length_set, List.length_set, List.length_set]; omega)] at q; exact q)
  replace E_a := E_a.wr W18
  replace F_array_a := F_array_a.other W18 (Or.inl ne_a_b)
  replace F_length_a := F_length_a.other W18 (Or.inl ne_a_b)
  replace Z0 := Nat.le_trans Z0 (Keep.of_wr W18).1
  replace K0 := K0.wr W18 (Or.inl (by simp))
  have N18 := Fr.snoc X18 N16 g_b
  refine Go.st (S' := T18.setTop (mkF m 47 #[.val (.ref a), .val (.int k), .val (.int x)] [])) (st18) ?_
  exact Go.retV X18 hx hret hlk (hb hby d8_47) (by decide) (by decide) (by rw [e18]; exact ⟨rfl, N18, K0, E_a, F_array_a, by simpa [own_si] using F_length_a, A_b⟩)
theorem own_kept {xs : List Int32} {n k : Nat} {x : Int32} (hn : n ≤ 8) (hx : xs.length = 8) (hk : k + 4 ≤ n) (j : Nat) (hj : j < 8) : Int32.ofNat j < n.toInt32 → (Int32.ofNat j < k.toInt32 ∨ ¬ Int32.ofNat j < (k.toInt32 + (4 : Int32))) → ∃ v, (own_si (xs.take n) k x)[(Int32.ofNat j).toNatClampNeg]? = some v ∧ xs[(Int32.ofNat j).toNatClampNeg]? = some v := by
  intro q1 q2
  have e1 : (Int32.ofNat j).toNatClampNeg = j := own_tn (by omega)
  have t1 : (Int32.ofNat j).toInt = j := own_ti (by omega)
  have e2 : (Int32.ofNat j < k.toInt32) ↔ j < k := by rw [Int32.lt_iff_toInt_lt, t1, show k.toInt32.toInt = _ from own_ti (n := k) (by omega)]; exact Int.ofNat_lt
  have e3 : (Int32.ofNat j < n.toInt32) ↔ j < n := by rw [Int32.lt_iff_toInt_lt, t1, show n.toInt32.toInt = _ from own_ti (n := n) (by omega)]; exact Int.ofNat_lt
  have e4 : k.toInt32 + (4 : Int32) = (k + 4).toInt32 := (Int32.ofNat_add k 4).symm
  have e5 : (Int32.ofNat j < (k + 4).toInt32) ↔ j < k + 4 := by rw [Int32.lt_iff_toInt_lt, t1, show (k + 4).toInt32.toInt = _ from own_ti (n := (k + 4)) (by omega)]; exact Int.ofNat_lt
  rw [e3] at q1; rw [e4, e2, e5] at q2
  rw [e1, own_si_out _ _ _ _ (by omega)]
  refine ⟨xs[j], ?_, List.getElem?_eq_getElem (by omega)⟩
  rw [List.getElem?_take, if_pos q1]; exact List.getElem?_eq_getElem (by omega)
theorem ef_rm_kept (m : MethodId) (x0 : Addr) (x1 : Addr) (x2 : Int32) (x3 : Int32) (x4 : Int32) : entryFrame m #[(.ref x0), (.ref x1), (.int x2), (.int x3), (.int x4)] 5 = mkF m 0 #[.val (.ref x0), .val (.ref x1), .val (.int x2), .val (.int x3), .val (.int x4)] [] := by first | (simp [entryFrame, mkF, argsToLocals, Value.category]; done) | rfl
set_option maxRecDepth 65536 in
set_option maxHeartbeats 40000000 in
theorem rm_kept (l : Launch) (Z : State) (a0 : Array Value) (hw : ∀ d ∈ tables_1, d.before a0 Z = true) (t o : Addr) (n at_ i : Int32) (xs ys : List Int32) (h0 : Heap) (n0 : Nat) (Z0 : n0 ≤ h0.size) (A_t : Ai Z h0 t .byte xs) (A_o : Ai Z h0 o .byte ys) (hi : ¬ i < 0) (hs : i < n → (i < at_ ∨ ¬ i < (at_ + (4 : Int32))) → ∃ v, xs[i.toNatClampNeg]? = some v ∧ ys[i.toNatClampNeg]? = some v) :
    Con l Z (⟨"com/example/exactor/exactor/sql/BytesSetIntPinLaw", "kept", "([B[BIII)Z"⟩ : MethodName) method_3_code 5 (some .boolean) [] ({ frames := 0, cells := 0, slots := 0, locals := 0 } : Room) #[(.ref t), (.ref o), (.int n), (.int at_), (.int i)] h0 (fun v h L => v = some (.int 1) ∧ Fr n0 L ∧ h = h0) := by
  refine Con.mk (plainFor_of_name pn2) ?_
  intro p e s m below meth c T0 hx hby hml hown hnm hret hlk hZ X0 e0
  have hown : s.vm.findClass "com/example/exactor/exactor/sql/BytesSetIntPinLaw" = some m.cls := hown
  have hnm : meth.name = "kept" := hnm
  have N0 := Fr.nil n0
  refine Go.cast (ef_rm_kept m t o n at_ i) ?_
  refine Go.st (S' := T0.setTop (mkF m 2 #[.val (.ref t), .val (.ref o), .val (.int n), .val (.int at_), .val (.int i)] [(.int i)])) (fun _ k_ => XS.iload X0.here hx rfl (hb hby d11_0) rfl k_) ?_
  refine Go.st (S' := T0.setTop (mkF m 3 #[.val (.ref t), .val (.ref o), .val (.int n), .val (.int at_), .val (.int i)] [(.int n), (.int i)])) (fun _ k_ => XS.iloadN X0.here hx rfl (hb hby d11_2) rfl k_) ?_
  by_cases hc3 : i < n
  · skip
    refine Go.st (S' := T0.setTop (mkF m 8 #[.val (.ref t), .val (.ref o), .val (.int n), .val (.int at_), .val (.int i)] [])) (fun _ k_ => XS.icmpYes X0.here hx rfl (pc0 := 3) (pc' := 8) rfl (hb hby d11_3) rfl (tlt hc3).1 (by decide) (by decide) k_) ?_
    refine Go.st (S' := T0.setTop (mkF m 10 #[.val (.ref t), .val (.ref o), .val (.int n), .val (.int at_), .val (.int i)] [(.int i)])) (fun _ k_ => XS.iload X0.here hx rfl (hb hby d11_8) rfl k_) ?_
    refine Go.st (S' := T0.setTop (mkF m 11 #[.val (.ref t), .val (.ref o), .val (.int n), .val (.int at_), .val (.int i)] [(.int at_), (.int i)])) (fun _ k_ => XS.iloadN X0.here hx rfl (hb hby d11_10) rfl k_) ?_
    by_cases hc11 : i < at_
    · skip
      refine Go.st (S' := T0.setTop (mkF m 24 #[.val (.ref t), .val (.ref o), .val (.int n), .val (.int at_), .val (.int i)] [])) (fun _ k_ => XS.icmpYes X0.here hx rfl (pc0 := 11) (pc' := 24) rfl (hb hby d11_11) rfl (tlt hc11).1 (by decide) (by decide) k_) ?_
      obtain ⟨ev, hv1, hv2⟩ := hs hc3 (Or.inl hc11)
      refine Go.st (S' := T0.setTop (mkF m 25 #[.val (.ref t), .val (.ref o), .val (.int n), .val (.int at_), .val (.int i)] [(.ref t)])) (fun _ k_ => XS.aloadN X0.here hx rfl (hb hby d11_24) rfl rfl k_) ?_
      refine Go.st (S' := T0.setTop (mkF m 27 #[.val (.ref t), .val (.ref o), .val (.int n), .val (.int at_), .val (.int i)] [(.int i), (.ref t)])) (fun _ k_ => XS.iload X0.here hx rfl (hb hby d11_25) rfl k_) ?_
      refine Go.st (S' := T0.setTop (mkF m 28 #[.val (.ref t), .val (.ref o), .val (.int n), .val (.int at_), .val (.int i)] [(.int ev)])) (A_t.bload X0 hx hZ e0 (j := i) (v := ev) hi hv1 (g := (mkF m 27 #[.val (.ref t), .val (.ref o), .val (.int n), .val (.int at_), .val (.int i)] [(.int i), (.ref t)])) rfl rfl (hb hby d11_27)) ?_
      refine Go.st (S' := T0.setTop (mkF m 29 #[.val (.ref t), .val (.ref o), .val (.int n), .val (.int at_), .val (.int i)] [(.ref o), (.int ev)])) (fun _ k_ => XS.aloadN X0.here hx rfl (hb hby d11_28) rfl rfl k_) ?_
      refine Go.st (S' := T0.setTop (mkF m 31 #[.val (.ref t), .val (.ref o), .val (.int n), .val (.int at_), .val (.int i)] [(.int i), (.ref o), (.int ev)])) (fun _ k_ => XS.iload X0.here hx rfl (hb hby d11_29) rfl k_) ?_
      refine Go.st (S' := T0.setTop (mkF m 32 #[.val (.ref t), .val (.ref o), .val (.int n), .val (.int at_), .val (.int i)] [(.int ev), (.int ev)])) (A_o.bload X0 hx hZ e0 (j := i) (v := ev) hi hv2 (g := (mkF m 31 #[.val (.ref t), .val (.ref o), .val (.int n), .val (.int at_), .val (.int i)] [(.int i), (.ref o), (.int ev)])) rfl rfl (hb hby d11_31)) ?_
      refine Go.st (S' := T0.setTop (mkF m 35 #[.val (.ref t), .val (.ref o), .val (.int n), .val (.int at_), .val (.int i)] [])) (fun _ k_ => XS.icmpNo X0.here hx rfl (hb hby d11_32) rfl (teq (rfl : ev = ev)).2 k_) ?_
      refine Go.st (S' := T0.setTop (mkF m 36 #[.val (.ref t), .val (.ref o), .val (.int n), .val (.int at_), .val (.int i)] [(.int (1 : Int32))])) (fun _ k_ => XS.iconst X0.here hx rfl (hb hby d11_35) k_) ?_
      refine Go.st (S' := T0.setTop (mkF m 40 #[.val (.ref t), .val (.ref o), .val (.int n), .val (.int at_), .val (.int i)] [(.int (1 : Int32))])) (fun _ k_ => XS.goto X0.here hx rfl (pc0 := 36) (pc' := 40) rfl (hb hby d11_36) (by decide) (by decide) k_) ?_
      exact Go.retN X0 hx (t := .boolean) hret (by simp) hlk (hb hby d11_40) (by decide) (by decide) (by rw [e0]; exact ⟨rfl, N0, rfl⟩)
    · skip
      refine Go.st (S' := T0.setTop (mkF m 14 #[.val (.ref t), .val (.ref o), .val (.int n), .val (.int at_), .val (.int i)] [])) (fun _ k_ => XS.icmpNo X0.here hx rfl (hb hby d11_11) rfl (flt hc11).1 k_) ?_
      refine Go.st (S' := T0.setTop (mkF m 16 #[.val (.ref t), .val (.ref o), .val (.int n), .val (.int at_), .val (.int i)] [(.int i)])) (fun _ k_ => XS.iload X0.here hx rfl (hb hby d11_14) rfl k_) ?_
      refine Go.st (S' := T0.setTop (mkF m 17 #[.val (.ref t), .val (.ref o), .val (.int n), .val (.int at_), .val (.int i)] [(.int at_), (.int i)])) (fun _ k_ => XS.iloadN X0.here hx rfl (hb hby d11_16) rfl k_) ?_
      refine Go.st (S' := T0.setTop (mkF m 18 #[.val (.ref t), .val (.ref o), .val (.int n), .val (.int at_), .val (.int i)] [(.int (4 : Int32)), (.int at_), (.int i)])) (fun _ k_ => XS.iconst X0.here hx rfl (hb hby d11_17) k_) ?_
      refine Go.st (S' := T0.setTop (mkF m 19 #[.val (.ref t), .val (.ref o), .val (.int n), .val (.int at_), .val (.int i)] [(.int (at_ + (4 : Int32))), (.int i)])) (fun _ k_ => XS.iadd X0.here hx rfl (hb hby d11_18) rfl k_) ?_
      by_cases hc19 : i < (at_ + (4 : Int32))
      · skip
        refine Go.st (S' := T0.setTop (mkF m 22 #[.val (.ref t), .val (.ref o), .val (.int n), .val (.int at_), .val (.int i)] [])) (fun _ k_ => XS.icmpNo X0.here hx rfl (hb hby d11_19) rfl (tlt hc19).2.1 k_) ?_
        refine Go.st (S' := T0.setTop (mkF m 23 #[.val (.ref t), .val (.ref o), .val (.int n), .val (.int at_), .val (.int i)] [(.int (1 : Int32))])) (fun _ k_ => XS.iconst X0.here hx rfl (hb hby d11_22) k_) ?_
        exact Go.retN X0 hx (t := .boolean) hret (by simp) hlk (hb hby d11_23) (by decide) (by decide) (by rw [e0]; exact ⟨rfl, N0, rfl⟩)
      · skip
        refine Go.st (S' := T0.setTop (mkF m 24 #[.val (.ref t), .val (.ref o), .val (.int n), .val (.int at_), .val (.int i)] [])) (fun _ k_ => XS.icmpYes X0.here hx rfl (pc0 := 19) (pc' := 24) rfl (hb hby d11_19) rfl (flt hc19).2.1 (by decide) (by decide) k_) ?_
        obtain ⟨ev, hv1, hv2⟩ := hs hc3 (Or.inr hc19)
        refine Go.st (S' := T0.setTop (mkF m 25 #[.val (.ref t), .val (.ref o), .val (.int n), .val (.int at_), .val (.int i)] [(.ref t)])) (fun _ k_ => XS.aloadN X0.here hx rfl (hb hby d11_24) rfl rfl k_) ?_
        refine Go.st (S' := T0.setTop (mkF m 27 #[.val (.ref t), .val (.ref o), .val (.int n), .val (.int at_), .val (.int i)] [(.int i), (.ref t)])) (fun _ k_ => XS.iload X0.here hx rfl (hb hby d11_25) rfl k_) ?_
        refine Go.st (S' := T0.setTop (mkF m 28 #[.val (.ref t), .val (.ref o), .val (.int n), .val (.int at_), .val (.int i)] [(.int ev)])) (A_t.bload X0 hx hZ e0 (j := i) (v := ev) hi hv1 (g := (mkF m 27 #[.val (.ref t), .val (.ref o), .val (.int n), .val (.int at_), .val (.int i)] [(.int i), (.ref t)])) rfl rfl (hb hby d11_27)) ?_
        refine Go.st (S' := T0.setTop (mkF m 29 #[.val (.ref t), .val (.ref o), .val (.int n), .val (.int at_), .val (.int i)] [(.ref o), (.int ev)])) (fun _ k_ => XS.aloadN X0.here hx rfl (hb hby d11_28) rfl rfl k_) ?_
        refine Go.st (S' := T0.setTop (mkF m 31 #[.val (.ref t), .val (.ref o), .val (.int n), .val (.int at_), .val (.int i)] [(.int i), (.ref o), (.int ev)])) (fun _ k_ => XS.iload X0.here hx rfl (hb hby d11_29) rfl k_) ?_
        refine Go.st (S' := T0.setTop (mkF m 32 #[.val (.ref t), .val (.ref o), .val (.int n), .val (.int at_), .val (.int i)] [(.int ev), (.int ev)])) (A_o.bload X0 hx hZ e0 (j := i) (v := ev) hi hv2 (g := (mkF m 31 #[.val (.ref t), .val (.ref o), .val (.int n), .val (.int at_), .val (.int i)] [(.int i), (.ref o), (.int ev)])) rfl rfl (hb hby d11_31)) ?_
        refine Go.st (S' := T0.setTop (mkF m 35 #[.val (.ref t), .val (.ref o), .val (.int n), .val (.int at_), .val (.int i)] [])) (fun _ k_ => XS.icmpNo X0.here hx rfl (hb hby d11_32) rfl (teq (rfl : ev = ev)).2 k_) ?_
        refine Go.st (S' := T0.setTop (mkF m 36 #[.val (.ref t), .val (.ref o), .val (.int n), .val (.int at_), .val (.int i)] [(.int (1 : Int32))])) (fun _ k_ => XS.iconst X0.here hx rfl (hb hby d11_35) k_) ?_
        refine Go.st (S' := T0.setTop (mkF m 40 #[.val (.ref t), .val (.ref o), .val (.int n), .val (.int at_), .val (.int i)] [(.int (1 : Int32))])) (fun _ k_ => XS.goto X0.here hx rfl (pc0 := 36) (pc' := 40) rfl (hb hby d11_36) (by decide) (by decide) k_) ?_
        exact Go.retN X0 hx (t := .boolean) hret (by simp) hlk (hb hby d11_40) (by decide) (by decide) (by rw [e0]; exact ⟨rfl, N0, rfl⟩)
  · skip
    refine Go.st (S' := T0.setTop (mkF m 6 #[.val (.ref t), .val (.ref o), .val (.int n), .val (.int at_), .val (.int i)] [])) (fun _ k_ => XS.icmpNo X0.here hx rfl (hb hby d11_3) rfl (flt hc3).1 k_) ?_
    refine Go.st (S' := T0.setTop (mkF m 7 #[.val (.ref t), .val (.ref o), .val (.int n), .val (.int at_), .val (.int i)] [(.int (1 : Int32))])) (fun _ k_ => XS.iconst X0.here hx rfl (hb hby d11_6) k_) ?_
    exact Go.retN X0 hx (t := .boolean) hret (by simp) hlk (hb hby d11_7) (by decide) (by decide) (by rw [e0]; exact ⟨rfl, N0, rfl⟩)
theorem ef_rm0 (m : MethodId) (x0 : Int32) (x1 : Int64) (x2 : Int32) (x3 : Int32) (x4 : Int32) : entryFrame m #[(.int x0), (.long x1), (.int x2), (.int x3), (.int x4)] maxLocals = mkF m 0 #[.val (.int x0), .val (.long x1), .second, .val (.int x2), .val (.int x3), .val (.int x4), .unset, .unset, .unset, .unset, .unset, .unset] [] := by first | (simp [entryFrame, mkF, argsToLocals, Value.category, maxLocals]; done) | rfl
set_option maxRecDepth 65536 in
set_option maxHeartbeats 40000000 in
theorem rm0 (l : Launch) (Z : State) (a0 : Array Value) (hw : ∀ d ∈ tables_1, d.before a0 Z = true) (ws : List Jvm.Cond) (p0 : Int32) (q1 : Int64) (p2 : Int32) (p3 : Int32) (p4 : Int32) (h0 : Heap) (n0 : Nat) (Z0 : n0 ≤ h0.size) :
    Con l Z x code maxLocals ret ws room_1 #[(.int p0), (.long q1), (.int p2), (.int p3), (.int p4)] h0 (fun v h L => v = some (.int 1) ∧ Fr n0 L) := by
  refine Con.mk (plainFor_of_name pn2) ?_
  intro p e s m below meth c T0 hx hby hml hown hnm hret hlk hZ X0 e0
  have hret : meth.sig.returnType = some .boolean := hret
  have hml : c.maxLocals = 12 := hml
  have hown : s.vm.findClass "com/example/exactor/exactor/sql/BytesSetIntPinLaw" = some m.cls := hown
  have hby : c.code = code := hby
  have N0 := Fr.nil n0
  refine Go.cast (ef_rm0 m p0 q1 p2 p3 p4) ?_
  refine Go.st (S' := T0.setTop (mkF m 2 #[.val (.int p0), .val (.long q1), .second, .val (.int p2), .val (.int p3), .val (.int p4), .unset, .unset, .unset, .unset, .unset, .unset] [(.int (8 : Int32))])) (fun _ k_ => XS.bipush X0.here hx rfl (hb hby at_0) k_) ?_
  obtain ⟨T11, h11, b11, X11, e11, q11, E11, A11, st11⟩ := Ai.new X0 hx hZ (aty := .byte) (w0 hw) rfl e0 (n := (8 : Int32)) (by decide) 8 (by decide) (by decide) (by decide) (by decide) (g := (mkF m 2 #[.val (.int p0), .val (.long q1), .second, .val (.int p2), .val (.int p3), .val (.int p4), .unset, .unset, .unset, .unset, .unset, .unset] [(.int (8 : Int32))])) rfl rfl (hb hby at_2)
  have g_b11 : n0 ≤ b11 := Nat.le_trans Z0 (Nat.le_of_eq q11.symm)
  replace Z0 := Nat.le_trans Z0 E11.1
  have A_b11 : Ai Z h11 b11 .byte [(0 : Int32), (0 : Int32), (0 : Int32), (0 : Int32), (0 : Int32), (0 : Int32), (0 : Int32), (0 : Int32)] := A11
  refine Go.st (S' := T11.setTop (mkF m 4 #[.val (.int p0), .val (.long q1), .second, .val (.int p2), .val (.int p3), .val (.int p4), .unset, .unset, .unset, .unset, .unset, .unset] [(.ref b11)])) (st11) ?_
  refine Go.st (S' := T11.setTop (mkF m 6 #[.val (.int p0), .val (.long q1), .second, .val (.int p2), .val (.int p3), .val (.int p4), .val (.ref b11), .unset, .unset, .unset, .unset, .unset] [])) (fun _ k_ => XS.astore X11.here hx rfl (hb hby at_4) rfl rfl (l' := #[.val (.int p0), .val (.long q1), .second, .val (.int p2), .val (.int p3), .val (.int p4), .val (.ref b11), .unset, .unset, .unset, .unset, .unset]) rfl k_) ?_
  refine Go.st (S' := T11.setTop (mkF m 8 #[.val (.int p0), .val (.long q1), .second, .val (.int p2), .val (.int p3), .val (.int p4), .val (.ref b11), .unset, .unset, .unset, .unset, .unset] [(.ref b11)])) (fun _ k_ => XS.aload X11.here hx rfl (hb hby at_6) rfl rfl k_) ?_
  refine Go.st (S' := T11.setTop (mkF m 9 #[.val (.int p0), .val (.long q1), .second, .val (.int p2), .val (.int p3), .val (.int p4), .val (.ref b11), .unset, .unset, .unset, .unset, .unset] [(.int (0 : Int32)), (.ref b11)])) (fun _ k_ => XS.iconst X11.here hx rfl (hb hby at_8) k_) ?_
  refine Go.st (S' := T11.setTop (mkF m 10 #[.val (.int p0), .val (.long q1), .second, .val (.int p2), .val (.int p3), .val (.int p4), .val (.ref b11), .unset, .unset, .unset, .unset, .unset] [(.long q1), (.int (0 : Int32)), (.ref b11)])) (fun _ k_ => XS.lloadN X11.here hx rfl (hb hby at_9) rfl k_) ?_
  refine Go.st (S' := T11.setTop (mkF m 12 #[.val (.int p0), .val (.long q1), .second, .val (.int p2), .val (.int p3), .val (.int p4), .val (.ref b11), .unset, .unset, .unset, .unset, .unset] [(.int (56 : Int32)), (.long q1), (.int (0 : Int32)), (.ref b11)])) (fun _ k_ => XS.bipush X11.here hx rfl (hb hby at_10) k_) ?_
  refine Go.st (S' := T11.setTop (mkF m 13 #[.val (.int p0), .val (.long q1), .second, .val (.int p2), .val (.int p3), .val (.int p4), .val (.ref b11), .unset, .unset, .unset, .unset, .unset] [(.long ((q1.toUInt64 >>> ((56 : Int32) &&& 0x3f).toInt64.toUInt64).toInt64)), (.int (0 : Int32)), (.ref b11)])) (fun _ k_ => XS.lushr X11.here hx rfl (hb hby at_12) rfl k_) ?_
  refine Go.st (S' := T11.setTop (mkF m 14 #[.val (.int p0), .val (.long q1), .second, .val (.int p2), .val (.int p3), .val (.int p4), .val (.ref b11), .unset, .unset, .unset, .unset, .unset] [(.int (((q1.toUInt64 >>> ((56 : Int32) &&& 0x3f).toInt64.toUInt64).toInt64).toInt32)), (.int (0 : Int32)), (.ref b11)])) (fun _ k_ => XS.l2i X11.here hx rfl (hb hby at_13) rfl k_) ?_
  refine Go.st (S' := T11.setTop (mkF m 15 #[.val (.int p0), .val (.long q1), .second, .val (.int p2), .val (.int p3), .val (.int p4), .val (.ref b11), .unset, .unset, .unset, .unset, .unset] [(.int ((((q1.toUInt64 >>> ((56 : Int32) &&& 0x3f).toInt64.toUInt64).toInt64).toInt32).toInt8.toInt32)), (.int (0 : Int32)), (.ref b11)])) (fun _ k_ => XS.i2b X11.here hx rfl (hb hby at_14) rfl k_) ?_
  obtain ⟨T12, h12, X12, e12, W12, A12, st12⟩ := A_b11.bstore X11 hx hZ e11 (j := (0 : Int32)) (by decide) (Nat.le_of_ble_eq_true rfl) (g := (mkF m 15 #[.val (.int p0), .val (.long q1), .second, .val (.int p2), .val (.int p3), .val (.int p4), .val (.ref b11), .unset, .unset, .unset, .unset, .unset] [(.int ((((q1.toUInt64 >>> ((56 : Int32) &&& 0x3f).toInt64.toUInt64).toInt64).toInt32).toInt8.toInt32)), (.int (0 : Int32)), (.ref b11)])) rfl rfl (hb hby at_15)
  replace A_b11 : Ai Z h12 b11 .byte [(((((q1.toUInt64 >>> ((56 : Int32) &&& 0x3f).toInt64.toUInt64).toInt64).toInt32).toInt8.toInt32).toInt8.toInt32), (0 : Int32), (0 : Int32), (0 : Int32), (0 : Int32), (0 : Int32), (0 : Int32), (0 : Int32)] := A12
  rw [show (((((q1.toUInt64 >>> ((56 : Int32) &&& 0x3f).toInt64.toUInt64).toInt64).toInt32).toInt8.toInt32).toInt8.toInt32) = ((((q1.toUInt64 >>> ((56 : Int32) &&& 0x3f).toInt64.toUInt64).toInt64).toInt32).toInt8.toInt32) from own_bb _] at A_b11
  replace Z0 := Nat.le_trans Z0 (Keep.of_wr W12).1
  have N12 := Fr.snoc X12 N0 g_b11
  refine Go.st (S' := T12.setTop (mkF m 16 #[.val (.int p0), .val (.long q1), .second, .val (.int p2), .val (.int p3), .val (.int p4), .val (.ref b11), .unset, .unset, .unset, .unset, .unset] [])) (st12) ?_
  refine Go.st (S' := T12.setTop (mkF m 18 #[.val (.int p0), .val (.long q1), .second, .val (.int p2), .val (.int p3), .val (.int p4), .val (.ref b11), .unset, .unset, .unset, .unset, .unset] [(.ref b11)])) (fun _ k_ => XS.aload X12.here hx rfl (hb hby at_16) rfl rfl k_) ?_
  refine Go.st (S' := T12.setTop (mkF m 19 #[.val (.int p0), .val (.long q1), .second, .val (.int p2), .val (.int p3), .val (.int p4), .val (.ref b11), .unset, .unset, .unset, .unset, .unset] [(.int (1 : Int32)), (.ref b11)])) (fun _ k_ => XS.iconst X12.here hx rfl (hb hby at_18) k_) ?_
  refine Go.st (S' := T12.setTop (mkF m 20 #[.val (.int p0), .val (.long q1), .second, .val (.int p2), .val (.int p3), .val (.int p4), .val (.ref b11), .unset, .unset, .unset, .unset, .unset] [(.long q1), (.int (1 : Int32)), (.ref b11)])) (fun _ k_ => XS.lloadN X12.here hx rfl (hb hby at_19) rfl k_) ?_
  refine Go.st (S' := T12.setTop (mkF m 22 #[.val (.int p0), .val (.long q1), .second, .val (.int p2), .val (.int p3), .val (.int p4), .val (.ref b11), .unset, .unset, .unset, .unset, .unset] [(.int (48 : Int32)), (.long q1), (.int (1 : Int32)), (.ref b11)])) (fun _ k_ => XS.bipush X12.here hx rfl (hb hby at_20) k_) ?_
  refine Go.st (S' := T12.setTop (mkF m 23 #[.val (.int p0), .val (.long q1), .second, .val (.int p2), .val (.int p3), .val (.int p4), .val (.ref b11), .unset, .unset, .unset, .unset, .unset] [(.long ((q1.toUInt64 >>> ((48 : Int32) &&& 0x3f).toInt64.toUInt64).toInt64)), (.int (1 : Int32)), (.ref b11)])) (fun _ k_ => XS.lushr X12.here hx rfl (hb hby at_22) rfl k_) ?_
  refine Go.st (S' := T12.setTop (mkF m 24 #[.val (.int p0), .val (.long q1), .second, .val (.int p2), .val (.int p3), .val (.int p4), .val (.ref b11), .unset, .unset, .unset, .unset, .unset] [(.int (((q1.toUInt64 >>> ((48 : Int32) &&& 0x3f).toInt64.toUInt64).toInt64).toInt32)), (.int (1 : Int32)), (.ref b11)])) (fun _ k_ => XS.l2i X12.here hx rfl (hb hby at_23) rfl k_) ?_
  refine Go.st (S' := T12.setTop (mkF m 25 #[.val (.int p0), .val (.long q1), .second, .val (.int p2), .val (.int p3), .val (.int p4), .val (.ref b11), .unset, .unset, .unset, .unset, .unset] [(.int ((((q1.toUInt64 >>> ((48 : Int32) &&& 0x3f).toInt64.toUInt64).toInt64).toInt32).toInt8.toInt32)), (.int (1 : Int32)), (.ref b11)])) (fun _ k_ => XS.i2b X12.here hx rfl (hb hby at_24) rfl k_) ?_
  obtain ⟨T13, h13, X13, e13, W13, A13, st13⟩ := A_b11.bstore X12 hx hZ e12 (j := (1 : Int32)) (by decide) (Nat.le_of_ble_eq_true rfl) (g := (mkF m 25 #[.val (.int p0), .val (.long q1), .second, .val (.int p2), .val (.int p3), .val (.int p4), .val (.ref b11), .unset, .unset, .unset, .unset, .unset] [(.int ((((q1.toUInt64 >>> ((48 : Int32) &&& 0x3f).toInt64.toUInt64).toInt64).toInt32).toInt8.toInt32)), (.int (1 : Int32)), (.ref b11)])) rfl rfl (hb hby at_25)
  replace A_b11 : Ai Z h13 b11 .byte [((((q1.toUInt64 >>> ((56 : Int32) &&& 0x3f).toInt64.toUInt64).toInt64).toInt32).toInt8.toInt32), (((((q1.toUInt64 >>> ((48 : Int32) &&& 0x3f).toInt64.toUInt64).toInt64).toInt32).toInt8.toInt32).toInt8.toInt32), (0 : Int32), (0 : Int32), (0 : Int32), (0 : Int32), (0 : Int32), (0 : Int32)] := A13
  rw [show (((((q1.toUInt64 >>> ((48 : Int32) &&& 0x3f).toInt64.toUInt64).toInt64).toInt32).toInt8.toInt32).toInt8.toInt32) = ((((q1.toUInt64 >>> ((48 : Int32) &&& 0x3f).toInt64.toUInt64).toInt64).toInt32).toInt8.toInt32) from own_bb _] at A_b11
  replace Z0 := Nat.le_trans Z0 (Keep.of_wr W13).1
  have N13 := Fr.snoc X13 N12 g_b11
  refine Go.st (S' := T13.setTop (mkF m 26 #[.val (.int p0), .val (.long q1), .second, .val (.int p2), .val (.int p3), .val (.int p4), .val (.ref b11), .unset, .unset, .unset, .unset, .unset] [])) (st13) ?_
  refine Go.st (S' := T13.setTop (mkF m 28 #[.val (.int p0), .val (.long q1), .second, .val (.int p2), .val (.int p3), .val (.int p4), .val (.ref b11), .unset, .unset, .unset, .unset, .unset] [(.ref b11)])) (fun _ k_ => XS.aload X13.here hx rfl (hb hby at_26) rfl rfl k_) ?_
  refine Go.st (S' := T13.setTop (mkF m 29 #[.val (.int p0), .val (.long q1), .second, .val (.int p2), .val (.int p3), .val (.int p4), .val (.ref b11), .unset, .unset, .unset, .unset, .unset] [(.int (2 : Int32)), (.ref b11)])) (fun _ k_ => XS.iconst X13.here hx rfl (hb hby at_28) k_) ?_
  refine Go.st (S' := T13.setTop (mkF m 30 #[.val (.int p0), .val (.long q1), .second, .val (.int p2), .val (.int p3), .val (.int p4), .val (.ref b11), .unset, .unset, .unset, .unset, .unset] [(.long q1), (.int (2 : Int32)), (.ref b11)])) (fun _ k_ => XS.lloadN X13.here hx rfl (hb hby at_29) rfl k_) ?_
  refine Go.st (S' := T13.setTop (mkF m 32 #[.val (.int p0), .val (.long q1), .second, .val (.int p2), .val (.int p3), .val (.int p4), .val (.ref b11), .unset, .unset, .unset, .unset, .unset] [(.int (40 : Int32)), (.long q1), (.int (2 : Int32)), (.ref b11)])) (fun _ k_ => XS.bipush X13.here hx rfl (hb hby at_30) k_) ?_
  refine Go.st (S' := T13.setTop (mkF m 33 #[.val (.int p0), .val (.long q1), .second, .val (.int p2), .val (.int p3), .val (.int p4), .val (.ref b11), .unset, .unset, .unset, .unset, .unset] [(.long ((q1.toUInt64 >>> ((40 : Int32) &&& 0x3f).toInt64.toUInt64).toInt64)), (.int (2 : Int32)), (.ref b11)])) (fun _ k_ => XS.lushr X13.here hx rfl (hb hby at_32) rfl k_) ?_
  refine Go.st (S' := T13.setTop (mkF m 34 #[.val (.int p0), .val (.long q1), .second, .val (.int p2), .val (.int p3), .val (.int p4), .val (.ref b11), .unset, .unset, .unset, .unset, .unset] [(.int (((q1.toUInt64 >>> ((40 : Int32) &&& 0x3f).toInt64.toUInt64).toInt64).toInt32)), (.int (2 : Int32)), (.ref b11)])) (fun _ k_ => XS.l2i X13.here hx rfl (hb hby at_33) rfl k_) ?_
  refine Go.st (S' := T13.setTop (mkF m 35 #[.val (.int p0), .val (.long q1), .second, .val (.int p2), .val (.int p3), .val (.int p4), .val (.ref b11), .unset, .unset, .unset, .unset, .unset] [(.int ((((q1.toUInt64 >>> ((40 : Int32) &&& 0x3f).toInt64.toUInt64).toInt64).toInt32).toInt8.toInt32)), (.int (2 : Int32)), (.ref b11)])) (fun _ k_ => XS.i2b X13.here hx rfl (hb hby at_34) rfl k_) ?_
  obtain ⟨T14, h14, X14, e14, W14, A14, st14⟩ := A_b11.bstore X13 hx hZ e13 (j := (2 : Int32)) (by decide) (Nat.le_of_ble_eq_true rfl) (g := (mkF m 35 #[.val (.int p0), .val (.long q1), .second, .val (.int p2), .val (.int p3), .val (.int p4), .val (.ref b11), .unset, .unset, .unset, .unset, .unset] [(.int ((((q1.toUInt64 >>> ((40 : Int32) &&& 0x3f).toInt64.toUInt64).toInt64).toInt32).toInt8.toInt32)), (.int (2 : Int32)), (.ref b11)])) rfl rfl (hb hby at_35)
  replace A_b11 : Ai Z h14 b11 .byte [((((q1.toUInt64 >>> ((56 : Int32) &&& 0x3f).toInt64.toUInt64).toInt64).toInt32).toInt8.toInt32), ((((q1.toUInt64 >>> ((48 : Int32) &&& 0x3f).toInt64.toUInt64).toInt64).toInt32).toInt8.toInt32), (((((q1.toUInt64 >>> ((40 : Int32) &&& 0x3f).toInt64.toUInt64).toInt64).toInt32).toInt8.toInt32).toInt8.toInt32), (0 : Int32), (0 : Int32), (0 : Int32), (0 : Int32), (0 : Int32)] := A14
  rw [show (((((q1.toUInt64 >>> ((40 : Int32) &&& 0x3f).toInt64.toUInt64).toInt64).toInt32).toInt8.toInt32).toInt8.toInt32) = ((((q1.toUInt64 >>> ((40 : Int32) &&& 0x3f).toInt64.toUInt64).toInt64).toInt32).toInt8.toInt32) from own_bb _] at A_b11
  replace Z0 := Nat.le_trans Z0 (Keep.of_wr W14).1
  have N14 := Fr.snoc X14 N13 g_b11
  refine Go.st (S' := T14.setTop (mkF m 36 #[.val (.int p0), .val (.long q1), .second, .val (.int p2), .val (.int p3), .val (.int p4), .val (.ref b11), .unset, .unset, .unset, .unset, .unset] [])) (st14) ?_
  refine Go.st (S' := T14.setTop (mkF m 38 #[.val (.int p0), .val (.long q1), .second, .val (.int p2), .val (.int p3), .val (.int p4), .val (.ref b11), .unset, .unset, .unset, .unset, .unset] [(.ref b11)])) (fun _ k_ => XS.aload X14.here hx rfl (hb hby at_36) rfl rfl k_) ?_
  refine Go.st (S' := T14.setTop (mkF m 39 #[.val (.int p0), .val (.long q1), .second, .val (.int p2), .val (.int p3), .val (.int p4), .val (.ref b11), .unset, .unset, .unset, .unset, .unset] [(.int (3 : Int32)), (.ref b11)])) (fun _ k_ => XS.iconst X14.here hx rfl (hb hby at_38) k_) ?_
  refine Go.st (S' := T14.setTop (mkF m 40 #[.val (.int p0), .val (.long q1), .second, .val (.int p2), .val (.int p3), .val (.int p4), .val (.ref b11), .unset, .unset, .unset, .unset, .unset] [(.long q1), (.int (3 : Int32)), (.ref b11)])) (fun _ k_ => XS.lloadN X14.here hx rfl (hb hby at_39) rfl k_) ?_
  refine Go.st (S' := T14.setTop (mkF m 42 #[.val (.int p0), .val (.long q1), .second, .val (.int p2), .val (.int p3), .val (.int p4), .val (.ref b11), .unset, .unset, .unset, .unset, .unset] [(.int (32 : Int32)), (.long q1), (.int (3 : Int32)), (.ref b11)])) (fun _ k_ => XS.bipush X14.here hx rfl (hb hby at_40) k_) ?_
  refine Go.st (S' := T14.setTop (mkF m 43 #[.val (.int p0), .val (.long q1), .second, .val (.int p2), .val (.int p3), .val (.int p4), .val (.ref b11), .unset, .unset, .unset, .unset, .unset] [(.long ((q1.toUInt64 >>> ((32 : Int32) &&& 0x3f).toInt64.toUInt64).toInt64)), (.int (3 : Int32)), (.ref b11)])) (fun _ k_ => XS.lushr X14.here hx rfl (hb hby at_42) rfl k_) ?_
  refine Go.st (S' := T14.setTop (mkF m 44 #[.val (.int p0), .val (.long q1), .second, .val (.int p2), .val (.int p3), .val (.int p4), .val (.ref b11), .unset, .unset, .unset, .unset, .unset] [(.int (((q1.toUInt64 >>> ((32 : Int32) &&& 0x3f).toInt64.toUInt64).toInt64).toInt32)), (.int (3 : Int32)), (.ref b11)])) (fun _ k_ => XS.l2i X14.here hx rfl (hb hby at_43) rfl k_) ?_
  refine Go.st (S' := T14.setTop (mkF m 45 #[.val (.int p0), .val (.long q1), .second, .val (.int p2), .val (.int p3), .val (.int p4), .val (.ref b11), .unset, .unset, .unset, .unset, .unset] [(.int ((((q1.toUInt64 >>> ((32 : Int32) &&& 0x3f).toInt64.toUInt64).toInt64).toInt32).toInt8.toInt32)), (.int (3 : Int32)), (.ref b11)])) (fun _ k_ => XS.i2b X14.here hx rfl (hb hby at_44) rfl k_) ?_
  obtain ⟨T15, h15, X15, e15, W15, A15, st15⟩ := A_b11.bstore X14 hx hZ e14 (j := (3 : Int32)) (by decide) (Nat.le_of_ble_eq_true rfl) (g := (mkF m 45 #[.val (.int p0), .val (.long q1), .second, .val (.int p2), .val (.int p3), .val (.int p4), .val (.ref b11), .unset, .unset, .unset, .unset, .unset] [(.int ((((q1.toUInt64 >>> ((32 : Int32) &&& 0x3f).toInt64.toUInt64).toInt64).toInt32).toInt8.toInt32)), (.int (3 : Int32)), (.ref b11)])) rfl rfl (hb hby at_45)
  replace A_b11 : Ai Z h15 b11 .byte [((((q1.toUInt64 >>> ((56 : Int32) &&& 0x3f).toInt64.toUInt64).toInt64).toInt32).toInt8.toInt32), ((((q1.toUInt64 >>> ((48 : Int32) &&& 0x3f).toInt64.toUInt64).toInt64).toInt32).toInt8.toInt32), ((((q1.toUInt64 >>> ((40 : Int32) &&& 0x3f).toInt64.toUInt64).toInt64).toInt32).toInt8.toInt32), (((((q1.toUInt64 >>> ((32 : Int32) &&& 0x3f).toInt64.toUInt64).toInt64).toInt32).toInt8.toInt32).toInt8.toInt32), (0 : Int32), (0 : Int32), (0 : Int32), (0 : Int32)] := A15
  rw [show (((((q1.toUInt64 >>> ((32 : Int32) &&& 0x3f).toInt64.toUInt64).toInt64).toInt32).toInt8.toInt32).toInt8.toInt32) = ((((q1.toUInt64 >>> ((32 : Int32) &&& 0x3f).toInt64.toUInt64).toInt64).toInt32).toInt8.toInt32) from own_bb _] at A_b11
  replace Z0 := Nat.le_trans Z0 (Keep.of_wr W15).1
  have N15 := Fr.snoc X15 N14 g_b11
  refine Go.st (S' := T15.setTop (mkF m 46 #[.val (.int p0), .val (.long q1), .second, .val (.int p2), .val (.int p3), .val (.int p4), .val (.ref b11), .unset, .unset, .unset, .unset, .unset] [])) (st15) ?_
  refine Go.st (S' := T15.setTop (mkF m 48 #[.val (.int p0), .val (.long q1), .second, .val (.int p2), .val (.int p3), .val (.int p4), .val (.ref b11), .unset, .unset, .unset, .unset, .unset] [(.ref b11)])) (fun _ k_ => XS.aload X15.here hx rfl (hb hby at_46) rfl rfl k_) ?_
  refine Go.st (S' := T15.setTop (mkF m 49 #[.val (.int p0), .val (.long q1), .second, .val (.int p2), .val (.int p3), .val (.int p4), .val (.ref b11), .unset, .unset, .unset, .unset, .unset] [(.int (4 : Int32)), (.ref b11)])) (fun _ k_ => XS.iconst X15.here hx rfl (hb hby at_48) k_) ?_
  refine Go.st (S' := T15.setTop (mkF m 50 #[.val (.int p0), .val (.long q1), .second, .val (.int p2), .val (.int p3), .val (.int p4), .val (.ref b11), .unset, .unset, .unset, .unset, .unset] [(.long q1), (.int (4 : Int32)), (.ref b11)])) (fun _ k_ => XS.lloadN X15.here hx rfl (hb hby at_49) rfl k_) ?_
  refine Go.st (S' := T15.setTop (mkF m 52 #[.val (.int p0), .val (.long q1), .second, .val (.int p2), .val (.int p3), .val (.int p4), .val (.ref b11), .unset, .unset, .unset, .unset, .unset] [(.int (24 : Int32)), (.long q1), (.int (4 : Int32)), (.ref b11)])) (fun _ k_ => XS.bipush X15.here hx rfl (hb hby at_50) k_) ?_
  refine Go.st (S' := T15.setTop (mkF m 53 #[.val (.int p0), .val (.long q1), .second, .val (.int p2), .val (.int p3), .val (.int p4), .val (.ref b11), .unset, .unset, .unset, .unset, .unset] [(.long ((q1.toUInt64 >>> ((24 : Int32) &&& 0x3f).toInt64.toUInt64).toInt64)), (.int (4 : Int32)), (.ref b11)])) (fun _ k_ => XS.lushr X15.here hx rfl (hb hby at_52) rfl k_) ?_
  refine Go.st (S' := T15.setTop (mkF m 54 #[.val (.int p0), .val (.long q1), .second, .val (.int p2), .val (.int p3), .val (.int p4), .val (.ref b11), .unset, .unset, .unset, .unset, .unset] [(.int (((q1.toUInt64 >>> ((24 : Int32) &&& 0x3f).toInt64.toUInt64).toInt64).toInt32)), (.int (4 : Int32)), (.ref b11)])) (fun _ k_ => XS.l2i X15.here hx rfl (hb hby at_53) rfl k_) ?_
  refine Go.st (S' := T15.setTop (mkF m 55 #[.val (.int p0), .val (.long q1), .second, .val (.int p2), .val (.int p3), .val (.int p4), .val (.ref b11), .unset, .unset, .unset, .unset, .unset] [(.int ((((q1.toUInt64 >>> ((24 : Int32) &&& 0x3f).toInt64.toUInt64).toInt64).toInt32).toInt8.toInt32)), (.int (4 : Int32)), (.ref b11)])) (fun _ k_ => XS.i2b X15.here hx rfl (hb hby at_54) rfl k_) ?_
  obtain ⟨T16, h16, X16, e16, W16, A16, st16⟩ := A_b11.bstore X15 hx hZ e15 (j := (4 : Int32)) (by decide) (Nat.le_of_ble_eq_true rfl) (g := (mkF m 55 #[.val (.int p0), .val (.long q1), .second, .val (.int p2), .val (.int p3), .val (.int p4), .val (.ref b11), .unset, .unset, .unset, .unset, .unset] [(.int ((((q1.toUInt64 >>> ((24 : Int32) &&& 0x3f).toInt64.toUInt64).toInt64).toInt32).toInt8.toInt32)), (.int (4 : Int32)), (.ref b11)])) rfl rfl (hb hby at_55)
  replace A_b11 : Ai Z h16 b11 .byte [((((q1.toUInt64 >>> ((56 : Int32) &&& 0x3f).toInt64.toUInt64).toInt64).toInt32).toInt8.toInt32), ((((q1.toUInt64 >>> ((48 : Int32) &&& 0x3f).toInt64.toUInt64).toInt64).toInt32).toInt8.toInt32), ((((q1.toUInt64 >>> ((40 : Int32) &&& 0x3f).toInt64.toUInt64).toInt64).toInt32).toInt8.toInt32), ((((q1.toUInt64 >>> ((32 : Int32) &&& 0x3f).toInt64.toUInt64).toInt64).toInt32).toInt8.toInt32), (((((q1.toUInt64 >>> ((24 : Int32) &&& 0x3f).toInt64.toUInt64).toInt64).toInt32).toInt8.toInt32).toInt8.toInt32), (0 : Int32), (0 : Int32), (0 : Int32)] := A16
  rw [show (((((q1.toUInt64 >>> ((24 : Int32) &&& 0x3f).toInt64.toUInt64).toInt64).toInt32).toInt8.toInt32).toInt8.toInt32) = ((((q1.toUInt64 >>> ((24 : Int32) &&& 0x3f).toInt64.toUInt64).toInt64).toInt32).toInt8.toInt32) from own_bb _] at A_b11
  replace Z0 := Nat.le_trans Z0 (Keep.of_wr W16).1
  have N16 := Fr.snoc X16 N15 g_b11
  refine Go.st (S' := T16.setTop (mkF m 56 #[.val (.int p0), .val (.long q1), .second, .val (.int p2), .val (.int p3), .val (.int p4), .val (.ref b11), .unset, .unset, .unset, .unset, .unset] [])) (st16) ?_
  refine Go.st (S' := T16.setTop (mkF m 58 #[.val (.int p0), .val (.long q1), .second, .val (.int p2), .val (.int p3), .val (.int p4), .val (.ref b11), .unset, .unset, .unset, .unset, .unset] [(.ref b11)])) (fun _ k_ => XS.aload X16.here hx rfl (hb hby at_56) rfl rfl k_) ?_
  refine Go.st (S' := T16.setTop (mkF m 59 #[.val (.int p0), .val (.long q1), .second, .val (.int p2), .val (.int p3), .val (.int p4), .val (.ref b11), .unset, .unset, .unset, .unset, .unset] [(.int (5 : Int32)), (.ref b11)])) (fun _ k_ => XS.iconst X16.here hx rfl (hb hby at_58) k_) ?_
  refine Go.st (S' := T16.setTop (mkF m 60 #[.val (.int p0), .val (.long q1), .second, .val (.int p2), .val (.int p3), .val (.int p4), .val (.ref b11), .unset, .unset, .unset, .unset, .unset] [(.long q1), (.int (5 : Int32)), (.ref b11)])) (fun _ k_ => XS.lloadN X16.here hx rfl (hb hby at_59) rfl k_) ?_
  refine Go.st (S' := T16.setTop (mkF m 62 #[.val (.int p0), .val (.long q1), .second, .val (.int p2), .val (.int p3), .val (.int p4), .val (.ref b11), .unset, .unset, .unset, .unset, .unset] [(.int (16 : Int32)), (.long q1), (.int (5 : Int32)), (.ref b11)])) (fun _ k_ => XS.bipush X16.here hx rfl (hb hby at_60) k_) ?_
  refine Go.st (S' := T16.setTop (mkF m 63 #[.val (.int p0), .val (.long q1), .second, .val (.int p2), .val (.int p3), .val (.int p4), .val (.ref b11), .unset, .unset, .unset, .unset, .unset] [(.long ((q1.toUInt64 >>> ((16 : Int32) &&& 0x3f).toInt64.toUInt64).toInt64)), (.int (5 : Int32)), (.ref b11)])) (fun _ k_ => XS.lushr X16.here hx rfl (hb hby at_62) rfl k_) ?_
  refine Go.st (S' := T16.setTop (mkF m 64 #[.val (.int p0), .val (.long q1), .second, .val (.int p2), .val (.int p3), .val (.int p4), .val (.ref b11), .unset, .unset, .unset, .unset, .unset] [(.int (((q1.toUInt64 >>> ((16 : Int32) &&& 0x3f).toInt64.toUInt64).toInt64).toInt32)), (.int (5 : Int32)), (.ref b11)])) (fun _ k_ => XS.l2i X16.here hx rfl (hb hby at_63) rfl k_) ?_
  refine Go.st (S' := T16.setTop (mkF m 65 #[.val (.int p0), .val (.long q1), .second, .val (.int p2), .val (.int p3), .val (.int p4), .val (.ref b11), .unset, .unset, .unset, .unset, .unset] [(.int ((((q1.toUInt64 >>> ((16 : Int32) &&& 0x3f).toInt64.toUInt64).toInt64).toInt32).toInt8.toInt32)), (.int (5 : Int32)), (.ref b11)])) (fun _ k_ => XS.i2b X16.here hx rfl (hb hby at_64) rfl k_) ?_
  obtain ⟨T17, h17, X17, e17, W17, A17, st17⟩ := A_b11.bstore X16 hx hZ e16 (j := (5 : Int32)) (by decide) (Nat.le_of_ble_eq_true rfl) (g := (mkF m 65 #[.val (.int p0), .val (.long q1), .second, .val (.int p2), .val (.int p3), .val (.int p4), .val (.ref b11), .unset, .unset, .unset, .unset, .unset] [(.int ((((q1.toUInt64 >>> ((16 : Int32) &&& 0x3f).toInt64.toUInt64).toInt64).toInt32).toInt8.toInt32)), (.int (5 : Int32)), (.ref b11)])) rfl rfl (hb hby at_65)
  replace A_b11 : Ai Z h17 b11 .byte [((((q1.toUInt64 >>> ((56 : Int32) &&& 0x3f).toInt64.toUInt64).toInt64).toInt32).toInt8.toInt32), ((((q1.toUInt64 >>> ((48 : Int32) &&& 0x3f).toInt64.toUInt64).toInt64).toInt32).toInt8.toInt32), ((((q1.toUInt64 >>> ((40 : Int32) &&& 0x3f).toInt64.toUInt64).toInt64).toInt32).toInt8.toInt32), ((((q1.toUInt64 >>> ((32 : Int32) &&& 0x3f).toInt64.toUInt64).toInt64).toInt32).toInt8.toInt32), ((((q1.toUInt64 >>> ((24 : Int32) &&& 0x3f).toInt64.toUInt64).toInt64).toInt32).toInt8.toInt32), (((((q1.toUInt64 >>> ((16 : Int32) &&& 0x3f).toInt64.toUInt64).toInt64).toInt32).toInt8.toInt32).toInt8.toInt32), (0 : Int32), (0 : Int32)] := A17
  rw [show (((((q1.toUInt64 >>> ((16 : Int32) &&& 0x3f).toInt64.toUInt64).toInt64).toInt32).toInt8.toInt32).toInt8.toInt32) = ((((q1.toUInt64 >>> ((16 : Int32) &&& 0x3f).toInt64.toUInt64).toInt64).toInt32).toInt8.toInt32) from own_bb _] at A_b11
  replace Z0 := Nat.le_trans Z0 (Keep.of_wr W17).1
  have N17 := Fr.snoc X17 N16 g_b11
  refine Go.st (S' := T17.setTop (mkF m 66 #[.val (.int p0), .val (.long q1), .second, .val (.int p2), .val (.int p3), .val (.int p4), .val (.ref b11), .unset, .unset, .unset, .unset, .unset] [])) (st17) ?_
  refine Go.st (S' := T17.setTop (mkF m 68 #[.val (.int p0), .val (.long q1), .second, .val (.int p2), .val (.int p3), .val (.int p4), .val (.ref b11), .unset, .unset, .unset, .unset, .unset] [(.ref b11)])) (fun _ k_ => XS.aload X17.here hx rfl (hb hby at_66) rfl rfl k_) ?_
  refine Go.st (S' := T17.setTop (mkF m 70 #[.val (.int p0), .val (.long q1), .second, .val (.int p2), .val (.int p3), .val (.int p4), .val (.ref b11), .unset, .unset, .unset, .unset, .unset] [(.int (6 : Int32)), (.ref b11)])) (fun _ k_ => XS.bipush X17.here hx rfl (hb hby at_68) k_) ?_
  refine Go.st (S' := T17.setTop (mkF m 71 #[.val (.int p0), .val (.long q1), .second, .val (.int p2), .val (.int p3), .val (.int p4), .val (.ref b11), .unset, .unset, .unset, .unset, .unset] [(.long q1), (.int (6 : Int32)), (.ref b11)])) (fun _ k_ => XS.lloadN X17.here hx rfl (hb hby at_70) rfl k_) ?_
  refine Go.st (S' := T17.setTop (mkF m 73 #[.val (.int p0), .val (.long q1), .second, .val (.int p2), .val (.int p3), .val (.int p4), .val (.ref b11), .unset, .unset, .unset, .unset, .unset] [(.int (8 : Int32)), (.long q1), (.int (6 : Int32)), (.ref b11)])) (fun _ k_ => XS.bipush X17.here hx rfl (hb hby at_71) k_) ?_
  refine Go.st (S' := T17.setTop (mkF m 74 #[.val (.int p0), .val (.long q1), .second, .val (.int p2), .val (.int p3), .val (.int p4), .val (.ref b11), .unset, .unset, .unset, .unset, .unset] [(.long ((q1.toUInt64 >>> ((8 : Int32) &&& 0x3f).toInt64.toUInt64).toInt64)), (.int (6 : Int32)), (.ref b11)])) (fun _ k_ => XS.lushr X17.here hx rfl (hb hby at_73) rfl k_) ?_
  refine Go.st (S' := T17.setTop (mkF m 75 #[.val (.int p0), .val (.long q1), .second, .val (.int p2), .val (.int p3), .val (.int p4), .val (.ref b11), .unset, .unset, .unset, .unset, .unset] [(.int (((q1.toUInt64 >>> ((8 : Int32) &&& 0x3f).toInt64.toUInt64).toInt64).toInt32)), (.int (6 : Int32)), (.ref b11)])) (fun _ k_ => XS.l2i X17.here hx rfl (hb hby at_74) rfl k_) ?_
  refine Go.st (S' := T17.setTop (mkF m 76 #[.val (.int p0), .val (.long q1), .second, .val (.int p2), .val (.int p3), .val (.int p4), .val (.ref b11), .unset, .unset, .unset, .unset, .unset] [(.int ((((q1.toUInt64 >>> ((8 : Int32) &&& 0x3f).toInt64.toUInt64).toInt64).toInt32).toInt8.toInt32)), (.int (6 : Int32)), (.ref b11)])) (fun _ k_ => XS.i2b X17.here hx rfl (hb hby at_75) rfl k_) ?_
  obtain ⟨T18, h18, X18, e18, W18, A18, st18⟩ := A_b11.bstore X17 hx hZ e17 (j := (6 : Int32)) (by decide) (Nat.le_of_ble_eq_true rfl) (g := (mkF m 76 #[.val (.int p0), .val (.long q1), .second, .val (.int p2), .val (.int p3), .val (.int p4), .val (.ref b11), .unset, .unset, .unset, .unset, .unset] [(.int ((((q1.toUInt64 >>> ((8 : Int32) &&& 0x3f).toInt64.toUInt64).toInt64).toInt32).toInt8.toInt32)), (.int (6 : Int32)), (.ref b11)])) rfl rfl (hb hby at_76)
  replace A_b11 : Ai Z h18 b11 .byte [((((q1.toUInt64 >>> ((56 : Int32) &&& 0x3f).toInt64.toUInt64).toInt64).toInt32).toInt8.toInt32), ((((q1.toUInt64 >>> ((48 : Int32) &&& 0x3f).toInt64.toUInt64).toInt64).toInt32).toInt8.toInt32), ((((q1.toUInt64 >>> ((40 : Int32) &&& 0x3f).toInt64.toUInt64).toInt64).toInt32).toInt8.toInt32), ((((q1.toUInt64 >>> ((32 : Int32) &&& 0x3f).toInt64.toUInt64).toInt64).toInt32).toInt8.toInt32), ((((q1.toUInt64 >>> ((24 : Int32) &&& 0x3f).toInt64.toUInt64).toInt64).toInt32).toInt8.toInt32), ((((q1.toUInt64 >>> ((16 : Int32) &&& 0x3f).toInt64.toUInt64).toInt64).toInt32).toInt8.toInt32), (((((q1.toUInt64 >>> ((8 : Int32) &&& 0x3f).toInt64.toUInt64).toInt64).toInt32).toInt8.toInt32).toInt8.toInt32), (0 : Int32)] := A18
  rw [show (((((q1.toUInt64 >>> ((8 : Int32) &&& 0x3f).toInt64.toUInt64).toInt64).toInt32).toInt8.toInt32).toInt8.toInt32) = ((((q1.toUInt64 >>> ((8 : Int32) &&& 0x3f).toInt64.toUInt64).toInt64).toInt32).toInt8.toInt32) from own_bb _] at A_b11
  replace Z0 := Nat.le_trans Z0 (Keep.of_wr W18).1
  have N18 := Fr.snoc X18 N17 g_b11
  refine Go.st (S' := T18.setTop (mkF m 77 #[.val (.int p0), .val (.long q1), .second, .val (.int p2), .val (.int p3), .val (.int p4), .val (.ref b11), .unset, .unset, .unset, .unset, .unset] [])) (st18) ?_
  refine Go.st (S' := T18.setTop (mkF m 79 #[.val (.int p0), .val (.long q1), .second, .val (.int p2), .val (.int p3), .val (.int p4), .val (.ref b11), .unset, .unset, .unset, .unset, .unset] [(.ref b11)])) (fun _ k_ => XS.aload X18.here hx rfl (hb hby at_77) rfl rfl k_) ?_
  refine Go.st (S' := T18.setTop (mkF m 81 #[.val (.int p0), .val (.long q1), .second, .val (.int p2), .val (.int p3), .val (.int p4), .val (.ref b11), .unset, .unset, .unset, .unset, .unset] [(.int (7 : Int32)), (.ref b11)])) (fun _ k_ => XS.bipush X18.here hx rfl (hb hby at_79) k_) ?_
  refine Go.st (S' := T18.setTop (mkF m 82 #[.val (.int p0), .val (.long q1), .second, .val (.int p2), .val (.int p3), .val (.int p4), .val (.ref b11), .unset, .unset, .unset, .unset, .unset] [(.long q1), (.int (7 : Int32)), (.ref b11)])) (fun _ k_ => XS.lloadN X18.here hx rfl (hb hby at_81) rfl k_) ?_
  refine Go.st (S' := T18.setTop (mkF m 83 #[.val (.int p0), .val (.long q1), .second, .val (.int p2), .val (.int p3), .val (.int p4), .val (.ref b11), .unset, .unset, .unset, .unset, .unset] [(.int (q1.toInt32)), (.int (7 : Int32)), (.ref b11)])) (fun _ k_ => XS.l2i X18.here hx rfl (hb hby at_82) rfl k_) ?_
  refine Go.st (S' := T18.setTop (mkF m 84 #[.val (.int p0), .val (.long q1), .second, .val (.int p2), .val (.int p3), .val (.int p4), .val (.ref b11), .unset, .unset, .unset, .unset, .unset] [(.int ((q1.toInt32).toInt8.toInt32)), (.int (7 : Int32)), (.ref b11)])) (fun _ k_ => XS.i2b X18.here hx rfl (hb hby at_83) rfl k_) ?_
  obtain ⟨T19, h19, X19, e19, W19, A19, st19⟩ := A_b11.bstore X18 hx hZ e18 (j := (7 : Int32)) (by decide) (Nat.le_of_ble_eq_true rfl) (g := (mkF m 84 #[.val (.int p0), .val (.long q1), .second, .val (.int p2), .val (.int p3), .val (.int p4), .val (.ref b11), .unset, .unset, .unset, .unset, .unset] [(.int ((q1.toInt32).toInt8.toInt32)), (.int (7 : Int32)), (.ref b11)])) rfl rfl (hb hby at_84)
  replace A_b11 : Ai Z h19 b11 .byte [((((q1.toUInt64 >>> ((56 : Int32) &&& 0x3f).toInt64.toUInt64).toInt64).toInt32).toInt8.toInt32), ((((q1.toUInt64 >>> ((48 : Int32) &&& 0x3f).toInt64.toUInt64).toInt64).toInt32).toInt8.toInt32), ((((q1.toUInt64 >>> ((40 : Int32) &&& 0x3f).toInt64.toUInt64).toInt64).toInt32).toInt8.toInt32), ((((q1.toUInt64 >>> ((32 : Int32) &&& 0x3f).toInt64.toUInt64).toInt64).toInt32).toInt8.toInt32), ((((q1.toUInt64 >>> ((24 : Int32) &&& 0x3f).toInt64.toUInt64).toInt64).toInt32).toInt8.toInt32), ((((q1.toUInt64 >>> ((16 : Int32) &&& 0x3f).toInt64.toUInt64).toInt64).toInt32).toInt8.toInt32), ((((q1.toUInt64 >>> ((8 : Int32) &&& 0x3f).toInt64.toUInt64).toInt64).toInt32).toInt8.toInt32), (((q1.toInt32).toInt8.toInt32).toInt8.toInt32)] := A19
  rw [show (((q1.toInt32).toInt8.toInt32).toInt8.toInt32) = ((q1.toInt32).toInt8.toInt32) from own_bb _] at A_b11
  replace Z0 := Nat.le_trans Z0 (Keep.of_wr W19).1
  have N19 := Fr.snoc X19 N18 g_b11
  refine Go.st (S' := T19.setTop (mkF m 85 #[.val (.int p0), .val (.long q1), .second, .val (.int p2), .val (.int p3), .val (.int p4), .val (.ref b11), .unset, .unset, .unset, .unset, .unset] [])) (st19) ?_
  refine Go.st (S' := T19.setTop (mkF m 86 #[.val (.int p0), .val (.long q1), .second, .val (.int p2), .val (.int p3), .val (.int p4), .val (.ref b11), .unset, .unset, .unset, .unset, .unset] [(.int (4 : Int32))])) (fun _ k_ => XS.iconst X19.here hx rfl (hb hby at_85) k_) ?_
  refine Go.st (S' := T19.setTop (mkF m 87 #[.val (.int p0), .val (.long q1), .second, .val (.int p2), .val (.int p3), .val (.int p4), .val (.ref b11), .unset, .unset, .unset, .unset, .unset] [(.int p2), (.int (4 : Int32))])) (fun _ k_ => XS.iloadN X19.here hx rfl (hb hby at_86) rfl k_) ?_
  refine Go.st (S' := T19.setTop (mkF m 89 #[.val (.int p0), .val (.long q1), .second, .val (.int p2), .val (.int p3), .val (.int p4), .val (.ref b11), .unset, .unset, .unset, .unset, .unset] [(.int (7 : Int32)), (.int p2), (.int (4 : Int32))])) (fun _ k_ => XS.bipush X19.here hx rfl (hb hby at_87) k_) ?_
  refine Go.st (S' := T19.setTop (mkF m 90 #[.val (.int p0), .val (.long q1), .second, .val (.int p2), .val (.int p3), .val (.int p4), .val (.ref b11), .unset, .unset, .unset, .unset, .unset] [(.int (p2 &&& (7 : Int32))), (.int (4 : Int32))])) (fun _ k_ => XS.iand X19.here hx rfl (hb hby at_89) rfl k_) ?_
  refine Go.st (S' := T19.setTop (mkF m 91 #[.val (.int p0), .val (.long q1), .second, .val (.int p2), .val (.int p3), .val (.int p4), .val (.ref b11), .unset, .unset, .unset, .unset, .unset] [(.int (5 : Int32)), (.int (p2 &&& (7 : Int32))), (.int (4 : Int32))])) (fun _ k_ => XS.iconst X19.here hx rfl (hb hby at_90) k_) ?_
  refine Go.st (S' := T19.setTop (mkF m 92 #[.val (.int p0), .val (.long q1), .second, .val (.int p2), .val (.int p3), .val (.int p4), .val (.ref b11), .unset, .unset, .unset, .unset, .unset] [(.int ((p2 &&& (7 : Int32)) % (5 : Int32))), (.int (4 : Int32))])) (fun _ k_ => iremM X19 hx rfl (hb hby at_91) rfl (by decide) k_) ?_
  refine Go.st (S' := T19.setTop (mkF m 93 #[.val (.int p0), .val (.long q1), .second, .val (.int p2), .val (.int p3), .val (.int p4), .val (.ref b11), .unset, .unset, .unset, .unset, .unset] [(.int ((4 : Int32) + ((p2 &&& (7 : Int32)) % (5 : Int32))))])) (fun _ k_ => XS.iadd X19.here hx rfl (hb hby at_92) rfl k_) ?_
  have r1 := own_n48 p2
  obtain ⟨n, q_n, r1n⟩ := own_natI (Int.le_trans (by decide) r1.1)
  rw [q_n]
  refine Go.st (S' := T19.setTop (mkF m 95 #[.val (.int p0), .val (.long q1), .second, .val (.int p2), .val (.int p3), .val (.int p4), .val (.ref b11), .val (.int n.toInt32), .unset, .unset, .unset, .unset] [])) (fun _ k_ => XS.istore X19.here hx rfl (hb hby at_93) rfl (l' := #[.val (.int p0), .val (.long q1), .second, .val (.int p2), .val (.int p3), .val (.int p4), .val (.ref b11), .val (.int n.toInt32), .unset, .unset, .unset, .unset]) rfl k_) ?_
  refine Go.st (S' := T19.setTop (mkF m 97 #[.val (.int p0), .val (.long q1), .second, .val (.int p2), .val (.int p3), .val (.int p4), .val (.ref b11), .val (.int n.toInt32), .unset, .unset, .unset, .unset] [(.int p3)])) (fun _ k_ => XS.iload X19.here hx rfl (hb hby at_95) rfl k_) ?_
  refine Go.st (S' := T19.setTop (mkF m 99 #[.val (.int p0), .val (.long q1), .second, .val (.int p2), .val (.int p3), .val (.int p4), .val (.ref b11), .val (.int n.toInt32), .unset, .unset, .unset, .unset] [(.int (2147483647 : Int32)), (.int p3)])) (X19.ldcInt hx hown (mvT hZ (w1 hw)) (g := (mkF m 97 #[.val (.int p0), .val (.long q1), .second, .val (.int p2), .val (.int p3), .val (.int p4), .val (.ref b11), .val (.int n.toInt32), .unset, .unset, .unset, .unset] [(.int p3)])) rfl (hb hby at_97)) ?_
  refine Go.st (S' := T19.setTop (mkF m 100 #[.val (.int p0), .val (.long q1), .second, .val (.int p2), .val (.int p3), .val (.int p4), .val (.ref b11), .val (.int n.toInt32), .unset, .unset, .unset, .unset] [(.int (p3 &&& (2147483647 : Int32)))])) (fun _ k_ => XS.iand X19.here hx rfl (hb hby at_99) rfl k_) ?_
  refine Go.st (S' := T19.setTop (mkF m 102 #[.val (.int p0), .val (.long q1), .second, .val (.int p2), .val (.int p3), .val (.int p4), .val (.ref b11), .val (.int n.toInt32), .unset, .unset, .unset, .unset] [(.int n.toInt32), (.int (p3 &&& (2147483647 : Int32)))])) (fun _ k_ => XS.iload X19.here hx rfl (hb hby at_100) rfl k_) ?_
  refine Go.st (S' := T19.setTop (mkF m 103 #[.val (.int p0), .val (.long q1), .second, .val (.int p2), .val (.int p3), .val (.int p4), .val (.ref b11), .val (.int n.toInt32), .unset, .unset, .unset, .unset] [(.int (3 : Int32)), (.int n.toInt32), (.int (p3 &&& (2147483647 : Int32)))])) (fun _ k_ => XS.iconst X19.here hx rfl (hb hby at_102) k_) ?_
  refine Go.st (S' := T19.setTop (mkF m 104 #[.val (.int p0), .val (.long q1), .second, .val (.int p2), .val (.int p3), .val (.int p4), .val (.ref b11), .val (.int n.toInt32), .unset, .unset, .unset, .unset] [(.int (n.toInt32 - (3 : Int32))), (.int (p3 &&& (2147483647 : Int32)))])) (fun _ k_ => XS.isub X19.here hx rfl (hb hby at_103) rfl k_) ?_
  have s1 : (n.toInt32 - (3 : Int32)).toInt = n - 3 := by rw [own_sub _ _ (by decide) (by rw [own_ti (by omega), show (3 : Int32).toInt = 3 from rfl]; omega), own_ti (by omega)]; rfl
  have nz1 : ¬ (n.toInt32 - (3 : Int32)) = 0 := fun q => by have q := congrArg Int32.toInt q; rw [s1, show (0 : Int32).toInt = 0 from rfl] at q; omega
  have r2 := own_mod p3 (n.toInt32 - (3 : Int32)) (by rw [s1]; omega)
  rw [s1] at r2
  refine Go.st (S' := T19.setTop (mkF m 105 #[.val (.int p0), .val (.long q1), .second, .val (.int p2), .val (.int p3), .val (.int p4), .val (.ref b11), .val (.int n.toInt32), .unset, .unset, .unset, .unset] [(.int ((p3 &&& (2147483647 : Int32)) % (n.toInt32 - (3 : Int32))))])) (fun _ k_ => iremM X19 hx rfl (hb hby at_104) rfl nz1 k_) ?_
  obtain ⟨k, q_k, r2n⟩ := own_natI r2.1
  rw [q_k]
  refine Go.st (S' := T19.setTop (mkF m 107 #[.val (.int p0), .val (.long q1), .second, .val (.int p2), .val (.int p3), .val (.int p4), .val (.ref b11), .val (.int n.toInt32), .val (.int k.toInt32), .unset, .unset, .unset] [])) (fun _ k_ => XS.istore X19.here hx rfl (hb hby at_105) rfl (l' := #[.val (.int p0), .val (.long q1), .second, .val (.int p2), .val (.int p3), .val (.int p4), .val (.ref b11), .val (.int n.toInt32), .val (.int k.toInt32), .unset, .unset, .unset]) rfl k_) ?_
  obtain ⟨T20, h20, X20, e20, E20, A20, D20, -, st20⟩ := newO X19 hx hZ hown (w2 hw) (w3 hw) (w4 hw) e19 (g := (mkF m 107 #[.val (.int p0), .val (.long q1), .second, .val (.int p2), .val (.int p3), .val (.int p4), .val (.ref b11), .val (.int n.toInt32), .val (.int k.toInt32), .unset, .unset, .unset] [])) rfl (hb hby at_107) (by decide) (by decide)
  obtain ⟨b20, q20⟩ : ∃ z, z = h19.size := ⟨_, rfl⟩
  rw [← q20] at A20 D20 st20
  have ne_b11_b20 : b11 ≠ b20 := Nat.ne_of_lt (Nat.lt_of_lt_of_le A_b11.lt (Nat.le_of_eq q20.symm))
  have g_b20 : n0 ≤ b20 := Nat.le_trans Z0 (Nat.le_of_eq q20.symm)
  replace A_b11 := A_b11.ext E20
  replace Z0 := Nat.le_trans Z0 E20.1
  have E_b20 := A20
  have F_array_b20 : Fld Z h20 b20 "com/example/exactor/exactor/sql/Bytes" "array" "[B" .null := D20 (Or.inl (w16 hw)) (ty := (.array .byte)) (by decide)
  have F_length_b20 : Fld Z h20 b20 "com/example/exactor/exactor/sql/Bytes" "length" "I" (.int (0 : Int32)) := D20 (Or.inl (w27 hw)) (ty := .int) (by decide)
  refine Go.st (S' := T20.setTop (mkF m 110 #[.val (.int p0), .val (.long q1), .second, .val (.int p2), .val (.int p3), .val (.int p4), .val (.ref b11), .val (.int n.toInt32), .val (.int k.toInt32), .unset, .unset, .unset] [(.ref b20)])) (st20) ?_
  refine Go.st (S' := T20.setTop (mkF m 111 #[.val (.int p0), .val (.long q1), .second, .val (.int p2), .val (.int p3), .val (.int p4), .val (.ref b11), .val (.int n.toInt32), .val (.int k.toInt32), .unset, .unset, .unset] [(.ref b20), (.ref b20)])) (fun _ k_ => XS.dup X20.here hx rfl (hb hby at_110) rfl rfl k_) ?_
  refine Go.st (S' := T20.setTop (mkF m 112 #[.val (.int p0), .val (.long q1), .second, .val (.int p2), .val (.int p3), .val (.int p4), .val (.ref b11), .val (.int n.toInt32), .val (.int k.toInt32), .unset, .unset, .unset] [(.int p0), (.ref b20), (.ref b20)])) (fun _ k_ => XS.iloadN X20.here hx rfl (hb hby at_111) rfl k_) ?_
  refine Go.st (S' := T20.setTop (mkF m 114 #[.val (.int p0), .val (.long q1), .second, .val (.int p2), .val (.int p3), .val (.int p4), .val (.ref b11), .val (.int n.toInt32), .val (.int k.toInt32), .unset, .unset, .unset] [(.int (15 : Int32)), (.int p0), (.ref b20), (.ref b20)])) (fun _ k_ => XS.bipush X20.here hx rfl (hb hby at_112) k_) ?_
  refine Go.st (S' := T20.setTop (mkF m 115 #[.val (.int p0), .val (.long q1), .second, .val (.int p2), .val (.int p3), .val (.int p4), .val (.ref b11), .val (.int n.toInt32), .val (.int k.toInt32), .unset, .unset, .unset] [(.int (p0 &&& (15 : Int32))), (.ref b20), (.ref b20)])) (fun _ k_ => XS.iand X20.here hx rfl (hb hby at_114) rfl k_) ?_
  have rc := c_and p0 15 (by decide)
  rw [show (15 : Int32).toInt = 15 from rfl] at rc
  obtain ⟨v21, T21, h21, L21, X21, e21, hQ21, st21⟩ := callIn X20 hx hZ rfl hown (w5 hw) (w6 hw) (w4 hw) (w7 hw) (by decide) (W := 1) (argsL := [(.int (p0 &&& (15 : Int32)))]) (rest := [(.ref b20)]) e20 (by_init l Z a0 hw b20 (p0 &&& (15 : Int32)) h20 n0 Z0 E_b20 F_array_b20 F_length_b20 g_b20 rc) (by decide) (by decide) pd2 rfl (g := (mkF m 115 #[.val (.int p0), .val (.long q1), .second, .val (.int p2), .val (.int p3), .val (.int p4), .val (.ref b11), .val (.int n.toInt32), .val (.int k.toInt32), .unset, .unset, .unset] [(.int (p0 &&& (15 : Int32))), (.ref b20), (.ref b20)])) rfl (by rw [hml]; rfl) rfl (by show 2 * 0 + _ ≤ _; exact Nat.le_of_eq rfl) (hb hby at_115) (by decide) (by decide)
  obtain ⟨rfl, Nq21, Kq21, c21, zs21, hb21, BY_b20, hz21, hz221⟩ := hQ21
  have N21 := Fr.app N19 Nq21
  have ne_b11_c21 : b11 ≠ c21 := Nat.ne_of_lt (Nat.lt_of_lt_of_le A_b11.lt hb21)
  have ne_b20_c21 : b20 ≠ c21 := Nat.ne_of_lt (Nat.lt_of_lt_of_le E_b20.lt hb21)
  have g_c21 : n0 ≤ c21 := Nat.le_trans Z0 hb21
  replace A_b11 := A_b11.keep Kq21 (ninS ne_b11_b20 nin0)
  replace Z0 := Nat.le_trans Z0 Kq21.1
  refine Go.st (S' := T21.setTop (mkF m 118 #[.val (.int p0), .val (.long q1), .second, .val (.int p2), .val (.int p3), .val (.int p4), .val (.ref b11), .val (.int n.toInt32), .val (.int k.toInt32), .unset, .unset, .unset] [(.ref b20)])) (st21) ?_
  refine Go.st (S' := T21.setTop (mkF m 120 #[.val (.int p0), .val (.long q1), .second, .val (.int p2), .val (.int p3), .val (.int p4), .val (.ref b11), .val (.int n.toInt32), .val (.int k.toInt32), .val (.ref b20), .unset, .unset] [])) (fun _ k_ => XS.astore X21.here hx rfl (hb hby at_118) rfl rfl (l' := #[.val (.int p0), .val (.long q1), .second, .val (.int p2), .val (.int p3), .val (.int p4), .val (.ref b11), .val (.int n.toInt32), .val (.int k.toInt32), .val (.ref b20), .unset, .unset]) rfl k_) ?_
  refine Go.st (S' := T21.setTop (mkF m 122 #[.val (.int p0), .val (.long q1), .second, .val (.int p2), .val (.int p3), .val (.int p4), .val (.ref b11), .val (.int n.toInt32), .val (.int k.toInt32), .val (.ref b20), .unset, .unset] [(.ref b20)])) (fun _ k_ => XS.aload X21.here hx rfl (hb hby at_120) rfl rfl k_) ?_
  refine Go.st (S' := T21.setTop (mkF m 124 #[.val (.int p0), .val (.long q1), .second, .val (.int p2), .val (.int p3), .val (.int p4), .val (.ref b11), .val (.int n.toInt32), .val (.int k.toInt32), .val (.ref b20), .unset, .unset] [(.ref b11), (.ref b20)])) (fun _ k_ => XS.aload X21.here hx rfl (hb hby at_122) rfl rfl k_) ?_
  refine Go.st (S' := T21.setTop (mkF m 125 #[.val (.int p0), .val (.long q1), .second, .val (.int p2), .val (.int p3), .val (.int p4), .val (.ref b11), .val (.int n.toInt32), .val (.int k.toInt32), .val (.ref b20), .unset, .unset] [(.int (0 : Int32)), (.ref b11), (.ref b20)])) (fun _ k_ => XS.iconst X21.here hx rfl (hb hby at_124) k_) ?_
  refine Go.st (S' := T21.setTop (mkF m 127 #[.val (.int p0), .val (.long q1), .second, .val (.int p2), .val (.int p3), .val (.int p4), .val (.ref b11), .val (.int n.toInt32), .val (.int k.toInt32), .val (.ref b20), .unset, .unset] [(.int n.toInt32), (.int (0 : Int32)), (.ref b11), (.ref b20)])) (fun _ k_ => XS.iload X21.here hx rfl (hb hby at_125) rfl k_) ?_
  have BY_b20' := BY_b20
  obtain ⟨v22, T22, h22, L22, X22, e22, hQ22, st22⟩ := callVi X21 hx hZ hown (w17 hw) (w18 hw) (w20 hw) (w19 hw) (w4 hw) (w21 hw) (by decide) (W := 0) (argsL := [(.ref b11), (.int (0 : Int32)), (.int n.toInt32)]) (rest := []) e21 BY_b20.1 (by_write l Z a0 hw b20 c21 [] zs21 b11 n.toInt32 [((((q1.toUInt64 >>> ((56 : Int32) &&& 0x3f).toInt64.toUInt64).toInt64).toInt32).toInt8.toInt32), ((((q1.toUInt64 >>> ((48 : Int32) &&& 0x3f).toInt64.toUInt64).toInt64).toInt32).toInt8.toInt32), ((((q1.toUInt64 >>> ((40 : Int32) &&& 0x3f).toInt64.toUInt64).toInt64).toInt32).toInt8.toInt32), ((((q1.toUInt64 >>> ((32 : Int32) &&& 0x3f).toInt64.toUInt64).toInt64).toInt32).toInt8.toInt32), ((((q1.toUInt64 >>> ((24 : Int32) &&& 0x3f).toInt64.toUInt64).toInt64).toInt32).toInt8.toInt32), ((((q1.toUInt64 >>> ((16 : Int32) &&& 0x3f).toInt64.toUInt64).toInt64).toInt32).toInt8.toInt32), ((((q1.toUInt64 >>> ((8 : Int32) &&& 0x3f).toInt64.toUInt64).toInt64).toInt32).toInt8.toInt32), ((q1.toInt32).toInt8.toInt32)] h21 n0 Z0 BY_b20 ne_b20_c21 g_b20 g_c21 A_b11 (Ne.symm ne_b11_b20) ne_b11_c21 rfl (own_tpos (by omega)) (by rw [own_tn (by omega)]; exact (by omega : n ≤ 8)) (fun q => by rw [own_tn (by omega)] at q ⊢; have z1 := hz221; exact ⟨by simp; omega, by simp; omega⟩)) (by decide) (by decide) pd3 rfl (g := (mkF m 127 #[.val (.int p0), .val (.long q1), .second, .val (.int p2), .val (.int p3), .val (.int p4), .val (.ref b11), .val (.int n.toInt32), .val (.int k.toInt32), .val (.ref b20), .unset, .unset] [(.int n.toInt32), (.int (0 : Int32)), (.ref b11), (.ref b20)])) rfl (by rw [hml]; rfl) rfl (by show 2 * 0 + _ ≤ _; exact Nat.le_of_eq rfl) (hb hby at_127) (by decide) (by decide)
  obtain ⟨rfl, Nq22, Kq22, c22, zs22, hb22, BY_b20⟩ := hQ22
  have N22 := Fr.app N21 Nq22
  have ne_b20_c22 : b20 ≠ c22 := hb22.elim (fun q => q ▸ ne_b20_c21) (fun q => Nat.ne_of_lt (Nat.lt_of_lt_of_le BY_b20'.1.lt q))
  have ne_b11_c22 : b11 ≠ c22 := hb22.elim (fun q => q ▸ ne_b11_c21) (fun q => Nat.ne_of_lt (Nat.lt_of_lt_of_le A_b11.lt q))
  have g_c22 : n0 ≤ c22 := hb22.elim (fun q => q ▸ g_c21) (fun q => Nat.le_trans Z0 q)
  replace A_b11 := A_b11.keep Kq22 (ninS ne_b11_b20 (ninS ne_b11_c21 nin0))
  replace Z0 := Nat.le_trans Z0 Kq22.1
  rw [own_tn (by omega)] at BY_b20
  obtain ⟨xs, q_xs⟩ : ∃ z : List Int32, z = [((((q1.toUInt64 >>> ((56 : Int32) &&& 0x3f).toInt64.toUInt64).toInt64).toInt32).toInt8.toInt32), ((((q1.toUInt64 >>> ((48 : Int32) &&& 0x3f).toInt64.toUInt64).toInt64).toInt32).toInt8.toInt32), ((((q1.toUInt64 >>> ((40 : Int32) &&& 0x3f).toInt64.toUInt64).toInt64).toInt32).toInt8.toInt32), ((((q1.toUInt64 >>> ((32 : Int32) &&& 0x3f).toInt64.toUInt64).toInt64).toInt32).toInt8.toInt32), ((((q1.toUInt64 >>> ((24 : Int32) &&& 0x3f).toInt64.toUInt64).toInt64).toInt32).toInt8.toInt32), ((((q1.toUInt64 >>> ((16 : Int32) &&& 0x3f).toInt64.toUInt64).toInt64).toInt32).toInt8.toInt32), ((((q1.toUInt64 >>> ((8 : Int32) &&& 0x3f).toInt64.toUInt64).toInt64).toInt32).toInt8.toInt32), ((q1.toInt32).toInt8.toInt32)] := ⟨_, rfl⟩
  rw [← q_xs] at BY_b20 A_b11
  have hx8 : xs.length = 8 := by rw [q_xs]; rfl
  have hl : (xs.take n).length = n := by rw [List.length_take]; omega
  refine Go.st (S' := T22.setTop (mkF m 130 #[.val (.int p0), .val (.long q1), .second, .val (.int p2), .val (.int p3), .val (.int p4), .val (.ref b11), .val (.int n.toInt32), .val (.int k.toInt32), .val (.ref b20), .unset, .unset] [])) (st22) ?_
  refine Go.st (S' := T22.setTop (mkF m 132 #[.val (.int p0), .val (.long q1), .second, .val (.int p2), .val (.int p3), .val (.int p4), .val (.ref b11), .val (.int n.toInt32), .val (.int k.toInt32), .val (.ref b20), .unset, .unset] [(.ref b20)])) (fun _ k_ => XS.aload X22.here hx rfl (hb hby at_130) rfl rfl k_) ?_
  refine Go.st (S' := T22.setTop (mkF m 134 #[.val (.int p0), .val (.long q1), .second, .val (.int p2), .val (.int p3), .val (.int p4), .val (.ref b11), .val (.int n.toInt32), .val (.int k.toInt32), .val (.ref b20), .unset, .unset] [(.int k.toInt32), (.ref b20)])) (fun _ k_ => XS.iload X22.here hx rfl (hb hby at_132) rfl k_) ?_
  refine Go.st (S' := T22.setTop (mkF m 136 #[.val (.int p0), .val (.long q1), .second, .val (.int p2), .val (.int p3), .val (.int p4), .val (.ref b11), .val (.int n.toInt32), .val (.int k.toInt32), .val (.ref b20), .unset, .unset] [(.int p4), (.int k.toInt32), (.ref b20)])) (fun _ k_ => XS.iload X22.here hx rfl (hb hby at_134) rfl k_) ?_
  obtain ⟨v23, T23, h23, L23, X23, e23, hQ23, st23⟩ := callVi X22 hx hZ hown (w40 hw) (w41 hw) (w43 hw) (w42 hw) (w4 hw) (w44 hw) (by decide) (W := 0) (argsL := [(.int k.toInt32), (.int p4)]) (rest := []) e22 BY_b20.1 (by_setint l Z a0 hw b20 c22 (xs.take n) zs22 k.toInt32 p4 h22 n0 Z0 BY_b20 ne_b20_c22 g_b20 g_c22 (by rw [own_ti (by omega)]; omega) (by rw [own_ti (by omega), hl]; omega) (by rw [hl]; omega)) (by decide) (by decide) pd4 rfl (g := (mkF m 136 #[.val (.int p0), .val (.long q1), .second, .val (.int p2), .val (.int p3), .val (.int p4), .val (.ref b11), .val (.int n.toInt32), .val (.int k.toInt32), .val (.ref b20), .unset, .unset] [(.int p4), (.int k.toInt32), (.ref b20)])) rfl (by rw [hml]; rfl) rfl (by show 2 * 0 + _ ≤ _; exact Nat.le_of_eq rfl) (hb hby at_136) (by decide) (by decide)
  obtain ⟨rfl, Nq23, Kq23, BY_b20⟩ := hQ23
  have N23 := Fr.app N22 Nq23
  replace A_b11 := A_b11.keep Kq23 (ninS ne_b11_c22 nin0)
  replace Z0 := Nat.le_trans Z0 Kq23.1
  rw [own_tn (by omega)] at BY_b20
  have hl2 : (own_si (xs.take n) k p4).length = n := by rw [own_si_len, hl]
  obtain ⟨wz1, wz2, wz3, wz4⟩ := own_si_at (xs.take n) k p4 (by rw [hl]; omega)
  refine Go.st (S' := T23.setTop (mkF m 139 #[.val (.int p0), .val (.long q1), .second, .val (.int p2), .val (.int p3), .val (.int p4), .val (.ref b11), .val (.int n.toInt32), .val (.int k.toInt32), .val (.ref b20), .unset, .unset] [])) (st23) ?_
  refine Go.st (S' := T23.setTop (mkF m 141 #[.val (.int p0), .val (.long q1), .second, .val (.int p2), .val (.int p3), .val (.int p4), .val (.ref b11), .val (.int n.toInt32), .val (.int k.toInt32), .val (.ref b20), .unset, .unset] [(.ref b20)])) (fun _ k_ => XS.aload X23.here hx rfl (hb hby at_139) rfl rfl k_) ?_
  obtain ⟨v24, T24, h24, L24, X24, e24, hQ24, st24⟩ := callVi X23 hx hZ hown (w45 hw) (w46 hw) (w48 hw) (w47 hw) (w4 hw) (w49 hw) (by decide) (W := 0) (argsL := []) (rest := []) e23 BY_b20.1 (by_len l Z a0 hw b20 c22 (own_si (xs.take n) k p4) zs22 h23 n0 Z0 BY_b20 ne_b20_c22 g_b20 g_c22) (by decide) (by decide) pd5 rfl (g := (mkF m 141 #[.val (.int p0), .val (.long q1), .second, .val (.int p2), .val (.int p3), .val (.int p4), .val (.ref b11), .val (.int n.toInt32), .val (.int k.toInt32), .val (.ref b20), .unset, .unset] [(.ref b20)])) rfl (by rw [hml]; rfl) rfl (by show 2 * 0 + _ ≤ _; exact Nat.le_of_eq rfl) (hb hby at_141) (by decide) (by decide)
  obtain ⟨rfl, Nq24, hh24⟩ := hQ24
  rw [hh24] at e24
  have N24 := Fr.app N23 Nq24
  refine Go.st (S' := T24.setTop (mkF m 144 #[.val (.int p0), .val (.long q1), .second, .val (.int p2), .val (.int p3), .val (.int p4), .val (.ref b11), .val (.int n.toInt32), .val (.int k.toInt32), .val (.ref b20), .unset, .unset] [(.int (own_si (xs.take n) k p4).length.toInt32)])) (st24) ?_
  refine Go.st (S' := T24.setTop (mkF m 146 #[.val (.int p0), .val (.long q1), .second, .val (.int p2), .val (.int p3), .val (.int p4), .val (.ref b11), .val (.int n.toInt32), .val (.int k.toInt32), .val (.ref b20), .unset, .unset] [(.int n.toInt32), (.int (own_si (xs.take n) k p4).length.toInt32)])) (fun _ k_ => XS.iload X24.here hx rfl (hb hby at_144) rfl k_) ?_
  refine Go.st (S' := T24.setTop (mkF m 151 #[.val (.int p0), .val (.long q1), .second, .val (.int p2), .val (.int p3), .val (.int p4), .val (.ref b11), .val (.int n.toInt32), .val (.int k.toInt32), .val (.ref b20), .unset, .unset] [])) (fun _ k_ => XS.icmpYes X24.here hx rfl (pc0 := 146) (pc' := 151) rfl (hb hby at_146) rfl (teq ((by rw [hl2]))).1 (by decide) (by decide) k_) ?_
  refine Go.st (S' := T24.setTop (mkF m 153 #[.val (.int p0), .val (.long q1), .second, .val (.int p2), .val (.int p3), .val (.int p4), .val (.ref b11), .val (.int n.toInt32), .val (.int k.toInt32), .val (.ref b20), .unset, .unset] [(.ref b20)])) (fun _ k_ => XS.aload X24.here hx rfl (hb hby at_151) rfl rfl k_) ?_
  obtain ⟨v25, T25, h25, L25, X25, e25, hQ25, st25⟩ := callVi X24 hx hZ hown (w50 hw) (w51 hw) (w53 hw) (w52 hw) (w4 hw) (w54 hw) (by decide) (W := 0) (argsL := []) (rest := []) e24 BY_b20.1 (by_toarr l Z a0 hw b20 c22 (own_si (xs.take n) k p4) zs22 h23 n0 Z0 BY_b20 ne_b20_c22 g_b20 g_c22 (by rw [hl2]; omega)) (by decide) (by decide) pd6 rfl (g := (mkF m 153 #[.val (.int p0), .val (.long q1), .second, .val (.int p2), .val (.int p3), .val (.int p4), .val (.ref b11), .val (.int n.toInt32), .val (.int k.toInt32), .val (.ref b20), .unset, .unset] [(.ref b20)])) rfl (by rw [hml]; rfl) rfl (by show 2 * 0 + _ ≤ _; exact Nat.le_of_eq rfl) (hb hby at_153) (by decide) (by decide)
  obtain ⟨Nq25, Kq25, r25, rfl, A_r25, hr25⟩ := hQ25
  have N25 := Fr.app N24 Nq25
  replace A_b11 := A_b11.keep Kq25 nin0
  replace Z0 := Nat.le_trans Z0 Kq25.1
  refine Go.st (S' := T25.setTop (mkF m 156 #[.val (.int p0), .val (.long q1), .second, .val (.int p2), .val (.int p3), .val (.int p4), .val (.ref b11), .val (.int n.toInt32), .val (.int k.toInt32), .val (.ref b20), .unset, .unset] [(.ref r25)])) (st25) ?_
  refine Go.st (S' := T25.setTop (mkF m 158 #[.val (.int p0), .val (.long q1), .second, .val (.int p2), .val (.int p3), .val (.int p4), .val (.ref b11), .val (.int n.toInt32), .val (.int k.toInt32), .val (.ref b20), .val (.ref r25), .unset] [])) (fun _ k_ => XS.astore X25.here hx rfl (hb hby at_156) rfl rfl (l' := #[.val (.int p0), .val (.long q1), .second, .val (.int p2), .val (.int p3), .val (.int p4), .val (.ref b11), .val (.int n.toInt32), .val (.int k.toInt32), .val (.ref b20), .val (.ref r25), .unset]) rfl k_) ?_
  refine Go.st (S' := T25.setTop (mkF m 160 #[.val (.int p0), .val (.long q1), .second, .val (.int p2), .val (.int p3), .val (.int p4), .val (.ref b11), .val (.int n.toInt32), .val (.int k.toInt32), .val (.ref b20), .val (.ref r25), .unset] [(.ref r25)])) (fun _ k_ => XS.aload X25.here hx rfl (hb hby at_158) rfl rfl k_) ?_
  refine Go.st (S' := T25.setTop (mkF m 161 #[.val (.int p0), .val (.long q1), .second, .val (.int p2), .val (.int p3), .val (.int p4), .val (.ref b11), .val (.int n.toInt32), .val (.int k.toInt32), .val (.ref b20), .val (.ref r25), .unset] [(.int n.toInt32)])) (A_r25.length X25 hx hZ e25 (n := n.toInt32) (by rw [hl2]) (g := (mkF m 160 #[.val (.int p0), .val (.long q1), .second, .val (.int p2), .val (.int p3), .val (.int p4), .val (.ref b11), .val (.int n.toInt32), .val (.int k.toInt32), .val (.ref b20), .val (.ref r25), .unset] [(.ref r25)])) rfl rfl (hb hby at_160)) ?_
  refine Go.st (S' := T25.setTop (mkF m 163 #[.val (.int p0), .val (.long q1), .second, .val (.int p2), .val (.int p3), .val (.int p4), .val (.ref b11), .val (.int n.toInt32), .val (.int k.toInt32), .val (.ref b20), .val (.ref r25), .unset] [(.int n.toInt32), (.int n.toInt32)])) (fun _ k_ => XS.iload X25.here hx rfl (hb hby at_161) rfl k_) ?_
  refine Go.st (S' := T25.setTop (mkF m 168 #[.val (.int p0), .val (.long q1), .second, .val (.int p2), .val (.int p3), .val (.int p4), .val (.ref b11), .val (.int n.toInt32), .val (.int k.toInt32), .val (.ref b20), .val (.ref r25), .unset] [])) (fun _ k_ => XS.icmpYes X25.here hx rfl (pc0 := 163) (pc' := 168) rfl (hb hby at_163) rfl (teq ((rfl : n.toInt32 = n.toInt32))).1 (by decide) (by decide) k_) ?_
  refine Go.st (S' := T25.setTop (mkF m 170 #[.val (.int p0), .val (.long q1), .second, .val (.int p2), .val (.int p3), .val (.int p4), .val (.ref b11), .val (.int n.toInt32), .val (.int k.toInt32), .val (.ref b20), .val (.ref r25), .unset] [(.ref r25)])) (fun _ k_ => XS.aload X25.here hx rfl (hb hby at_168) rfl rfl k_) ?_
  refine Go.st (S' := T25.setTop (mkF m 172 #[.val (.int p0), .val (.long q1), .second, .val (.int p2), .val (.int p3), .val (.int p4), .val (.ref b11), .val (.int n.toInt32), .val (.int k.toInt32), .val (.ref b20), .val (.ref r25), .unset] [(.int k.toInt32), (.ref r25)])) (fun _ k_ => XS.iload X25.here hx rfl (hb hby at_170) rfl k_) ?_
  refine Go.st (S' := T25.setTop (mkF m 173 #[.val (.int p0), .val (.long q1), .second, .val (.int p2), .val (.int p3), .val (.int p4), .val (.ref b11), .val (.int n.toInt32), .val (.int k.toInt32), .val (.ref b20), .val (.ref r25), .unset] [(.int (((p4.toUInt32 >>> ((24 : Int32) &&& 31).toUInt32).toInt32).toInt8.toInt32))])) (A_r25.bload X25 hx hZ e25 (j := k.toInt32) (v := (((p4.toUInt32 >>> ((24 : Int32) &&& 31).toUInt32).toInt32).toInt8.toInt32)) (own_tpos (by omega)) (by rw [own_tn (by omega)]; exact wz1) (g := (mkF m 172 #[.val (.int p0), .val (.long q1), .second, .val (.int p2), .val (.int p3), .val (.int p4), .val (.ref b11), .val (.int n.toInt32), .val (.int k.toInt32), .val (.ref b20), .val (.ref r25), .unset] [(.int k.toInt32), (.ref r25)])) rfl rfl (hb hby at_172)) ?_
  refine Go.st (S' := T25.setTop (mkF m 176 #[.val (.int p0), .val (.long q1), .second, .val (.int p2), .val (.int p3), .val (.int p4), .val (.ref b11), .val (.int n.toInt32), .val (.int k.toInt32), .val (.ref b20), .val (.ref r25), .unset] [(.int (255 : Int32)), (.int (((p4.toUInt32 >>> ((24 : Int32) &&& 31).toUInt32).toInt32).toInt8.toInt32))])) (fun _ k_ => XS.sipush X25.here hx rfl (hb hby at_173) k_) ?_
  refine Go.st (S' := T25.setTop (mkF m 177 #[.val (.int p0), .val (.long q1), .second, .val (.int p2), .val (.int p3), .val (.int p4), .val (.ref b11), .val (.int n.toInt32), .val (.int k.toInt32), .val (.ref b20), .val (.ref r25), .unset] [(.int ((((p4.toUInt32 >>> ((24 : Int32) &&& 31).toUInt32).toInt32).toInt8.toInt32) &&& (255 : Int32)))])) (fun _ k_ => XS.iand X25.here hx rfl (hb hby at_176) rfl k_) ?_
  refine Go.st (S' := T25.setTop (mkF m 179 #[.val (.int p0), .val (.long q1), .second, .val (.int p2), .val (.int p3), .val (.int p4), .val (.ref b11), .val (.int n.toInt32), .val (.int k.toInt32), .val (.ref b20), .val (.ref r25), .unset] [(.int (24 : Int32)), (.int ((((p4.toUInt32 >>> ((24 : Int32) &&& 31).toUInt32).toInt32).toInt8.toInt32) &&& (255 : Int32)))])) (fun _ k_ => XS.bipush X25.here hx rfl (hb hby at_177) k_) ?_
  refine Go.st (S' := T25.setTop (mkF m 180 #[.val (.int p0), .val (.long q1), .second, .val (.int p2), .val (.int p3), .val (.int p4), .val (.ref b11), .val (.int n.toInt32), .val (.int k.toInt32), .val (.ref b20), .val (.ref r25), .unset] [(.int (((((p4.toUInt32 >>> ((24 : Int32) &&& 31).toUInt32).toInt32).toInt8.toInt32) &&& (255 : Int32)) <<< ((24 : Int32) &&& 31)))])) (fun _ k_ => XS.ishl X25.here hx rfl (hb hby at_179) rfl k_) ?_
  refine Go.st (S' := T25.setTop (mkF m 182 #[.val (.int p0), .val (.long q1), .second, .val (.int p2), .val (.int p3), .val (.int p4), .val (.ref b11), .val (.int n.toInt32), .val (.int k.toInt32), .val (.ref b20), .val (.ref r25), .unset] [(.ref r25), (.int (((((p4.toUInt32 >>> ((24 : Int32) &&& 31).toUInt32).toInt32).toInt8.toInt32) &&& (255 : Int32)) <<< ((24 : Int32) &&& 31)))])) (fun _ k_ => XS.aload X25.here hx rfl (hb hby at_180) rfl rfl k_) ?_
  refine Go.st (S' := T25.setTop (mkF m 184 #[.val (.int p0), .val (.long q1), .second, .val (.int p2), .val (.int p3), .val (.int p4), .val (.ref b11), .val (.int n.toInt32), .val (.int k.toInt32), .val (.ref b20), .val (.ref r25), .unset] [(.int k.toInt32), (.ref r25), (.int (((((p4.toUInt32 >>> ((24 : Int32) &&& 31).toUInt32).toInt32).toInt8.toInt32) &&& (255 : Int32)) <<< ((24 : Int32) &&& 31)))])) (fun _ k_ => XS.iload X25.here hx rfl (hb hby at_182) rfl k_) ?_
  refine Go.st (S' := T25.setTop (mkF m 185 #[.val (.int p0), .val (.long q1), .second, .val (.int p2), .val (.int p3), .val (.int p4), .val (.ref b11), .val (.int n.toInt32), .val (.int k.toInt32), .val (.ref b20), .val (.ref r25), .unset] [(.int (1 : Int32)), (.int k.toInt32), (.ref r25), (.int (((((p4.toUInt32 >>> ((24 : Int32) &&& 31).toUInt32).toInt32).toInt8.toInt32) &&& (255 : Int32)) <<< ((24 : Int32) &&& 31)))])) (fun _ k_ => XS.iconst X25.here hx rfl (hb hby at_184) k_) ?_
  refine Go.st (S' := T25.setTop (mkF m 186 #[.val (.int p0), .val (.long q1), .second, .val (.int p2), .val (.int p3), .val (.int p4), .val (.ref b11), .val (.int n.toInt32), .val (.int k.toInt32), .val (.ref b20), .val (.ref r25), .unset] [(.int (k.toInt32 + (1 : Int32))), (.ref r25), (.int (((((p4.toUInt32 >>> ((24 : Int32) &&& 31).toUInt32).toInt32).toInt8.toInt32) &&& (255 : Int32)) <<< ((24 : Int32) &&& 31)))])) (fun _ k_ => XS.iadd X25.here hx rfl (hb hby at_185) rfl k_) ?_
  refine Go.st (S' := T25.setTop (mkF m 187 #[.val (.int p0), .val (.long q1), .second, .val (.int p2), .val (.int p3), .val (.int p4), .val (.ref b11), .val (.int n.toInt32), .val (.int k.toInt32), .val (.ref b20), .val (.ref r25), .unset] [(.int (((p4.toUInt32 >>> ((16 : Int32) &&& 31).toUInt32).toInt32).toInt8.toInt32)), (.int (((((p4.toUInt32 >>> ((24 : Int32) &&& 31).toUInt32).toInt32).toInt8.toInt32) &&& (255 : Int32)) <<< ((24 : Int32) &&& 31)))])) (A_r25.bload X25 hx hZ e25 (j := (k.toInt32 + (1 : Int32))) (v := (((p4.toUInt32 >>> ((16 : Int32) &&& 31).toUInt32).toInt32).toInt8.toInt32)) (by rw [show k.toInt32 + (1 : Int32) = (k + 1).toInt32 from (Int32.ofNat_add k 1).symm]; exact own_tpos (by omega)) (by rw [show k.toInt32 + (1 : Int32) = (k + 1).toInt32 from (Int32.ofNat_add k 1).symm, own_tn (by omega)]; exact wz2) (g := (mkF m 186 #[.val (.int p0), .val (.long q1), .second, .val (.int p2), .val (.int p3), .val (.int p4), .val (.ref b11), .val (.int n.toInt32), .val (.int k.toInt32), .val (.ref b20), .val (.ref r25), .unset] [(.int (k.toInt32 + (1 : Int32))), (.ref r25), (.int (((((p4.toUInt32 >>> ((24 : Int32) &&& 31).toUInt32).toInt32).toInt8.toInt32) &&& (255 : Int32)) <<< ((24 : Int32) &&& 31)))])) rfl rfl (hb hby at_186)) ?_
  refine Go.st (S' := T25.setTop (mkF m 190 #[.val (.int p0), .val (.long q1), .second, .val (.int p2), .val (.int p3), .val (.int p4), .val (.ref b11), .val (.int n.toInt32), .val (.int k.toInt32), .val (.ref b20), .val (.ref r25), .unset] [(.int (255 : Int32)), (.int (((p4.toUInt32 >>> ((16 : Int32) &&& 31).toUInt32).toInt32).toInt8.toInt32)), (.int (((((p4.toUInt32 >>> ((24 : Int32) &&& 31).toUInt32).toInt32).toInt8.toInt32) &&& (255 : Int32)) <<< ((24 : Int32) &&& 31)))])) (fun _ k_ => XS.sipush X25.here hx rfl (hb hby at_187) k_) ?_
  refine Go.st (S' := T25.setTop (mkF m 191 #[.val (.int p0), .val (.long q1), .second, .val (.int p2), .val (.int p3), .val (.int p4), .val (.ref b11), .val (.int n.toInt32), .val (.int k.toInt32), .val (.ref b20), .val (.ref r25), .unset] [(.int ((((p4.toUInt32 >>> ((16 : Int32) &&& 31).toUInt32).toInt32).toInt8.toInt32) &&& (255 : Int32))), (.int (((((p4.toUInt32 >>> ((24 : Int32) &&& 31).toUInt32).toInt32).toInt8.toInt32) &&& (255 : Int32)) <<< ((24 : Int32) &&& 31)))])) (fun _ k_ => XS.iand X25.here hx rfl (hb hby at_190) rfl k_) ?_
  refine Go.st (S' := T25.setTop (mkF m 193 #[.val (.int p0), .val (.long q1), .second, .val (.int p2), .val (.int p3), .val (.int p4), .val (.ref b11), .val (.int n.toInt32), .val (.int k.toInt32), .val (.ref b20), .val (.ref r25), .unset] [(.int (16 : Int32)), (.int ((((p4.toUInt32 >>> ((16 : Int32) &&& 31).toUInt32).toInt32).toInt8.toInt32) &&& (255 : Int32))), (.int (((((p4.toUInt32 >>> ((24 : Int32) &&& 31).toUInt32).toInt32).toInt8.toInt32) &&& (255 : Int32)) <<< ((24 : Int32) &&& 31)))])) (fun _ k_ => XS.bipush X25.here hx rfl (hb hby at_191) k_) ?_
  refine Go.st (S' := T25.setTop (mkF m 194 #[.val (.int p0), .val (.long q1), .second, .val (.int p2), .val (.int p3), .val (.int p4), .val (.ref b11), .val (.int n.toInt32), .val (.int k.toInt32), .val (.ref b20), .val (.ref r25), .unset] [(.int (((((p4.toUInt32 >>> ((16 : Int32) &&& 31).toUInt32).toInt32).toInt8.toInt32) &&& (255 : Int32)) <<< ((16 : Int32) &&& 31))), (.int (((((p4.toUInt32 >>> ((24 : Int32) &&& 31).toUInt32).toInt32).toInt8.toInt32) &&& (255 : Int32)) <<< ((24 : Int32) &&& 31)))])) (fun _ k_ => XS.ishl X25.here hx rfl (hb hby at_193) rfl k_) ?_
  refine Go.st (S' := T25.setTop (mkF m 195 #[.val (.int p0), .val (.long q1), .second, .val (.int p2), .val (.int p3), .val (.int p4), .val (.ref b11), .val (.int n.toInt32), .val (.int k.toInt32), .val (.ref b20), .val (.ref r25), .unset] [(.int ((((((p4.toUInt32 >>> ((24 : Int32) &&& 31).toUInt32).toInt32).toInt8.toInt32) &&& (255 : Int32)) <<< ((24 : Int32) &&& 31)) ||| (((((p4.toUInt32 >>> ((16 : Int32) &&& 31).toUInt32).toInt32).toInt8.toInt32) &&& (255 : Int32)) <<< ((16 : Int32) &&& 31))))])) (fun _ k_ => XS.ior X25.here hx rfl (hb hby at_194) rfl k_) ?_
  refine Go.st (S' := T25.setTop (mkF m 197 #[.val (.int p0), .val (.long q1), .second, .val (.int p2), .val (.int p3), .val (.int p4), .val (.ref b11), .val (.int n.toInt32), .val (.int k.toInt32), .val (.ref b20), .val (.ref r25), .unset] [(.ref r25), (.int ((((((p4.toUInt32 >>> ((24 : Int32) &&& 31).toUInt32).toInt32).toInt8.toInt32) &&& (255 : Int32)) <<< ((24 : Int32) &&& 31)) ||| (((((p4.toUInt32 >>> ((16 : Int32) &&& 31).toUInt32).toInt32).toInt8.toInt32) &&& (255 : Int32)) <<< ((16 : Int32) &&& 31))))])) (fun _ k_ => XS.aload X25.here hx rfl (hb hby at_195) rfl rfl k_) ?_
  refine Go.st (S' := T25.setTop (mkF m 199 #[.val (.int p0), .val (.long q1), .second, .val (.int p2), .val (.int p3), .val (.int p4), .val (.ref b11), .val (.int n.toInt32), .val (.int k.toInt32), .val (.ref b20), .val (.ref r25), .unset] [(.int k.toInt32), (.ref r25), (.int ((((((p4.toUInt32 >>> ((24 : Int32) &&& 31).toUInt32).toInt32).toInt8.toInt32) &&& (255 : Int32)) <<< ((24 : Int32) &&& 31)) ||| (((((p4.toUInt32 >>> ((16 : Int32) &&& 31).toUInt32).toInt32).toInt8.toInt32) &&& (255 : Int32)) <<< ((16 : Int32) &&& 31))))])) (fun _ k_ => XS.iload X25.here hx rfl (hb hby at_197) rfl k_) ?_
  refine Go.st (S' := T25.setTop (mkF m 200 #[.val (.int p0), .val (.long q1), .second, .val (.int p2), .val (.int p3), .val (.int p4), .val (.ref b11), .val (.int n.toInt32), .val (.int k.toInt32), .val (.ref b20), .val (.ref r25), .unset] [(.int (2 : Int32)), (.int k.toInt32), (.ref r25), (.int ((((((p4.toUInt32 >>> ((24 : Int32) &&& 31).toUInt32).toInt32).toInt8.toInt32) &&& (255 : Int32)) <<< ((24 : Int32) &&& 31)) ||| (((((p4.toUInt32 >>> ((16 : Int32) &&& 31).toUInt32).toInt32).toInt8.toInt32) &&& (255 : Int32)) <<< ((16 : Int32) &&& 31))))])) (fun _ k_ => XS.iconst X25.here hx rfl (hb hby at_199) k_) ?_
  refine Go.st (S' := T25.setTop (mkF m 201 #[.val (.int p0), .val (.long q1), .second, .val (.int p2), .val (.int p3), .val (.int p4), .val (.ref b11), .val (.int n.toInt32), .val (.int k.toInt32), .val (.ref b20), .val (.ref r25), .unset] [(.int (k.toInt32 + (2 : Int32))), (.ref r25), (.int ((((((p4.toUInt32 >>> ((24 : Int32) &&& 31).toUInt32).toInt32).toInt8.toInt32) &&& (255 : Int32)) <<< ((24 : Int32) &&& 31)) ||| (((((p4.toUInt32 >>> ((16 : Int32) &&& 31).toUInt32).toInt32).toInt8.toInt32) &&& (255 : Int32)) <<< ((16 : Int32) &&& 31))))])) (fun _ k_ => XS.iadd X25.here hx rfl (hb hby at_200) rfl k_) ?_
  refine Go.st (S' := T25.setTop (mkF m 202 #[.val (.int p0), .val (.long q1), .second, .val (.int p2), .val (.int p3), .val (.int p4), .val (.ref b11), .val (.int n.toInt32), .val (.int k.toInt32), .val (.ref b20), .val (.ref r25), .unset] [(.int (((p4.toUInt32 >>> ((8 : Int32) &&& 31).toUInt32).toInt32).toInt8.toInt32)), (.int ((((((p4.toUInt32 >>> ((24 : Int32) &&& 31).toUInt32).toInt32).toInt8.toInt32) &&& (255 : Int32)) <<< ((24 : Int32) &&& 31)) ||| (((((p4.toUInt32 >>> ((16 : Int32) &&& 31).toUInt32).toInt32).toInt8.toInt32) &&& (255 : Int32)) <<< ((16 : Int32) &&& 31))))])) (A_r25.bload X25 hx hZ e25 (j := (k.toInt32 + (2 : Int32))) (v := (((p4.toUInt32 >>> ((8 : Int32) &&& 31).toUInt32).toInt32).toInt8.toInt32)) (by rw [show k.toInt32 + (2 : Int32) = (k + 2).toInt32 from (Int32.ofNat_add k 2).symm]; exact own_tpos (by omega)) (by rw [show k.toInt32 + (2 : Int32) = (k + 2).toInt32 from (Int32.ofNat_add k 2).symm, own_tn (by omega)]; exact wz3) (g := (mkF m 201 #[.val (.int p0), .val (.long q1), .second, .val (.int p2), .val (.int p3), .val (.int p4), .val (.ref b11), .val (.int n.toInt32), .val (.int k.toInt32), .val (.ref b20), .val (.ref r25), .unset] [(.int (k.toInt32 + (2 : Int32))), (.ref r25), (.int ((((((p4.toUInt32 >>> ((24 : Int32) &&& 31).toUInt32).toInt32).toInt8.toInt32) &&& (255 : Int32)) <<< ((24 : Int32) &&& 31)) ||| (((((p4.toUInt32 >>> ((16 : Int32) &&& 31).toUInt32).toInt32).toInt8.toInt32) &&& (255 : Int32)) <<< ((16 : Int32) &&& 31))))])) rfl rfl (hb hby at_201)) ?_
  refine Go.st (S' := T25.setTop (mkF m 205 #[.val (.int p0), .val (.long q1), .second, .val (.int p2), .val (.int p3), .val (.int p4), .val (.ref b11), .val (.int n.toInt32), .val (.int k.toInt32), .val (.ref b20), .val (.ref r25), .unset] [(.int (255 : Int32)), (.int (((p4.toUInt32 >>> ((8 : Int32) &&& 31).toUInt32).toInt32).toInt8.toInt32)), (.int ((((((p4.toUInt32 >>> ((24 : Int32) &&& 31).toUInt32).toInt32).toInt8.toInt32) &&& (255 : Int32)) <<< ((24 : Int32) &&& 31)) ||| (((((p4.toUInt32 >>> ((16 : Int32) &&& 31).toUInt32).toInt32).toInt8.toInt32) &&& (255 : Int32)) <<< ((16 : Int32) &&& 31))))])) (fun _ k_ => XS.sipush X25.here hx rfl (hb hby at_202) k_) ?_
  refine Go.st (S' := T25.setTop (mkF m 206 #[.val (.int p0), .val (.long q1), .second, .val (.int p2), .val (.int p3), .val (.int p4), .val (.ref b11), .val (.int n.toInt32), .val (.int k.toInt32), .val (.ref b20), .val (.ref r25), .unset] [(.int ((((p4.toUInt32 >>> ((8 : Int32) &&& 31).toUInt32).toInt32).toInt8.toInt32) &&& (255 : Int32))), (.int ((((((p4.toUInt32 >>> ((24 : Int32) &&& 31).toUInt32).toInt32).toInt8.toInt32) &&& (255 : Int32)) <<< ((24 : Int32) &&& 31)) ||| (((((p4.toUInt32 >>> ((16 : Int32) &&& 31).toUInt32).toInt32).toInt8.toInt32) &&& (255 : Int32)) <<< ((16 : Int32) &&& 31))))])) (fun _ k_ => XS.iand X25.here hx rfl (hb hby at_205) rfl k_) ?_
  refine Go.st (S' := T25.setTop (mkF m 208 #[.val (.int p0), .val (.long q1), .second, .val (.int p2), .val (.int p3), .val (.int p4), .val (.ref b11), .val (.int n.toInt32), .val (.int k.toInt32), .val (.ref b20), .val (.ref r25), .unset] [(.int (8 : Int32)), (.int ((((p4.toUInt32 >>> ((8 : Int32) &&& 31).toUInt32).toInt32).toInt8.toInt32) &&& (255 : Int32))), (.int ((((((p4.toUInt32 >>> ((24 : Int32) &&& 31).toUInt32).toInt32).toInt8.toInt32) &&& (255 : Int32)) <<< ((24 : Int32) &&& 31)) ||| (((((p4.toUInt32 >>> ((16 : Int32) &&& 31).toUInt32).toInt32).toInt8.toInt32) &&& (255 : Int32)) <<< ((16 : Int32) &&& 31))))])) (fun _ k_ => XS.bipush X25.here hx rfl (hb hby at_206) k_) ?_
  refine Go.st (S' := T25.setTop (mkF m 209 #[.val (.int p0), .val (.long q1), .second, .val (.int p2), .val (.int p3), .val (.int p4), .val (.ref b11), .val (.int n.toInt32), .val (.int k.toInt32), .val (.ref b20), .val (.ref r25), .unset] [(.int (((((p4.toUInt32 >>> ((8 : Int32) &&& 31).toUInt32).toInt32).toInt8.toInt32) &&& (255 : Int32)) <<< ((8 : Int32) &&& 31))), (.int ((((((p4.toUInt32 >>> ((24 : Int32) &&& 31).toUInt32).toInt32).toInt8.toInt32) &&& (255 : Int32)) <<< ((24 : Int32) &&& 31)) ||| (((((p4.toUInt32 >>> ((16 : Int32) &&& 31).toUInt32).toInt32).toInt8.toInt32) &&& (255 : Int32)) <<< ((16 : Int32) &&& 31))))])) (fun _ k_ => XS.ishl X25.here hx rfl (hb hby at_208) rfl k_) ?_
  refine Go.st (S' := T25.setTop (mkF m 210 #[.val (.int p0), .val (.long q1), .second, .val (.int p2), .val (.int p3), .val (.int p4), .val (.ref b11), .val (.int n.toInt32), .val (.int k.toInt32), .val (.ref b20), .val (.ref r25), .unset] [(.int (((((((p4.toUInt32 >>> ((24 : Int32) &&& 31).toUInt32).toInt32).toInt8.toInt32) &&& (255 : Int32)) <<< ((24 : Int32) &&& 31)) ||| (((((p4.toUInt32 >>> ((16 : Int32) &&& 31).toUInt32).toInt32).toInt8.toInt32) &&& (255 : Int32)) <<< ((16 : Int32) &&& 31))) ||| (((((p4.toUInt32 >>> ((8 : Int32) &&& 31).toUInt32).toInt32).toInt8.toInt32) &&& (255 : Int32)) <<< ((8 : Int32) &&& 31))))])) (fun _ k_ => XS.ior X25.here hx rfl (hb hby at_209) rfl k_) ?_
  refine Go.st (S' := T25.setTop (mkF m 212 #[.val (.int p0), .val (.long q1), .second, .val (.int p2), .val (.int p3), .val (.int p4), .val (.ref b11), .val (.int n.toInt32), .val (.int k.toInt32), .val (.ref b20), .val (.ref r25), .unset] [(.ref r25), (.int (((((((p4.toUInt32 >>> ((24 : Int32) &&& 31).toUInt32).toInt32).toInt8.toInt32) &&& (255 : Int32)) <<< ((24 : Int32) &&& 31)) ||| (((((p4.toUInt32 >>> ((16 : Int32) &&& 31).toUInt32).toInt32).toInt8.toInt32) &&& (255 : Int32)) <<< ((16 : Int32) &&& 31))) ||| (((((p4.toUInt32 >>> ((8 : Int32) &&& 31).toUInt32).toInt32).toInt8.toInt32) &&& (255 : Int32)) <<< ((8 : Int32) &&& 31))))])) (fun _ k_ => XS.aload X25.here hx rfl (hb hby at_210) rfl rfl k_) ?_
  refine Go.st (S' := T25.setTop (mkF m 214 #[.val (.int p0), .val (.long q1), .second, .val (.int p2), .val (.int p3), .val (.int p4), .val (.ref b11), .val (.int n.toInt32), .val (.int k.toInt32), .val (.ref b20), .val (.ref r25), .unset] [(.int k.toInt32), (.ref r25), (.int (((((((p4.toUInt32 >>> ((24 : Int32) &&& 31).toUInt32).toInt32).toInt8.toInt32) &&& (255 : Int32)) <<< ((24 : Int32) &&& 31)) ||| (((((p4.toUInt32 >>> ((16 : Int32) &&& 31).toUInt32).toInt32).toInt8.toInt32) &&& (255 : Int32)) <<< ((16 : Int32) &&& 31))) ||| (((((p4.toUInt32 >>> ((8 : Int32) &&& 31).toUInt32).toInt32).toInt8.toInt32) &&& (255 : Int32)) <<< ((8 : Int32) &&& 31))))])) (fun _ k_ => XS.iload X25.here hx rfl (hb hby at_212) rfl k_) ?_
  refine Go.st (S' := T25.setTop (mkF m 215 #[.val (.int p0), .val (.long q1), .second, .val (.int p2), .val (.int p3), .val (.int p4), .val (.ref b11), .val (.int n.toInt32), .val (.int k.toInt32), .val (.ref b20), .val (.ref r25), .unset] [(.int (3 : Int32)), (.int k.toInt32), (.ref r25), (.int (((((((p4.toUInt32 >>> ((24 : Int32) &&& 31).toUInt32).toInt32).toInt8.toInt32) &&& (255 : Int32)) <<< ((24 : Int32) &&& 31)) ||| (((((p4.toUInt32 >>> ((16 : Int32) &&& 31).toUInt32).toInt32).toInt8.toInt32) &&& (255 : Int32)) <<< ((16 : Int32) &&& 31))) ||| (((((p4.toUInt32 >>> ((8 : Int32) &&& 31).toUInt32).toInt32).toInt8.toInt32) &&& (255 : Int32)) <<< ((8 : Int32) &&& 31))))])) (fun _ k_ => XS.iconst X25.here hx rfl (hb hby at_214) k_) ?_
  refine Go.st (S' := T25.setTop (mkF m 216 #[.val (.int p0), .val (.long q1), .second, .val (.int p2), .val (.int p3), .val (.int p4), .val (.ref b11), .val (.int n.toInt32), .val (.int k.toInt32), .val (.ref b20), .val (.ref r25), .unset] [(.int (k.toInt32 + (3 : Int32))), (.ref r25), (.int (((((((p4.toUInt32 >>> ((24 : Int32) &&& 31).toUInt32).toInt32).toInt8.toInt32) &&& (255 : Int32)) <<< ((24 : Int32) &&& 31)) ||| (((((p4.toUInt32 >>> ((16 : Int32) &&& 31).toUInt32).toInt32).toInt8.toInt32) &&& (255 : Int32)) <<< ((16 : Int32) &&& 31))) ||| (((((p4.toUInt32 >>> ((8 : Int32) &&& 31).toUInt32).toInt32).toInt8.toInt32) &&& (255 : Int32)) <<< ((8 : Int32) &&& 31))))])) (fun _ k_ => XS.iadd X25.here hx rfl (hb hby at_215) rfl k_) ?_
  refine Go.st (S' := T25.setTop (mkF m 217 #[.val (.int p0), .val (.long q1), .second, .val (.int p2), .val (.int p3), .val (.int p4), .val (.ref b11), .val (.int n.toInt32), .val (.int k.toInt32), .val (.ref b20), .val (.ref r25), .unset] [(.int (p4.toInt8.toInt32)), (.int (((((((p4.toUInt32 >>> ((24 : Int32) &&& 31).toUInt32).toInt32).toInt8.toInt32) &&& (255 : Int32)) <<< ((24 : Int32) &&& 31)) ||| (((((p4.toUInt32 >>> ((16 : Int32) &&& 31).toUInt32).toInt32).toInt8.toInt32) &&& (255 : Int32)) <<< ((16 : Int32) &&& 31))) ||| (((((p4.toUInt32 >>> ((8 : Int32) &&& 31).toUInt32).toInt32).toInt8.toInt32) &&& (255 : Int32)) <<< ((8 : Int32) &&& 31))))])) (A_r25.bload X25 hx hZ e25 (j := (k.toInt32 + (3 : Int32))) (v := (p4.toInt8.toInt32)) (by rw [show k.toInt32 + (3 : Int32) = (k + 3).toInt32 from (Int32.ofNat_add k 3).symm]; exact own_tpos (by omega)) (by rw [show k.toInt32 + (3 : Int32) = (k + 3).toInt32 from (Int32.ofNat_add k 3).symm, own_tn (by omega)]; exact wz4) (g := (mkF m 216 #[.val (.int p0), .val (.long q1), .second, .val (.int p2), .val (.int p3), .val (.int p4), .val (.ref b11), .val (.int n.toInt32), .val (.int k.toInt32), .val (.ref b20), .val (.ref r25), .unset] [(.int (k.toInt32 + (3 : Int32))), (.ref r25), (.int (((((((p4.toUInt32 >>> ((24 : Int32) &&& 31).toUInt32).toInt32).toInt8.toInt32) &&& (255 : Int32)) <<< ((24 : Int32) &&& 31)) ||| (((((p4.toUInt32 >>> ((16 : Int32) &&& 31).toUInt32).toInt32).toInt8.toInt32) &&& (255 : Int32)) <<< ((16 : Int32) &&& 31))) ||| (((((p4.toUInt32 >>> ((8 : Int32) &&& 31).toUInt32).toInt32).toInt8.toInt32) &&& (255 : Int32)) <<< ((8 : Int32) &&& 31))))])) rfl rfl (hb hby at_216)) ?_
  refine Go.st (S' := T25.setTop (mkF m 220 #[.val (.int p0), .val (.long q1), .second, .val (.int p2), .val (.int p3), .val (.int p4), .val (.ref b11), .val (.int n.toInt32), .val (.int k.toInt32), .val (.ref b20), .val (.ref r25), .unset] [(.int (255 : Int32)), (.int (p4.toInt8.toInt32)), (.int (((((((p4.toUInt32 >>> ((24 : Int32) &&& 31).toUInt32).toInt32).toInt8.toInt32) &&& (255 : Int32)) <<< ((24 : Int32) &&& 31)) ||| (((((p4.toUInt32 >>> ((16 : Int32) &&& 31).toUInt32).toInt32).toInt8.toInt32) &&& (255 : Int32)) <<< ((16 : Int32) &&& 31))) ||| (((((p4.toUInt32 >>> ((8 : Int32) &&& 31).toUInt32).toInt32).toInt8.toInt32) &&& (255 : Int32)) <<< ((8 : Int32) &&& 31))))])) (fun _ k_ => XS.sipush X25.here hx rfl (hb hby at_217) k_) ?_
  refine Go.st (S' := T25.setTop (mkF m 221 #[.val (.int p0), .val (.long q1), .second, .val (.int p2), .val (.int p3), .val (.int p4), .val (.ref b11), .val (.int n.toInt32), .val (.int k.toInt32), .val (.ref b20), .val (.ref r25), .unset] [(.int ((p4.toInt8.toInt32) &&& (255 : Int32))), (.int (((((((p4.toUInt32 >>> ((24 : Int32) &&& 31).toUInt32).toInt32).toInt8.toInt32) &&& (255 : Int32)) <<< ((24 : Int32) &&& 31)) ||| (((((p4.toUInt32 >>> ((16 : Int32) &&& 31).toUInt32).toInt32).toInt8.toInt32) &&& (255 : Int32)) <<< ((16 : Int32) &&& 31))) ||| (((((p4.toUInt32 >>> ((8 : Int32) &&& 31).toUInt32).toInt32).toInt8.toInt32) &&& (255 : Int32)) <<< ((8 : Int32) &&& 31))))])) (fun _ k_ => XS.iand X25.here hx rfl (hb hby at_220) rfl k_) ?_
  refine Go.st (S' := T25.setTop (mkF m 222 #[.val (.int p0), .val (.long q1), .second, .val (.int p2), .val (.int p3), .val (.int p4), .val (.ref b11), .val (.int n.toInt32), .val (.int k.toInt32), .val (.ref b20), .val (.ref r25), .unset] [(.int ((((((((p4.toUInt32 >>> ((24 : Int32) &&& 31).toUInt32).toInt32).toInt8.toInt32) &&& (255 : Int32)) <<< ((24 : Int32) &&& 31)) ||| (((((p4.toUInt32 >>> ((16 : Int32) &&& 31).toUInt32).toInt32).toInt8.toInt32) &&& (255 : Int32)) <<< ((16 : Int32) &&& 31))) ||| (((((p4.toUInt32 >>> ((8 : Int32) &&& 31).toUInt32).toInt32).toInt8.toInt32) &&& (255 : Int32)) <<< ((8 : Int32) &&& 31))) ||| ((p4.toInt8.toInt32) &&& (255 : Int32))))])) (fun _ k_ => XS.ior X25.here hx rfl (hb hby at_221) rfl k_) ?_
  refine Go.st (S' := T25.setTop (mkF m 224 #[.val (.int p0), .val (.long q1), .second, .val (.int p2), .val (.int p3), .val (.int p4), .val (.ref b11), .val (.int n.toInt32), .val (.int k.toInt32), .val (.ref b20), .val (.ref r25), .val (.int ((((((((p4.toUInt32 >>> ((24 : Int32) &&& 31).toUInt32).toInt32).toInt8.toInt32) &&& (255 : Int32)) <<< ((24 : Int32) &&& 31)) ||| (((((p4.toUInt32 >>> ((16 : Int32) &&& 31).toUInt32).toInt32).toInt8.toInt32) &&& (255 : Int32)) <<< ((16 : Int32) &&& 31))) ||| (((((p4.toUInt32 >>> ((8 : Int32) &&& 31).toUInt32).toInt32).toInt8.toInt32) &&& (255 : Int32)) <<< ((8 : Int32) &&& 31))) ||| ((p4.toInt8.toInt32) &&& (255 : Int32))))] [])) (fun _ k_ => XS.istore X25.here hx rfl (hb hby at_222) rfl (l' := #[.val (.int p0), .val (.long q1), .second, .val (.int p2), .val (.int p3), .val (.int p4), .val (.ref b11), .val (.int n.toInt32), .val (.int k.toInt32), .val (.ref b20), .val (.ref r25), .val (.int ((((((((p4.toUInt32 >>> ((24 : Int32) &&& 31).toUInt32).toInt32).toInt8.toInt32) &&& (255 : Int32)) <<< ((24 : Int32) &&& 31)) ||| (((((p4.toUInt32 >>> ((16 : Int32) &&& 31).toUInt32).toInt32).toInt8.toInt32) &&& (255 : Int32)) <<< ((16 : Int32) &&& 31))) ||| (((((p4.toUInt32 >>> ((8 : Int32) &&& 31).toUInt32).toInt32).toInt8.toInt32) &&& (255 : Int32)) <<< ((8 : Int32) &&& 31))) ||| ((p4.toInt8.toInt32) &&& (255 : Int32))))]) rfl k_) ?_
  refine Go.st (S' := T25.setTop (mkF m 226 #[.val (.int p0), .val (.long q1), .second, .val (.int p2), .val (.int p3), .val (.int p4), .val (.ref b11), .val (.int n.toInt32), .val (.int k.toInt32), .val (.ref b20), .val (.ref r25), .val (.int ((((((((p4.toUInt32 >>> ((24 : Int32) &&& 31).toUInt32).toInt32).toInt8.toInt32) &&& (255 : Int32)) <<< ((24 : Int32) &&& 31)) ||| (((((p4.toUInt32 >>> ((16 : Int32) &&& 31).toUInt32).toInt32).toInt8.toInt32) &&& (255 : Int32)) <<< ((16 : Int32) &&& 31))) ||| (((((p4.toUInt32 >>> ((8 : Int32) &&& 31).toUInt32).toInt32).toInt8.toInt32) &&& (255 : Int32)) <<< ((8 : Int32) &&& 31))) ||| ((p4.toInt8.toInt32) &&& (255 : Int32))))] [(.int ((((((((p4.toUInt32 >>> ((24 : Int32) &&& 31).toUInt32).toInt32).toInt8.toInt32) &&& (255 : Int32)) <<< ((24 : Int32) &&& 31)) ||| (((((p4.toUInt32 >>> ((16 : Int32) &&& 31).toUInt32).toInt32).toInt8.toInt32) &&& (255 : Int32)) <<< ((16 : Int32) &&& 31))) ||| (((((p4.toUInt32 >>> ((8 : Int32) &&& 31).toUInt32).toInt32).toInt8.toInt32) &&& (255 : Int32)) <<< ((8 : Int32) &&& 31))) ||| ((p4.toInt8.toInt32) &&& (255 : Int32))))])) (fun _ k_ => XS.iload X25.here hx rfl (hb hby at_224) rfl k_) ?_
  refine Go.st (S' := T25.setTop (mkF m 228 #[.val (.int p0), .val (.long q1), .second, .val (.int p2), .val (.int p3), .val (.int p4), .val (.ref b11), .val (.int n.toInt32), .val (.int k.toInt32), .val (.ref b20), .val (.ref r25), .val (.int ((((((((p4.toUInt32 >>> ((24 : Int32) &&& 31).toUInt32).toInt32).toInt8.toInt32) &&& (255 : Int32)) <<< ((24 : Int32) &&& 31)) ||| (((((p4.toUInt32 >>> ((16 : Int32) &&& 31).toUInt32).toInt32).toInt8.toInt32) &&& (255 : Int32)) <<< ((16 : Int32) &&& 31))) ||| (((((p4.toUInt32 >>> ((8 : Int32) &&& 31).toUInt32).toInt32).toInt8.toInt32) &&& (255 : Int32)) <<< ((8 : Int32) &&& 31))) ||| ((p4.toInt8.toInt32) &&& (255 : Int32))))] [(.int p4), (.int ((((((((p4.toUInt32 >>> ((24 : Int32) &&& 31).toUInt32).toInt32).toInt8.toInt32) &&& (255 : Int32)) <<< ((24 : Int32) &&& 31)) ||| (((((p4.toUInt32 >>> ((16 : Int32) &&& 31).toUInt32).toInt32).toInt8.toInt32) &&& (255 : Int32)) <<< ((16 : Int32) &&& 31))) ||| (((((p4.toUInt32 >>> ((8 : Int32) &&& 31).toUInt32).toInt32).toInt8.toInt32) &&& (255 : Int32)) <<< ((8 : Int32) &&& 31))) ||| ((p4.toInt8.toInt32) &&& (255 : Int32))))])) (fun _ k_ => XS.iload X25.here hx rfl (hb hby at_226) rfl k_) ?_
  refine Go.st (S' := T25.setTop (mkF m 233 #[.val (.int p0), .val (.long q1), .second, .val (.int p2), .val (.int p3), .val (.int p4), .val (.ref b11), .val (.int n.toInt32), .val (.int k.toInt32), .val (.ref b20), .val (.ref r25), .val (.int ((((((((p4.toUInt32 >>> ((24 : Int32) &&& 31).toUInt32).toInt32).toInt8.toInt32) &&& (255 : Int32)) <<< ((24 : Int32) &&& 31)) ||| (((((p4.toUInt32 >>> ((16 : Int32) &&& 31).toUInt32).toInt32).toInt8.toInt32) &&& (255 : Int32)) <<< ((16 : Int32) &&& 31))) ||| (((((p4.toUInt32 >>> ((8 : Int32) &&& 31).toUInt32).toInt32).toInt8.toInt32) &&& (255 : Int32)) <<< ((8 : Int32) &&& 31))) ||| ((p4.toInt8.toInt32) &&& (255 : Int32))))] [])) (fun _ k_ => XS.icmpYes X25.here hx rfl (pc0 := 228) (pc' := 233) rfl (hb hby at_228) rfl (teq (own_join p4)).1 (by decide) (by decide) k_) ?_
  refine Go.st (S' := T25.setTop (mkF m 235 #[.val (.int p0), .val (.long q1), .second, .val (.int p2), .val (.int p3), .val (.int p4), .val (.ref b11), .val (.int n.toInt32), .val (.int k.toInt32), .val (.ref b20), .val (.ref r25), .val (.int ((((((((p4.toUInt32 >>> ((24 : Int32) &&& 31).toUInt32).toInt32).toInt8.toInt32) &&& (255 : Int32)) <<< ((24 : Int32) &&& 31)) ||| (((((p4.toUInt32 >>> ((16 : Int32) &&& 31).toUInt32).toInt32).toInt8.toInt32) &&& (255 : Int32)) <<< ((16 : Int32) &&& 31))) ||| (((((p4.toUInt32 >>> ((8 : Int32) &&& 31).toUInt32).toInt32).toInt8.toInt32) &&& (255 : Int32)) <<< ((8 : Int32) &&& 31))) ||| ((p4.toInt8.toInt32) &&& (255 : Int32))))] [(.ref r25)])) (fun _ k_ => XS.aload X25.here hx rfl (hb hby at_233) rfl rfl k_) ?_
  refine Go.st (S' := T25.setTop (mkF m 237 #[.val (.int p0), .val (.long q1), .second, .val (.int p2), .val (.int p3), .val (.int p4), .val (.ref b11), .val (.int n.toInt32), .val (.int k.toInt32), .val (.ref b20), .val (.ref r25), .val (.int ((((((((p4.toUInt32 >>> ((24 : Int32) &&& 31).toUInt32).toInt32).toInt8.toInt32) &&& (255 : Int32)) <<< ((24 : Int32) &&& 31)) ||| (((((p4.toUInt32 >>> ((16 : Int32) &&& 31).toUInt32).toInt32).toInt8.toInt32) &&& (255 : Int32)) <<< ((16 : Int32) &&& 31))) ||| (((((p4.toUInt32 >>> ((8 : Int32) &&& 31).toUInt32).toInt32).toInt8.toInt32) &&& (255 : Int32)) <<< ((8 : Int32) &&& 31))) ||| ((p4.toInt8.toInt32) &&& (255 : Int32))))] [(.ref b11), (.ref r25)])) (fun _ k_ => XS.aload X25.here hx rfl (hb hby at_235) rfl rfl k_) ?_
  refine Go.st (S' := T25.setTop (mkF m 239 #[.val (.int p0), .val (.long q1), .second, .val (.int p2), .val (.int p3), .val (.int p4), .val (.ref b11), .val (.int n.toInt32), .val (.int k.toInt32), .val (.ref b20), .val (.ref r25), .val (.int ((((((((p4.toUInt32 >>> ((24 : Int32) &&& 31).toUInt32).toInt32).toInt8.toInt32) &&& (255 : Int32)) <<< ((24 : Int32) &&& 31)) ||| (((((p4.toUInt32 >>> ((16 : Int32) &&& 31).toUInt32).toInt32).toInt8.toInt32) &&& (255 : Int32)) <<< ((16 : Int32) &&& 31))) ||| (((((p4.toUInt32 >>> ((8 : Int32) &&& 31).toUInt32).toInt32).toInt8.toInt32) &&& (255 : Int32)) <<< ((8 : Int32) &&& 31))) ||| ((p4.toInt8.toInt32) &&& (255 : Int32))))] [(.int n.toInt32), (.ref b11), (.ref r25)])) (fun _ k_ => XS.iload X25.here hx rfl (hb hby at_237) rfl k_) ?_
  refine Go.st (S' := T25.setTop (mkF m 241 #[.val (.int p0), .val (.long q1), .second, .val (.int p2), .val (.int p3), .val (.int p4), .val (.ref b11), .val (.int n.toInt32), .val (.int k.toInt32), .val (.ref b20), .val (.ref r25), .val (.int ((((((((p4.toUInt32 >>> ((24 : Int32) &&& 31).toUInt32).toInt32).toInt8.toInt32) &&& (255 : Int32)) <<< ((24 : Int32) &&& 31)) ||| (((((p4.toUInt32 >>> ((16 : Int32) &&& 31).toUInt32).toInt32).toInt8.toInt32) &&& (255 : Int32)) <<< ((16 : Int32) &&& 31))) ||| (((((p4.toUInt32 >>> ((8 : Int32) &&& 31).toUInt32).toInt32).toInt8.toInt32) &&& (255 : Int32)) <<< ((8 : Int32) &&& 31))) ||| ((p4.toInt8.toInt32) &&& (255 : Int32))))] [(.int k.toInt32), (.int n.toInt32), (.ref b11), (.ref r25)])) (fun _ k_ => XS.iload X25.here hx rfl (hb hby at_239) rfl k_) ?_
  refine Go.st (S' := T25.setTop (mkF m 242 #[.val (.int p0), .val (.long q1), .second, .val (.int p2), .val (.int p3), .val (.int p4), .val (.ref b11), .val (.int n.toInt32), .val (.int k.toInt32), .val (.ref b20), .val (.ref r25), .val (.int ((((((((p4.toUInt32 >>> ((24 : Int32) &&& 31).toUInt32).toInt32).toInt8.toInt32) &&& (255 : Int32)) <<< ((24 : Int32) &&& 31)) ||| (((((p4.toUInt32 >>> ((16 : Int32) &&& 31).toUInt32).toInt32).toInt8.toInt32) &&& (255 : Int32)) <<< ((16 : Int32) &&& 31))) ||| (((((p4.toUInt32 >>> ((8 : Int32) &&& 31).toUInt32).toInt32).toInt8.toInt32) &&& (255 : Int32)) <<< ((8 : Int32) &&& 31))) ||| ((p4.toInt8.toInt32) &&& (255 : Int32))))] [(.int (0 : Int32)), (.int k.toInt32), (.int n.toInt32), (.ref b11), (.ref r25)])) (fun _ k_ => XS.iconst X25.here hx rfl (hb hby at_241) k_) ?_
  obtain ⟨v26, T26, h26, L26, X26, e26, hQ26, st26⟩ := callSt X25 hx hZ hown (w55 hw) (w56 hw) (w57 hw) (w58 hw) (by decide) (W := 0) (argsL := [(.ref r25), (.ref b11), (.int n.toInt32), (.int k.toInt32), (.int (0 : Int32))]) (rest := []) e25 (rm_kept l Z a0 hw r25 b11 n.toInt32 k.toInt32 (0 : Int32) (own_si (xs.take n) k p4) xs h25 n0 Z0 A_r25 A_b11 (by decide) (own_kept (by omega) hx8 (by omega) 0 (by decide))) (by decide) (by decide) pd7 rfl (g := (mkF m 242 #[.val (.int p0), .val (.long q1), .second, .val (.int p2), .val (.int p3), .val (.int p4), .val (.ref b11), .val (.int n.toInt32), .val (.int k.toInt32), .val (.ref b20), .val (.ref r25), .val (.int ((((((((p4.toUInt32 >>> ((24 : Int32) &&& 31).toUInt32).toInt32).toInt8.toInt32) &&& (255 : Int32)) <<< ((24 : Int32) &&& 31)) ||| (((((p4.toUInt32 >>> ((16 : Int32) &&& 31).toUInt32).toInt32).toInt8.toInt32) &&& (255 : Int32)) <<< ((16 : Int32) &&& 31))) ||| (((((p4.toUInt32 >>> ((8 : Int32) &&& 31).toUInt32).toInt32).toInt8.toInt32) &&& (255 : Int32)) <<< ((8 : Int32) &&& 31))) ||| ((p4.toInt8.toInt32) &&& (255 : Int32))))] [(.int (0 : Int32)), (.int k.toInt32), (.int n.toInt32), (.ref b11), (.ref r25)])) rfl (by rw [hml]; rfl) rfl (by show 2 * 0 + _ ≤ _; exact Nat.le_of_eq rfl) (hb hby at_242) (by decide) (by decide)
  obtain ⟨rfl, Nq26, hh26⟩ := hQ26
  rw [hh26] at e26
  have N26 := Fr.app N25 Nq26
  refine Go.st (S' := T26.setTop (mkF m 245 #[.val (.int p0), .val (.long q1), .second, .val (.int p2), .val (.int p3), .val (.int p4), .val (.ref b11), .val (.int n.toInt32), .val (.int k.toInt32), .val (.ref b20), .val (.ref r25), .val (.int ((((((((p4.toUInt32 >>> ((24 : Int32) &&& 31).toUInt32).toInt32).toInt8.toInt32) &&& (255 : Int32)) <<< ((24 : Int32) &&& 31)) ||| (((((p4.toUInt32 >>> ((16 : Int32) &&& 31).toUInt32).toInt32).toInt8.toInt32) &&& (255 : Int32)) <<< ((16 : Int32) &&& 31))) ||| (((((p4.toUInt32 >>> ((8 : Int32) &&& 31).toUInt32).toInt32).toInt8.toInt32) &&& (255 : Int32)) <<< ((8 : Int32) &&& 31))) ||| ((p4.toInt8.toInt32) &&& (255 : Int32))))] [(.int (1 : Int32))])) (st26) ?_
  refine Go.st (S' := T26.setTop (mkF m 248 #[.val (.int p0), .val (.long q1), .second, .val (.int p2), .val (.int p3), .val (.int p4), .val (.ref b11), .val (.int n.toInt32), .val (.int k.toInt32), .val (.ref b20), .val (.ref r25), .val (.int ((((((((p4.toUInt32 >>> ((24 : Int32) &&& 31).toUInt32).toInt32).toInt8.toInt32) &&& (255 : Int32)) <<< ((24 : Int32) &&& 31)) ||| (((((p4.toUInt32 >>> ((16 : Int32) &&& 31).toUInt32).toInt32).toInt8.toInt32) &&& (255 : Int32)) <<< ((16 : Int32) &&& 31))) ||| (((((p4.toUInt32 >>> ((8 : Int32) &&& 31).toUInt32).toInt32).toInt8.toInt32) &&& (255 : Int32)) <<< ((8 : Int32) &&& 31))) ||| ((p4.toInt8.toInt32) &&& (255 : Int32))))] [])) (fun _ k_ => XS.ifNo X26.here hx rfl (hb hby at_245) rfl ((if0 _ _).trans (feq (by decide)).1) k_) ?_
  refine Go.st (S' := T26.setTop (mkF m 250 #[.val (.int p0), .val (.long q1), .second, .val (.int p2), .val (.int p3), .val (.int p4), .val (.ref b11), .val (.int n.toInt32), .val (.int k.toInt32), .val (.ref b20), .val (.ref r25), .val (.int ((((((((p4.toUInt32 >>> ((24 : Int32) &&& 31).toUInt32).toInt32).toInt8.toInt32) &&& (255 : Int32)) <<< ((24 : Int32) &&& 31)) ||| (((((p4.toUInt32 >>> ((16 : Int32) &&& 31).toUInt32).toInt32).toInt8.toInt32) &&& (255 : Int32)) <<< ((16 : Int32) &&& 31))) ||| (((((p4.toUInt32 >>> ((8 : Int32) &&& 31).toUInt32).toInt32).toInt8.toInt32) &&& (255 : Int32)) <<< ((8 : Int32) &&& 31))) ||| ((p4.toInt8.toInt32) &&& (255 : Int32))))] [(.ref r25)])) (fun _ k_ => XS.aload X26.here hx rfl (hb hby at_248) rfl rfl k_) ?_
  refine Go.st (S' := T26.setTop (mkF m 252 #[.val (.int p0), .val (.long q1), .second, .val (.int p2), .val (.int p3), .val (.int p4), .val (.ref b11), .val (.int n.toInt32), .val (.int k.toInt32), .val (.ref b20), .val (.ref r25), .val (.int ((((((((p4.toUInt32 >>> ((24 : Int32) &&& 31).toUInt32).toInt32).toInt8.toInt32) &&& (255 : Int32)) <<< ((24 : Int32) &&& 31)) ||| (((((p4.toUInt32 >>> ((16 : Int32) &&& 31).toUInt32).toInt32).toInt8.toInt32) &&& (255 : Int32)) <<< ((16 : Int32) &&& 31))) ||| (((((p4.toUInt32 >>> ((8 : Int32) &&& 31).toUInt32).toInt32).toInt8.toInt32) &&& (255 : Int32)) <<< ((8 : Int32) &&& 31))) ||| ((p4.toInt8.toInt32) &&& (255 : Int32))))] [(.ref b11), (.ref r25)])) (fun _ k_ => XS.aload X26.here hx rfl (hb hby at_250) rfl rfl k_) ?_
  refine Go.st (S' := T26.setTop (mkF m 254 #[.val (.int p0), .val (.long q1), .second, .val (.int p2), .val (.int p3), .val (.int p4), .val (.ref b11), .val (.int n.toInt32), .val (.int k.toInt32), .val (.ref b20), .val (.ref r25), .val (.int ((((((((p4.toUInt32 >>> ((24 : Int32) &&& 31).toUInt32).toInt32).toInt8.toInt32) &&& (255 : Int32)) <<< ((24 : Int32) &&& 31)) ||| (((((p4.toUInt32 >>> ((16 : Int32) &&& 31).toUInt32).toInt32).toInt8.toInt32) &&& (255 : Int32)) <<< ((16 : Int32) &&& 31))) ||| (((((p4.toUInt32 >>> ((8 : Int32) &&& 31).toUInt32).toInt32).toInt8.toInt32) &&& (255 : Int32)) <<< ((8 : Int32) &&& 31))) ||| ((p4.toInt8.toInt32) &&& (255 : Int32))))] [(.int n.toInt32), (.ref b11), (.ref r25)])) (fun _ k_ => XS.iload X26.here hx rfl (hb hby at_252) rfl k_) ?_
  refine Go.st (S' := T26.setTop (mkF m 256 #[.val (.int p0), .val (.long q1), .second, .val (.int p2), .val (.int p3), .val (.int p4), .val (.ref b11), .val (.int n.toInt32), .val (.int k.toInt32), .val (.ref b20), .val (.ref r25), .val (.int ((((((((p4.toUInt32 >>> ((24 : Int32) &&& 31).toUInt32).toInt32).toInt8.toInt32) &&& (255 : Int32)) <<< ((24 : Int32) &&& 31)) ||| (((((p4.toUInt32 >>> ((16 : Int32) &&& 31).toUInt32).toInt32).toInt8.toInt32) &&& (255 : Int32)) <<< ((16 : Int32) &&& 31))) ||| (((((p4.toUInt32 >>> ((8 : Int32) &&& 31).toUInt32).toInt32).toInt8.toInt32) &&& (255 : Int32)) <<< ((8 : Int32) &&& 31))) ||| ((p4.toInt8.toInt32) &&& (255 : Int32))))] [(.int k.toInt32), (.int n.toInt32), (.ref b11), (.ref r25)])) (fun _ k_ => XS.iload X26.here hx rfl (hb hby at_254) rfl k_) ?_
  refine Go.st (S' := T26.setTop (mkF m 257 #[.val (.int p0), .val (.long q1), .second, .val (.int p2), .val (.int p3), .val (.int p4), .val (.ref b11), .val (.int n.toInt32), .val (.int k.toInt32), .val (.ref b20), .val (.ref r25), .val (.int ((((((((p4.toUInt32 >>> ((24 : Int32) &&& 31).toUInt32).toInt32).toInt8.toInt32) &&& (255 : Int32)) <<< ((24 : Int32) &&& 31)) ||| (((((p4.toUInt32 >>> ((16 : Int32) &&& 31).toUInt32).toInt32).toInt8.toInt32) &&& (255 : Int32)) <<< ((16 : Int32) &&& 31))) ||| (((((p4.toUInt32 >>> ((8 : Int32) &&& 31).toUInt32).toInt32).toInt8.toInt32) &&& (255 : Int32)) <<< ((8 : Int32) &&& 31))) ||| ((p4.toInt8.toInt32) &&& (255 : Int32))))] [(.int (1 : Int32)), (.int k.toInt32), (.int n.toInt32), (.ref b11), (.ref r25)])) (fun _ k_ => XS.iconst X26.here hx rfl (hb hby at_256) k_) ?_
  obtain ⟨v27, T27, h27, L27, X27, e27, hQ27, st27⟩ := callSt X26 hx hZ hown (w55 hw) (w56 hw) (w57 hw) (w58 hw) (by decide) (W := 0) (argsL := [(.ref r25), (.ref b11), (.int n.toInt32), (.int k.toInt32), (.int (1 : Int32))]) (rest := []) e26 (rm_kept l Z a0 hw r25 b11 n.toInt32 k.toInt32 (1 : Int32) (own_si (xs.take n) k p4) xs h25 n0 Z0 A_r25 A_b11 (by decide) (own_kept (by omega) hx8 (by omega) 1 (by decide))) (by decide) (by decide) pd7 rfl (g := (mkF m 257 #[.val (.int p0), .val (.long q1), .second, .val (.int p2), .val (.int p3), .val (.int p4), .val (.ref b11), .val (.int n.toInt32), .val (.int k.toInt32), .val (.ref b20), .val (.ref r25), .val (.int ((((((((p4.toUInt32 >>> ((24 : Int32) &&& 31).toUInt32).toInt32).toInt8.toInt32) &&& (255 : Int32)) <<< ((24 : Int32) &&& 31)) ||| (((((p4.toUInt32 >>> ((16 : Int32) &&& 31).toUInt32).toInt32).toInt8.toInt32) &&& (255 : Int32)) <<< ((16 : Int32) &&& 31))) ||| (((((p4.toUInt32 >>> ((8 : Int32) &&& 31).toUInt32).toInt32).toInt8.toInt32) &&& (255 : Int32)) <<< ((8 : Int32) &&& 31))) ||| ((p4.toInt8.toInt32) &&& (255 : Int32))))] [(.int (1 : Int32)), (.int k.toInt32), (.int n.toInt32), (.ref b11), (.ref r25)])) rfl (by rw [hml]; rfl) rfl (by show 2 * 0 + _ ≤ _; exact Nat.le_of_eq rfl) (hb hby at_257) (by decide) (by decide)
  obtain ⟨rfl, Nq27, hh27⟩ := hQ27
  rw [hh27] at e27
  have N27 := Fr.app N26 Nq27
  refine Go.st (S' := T27.setTop (mkF m 260 #[.val (.int p0), .val (.long q1), .second, .val (.int p2), .val (.int p3), .val (.int p4), .val (.ref b11), .val (.int n.toInt32), .val (.int k.toInt32), .val (.ref b20), .val (.ref r25), .val (.int ((((((((p4.toUInt32 >>> ((24 : Int32) &&& 31).toUInt32).toInt32).toInt8.toInt32) &&& (255 : Int32)) <<< ((24 : Int32) &&& 31)) ||| (((((p4.toUInt32 >>> ((16 : Int32) &&& 31).toUInt32).toInt32).toInt8.toInt32) &&& (255 : Int32)) <<< ((16 : Int32) &&& 31))) ||| (((((p4.toUInt32 >>> ((8 : Int32) &&& 31).toUInt32).toInt32).toInt8.toInt32) &&& (255 : Int32)) <<< ((8 : Int32) &&& 31))) ||| ((p4.toInt8.toInt32) &&& (255 : Int32))))] [(.int (1 : Int32))])) (st27) ?_
  refine Go.st (S' := T27.setTop (mkF m 263 #[.val (.int p0), .val (.long q1), .second, .val (.int p2), .val (.int p3), .val (.int p4), .val (.ref b11), .val (.int n.toInt32), .val (.int k.toInt32), .val (.ref b20), .val (.ref r25), .val (.int ((((((((p4.toUInt32 >>> ((24 : Int32) &&& 31).toUInt32).toInt32).toInt8.toInt32) &&& (255 : Int32)) <<< ((24 : Int32) &&& 31)) ||| (((((p4.toUInt32 >>> ((16 : Int32) &&& 31).toUInt32).toInt32).toInt8.toInt32) &&& (255 : Int32)) <<< ((16 : Int32) &&& 31))) ||| (((((p4.toUInt32 >>> ((8 : Int32) &&& 31).toUInt32).toInt32).toInt8.toInt32) &&& (255 : Int32)) <<< ((8 : Int32) &&& 31))) ||| ((p4.toInt8.toInt32) &&& (255 : Int32))))] [])) (fun _ k_ => XS.ifNo X27.here hx rfl (hb hby at_260) rfl ((if0 _ _).trans (feq (by decide)).1) k_) ?_
  refine Go.st (S' := T27.setTop (mkF m 265 #[.val (.int p0), .val (.long q1), .second, .val (.int p2), .val (.int p3), .val (.int p4), .val (.ref b11), .val (.int n.toInt32), .val (.int k.toInt32), .val (.ref b20), .val (.ref r25), .val (.int ((((((((p4.toUInt32 >>> ((24 : Int32) &&& 31).toUInt32).toInt32).toInt8.toInt32) &&& (255 : Int32)) <<< ((24 : Int32) &&& 31)) ||| (((((p4.toUInt32 >>> ((16 : Int32) &&& 31).toUInt32).toInt32).toInt8.toInt32) &&& (255 : Int32)) <<< ((16 : Int32) &&& 31))) ||| (((((p4.toUInt32 >>> ((8 : Int32) &&& 31).toUInt32).toInt32).toInt8.toInt32) &&& (255 : Int32)) <<< ((8 : Int32) &&& 31))) ||| ((p4.toInt8.toInt32) &&& (255 : Int32))))] [(.ref r25)])) (fun _ k_ => XS.aload X27.here hx rfl (hb hby at_263) rfl rfl k_) ?_
  refine Go.st (S' := T27.setTop (mkF m 267 #[.val (.int p0), .val (.long q1), .second, .val (.int p2), .val (.int p3), .val (.int p4), .val (.ref b11), .val (.int n.toInt32), .val (.int k.toInt32), .val (.ref b20), .val (.ref r25), .val (.int ((((((((p4.toUInt32 >>> ((24 : Int32) &&& 31).toUInt32).toInt32).toInt8.toInt32) &&& (255 : Int32)) <<< ((24 : Int32) &&& 31)) ||| (((((p4.toUInt32 >>> ((16 : Int32) &&& 31).toUInt32).toInt32).toInt8.toInt32) &&& (255 : Int32)) <<< ((16 : Int32) &&& 31))) ||| (((((p4.toUInt32 >>> ((8 : Int32) &&& 31).toUInt32).toInt32).toInt8.toInt32) &&& (255 : Int32)) <<< ((8 : Int32) &&& 31))) ||| ((p4.toInt8.toInt32) &&& (255 : Int32))))] [(.ref b11), (.ref r25)])) (fun _ k_ => XS.aload X27.here hx rfl (hb hby at_265) rfl rfl k_) ?_
  refine Go.st (S' := T27.setTop (mkF m 269 #[.val (.int p0), .val (.long q1), .second, .val (.int p2), .val (.int p3), .val (.int p4), .val (.ref b11), .val (.int n.toInt32), .val (.int k.toInt32), .val (.ref b20), .val (.ref r25), .val (.int ((((((((p4.toUInt32 >>> ((24 : Int32) &&& 31).toUInt32).toInt32).toInt8.toInt32) &&& (255 : Int32)) <<< ((24 : Int32) &&& 31)) ||| (((((p4.toUInt32 >>> ((16 : Int32) &&& 31).toUInt32).toInt32).toInt8.toInt32) &&& (255 : Int32)) <<< ((16 : Int32) &&& 31))) ||| (((((p4.toUInt32 >>> ((8 : Int32) &&& 31).toUInt32).toInt32).toInt8.toInt32) &&& (255 : Int32)) <<< ((8 : Int32) &&& 31))) ||| ((p4.toInt8.toInt32) &&& (255 : Int32))))] [(.int n.toInt32), (.ref b11), (.ref r25)])) (fun _ k_ => XS.iload X27.here hx rfl (hb hby at_267) rfl k_) ?_
  refine Go.st (S' := T27.setTop (mkF m 271 #[.val (.int p0), .val (.long q1), .second, .val (.int p2), .val (.int p3), .val (.int p4), .val (.ref b11), .val (.int n.toInt32), .val (.int k.toInt32), .val (.ref b20), .val (.ref r25), .val (.int ((((((((p4.toUInt32 >>> ((24 : Int32) &&& 31).toUInt32).toInt32).toInt8.toInt32) &&& (255 : Int32)) <<< ((24 : Int32) &&& 31)) ||| (((((p4.toUInt32 >>> ((16 : Int32) &&& 31).toUInt32).toInt32).toInt8.toInt32) &&& (255 : Int32)) <<< ((16 : Int32) &&& 31))) ||| (((((p4.toUInt32 >>> ((8 : Int32) &&& 31).toUInt32).toInt32).toInt8.toInt32) &&& (255 : Int32)) <<< ((8 : Int32) &&& 31))) ||| ((p4.toInt8.toInt32) &&& (255 : Int32))))] [(.int k.toInt32), (.int n.toInt32), (.ref b11), (.ref r25)])) (fun _ k_ => XS.iload X27.here hx rfl (hb hby at_269) rfl k_) ?_
  refine Go.st (S' := T27.setTop (mkF m 272 #[.val (.int p0), .val (.long q1), .second, .val (.int p2), .val (.int p3), .val (.int p4), .val (.ref b11), .val (.int n.toInt32), .val (.int k.toInt32), .val (.ref b20), .val (.ref r25), .val (.int ((((((((p4.toUInt32 >>> ((24 : Int32) &&& 31).toUInt32).toInt32).toInt8.toInt32) &&& (255 : Int32)) <<< ((24 : Int32) &&& 31)) ||| (((((p4.toUInt32 >>> ((16 : Int32) &&& 31).toUInt32).toInt32).toInt8.toInt32) &&& (255 : Int32)) <<< ((16 : Int32) &&& 31))) ||| (((((p4.toUInt32 >>> ((8 : Int32) &&& 31).toUInt32).toInt32).toInt8.toInt32) &&& (255 : Int32)) <<< ((8 : Int32) &&& 31))) ||| ((p4.toInt8.toInt32) &&& (255 : Int32))))] [(.int (2 : Int32)), (.int k.toInt32), (.int n.toInt32), (.ref b11), (.ref r25)])) (fun _ k_ => XS.iconst X27.here hx rfl (hb hby at_271) k_) ?_
  obtain ⟨v28, T28, h28, L28, X28, e28, hQ28, st28⟩ := callSt X27 hx hZ hown (w55 hw) (w56 hw) (w57 hw) (w58 hw) (by decide) (W := 0) (argsL := [(.ref r25), (.ref b11), (.int n.toInt32), (.int k.toInt32), (.int (2 : Int32))]) (rest := []) e27 (rm_kept l Z a0 hw r25 b11 n.toInt32 k.toInt32 (2 : Int32) (own_si (xs.take n) k p4) xs h25 n0 Z0 A_r25 A_b11 (by decide) (own_kept (by omega) hx8 (by omega) 2 (by decide))) (by decide) (by decide) pd7 rfl (g := (mkF m 272 #[.val (.int p0), .val (.long q1), .second, .val (.int p2), .val (.int p3), .val (.int p4), .val (.ref b11), .val (.int n.toInt32), .val (.int k.toInt32), .val (.ref b20), .val (.ref r25), .val (.int ((((((((p4.toUInt32 >>> ((24 : Int32) &&& 31).toUInt32).toInt32).toInt8.toInt32) &&& (255 : Int32)) <<< ((24 : Int32) &&& 31)) ||| (((((p4.toUInt32 >>> ((16 : Int32) &&& 31).toUInt32).toInt32).toInt8.toInt32) &&& (255 : Int32)) <<< ((16 : Int32) &&& 31))) ||| (((((p4.toUInt32 >>> ((8 : Int32) &&& 31).toUInt32).toInt32).toInt8.toInt32) &&& (255 : Int32)) <<< ((8 : Int32) &&& 31))) ||| ((p4.toInt8.toInt32) &&& (255 : Int32))))] [(.int (2 : Int32)), (.int k.toInt32), (.int n.toInt32), (.ref b11), (.ref r25)])) rfl (by rw [hml]; rfl) rfl (by show 2 * 0 + _ ≤ _; exact Nat.le_of_eq rfl) (hb hby at_272) (by decide) (by decide)
  obtain ⟨rfl, Nq28, hh28⟩ := hQ28
  rw [hh28] at e28
  have N28 := Fr.app N27 Nq28
  refine Go.st (S' := T28.setTop (mkF m 275 #[.val (.int p0), .val (.long q1), .second, .val (.int p2), .val (.int p3), .val (.int p4), .val (.ref b11), .val (.int n.toInt32), .val (.int k.toInt32), .val (.ref b20), .val (.ref r25), .val (.int ((((((((p4.toUInt32 >>> ((24 : Int32) &&& 31).toUInt32).toInt32).toInt8.toInt32) &&& (255 : Int32)) <<< ((24 : Int32) &&& 31)) ||| (((((p4.toUInt32 >>> ((16 : Int32) &&& 31).toUInt32).toInt32).toInt8.toInt32) &&& (255 : Int32)) <<< ((16 : Int32) &&& 31))) ||| (((((p4.toUInt32 >>> ((8 : Int32) &&& 31).toUInt32).toInt32).toInt8.toInt32) &&& (255 : Int32)) <<< ((8 : Int32) &&& 31))) ||| ((p4.toInt8.toInt32) &&& (255 : Int32))))] [(.int (1 : Int32))])) (st28) ?_
  refine Go.st (S' := T28.setTop (mkF m 278 #[.val (.int p0), .val (.long q1), .second, .val (.int p2), .val (.int p3), .val (.int p4), .val (.ref b11), .val (.int n.toInt32), .val (.int k.toInt32), .val (.ref b20), .val (.ref r25), .val (.int ((((((((p4.toUInt32 >>> ((24 : Int32) &&& 31).toUInt32).toInt32).toInt8.toInt32) &&& (255 : Int32)) <<< ((24 : Int32) &&& 31)) ||| (((((p4.toUInt32 >>> ((16 : Int32) &&& 31).toUInt32).toInt32).toInt8.toInt32) &&& (255 : Int32)) <<< ((16 : Int32) &&& 31))) ||| (((((p4.toUInt32 >>> ((8 : Int32) &&& 31).toUInt32).toInt32).toInt8.toInt32) &&& (255 : Int32)) <<< ((8 : Int32) &&& 31))) ||| ((p4.toInt8.toInt32) &&& (255 : Int32))))] [])) (fun _ k_ => XS.ifNo X28.here hx rfl (hb hby at_275) rfl ((if0 _ _).trans (feq (by decide)).1) k_) ?_
  refine Go.st (S' := T28.setTop (mkF m 280 #[.val (.int p0), .val (.long q1), .second, .val (.int p2), .val (.int p3), .val (.int p4), .val (.ref b11), .val (.int n.toInt32), .val (.int k.toInt32), .val (.ref b20), .val (.ref r25), .val (.int ((((((((p4.toUInt32 >>> ((24 : Int32) &&& 31).toUInt32).toInt32).toInt8.toInt32) &&& (255 : Int32)) <<< ((24 : Int32) &&& 31)) ||| (((((p4.toUInt32 >>> ((16 : Int32) &&& 31).toUInt32).toInt32).toInt8.toInt32) &&& (255 : Int32)) <<< ((16 : Int32) &&& 31))) ||| (((((p4.toUInt32 >>> ((8 : Int32) &&& 31).toUInt32).toInt32).toInt8.toInt32) &&& (255 : Int32)) <<< ((8 : Int32) &&& 31))) ||| ((p4.toInt8.toInt32) &&& (255 : Int32))))] [(.ref r25)])) (fun _ k_ => XS.aload X28.here hx rfl (hb hby at_278) rfl rfl k_) ?_
  refine Go.st (S' := T28.setTop (mkF m 282 #[.val (.int p0), .val (.long q1), .second, .val (.int p2), .val (.int p3), .val (.int p4), .val (.ref b11), .val (.int n.toInt32), .val (.int k.toInt32), .val (.ref b20), .val (.ref r25), .val (.int ((((((((p4.toUInt32 >>> ((24 : Int32) &&& 31).toUInt32).toInt32).toInt8.toInt32) &&& (255 : Int32)) <<< ((24 : Int32) &&& 31)) ||| (((((p4.toUInt32 >>> ((16 : Int32) &&& 31).toUInt32).toInt32).toInt8.toInt32) &&& (255 : Int32)) <<< ((16 : Int32) &&& 31))) ||| (((((p4.toUInt32 >>> ((8 : Int32) &&& 31).toUInt32).toInt32).toInt8.toInt32) &&& (255 : Int32)) <<< ((8 : Int32) &&& 31))) ||| ((p4.toInt8.toInt32) &&& (255 : Int32))))] [(.ref b11), (.ref r25)])) (fun _ k_ => XS.aload X28.here hx rfl (hb hby at_280) rfl rfl k_) ?_
  refine Go.st (S' := T28.setTop (mkF m 284 #[.val (.int p0), .val (.long q1), .second, .val (.int p2), .val (.int p3), .val (.int p4), .val (.ref b11), .val (.int n.toInt32), .val (.int k.toInt32), .val (.ref b20), .val (.ref r25), .val (.int ((((((((p4.toUInt32 >>> ((24 : Int32) &&& 31).toUInt32).toInt32).toInt8.toInt32) &&& (255 : Int32)) <<< ((24 : Int32) &&& 31)) ||| (((((p4.toUInt32 >>> ((16 : Int32) &&& 31).toUInt32).toInt32).toInt8.toInt32) &&& (255 : Int32)) <<< ((16 : Int32) &&& 31))) ||| (((((p4.toUInt32 >>> ((8 : Int32) &&& 31).toUInt32).toInt32).toInt8.toInt32) &&& (255 : Int32)) <<< ((8 : Int32) &&& 31))) ||| ((p4.toInt8.toInt32) &&& (255 : Int32))))] [(.int n.toInt32), (.ref b11), (.ref r25)])) (fun _ k_ => XS.iload X28.here hx rfl (hb hby at_282) rfl k_) ?_
  refine Go.st (S' := T28.setTop (mkF m 286 #[.val (.int p0), .val (.long q1), .second, .val (.int p2), .val (.int p3), .val (.int p4), .val (.ref b11), .val (.int n.toInt32), .val (.int k.toInt32), .val (.ref b20), .val (.ref r25), .val (.int ((((((((p4.toUInt32 >>> ((24 : Int32) &&& 31).toUInt32).toInt32).toInt8.toInt32) &&& (255 : Int32)) <<< ((24 : Int32) &&& 31)) ||| (((((p4.toUInt32 >>> ((16 : Int32) &&& 31).toUInt32).toInt32).toInt8.toInt32) &&& (255 : Int32)) <<< ((16 : Int32) &&& 31))) ||| (((((p4.toUInt32 >>> ((8 : Int32) &&& 31).toUInt32).toInt32).toInt8.toInt32) &&& (255 : Int32)) <<< ((8 : Int32) &&& 31))) ||| ((p4.toInt8.toInt32) &&& (255 : Int32))))] [(.int k.toInt32), (.int n.toInt32), (.ref b11), (.ref r25)])) (fun _ k_ => XS.iload X28.here hx rfl (hb hby at_284) rfl k_) ?_
  refine Go.st (S' := T28.setTop (mkF m 287 #[.val (.int p0), .val (.long q1), .second, .val (.int p2), .val (.int p3), .val (.int p4), .val (.ref b11), .val (.int n.toInt32), .val (.int k.toInt32), .val (.ref b20), .val (.ref r25), .val (.int ((((((((p4.toUInt32 >>> ((24 : Int32) &&& 31).toUInt32).toInt32).toInt8.toInt32) &&& (255 : Int32)) <<< ((24 : Int32) &&& 31)) ||| (((((p4.toUInt32 >>> ((16 : Int32) &&& 31).toUInt32).toInt32).toInt8.toInt32) &&& (255 : Int32)) <<< ((16 : Int32) &&& 31))) ||| (((((p4.toUInt32 >>> ((8 : Int32) &&& 31).toUInt32).toInt32).toInt8.toInt32) &&& (255 : Int32)) <<< ((8 : Int32) &&& 31))) ||| ((p4.toInt8.toInt32) &&& (255 : Int32))))] [(.int (3 : Int32)), (.int k.toInt32), (.int n.toInt32), (.ref b11), (.ref r25)])) (fun _ k_ => XS.iconst X28.here hx rfl (hb hby at_286) k_) ?_
  obtain ⟨v29, T29, h29, L29, X29, e29, hQ29, st29⟩ := callSt X28 hx hZ hown (w55 hw) (w56 hw) (w57 hw) (w58 hw) (by decide) (W := 0) (argsL := [(.ref r25), (.ref b11), (.int n.toInt32), (.int k.toInt32), (.int (3 : Int32))]) (rest := []) e28 (rm_kept l Z a0 hw r25 b11 n.toInt32 k.toInt32 (3 : Int32) (own_si (xs.take n) k p4) xs h25 n0 Z0 A_r25 A_b11 (by decide) (own_kept (by omega) hx8 (by omega) 3 (by decide))) (by decide) (by decide) pd7 rfl (g := (mkF m 287 #[.val (.int p0), .val (.long q1), .second, .val (.int p2), .val (.int p3), .val (.int p4), .val (.ref b11), .val (.int n.toInt32), .val (.int k.toInt32), .val (.ref b20), .val (.ref r25), .val (.int ((((((((p4.toUInt32 >>> ((24 : Int32) &&& 31).toUInt32).toInt32).toInt8.toInt32) &&& (255 : Int32)) <<< ((24 : Int32) &&& 31)) ||| (((((p4.toUInt32 >>> ((16 : Int32) &&& 31).toUInt32).toInt32).toInt8.toInt32) &&& (255 : Int32)) <<< ((16 : Int32) &&& 31))) ||| (((((p4.toUInt32 >>> ((8 : Int32) &&& 31).toUInt32).toInt32).toInt8.toInt32) &&& (255 : Int32)) <<< ((8 : Int32) &&& 31))) ||| ((p4.toInt8.toInt32) &&& (255 : Int32))))] [(.int (3 : Int32)), (.int k.toInt32), (.int n.toInt32), (.ref b11), (.ref r25)])) rfl (by rw [hml]; rfl) rfl (by show 2 * 0 + _ ≤ _; exact Nat.le_of_eq rfl) (hb hby at_287) (by decide) (by decide)
  obtain ⟨rfl, Nq29, hh29⟩ := hQ29
  rw [hh29] at e29
  have N29 := Fr.app N28 Nq29
  refine Go.st (S' := T29.setTop (mkF m 290 #[.val (.int p0), .val (.long q1), .second, .val (.int p2), .val (.int p3), .val (.int p4), .val (.ref b11), .val (.int n.toInt32), .val (.int k.toInt32), .val (.ref b20), .val (.ref r25), .val (.int ((((((((p4.toUInt32 >>> ((24 : Int32) &&& 31).toUInt32).toInt32).toInt8.toInt32) &&& (255 : Int32)) <<< ((24 : Int32) &&& 31)) ||| (((((p4.toUInt32 >>> ((16 : Int32) &&& 31).toUInt32).toInt32).toInt8.toInt32) &&& (255 : Int32)) <<< ((16 : Int32) &&& 31))) ||| (((((p4.toUInt32 >>> ((8 : Int32) &&& 31).toUInt32).toInt32).toInt8.toInt32) &&& (255 : Int32)) <<< ((8 : Int32) &&& 31))) ||| ((p4.toInt8.toInt32) &&& (255 : Int32))))] [(.int (1 : Int32))])) (st29) ?_
  refine Go.st (S' := T29.setTop (mkF m 293 #[.val (.int p0), .val (.long q1), .second, .val (.int p2), .val (.int p3), .val (.int p4), .val (.ref b11), .val (.int n.toInt32), .val (.int k.toInt32), .val (.ref b20), .val (.ref r25), .val (.int ((((((((p4.toUInt32 >>> ((24 : Int32) &&& 31).toUInt32).toInt32).toInt8.toInt32) &&& (255 : Int32)) <<< ((24 : Int32) &&& 31)) ||| (((((p4.toUInt32 >>> ((16 : Int32) &&& 31).toUInt32).toInt32).toInt8.toInt32) &&& (255 : Int32)) <<< ((16 : Int32) &&& 31))) ||| (((((p4.toUInt32 >>> ((8 : Int32) &&& 31).toUInt32).toInt32).toInt8.toInt32) &&& (255 : Int32)) <<< ((8 : Int32) &&& 31))) ||| ((p4.toInt8.toInt32) &&& (255 : Int32))))] [])) (fun _ k_ => XS.ifNo X29.here hx rfl (hb hby at_290) rfl ((if0 _ _).trans (feq (by decide)).1) k_) ?_
  refine Go.st (S' := T29.setTop (mkF m 295 #[.val (.int p0), .val (.long q1), .second, .val (.int p2), .val (.int p3), .val (.int p4), .val (.ref b11), .val (.int n.toInt32), .val (.int k.toInt32), .val (.ref b20), .val (.ref r25), .val (.int ((((((((p4.toUInt32 >>> ((24 : Int32) &&& 31).toUInt32).toInt32).toInt8.toInt32) &&& (255 : Int32)) <<< ((24 : Int32) &&& 31)) ||| (((((p4.toUInt32 >>> ((16 : Int32) &&& 31).toUInt32).toInt32).toInt8.toInt32) &&& (255 : Int32)) <<< ((16 : Int32) &&& 31))) ||| (((((p4.toUInt32 >>> ((8 : Int32) &&& 31).toUInt32).toInt32).toInt8.toInt32) &&& (255 : Int32)) <<< ((8 : Int32) &&& 31))) ||| ((p4.toInt8.toInt32) &&& (255 : Int32))))] [(.ref r25)])) (fun _ k_ => XS.aload X29.here hx rfl (hb hby at_293) rfl rfl k_) ?_
  refine Go.st (S' := T29.setTop (mkF m 297 #[.val (.int p0), .val (.long q1), .second, .val (.int p2), .val (.int p3), .val (.int p4), .val (.ref b11), .val (.int n.toInt32), .val (.int k.toInt32), .val (.ref b20), .val (.ref r25), .val (.int ((((((((p4.toUInt32 >>> ((24 : Int32) &&& 31).toUInt32).toInt32).toInt8.toInt32) &&& (255 : Int32)) <<< ((24 : Int32) &&& 31)) ||| (((((p4.toUInt32 >>> ((16 : Int32) &&& 31).toUInt32).toInt32).toInt8.toInt32) &&& (255 : Int32)) <<< ((16 : Int32) &&& 31))) ||| (((((p4.toUInt32 >>> ((8 : Int32) &&& 31).toUInt32).toInt32).toInt8.toInt32) &&& (255 : Int32)) <<< ((8 : Int32) &&& 31))) ||| ((p4.toInt8.toInt32) &&& (255 : Int32))))] [(.ref b11), (.ref r25)])) (fun _ k_ => XS.aload X29.here hx rfl (hb hby at_295) rfl rfl k_) ?_
  refine Go.st (S' := T29.setTop (mkF m 299 #[.val (.int p0), .val (.long q1), .second, .val (.int p2), .val (.int p3), .val (.int p4), .val (.ref b11), .val (.int n.toInt32), .val (.int k.toInt32), .val (.ref b20), .val (.ref r25), .val (.int ((((((((p4.toUInt32 >>> ((24 : Int32) &&& 31).toUInt32).toInt32).toInt8.toInt32) &&& (255 : Int32)) <<< ((24 : Int32) &&& 31)) ||| (((((p4.toUInt32 >>> ((16 : Int32) &&& 31).toUInt32).toInt32).toInt8.toInt32) &&& (255 : Int32)) <<< ((16 : Int32) &&& 31))) ||| (((((p4.toUInt32 >>> ((8 : Int32) &&& 31).toUInt32).toInt32).toInt8.toInt32) &&& (255 : Int32)) <<< ((8 : Int32) &&& 31))) ||| ((p4.toInt8.toInt32) &&& (255 : Int32))))] [(.int n.toInt32), (.ref b11), (.ref r25)])) (fun _ k_ => XS.iload X29.here hx rfl (hb hby at_297) rfl k_) ?_
  refine Go.st (S' := T29.setTop (mkF m 301 #[.val (.int p0), .val (.long q1), .second, .val (.int p2), .val (.int p3), .val (.int p4), .val (.ref b11), .val (.int n.toInt32), .val (.int k.toInt32), .val (.ref b20), .val (.ref r25), .val (.int ((((((((p4.toUInt32 >>> ((24 : Int32) &&& 31).toUInt32).toInt32).toInt8.toInt32) &&& (255 : Int32)) <<< ((24 : Int32) &&& 31)) ||| (((((p4.toUInt32 >>> ((16 : Int32) &&& 31).toUInt32).toInt32).toInt8.toInt32) &&& (255 : Int32)) <<< ((16 : Int32) &&& 31))) ||| (((((p4.toUInt32 >>> ((8 : Int32) &&& 31).toUInt32).toInt32).toInt8.toInt32) &&& (255 : Int32)) <<< ((8 : Int32) &&& 31))) ||| ((p4.toInt8.toInt32) &&& (255 : Int32))))] [(.int k.toInt32), (.int n.toInt32), (.ref b11), (.ref r25)])) (fun _ k_ => XS.iload X29.here hx rfl (hb hby at_299) rfl k_) ?_
  refine Go.st (S' := T29.setTop (mkF m 302 #[.val (.int p0), .val (.long q1), .second, .val (.int p2), .val (.int p3), .val (.int p4), .val (.ref b11), .val (.int n.toInt32), .val (.int k.toInt32), .val (.ref b20), .val (.ref r25), .val (.int ((((((((p4.toUInt32 >>> ((24 : Int32) &&& 31).toUInt32).toInt32).toInt8.toInt32) &&& (255 : Int32)) <<< ((24 : Int32) &&& 31)) ||| (((((p4.toUInt32 >>> ((16 : Int32) &&& 31).toUInt32).toInt32).toInt8.toInt32) &&& (255 : Int32)) <<< ((16 : Int32) &&& 31))) ||| (((((p4.toUInt32 >>> ((8 : Int32) &&& 31).toUInt32).toInt32).toInt8.toInt32) &&& (255 : Int32)) <<< ((8 : Int32) &&& 31))) ||| ((p4.toInt8.toInt32) &&& (255 : Int32))))] [(.int (4 : Int32)), (.int k.toInt32), (.int n.toInt32), (.ref b11), (.ref r25)])) (fun _ k_ => XS.iconst X29.here hx rfl (hb hby at_301) k_) ?_
  obtain ⟨v30, T30, h30, L30, X30, e30, hQ30, st30⟩ := callSt X29 hx hZ hown (w55 hw) (w56 hw) (w57 hw) (w58 hw) (by decide) (W := 0) (argsL := [(.ref r25), (.ref b11), (.int n.toInt32), (.int k.toInt32), (.int (4 : Int32))]) (rest := []) e29 (rm_kept l Z a0 hw r25 b11 n.toInt32 k.toInt32 (4 : Int32) (own_si (xs.take n) k p4) xs h25 n0 Z0 A_r25 A_b11 (by decide) (own_kept (by omega) hx8 (by omega) 4 (by decide))) (by decide) (by decide) pd7 rfl (g := (mkF m 302 #[.val (.int p0), .val (.long q1), .second, .val (.int p2), .val (.int p3), .val (.int p4), .val (.ref b11), .val (.int n.toInt32), .val (.int k.toInt32), .val (.ref b20), .val (.ref r25), .val (.int ((((((((p4.toUInt32 >>> ((24 : Int32) &&& 31).toUInt32).toInt32).toInt8.toInt32) &&& (255 : Int32)) <<< ((24 : Int32) &&& 31)) ||| (((((p4.toUInt32 >>> ((16 : Int32) &&& 31).toUInt32).toInt32).toInt8.toInt32) &&& (255 : Int32)) <<< ((16 : Int32) &&& 31))) ||| (((((p4.toUInt32 >>> ((8 : Int32) &&& 31).toUInt32).toInt32).toInt8.toInt32) &&& (255 : Int32)) <<< ((8 : Int32) &&& 31))) ||| ((p4.toInt8.toInt32) &&& (255 : Int32))))] [(.int (4 : Int32)), (.int k.toInt32), (.int n.toInt32), (.ref b11), (.ref r25)])) rfl (by rw [hml]; rfl) rfl (by show 2 * 0 + _ ≤ _; exact Nat.le_of_eq rfl) (hb hby at_302) (by decide) (by decide)
  obtain ⟨rfl, Nq30, hh30⟩ := hQ30
  rw [hh30] at e30
  have N30 := Fr.app N29 Nq30
  refine Go.st (S' := T30.setTop (mkF m 305 #[.val (.int p0), .val (.long q1), .second, .val (.int p2), .val (.int p3), .val (.int p4), .val (.ref b11), .val (.int n.toInt32), .val (.int k.toInt32), .val (.ref b20), .val (.ref r25), .val (.int ((((((((p4.toUInt32 >>> ((24 : Int32) &&& 31).toUInt32).toInt32).toInt8.toInt32) &&& (255 : Int32)) <<< ((24 : Int32) &&& 31)) ||| (((((p4.toUInt32 >>> ((16 : Int32) &&& 31).toUInt32).toInt32).toInt8.toInt32) &&& (255 : Int32)) <<< ((16 : Int32) &&& 31))) ||| (((((p4.toUInt32 >>> ((8 : Int32) &&& 31).toUInt32).toInt32).toInt8.toInt32) &&& (255 : Int32)) <<< ((8 : Int32) &&& 31))) ||| ((p4.toInt8.toInt32) &&& (255 : Int32))))] [(.int (1 : Int32))])) (st30) ?_
  refine Go.st (S' := T30.setTop (mkF m 308 #[.val (.int p0), .val (.long q1), .second, .val (.int p2), .val (.int p3), .val (.int p4), .val (.ref b11), .val (.int n.toInt32), .val (.int k.toInt32), .val (.ref b20), .val (.ref r25), .val (.int ((((((((p4.toUInt32 >>> ((24 : Int32) &&& 31).toUInt32).toInt32).toInt8.toInt32) &&& (255 : Int32)) <<< ((24 : Int32) &&& 31)) ||| (((((p4.toUInt32 >>> ((16 : Int32) &&& 31).toUInt32).toInt32).toInt8.toInt32) &&& (255 : Int32)) <<< ((16 : Int32) &&& 31))) ||| (((((p4.toUInt32 >>> ((8 : Int32) &&& 31).toUInt32).toInt32).toInt8.toInt32) &&& (255 : Int32)) <<< ((8 : Int32) &&& 31))) ||| ((p4.toInt8.toInt32) &&& (255 : Int32))))] [])) (fun _ k_ => XS.ifNo X30.here hx rfl (hb hby at_305) rfl ((if0 _ _).trans (feq (by decide)).1) k_) ?_
  refine Go.st (S' := T30.setTop (mkF m 310 #[.val (.int p0), .val (.long q1), .second, .val (.int p2), .val (.int p3), .val (.int p4), .val (.ref b11), .val (.int n.toInt32), .val (.int k.toInt32), .val (.ref b20), .val (.ref r25), .val (.int ((((((((p4.toUInt32 >>> ((24 : Int32) &&& 31).toUInt32).toInt32).toInt8.toInt32) &&& (255 : Int32)) <<< ((24 : Int32) &&& 31)) ||| (((((p4.toUInt32 >>> ((16 : Int32) &&& 31).toUInt32).toInt32).toInt8.toInt32) &&& (255 : Int32)) <<< ((16 : Int32) &&& 31))) ||| (((((p4.toUInt32 >>> ((8 : Int32) &&& 31).toUInt32).toInt32).toInt8.toInt32) &&& (255 : Int32)) <<< ((8 : Int32) &&& 31))) ||| ((p4.toInt8.toInt32) &&& (255 : Int32))))] [(.ref r25)])) (fun _ k_ => XS.aload X30.here hx rfl (hb hby at_308) rfl rfl k_) ?_
  refine Go.st (S' := T30.setTop (mkF m 312 #[.val (.int p0), .val (.long q1), .second, .val (.int p2), .val (.int p3), .val (.int p4), .val (.ref b11), .val (.int n.toInt32), .val (.int k.toInt32), .val (.ref b20), .val (.ref r25), .val (.int ((((((((p4.toUInt32 >>> ((24 : Int32) &&& 31).toUInt32).toInt32).toInt8.toInt32) &&& (255 : Int32)) <<< ((24 : Int32) &&& 31)) ||| (((((p4.toUInt32 >>> ((16 : Int32) &&& 31).toUInt32).toInt32).toInt8.toInt32) &&& (255 : Int32)) <<< ((16 : Int32) &&& 31))) ||| (((((p4.toUInt32 >>> ((8 : Int32) &&& 31).toUInt32).toInt32).toInt8.toInt32) &&& (255 : Int32)) <<< ((8 : Int32) &&& 31))) ||| ((p4.toInt8.toInt32) &&& (255 : Int32))))] [(.ref b11), (.ref r25)])) (fun _ k_ => XS.aload X30.here hx rfl (hb hby at_310) rfl rfl k_) ?_
  refine Go.st (S' := T30.setTop (mkF m 314 #[.val (.int p0), .val (.long q1), .second, .val (.int p2), .val (.int p3), .val (.int p4), .val (.ref b11), .val (.int n.toInt32), .val (.int k.toInt32), .val (.ref b20), .val (.ref r25), .val (.int ((((((((p4.toUInt32 >>> ((24 : Int32) &&& 31).toUInt32).toInt32).toInt8.toInt32) &&& (255 : Int32)) <<< ((24 : Int32) &&& 31)) ||| (((((p4.toUInt32 >>> ((16 : Int32) &&& 31).toUInt32).toInt32).toInt8.toInt32) &&& (255 : Int32)) <<< ((16 : Int32) &&& 31))) ||| (((((p4.toUInt32 >>> ((8 : Int32) &&& 31).toUInt32).toInt32).toInt8.toInt32) &&& (255 : Int32)) <<< ((8 : Int32) &&& 31))) ||| ((p4.toInt8.toInt32) &&& (255 : Int32))))] [(.int n.toInt32), (.ref b11), (.ref r25)])) (fun _ k_ => XS.iload X30.here hx rfl (hb hby at_312) rfl k_) ?_
  refine Go.st (S' := T30.setTop (mkF m 316 #[.val (.int p0), .val (.long q1), .second, .val (.int p2), .val (.int p3), .val (.int p4), .val (.ref b11), .val (.int n.toInt32), .val (.int k.toInt32), .val (.ref b20), .val (.ref r25), .val (.int ((((((((p4.toUInt32 >>> ((24 : Int32) &&& 31).toUInt32).toInt32).toInt8.toInt32) &&& (255 : Int32)) <<< ((24 : Int32) &&& 31)) ||| (((((p4.toUInt32 >>> ((16 : Int32) &&& 31).toUInt32).toInt32).toInt8.toInt32) &&& (255 : Int32)) <<< ((16 : Int32) &&& 31))) ||| (((((p4.toUInt32 >>> ((8 : Int32) &&& 31).toUInt32).toInt32).toInt8.toInt32) &&& (255 : Int32)) <<< ((8 : Int32) &&& 31))) ||| ((p4.toInt8.toInt32) &&& (255 : Int32))))] [(.int k.toInt32), (.int n.toInt32), (.ref b11), (.ref r25)])) (fun _ k_ => XS.iload X30.here hx rfl (hb hby at_314) rfl k_) ?_
  refine Go.st (S' := T30.setTop (mkF m 317 #[.val (.int p0), .val (.long q1), .second, .val (.int p2), .val (.int p3), .val (.int p4), .val (.ref b11), .val (.int n.toInt32), .val (.int k.toInt32), .val (.ref b20), .val (.ref r25), .val (.int ((((((((p4.toUInt32 >>> ((24 : Int32) &&& 31).toUInt32).toInt32).toInt8.toInt32) &&& (255 : Int32)) <<< ((24 : Int32) &&& 31)) ||| (((((p4.toUInt32 >>> ((16 : Int32) &&& 31).toUInt32).toInt32).toInt8.toInt32) &&& (255 : Int32)) <<< ((16 : Int32) &&& 31))) ||| (((((p4.toUInt32 >>> ((8 : Int32) &&& 31).toUInt32).toInt32).toInt8.toInt32) &&& (255 : Int32)) <<< ((8 : Int32) &&& 31))) ||| ((p4.toInt8.toInt32) &&& (255 : Int32))))] [(.int (5 : Int32)), (.int k.toInt32), (.int n.toInt32), (.ref b11), (.ref r25)])) (fun _ k_ => XS.iconst X30.here hx rfl (hb hby at_316) k_) ?_
  obtain ⟨v31, T31, h31, L31, X31, e31, hQ31, st31⟩ := callSt X30 hx hZ hown (w55 hw) (w56 hw) (w57 hw) (w58 hw) (by decide) (W := 0) (argsL := [(.ref r25), (.ref b11), (.int n.toInt32), (.int k.toInt32), (.int (5 : Int32))]) (rest := []) e30 (rm_kept l Z a0 hw r25 b11 n.toInt32 k.toInt32 (5 : Int32) (own_si (xs.take n) k p4) xs h25 n0 Z0 A_r25 A_b11 (by decide) (own_kept (by omega) hx8 (by omega) 5 (by decide))) (by decide) (by decide) pd7 rfl (g := (mkF m 317 #[.val (.int p0), .val (.long q1), .second, .val (.int p2), .val (.int p3), .val (.int p4), .val (.ref b11), .val (.int n.toInt32), .val (.int k.toInt32), .val (.ref b20), .val (.ref r25), .val (.int ((((((((p4.toUInt32 >>> ((24 : Int32) &&& 31).toUInt32).toInt32).toInt8.toInt32) &&& (255 : Int32)) <<< ((24 : Int32) &&& 31)) ||| (((((p4.toUInt32 >>> ((16 : Int32) &&& 31).toUInt32).toInt32).toInt8.toInt32) &&& (255 : Int32)) <<< ((16 : Int32) &&& 31))) ||| (((((p4.toUInt32 >>> ((8 : Int32) &&& 31).toUInt32).toInt32).toInt8.toInt32) &&& (255 : Int32)) <<< ((8 : Int32) &&& 31))) ||| ((p4.toInt8.toInt32) &&& (255 : Int32))))] [(.int (5 : Int32)), (.int k.toInt32), (.int n.toInt32), (.ref b11), (.ref r25)])) rfl (by rw [hml]; rfl) rfl (by show 2 * 0 + _ ≤ _; exact Nat.le_of_eq rfl) (hb hby at_317) (by decide) (by decide)
  obtain ⟨rfl, Nq31, hh31⟩ := hQ31
  rw [hh31] at e31
  have N31 := Fr.app N30 Nq31
  refine Go.st (S' := T31.setTop (mkF m 320 #[.val (.int p0), .val (.long q1), .second, .val (.int p2), .val (.int p3), .val (.int p4), .val (.ref b11), .val (.int n.toInt32), .val (.int k.toInt32), .val (.ref b20), .val (.ref r25), .val (.int ((((((((p4.toUInt32 >>> ((24 : Int32) &&& 31).toUInt32).toInt32).toInt8.toInt32) &&& (255 : Int32)) <<< ((24 : Int32) &&& 31)) ||| (((((p4.toUInt32 >>> ((16 : Int32) &&& 31).toUInt32).toInt32).toInt8.toInt32) &&& (255 : Int32)) <<< ((16 : Int32) &&& 31))) ||| (((((p4.toUInt32 >>> ((8 : Int32) &&& 31).toUInt32).toInt32).toInt8.toInt32) &&& (255 : Int32)) <<< ((8 : Int32) &&& 31))) ||| ((p4.toInt8.toInt32) &&& (255 : Int32))))] [(.int (1 : Int32))])) (st31) ?_
  refine Go.st (S' := T31.setTop (mkF m 323 #[.val (.int p0), .val (.long q1), .second, .val (.int p2), .val (.int p3), .val (.int p4), .val (.ref b11), .val (.int n.toInt32), .val (.int k.toInt32), .val (.ref b20), .val (.ref r25), .val (.int ((((((((p4.toUInt32 >>> ((24 : Int32) &&& 31).toUInt32).toInt32).toInt8.toInt32) &&& (255 : Int32)) <<< ((24 : Int32) &&& 31)) ||| (((((p4.toUInt32 >>> ((16 : Int32) &&& 31).toUInt32).toInt32).toInt8.toInt32) &&& (255 : Int32)) <<< ((16 : Int32) &&& 31))) ||| (((((p4.toUInt32 >>> ((8 : Int32) &&& 31).toUInt32).toInt32).toInt8.toInt32) &&& (255 : Int32)) <<< ((8 : Int32) &&& 31))) ||| ((p4.toInt8.toInt32) &&& (255 : Int32))))] [])) (fun _ k_ => XS.ifNo X31.here hx rfl (hb hby at_320) rfl ((if0 _ _).trans (feq (by decide)).1) k_) ?_
  refine Go.st (S' := T31.setTop (mkF m 325 #[.val (.int p0), .val (.long q1), .second, .val (.int p2), .val (.int p3), .val (.int p4), .val (.ref b11), .val (.int n.toInt32), .val (.int k.toInt32), .val (.ref b20), .val (.ref r25), .val (.int ((((((((p4.toUInt32 >>> ((24 : Int32) &&& 31).toUInt32).toInt32).toInt8.toInt32) &&& (255 : Int32)) <<< ((24 : Int32) &&& 31)) ||| (((((p4.toUInt32 >>> ((16 : Int32) &&& 31).toUInt32).toInt32).toInt8.toInt32) &&& (255 : Int32)) <<< ((16 : Int32) &&& 31))) ||| (((((p4.toUInt32 >>> ((8 : Int32) &&& 31).toUInt32).toInt32).toInt8.toInt32) &&& (255 : Int32)) <<< ((8 : Int32) &&& 31))) ||| ((p4.toInt8.toInt32) &&& (255 : Int32))))] [(.ref r25)])) (fun _ k_ => XS.aload X31.here hx rfl (hb hby at_323) rfl rfl k_) ?_
  refine Go.st (S' := T31.setTop (mkF m 327 #[.val (.int p0), .val (.long q1), .second, .val (.int p2), .val (.int p3), .val (.int p4), .val (.ref b11), .val (.int n.toInt32), .val (.int k.toInt32), .val (.ref b20), .val (.ref r25), .val (.int ((((((((p4.toUInt32 >>> ((24 : Int32) &&& 31).toUInt32).toInt32).toInt8.toInt32) &&& (255 : Int32)) <<< ((24 : Int32) &&& 31)) ||| (((((p4.toUInt32 >>> ((16 : Int32) &&& 31).toUInt32).toInt32).toInt8.toInt32) &&& (255 : Int32)) <<< ((16 : Int32) &&& 31))) ||| (((((p4.toUInt32 >>> ((8 : Int32) &&& 31).toUInt32).toInt32).toInt8.toInt32) &&& (255 : Int32)) <<< ((8 : Int32) &&& 31))) ||| ((p4.toInt8.toInt32) &&& (255 : Int32))))] [(.ref b11), (.ref r25)])) (fun _ k_ => XS.aload X31.here hx rfl (hb hby at_325) rfl rfl k_) ?_
  refine Go.st (S' := T31.setTop (mkF m 329 #[.val (.int p0), .val (.long q1), .second, .val (.int p2), .val (.int p3), .val (.int p4), .val (.ref b11), .val (.int n.toInt32), .val (.int k.toInt32), .val (.ref b20), .val (.ref r25), .val (.int ((((((((p4.toUInt32 >>> ((24 : Int32) &&& 31).toUInt32).toInt32).toInt8.toInt32) &&& (255 : Int32)) <<< ((24 : Int32) &&& 31)) ||| (((((p4.toUInt32 >>> ((16 : Int32) &&& 31).toUInt32).toInt32).toInt8.toInt32) &&& (255 : Int32)) <<< ((16 : Int32) &&& 31))) ||| (((((p4.toUInt32 >>> ((8 : Int32) &&& 31).toUInt32).toInt32).toInt8.toInt32) &&& (255 : Int32)) <<< ((8 : Int32) &&& 31))) ||| ((p4.toInt8.toInt32) &&& (255 : Int32))))] [(.int n.toInt32), (.ref b11), (.ref r25)])) (fun _ k_ => XS.iload X31.here hx rfl (hb hby at_327) rfl k_) ?_
  refine Go.st (S' := T31.setTop (mkF m 331 #[.val (.int p0), .val (.long q1), .second, .val (.int p2), .val (.int p3), .val (.int p4), .val (.ref b11), .val (.int n.toInt32), .val (.int k.toInt32), .val (.ref b20), .val (.ref r25), .val (.int ((((((((p4.toUInt32 >>> ((24 : Int32) &&& 31).toUInt32).toInt32).toInt8.toInt32) &&& (255 : Int32)) <<< ((24 : Int32) &&& 31)) ||| (((((p4.toUInt32 >>> ((16 : Int32) &&& 31).toUInt32).toInt32).toInt8.toInt32) &&& (255 : Int32)) <<< ((16 : Int32) &&& 31))) ||| (((((p4.toUInt32 >>> ((8 : Int32) &&& 31).toUInt32).toInt32).toInt8.toInt32) &&& (255 : Int32)) <<< ((8 : Int32) &&& 31))) ||| ((p4.toInt8.toInt32) &&& (255 : Int32))))] [(.int k.toInt32), (.int n.toInt32), (.ref b11), (.ref r25)])) (fun _ k_ => XS.iload X31.here hx rfl (hb hby at_329) rfl k_) ?_
  refine Go.st (S' := T31.setTop (mkF m 333 #[.val (.int p0), .val (.long q1), .second, .val (.int p2), .val (.int p3), .val (.int p4), .val (.ref b11), .val (.int n.toInt32), .val (.int k.toInt32), .val (.ref b20), .val (.ref r25), .val (.int ((((((((p4.toUInt32 >>> ((24 : Int32) &&& 31).toUInt32).toInt32).toInt8.toInt32) &&& (255 : Int32)) <<< ((24 : Int32) &&& 31)) ||| (((((p4.toUInt32 >>> ((16 : Int32) &&& 31).toUInt32).toInt32).toInt8.toInt32) &&& (255 : Int32)) <<< ((16 : Int32) &&& 31))) ||| (((((p4.toUInt32 >>> ((8 : Int32) &&& 31).toUInt32).toInt32).toInt8.toInt32) &&& (255 : Int32)) <<< ((8 : Int32) &&& 31))) ||| ((p4.toInt8.toInt32) &&& (255 : Int32))))] [(.int (6 : Int32)), (.int k.toInt32), (.int n.toInt32), (.ref b11), (.ref r25)])) (fun _ k_ => XS.bipush X31.here hx rfl (hb hby at_331) k_) ?_
  obtain ⟨v32, T32, h32, L32, X32, e32, hQ32, st32⟩ := callSt X31 hx hZ hown (w55 hw) (w56 hw) (w57 hw) (w58 hw) (by decide) (W := 0) (argsL := [(.ref r25), (.ref b11), (.int n.toInt32), (.int k.toInt32), (.int (6 : Int32))]) (rest := []) e31 (rm_kept l Z a0 hw r25 b11 n.toInt32 k.toInt32 (6 : Int32) (own_si (xs.take n) k p4) xs h25 n0 Z0 A_r25 A_b11 (by decide) (own_kept (by omega) hx8 (by omega) 6 (by decide))) (by decide) (by decide) pd7 rfl (g := (mkF m 333 #[.val (.int p0), .val (.long q1), .second, .val (.int p2), .val (.int p3), .val (.int p4), .val (.ref b11), .val (.int n.toInt32), .val (.int k.toInt32), .val (.ref b20), .val (.ref r25), .val (.int ((((((((p4.toUInt32 >>> ((24 : Int32) &&& 31).toUInt32).toInt32).toInt8.toInt32) &&& (255 : Int32)) <<< ((24 : Int32) &&& 31)) ||| (((((p4.toUInt32 >>> ((16 : Int32) &&& 31).toUInt32).toInt32).toInt8.toInt32) &&& (255 : Int32)) <<< ((16 : Int32) &&& 31))) ||| (((((p4.toUInt32 >>> ((8 : Int32) &&& 31).toUInt32).toInt32).toInt8.toInt32) &&& (255 : Int32)) <<< ((8 : Int32) &&& 31))) ||| ((p4.toInt8.toInt32) &&& (255 : Int32))))] [(.int (6 : Int32)), (.int k.toInt32), (.int n.toInt32), (.ref b11), (.ref r25)])) rfl (by rw [hml]; rfl) rfl (by show 2 * 0 + _ ≤ _; exact Nat.le_of_eq rfl) (hb hby at_333) (by decide) (by decide)
  obtain ⟨rfl, Nq32, hh32⟩ := hQ32
  rw [hh32] at e32
  have N32 := Fr.app N31 Nq32
  refine Go.st (S' := T32.setTop (mkF m 336 #[.val (.int p0), .val (.long q1), .second, .val (.int p2), .val (.int p3), .val (.int p4), .val (.ref b11), .val (.int n.toInt32), .val (.int k.toInt32), .val (.ref b20), .val (.ref r25), .val (.int ((((((((p4.toUInt32 >>> ((24 : Int32) &&& 31).toUInt32).toInt32).toInt8.toInt32) &&& (255 : Int32)) <<< ((24 : Int32) &&& 31)) ||| (((((p4.toUInt32 >>> ((16 : Int32) &&& 31).toUInt32).toInt32).toInt8.toInt32) &&& (255 : Int32)) <<< ((16 : Int32) &&& 31))) ||| (((((p4.toUInt32 >>> ((8 : Int32) &&& 31).toUInt32).toInt32).toInt8.toInt32) &&& (255 : Int32)) <<< ((8 : Int32) &&& 31))) ||| ((p4.toInt8.toInt32) &&& (255 : Int32))))] [(.int (1 : Int32))])) (st32) ?_
  refine Go.st (S' := T32.setTop (mkF m 339 #[.val (.int p0), .val (.long q1), .second, .val (.int p2), .val (.int p3), .val (.int p4), .val (.ref b11), .val (.int n.toInt32), .val (.int k.toInt32), .val (.ref b20), .val (.ref r25), .val (.int ((((((((p4.toUInt32 >>> ((24 : Int32) &&& 31).toUInt32).toInt32).toInt8.toInt32) &&& (255 : Int32)) <<< ((24 : Int32) &&& 31)) ||| (((((p4.toUInt32 >>> ((16 : Int32) &&& 31).toUInt32).toInt32).toInt8.toInt32) &&& (255 : Int32)) <<< ((16 : Int32) &&& 31))) ||| (((((p4.toUInt32 >>> ((8 : Int32) &&& 31).toUInt32).toInt32).toInt8.toInt32) &&& (255 : Int32)) <<< ((8 : Int32) &&& 31))) ||| ((p4.toInt8.toInt32) &&& (255 : Int32))))] [])) (fun _ k_ => XS.ifNo X32.here hx rfl (hb hby at_336) rfl ((if0 _ _).trans (feq (by decide)).1) k_) ?_
  refine Go.st (S' := T32.setTop (mkF m 341 #[.val (.int p0), .val (.long q1), .second, .val (.int p2), .val (.int p3), .val (.int p4), .val (.ref b11), .val (.int n.toInt32), .val (.int k.toInt32), .val (.ref b20), .val (.ref r25), .val (.int ((((((((p4.toUInt32 >>> ((24 : Int32) &&& 31).toUInt32).toInt32).toInt8.toInt32) &&& (255 : Int32)) <<< ((24 : Int32) &&& 31)) ||| (((((p4.toUInt32 >>> ((16 : Int32) &&& 31).toUInt32).toInt32).toInt8.toInt32) &&& (255 : Int32)) <<< ((16 : Int32) &&& 31))) ||| (((((p4.toUInt32 >>> ((8 : Int32) &&& 31).toUInt32).toInt32).toInt8.toInt32) &&& (255 : Int32)) <<< ((8 : Int32) &&& 31))) ||| ((p4.toInt8.toInt32) &&& (255 : Int32))))] [(.ref r25)])) (fun _ k_ => XS.aload X32.here hx rfl (hb hby at_339) rfl rfl k_) ?_
  refine Go.st (S' := T32.setTop (mkF m 343 #[.val (.int p0), .val (.long q1), .second, .val (.int p2), .val (.int p3), .val (.int p4), .val (.ref b11), .val (.int n.toInt32), .val (.int k.toInt32), .val (.ref b20), .val (.ref r25), .val (.int ((((((((p4.toUInt32 >>> ((24 : Int32) &&& 31).toUInt32).toInt32).toInt8.toInt32) &&& (255 : Int32)) <<< ((24 : Int32) &&& 31)) ||| (((((p4.toUInt32 >>> ((16 : Int32) &&& 31).toUInt32).toInt32).toInt8.toInt32) &&& (255 : Int32)) <<< ((16 : Int32) &&& 31))) ||| (((((p4.toUInt32 >>> ((8 : Int32) &&& 31).toUInt32).toInt32).toInt8.toInt32) &&& (255 : Int32)) <<< ((8 : Int32) &&& 31))) ||| ((p4.toInt8.toInt32) &&& (255 : Int32))))] [(.ref b11), (.ref r25)])) (fun _ k_ => XS.aload X32.here hx rfl (hb hby at_341) rfl rfl k_) ?_
  refine Go.st (S' := T32.setTop (mkF m 345 #[.val (.int p0), .val (.long q1), .second, .val (.int p2), .val (.int p3), .val (.int p4), .val (.ref b11), .val (.int n.toInt32), .val (.int k.toInt32), .val (.ref b20), .val (.ref r25), .val (.int ((((((((p4.toUInt32 >>> ((24 : Int32) &&& 31).toUInt32).toInt32).toInt8.toInt32) &&& (255 : Int32)) <<< ((24 : Int32) &&& 31)) ||| (((((p4.toUInt32 >>> ((16 : Int32) &&& 31).toUInt32).toInt32).toInt8.toInt32) &&& (255 : Int32)) <<< ((16 : Int32) &&& 31))) ||| (((((p4.toUInt32 >>> ((8 : Int32) &&& 31).toUInt32).toInt32).toInt8.toInt32) &&& (255 : Int32)) <<< ((8 : Int32) &&& 31))) ||| ((p4.toInt8.toInt32) &&& (255 : Int32))))] [(.int n.toInt32), (.ref b11), (.ref r25)])) (fun _ k_ => XS.iload X32.here hx rfl (hb hby at_343) rfl k_) ?_
  refine Go.st (S' := T32.setTop (mkF m 347 #[.val (.int p0), .val (.long q1), .second, .val (.int p2), .val (.int p3), .val (.int p4), .val (.ref b11), .val (.int n.toInt32), .val (.int k.toInt32), .val (.ref b20), .val (.ref r25), .val (.int ((((((((p4.toUInt32 >>> ((24 : Int32) &&& 31).toUInt32).toInt32).toInt8.toInt32) &&& (255 : Int32)) <<< ((24 : Int32) &&& 31)) ||| (((((p4.toUInt32 >>> ((16 : Int32) &&& 31).toUInt32).toInt32).toInt8.toInt32) &&& (255 : Int32)) <<< ((16 : Int32) &&& 31))) ||| (((((p4.toUInt32 >>> ((8 : Int32) &&& 31).toUInt32).toInt32).toInt8.toInt32) &&& (255 : Int32)) <<< ((8 : Int32) &&& 31))) ||| ((p4.toInt8.toInt32) &&& (255 : Int32))))] [(.int k.toInt32), (.int n.toInt32), (.ref b11), (.ref r25)])) (fun _ k_ => XS.iload X32.here hx rfl (hb hby at_345) rfl k_) ?_
  refine Go.st (S' := T32.setTop (mkF m 349 #[.val (.int p0), .val (.long q1), .second, .val (.int p2), .val (.int p3), .val (.int p4), .val (.ref b11), .val (.int n.toInt32), .val (.int k.toInt32), .val (.ref b20), .val (.ref r25), .val (.int ((((((((p4.toUInt32 >>> ((24 : Int32) &&& 31).toUInt32).toInt32).toInt8.toInt32) &&& (255 : Int32)) <<< ((24 : Int32) &&& 31)) ||| (((((p4.toUInt32 >>> ((16 : Int32) &&& 31).toUInt32).toInt32).toInt8.toInt32) &&& (255 : Int32)) <<< ((16 : Int32) &&& 31))) ||| (((((p4.toUInt32 >>> ((8 : Int32) &&& 31).toUInt32).toInt32).toInt8.toInt32) &&& (255 : Int32)) <<< ((8 : Int32) &&& 31))) ||| ((p4.toInt8.toInt32) &&& (255 : Int32))))] [(.int (7 : Int32)), (.int k.toInt32), (.int n.toInt32), (.ref b11), (.ref r25)])) (fun _ k_ => XS.bipush X32.here hx rfl (hb hby at_347) k_) ?_
  obtain ⟨v33, T33, h33, L33, X33, e33, hQ33, st33⟩ := callSt X32 hx hZ hown (w55 hw) (w56 hw) (w57 hw) (w58 hw) (by decide) (W := 0) (argsL := [(.ref r25), (.ref b11), (.int n.toInt32), (.int k.toInt32), (.int (7 : Int32))]) (rest := []) e32 (rm_kept l Z a0 hw r25 b11 n.toInt32 k.toInt32 (7 : Int32) (own_si (xs.take n) k p4) xs h25 n0 Z0 A_r25 A_b11 (by decide) (own_kept (by omega) hx8 (by omega) 7 (by decide))) (by decide) (by decide) pd7 rfl (g := (mkF m 349 #[.val (.int p0), .val (.long q1), .second, .val (.int p2), .val (.int p3), .val (.int p4), .val (.ref b11), .val (.int n.toInt32), .val (.int k.toInt32), .val (.ref b20), .val (.ref r25), .val (.int ((((((((p4.toUInt32 >>> ((24 : Int32) &&& 31).toUInt32).toInt32).toInt8.toInt32) &&& (255 : Int32)) <<< ((24 : Int32) &&& 31)) ||| (((((p4.toUInt32 >>> ((16 : Int32) &&& 31).toUInt32).toInt32).toInt8.toInt32) &&& (255 : Int32)) <<< ((16 : Int32) &&& 31))) ||| (((((p4.toUInt32 >>> ((8 : Int32) &&& 31).toUInt32).toInt32).toInt8.toInt32) &&& (255 : Int32)) <<< ((8 : Int32) &&& 31))) ||| ((p4.toInt8.toInt32) &&& (255 : Int32))))] [(.int (7 : Int32)), (.int k.toInt32), (.int n.toInt32), (.ref b11), (.ref r25)])) rfl (by rw [hml]; rfl) rfl (by show 2 * 0 + _ ≤ _; exact Nat.le_of_eq rfl) (hb hby at_349) (by decide) (by decide)
  obtain ⟨rfl, Nq33, hh33⟩ := hQ33
  rw [hh33] at e33
  have N33 := Fr.app N32 Nq33
  refine Go.st (S' := T33.setTop (mkF m 352 #[.val (.int p0), .val (.long q1), .second, .val (.int p2), .val (.int p3), .val (.int p4), .val (.ref b11), .val (.int n.toInt32), .val (.int k.toInt32), .val (.ref b20), .val (.ref r25), .val (.int ((((((((p4.toUInt32 >>> ((24 : Int32) &&& 31).toUInt32).toInt32).toInt8.toInt32) &&& (255 : Int32)) <<< ((24 : Int32) &&& 31)) ||| (((((p4.toUInt32 >>> ((16 : Int32) &&& 31).toUInt32).toInt32).toInt8.toInt32) &&& (255 : Int32)) <<< ((16 : Int32) &&& 31))) ||| (((((p4.toUInt32 >>> ((8 : Int32) &&& 31).toUInt32).toInt32).toInt8.toInt32) &&& (255 : Int32)) <<< ((8 : Int32) &&& 31))) ||| ((p4.toInt8.toInt32) &&& (255 : Int32))))] [(.int (1 : Int32))])) (st33) ?_
  refine Go.st (S' := T33.setTop (mkF m 355 #[.val (.int p0), .val (.long q1), .second, .val (.int p2), .val (.int p3), .val (.int p4), .val (.ref b11), .val (.int n.toInt32), .val (.int k.toInt32), .val (.ref b20), .val (.ref r25), .val (.int ((((((((p4.toUInt32 >>> ((24 : Int32) &&& 31).toUInt32).toInt32).toInt8.toInt32) &&& (255 : Int32)) <<< ((24 : Int32) &&& 31)) ||| (((((p4.toUInt32 >>> ((16 : Int32) &&& 31).toUInt32).toInt32).toInt8.toInt32) &&& (255 : Int32)) <<< ((16 : Int32) &&& 31))) ||| (((((p4.toUInt32 >>> ((8 : Int32) &&& 31).toUInt32).toInt32).toInt8.toInt32) &&& (255 : Int32)) <<< ((8 : Int32) &&& 31))) ||| ((p4.toInt8.toInt32) &&& (255 : Int32))))] [])) (fun _ k_ => XS.ifNo X33.here hx rfl (hb hby at_352) rfl ((if0 _ _).trans (feq (by decide)).1) k_) ?_
  refine Go.st (S' := T33.setTop (mkF m 356 #[.val (.int p0), .val (.long q1), .second, .val (.int p2), .val (.int p3), .val (.int p4), .val (.ref b11), .val (.int n.toInt32), .val (.int k.toInt32), .val (.ref b20), .val (.ref r25), .val (.int ((((((((p4.toUInt32 >>> ((24 : Int32) &&& 31).toUInt32).toInt32).toInt8.toInt32) &&& (255 : Int32)) <<< ((24 : Int32) &&& 31)) ||| (((((p4.toUInt32 >>> ((16 : Int32) &&& 31).toUInt32).toInt32).toInt8.toInt32) &&& (255 : Int32)) <<< ((16 : Int32) &&& 31))) ||| (((((p4.toUInt32 >>> ((8 : Int32) &&& 31).toUInt32).toInt32).toInt8.toInt32) &&& (255 : Int32)) <<< ((8 : Int32) &&& 31))) ||| ((p4.toInt8.toInt32) &&& (255 : Int32))))] [(.int (1 : Int32))])) (fun _ k_ => XS.iconst X33.here hx rfl (hb hby at_355) k_) ?_
  refine Go.st (S' := T33.setTop (mkF m 360 #[.val (.int p0), .val (.long q1), .second, .val (.int p2), .val (.int p3), .val (.int p4), .val (.ref b11), .val (.int n.toInt32), .val (.int k.toInt32), .val (.ref b20), .val (.ref r25), .val (.int ((((((((p4.toUInt32 >>> ((24 : Int32) &&& 31).toUInt32).toInt32).toInt8.toInt32) &&& (255 : Int32)) <<< ((24 : Int32) &&& 31)) ||| (((((p4.toUInt32 >>> ((16 : Int32) &&& 31).toUInt32).toInt32).toInt8.toInt32) &&& (255 : Int32)) <<< ((16 : Int32) &&& 31))) ||| (((((p4.toUInt32 >>> ((8 : Int32) &&& 31).toUInt32).toInt32).toInt8.toInt32) &&& (255 : Int32)) <<< ((8 : Int32) &&& 31))) ||| ((p4.toInt8.toInt32) &&& (255 : Int32))))] [(.int (1 : Int32))])) (fun _ k_ => XS.goto X33.here hx rfl (pc0 := 356) (pc' := 360) rfl (hb hby at_356) (by decide) (by decide) k_) ?_
  exact Go.retN X33 hx (t := .boolean) hret (by simp) hlk (hb hby at_360) (by decide) (by decide) ⟨rfl, N33⟩
set_option maxRecDepth 65536 in
set_option maxHeartbeats 40000000 in
theorem comes_1 {Post : Tables → Env → Array Value → State → Outcome → State → Prop} (hpost : ∀ tb e args s v u, (limb_1_1.after args s (.returned v) u = true ∧ limb_1_2.after args s (.returned v) u = true ∧ True) → FrameEnd s (.returned v) u (Jvm.fieldLocs frame_1_writes args s ++ Jvm.arrayLocs frame_1_arrays args s ++ Jvm.staticLocs frame_1_statics s) 24 192 → Post tb e args s (.returned v) u) :
    ArmFor flags0 classFile x code maxLocals ret World_1 tables_1 room_1 Calls_1 rest_1 Pre_1 Post := by
  intro l hfl _ _ p e ha hc hk s m args below hf hA hF happ hP
  obtain ⟨hcalls, hrest, hpre⟩ := hP
  obtain ⟨-, -, -, hnamed, -, -, -, hat⟩ := (Spec.applies_iff hf).mp happ
  obtain ⟨hg, hn⟩ := and_e (Cond.before_iff.mp (show (Jvm.Cond.and given_1 narrow_1).before args s = true from hpre))
  obtain ⟨g1, g2⟩ := and_e hg
  obtain ⟨g3, g4⟩ := and_e g2
  obtain ⟨g5, g6⟩ := and_e g4
  obtain ⟨g7, g8⟩ := and_e g6
  obtain ⟨g9, g10⟩ := and_e g8
  obtain ⟨u0, u1, u2, u3, u4, rfl⟩ : ∃ u0 u1 u2 u3 u4 : Value, args = #[u0, u1, u2, u3, u4] := by
    have hs : args.size = 5 := by simpa [Cond.value, given_1] using g1
    obtain ⟨L⟩ := args
    match L, hs with
    | [u0, u1, u2, u3, u4], _ => exact ⟨u0, u1, u2, u3, u4, rfl⟩
  have hw := fun d (hd : d ∈ tables_1) => atoms_spec (ws := Jvm.Cond.code x code maxLocals ret :: tables_1) hat d (List.mem_cons_of_mem _ hd)
  obtain ⟨i0, ei0⟩ := is_v g3
  obtain rfl : u0 = (.int i0) := Option.some.inj ei0
  obtain ⟨i1, ei1⟩ := isL_v g5
  obtain rfl : u1 = (.long i1) := Option.some.inj ei1
  obtain ⟨i2, ei2⟩ := is_v g7
  obtain rfl : u2 = (.int i2) := Option.some.inj ei2
  obtain ⟨i3, ei3⟩ := is_v g9
  obtain rfl : u3 = (.int i3) := Option.some.inj ei3
  obtain ⟨i4, ei4⟩ := is_v g10
  obtain rfl : u4 = (.int i4) := Option.some.inj ei4
  obtain ⟨n, o, h1, h2, h3, v, L, rfl, ⟨hv, N⟩, hq⟩ := rm0 l s _ hw tables_1 i0 i1 i2 i3 i4 s.heap s.heap.size (Nat.le_refl _) p e ha hc hk s m _ below hf ((Spec.applies_iff_loose hf).mp happ).1 ⟨rfl, State.Warmed39.refl s, rfl⟩ trivial
  subst hv
  refine ⟨n, _, h1, h2, h3, hpost _ _ _ _ _ _ ⟨Cond.after_iff.mpr rfl, Cond.after_iff.mpr (eq_i res_at (Term.int_eval (1)) rfl), trivial⟩ ⟨hq.1, hq.2.1, (hq.2.2.sift fun y hy => Or.inr (N y hy)).mono (by decide) (by decide)⟩⟩
theorem main_1_1 : Claimed_1_1 := comes_1 fun _ _ _ _ _ _ h hF => ⟨h.1, hF⟩
theorem main_1_2 : Claimed_1_2 := comes_1 fun _ _ _ _ _ _ h hF => ⟨h.2.1, hF⟩
end Jvm.Pilot.@@N@@
namespace Jvm.Pilot.@@N@@
open Jvm Jvm.ClassFile Sem Op Lib Jvm.Free Jvm.Stand Jvm.Pilot.@@N@@.Jvm.D
/-! MADE BY PROGRAM (witnessworld.py) out of the Statement's table words and the real class files: 12 classes; the members and pool entries that the words name. The judged class is class 1, her method 1. -/
namespace start1
open Jvm.ClassFile
def u (s : String) : CpInfo := .utf8 (stringToUtf16 s)
/-- a pool by its gaps: so many unusable entries, then the entry; so many at the end -/
def gap : Nat → List CpInfo → List CpInfo
  | 0, r => r
  | n + 1, r => .unusable :: gap n r
def poolList (es : List (Nat × CpInfo)) (last : Nat) : List CpInfo := es.foldr (fun e r => gap e.1 (e.2 :: r)) (gap last [])
def pool (es : List (Nat × CpInfo)) (last : Nat) : Array CpInfo := ⟨poolList es last⟩
def fileOf (pool : Array CpInfo) (this : Nat) (attrs : Array Attribute := #[]) (ms : Array MethodInfo := #[]) (fl : Nat := 33) (sup : Nat := 0) (ifs : Array Nat := #[]) (fds : Array FieldInfo := #[]) : ClassFile where
  minorVersion := 0
  majorVersion := 65
  constantPool := pool
  accessFlags := fl
  thisClass := this
  superClass := sup
  interfaces := ifs
  fields := fds
  methods := ms
  attributes := attrs
def plain (name : String) (sup : Option ClassId) : Class where
  name := name
  kind := .ordinary
  loader := none
  accessFlags := 33
  super := sup
  interfaces := #[]
  cf := none
  fields := #[]
  methods := #[]
  instanceTypes := #[]
  staticTypes := #[]
  resolved := #[]
  callSites := []
  init := .initialized
  statics := none
  mirror := none

def pool0 : Array CpInfo := pool [(5, u "<init>"), (0, u "()V"), (1, .class_ 10), (1, u "java/lang/Object")] 113

def k0c0 : Code := { maxStack := 0, maxLocals := 1, code := object_method_1_code, exceptionTable := #[], attributes := #[] }
def k0m0 : Method := { name := "<init>", desc := "()V", sig := { parameters := [], returnType := none }, accessFlags := 1, code := some k0c0 }
/-- java/lang/Object -/
def k0 : Class := { plain "java/lang/Object" none with
  accessFlags := 33
  interfaces := #[]
  cf := some (fileOf pool0 8 #[] #[{ accessFlags := 1, nameIndex := 5, descriptorIndex := 6, attributes := #[] }] 33 0 #[] #[])
  fields := #[]
  methods := #[k0m0]
  instanceTypes := #[]
  staticTypes := #[]
  resolved := Array.replicate 124 none
  statics := none }

def pool1 : Array CpInfo := pool [(2, .class_ 4), (1, u "java/lang/Object"), (0, u "<init>"), (0, u "()V"), (0, .integer 2147483647), (0, .class_ 9), (0, u "com/example/exactor/exactor/sql/Bytes"), (0, .methodref 8 11), (0, .nameAndType 5 12), (0, u "(I)V"), (0, .methodref 8 14), (0, .nameAndType 15 16), (0, u "write"), (0, u "([BII)V"), (0, .methodref 8 18), (0, .nameAndType 19 20), (0, u "setInt"), (0, u "(II)V"), (0, .methodref 8 22), (0, .nameAndType 23 24), (0, u "length"), (0, u "()I"), (0, .methodref 8 26), (0, .nameAndType 27 28), (0, u "toArray"), (0, u "()[B"), (0, .methodref 30 31), (0, .class_ 32), (0, .nameAndType 33 34), (0, u "com/example/exactor/exactor/sql/BytesSetIntPinLaw"), (0, u "kept"), (0, u "([B[BIII)Z"), (2, u "law"), (0, u "(IJIII)Z")] 5

def k1m0 : Method := { name := "<init>", desc := "()V", sig := { parameters := [], returnType := none }, accessFlags := 1, code := none }
def k1c1 : Code := { maxStack := 5, maxLocals := 12, code := code, exceptionTable := #[], attributes := #[] }
def k1m1 : Method := { name := "law", desc := "(IJIII)Z", sig := { parameters := [.int, .long, .int, .int, .int], returnType := some .boolean }, accessFlags := 9, code := some k1c1 }
def k1c2 : Code := { maxStack := 3, maxLocals := 5, code := method_3_code, exceptionTable := #[], attributes := #[] }
def k1m2 : Method := { name := "kept", desc := "([B[BIII)Z", sig := { parameters := [(.array .byte), (.array .byte), .int, .int, .int], returnType := some .boolean }, accessFlags := 10, code := some k1c2 }
/-- com/example/exactor/exactor/sql/BytesSetIntPinLaw -/
def k1 : Class := { plain "com/example/exactor/exactor/sql/BytesSetIntPinLaw" (some 0) with
  accessFlags := 49
  interfaces := #[]
  cf := some (fileOf pool1 30 #[] #[{ accessFlags := 1, nameIndex := 5, descriptorIndex := 6, attributes := #[] }, { accessFlags := 9, nameIndex := 37, descriptorIndex := 38, attributes := #[] }, { accessFlags := 10, nameIndex := 33, descriptorIndex := 34, attributes := #[] }] 49 2 #[] #[])
  fields := #[]
  methods := #[k1m0, k1m1, k1m2]
  instanceTypes := #[]
  staticTypes := #[]
  resolved := Array.replicate 44 none
  statics := none }

def pool2 : Array CpInfo := pool [(2, .class_ 4), (1, u "com/example/exactor/exactor/sql/Bytes"), (0, u "<init>"), (0, u "(I)V"), (0, .methodref 8 9), (0, .class_ 10), (0, .nameAndType 5 11), (0, u "java/lang/Object"), (0, u "()V"), (0, .methodref 13 14), (0, .class_ 15), (0, .nameAndType 16 17), (0, u "java/lang/Math"), (0, u "max"), (0, u "(II)I"), (0, .fieldref 2 19), (0, .nameAndType 20 21), (0, u "array"), (0, u "[B"), (0, .fieldref 2 23), (0, .nameAndType 24 25), (0, u "length"), (0, u "I"), (0, .methodref 2 27), (0, .nameAndType 28 6), (0, u "room"), (17, u "setInt"), (0, u "(II)V"), (6, u "()I"), (31, u "toArray"), (0, u "()[B"), (0, .methodref 89 90), (0, .class_ 91), (0, .nameAndType 92 93), (0, u "java/lang/System"), (0, u "arraycopy"), (0, u "(Ljava/lang/Object;ILjava/lang/Object;II)V"), (0, .methodref 95 96), (0, .class_ 97), (0, .nameAndType 98 99), (0, u "java/util/Arrays"), (0, u "copyOf"), (0, u "([BI)[B"), (8, u "write"), (0, u "([BII)V")] 3

def k2m0 : Method := { name := "<init>", desc := "()V", sig := { parameters := [], returnType := none }, accessFlags := 1, code := none }
def k2c1 : Code := { maxStack := 3, maxLocals := 2, code := prog_53_method_2_code, exceptionTable := #[], attributes := #[] }
def k2m1 : Method := { name := "<init>", desc := "(I)V", sig := { parameters := [.int], returnType := none }, accessFlags := 1, code := some k2c1 }
def k2c2 : Code := { maxStack := 1, maxLocals := 1, code := prog_53_method_3_code, exceptionTable := #[], attributes := #[] }
def k2m2 : Method := { name := "length", desc := "()I", sig := { parameters := [], returnType := some .int }, accessFlags := 1, code := some k2c2 }
def k2c3 : Code := { maxStack := 4, maxLocals := 3, code := prog_53_method_8_code, exceptionTable := #[], attributes := #[] }
def k2m3 : Method := { name := "setInt", desc := "(II)V", sig := { parameters := [.int, .int], returnType := none }, accessFlags := 1, code := some k2c3 }
def k2c4 : Code := { maxStack := 5, maxLocals := 4, code := prog_53_method_11_code, exceptionTable := #[], attributes := #[] }
def k2m4 : Method := { name := "write", desc := "([BII)V", sig := { parameters := [(.array .byte), .int, .int], returnType := none }, accessFlags := 1, code := some k2c4 }
def k2c5 : Code := { maxStack := 2, maxLocals := 1, code := prog_53_method_12_code, exceptionTable := #[], attributes := #[] }
def k2m5 : Method := { name := "toArray", desc := "()[B", sig := { parameters := [], returnType := some (.array .byte) }, accessFlags := 1, code := some k2c5 }
def k2c6 : Code := { maxStack := 5, maxLocals := 2, code := prog_53_method_13_code, exceptionTable := #[], attributes := #[] }
def k2m6 : Method := { name := "room", desc := "(I)V", sig := { parameters := [.int], returnType := none }, accessFlags := 2, code := some k2c6 }
/-- com/example/exactor/exactor/sql/Bytes -/
def k2 : Class := { plain "com/example/exactor/exactor/sql/Bytes" (some 0) with
  accessFlags := 49
  interfaces := #[]
  cf := some (fileOf pool2 2 #[] #[{ accessFlags := 1, nameIndex := 5, descriptorIndex := 11, attributes := #[] }, { accessFlags := 1, nameIndex := 5, descriptorIndex := 6, attributes := #[] }, { accessFlags := 1, nameIndex := 24, descriptorIndex := 54, attributes := #[] }, { accessFlags := 1, nameIndex := 46, descriptorIndex := 47, attributes := #[] }, { accessFlags := 1, nameIndex := 108, descriptorIndex := 109, attributes := #[] }, { accessFlags := 1, nameIndex := 86, descriptorIndex := 87, attributes := #[] }, { accessFlags := 2, nameIndex := 28, descriptorIndex := 6, attributes := #[] }] 49 8 #[] #[{ accessFlags := 2, nameIndex := 20, descriptorIndex := 21, attributes := #[] }, { accessFlags := 2, nameIndex := 24, descriptorIndex := 25, attributes := #[] }])
  fields := #[{ name := "array", type := (.array .byte), accessFlags := 2, slot := 0, constantValue := 0 }, { name := "length", type := .int, accessFlags := 2, slot := 1, constantValue := 0 }]
  methods := #[k2m0, k2m1, k2m2, k2m3, k2m4, k2m5, k2m6]
  instanceTypes := #[(.array .byte), .int]
  staticTypes := #[]
  resolved := Array.replicate 113 none
  statics := none }

def pool3 : Array CpInfo := pool [(1, .class_ 2), (0, u "java/lang/Math"), (1, .class_ 6), (1, u "java/lang/Object"), (0, u "<init>"), (0, u "()V"), (89, .class_ 100), (1, u "java/lang/Math$RandomNumberGeneratorHolder"), (71, u "negativeZeroFloatBits"), (0, u "J"), (2, u "negativeZeroDoubleBits"), (21, u "max"), (2, u "min"), (43, u "$assertionsDisabled"), (0, u "Z"), (88, u "(II)I"), (2, u "twoToTheDoubleScaleDown"), (0, u "D"), (4, u "twoToTheDoubleScaleUp"), (9, u "E"), (3, u "PI"), (2, u "TAU"), (2, u "DEGREES_TO_RADIANS"), (0, u "RADIANS_TO_DEGREES")] 94

def k3m0 : Method := { name := "<init>", desc := "()V", sig := { parameters := [], returnType := none }, accessFlags := 2, code := none }
def k3c1 : Code := { maxStack := 2, maxLocals := 2, code := jdk_29_method_65_code, exceptionTable := #[], attributes := #[] }
def k3m1 : Method := { name := "max", desc := "(II)I", sig := { parameters := [.int, .int], returnType := some .int }, accessFlags := 9, code := some k3c1 }
def k3c2 : Code := { maxStack := 2, maxLocals := 2, code := jdk_29_method_69_code, exceptionTable := #[], attributes := #[] }
def k3m2 : Method := { name := "min", desc := "(II)I", sig := { parameters := [.int, .int], returnType := some .int }, accessFlags := 9, code := some k3c2 }
/-- java/lang/Math -/
def k3 : Class := { plain "java/lang/Math" (some 0) with
  accessFlags := 49
  interfaces := #[]
  cf := some (fileOf pool3 1 #[.nestMembers #[98]] #[{ accessFlags := 2, nameIndex := 7, descriptorIndex := 8, attributes := #[] }, { accessFlags := 9, nameIndex := 198, descriptorIndex := 335, attributes := #[] }, { accessFlags := 9, nameIndex := 201, descriptorIndex := 335, attributes := #[] }] 49 4 #[] #[{ accessFlags := 25, nameIndex := 354, descriptorIndex := 339, attributes := #[] }, { accessFlags := 25, nameIndex := 358, descriptorIndex := 339, attributes := #[] }, { accessFlags := 25, nameIndex := 361, descriptorIndex := 339, attributes := #[] }, { accessFlags := 26, nameIndex := 364, descriptorIndex := 339, attributes := #[] }, { accessFlags := 26, nameIndex := 365, descriptorIndex := 339, attributes := #[] }, { accessFlags := 26, nameIndex := 172, descriptorIndex := 173, attributes := #[] }, { accessFlags := 26, nameIndex := 176, descriptorIndex := 173, attributes := #[] }, { accessFlags := 8, nameIndex := 344, descriptorIndex := 339, attributes := #[] }, { accessFlags := 8, nameIndex := 338, descriptorIndex := 339, attributes := #[] }, { accessFlags := 4120, nameIndex := 245, descriptorIndex := 246, attributes := #[] }])
  fields := #[{ name := "E", type := .double, accessFlags := 25, slot := 0, constantValue := 0 }, { name := "PI", type := .double, accessFlags := 25, slot := 1, constantValue := 0 }, { name := "TAU", type := .double, accessFlags := 25, slot := 2, constantValue := 0 }, { name := "DEGREES_TO_RADIANS", type := .double, accessFlags := 26, slot := 3, constantValue := 0 }, { name := "RADIANS_TO_DEGREES", type := .double, accessFlags := 26, slot := 4, constantValue := 0 }, { name := "negativeZeroFloatBits", type := .long, accessFlags := 26, slot := 5, constantValue := 0 }, { name := "negativeZeroDoubleBits", type := .long, accessFlags := 26, slot := 6, constantValue := 0 }, { name := "twoToTheDoubleScaleUp", type := .double, accessFlags := 8, slot := 7, constantValue := 0 }, { name := "twoToTheDoubleScaleDown", type := .double, accessFlags := 8, slot := 8, constantValue := 0 }, { name := "$assertionsDisabled", type := .boolean, accessFlags := 4120, slot := 9, constantValue := 0 }]
  methods := #[k3m0, k3m1, k3m2]
  instanceTypes := #[]
  staticTypes := #[.double, .double, .double, .double, .double, .long, .long, .double, .double, .boolean]
  resolved := Array.replicate 460 none
  statics := none }

def pool4 : Array CpInfo := pool [(2, .class_ 4), (1, u "java/lang/Object"), (0, u "<init>"), (0, u "()V"), (7, .class_ 16), (1, u "java/util/Arrays"), (57, .class_ 76), (1, u "java/util/Arrays$NaturalOrder"), (36, .class_ 115), (1, u "java/util/Arrays$LegacyMergeSort"), (1, u "Z"), (32, .methodref 151 152), (0, .class_ 153), (0, .nameAndType 154 155), (0, u "java/lang/System"), (0, u "arraycopy"), (0, u "(Ljava/lang/Object;ILjava/lang/Object;II)V"), (146, u "copyOf"), (1, .methodref 305 306), (0, .class_ 307), (0, .nameAndType 308 309), (0, u "java/lang/Math"), (0, u "min"), (0, u "(II)I"), (65, .class_ 376), (0, u "java/util/Arrays$ArrayList"), (68, u "$assertionsDisabled"), (269, u "MIN_ARRAY_SORT_GRAN"), (0, u "I"), (2, u "INSERTIONSORT_THRESHOLD"), (149, u "([BI)[B"), (105, .class_ 976), (0, u "java/util/Arrays$ArrayItr")] 52

def k4m0 : Method := { name := "<init>", desc := "()V", sig := { parameters := [], returnType := none }, accessFlags := 2, code := none }
def k4c1 : Code := { maxStack := 6, maxLocals := 3, code := jdk_65_method_121_code, exceptionTable := #[], attributes := #[] }
def k4m1 : Method := { name := "copyOf", desc := "([BI)[B", sig := { parameters := [(.array .byte), .int], returnType := some (.array .byte) }, accessFlags := 9, code := some k4c1 }
/-- java/util/Arrays -/
def k4 : Class := { plain "java/util/Arrays" (some 0) with
  accessFlags := 49
  interfaces := #[]
  cf := some (fileOf pool4 14 #[.nestMembers #[975, 375, 113, 74]] #[{ accessFlags := 2, nameIndex := 5, descriptorIndex := 6, attributes := #[] }, { accessFlags := 9, nameIndex := 302, descriptorIndex := 869, attributes := #[] }] 49 2 #[] #[{ accessFlags := 26, nameIndex := 715, descriptorIndex := 716, attributes := #[] }, { accessFlags := 26, nameIndex := 719, descriptorIndex := 716, attributes := #[] }, { accessFlags := 4120, nameIndex := 445, descriptorIndex := 117, attributes := #[] }])
  fields := #[{ name := "MIN_ARRAY_SORT_GRAN", type := .int, accessFlags := 26, slot := 0, constantValue := 0 }, { name := "INSERTIONSORT_THRESHOLD", type := .int, accessFlags := 26, slot := 1, constantValue := 0 }, { name := "$assertionsDisabled", type := .boolean, accessFlags := 4120, slot := 2, constantValue := 0 }]
  methods := #[k4m0, k4m1]
  instanceTypes := #[]
  staticTypes := #[.int, .int, .boolean]
  resolved := Array.replicate 1029 none
  statics := none }

def pool5 : Array CpInfo := pool [(2, .class_ 4), (1, u "java/lang/Object"), (0, u "<init>"), (0, u "()V"), (1, .class_ 10), (1, u "java/lang/System"), (0, u "allowSecurityManager"), (0, u "I"), (16, u "cons"), (0, u "Ljava/io/Console;"), (77, .class_ 110), (1, u "java/lang/System$CallersHolder"), (43, u "initialErrStream"), (0, u "Ljava/io/PrintStream;"), (19, u "security"), (0, u "Ljava/lang/SecurityManager;"), (31, .class_ 209), (0, u "java/lang/System$1"), (7, u "props"), (0, u "Ljava/util/Properties;"), (2, u "lineSeparator"), (0, u "Ljava/lang/String;"), (96, .class_ 321), (1, u "java/lang/System$LoggerFinder"), (5, .class_ 328), (0, u "java/lang/System$Logger"), (67, u "err"), (2, u "out"), (91, u "notSupportedJnuEncoding"), (15, u "in"), (17, u "initialIn"), (0, u "Ljava/io/InputStream;"), (35, u "bootLayer"), (0, u "Ljava/lang/ModuleLayer;"), (99, .class_ 664), (0, u "java/lang/System$2"), (9, u "NEVER"), (2, u "MAYBE"), (49, u "arraycopy"), (0, u "(Ljava/lang/Object;ILjava/lang/Object;II)V"), (72, .class_ 802), (0, u "java/lang/System$Logger$Level")] 31

def k5m0 : Method := { name := "<init>", desc := "()V", sig := { parameters := [], returnType := none }, accessFlags := 2, code := none }
def k5m1 : Method := { name := "arraycopy", desc := "(Ljava/lang/Object;ILjava/lang/Object;II)V", sig := { parameters := [(.object "java/lang/Object"), .int, (.object "java/lang/Object"), .int, .int], returnType := none }, accessFlags := 265, code := none }
/-- java/lang/System -/
def k5 : Class := { plain "java/lang/System" (some 0) with
  accessFlags := 49
  interfaces := #[]
  cf := some (fileOf pool5 8 #[.nestMembers #[319, 327, 801, 108, 663, 208]] #[{ accessFlags := 2, nameIndex := 5, descriptorIndex := 6, attributes := #[] }, { accessFlags := 265, nameIndex := 727, descriptorIndex := 728, attributes := #[] }] 49 2 #[] #[{ accessFlags := 25, nameIndex := 507, descriptorIndex := 526, attributes := #[] }, { accessFlags := 25, nameIndex := 399, descriptorIndex := 155, attributes := #[] }, { accessFlags := 25, nameIndex := 396, descriptorIndex := 155, attributes := #[] }, { accessFlags := 10, nameIndex := 525, descriptorIndex := 526, attributes := #[] }, { accessFlags := 26, nameIndex := 674, descriptorIndex := 12, attributes := #[] }, { accessFlags := 26, nameIndex := 677, descriptorIndex := 12, attributes := #[] }, { accessFlags := 10, nameIndex := 11, descriptorIndex := 12, attributes := #[] }, { accessFlags := 74, nameIndex := 175, descriptorIndex := 176, attributes := #[] }, { accessFlags := 10, nameIndex := 491, descriptorIndex := 222, attributes := #[] }, { accessFlags := 74, nameIndex := 29, descriptorIndex := 30, attributes := #[] }, { accessFlags := 74, nameIndex := 154, descriptorIndex := 155, attributes := #[] }, { accessFlags := 10, nameIndex := 217, descriptorIndex := 218, attributes := #[] }, { accessFlags := 10, nameIndex := 221, descriptorIndex := 222, attributes := #[] }, { accessFlags := 8, nameIndex := 562, descriptorIndex := 563, attributes := #[] }])
  fields := #[{ name := "in", type := (.object "java/io/InputStream"), accessFlags := 25, slot := 0, constantValue := 0 }, { name := "out", type := (.object "java/io/PrintStream"), accessFlags := 25, slot := 1, constantValue := 0 }, { name := "err", type := (.object "java/io/PrintStream"), accessFlags := 25, slot := 2, constantValue := 0 }, { name := "initialIn", type := (.object "java/io/InputStream"), accessFlags := 10, slot := 3, constantValue := 0 }, { name := "NEVER", type := .int, accessFlags := 26, slot := 4, constantValue := 0 }, { name := "MAYBE", type := .int, accessFlags := 26, slot := 5, constantValue := 0 }, { name := "allowSecurityManager", type := .int, accessFlags := 10, slot := 6, constantValue := 0 }, { name := "security", type := (.object "java/lang/SecurityManager"), accessFlags := 74, slot := 7, constantValue := 0 }, { name := "notSupportedJnuEncoding", type := (.object "java/lang/String"), accessFlags := 10, slot := 8, constantValue := 0 }, { name := "cons", type := (.object "java/io/Console"), accessFlags := 74, slot := 9, constantValue := 0 }, { name := "initialErrStream", type := (.object "java/io/PrintStream"), accessFlags := 74, slot := 10, constantValue := 0 }, { name := "props", type := (.object "java/util/Properties"), accessFlags := 10, slot := 11, constantValue := 0 }, { name := "lineSeparator", type := (.object "java/lang/String"), accessFlags := 10, slot := 12, constantValue := 0 }, { name := "bootLayer", type := (.object "java/lang/ModuleLayer"), accessFlags := 8, slot := 13, constantValue := 0 }]
  methods := #[k5m0, k5m1]
  instanceTypes := #[]
  staticTypes := #[(.object "java/io/InputStream"), (.object "java/io/PrintStream"), (.object "java/io/PrintStream"), (.object "java/io/InputStream"), .int, .int, .int, (.object "java/lang/SecurityManager"), (.object "java/lang/String"), (.object "java/io/Console"), (.object "java/io/PrintStream"), (.object "java/util/Properties"), (.object "java/lang/String"), (.object "java/lang/ModuleLayer")]
  resolved := Array.replicate 834 none
  statics := none }

def pool6 : Array CpInfo := pool [(1, u "java/lang/Cloneable"), (0, .class_ 1), (0, u "java/lang/Object"), (0, .class_ 3)] 3

/-- java/lang/Cloneable -/
def k6 : Class := { plain "java/lang/Cloneable" (some 0) with
  accessFlags := 1537
  interfaces := #[]
  cf := some (fileOf pool6 2 #[] #[] 1537 4 #[] #[])
  fields := #[]
  methods := #[]
  instanceTypes := #[]
  staticTypes := #[]
  resolved := Array.replicate 8 none
  statics := none }

def pool7 : Array CpInfo := pool [(1, u "java/io/Serializable"), (0, .class_ 1), (0, u "java/lang/Object"), (0, .class_ 3)] 3

/-- java/io/Serializable -/
def k7 : Class := { plain "java/io/Serializable" (some 0) with
  accessFlags := 1537
  interfaces := #[]
  cf := some (fileOf pool7 2 #[] #[] 1537 4 #[] #[])
  fields := #[]
  methods := #[]
  instanceTypes := #[]
  staticTypes := #[]
  resolved := Array.replicate 8 none
  statics := none }

/-- the primitive byte -/
def k8 : Class := { plain "byte" none with kind := .primitive 'B', accessFlags := 0x411 }
/-- [B -/
def k9 : Class := { plain "[B" (some 0) with kind := .array 8 .byte, interfaces := #[6, 7], accessFlags := 1041 }

/-- the primitive int -/
def k10 : Class := { plain "int" none with kind := .primitive 'I', accessFlags := 0x411 }
/-- [I -/
def k11 : Class := { plain "[I" (some 0) with kind := .array 10 .int, interfaces := #[6, 7], accessFlags := 1041 }

def heap : Heap := #[]
def classes : Array Class := #[k0, k1, k2, k3, k4, k5, k6, k7, k8, k9, k10, k11]
def interned : List (Array UInt16 × Addr) := []
def slotsUsed : Nat := 0
def theMethod : MethodId := ⟨1, 1⟩
def args0 : Array Value := #[.int 5, .long 7, .int 2, .int 9, .int 3]
def aboutOver (below : List Frame) : State where
  vm := { classes := classes, interned := interned.toArray }
  heap := heap
  slotsUsed := slotsUsed
  threads := #[{ frames := .invoking theMethod args0 :: below }]
def below0 : List Frame := [.native { method := ⟨0, 0⟩, args := #[] }]
def about1 : State := aboutOver below0
def p0 : Program := .bare "" "" ""
def e0 : Env := launch0.env 0 0 0
theorem w_frames : about1.frames = Frame.invoking theMethod args0 :: below0 := rfl
set_option maxRecDepth 65536 in
theorem w_args : argsFit about1.vm theMethod args0 = true := by decide +kernel
set_option maxRecDepth 65536 in
theorem w_heap : heapFits about1 = true := by decide +kernel
set_option maxRecDepth 65536 in
theorem w_runnable : about1.curStatus? = some .runnable := by decide +kernel
set_option maxRecDepth 65536 in
theorem w_alone : about1.alone = true := by decide +kernel
set_option maxRecDepth 65536 in
theorem w_named : about1.methodNamed? x = some theMethod := by decide +kernel
set_option maxRecDepth 65536 in
theorem w_hears : about1.hears theMethod below0 = true := by decide +kernel
set_option maxRecDepth 65536 in
theorem w_ripe : about1.ripe theMethod args0 below0 = true := by decide +kernel
theorem w_running : about1.status = .running := rfl
set_option maxRecDepth 65536 in
theorem w_room : about1.hasRoom e0.platform room_1 = true :=
  launch0.hasRoom_least _ room_1 (by decide +kernel) (by decide +kernel) (by decide +kernel) (by decide +kernel) (by decide +kernel) (by decide +kernel)
theorem allAtoms_all (ts : List Jvm.Cond) (a : Array Jvm.Value) (st : Jvm.State) : (allAtoms ts).before a st = ts.all (fun c => c.before a st) := by
  induction ts with
  | nil => rfl
  | cons c t ih =>
    show (Jvm.Cond.and c (allAtoms t)).before a st = _
    rw [Jvm.Cond.before_and, ih, List.all_cons]
def words1 : List Jvm.Cond := Jvm.Cond.code x code maxLocals ret :: tables_1
/-- a 'code' word, met by the world's own term for the bytes: nothing is compared byte by byte -/
theorem code_word {y : MethodName} {bytes : ByteArray} {mx : Nat} {rt : Option FieldType} {a : Array Value} {s : State} {m : MethodId} {meth : Method} {c : Code} (h1 : s.methodNamed? y = some m) (h2 : s.vm.method? m = some meth) (h3 : meth.code = some c) (h4 : c.code = bytes)
    (h5 : (c.maxLocals == mx && c.exceptionTable.isEmpty && decide (c.maxStack ≤ mostOperands) && decide (meth.sig.returnType = rt) && !meth.locks && decide (parseMethodDescriptor y.desc = some meth.sig)) = true) : (Jvm.Cond.code y bytes mx rt).before a s = true := by
  simp only [Bool.and_eq_true, beq_iff_eq, Bool.not_eq_true', decide_eq_true_eq] at h5
  obtain ⟨⟨⟨⟨⟨g1, g2⟩, g3⟩, g4⟩, g5⟩, g6⟩ := h5
  simp [Cond.before, Cond.holds, Cond.value, h1, h2, h3, h4, g1, g2, g3, g4, g5, g6]
def isCode : Jvm.Cond → Bool
  | .code _ _ _ _ => true
  | _ => false
theorem all_split {L : List Jvm.Cond} {P : Jvm.Cond → Bool} (h1 : L.all (fun c => isCode c || P c) = true) (h2 : ∀ c ∈ L.filter isCode, P c = true) : L.all P = true := by
  refine List.all_eq_true.mpr fun c hc => ?_
  have h := List.all_eq_true.mp h1 c hc
  rcases Bool.eq_false_or_eq_true (isCode c) with hi | hi
  · exact h2 c (List.mem_filter.mpr ⟨hc, hi⟩)
  · simpa [hi] using h
set_option maxRecDepth 65536 in
theorem w_c0 : (Jvm.Cond.code x code maxLocals ret).before args0 about1 = true := code_word (m := ⟨1, 1⟩) (meth := k1m1) (c := k1c1) (by decide +kernel) rfl rfl rfl (by decide +kernel)
set_option maxRecDepth 65536 in
theorem w_c1 : (Jvm.Cond.code ({ cls := "com/example/exactor/exactor/sql/Bytes", name := "<init>", desc := "(I)V" } : Jvm.MethodName) prog_53_method_2_code (2 : Nat) (Option.none : Option Jvm.ClassFile.FieldType)).before args0 about1 = true := code_word (m := ⟨2, 1⟩) (meth := k2m1) (c := k2c1) (by decide +kernel) rfl rfl rfl (by decide +kernel)
set_option maxRecDepth 65536 in
theorem w_c2 : (Jvm.Cond.code ({ cls := "java/lang/Object", name := "<init>", desc := "()V" } : Jvm.MethodName) object_method_1_code (1 : Nat) (Option.none : Option Jvm.ClassFile.FieldType)).before args0 about1 = true := code_word (m := ⟨0, 0⟩) (meth := k0m0) (c := k0c0) (by decide +kernel) rfl rfl rfl (by decide +kernel)
set_option maxRecDepth 65536 in
theorem w_c3 : (Jvm.Cond.code ({ cls := "java/lang/Math", name := "max", desc := "(II)I" } : Jvm.MethodName) jdk_29_method_65_code (2 : Nat) (Option.some Jvm.ClassFile.FieldType.int)).before args0 about1 = true := code_word (m := ⟨3, 1⟩) (meth := k3m1) (c := k3c1) (by decide +kernel) rfl rfl rfl (by decide +kernel)
set_option maxRecDepth 65536 in
theorem w_c4 : (Jvm.Cond.code ({ cls := "com/example/exactor/exactor/sql/Bytes", name := "write", desc := "([BII)V" } : Jvm.MethodName) prog_53_method_11_code (4 : Nat) (Option.none : Option Jvm.ClassFile.FieldType)).before args0 about1 = true := code_word (m := ⟨2, 4⟩) (meth := k2m4) (c := k2c4) (by decide +kernel) rfl rfl rfl (by decide +kernel)
set_option maxRecDepth 65536 in
theorem w_c5 : (Jvm.Cond.code ({ cls := "com/example/exactor/exactor/sql/Bytes", name := "room", desc := "(I)V" } : Jvm.MethodName) prog_53_method_13_code (2 : Nat) (Option.none : Option Jvm.ClassFile.FieldType)).before args0 about1 = true := code_word (m := ⟨2, 6⟩) (meth := k2m6) (c := k2c6) (by decide +kernel) rfl rfl rfl (by decide +kernel)
set_option maxRecDepth 65536 in
theorem w_c6 : (Jvm.Cond.code ({ cls := "java/util/Arrays", name := "copyOf", desc := "([BI)[B" } : Jvm.MethodName) jdk_65_method_121_code (3 : Nat) (Option.some (Jvm.ClassFile.FieldType.array Jvm.ClassFile.FieldType.byte))).before args0 about1 = true := code_word (m := ⟨4, 1⟩) (meth := k4m1) (c := k4c1) (by decide +kernel) rfl rfl rfl (by decide +kernel)
set_option maxRecDepth 65536 in
theorem w_c7 : (Jvm.Cond.code ({ cls := "java/lang/Math", name := "min", desc := "(II)I" } : Jvm.MethodName) jdk_29_method_69_code (2 : Nat) (Option.some Jvm.ClassFile.FieldType.int)).before args0 about1 = true := code_word (m := ⟨3, 2⟩) (meth := k3m2) (c := k3c2) (by decide +kernel) rfl rfl rfl (by decide +kernel)
set_option maxRecDepth 65536 in
theorem w_c8 : (Jvm.Cond.code ({ cls := "com/example/exactor/exactor/sql/Bytes", name := "setInt", desc := "(II)V" } : Jvm.MethodName) prog_53_method_8_code (3 : Nat) (Option.none : Option Jvm.ClassFile.FieldType)).before args0 about1 = true := code_word (m := ⟨2, 3⟩) (meth := k2m3) (c := k2c3) (by decide +kernel) rfl rfl rfl (by decide +kernel)
set_option maxRecDepth 65536 in
theorem w_c9 : (Jvm.Cond.code ({ cls := "com/example/exactor/exactor/sql/Bytes", name := "length", desc := "()I" } : Jvm.MethodName) prog_53_method_3_code (1 : Nat) (Option.some Jvm.ClassFile.FieldType.int)).before args0 about1 = true := code_word (m := ⟨2, 2⟩) (meth := k2m2) (c := k2c2) (by decide +kernel) rfl rfl rfl (by decide +kernel)
set_option maxRecDepth 65536 in
theorem w_c10 : (Jvm.Cond.code ({ cls := "com/example/exactor/exactor/sql/Bytes", name := "toArray", desc := "()[B" } : Jvm.MethodName) prog_53_method_12_code (1 : Nat) (Option.some (Jvm.ClassFile.FieldType.array Jvm.ClassFile.FieldType.byte))).before args0 about1 = true := code_word (m := ⟨2, 5⟩) (meth := k2m5) (c := k2c5) (by decide +kernel) rfl rfl rfl (by decide +kernel)
set_option maxRecDepth 65536 in
theorem w_c11 : (Jvm.Cond.code ({ cls := "com/example/exactor/exactor/sql/BytesSetIntPinLaw", name := "kept", desc := "([B[BIII)Z" } : Jvm.MethodName) method_3_code (5 : Nat) (Option.some Jvm.ClassFile.FieldType.boolean)).before args0 about1 = true := code_word (m := ⟨1, 2⟩) (meth := k1m2) (c := k1c2) (by decide +kernel) rfl rfl rfl (by decide +kernel)
def codes1 : List Jvm.Cond := [Jvm.Cond.code x code maxLocals ret, Jvm.Cond.code ({ cls := "com/example/exactor/exactor/sql/Bytes", name := "<init>", desc := "(I)V" } : Jvm.MethodName) prog_53_method_2_code (2 : Nat) (Option.none : Option Jvm.ClassFile.FieldType), Jvm.Cond.code ({ cls := "java/lang/Object", name := "<init>", desc := "()V" } : Jvm.MethodName) object_method_1_code (1 : Nat) (Option.none : Option Jvm.ClassFile.FieldType), Jvm.Cond.code ({ cls := "java/lang/Math", name := "max", desc := "(II)I" } : Jvm.MethodName) jdk_29_method_65_code (2 : Nat) (Option.some Jvm.ClassFile.FieldType.int), Jvm.Cond.code ({ cls := "com/example/exactor/exactor/sql/Bytes", name := "write", desc := "([BII)V" } : Jvm.MethodName) prog_53_method_11_code (4 : Nat) (Option.none : Option Jvm.ClassFile.FieldType), Jvm.Cond.code ({ cls := "com/example/exactor/exactor/sql/Bytes", name := "room", desc := "(I)V" } : Jvm.MethodName) prog_53_method_13_code (2 : Nat) (Option.none : Option Jvm.ClassFile.FieldType), Jvm.Cond.code ({ cls := "java/util/Arrays", name := "copyOf", desc := "([BI)[B" } : Jvm.MethodName) jdk_65_method_121_code (3 : Nat) (Option.some (Jvm.ClassFile.FieldType.array Jvm.ClassFile.FieldType.byte)), Jvm.Cond.code ({ cls := "java/lang/Math", name := "min", desc := "(II)I" } : Jvm.MethodName) jdk_29_method_69_code (2 : Nat) (Option.some Jvm.ClassFile.FieldType.int), Jvm.Cond.code ({ cls := "com/example/exactor/exactor/sql/Bytes", name := "setInt", desc := "(II)V" } : Jvm.MethodName) prog_53_method_8_code (3 : Nat) (Option.none : Option Jvm.ClassFile.FieldType), Jvm.Cond.code ({ cls := "com/example/exactor/exactor/sql/Bytes", name := "length", desc := "()I" } : Jvm.MethodName) prog_53_method_3_code (1 : Nat) (Option.some Jvm.ClassFile.FieldType.int), Jvm.Cond.code ({ cls := "com/example/exactor/exactor/sql/Bytes", name := "toArray", desc := "()[B" } : Jvm.MethodName) prog_53_method_12_code (1 : Nat) (Option.some (Jvm.ClassFile.FieldType.array Jvm.ClassFile.FieldType.byte)), Jvm.Cond.code ({ cls := "com/example/exactor/exactor/sql/BytesSetIntPinLaw", name := "kept", desc := "([B[BIII)Z" } : Jvm.MethodName) method_3_code (5 : Nat) (Option.some Jvm.ClassFile.FieldType.boolean)]
set_option maxRecDepth 65536 in
theorem codes_eq : words1.filter isCode = codes1 := rfl
theorem w_codes : ∀ c ∈ words1.filter isCode, c.before args0 about1 = true := by
  rw [codes_eq]
  intro c hc
  simp only [codes1, List.mem_cons, List.not_mem_nil, or_false] at hc
  rcases hc with rfl | rfl | rfl | rfl | rfl | rfl | rfl | rfl | rfl | rfl | rfl | rfl
  · exact w_c0
  · exact w_c1
  · exact w_c2
  · exact w_c3
  · exact w_c4
  · exact w_c5
  · exact w_c6
  · exact w_c7
  · exact w_c8
  · exact w_c9
  · exact w_c10
  · exact w_c11
set_option maxRecDepth 65536 in
theorem w_t1 : (words1.take 24).all (fun c => isCode c || c.before args0 about1) = true := by decide +kernel
set_option maxRecDepth 65536 in
theorem w_t2 : ((words1.drop 24).take 24).all (fun c => isCode c || c.before args0 about1) = true := by decide +kernel
set_option maxRecDepth 65536 in
theorem w_t3 : ((words1.drop 24).drop 24).all (fun c => isCode c || c.before args0 about1) = true := by decide +kernel
theorem w_tables : (allAtoms (Jvm.Cond.code x code maxLocals ret :: tables_1)).before args0 about1 = true := by
  rw [allAtoms_all]
  show words1.all (fun c => c.before args0 about1) = true
  refine all_split ?_ w_codes
  rw [← List.take_append_drop 24 words1, List.all_append, w_t1, ← List.take_append_drop 24 (words1.drop 24), List.all_append, w_t2, w_t3]
  rfl
set_option maxRecDepth 65536 in
theorem w_case : (Jvm.Cond.and given_1 narrow_1).before args0 about1 = true := by decide +kernel
theorem w_applies : (headSpec (Jvm.Cond.code x code maxLocals ret :: tables_1) room_1).applies x e0.platform about1 = true :=
  (Spec.applies_iff w_frames).mpr ⟨w_running, w_runnable, w_alone, w_named, w_hears, w_ripe, w_room, w_tables⟩
theorem atStart : AtStart classFile x code maxLocals ret World_1 tables_1 room_1 Calls_1 rest_1 Pre_1 launch0 p0 e0 about1 theMethod args0 below0 :=
  ⟨lists_1, trivial, launch0.admits_env _ _ _, launch0.least_env, fairChoices_fair.cas, fairChoices_fair.clock, w_frames, w_args, w_heap, w_applies, trivial, trivial, w_case⟩
end start1
theorem witness_1 : WitnessClaimed_1 := ⟨start1.p0, start1.e0, start1.about1, start1.theMethod, start1.args0, start1.below0, start1.atStart⟩
end Jvm.Pilot.@@N@@
