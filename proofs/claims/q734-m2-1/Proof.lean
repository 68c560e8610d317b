import JvmDerived
import JvmDerived.Pilot.@@N@@Statement
import JvmDerived.Pilot.@@N@@Code
set_option linter.unusedVariables false
set_option linter.unusedSimpArgs false
namespace Jvm.Pilot.@@N@@
open Jvm Jvm.ClassFile Sem Op Lib Jvm.Free Jvm.Stand Jvm.LawKit Jvm.RoadKit Bundle Jvm.Pilot.@@N@@.Jvm.D
/-! ## own layer: walks in goal-directed form -/
section Layer
variable {p : Program} {l : Launch} {e : Env} {R : Room} {s : State} {m : MethodId} {args : Array Value} {below : List Frame} {meth : Method} {c : Code} {T : State} {locs : List Loc} {cells slots : Nat} {Z : State} {a0 : Array Value} {h h' : Heap} {a b : Addr} {ty : FieldType} {xs ys : List Int32} {ls : List Int64}
/-- from S the run comes to the invocation's end, with what Q says of the value, the heap and the written places -/
def Go (p : Program) (e : Env) (below : List Frame) (s : State) (rm : Room) (Q : Option Value → Heap → List Loc → Prop) (S : State) : Prop :=
  ∃ t o, Steps p.tables e below S t ∧ t.status = .running ∧ Ended t below o ∧ ∃ v L, o = .returned v ∧ Q v t.heap L ∧ FrameEnd s o t L rm.cells rm.slots
theorem Go.st {rm : Room} {Q : Option Value → Heap → List Loc → Prop} {S S' : State} (k : ∀ t, Steps p.tables e below S' t → Steps p.tables e below S t) (g : Go p e below s rm Q S') : Go p e below s rm Q S := by
  obtain ⟨t, o, h, r⟩ := g; exact ⟨t, o, k t h, r⟩
theorem Go.ret {rm : Room} {Q : Option Value → Heap → List Loc → Prop} {S : State} {v : Option Value} (X : Stand p l e rm s m args below meth c T locs cells slots) (hv : meth.sig.returnType = none → v = none) (hlk : meth.locks = false) (hc : cells ≤ rm.cells) (hs : slots ≤ rm.slots) (hQ : Q v T.heap locs)
    (st : ∀ fs, (∀ (f : JFrame) (acts : List Action), f.method = m → f.locked = none → f.entered = [] → (doReturn e (T.setTop f) acts v).1 = T.setFrames fs) → Steps p.tables e below S (T.setFrames fs)) : Go p e below s rm Q S := by
  obtain ⟨fs, hr, hrun, hended, hW, hsame⟩ := X.leave (v := v) hv hlk
  exact ⟨_, _, st fs hr, hrun, hended, v, locs, rfl, hQ, ⟨v, rfl⟩, hW, hsame.mono hc hs⟩
theorem Go.retI {rm : Room} {Q : Option Value → Heap → List Loc → Prop} (X : Stand p l e rm s m args below meth c T locs cells slots) (hx : p.tables.exec = Jvm.exec) (hret : meth.sig.returnType = some .int) (hlk : meth.locks = false) {pc : Nat} {Ls : Array Slot} {z : Int32} {rest : List Value} (hd : decode c.code pc = .ok (.ireturn, 1)) (hc : cells ≤ rm.cells) (hs : slots ≤ rm.slots)
    (hQ : Q (some (.int z)) T.heap locs) : Go p e below s rm Q (T.setTop (mkF m pc Ls (.int z :: rest))) := by
  refine Go.ret X (v := some (.int z)) (fun q => by rw [hret] at q; cases q) hlk hc hs hQ fun fs hr => ?_
  have hm' : T.vm.method? m = some meth := X.method'
  have hn : narrow .int (.int z) = .int z := rfl
  show Steps p.tables e below (T.setTop { method := m, pc := pc, locals := Ls, stack := _ :: rest, locked := none }) _
  jvm_step X.here [X.here.top, hx, hd, hm', hret, hn]
  first | (intro acts; rw [hr _ acts rfl rfl rfl]) | rw [hr _ _ rfl rfl rfl]
  exact Steps.refl _
theorem Go.retN {rm : Room} {Q : Option Value → Heap → List Loc → Prop} {t : FieldType} (X : Stand p l e rm s m args below meth c T locs cells slots) (hx : p.tables.exec = Jvm.exec) (hret : meth.sig.returnType = some t) (ht : t = .boolean ∨ t = .byte ∨ t = .char ∨ t = .short) (hlk : meth.locks = false) {pc : Nat} {Ls : Array Slot} {z : Int32} {rest : List Value} (hd : decode c.code pc = .ok (.ireturn, 1)) (hc : cells ≤ rm.cells) (hs : slots ≤ rm.slots)
    (hQ : Q (some (.int (nar t z))) T.heap locs) : Go p e below s rm Q (T.setTop (mkF m pc Ls (.int z :: rest))) :=
  Go.ret X (v := some (.int (nar t z))) (fun q => by rw [hret] at q; cases q) hlk hc hs hQ fun fs hr => Jvm.RoadKit.retN X hx hret ht hd hr
theorem Go.retV {rm : Room} {Q : Option Value → Heap → List Loc → Prop} (X : Stand p l e rm s m args below meth c T locs cells slots) (hx : p.tables.exec = Jvm.exec) (hret : meth.sig.returnType = none) (hlk : meth.locks = false) {pc : Nat} {Ls : Array Slot} (hd : decode c.code pc = .ok (.return_, 1)) (hc : cells ≤ rm.cells) (hs : slots ≤ rm.slots)
    (hQ : Q none T.heap locs) : Go p e below s rm Q (T.setTop (mkF m pc Ls [])) :=
  Go.ret X (v := none) (fun _ => rfl) hlk hc hs hQ fun fs hr => X.returnOut hx hret hd hr
theorem Go.retJ {rm : Room} {Q : Option Value → Heap → List Loc → Prop} (X : Stand p l e rm s m args below meth c T locs cells slots) (hx : p.tables.exec = Jvm.exec) (hret : meth.sig.returnType = some .long) (hlk : meth.locks = false) {pc : Nat} {Ls : Array Slot} {z : Int64} {rest : List Value} (hd : decode c.code pc = .ok (.lreturn, 1)) (hc : cells ≤ rm.cells) (hs : slots ≤ rm.slots)
    (hQ : Q (some (.long z)) T.heap locs) : Go p e below s rm Q (T.setTop (mkF m pc Ls (.long z :: rest))) := by
  refine Go.ret X (v := some (.long z)) (fun q => by rw [hret] at q; cases q) hlk hc hs hQ fun fs hr => ?_
  have hm' : T.vm.method? m = some meth := X.method'
  show Steps p.tables e below (T.setTop { method := m, pc := pc, locals := Ls, stack := _ :: rest, locked := none }) _
  jvm_step X.here [X.here.top, hx, hd, hm', hret, narrow]
  first | (intro acts; rw [hr _ acts rfl rfl rfl]) | rw [hr _ _ rfl rfl rfl]
  exact Steps.refl _
theorem Go.retR {rm : Room} {Q : Option Value → Heap → List Loc → Prop} {t : FieldType} (X : Stand p l e rm s m args below meth c T locs cells slots) (hx : p.tables.exec = Jvm.exec) (hret : meth.sig.returnType = some t) (ht : t.isReference = true) (hlk : meth.locks = false) {pc : Nat} {Ls : Array Slot} {z : Addr} (hd : decode c.code pc = .ok (.areturn, 1)) (hc : cells ≤ rm.cells) (hs : slots ≤ rm.slots)
    (hQ : Q (some (.ref z)) T.heap locs) : Go p e below s rm Q (T.setTop (mkF m pc Ls [.ref z])) := by
  refine Go.ret X (v := some (.ref z)) (fun q => by rw [hret] at q; cases q) hlk hc hs hQ fun fs hr => ?_
  exact X.areturnOut hx rfl hret ht hd hr
/-- the contract of a body: called with these arguments over the heap h0 it comes back, and Q -/
abbrev Con (l : Launch) (Z : State) (y : MethodName) (bytes : ByteArray) (maxL : Nat) (ret : Option FieldType) (ws : List Jvm.Cond) (rm : Room) (as : Array Value) (h0 : Heap) (Q : Option Value → Heap → List Loc → Prop) : Prop :=
  MetFree l y (head1 (Jvm.Cond.code y bytes maxL ret :: ws) rm) (fun a U => a = as ∧ Z.Warmed39 U.vm ∧ U.heap = h0) (fun _ _ _ _ _ => True) (fun _ U o U' => ∃ v L, o = .returned v ∧ Q v U'.heap L ∧ FrameEnd U o U' L rm.cells rm.slots)
theorem Con.mk {y : MethodName} {bytes : ByteArray} {maxL : Nat} {ret : Option FieldType} {ws : List Jvm.Cond} {rm : Room} {as : Array Value} {h0 : Heap} {Q : Option Value → Heap → List Loc → Prop} (hp : plainFor y = true)
    (body : ∀ (p : Program) (e : Env) (s : State) (m : MethodId) (below : List Frame) (meth : Method) (c : Code) (T : State), p.tables.exec = Jvm.exec → c.code = bytes → c.maxLocals = maxL → s.vm.findClass y.cls = some m.cls → meth.name = y.name → meth.sig.returnType = ret → meth.locks = false → Z.Warmed39 s.vm →
      Stand p l e rm s m as below meth c T [] 0 0 → T.heap = h0 → Go p e below s rm Q (T.setTop (entryFrame m as maxL))) : Con l Z y bytes maxL ret ws rm as h0 Q := by
  refine MetFree.of_bodySF hp hisR ?_
  intro p e s m args below meth c s₁ Bd hml0 hP hK
  obtain ⟨rfl, hZ, hh⟩ := hP
  exact body p e s m below meth c s₁ Bd.exec Bd.bytes hml0 (findClass_of_methodNamed Bd.named) (name_of_methodNamed Bd.named Bd.method).1 Bd.returns Bd.notSynchronized hZ (Stand.of_body Bd) (by rw [← hh, Bd.state]; rfl)
theorem Go.cast {rm : Room} {Q : Option Value → Heap → List Loc → Prop} {f f' : JFrame} (q : f = f') (g : Go p e below s rm Q (T.setTop f')) : Go p e below s rm Q (T.setTop f) := q ▸ g
/-! calls -/
theorem callSt (X : Stand p l e R s m args below meth c T locs cells slots) (hx : p.tables.exec = Jvm.exec) (hZ : Z.Warmed39 s.vm) {own : String} {index : Nat} {y : MethodName} {bytes : ByteArray} {maxL : Nat} {ret : Option FieldType} {rm : Room} {W : Nat} {Q : Option Value → Heap → List Loc → Prop} {argsL rest : List Value}
    (hown : s.vm.findClass own = some m.cls) (w1 : (Jvm.Cond.methodLink own index y).before a0 Z = true) (w2 : (Jvm.Cond.static y).before a0 Z = true) (w3 : (Jvm.Cond.initialized y.cls).before a0 Z = true) (w4 : (Jvm.Cond.code y bytes maxL ret).before a0 Z = true) (hy : y.cls ≠ "java/lang/invoke/MethodHandle" ∧ y.cls ≠ "java/lang/invoke/VarHandle")
    (eT : T.heap = h) (hM : Con l Z y bytes maxL ret [] rm argsL.toArray h Q) (hf : rm.frames + 1 ≤ R.frames) (hl : W + (maxL + 11) + rm.locals ≤ R.locals) {sig : MethodDescriptor} (hpd : parseMethodDescriptor y.desc = some sig) (hlen : argsL.length = sig.parameters.length)
    {g : JFrame} (hg : g.method = m) (hsize : g.locals.size = c.maxLocals) (hstack : g.stack = argsL.reverse ++ rest) (hW : 2 * g.monitorRoom + (rest.map fun v => v.category).sum ≤ W) (hdg : decode c.code g.pc = .ok (.invokestatic index, 3)) (hc : cells + rm.cells ≤ R.cells) (hs : slots + rm.slots ≤ R.slots) :
    ∃ (v : Option Value) (T' : State) (h' : Heap) (L : List Loc), Stand p l e R s m args below meth c T' (locs ++ L) (cells + rm.cells) (slots + rm.slots) ∧ T'.heap = h' ∧ Q v h' L ∧ ∀ t, Steps p.tables e below (T'.setTop { g with pc := g.pc + 3, stack := v.toList ++ rest }) t → Steps p.tables e below (T.setTop g) t := by
  obtain ⟨v, _, ⟨T1, L1, k1, n1⟩, -, X1, ⟨Lc, hQ, l1, y1, z1⟩, st⟩ := Jvm.LawKit.callS X hx (y := y) hown (mvT hZ w1) (mvT hZ w2) (mvT hZ w3) (mvT hZ w4) hy (backOf (W := W) (Z := Z) (a0 := a0) (h := h) hM hZ w4 w3 hf hl) (g := g) hg hsize (argsL := argsL) (rest := rest) (fun sg q => by rw [hpd] at q; cases q; exact hlen) hstack hW hdg (fun _ _ => ⟨rfl, eT, hc, hs⟩)
  dsimp only [Pt.U, Pt.locs, Pt.cells, Pt.slots] at X1 l1 y1 z1 st hQ
  subst l1 y1 z1
  exact ⟨v, T1, T1.heap, Lc, X1, rfl, hQ, st⟩
theorem callIn (X : Stand p l e R s m args below meth c T locs cells slots) (hx : p.tables.exec = Jvm.exec) (hZ : Z.Warmed39 s.vm) {own : String} {index : Nat} {y : MethodName} {bytes : ByteArray} {maxL : Nat} {rm : Room} {W : Nat} {Q : Option Value → Heap → List Loc → Prop} {argsL rest : List Value} (hi : y.name = "<init>")
    (hown : s.vm.findClass own = some m.cls) (w1 : (Jvm.Cond.methodLink own index y).before a0 Z = true) (w2 : (Jvm.Cond.instanceMethod y).before a0 Z = true) (w3 : (Jvm.Cond.initialized y.cls).before a0 Z = true) (w4 : (Jvm.Cond.code y bytes maxL none).before a0 Z = true) (hy : y.cls ≠ "java/lang/invoke/MethodHandle" ∧ y.cls ≠ "java/lang/invoke/VarHandle")
    (eT : T.heap = h) (hM : Con l Z y bytes maxL none [] rm (.ref a :: argsL).toArray h Q) (hf : rm.frames + 1 ≤ R.frames) (hl : W + (maxL + 11) + rm.locals ≤ R.locals) {sig : MethodDescriptor} (hpd : parseMethodDescriptor y.desc = some sig) (hlen : argsL.length = sig.parameters.length)
    {g : JFrame} (hg : g.method = m) (hsize : g.locals.size = c.maxLocals) (hstack : g.stack = argsL.reverse ++ .ref a :: rest) (hW : 2 * g.monitorRoom + (rest.map fun v => v.category).sum ≤ W) (hdg : decode c.code g.pc = .ok (.invokespecial index, 3)) (hc : cells + rm.cells ≤ R.cells) (hs : slots + rm.slots ≤ R.slots) :
    ∃ (v : Option Value) (T' : State) (h' : Heap) (L : List Loc), Stand p l e R s m args below meth c T' (locs ++ L) (cells + rm.cells) (slots + rm.slots) ∧ T'.heap = h' ∧ Q v h' L ∧ ∀ t, Steps p.tables e below (T'.setTop { g with pc := g.pc + 3, stack := v.toList ++ rest }) t → Steps p.tables e below (T.setTop g) t := by
  obtain ⟨v, _, ⟨T1, L1, k1, n1⟩, -, X1, ⟨Lc, hQ, l1, y1, z1⟩, st⟩ := X.specialBack hx (y := y) hi hown (mvT hZ w1) (mvT hZ w2) (mvT hZ w4) hy (backOf (W := W) (Z := Z) (a0 := a0) (h := h) hM hZ w4 w3 hf hl) (g := g) hg hsize (Steps.refl _) (a := a) (argsL := argsL) (rest := rest) (fun sg q => by rw [hpd] at q; cases q; exact hlen) hstack hW hdg (fun _ _ => ⟨rfl, eT, hc, hs⟩)
  dsimp only [Pt.U, Pt.locs, Pt.cells, Pt.slots] at X1 l1 y1 z1 st hQ
  subst l1 y1 z1
  exact ⟨v, T1, T1.heap, Lc, X1, rfl, hQ, fun t k => st.trans k⟩
theorem callVi (X : Stand p l e R s m args below meth c T locs cells slots) (hx : p.tables.exec = Jvm.exec) (hZ : Z.Warmed39 s.vm) {own C : String} {index : Nat} {y : MethodName} {bytes : ByteArray} {maxL : Nat} {ret : Option FieldType} {rm : Room} {W : Nat} {Q : Option Value → Heap → List Loc → Prop} {argsL rest : List Value}
    (hown : s.vm.findClass own = some m.cls) (w1 : (Jvm.Cond.methodLink own index y).before a0 Z = true) (wd : (Jvm.Cond.declares y).before a0 Z = true) (ws : (Jvm.Cond.selects C y y).before a0 Z = true) (w2 : (Jvm.Cond.instanceMethod y).before a0 Z = true) (w3 : (Jvm.Cond.initialized y.cls).before a0 Z = true) (w4 : (Jvm.Cond.code y bytes maxL ret).before a0 Z = true) (hy : y.cls ≠ "java/lang/invoke/MethodHandle" ∧ y.cls ≠ "java/lang/invoke/VarHandle")
    (eT : T.heap = h) (E : Exa Z h a C) (hM : Con l Z y bytes maxL ret [] rm (.ref a :: argsL).toArray h Q) (hf : rm.frames + 1 ≤ R.frames) (hl : W + (maxL + 11) + rm.locals ≤ R.locals) {sig : MethodDescriptor} (hpd : parseMethodDescriptor y.desc = some sig) (hlen : argsL.length = sig.parameters.length)
    {g : JFrame} (hg : g.method = m) (hsize : g.locals.size = c.maxLocals) (hstack : g.stack = argsL.reverse ++ .ref a :: rest) (hW : 2 * g.monitorRoom + (rest.map fun v => v.category).sum ≤ W) (hdg : decode c.code g.pc = .ok (.invokevirtual index, 3)) (hc : cells + rm.cells ≤ R.cells) (hs : slots + rm.slots ≤ R.slots) :
    ∃ (v : Option Value) (T' : State) (h' : Heap) (L : List Loc), Stand p l e R s m args below meth c T' (locs ++ L) (cells + rm.cells) (slots + rm.slots) ∧ T'.heap = h' ∧ Q v h' L ∧ ∀ t, Steps p.tables e below (T'.setTop { g with pc := g.pc + 3, stack := v.toList ++ rest }) t → Steps p.tables e below (T.setTop g) t := by
  obtain ⟨cB, kB, q1, q2, q3⟩ := isOf hZ eT E
  obtain ⟨v, _, ⟨T1, L1, k1, n1⟩, -, X1, ⟨Lc, hQ, l1, y1, z1⟩, st⟩ := X.virtualBack hx (y := y) (z := y) hown (mvT hZ w1) (mvT hZ wd) (notFace_of_selects (args := #[]) (mvT hZ ws)) (mvT hZ ws) (mvT hZ w2) hy (backOf (W := W) (Z := Z) (a0 := a0) (h := h) hM hZ w4 w3 hf hl) q1 q3 (g := g) hg hsize (Steps.refl _) (argsL := argsL) (rest := rest) (fun sg q => by rw [hpd] at q; cases q; exact hlen) hstack hW hdg (fun _ _ => ⟨rfl, eT, hc, hs⟩)
  dsimp only [Pt.U, Pt.locs, Pt.cells, Pt.slots] at X1 l1 y1 z1 st hQ
  subst l1 y1 z1
  exact ⟨v, T1, T1.heap, Lc, X1, rfl, hQ, fun t k => st.trans k⟩
theorem callPr (X : Stand p l e R s m args below meth c T locs cells slots) (hx : p.tables.exec = Jvm.exec) (hZ : Z.Warmed39 s.vm) {own : String} {index ni : Nat} {y : MethodName} {bytes : ByteArray} {maxL : Nat} {ret : Option FieldType} {rm : Room} {W : Nat} {Q : Option Value → Heap → List Loc → Prop} {argsL rest : List Value}
    (hown : s.vm.findClass own = some m.cls) (w1 : (Jvm.Cond.methodLink own index y).before a0 Z = true) (w2 : (Jvm.Cond.instanceMethod y).before a0 Z = true) (wi : (Jvm.Cond.instantiable y.cls ni).before a0 Z = true) (wp : (Jvm.Cond.privateMethod y).before a0 Z = true) (w3 : (Jvm.Cond.initialized y.cls).before a0 Z = true) (w4 : (Jvm.Cond.code y bytes maxL ret).before a0 Z = true) (hy : y.cls ≠ "java/lang/invoke/MethodHandle" ∧ y.cls ≠ "java/lang/invoke/VarHandle")
    (eT : T.heap = h) {C : String} (E : Exa Z h a C) (hM : Con l Z y bytes maxL ret [] rm (.ref a :: argsL).toArray h Q) (hf : rm.frames + 1 ≤ R.frames) (hl : W + (maxL + 11) + rm.locals ≤ R.locals) {sig : MethodDescriptor} (hpd : parseMethodDescriptor y.desc = some sig) (hlen : argsL.length = sig.parameters.length)
    {g : JFrame} (hg : g.method = m) (hsize : g.locals.size = c.maxLocals) (hstack : g.stack = argsL.reverse ++ .ref a :: rest) (hW : 2 * g.monitorRoom + (rest.map fun v => v.category).sum ≤ W) (hdg : decode c.code g.pc = .ok (.invokevirtual index, 3)) (hc : cells + rm.cells ≤ R.cells) (hs : slots + rm.slots ≤ R.slots) :
    ∃ (v : Option Value) (T' : State) (h' : Heap) (L : List Loc), Stand p l e R s m args below meth c T' (locs ++ L) (cells + rm.cells) (slots + rm.slots) ∧ T'.heap = h' ∧ Q v h' L ∧ ∀ t, Steps p.tables e below (T'.setTop { g with pc := g.pc + 3, stack := v.toList ++ rest }) t → Steps p.tables e below (T.setTop g) t := by
  obtain ⟨cell, q1, q2⟩ := E.cell
  have wi' : (Jvm.Cond.instantiable y.cls ni).before args s = true := mvT hZ wi
  obtain ⟨cI, kI, i1, i2, i3, i4, -⟩ := Cond.instantiable_spec wi'
  have i5 : kI.isInterface = false := by cases hq : kI.isInterface <;> simp [hq] at i4 ⊢
  have hpriv : s.PrivateAt y := Cond.privateMethod_at (mvP hZ wp (args := args))
  have hinst : (Jvm.Cond.instanceMethod y).before args s = true := mvT hZ w2
  obtain ⟨v, _, ⟨T1, L1, k1, n1⟩, -, X1, ⟨Lc, hQ, l1, y1, z1⟩, st⟩ := X.privateBack hx (y := y) hown (mvT hZ w1) hinst (selects_self_of_private i1 i2 i5 hpriv hinst hy) hpriv (mvT hZ w4) hy (backOf (W := W) (Z := Z) (a0 := a0) (h := h) hM hZ w4 w3 hf hl) (g := g) hg hsize (Steps.refl _) (a := a) (cell := cell) (by rw [eT]; exact q1) q2 (argsL := argsL) (rest := rest) (fun sg q => by rw [hpd] at q; cases q; exact hlen) hstack hW hdg (fun _ _ => ⟨rfl, eT, hc, hs⟩)
  dsimp only [Pt.U, Pt.locs, Pt.cells, Pt.slots] at X1 l1 y1 z1 st hQ
  subst l1 y1 z1
  exact ⟨v, T1, T1.heap, Lc, X1, rfl, hQ, fun t k => st.trans k⟩
/-! arrays of ints, bytes, .. by the list of what they hold -/
def Ai (Z : State) (h : Heap) (a : Addr) (ty : FieldType) (xs : List Int32) : Prop := ∃ (k : ClassId) (z : Int32), Arv Z h a k ty z (xs.map Value.int) (.int 0) ∧ z.toNatClampNeg = xs.length
theorem Ai.lt (A : Ai Z h a ty xs) : a < h.size := by obtain ⟨_, _, q, -⟩ := A; exact q.lt
theorem Ai.ext (A : Ai Z h a ty xs) (E : Ext h h') : Ai Z h' a ty xs := by obtain ⟨k, z, q, r⟩ := A; exact ⟨k, z, q.ext E, r⟩
theorem Ai.other {sl : Nat} {v : Value} (A : Ai Z h a ty xs) (W : Wr h h' b sl v) (ne : a ≠ b) : Ai Z h' a ty xs := by obtain ⟨k, z, q, r⟩ := A; exact ⟨k, z, q.other W ne, r⟩
theorem Ai.keep {ws : List Addr} (A : Ai Z h a ty xs) (K : Keep h h' ws) (nin : a ∉ ws) : Ai Z h' a ty xs := by obtain ⟨k, z, q, r⟩ := A; exact ⟨k, z, q.keep K nin, r⟩
theorem Ai.len (A : Ai Z h a ty xs) : xs.length < 2 ^ 31 := by
  obtain ⟨k, z, ⟨c, -, -, -, hz, -⟩, r⟩ := A
  rw [← r]; exact (back32 hz).2
theorem Ai.open (A : Ai Z h a ty xs) : ∃ c : Cell, Arr Z h a c ty ∧ c.slots.size = xs.length ∧ ∀ (i : Nat) (v : Int32), xs[i]? = some v → c.slots[i]? = some (.int v) := by
  obtain ⟨k, z, ⟨c, A, q1, S, q3, H, G⟩, r⟩ := A
  refine ⟨c, A, S.trans r, fun i v hv => ?_⟩
  have hi : i < xs.length := (List.getElem?_eq_some_iff.mp hv).1
  rw [H i (by rw [S, r]; exact hi)]
  simp [List.getD_eq_getElem?_getD, hv]
theorem Ai.fitsOf {i : Nat} {v : Int32} (A : Ai Z h a ty xs) (hv : xs[i]? = some v) : fits ty (.int v) = true := by
  obtain ⟨k, z, ⟨c, A, q1, S, q3, H, G⟩, r⟩ := A
  have hi : i < xs.length := (List.getElem?_eq_some_iff.mp hv).1
  have := G i (by rw [S, r]; exact hi)
  simpa [List.getD_eq_getElem?_getD, hv] using this
theorem own_in {n : Nat} {j : Int32} (hj : ¬ j < 0) (hi : j.toNatClampNeg < n) : ¬ (j < 0 ∨ n ≤ j.toNatClampNeg) := fun q => q.elim hj fun r => absurd hi (Nat.not_lt.mpr r)
theorem Ai.load (A : Ai Z h a .int xs) (X : Stand p l e R s m args below meth c T locs cells slots) (hx : p.tables.exec = Jvm.exec) (hZ : Z.Warmed39 s.vm) (eT : T.heap = h) {j v : Int32} (hj : ¬ j < 0) (hv : xs[j.toNatClampNeg]? = some v) {g : JFrame} (hg : g.method = m) {rest : List Value} (hs : g.stack = .int j :: .ref a :: rest) (hd : decode c.code g.pc = .ok (.iaload, 1)) :
    ∀ t, Steps p.tables e below (T.setTop { g with pc := g.pc + 1, stack := .int v :: rest }) t → Steps p.tables e below (T.setTop g) t := by
  obtain ⟨cl, Ar, S, H⟩ := A.open
  exact fun t k => X.iaload hx (j := j) (v := .int v) (by rw [eT]; exact Ar.1) (State.isArrayOf_alike hZ.alike Ar.2.1) Ar.2.2 (own_in hj (by rw [S]; exact (List.getElem?_eq_some_iff.mp hv).1)) (H _ _ hv) hg hs hd t k
theorem Ai.bload (A : Ai Z h a .byte xs) (X : Stand p l e R s m args below meth c T locs cells slots) (hx : p.tables.exec = Jvm.exec) (hZ : Z.Warmed39 s.vm) (eT : T.heap = h) {j v : Int32} (hj : ¬ j < 0) (hv : xs[j.toNatClampNeg]? = some v) {g : JFrame} (hg : g.method = m) {rest : List Value} (hs : g.stack = .int j :: .ref a :: rest) (hd : decode c.code g.pc = .ok (.baload, 1)) :
    ∀ t, Steps p.tables e below (T.setTop { g with pc := g.pc + 1, stack := .int v :: rest }) t → Steps p.tables e below (T.setTop g) t := by
  obtain ⟨cl, Ar, S, H⟩ := A.open
  exact fun t k => X.baloadBytes hx (j := j) (v := .int v) (by rw [eT]; exact Ar.1) (State.isArrayOf_alike hZ.alike Ar.2.1) Ar.2.2 (own_in hj (by rw [S]; exact (List.getElem?_eq_some_iff.mp hv).1)) (H _ _ hv) hg hs hd t k
theorem Ai.length (A : Ai Z h a ty xs) (X : Stand p l e R s m args below meth c T locs cells slots) (hx : p.tables.exec = Jvm.exec) (hZ : Z.Warmed39 s.vm) (eT : T.heap = h) {n : Int32} (hn : xs.length.toInt32 = n) {g : JFrame} (hg : g.method = m) {rest : List Value} (hs : g.stack = .ref a :: rest) (hd : decode c.code g.pc = .ok (.arraylength, 1)) :
    ∀ t, Steps p.tables e below (T.setTop { g with pc := g.pc + 1, stack := .int n :: rest }) t → Steps p.tables e below (T.setTop g) t := by
  obtain ⟨cl, Ar, S, H⟩ := A.open
  subst hn
  rw [← S]
  exact fun t k => X.arraylength hx (by rw [eT]; exact Ar.1) (State.isArrayOf_alike hZ.alike Ar.2.1) hg hs hd t k
theorem Ai.set {j v : Int32} (A : Ai Z h a ty xs) (hf : fits ty (.int v) = true) (W : Wr h h' a j.toNatClampNeg (.int v)) (hi : j.toNatClampNeg < xs.length) : Ai Z h' a ty (xs.set j.toNatClampNeg v) := by
  obtain ⟨k, z, ⟨c, A, q1, S, q3, H, G⟩, r⟩ := A
  refine ⟨k, z, ?_, by simpa using r⟩
  rw [List.map_set]
  exact Arv.set A q1 S q3 H G hf W j.toNatClampNeg rfl (by simpa using hi)
theorem Ai.store (A : Ai Z h a .int xs) (X : Stand p l e R s m args below meth c T locs cells slots) (hx : p.tables.exec = Jvm.exec) (hZ : Z.Warmed39 s.vm) (eT : T.heap = h) {j v : Int32} (hj : ¬ j < 0) (hi : j.toNatClampNeg < xs.length) {g : JFrame} (hg : g.method = m) {rest : List Value} (hs : g.stack = .int v :: .int j :: .ref a :: rest) (hd : decode c.code g.pc = .ok (.iastore, 1)) :
    ∃ T' h', Stand p l e R s m args below meth c T' (locs ++ [⟨a, j.toNatClampNeg⟩]) cells slots ∧ T'.heap = h' ∧ Wr h h' a j.toNatClampNeg (.int v) ∧ Ai Z h' a .int (xs.set j.toNatClampNeg v) ∧
      ∀ t, Steps p.tables e below (T'.setTop { g with pc := g.pc + 1, stack := rest }) t → Steps p.tables e below (T.setTop g) t := by
  obtain ⟨cl, Ar, S, H⟩ := A.open
  obtain ⟨T', h', X', e', W, st⟩ := stI X hx hZ eT Ar (j := j) (own_in hj (by rw [S]; exact hi)) hg hs hd
  exact ⟨T', h', X', e', W, A.set rfl W hi, st⟩
theorem Ai.bstore (A : Ai Z h a .byte xs) (X : Stand p l e R s m args below meth c T locs cells slots) (hx : p.tables.exec = Jvm.exec) (hZ : Z.Warmed39 s.vm) (eT : T.heap = h) {j v : Int32} (hj : ¬ j < 0) (hi : j.toNatClampNeg < xs.length) {g : JFrame} (hg : g.method = m) {rest : List Value} (hs : g.stack = .int v :: .int j :: .ref a :: rest) (hd : decode c.code g.pc = .ok (.bastore, 1)) :
    ∃ T' h', Stand p l e R s m args below meth c T' (locs ++ [⟨a, j.toNatClampNeg⟩]) cells slots ∧ T'.heap = h' ∧ Wr h h' a j.toNatClampNeg (.int v.toInt8.toInt32) ∧ Ai Z h' a .byte (xs.set j.toNatClampNeg v.toInt8.toInt32) ∧
      ∀ t, Steps p.tables e below (T'.setTop { g with pc := g.pc + 1, stack := rest }) t → Steps p.tables e below (T.setTop g) t := by
  obtain ⟨cl, Ar, S, H⟩ := A.open
  obtain ⟨T', h', X', e', W, st⟩ := stB X hx hZ eT Ar (j := j) (own_in hj (by rw [S]; exact hi)) hg hs hd
  exact ⟨T', h', X', e', W, A.set (fits_nar_byte v) W hi, st⟩
theorem Ai.new (X : Stand p l e R s m args below meth c T locs cells slots) (hx : p.tables.exec = Jvm.exec) (hZ : Z.Warmed39 s.vm) {aty : ArrayType} (w : (Jvm.Cond.arrayClass (newarray.typeOf aty)).before a0 Z = true) (hdef : defaultValue (newarray.typeOf aty) = .int 0) (eT : T.heap = h) {n : Int32} (hn : ¬ n < 0) (cap : Nat) (hcap : n.toNatClampNeg ≤ cap) (hb : cap * 8 ≤ 536870912) (hc : cells + 1 ≤ R.cells) (hl : slots + cap ≤ R.slots)
    {g : JFrame} (hg : g.method = m) {rest : List Value} (hs : g.stack = .int n :: rest) (hd : decode c.code g.pc = .ok (.newarray aty, 2)) :
    ∃ T' h' b, Stand p l e R s m args below meth c T' locs (cells + 1) (slots + cap) ∧ T'.heap = h' ∧ b = h.size ∧ Ext h h' ∧ Ai Z h' b (newarray.typeOf aty) (List.replicate n.toNatClampNeg 0) ∧
      ∀ t, Steps p.tables e below (T'.setTop { g with pc := g.pc + 2, stack := .ref b :: rest }) t → Steps p.tables e below (T.setTop g) t := by
  obtain ⟨T', h', k, X', e', E, A, st⟩ := newP X hx hZ w eT (g := g) hg hd hs hn hcap hb hc hl
  refine ⟨T', h', _, X', e', rfl, E, ⟨k, n, ?_, by simp⟩, st⟩
  have V := Arv.new A hn
  rw [hdef] at V
  rw [List.map_replicate]
  exact V.pad (pad_rep [] (.int 0) n.toNatClampNeg)
theorem Ai.newE (X : Stand p l e R s m args below meth c T locs cells slots) (hx : p.tables.exec = Jvm.exec) (hZ : Z.Warmed39 s.vm) {aty : ArrayType} (w : (Jvm.Cond.arrayClass (newarray.typeOf aty)).before a0 Z = true) (hdef : defaultValue (newarray.typeOf aty) = .int 0) (eT : T.heap = h) {n : Int32} (hn : ¬ n < 0) (cap : Nat) (hcap : n.toNatClampNeg ≤ cap) (hb : cap * 8 ≤ 536870912) (hc : cells + 1 ≤ R.cells) (hl : slots + cap ≤ R.slots) {ad : String} (had : "[" ++ (newarray.typeOf aty).toString = ad)
    {g : JFrame} (hg : g.method = m) {rest : List Value} (hs : g.stack = .int n :: rest) (hd : decode c.code g.pc = .ok (.newarray aty, 2)) :
    ∃ T' h' b, Stand p l e R s m args below meth c T' locs (cells + 1) (slots + cap) ∧ T'.heap = h' ∧ b = h.size ∧ Ext h h' ∧ Ai Z h' b (newarray.typeOf aty) (List.replicate n.toNatClampNeg 0) ∧ Exa Z h' b ad ∧
      ∀ t, Steps p.tables e below (T'.setTop { g with pc := g.pc + 2, stack := .ref b :: rest }) t → Steps p.tables e below (T.setTop g) t := by
  obtain ⟨T', h', k, X', e', E, A, Ex, st⟩ := newPE X hx hZ w eT (g := g) hg hd hs hn hcap hb hc hl had
  refine ⟨T', h', _, X', e', rfl, E, ⟨k, n, ?_, by simp⟩, Ex, st⟩
  have V := Arv.new A hn
  rw [hdef] at V
  rw [List.map_replicate]
  exact V.pad (pad_rep [] (.int 0) n.toNatClampNeg)
theorem Ai.copy (X : Stand p l e R s m args below meth c T locs cells slots) (hx : p.tables.exec = Jvm.exec) (hZ : Z.Warmed39 s.vm) {own : String} {index : Nat} (hown : s.vm.findClass own = some m.cls)
    (w1 : (Jvm.Cond.methodLink own index Jvm.Stand.acN).before a0 Z = true) (w2 : (Jvm.Cond.native Jvm.Stand.acN).before a0 Z = true) (w3 : (Jvm.Cond.static Jvm.Stand.acN).before a0 Z = true) (w4 : (Jvm.Cond.initialized "java/lang/System").before a0 Z = true) (eT : T.heap = h)
    {sp dp nn : Int32} (A : Ai Z h a ty xs) (B : Ai Z h b ty ys) (hty : refKind ty = false) (h1 : ¬ sp < 0) (h2 : ¬ dp < 0) (h3 : ¬ nn < 0) (h4 : sp.toNatClampNeg + nn.toNatClampNeg ≤ xs.length) (h5 : dp.toNatClampNeg + nn.toNatClampNeg ≤ ys.length) {n0 : Nat} (N : Fr n0 locs) (ge : n0 ≤ b)
    {g : JFrame} (hg : g.method = m) (hsize : g.locals.size = c.maxLocals) {rest : List Value} (hs : g.stack = .int nn :: .int dp :: .ref b :: .int sp :: .ref a :: rest) (hd : decode c.code g.pc = .ok (.invokestatic index, 3))
    (hf : 1 ≤ R.frames) {W : Nat} (hW : 2 * g.monitorRoom + (rest.map fun v => v.category).sum ≤ W) (hlo : W + (nativeFrameWords "java/lang/System" "arraycopy" 5 + 11) ≤ R.locals) :
    ∃ T' h' L, Stand p l e R s m args below meth c T' L cells slots ∧ T'.heap = h' ∧ Fr n0 L ∧ Keep h h' [b] ∧ Ai Z h' b ty (ys.take dp.toNatClampNeg ++ (xs.drop sp.toNatClampNeg).take nn.toNatClampNeg ++ ys.drop (dp.toNatClampNeg + nn.toNatClampNeg)) ∧
      ∀ t, Steps p.tables e below (T'.setTop { g with pc := g.pc + 3, stack := rest }) t → Steps p.tables e below (T.setTop g) t := by
  obtain ⟨k, z, A, r⟩ := A
  obtain ⟨k', z', B, r'⟩ := B
  obtain ⟨T', h', L, X', e', N', K, V, st⟩ := cpA X hx hZ hown w1 w2 w3 w4 eT A B (Or.inl ⟨rfl, hty⟩) h1 h2 h3 (by rw [r]; exact h4) (by rw [r']; exact h5) rfl (by simpa using h5) N ge hg hsize hs hd hf hW hlo
  refine ⟨T', h', L, X', e', N', K, ⟨k', z', ?_, ?_⟩, st⟩
  · have q : (List.range nn.toNatClampNeg).map (fun i => (xs.map Value.int).getD (sp.toNatClampNeg + i) (.int 0)) = ((xs.drop sp.toNatClampNeg).take nn.toNatClampNeg).map Value.int := by
      apply List.ext_getElem?
      intro i
      by_cases hi : i < nn.toNatClampNeg
      · have h6 : sp.toNatClampNeg + i < xs.length := by omega
        simp [List.getElem?_take, hi, h6, List.getD_eq_getElem?_getD]
      · simp [List.getElem?_take, hi]
    rw [q] at V
    simpa [List.map_append, List.map_take, List.map_drop] using V
  · rw [r']; simp; omega
/-! arrays of longs -/
def Al (Z : State) (h : Heap) (a : Addr) (ls : List Int64) : Prop := ∃ (k : ClassId) (z : Int32), Arv Z h a k .long z (ls.map Value.long) (.long 0) ∧ z.toNatClampNeg = ls.length
theorem Al.lt (A : Al Z h a ls) : a < h.size := by obtain ⟨_, _, q, -⟩ := A; exact q.lt
theorem Al.ext (A : Al Z h a ls) (E : Ext h h') : Al Z h' a ls := by obtain ⟨k, z, q, r⟩ := A; exact ⟨k, z, q.ext E, r⟩
theorem Al.other {sl : Nat} {v : Value} (A : Al Z h a ls) (W : Wr h h' b sl v) (ne : a ≠ b) : Al Z h' a ls := by obtain ⟨k, z, q, r⟩ := A; exact ⟨k, z, q.other W ne, r⟩
theorem Al.keep {ws : List Addr} (A : Al Z h a ls) (K : Keep h h' ws) (nin : a ∉ ws) : Al Z h' a ls := by obtain ⟨k, z, q, r⟩ := A; exact ⟨k, z, q.keep K nin, r⟩
theorem Al.len (A : Al Z h a ls) : ls.length < 2 ^ 31 := by
  obtain ⟨k, z, ⟨c, -, -, -, hz, -⟩, r⟩ := A
  rw [← r]; exact (back32 hz).2
theorem Al.open (A : Al Z h a ls) : ∃ c : Cell, Arr Z h a c .long ∧ c.slots.size = ls.length ∧ ∀ (i : Nat) (v : Int64), ls[i]? = some v → c.slots[i]? = some (.long v) := by
  obtain ⟨k, z, ⟨c, A, q1, S, q3, H, G⟩, r⟩ := A
  refine ⟨c, A, S.trans r, fun i v hv => ?_⟩
  have hi : i < ls.length := (List.getElem?_eq_some_iff.mp hv).1
  rw [H i (by rw [S, r]; exact hi)]
  simp [List.getD_eq_getElem?_getD, hv]
theorem Al.load (A : Al Z h a ls) (X : Stand p l e R s m args below meth c T locs cells slots) (hx : p.tables.exec = Jvm.exec) (hZ : Z.Warmed39 s.vm) (eT : T.heap = h) {j : Int32} {v : Int64} (hj : ¬ j < 0) (hv : ls[j.toNatClampNeg]? = some v) {g : JFrame} (hg : g.method = m) {rest : List Value} (hs : g.stack = .int j :: .ref a :: rest) (hd : decode c.code g.pc = .ok (.laload, 1)) :
    ∀ t, Steps p.tables e below (T.setTop { g with pc := g.pc + 1, stack := .long v :: rest }) t → Steps p.tables e below (T.setTop g) t := by
  obtain ⟨cl, Ar, S, H⟩ := A.open
  exact fun t k => X.laload hx (j := j) (v := .long v) (by rw [eT]; exact Ar.1) (State.isArrayOf_alike hZ.alike Ar.2.1) Ar.2.2 (own_in hj (by rw [S]; exact (List.getElem?_eq_some_iff.mp hv).1)) (H _ _ hv) hg hs hd t k
theorem Al.length (A : Al Z h a ls) (X : Stand p l e R s m args below meth c T locs cells slots) (hx : p.tables.exec = Jvm.exec) (hZ : Z.Warmed39 s.vm) (eT : T.heap = h) {n : Int32} (hn : ls.length.toInt32 = n) {g : JFrame} (hg : g.method = m) {rest : List Value} (hs : g.stack = .ref a :: rest) (hd : decode c.code g.pc = .ok (.arraylength, 1)) :
    ∀ t, Steps p.tables e below (T.setTop { g with pc := g.pc + 1, stack := .int n :: rest }) t → Steps p.tables e below (T.setTop g) t := by
  obtain ⟨cl, Ar, S, H⟩ := A.open
  subst hn
  rw [← S]
  exact fun t k => X.arraylength hx (by rw [eT]; exact Ar.1) (State.isArrayOf_alike hZ.alike Ar.2.1) hg hs hd t k
theorem Al.store (A : Al Z h a ls) (X : Stand p l e R s m args below meth c T locs cells slots) (hx : p.tables.exec = Jvm.exec) (hZ : Z.Warmed39 s.vm) (eT : T.heap = h) {j : Int32} {v : Int64} (hj : ¬ j < 0) (hi : j.toNatClampNeg < ls.length) {g : JFrame} (hg : g.method = m) {rest : List Value} (hs : g.stack = .long v :: .int j :: .ref a :: rest) (hd : decode c.code g.pc = .ok (.lastore, 1)) :
    ∃ T' h', Stand p l e R s m args below meth c T' (locs ++ [⟨a, j.toNatClampNeg⟩]) cells slots ∧ T'.heap = h' ∧ Wr h h' a j.toNatClampNeg (.long v) ∧ Al Z h' a (ls.set j.toNatClampNeg v) ∧
      ∀ t, Steps p.tables e below (T'.setTop { g with pc := g.pc + 1, stack := rest }) t → Steps p.tables e below (T.setTop g) t := by
  obtain ⟨cl, Ar, S, H⟩ := A.open
  obtain ⟨T', h', X', e', W, st⟩ := stJ X hx hZ eT Ar (j := j) (own_in hj (by rw [S]; exact hi)) hg hs hd
  refine ⟨T', h', X', e', W, ?_, st⟩
  obtain ⟨k, z, ⟨c, A, q1, S, q3, H, G⟩, r⟩ := A
  refine ⟨k, z, ?_, by simpa using r⟩
  rw [List.map_set]
  exact Arv.set A q1 S q3 H G rfl W j.toNatClampNeg rfl (by simpa using hi)
theorem Al.new (X : Stand p l e R s m args below meth c T locs cells slots) (hx : p.tables.exec = Jvm.exec) (hZ : Z.Warmed39 s.vm) {aty : ArrayType} (w : (Jvm.Cond.arrayClass (newarray.typeOf aty)).before a0 Z = true) (hdef : aty = .long) (eT : T.heap = h) {n : Int32} (hn : ¬ n < 0) (cap : Nat) (hcap : n.toNatClampNeg ≤ cap) (hb : cap * 8 ≤ 536870912) (hc : cells + 1 ≤ R.cells) (hl : slots + cap ≤ R.slots)
    {g : JFrame} (hg : g.method = m) {rest : List Value} (hs : g.stack = .int n :: rest) (hd : decode c.code g.pc = .ok (.newarray aty, 2)) :
    ∃ T' h' b, Stand p l e R s m args below meth c T' locs (cells + 1) (slots + cap) ∧ T'.heap = h' ∧ b = h.size ∧ Ext h h' ∧ Al Z h' b (List.replicate n.toNatClampNeg 0) ∧
      ∀ t, Steps p.tables e below (T'.setTop { g with pc := g.pc + 2, stack := .ref b :: rest }) t → Steps p.tables e below (T.setTop g) t := by
  obtain ⟨T', h', k, X', e', E, A, st⟩ := newP X hx hZ w eT (g := g) hg hd hs hn hcap hb hc hl
  subst hdef
  refine ⟨T', h', _, X', e', rfl, E, ⟨k, n, ?_, by simp⟩, st⟩
  have V := Arv.new A hn
  rw [List.map_replicate]
  exact V.pad (pad_rep [] (.long 0) n.toNatClampNeg)
theorem own_if1 {P : Prop} [Decidable P] (h : P) : ¬ ((if P then (1 : Int32) else (0 : Int32)) = 0) := by rw [if_pos h]; decide
theorem own_if0 {P : Prop} [Decidable P] (h : ¬ P) : (if P then (1 : Int32) else (0 : Int32)) = 0 := if_neg h
theorem own_ifc {P Q : Prop} [Decidable P] [Decidable Q] (h : P ↔ Q) : (if P then (1 : Int32) else (0 : Int32)) = (if Q then (1 : Int32) else (0 : Int32)) := by
  by_cases p : P
  · rw [if_pos p, if_pos (h.mp p)]
  · rw [if_neg p, if_neg (fun q => p (h.mpr q))]
theorem own_narI {P : Prop} [Decidable P] : nar .boolean (if P then (1 : Int32) else (0 : Int32)) = (if P then (1 : Int32) else (0 : Int32)) := by
  by_cases p : P
  · rw [if_pos p]; rfl
  · rw [if_neg p]; rfl
theorem own_bb (x : Int32) : x.toInt8.toInt32.toInt8.toInt32 = x.toInt8.toInt32 := by simp
end Layer
section Numbers
theorem own_mod (x k : Int32) (hk : 0 < k.toInt) : 0 ≤ ((x &&& (2147483647 : Int32)) % k).toInt ∧ ((x &&& (2147483647 : Int32)) % k).toInt < k.toInt := by
  have h1 := c_and x 2147483647 (by decide)
  have h2 := (c_iremV (x &&& 2147483647) k).1 h1.1 hk
  exact ⟨h2.1, h2.2.1⟩
theorem own_nn {j : Int32} (h : 0 ≤ j.toInt) : ¬ j < 0 := by
  rw [Int32.lt_iff_toInt_lt, show (0 : Int32).toInt = 0 from rfl]; omega
theorem own_nat {j : Int32} {k : Nat} (h : 0 ≤ j.toInt) (h2 : j.toInt < k) : j.toNatClampNeg < k := by
  simp only [Int32.toNatClampNeg]; omega
theorem own_at {xs : List Int32} {i : Nat} (h : i < xs.length) : ∃ v, xs[i]? = some v := ⟨xs[i], List.getElem?_eq_getElem h⟩
end Numbers
def BR (Z : State) (h : Heap) (a b : Addr) (at_ lim : Int32) : Prop := Exa Z h a "com/example/exactor/exactor/sql/ByteReader" ∧ Fld Z h a "com/example/exactor/exactor/sql/ByteReader" "bytes" "[B" (.ref b) ∧ Fld Z h a "com/example/exactor/exactor/sql/ByteReader" "at" "I" (.int at_) ∧ Fld Z h a "com/example/exactor/exactor/sql/ByteReader" "limit" "I" (.int lim)
theorem own_fitb {v : Int32} (h : fits .byte (.int v) = true) : v.toInt8.toInt32 = v := by
  have h2 := rng_byte h
  have h3 := c_i2b v
  have a1 : ¬ v.toInt < -128 := fun q => h2.1 (Int32.lt_iff_toInt_lt.mpr (by rw [show (-128 : Int32).toInt = -128 from rfl]; exact q))
  have a2 : ¬ 127 < v.toInt := fun q => h2.2 (Int32.lt_iff_toInt_lt.mpr (by rw [show (127 : Int32).toInt = 127 from rfl]; exact q))
  exact Int32.toInt_inj.mp (by omega)
theorem own_sub (x y : Int32) (h1 : 0 ≤ y.toInt) (h2 : y.toInt ≤ x.toInt) : (x - y).toInt = x.toInt - y.toInt := by
  have := c_isub x y; have := rng32 x; have := rng32 (x - y); omega
theorem own_add (x y : Int32) (h1 : 0 ≤ x.toInt) (h2 : 0 ≤ y.toInt) (h3 : x.toInt + y.toInt < 2147483648) : (x + y).toInt = x.toInt + y.toInt := by
  have := c_iadd x y; have := rng32 (x + y); omega
theorem w0 {Z : State} {a0 : Array Value} (hw : ∀ d ∈ tables_1, d.before a0 Z = true) : (Jvm.Cond.arrayClass Jvm.ClassFile.FieldType.byte).before a0 Z = true := hw _ (List.mem_of_getElem? (i := 0) rfl)
theorem w1 {Z : State} {a0 : Array Value} (hw : ∀ d ∈ tables_1, d.before a0 Z = true) : (Jvm.Cond.constant "com/example/exactor/exactor/sql/ByteReaderMorePinLaw" (7 : Nat) (2147483647 : Int32)).before a0 Z = true := hw _ (List.mem_of_getElem? (i := 1) rfl)
theorem w2 {Z : State} {a0 : Array Value} (hw : ∀ d ∈ tables_1, d.before a0 Z = true) : (Jvm.Cond.classLink "com/example/exactor/exactor/sql/ByteReaderMorePinLaw" (8 : Nat) "com/example/exactor/exactor/sql/ByteReader").before a0 Z = true := hw _ (List.mem_of_getElem? (i := 2) rfl)
theorem w3 {Z : State} {a0 : Array Value} (hw : ∀ d ∈ tables_1, d.before a0 Z = true) : (Jvm.Cond.instantiable "com/example/exactor/exactor/sql/ByteReader" (3 : Nat)).before a0 Z = true := hw _ (List.mem_of_getElem? (i := 3) rfl)
theorem w4 {Z : State} {a0 : Array Value} (hw : ∀ d ∈ tables_1, d.before a0 Z = true) : (Jvm.Cond.initialized "com/example/exactor/exactor/sql/ByteReader").before a0 Z = true := hw _ (List.mem_of_getElem? (i := 4) rfl)
theorem w5 {Z : State} {a0 : Array Value} (hw : ∀ d ∈ tables_1, d.before a0 Z = true) : (Jvm.Cond.methodLink "com/example/exactor/exactor/sql/ByteReaderMorePinLaw" (10 : Nat) ({ cls := "com/example/exactor/exactor/sql/ByteReader", name := "<init>", desc := "([BII)V" } : Jvm.MethodName)).before a0 Z = true := hw _ (List.mem_of_getElem? (i := 5) rfl)
theorem w6 {Z : State} {a0 : Array Value} (hw : ∀ d ∈ tables_1, d.before a0 Z = true) : (Jvm.Cond.instanceMethod ({ cls := "com/example/exactor/exactor/sql/ByteReader", name := "<init>", desc := "([BII)V" } : Jvm.MethodName)).before a0 Z = true := hw _ (List.mem_of_getElem? (i := 6) rfl)
theorem w7 {Z : State} {a0 : Array Value} (hw : ∀ d ∈ tables_1, d.before a0 Z = true) : (Jvm.Cond.code ({ cls := "com/example/exactor/exactor/sql/ByteReader", name := "<init>", desc := "([BII)V" } : Jvm.MethodName) prog_52_method_1_code (4 : Nat) (Option.none : Option Jvm.ClassFile.FieldType)).before a0 Z = true := hw _ (List.mem_of_getElem? (i := 7) rfl)
theorem w8 {Z : State} {a0 : Array Value} (hw : ∀ d ∈ tables_1, d.before a0 Z = true) : (Jvm.Cond.methodLink "com/example/exactor/exactor/sql/ByteReader" (1 : Nat) ({ cls := "java/lang/Object", name := "<init>", desc := "()V" } : Jvm.MethodName)).before a0 Z = true := hw _ (List.mem_of_getElem? (i := 8) rfl)
theorem w9 {Z : State} {a0 : Array Value} (hw : ∀ d ∈ tables_1, d.before a0 Z = true) : (Jvm.Cond.instanceMethod ({ cls := "java/lang/Object", name := "<init>", desc := "()V" } : Jvm.MethodName)).before a0 Z = true := hw _ (List.mem_of_getElem? (i := 9) rfl)
theorem w10 {Z : State} {a0 : Array Value} (hw : ∀ d ∈ tables_1, d.before a0 Z = true) : (Jvm.Cond.code ({ cls := "java/lang/Object", name := "<init>", desc := "()V" } : Jvm.MethodName) object_method_1_code (1 : Nat) (Option.none : Option Jvm.ClassFile.FieldType)).before a0 Z = true := hw _ (List.mem_of_getElem? (i := 10) rfl)
theorem w11 {Z : State} {a0 : Array Value} (hw : ∀ d ∈ tables_1, d.before a0 Z = true) : (Jvm.Cond.fieldLink "com/example/exactor/exactor/sql/ByteReader" (14 : Nat) "com/example/exactor/exactor/sql/ByteReader" "bytes" "[B").before a0 Z = true := hw _ (List.mem_of_getElem? (i := 11) rfl)
theorem w12 {Z : State} {a0 : Array Value} (hw : ∀ d ∈ tables_1, d.before a0 Z = true) : (Jvm.Cond.laysFinal "com/example/exactor/exactor/sql/ByteReader" "com/example/exactor/exactor/sql/ByteReader" "bytes" "[B").before a0 Z = true := hw _ (List.mem_of_getElem? (i := 12) rfl)
theorem w13 {Z : State} {a0 : Array Value} (hw : ∀ d ∈ tables_1, d.before a0 Z = true) : (Jvm.Cond.fieldLink "com/example/exactor/exactor/sql/ByteReader" (20 : Nat) "com/example/exactor/exactor/sql/ByteReader" "at" "I").before a0 Z = true := hw _ (List.mem_of_getElem? (i := 13) rfl)
theorem w14 {Z : State} {a0 : Array Value} (hw : ∀ d ∈ tables_1, d.before a0 Z = true) : (Jvm.Cond.lays "com/example/exactor/exactor/sql/ByteReader" "com/example/exactor/exactor/sql/ByteReader" "at" "I").before a0 Z = true := hw _ (List.mem_of_getElem? (i := 14) rfl)
theorem w15 {Z : State} {a0 : Array Value} (hw : ∀ d ∈ tables_1, d.before a0 Z = true) : (Jvm.Cond.fieldLink "com/example/exactor/exactor/sql/ByteReader" (24 : Nat) "com/example/exactor/exactor/sql/ByteReader" "limit" "I").before a0 Z = true := hw _ (List.mem_of_getElem? (i := 15) rfl)
theorem w16 {Z : State} {a0 : Array Value} (hw : ∀ d ∈ tables_1, d.before a0 Z = true) : (Jvm.Cond.laysFinal "com/example/exactor/exactor/sql/ByteReader" "com/example/exactor/exactor/sql/ByteReader" "limit" "I").before a0 Z = true := hw _ (List.mem_of_getElem? (i := 16) rfl)
theorem w17 {Z : State} {a0 : Array Value} (hw : ∀ d ∈ tables_1, d.before a0 Z = true) : (Jvm.Cond.methodLink "com/example/exactor/exactor/sql/ByteReaderMorePinLaw" (13 : Nat) ({ cls := "com/example/exactor/exactor/sql/ByteReader", name := "more", desc := "()Z" } : Jvm.MethodName)).before a0 Z = true := hw _ (List.mem_of_getElem? (i := 17) rfl)
theorem w18 {Z : State} {a0 : Array Value} (hw : ∀ d ∈ tables_1, d.before a0 Z = true) : (Jvm.Cond.declares ({ cls := "com/example/exactor/exactor/sql/ByteReader", name := "more", desc := "()Z" } : Jvm.MethodName)).before a0 Z = true := hw _ (List.mem_of_getElem? (i := 18) rfl)
theorem w19 {Z : State} {a0 : Array Value} (hw : ∀ d ∈ tables_1, d.before a0 Z = true) : (Jvm.Cond.instanceMethod ({ cls := "com/example/exactor/exactor/sql/ByteReader", name := "more", desc := "()Z" } : Jvm.MethodName)).before a0 Z = true := hw _ (List.mem_of_getElem? (i := 19) rfl)
theorem w20 {Z : State} {a0 : Array Value} (hw : ∀ d ∈ tables_1, d.before a0 Z = true) : (Jvm.Cond.selects "com/example/exactor/exactor/sql/ByteReader" ({ cls := "com/example/exactor/exactor/sql/ByteReader", name := "more", desc := "()Z" } : Jvm.MethodName) ({ cls := "com/example/exactor/exactor/sql/ByteReader", name := "more", desc := "()Z" } : Jvm.MethodName)).before a0 Z = true := hw _ (List.mem_of_getElem? (i := 20) rfl)
theorem w21 {Z : State} {a0 : Array Value} (hw : ∀ d ∈ tables_1, d.before a0 Z = true) : (Jvm.Cond.code ({ cls := "com/example/exactor/exactor/sql/ByteReader", name := "more", desc := "()Z" } : Jvm.MethodName) prog_52_method_4_code (1 : Nat) (Option.some Jvm.ClassFile.FieldType.boolean)).before a0 Z = true := hw _ (List.mem_of_getElem? (i := 21) rfl)
theorem w22 {Z : State} {a0 : Array Value} (hw : ∀ d ∈ tables_1, d.before a0 Z = true) : (Jvm.Cond.methodLink "com/example/exactor/exactor/sql/ByteReaderMorePinLaw" (17 : Nat) ({ cls := "com/example/exactor/exactor/sql/ByteReader", name := "skip", desc := "(I)I" } : Jvm.MethodName)).before a0 Z = true := hw _ (List.mem_of_getElem? (i := 22) rfl)
theorem w23 {Z : State} {a0 : Array Value} (hw : ∀ d ∈ tables_1, d.before a0 Z = true) : (Jvm.Cond.declares ({ cls := "com/example/exactor/exactor/sql/ByteReader", name := "skip", desc := "(I)I" } : Jvm.MethodName)).before a0 Z = true := hw _ (List.mem_of_getElem? (i := 23) rfl)
theorem w24 {Z : State} {a0 : Array Value} (hw : ∀ d ∈ tables_1, d.before a0 Z = true) : (Jvm.Cond.instanceMethod ({ cls := "com/example/exactor/exactor/sql/ByteReader", name := "skip", desc := "(I)I" } : Jvm.MethodName)).before a0 Z = true := hw _ (List.mem_of_getElem? (i := 24) rfl)
theorem w25 {Z : State} {a0 : Array Value} (hw : ∀ d ∈ tables_1, d.before a0 Z = true) : (Jvm.Cond.selects "com/example/exactor/exactor/sql/ByteReader" ({ cls := "com/example/exactor/exactor/sql/ByteReader", name := "skip", desc := "(I)I" } : Jvm.MethodName) ({ cls := "com/example/exactor/exactor/sql/ByteReader", name := "skip", desc := "(I)I" } : Jvm.MethodName)).before a0 Z = true := hw _ (List.mem_of_getElem? (i := 25) rfl)
theorem w26 {Z : State} {a0 : Array Value} (hw : ∀ d ∈ tables_1, d.before a0 Z = true) : (Jvm.Cond.code ({ cls := "com/example/exactor/exactor/sql/ByteReader", name := "skip", desc := "(I)I" } : Jvm.MethodName) prog_52_method_13_code (3 : Nat) (Option.some Jvm.ClassFile.FieldType.int)).before a0 Z = true := hw _ (List.mem_of_getElem? (i := 26) rfl)
theorem w27 {Z : State} {a0 : Array Value} (hw : ∀ d ∈ tables_1, d.before a0 Z = true) : (Jvm.Cond.methodLink "com/example/exactor/exactor/sql/ByteReader" (27 : Nat) ({ cls := "com/example/exactor/exactor/sql/ByteReader", name := "requireLeft", desc := "(I)V" } : Jvm.MethodName)).before a0 Z = true := hw _ (List.mem_of_getElem? (i := 27) rfl)
theorem w28 {Z : State} {a0 : Array Value} (hw : ∀ d ∈ tables_1, d.before a0 Z = true) : (Jvm.Cond.instanceMethod ({ cls := "com/example/exactor/exactor/sql/ByteReader", name := "requireLeft", desc := "(I)V" } : Jvm.MethodName)).before a0 Z = true := hw _ (List.mem_of_getElem? (i := 28) rfl)
theorem w29 {Z : State} {a0 : Array Value} (hw : ∀ d ∈ tables_1, d.before a0 Z = true) : (Jvm.Cond.privateMethod ({ cls := "com/example/exactor/exactor/sql/ByteReader", name := "requireLeft", desc := "(I)V" } : Jvm.MethodName)).before a0 Z = true := hw _ (List.mem_of_getElem? (i := 29) rfl)
theorem w30 {Z : State} {a0 : Array Value} (hw : ∀ d ∈ tables_1, d.before a0 Z = true) : (Jvm.Cond.code ({ cls := "com/example/exactor/exactor/sql/ByteReader", name := "requireLeft", desc := "(I)V" } : Jvm.MethodName) prog_52_method_15_code (2 : Nat) (Option.none : Option Jvm.ClassFile.FieldType)).before a0 Z = true := hw _ (List.mem_of_getElem? (i := 30) rfl)
theorem w31 {Z : State} {a0 : Array Value} (hw : ∀ d ∈ tables_1, d.before a0 Z = true) : (Jvm.Cond.methodLink "com/example/exactor/exactor/sql/ByteReaderMorePinLaw" (21 : Nat) ({ cls := "com/example/exactor/exactor/sql/ByteReader", name := "get", desc := "()B" } : Jvm.MethodName)).before a0 Z = true := hw _ (List.mem_of_getElem? (i := 31) rfl)
theorem w32 {Z : State} {a0 : Array Value} (hw : ∀ d ∈ tables_1, d.before a0 Z = true) : (Jvm.Cond.declares ({ cls := "com/example/exactor/exactor/sql/ByteReader", name := "get", desc := "()B" } : Jvm.MethodName)).before a0 Z = true := hw _ (List.mem_of_getElem? (i := 32) rfl)
theorem w33 {Z : State} {a0 : Array Value} (hw : ∀ d ∈ tables_1, d.before a0 Z = true) : (Jvm.Cond.instanceMethod ({ cls := "com/example/exactor/exactor/sql/ByteReader", name := "get", desc := "()B" } : Jvm.MethodName)).before a0 Z = true := hw _ (List.mem_of_getElem? (i := 33) rfl)
theorem w34 {Z : State} {a0 : Array Value} (hw : ∀ d ∈ tables_1, d.before a0 Z = true) : (Jvm.Cond.selects "com/example/exactor/exactor/sql/ByteReader" ({ cls := "com/example/exactor/exactor/sql/ByteReader", name := "get", desc := "()B" } : Jvm.MethodName) ({ cls := "com/example/exactor/exactor/sql/ByteReader", name := "get", desc := "()B" } : Jvm.MethodName)).before a0 Z = true := hw _ (List.mem_of_getElem? (i := 34) rfl)
theorem w35 {Z : State} {a0 : Array Value} (hw : ∀ d ∈ tables_1, d.before a0 Z = true) : (Jvm.Cond.code ({ cls := "com/example/exactor/exactor/sql/ByteReader", name := "get", desc := "()B" } : Jvm.MethodName) prog_52_method_5_code (1 : Nat) (Option.some Jvm.ClassFile.FieldType.byte)).before a0 Z = true := hw _ (List.mem_of_getElem? (i := 35) rfl)
theorem pd0 : parseMethodDescriptor "(I)V" = some ⟨[.int], none⟩ := by decide +kernel
theorem pd1 : parseMethodDescriptor "([BII)V" = some ⟨[(.array .byte), .int, .int], none⟩ := by decide +kernel
theorem pd2 : parseMethodDescriptor "()Z" = some ⟨[], some .boolean⟩ := by decide +kernel
theorem pd3 : parseMethodDescriptor "(I)I" = some ⟨[.int], some .int⟩ := by decide +kernel
theorem pd4 : parseMethodDescriptor "()B" = some ⟨[], some .byte⟩ := by decide +kernel
theorem pn0 : plainName "com/example/exactor/exactor/sql/ByteReader" = true := by first | (simp [plainName, overriddenIn]; done) | decide +kernel
theorem pn1 : plainName "com/example/exactor/exactor/sql/ByteReaderMorePinLaw" = true := by first | (simp [plainName, overriddenIn]; done) | decide +kernel
theorem d1_0 : decode prog_52_method_1_code 0 = .ok (.aload_n 0, 1) := by decide +kernel
theorem d1_1 : decode prog_52_method_1_code 1 = .ok (.invokespecial 1, 3) := by decide +kernel
theorem d1_4 : decode prog_52_method_1_code 4 = .ok (.iload_n 2, 1) := by decide +kernel
theorem d1_5 : decode prog_52_method_1_code 5 = .ok (.ifCond .lt 14, 3) := by decide +kernel
theorem d1_8 : decode prog_52_method_1_code 8 = .ok (.iload_n 3, 1) := by decide +kernel
theorem d1_9 : decode prog_52_method_1_code 9 = .ok (.aload_n 1, 1) := by decide +kernel
theorem d1_10 : decode prog_52_method_1_code 10 = .ok (.arraylength, 1) := by decide +kernel
theorem d1_11 : decode prog_52_method_1_code 11 = .ok (.if_icmp .gt 8, 3) := by decide +kernel
theorem d1_14 : decode prog_52_method_1_code 14 = .ok (.iload_n 2, 1) := by decide +kernel
theorem d1_15 : decode prog_52_method_1_code 15 = .ok (.iload_n 3, 1) := by decide +kernel
theorem d1_16 : decode prog_52_method_1_code 16 = .ok (.if_icmp .le 13, 3) := by decide +kernel
theorem d1_29 : decode prog_52_method_1_code 29 = .ok (.aload_n 0, 1) := by decide +kernel
theorem d1_30 : decode prog_52_method_1_code 30 = .ok (.aload_n 1, 1) := by decide +kernel
theorem d1_31 : decode prog_52_method_1_code 31 = .ok (.putfield 14, 3) := by decide +kernel
theorem d1_34 : decode prog_52_method_1_code 34 = .ok (.aload_n 0, 1) := by decide +kernel
theorem d1_35 : decode prog_52_method_1_code 35 = .ok (.iload_n 2, 1) := by decide +kernel
theorem d1_36 : decode prog_52_method_1_code 36 = .ok (.putfield 20, 3) := by decide +kernel
theorem d1_39 : decode prog_52_method_1_code 39 = .ok (.aload_n 0, 1) := by decide +kernel
theorem d1_40 : decode prog_52_method_1_code 40 = .ok (.iload_n 3, 1) := by decide +kernel
theorem d1_41 : decode prog_52_method_1_code 41 = .ok (.putfield 24, 3) := by decide +kernel
theorem d1_44 : decode prog_52_method_1_code 44 = .ok (.return_, 1) := by decide +kernel
theorem d3_0 : decode prog_52_method_4_code 0 = .ok (.aload_n 0, 1) := by decide +kernel
theorem d3_1 : decode prog_52_method_4_code 1 = .ok (.getfield 20, 3) := by decide +kernel
theorem d3_4 : decode prog_52_method_4_code 4 = .ok (.aload_n 0, 1) := by decide +kernel
theorem d3_5 : decode prog_52_method_4_code 5 = .ok (.getfield 24, 3) := by decide +kernel
theorem d3_8 : decode prog_52_method_4_code 8 = .ok (.if_icmp .ge 7, 3) := by decide +kernel
theorem d3_11 : decode prog_52_method_4_code 11 = .ok (.iconst 1, 1) := by decide +kernel
theorem d3_12 : decode prog_52_method_4_code 12 = .ok (.goto 4, 3) := by decide +kernel
theorem d3_15 : decode prog_52_method_4_code 15 = .ok (.iconst 0, 1) := by decide +kernel
theorem d3_16 : decode prog_52_method_4_code 16 = .ok (.ireturn, 1) := by decide +kernel
theorem d4_0 : decode prog_52_method_13_code 0 = .ok (.aload_n 0, 1) := by decide +kernel
theorem d4_1 : decode prog_52_method_13_code 1 = .ok (.iload_n 1, 1) := by decide +kernel
theorem d4_2 : decode prog_52_method_13_code 2 = .ok (.invokevirtual 27, 3) := by decide +kernel
theorem d4_5 : decode prog_52_method_13_code 5 = .ok (.aload_n 0, 1) := by decide +kernel
theorem d4_6 : decode prog_52_method_13_code 6 = .ok (.getfield 20, 3) := by decide +kernel
theorem d4_9 : decode prog_52_method_13_code 9 = .ok (.istore_n 2, 1) := by decide +kernel
theorem d4_10 : decode prog_52_method_13_code 10 = .ok (.aload_n 0, 1) := by decide +kernel
theorem d4_11 : decode prog_52_method_13_code 11 = .ok (.dup, 1) := by decide +kernel
theorem d4_12 : decode prog_52_method_13_code 12 = .ok (.getfield 20, 3) := by decide +kernel
theorem d4_15 : decode prog_52_method_13_code 15 = .ok (.iload_n 1, 1) := by decide +kernel
theorem d4_16 : decode prog_52_method_13_code 16 = .ok (.iadd, 1) := by decide +kernel
theorem d4_17 : decode prog_52_method_13_code 17 = .ok (.putfield 20, 3) := by decide +kernel
theorem d4_20 : decode prog_52_method_13_code 20 = .ok (.iload_n 2, 1) := by decide +kernel
theorem d4_21 : decode prog_52_method_13_code 21 = .ok (.ireturn, 1) := by decide +kernel
theorem d5_0 : decode prog_52_method_15_code 0 = .ok (.iload_n 1, 1) := by decide +kernel
theorem d5_1 : decode prog_52_method_15_code 1 = .ok (.ifCond .lt 16, 3) := by decide +kernel
theorem d5_4 : decode prog_52_method_15_code 4 = .ok (.iload_n 1, 1) := by decide +kernel
theorem d5_5 : decode prog_52_method_15_code 5 = .ok (.aload_n 0, 1) := by decide +kernel
theorem d5_6 : decode prog_52_method_15_code 6 = .ok (.getfield 24, 3) := by decide +kernel
theorem d5_9 : decode prog_52_method_15_code 9 = .ok (.aload_n 0, 1) := by decide +kernel
theorem d5_10 : decode prog_52_method_15_code 10 = .ok (.getfield 20, 3) := by decide +kernel
theorem d5_13 : decode prog_52_method_15_code 13 = .ok (.isub, 1) := by decide +kernel
theorem d5_14 : decode prog_52_method_15_code 14 = .ok (.if_icmp .le 13, 3) := by decide +kernel
theorem d5_27 : decode prog_52_method_15_code 27 = .ok (.return_, 1) := by decide +kernel
theorem d6_0 : decode prog_52_method_5_code 0 = .ok (.aload_n 0, 1) := by decide +kernel
theorem d6_1 : decode prog_52_method_5_code 1 = .ok (.iconst 1, 1) := by decide +kernel
theorem d6_2 : decode prog_52_method_5_code 2 = .ok (.invokevirtual 27, 3) := by decide +kernel
theorem d6_5 : decode prog_52_method_5_code 5 = .ok (.aload_n 0, 1) := by decide +kernel
theorem d6_6 : decode prog_52_method_5_code 6 = .ok (.getfield 14, 3) := by decide +kernel
theorem d6_9 : decode prog_52_method_5_code 9 = .ok (.aload_n 0, 1) := by decide +kernel
theorem d6_10 : decode prog_52_method_5_code 10 = .ok (.dup, 1) := by decide +kernel
theorem d6_11 : decode prog_52_method_5_code 11 = .ok (.getfield 20, 3) := by decide +kernel
theorem d6_14 : decode prog_52_method_5_code 14 = .ok (.dup_x1, 1) := by decide +kernel
theorem d6_15 : decode prog_52_method_5_code 15 = .ok (.iconst 1, 1) := by decide +kernel
theorem d6_16 : decode prog_52_method_5_code 16 = .ok (.iadd, 1) := by decide +kernel
theorem d6_17 : decode prog_52_method_5_code 17 = .ok (.putfield 20, 3) := by decide +kernel
theorem d6_20 : decode prog_52_method_5_code 20 = .ok (.baload, 1) := by decide +kernel
theorem d6_21 : decode prog_52_method_5_code 21 = .ok (.ireturn, 1) := by decide +kernel
theorem ef_br_init (m : MethodId) (x0 : Addr) (x1 : Addr) (x2 : Int32) (x3 : Int32) : entryFrame m #[(.ref x0), (.ref x1), (.int x2), (.int x3)] 4 = mkF m 0 #[.val (.ref x0), .val (.ref x1), .val (.int x2), .val (.int x3)] [] := by first | (simp [entryFrame, mkF, argsToLocals, Value.category]; done) | rfl
set_option maxRecDepth 65536 in
set_option maxHeartbeats 40000000 in
theorem br_init (l : Launch) (Z : State) (a0 : Array Value) (hw : ∀ d ∈ tables_1, d.before a0 Z = true) (a b : Addr) (at_ lim : Int32) (xs : List Int32) (h0 : Heap) (n0 : Nat) (Z0 : n0 ≤ h0.size) (E_a : Exa Z h0 a "com/example/exactor/exactor/sql/ByteReader") (F_bytes_a : Fld Z h0 a "com/example/exactor/exactor/sql/ByteReader" "bytes" "[B" .null) (F_at_a : Fld Z h0 a "com/example/exactor/exactor/sql/ByteReader" "at" "I" (.int 0)) (F_limit_a : Fld Z h0 a "com/example/exactor/exactor/sql/ByteReader" "limit" "I" (.int 0)) (g_a : n0 ≤ a) (A_b : Ai Z h0 b .byte xs) (hl : xs.length = 8) (ne_a_b : a ≠ b) (k1 : ¬ at_ < 0) (k2 : ¬ (8 : Int32) < lim) (k3 : ¬ lim < at_) :
    Con l Z (⟨"com/example/exactor/exactor/sql/ByteReader", "<init>", "([BII)V"⟩ : MethodName) prog_52_method_1_code 4 none [] ({ frames := 1, cells := 0, slots := 0, locals := 12 } : Room) #[(.ref a), (.ref b), (.int at_), (.int lim)] h0 (fun v h L => v = none ∧ Fr n0 L ∧ Keep h0 h [a] ∧ BR Z h a b at_ lim) := by
  refine Con.mk (plainFor_of_name pn0) ?_
  intro p e s m below meth c T0 hx hby hml hown hnm hret hlk hZ X0 e0
  have hown : s.vm.findClass "com/example/exactor/exactor/sql/ByteReader" = some m.cls := hown
  have hnm : meth.name = "<init>" := hnm
  have N0 := Fr.nil n0
  have K0 := Keep.refl h0 [a]
  refine Go.cast (ef_br_init m a b at_ lim) ?_
  refine Go.st (S' := T0.setTop (mkF m 1 #[.val (.ref a), .val (.ref b), .val (.int at_), .val (.int lim)] [(.ref a)])) (fun _ k_ => XS.aloadN X0.here hx rfl (hb hby d1_0) rfl rfl k_) ?_
  obtain ⟨T11, X11, e11, st11⟩ := initO X0 hx hZ hown (w8 hw) (w9 hw) (w10 hw) e0 (g := (mkF m 1 #[.val (.ref a), .val (.ref b), .val (.int at_), .val (.int lim)] [(.ref a)])) rfl (by rw [hml]; rfl) rfl (hb hby d1_1) (by decide) (W := 0) (by show 2 * 0 + _ ≤ _; exact Nat.le_of_eq rfl) (by decide)
  refine Go.st (S' := T11.setTop (mkF m 4 #[.val (.ref a), .val (.ref b), .val (.int at_), .val (.int lim)] [])) (st11) ?_
  refine Go.st (S' := T11.setTop (mkF m 5 #[.val (.ref a), .val (.ref b), .val (.int at_), .val (.int lim)] [(.int at_)])) (fun _ k_ => XS.iloadN X11.here hx rfl (hb hby d1_4) rfl k_) ?_
  refine Go.st (S' := T11.setTop (mkF m 8 #[.val (.ref a), .val (.ref b), .val (.int at_), .val (.int lim)] [])) (fun _ k_ => XS.ifNo X11.here hx rfl (hb hby d1_5) rfl ((if0 _ _).trans (flt (k1)).1) k_) ?_
  refine Go.st (S' := T11.setTop (mkF m 9 #[.val (.ref a), .val (.ref b), .val (.int at_), .val (.int lim)] [(.int lim)])) (fun _ k_ => XS.iloadN X11.here hx rfl (hb hby d1_8) rfl k_) ?_
  refine Go.st (S' := T11.setTop (mkF m 10 #[.val (.ref a), .val (.ref b), .val (.int at_), .val (.int lim)] [(.ref b), (.int lim)])) (fun _ k_ => XS.aloadN X11.here hx rfl (hb hby d1_9) rfl rfl k_) ?_
  refine Go.st (S' := T11.setTop (mkF m 11 #[.val (.ref a), .val (.ref b), .val (.int at_), .val (.int lim)] [(.int (8 : Int32)), (.int lim)])) (A_b.length X11 hx hZ e11 (n := (8 : Int32)) (by rw [hl]; rfl) (g := (mkF m 10 #[.val (.ref a), .val (.ref b), .val (.int at_), .val (.int lim)] [(.ref b), (.int lim)])) rfl rfl (hb hby d1_10)) ?_
  refine Go.st (S' := T11.setTop (mkF m 14 #[.val (.ref a), .val (.ref b), .val (.int at_), .val (.int lim)] [])) (fun _ k_ => XS.icmpNo X11.here hx rfl (hb hby d1_11) rfl (flt (k2)).2.2.1 k_) ?_
  refine Go.st (S' := T11.setTop (mkF m 15 #[.val (.ref a), .val (.ref b), .val (.int at_), .val (.int lim)] [(.int at_)])) (fun _ k_ => XS.iloadN X11.here hx rfl (hb hby d1_14) rfl k_) ?_
  refine Go.st (S' := T11.setTop (mkF m 16 #[.val (.ref a), .val (.ref b), .val (.int at_), .val (.int lim)] [(.int lim), (.int at_)])) (fun _ k_ => XS.iloadN X11.here hx rfl (hb hby d1_15) rfl k_) ?_
  refine Go.st (S' := T11.setTop (mkF m 29 #[.val (.ref a), .val (.ref b), .val (.int at_), .val (.int lim)] [])) (fun _ k_ => XS.icmpYes X11.here hx rfl (pc0 := 16) (pc' := 29) rfl (hb hby d1_16) rfl (flt (k3)).2.2.2 (by decide) (by decide) k_) ?_
  refine Go.st (S' := T11.setTop (mkF m 30 #[.val (.ref a), .val (.ref b), .val (.int at_), .val (.int lim)] [(.ref a)])) (fun _ k_ => XS.aloadN X11.here hx rfl (hb hby d1_29) rfl rfl k_) ?_
  refine Go.st (S' := T11.setTop (mkF m 31 #[.val (.ref a), .val (.ref b), .val (.int at_), .val (.int lim)] [(.ref b), (.ref a)])) (fun _ k_ => XS.aloadN X11.here hx rfl (hb hby d1_30) rfl rfl k_) ?_
  obtain ⟨T12, h12, X12, e12, W12, st12⟩ := putF X11 hx hZ hown (host := "") (Or.inl (w11 hw)) Via.refl e11 F_bytes_a E_a (Or.inr ⟨(w12 hw), rfl, hnm⟩) (w3 hw) (ty := (.array .byte)) (by decide) rfl rfl (g := (mkF m 31 #[.val (.ref a), .val (.ref b), .val (.int at_), .val (.int lim)] [(.ref b), (.ref a)])) rfl rfl (hb hby d1_31)
  replace F_bytes_a := F_bytes_a.same W12
  replace E_a := E_a.wr W12
  replace F_at_a := F_at_a.other W12 (Or.inr (slot_ne (Or.inl (w14 hw)) (Or.inr (w12 hw)) (by decide) (t := .int) (t' := (.array .byte)) (by decide) (by decide)))
  replace F_limit_a := F_limit_a.other W12 (Or.inr (slot_ne (Or.inr (w16 hw)) (Or.inr (w12 hw)) (by decide) (t := .int) (t' := (.array .byte)) (by decide) (by decide)))
  replace A_b := A_b.other W12 (Ne.symm ne_a_b)
  replace Z0 := Nat.le_trans Z0 (Keep.of_wr W12).1
  replace K0 := K0.wr W12 (Or.inl (by simp))
  have N12 := Fr.snoc X12 N0 g_a
  refine Go.st (S' := T12.setTop (mkF m 34 #[.val (.ref a), .val (.ref b), .val (.int at_), .val (.int lim)] [])) (st12) ?_
  refine Go.st (S' := T12.setTop (mkF m 35 #[.val (.ref a), .val (.ref b), .val (.int at_), .val (.int lim)] [(.ref a)])) (fun _ k_ => XS.aloadN X12.here hx rfl (hb hby d1_34) rfl rfl k_) ?_
  refine Go.st (S' := T12.setTop (mkF m 36 #[.val (.ref a), .val (.ref b), .val (.int at_), .val (.int lim)] [(.int at_), (.ref a)])) (fun _ k_ => XS.iloadN X12.here hx rfl (hb hby d1_35) rfl k_) ?_
  obtain ⟨T13, h13, X13, e13, W13, st13⟩ := putF X12 hx hZ hown (host := "") (Or.inl (w13 hw)) Via.refl e12 F_at_a E_a (Or.inl (w14 hw)) (w3 hw) (ty := .int) (by decide) rfl rfl (g := (mkF m 36 #[.val (.ref a), .val (.ref b), .val (.int at_), .val (.int lim)] [(.int at_), (.ref a)])) rfl rfl (hb hby d1_36)
  replace F_at_a := F_at_a.same W13
  replace E_a := E_a.wr W13
  replace F_bytes_a := F_bytes_a.other W13 (Or.inr (slot_ne (Or.inr (w12 hw)) (Or.inl (w14 hw)) (by decide) (t := (.array .byte)) (t' := .int) (by decide) (by decide)))
  replace F_limit_a := F_limit_a.other W13 (Or.inr (slot_ne (Or.inr (w16 hw)) (Or.inl (w14 hw)) (by decide) (t := .int) (t' := .int) (by decide) (by decide)))
  replace A_b := A_b.other W13 (Ne.symm ne_a_b)
  replace Z0 := Nat.le_trans Z0 (Keep.of_wr W13).1
  replace K0 := K0.wr W13 (Or.inl (by simp))
  have N13 := Fr.snoc X13 N12 g_a
  refine Go.st (S' := T13.setTop (mkF m 39 #[.val (.ref a), .val (.ref b), .val (.int at_), .val (.int lim)] [])) (st13) ?_
  refine Go.st (S' := T13.setTop (mkF m 40 #[.val (.ref a), .val (.ref b), .val (.int at_), .val (.int lim)] [(.ref a)])) (fun _ k_ => XS.aloadN X13.here hx rfl (hb hby d1_39) rfl rfl k_) ?_
  refine Go.st (S' := T13.setTop (mkF m 41 #[.val (.ref a), .val (.ref b), .val (.int at_), .val (.int lim)] [(.int lim), (.ref a)])) (fun _ k_ => XS.iloadN X13.here hx rfl (hb hby d1_40) rfl k_) ?_
  obtain ⟨T14, h14, X14, e14, W14, st14⟩ := putF X13 hx hZ hown (host := "") (Or.inl (w15 hw)) Via.refl e13 F_limit_a E_a (Or.inr ⟨(w16 hw), rfl, hnm⟩) (w3 hw) (ty := .int) (by decide) rfl rfl (g := (mkF m 41 #[.val (.ref a), .val (.ref b), .val (.int at_), .val (.int lim)] [(.int lim), (.ref a)])) rfl rfl (hb hby d1_41)
  replace F_limit_a := F_limit_a.same W14
  replace E_a := E_a.wr W14
  replace F_bytes_a := F_bytes_a.other W14 (Or.inr (slot_ne (Or.inr (w12 hw)) (Or.inr (w16 hw)) (by decide) (t := (.array .byte)) (t' := .int) (by decide) (by decide)))
  replace F_at_a := F_at_a.other W14 (Or.inr (slot_ne (Or.inl (w14 hw)) (Or.inr (w16 hw)) (by decide) (t := .int) (t' := .int) (by decide) (by decide)))
  replace A_b := A_b.other W14 (Ne.symm ne_a_b)
  replace Z0 := Nat.le_trans Z0 (Keep.of_wr W14).1
  replace K0 := K0.wr W14 (Or.inl (by simp))
  have N14 := Fr.snoc X14 N13 g_a
  refine Go.st (S' := T14.setTop (mkF m 44 #[.val (.ref a), .val (.ref b), .val (.int at_), .val (.int lim)] [])) (st14) ?_
  exact Go.retV X14 hx hret hlk (hb hby d1_44) (by decide) (by decide) (by rw [e14]; exact ⟨rfl, N14, K0, E_a, F_bytes_a, F_at_a, F_limit_a⟩)
theorem ef_br_more (m : MethodId) (x0 : Addr) : entryFrame m #[(.ref x0)] 1 = mkF m 0 #[.val (.ref x0)] [] := by first | (simp [entryFrame, mkF, argsToLocals, Value.category]; done) | rfl
set_option maxRecDepth 65536 in
set_option maxHeartbeats 40000000 in
theorem br_more (l : Launch) (Z : State) (a0 : Array Value) (hw : ∀ d ∈ tables_1, d.before a0 Z = true) (a b : Addr) (at_ lim : Int32) (h0 : Heap) (n0 : Nat) (Z0 : n0 ≤ h0.size) (H : BR Z h0 a b at_ lim) :
    Con l Z (⟨"com/example/exactor/exactor/sql/ByteReader", "more", "()Z"⟩ : MethodName) prog_52_method_4_code 1 (some .boolean) [] ({ frames := 0, cells := 0, slots := 0, locals := 0 } : Room) #[(.ref a)] h0 (fun v h L => v = some (.int (if at_ < lim then (1 : Int32) else (0 : Int32))) ∧ Fr n0 L ∧ h = h0) := by
  refine Con.mk (plainFor_of_name pn0) ?_
  intro p e s m below meth c T0 hx hby hml hown hnm hret hlk hZ X0 e0
  have hown : s.vm.findClass "com/example/exactor/exactor/sql/ByteReader" = some m.cls := hown
  have hnm : meth.name = "more" := hnm
  have N0 := Fr.nil n0
  refine Go.cast (ef_br_more m a) ?_
  obtain ⟨E_a, F_bytes_a, F_at_a, F_limit_a⟩ := H
  refine Go.st (S' := T0.setTop (mkF m 1 #[.val (.ref a)] [(.ref a)])) (fun _ k_ => XS.aloadN X0.here hx rfl (hb hby d3_0) rfl rfl k_) ?_
  obtain ⟨T11, X11, e11, st11⟩ := getF X0 hx hZ hown (host := "") (Or.inl (w13 hw)) Via.refl e0 F_at_a (g := (mkF m 1 #[.val (.ref a)] [(.ref a)])) rfl rfl (hb hby d3_1)
  refine Go.st (S' := T11.setTop (mkF m 4 #[.val (.ref a)] [(.int at_)])) (st11) ?_
  refine Go.st (S' := T11.setTop (mkF m 5 #[.val (.ref a)] [(.ref a), (.int at_)])) (fun _ k_ => XS.aloadN X11.here hx rfl (hb hby d3_4) rfl rfl k_) ?_
  obtain ⟨T12, X12, e12, st12⟩ := getF X11 hx hZ hown (host := "") (Or.inl (w15 hw)) Via.refl e11 F_limit_a (g := (mkF m 5 #[.val (.ref a)] [(.ref a), (.int at_)])) rfl rfl (hb hby d3_5)
  refine Go.st (S' := T12.setTop (mkF m 8 #[.val (.ref a)] [(.int lim), (.int at_)])) (st12) ?_
  by_cases hc8 : at_ < lim
  · skip
    refine Go.st (S' := T12.setTop (mkF m 11 #[.val (.ref a)] [])) (fun _ k_ => XS.icmpNo X12.here hx rfl (hb hby d3_8) rfl (tlt hc8).2.1 k_) ?_
    refine Go.st (S' := T12.setTop (mkF m 12 #[.val (.ref a)] [(.int (1 : Int32))])) (fun _ k_ => XS.iconst X12.here hx rfl (hb hby d3_11) k_) ?_
    refine Go.st (S' := T12.setTop (mkF m 16 #[.val (.ref a)] [(.int (1 : Int32))])) (fun _ k_ => XS.goto X12.here hx rfl (pc0 := 12) (pc' := 16) rfl (hb hby d3_12) (by decide) (by decide) k_) ?_
    exact Go.retN X12 hx (t := .boolean) hret (by simp) hlk (hb hby d3_16) (by decide) (by decide) (by rw [e12]; exact ⟨by rw [if_pos hc8]; rfl, N0, rfl⟩)
  · skip
    refine Go.st (S' := T12.setTop (mkF m 15 #[.val (.ref a)] [])) (fun _ k_ => XS.icmpYes X12.here hx rfl (pc0 := 8) (pc' := 15) rfl (hb hby d3_8) rfl (flt hc8).2.1 (by decide) (by decide) k_) ?_
    refine Go.st (S' := T12.setTop (mkF m 16 #[.val (.ref a)] [(.int (0 : Int32))])) (fun _ k_ => XS.iconst X12.here hx rfl (hb hby d3_15) k_) ?_
    exact Go.retN X12 hx (t := .boolean) hret (by simp) hlk (hb hby d3_16) (by decide) (by decide) (by rw [e12]; exact ⟨by rw [if_neg hc8]; rfl, N0, rfl⟩)
theorem ef_br_req (m : MethodId) (x0 : Addr) (x1 : Int32) : entryFrame m #[(.ref x0), (.int x1)] 2 = mkF m 0 #[.val (.ref x0), .val (.int x1)] [] := by first | (simp [entryFrame, mkF, argsToLocals, Value.category]; done) | rfl
set_option maxRecDepth 65536 in
set_option maxHeartbeats 40000000 in
theorem br_req (l : Launch) (Z : State) (a0 : Array Value) (hw : ∀ d ∈ tables_1, d.before a0 Z = true) (a b : Addr) (at_ lim : Int32) (k : Int32) (h0 : Heap) (n0 : Nat) (Z0 : n0 ≤ h0.size) (H : BR Z h0 a b at_ lim) (k1 : ¬ k < 0) (k2 : ¬ (lim - at_) < k) :
    Con l Z (⟨"com/example/exactor/exactor/sql/ByteReader", "requireLeft", "(I)V"⟩ : MethodName) prog_52_method_15_code 2 none [] ({ frames := 0, cells := 0, slots := 0, locals := 0 } : Room) #[(.ref a), (.int k)] h0 (fun v h L => v = none ∧ Fr n0 L ∧ h = h0) := by
  refine Con.mk (plainFor_of_name pn0) ?_
  intro p e s m below meth c T0 hx hby hml hown hnm hret hlk hZ X0 e0
  have hown : s.vm.findClass "com/example/exactor/exactor/sql/ByteReader" = some m.cls := hown
  have hnm : meth.name = "requireLeft" := hnm
  have N0 := Fr.nil n0
  refine Go.cast (ef_br_req m a k) ?_
  obtain ⟨E_a, F_bytes_a, F_at_a, F_limit_a⟩ := H
  refine Go.st (S' := T0.setTop (mkF m 1 #[.val (.ref a), .val (.int k)] [(.int k)])) (fun _ k_ => XS.iloadN X0.here hx rfl (hb hby d5_0) rfl k_) ?_
  refine Go.st (S' := T0.setTop (mkF m 4 #[.val (.ref a), .val (.int k)] [])) (fun _ k_ => XS.ifNo X0.here hx rfl (hb hby d5_1) rfl ((if0 _ _).trans (flt (k1)).1) k_) ?_
  refine Go.st (S' := T0.setTop (mkF m 5 #[.val (.ref a), .val (.int k)] [(.int k)])) (fun _ k_ => XS.iloadN X0.here hx rfl (hb hby d5_4) rfl k_) ?_
  refine Go.st (S' := T0.setTop (mkF m 6 #[.val (.ref a), .val (.int k)] [(.ref a), (.int k)])) (fun _ k_ => XS.aloadN X0.here hx rfl (hb hby d5_5) rfl rfl k_) ?_
  obtain ⟨T11, X11, e11, st11⟩ := getF X0 hx hZ hown (host := "") (Or.inl (w15 hw)) Via.refl e0 F_limit_a (g := (mkF m 6 #[.val (.ref a), .val (.int k)] [(.ref a), (.int k)])) rfl rfl (hb hby d5_6)
  refine Go.st (S' := T11.setTop (mkF m 9 #[.val (.ref a), .val (.int k)] [(.int lim), (.int k)])) (st11) ?_
  refine Go.st (S' := T11.setTop (mkF m 10 #[.val (.ref a), .val (.int k)] [(.ref a), (.int lim), (.int k)])) (fun _ k_ => XS.aloadN X11.here hx rfl (hb hby d5_9) rfl rfl k_) ?_
  obtain ⟨T12, X12, e12, st12⟩ := getF X11 hx hZ hown (host := "") (Or.inl (w13 hw)) Via.refl e11 F_at_a (g := (mkF m 10 #[.val (.ref a), .val (.int k)] [(.ref a), (.int lim), (.int k)])) rfl rfl (hb hby d5_10)
  refine Go.st (S' := T12.setTop (mkF m 13 #[.val (.ref a), .val (.int k)] [(.int at_), (.int lim), (.int k)])) (st12) ?_
  refine Go.st (S' := T12.setTop (mkF m 14 #[.val (.ref a), .val (.int k)] [(.int (lim - at_)), (.int k)])) (fun _ k_ => XS.isub X12.here hx rfl (hb hby d5_13) rfl k_) ?_
  refine Go.st (S' := T12.setTop (mkF m 27 #[.val (.ref a), .val (.int k)] [])) (fun _ k_ => XS.icmpYes X12.here hx rfl (pc0 := 14) (pc' := 27) rfl (hb hby d5_14) rfl (flt (k2)).2.2.2 (by decide) (by decide) k_) ?_
  exact Go.retV X12 hx hret hlk (hb hby d5_27) (by decide) (by decide) (by rw [e12]; exact ⟨rfl, N0, rfl⟩)
theorem ef_br_skip (m : MethodId) (x0 : Addr) (x1 : Int32) : entryFrame m #[(.ref x0), (.int x1)] 3 = mkF m 0 #[.val (.ref x0), .val (.int x1), .unset] [] := by first | (simp [entryFrame, mkF, argsToLocals, Value.category]; done) | rfl
set_option maxRecDepth 65536 in
set_option maxHeartbeats 40000000 in
theorem br_skip (l : Launch) (Z : State) (a0 : Array Value) (hw : ∀ d ∈ tables_1, d.before a0 Z = true) (a b : Addr) (at_ lim : Int32) (k : Int32) (h0 : Heap) (n0 : Nat) (Z0 : n0 ≤ h0.size) (H : BR Z h0 a b at_ lim) (k1 : ¬ k < 0) (k2 : ¬ (lim - at_) < k) (g_a : n0 ≤ a) :
    Con l Z (⟨"com/example/exactor/exactor/sql/ByteReader", "skip", "(I)I"⟩ : MethodName) prog_52_method_13_code 3 (some .int) [] ({ frames := 1, cells := 0, slots := 0, locals := 13 } : Room) #[(.ref a), (.int k)] h0 (fun v h L => v = some (.int at_) ∧ Fr n0 L ∧ Keep h0 h [a] ∧ BR Z h a b (at_ + k) lim) := by
  refine Con.mk (plainFor_of_name pn0) ?_
  intro p e s m below meth c T0 hx hby hml hown hnm hret hlk hZ X0 e0
  have hown : s.vm.findClass "com/example/exactor/exactor/sql/ByteReader" = some m.cls := hown
  have hnm : meth.name = "skip" := hnm
  have N0 := Fr.nil n0
  have K0 := Keep.refl h0 [a]
  refine Go.cast (ef_br_skip m a k) ?_
  obtain ⟨E_a, F_bytes_a, F_at_a, F_limit_a⟩ := H
  refine Go.st (S' := T0.setTop (mkF m 1 #[.val (.ref a), .val (.int k), .unset] [(.ref a)])) (fun _ k_ => XS.aloadN X0.here hx rfl (hb hby d4_0) rfl rfl k_) ?_
  refine Go.st (S' := T0.setTop (mkF m 2 #[.val (.ref a), .val (.int k), .unset] [(.int k), (.ref a)])) (fun _ k_ => XS.iloadN X0.here hx rfl (hb hby d4_1) rfl k_) ?_
  obtain ⟨v11, T11, h11, L11, X11, e11, hQ11, st11⟩ := callPr X0 hx hZ hown (w27 hw) (w28 hw) (w3 hw) (w29 hw) (w4 hw) (w30 hw) (by decide) (W := 0) (argsL := [(.int k)]) (rest := []) e0 E_a (br_req l Z a0 hw a b at_ lim k h0 n0 Z0 ⟨E_a, F_bytes_a, F_at_a, F_limit_a⟩ k1 k2) (by decide) (by decide) pd0 rfl (g := (mkF m 2 #[.val (.ref a), .val (.int k), .unset] [(.int k), (.ref a)])) rfl (by rw [hml]; rfl) rfl (by show 2 * 0 + _ ≤ _; exact Nat.le_of_eq rfl) (hb hby d4_2) (by decide) (by decide)
  obtain ⟨rfl, Nq11, hh11⟩ := hQ11
  rw [hh11] at e11
  have N11 := Fr.app N0 Nq11
  refine Go.st (S' := T11.setTop (mkF m 5 #[.val (.ref a), .val (.int k), .unset] [])) (st11) ?_
  refine Go.st (S' := T11.setTop (mkF m 6 #[.val (.ref a), .val (.int k), .unset] [(.ref a)])) (fun _ k_ => XS.aloadN X11.here hx rfl (hb hby d4_5) rfl rfl k_) ?_
  obtain ⟨T12, X12, e12, st12⟩ := getF X11 hx hZ hown (host := "") (Or.inl (w13 hw)) Via.refl e11 F_at_a (g := (mkF m 6 #[.val (.ref a), .val (.int k), .unset] [(.ref a)])) rfl rfl (hb hby d4_6)
  refine Go.st (S' := T12.setTop (mkF m 9 #[.val (.ref a), .val (.int k), .unset] [(.int at_)])) (st12) ?_
  refine Go.st (S' := T12.setTop (mkF m 10 #[.val (.ref a), .val (.int k), .val (.int at_)] [])) (fun _ k_ => XS.istoreN X12.here hx rfl (hb hby d4_9) rfl (l' := #[.val (.ref a), .val (.int k), .val (.int at_)]) rfl k_) ?_
  refine Go.st (S' := T12.setTop (mkF m 11 #[.val (.ref a), .val (.int k), .val (.int at_)] [(.ref a)])) (fun _ k_ => XS.aloadN X12.here hx rfl (hb hby d4_10) rfl rfl k_) ?_
  refine Go.st (S' := T12.setTop (mkF m 12 #[.val (.ref a), .val (.int k), .val (.int at_)] [(.ref a), (.ref a)])) (fun _ k_ => XS.dup X12.here hx rfl (hb hby d4_11) rfl rfl k_) ?_
  obtain ⟨T13, X13, e13, st13⟩ := getF X12 hx hZ hown (host := "") (Or.inl (w13 hw)) Via.refl e12 F_at_a (g := (mkF m 12 #[.val (.ref a), .val (.int k), .val (.int at_)] [(.ref a), (.ref a)])) rfl rfl (hb hby d4_12)
  refine Go.st (S' := T13.setTop (mkF m 15 #[.val (.ref a), .val (.int k), .val (.int at_)] [(.int at_), (.ref a)])) (st13) ?_
  refine Go.st (S' := T13.setTop (mkF m 16 #[.val (.ref a), .val (.int k), .val (.int at_)] [(.int k), (.int at_), (.ref a)])) (fun _ k_ => XS.iloadN X13.here hx rfl (hb hby d4_15) rfl k_) ?_
  refine Go.st (S' := T13.setTop (mkF m 17 #[.val (.ref a), .val (.int k), .val (.int at_)] [(.int (at_ + k)), (.ref a)])) (fun _ k_ => XS.iadd X13.here hx rfl (hb hby d4_16) rfl k_) ?_
  obtain ⟨T14, h14, X14, e14, W14, st14⟩ := putF X13 hx hZ hown (host := "") (Or.inl (w13 hw)) Via.refl e13 F_at_a E_a (Or.inl (w14 hw)) (w3 hw) (ty := .int) (by decide) rfl rfl (g := (mkF m 17 #[.val (.ref a), .val (.int k), .val (.int at_)] [(.int (at_ + k)), (.ref a)])) rfl rfl (hb hby d4_17)
  replace F_at_a := F_at_a.same W14
  replace E_a := E_a.wr W14
  replace F_bytes_a := F_bytes_a.other W14 (Or.inr (slot_ne (Or.inr (w12 hw)) (Or.inl (w14 hw)) (by decide) (t := (.array .byte)) (t' := .int) (by decide) (by decide)))
  replace F_limit_a := F_limit_a.other W14 (Or.inr (slot_ne (Or.inr (w16 hw)) (Or.inl (w14 hw)) (by decide) (t := .int) (t' := .int) (by decide) (by decide)))
  replace Z0 := Nat.le_trans Z0 (Keep.of_wr W14).1
  replace K0 := K0.wr W14 (Or.inl (by simp))
  have N14 := Fr.snoc X14 N11 g_a
  refine Go.st (S' := T14.setTop (mkF m 20 #[.val (.ref a), .val (.int k), .val (.int at_)] [])) (st14) ?_
  refine Go.st (S' := T14.setTop (mkF m 21 #[.val (.ref a), .val (.int k), .val (.int at_)] [(.int at_)])) (fun _ k_ => XS.iloadN X14.here hx rfl (hb hby d4_20) rfl k_) ?_
  exact Go.retI X14 hx hret hlk (hb hby d4_21) (by decide) (by decide) (by rw [e14]; exact ⟨rfl, N14, K0, E_a, F_bytes_a, F_at_a, F_limit_a⟩)
theorem ef_br_get (m : MethodId) (x0 : Addr) : entryFrame m #[(.ref x0)] 1 = mkF m 0 #[.val (.ref x0)] [] := by first | (simp [entryFrame, mkF, argsToLocals, Value.category]; done) | rfl
set_option maxRecDepth 65536 in
set_option maxHeartbeats 40000000 in
theorem br_get (l : Launch) (Z : State) (a0 : Array Value) (hw : ∀ d ∈ tables_1, d.before a0 Z = true) (a b : Addr) (at_ lim : Int32) (xs : List Int32) (x : Int32) (h0 : Heap) (n0 : Nat) (Z0 : n0 ≤ h0.size) (H : BR Z h0 a b at_ lim) (A_b : Ai Z h0 b .byte xs) (ne_a_b : a ≠ b) (k2 : ¬ (lim - at_) < 1) (k3 : ¬ at_ < 0) (hx0 : xs[at_.toNatClampNeg]? = some x) (g_a : n0 ≤ a) :
    Con l Z (⟨"com/example/exactor/exactor/sql/ByteReader", "get", "()B"⟩ : MethodName) prog_52_method_5_code 1 (some .byte) [] ({ frames := 1, cells := 0, slots := 0, locals := 13 } : Room) #[(.ref a)] h0 (fun v h L => v = some (.int x) ∧ Fr n0 L ∧ Keep h0 h [a] ∧ BR Z h a b (at_ + 1) lim) := by
  refine Con.mk (plainFor_of_name pn0) ?_
  intro p e s m below meth c T0 hx hby hml hown hnm hret hlk hZ X0 e0
  have hown : s.vm.findClass "com/example/exactor/exactor/sql/ByteReader" = some m.cls := hown
  have hnm : meth.name = "get" := hnm
  have N0 := Fr.nil n0
  have K0 := Keep.refl h0 [a]
  refine Go.cast (ef_br_get m a) ?_
  obtain ⟨E_a, F_bytes_a, F_at_a, F_limit_a⟩ := H
  refine Go.st (S' := T0.setTop (mkF m 1 #[.val (.ref a)] [(.ref a)])) (fun _ k_ => XS.aloadN X0.here hx rfl (hb hby d6_0) rfl rfl k_) ?_
  refine Go.st (S' := T0.setTop (mkF m 2 #[.val (.ref a)] [(.int (1 : Int32)), (.ref a)])) (fun _ k_ => XS.iconst X0.here hx rfl (hb hby d6_1) k_) ?_
  obtain ⟨v11, T11, h11, L11, X11, e11, hQ11, st11⟩ := callPr X0 hx hZ hown (w27 hw) (w28 hw) (w3 hw) (w29 hw) (w4 hw) (w30 hw) (by decide) (W := 0) (argsL := [(.int (1 : Int32))]) (rest := []) e0 E_a (br_req l Z a0 hw a b at_ lim (1 : Int32) h0 n0 Z0 ⟨E_a, F_bytes_a, F_at_a, F_limit_a⟩ (by decide) k2) (by decide) (by decide) pd0 rfl (g := (mkF m 2 #[.val (.ref a)] [(.int (1 : Int32)), (.ref a)])) rfl (by rw [hml]; rfl) rfl (by show 2 * 0 + _ ≤ _; exact Nat.le_of_eq rfl) (hb hby d6_2) (by decide) (by decide)
  obtain ⟨rfl, Nq11, hh11⟩ := hQ11
  rw [hh11] at e11
  have N11 := Fr.app N0 Nq11
  refine Go.st (S' := T11.setTop (mkF m 5 #[.val (.ref a)] [])) (st11) ?_
  refine Go.st (S' := T11.setTop (mkF m 6 #[.val (.ref a)] [(.ref a)])) (fun _ k_ => XS.aloadN X11.here hx rfl (hb hby d6_5) rfl rfl k_) ?_
  obtain ⟨T12, X12, e12, st12⟩ := getF X11 hx hZ hown (host := "") (Or.inl (w11 hw)) Via.refl e11 F_bytes_a (g := (mkF m 6 #[.val (.ref a)] [(.ref a)])) rfl rfl (hb hby d6_6)
  refine Go.st (S' := T12.setTop (mkF m 9 #[.val (.ref a)] [(.ref b)])) (st12) ?_
  refine Go.st (S' := T12.setTop (mkF m 10 #[.val (.ref a)] [(.ref a), (.ref b)])) (fun _ k_ => XS.aloadN X12.here hx rfl (hb hby d6_9) rfl rfl k_) ?_
  refine Go.st (S' := T12.setTop (mkF m 11 #[.val (.ref a)] [(.ref a), (.ref a), (.ref b)])) (fun _ k_ => XS.dup X12.here hx rfl (hb hby d6_10) rfl rfl k_) ?_
  obtain ⟨T13, X13, e13, st13⟩ := getF X12 hx hZ hown (host := "") (Or.inl (w13 hw)) Via.refl e12 F_at_a (g := (mkF m 11 #[.val (.ref a)] [(.ref a), (.ref a), (.ref b)])) rfl rfl (hb hby d6_11)
  refine Go.st (S' := T13.setTop (mkF m 14 #[.val (.ref a)] [(.int at_), (.ref a), (.ref b)])) (st13) ?_
  refine Go.st (S' := T13.setTop (mkF m 15 #[.val (.ref a)] [(.int at_), (.ref a), (.int at_), (.ref b)])) (fun _ k_ => XS.dupX1 X13.here hx rfl (hb hby d6_14) rfl rfl rfl k_) ?_
  refine Go.st (S' := T13.setTop (mkF m 16 #[.val (.ref a)] [(.int (1 : Int32)), (.int at_), (.ref a), (.int at_), (.ref b)])) (fun _ k_ => XS.iconst X13.here hx rfl (hb hby d6_15) k_) ?_
  refine Go.st (S' := T13.setTop (mkF m 17 #[.val (.ref a)] [(.int (at_ + (1 : Int32))), (.ref a), (.int at_), (.ref b)])) (fun _ k_ => XS.iadd X13.here hx rfl (hb hby d6_16) rfl k_) ?_
  obtain ⟨T14, h14, X14, e14, W14, st14⟩ := putF X13 hx hZ hown (host := "") (Or.inl (w13 hw)) Via.refl e13 F_at_a E_a (Or.inl (w14 hw)) (w3 hw) (ty := .int) (by decide) rfl rfl (g := (mkF m 17 #[.val (.ref a)] [(.int (at_ + (1 : Int32))), (.ref a), (.int at_), (.ref b)])) rfl rfl (hb hby d6_17)
  replace F_at_a := F_at_a.same W14
  replace E_a := E_a.wr W14
  replace F_bytes_a := F_bytes_a.other W14 (Or.inr (slot_ne (Or.inr (w12 hw)) (Or.inl (w14 hw)) (by decide) (t := (.array .byte)) (t' := .int) (by decide) (by decide)))
  replace F_limit_a := F_limit_a.other W14 (Or.inr (slot_ne (Or.inr (w16 hw)) (Or.inl (w14 hw)) (by decide) (t := .int) (t' := .int) (by decide) (by decide)))
  replace A_b := A_b.other W14 (Ne.symm ne_a_b)
  replace Z0 := Nat.le_trans Z0 (Keep.of_wr W14).1
  replace K0 := K0.wr W14 (Or.inl (by simp))
  have N14 := Fr.snoc X14 N11 g_a
  refine Go.st (S' := T14.setTop (mkF m 20 #[.val (.ref a)] [(.int at_), (.ref b)])) (st14) ?_
  refine Go.st (S' := T14.setTop (mkF m 21 #[.val (.ref a)] [(.int x)])) (A_b.bload X14 hx hZ e14 (j := at_) (v := x) k3 hx0 (g := (mkF m 20 #[.val (.ref a)] [(.int at_), (.ref b)])) rfl rfl (hb hby d6_20)) ?_
  exact Go.retN X14 hx (t := .byte) hret (by simp) hlk (hb hby d6_21) (by decide) (by decide) (by rw [e14]; exact ⟨by rw [show nar .byte x = x from own_fitb (A_b.fitsOf hx0)], N14, K0, E_a, F_bytes_a, F_at_a, F_limit_a⟩)
theorem ef_rm0 (m : MethodId) (x0 : Int32) (x1 : Int32) (x2 : Int32) (x3 : Int64) : entryFrame m #[(.int x0), (.int x1), (.int x2), (.long x3)] maxLocals = mkF m 0 #[.val (.int x0), .val (.int x1), .val (.int x2), .val (.long x3), .second, .unset, .unset, .unset, .unset, .unset, .unset, .unset, .unset, .unset, .unset] [] := by first | (simp [entryFrame, mkF, argsToLocals, Value.category, maxLocals]; done) | rfl
set_option maxRecDepth 65536 in
set_option maxHeartbeats 40000000 in
theorem rm0 (l : Launch) (Z : State) (a0 : Array Value) (hw : ∀ d ∈ tables_1, d.before a0 Z = true) (ws : List Jvm.Cond) (p0 : Int32) (p1 : Int32) (p2 : Int32) (q3 : Int64) (h0 : Heap) (n0 : Nat) (Z0 : n0 ≤ h0.size) :
    Con l Z x code maxLocals ret ws room_1 #[(.int p0), (.int p1), (.int p2), (.long q3)] h0 (fun v h L => v = some (.int 1) ∧ Fr n0 L) := by
  refine Con.mk (plainFor_of_name pn1) ?_
  intro p e s m below meth c T0 hx hby hml hown hnm hret hlk hZ X0 e0
  have hret : meth.sig.returnType = some .boolean := hret
  have hml : c.maxLocals = 15 := hml
  have hown : s.vm.findClass "com/example/exactor/exactor/sql/ByteReaderMorePinLaw" = some m.cls := hown
  have hby : c.code = code := hby
  have N0 := Fr.nil n0
  refine Go.cast (ef_rm0 m p0 p1 p2 q3) ?_
  refine Go.st (S' := T0.setTop (mkF m 2 #[.val (.int p0), .val (.int p1), .val (.int p2), .val (.long q3), .second, .unset, .unset, .unset, .unset, .unset, .unset, .unset, .unset, .unset, .unset] [(.int (8 : Int32))])) (fun _ k_ => XS.bipush X0.here hx rfl (hb hby at_0) k_) ?_
  obtain ⟨T11, h11, b11, X11, e11, q11, E11, A11, st11⟩ := Ai.new X0 hx hZ (aty := .byte) (w0 hw) rfl e0 (n := (8 : Int32)) (by decide) 8 (by decide) (by decide) (by decide) (by decide) (g := (mkF m 2 #[.val (.int p0), .val (.int p1), .val (.int p2), .val (.long q3), .second, .unset, .unset, .unset, .unset, .unset, .unset, .unset, .unset, .unset, .unset] [(.int (8 : Int32))])) rfl rfl (hb hby at_2)
  have g_b11 : n0 ≤ b11 := Nat.le_trans Z0 (Nat.le_of_eq q11.symm)
  replace Z0 := Nat.le_trans Z0 E11.1
  have A_b11 : Ai Z h11 b11 .byte [(0 : Int32), (0 : Int32), (0 : Int32), (0 : Int32), (0 : Int32), (0 : Int32), (0 : Int32), (0 : Int32)] := A11
  refine Go.st (S' := T11.setTop (mkF m 4 #[.val (.int p0), .val (.int p1), .val (.int p2), .val (.long q3), .second, .unset, .unset, .unset, .unset, .unset, .unset, .unset, .unset, .unset, .unset] [(.ref b11)])) (st11) ?_
  refine Go.st (S' := T11.setTop (mkF m 6 #[.val (.int p0), .val (.int p1), .val (.int p2), .val (.long q3), .second, .val (.ref b11), .unset, .unset, .unset, .unset, .unset, .unset, .unset, .unset, .unset] [])) (fun _ k_ => XS.astore X11.here hx rfl (hb hby at_4) rfl rfl (l' := #[.val (.int p0), .val (.int p1), .val (.int p2), .val (.long q3), .second, .val (.ref b11), .unset, .unset, .unset, .unset, .unset, .unset, .unset, .unset, .unset]) rfl k_) ?_
  refine Go.st (S' := T11.setTop (mkF m 8 #[.val (.int p0), .val (.int p1), .val (.int p2), .val (.long q3), .second, .val (.ref b11), .unset, .unset, .unset, .unset, .unset, .unset, .unset, .unset, .unset] [(.ref b11)])) (fun _ k_ => XS.aload X11.here hx rfl (hb hby at_6) rfl rfl k_) ?_
  refine Go.st (S' := T11.setTop (mkF m 9 #[.val (.int p0), .val (.int p1), .val (.int p2), .val (.long q3), .second, .val (.ref b11), .unset, .unset, .unset, .unset, .unset, .unset, .unset, .unset, .unset] [(.int (0 : Int32)), (.ref b11)])) (fun _ k_ => XS.iconst X11.here hx rfl (hb hby at_8) k_) ?_
  refine Go.st (S' := T11.setTop (mkF m 10 #[.val (.int p0), .val (.int p1), .val (.int p2), .val (.long q3), .second, .val (.ref b11), .unset, .unset, .unset, .unset, .unset, .unset, .unset, .unset, .unset] [(.long q3), (.int (0 : Int32)), (.ref b11)])) (fun _ k_ => XS.lloadN X11.here hx rfl (hb hby at_9) rfl k_) ?_
  refine Go.st (S' := T11.setTop (mkF m 11 #[.val (.int p0), .val (.int p1), .val (.int p2), .val (.long q3), .second, .val (.ref b11), .unset, .unset, .unset, .unset, .unset, .unset, .unset, .unset, .unset] [(.int (q3.toInt32)), (.int (0 : Int32)), (.ref b11)])) (fun _ k_ => XS.l2i X11.here hx rfl (hb hby at_10) rfl k_) ?_
  refine Go.st (S' := T11.setTop (mkF m 12 #[.val (.int p0), .val (.int p1), .val (.int p2), .val (.long q3), .second, .val (.ref b11), .unset, .unset, .unset, .unset, .unset, .unset, .unset, .unset, .unset] [(.int ((q3.toInt32).toInt8.toInt32)), (.int (0 : Int32)), (.ref b11)])) (fun _ k_ => XS.i2b X11.here hx rfl (hb hby at_11) rfl k_) ?_
  obtain ⟨T12, h12, X12, e12, W12, A12, st12⟩ := A_b11.bstore X11 hx hZ e11 (j := (0 : Int32)) (by decide) (Nat.le_of_ble_eq_true rfl) (g := (mkF m 12 #[.val (.int p0), .val (.int p1), .val (.int p2), .val (.long q3), .second, .val (.ref b11), .unset, .unset, .unset, .unset, .unset, .unset, .unset, .unset, .unset] [(.int ((q3.toInt32).toInt8.toInt32)), (.int (0 : Int32)), (.ref b11)])) rfl rfl (hb hby at_12)
  replace A_b11 : Ai Z h12 b11 .byte [(((q3.toInt32).toInt8.toInt32).toInt8.toInt32), (0 : Int32), (0 : Int32), (0 : Int32), (0 : Int32), (0 : Int32), (0 : Int32), (0 : Int32)] := A12
  rw [show (((q3.toInt32).toInt8.toInt32).toInt8.toInt32) = ((q3.toInt32).toInt8.toInt32) from own_bb _] at A_b11
  replace Z0 := Nat.le_trans Z0 (Keep.of_wr W12).1
  have N12 := Fr.snoc X12 N0 g_b11
  refine Go.st (S' := T12.setTop (mkF m 13 #[.val (.int p0), .val (.int p1), .val (.int p2), .val (.long q3), .second, .val (.ref b11), .unset, .unset, .unset, .unset, .unset, .unset, .unset, .unset, .unset] [])) (st12) ?_
  refine Go.st (S' := T12.setTop (mkF m 15 #[.val (.int p0), .val (.int p1), .val (.int p2), .val (.long q3), .second, .val (.ref b11), .unset, .unset, .unset, .unset, .unset, .unset, .unset, .unset, .unset] [(.ref b11)])) (fun _ k_ => XS.aload X12.here hx rfl (hb hby at_13) rfl rfl k_) ?_
  refine Go.st (S' := T12.setTop (mkF m 16 #[.val (.int p0), .val (.int p1), .val (.int p2), .val (.long q3), .second, .val (.ref b11), .unset, .unset, .unset, .unset, .unset, .unset, .unset, .unset, .unset] [(.int (1 : Int32)), (.ref b11)])) (fun _ k_ => XS.iconst X12.here hx rfl (hb hby at_15) k_) ?_
  refine Go.st (S' := T12.setTop (mkF m 17 #[.val (.int p0), .val (.int p1), .val (.int p2), .val (.long q3), .second, .val (.ref b11), .unset, .unset, .unset, .unset, .unset, .unset, .unset, .unset, .unset] [(.long q3), (.int (1 : Int32)), (.ref b11)])) (fun _ k_ => XS.lloadN X12.here hx rfl (hb hby at_16) rfl k_) ?_
  refine Go.st (S' := T12.setTop (mkF m 19 #[.val (.int p0), .val (.int p1), .val (.int p2), .val (.long q3), .second, .val (.ref b11), .unset, .unset, .unset, .unset, .unset, .unset, .unset, .unset, .unset] [(.int (8 : Int32)), (.long q3), (.int (1 : Int32)), (.ref b11)])) (fun _ k_ => XS.bipush X12.here hx rfl (hb hby at_17) k_) ?_
  refine Go.st (S' := T12.setTop (mkF m 20 #[.val (.int p0), .val (.int p1), .val (.int p2), .val (.long q3), .second, .val (.ref b11), .unset, .unset, .unset, .unset, .unset, .unset, .unset, .unset, .unset] [(.long ((q3.toUInt64 >>> ((8 : Int32) &&& 0x3f).toInt64.toUInt64).toInt64)), (.int (1 : Int32)), (.ref b11)])) (fun _ k_ => XS.lushr X12.here hx rfl (hb hby at_19) rfl k_) ?_
  refine Go.st (S' := T12.setTop (mkF m 21 #[.val (.int p0), .val (.int p1), .val (.int p2), .val (.long q3), .second, .val (.ref b11), .unset, .unset, .unset, .unset, .unset, .unset, .unset, .unset, .unset] [(.int (((q3.toUInt64 >>> ((8 : Int32) &&& 0x3f).toInt64.toUInt64).toInt64).toInt32)), (.int (1 : Int32)), (.ref b11)])) (fun _ k_ => XS.l2i X12.here hx rfl (hb hby at_20) rfl k_) ?_
  refine Go.st (S' := T12.setTop (mkF m 22 #[.val (.int p0), .val (.int p1), .val (.int p2), .val (.long q3), .second, .val (.ref b11), .unset, .unset, .unset, .unset, .unset, .unset, .unset, .unset, .unset] [(.int ((((q3.toUInt64 >>> ((8 : Int32) &&& 0x3f).toInt64.toUInt64).toInt64).toInt32).toInt8.toInt32)), (.int (1 : Int32)), (.ref b11)])) (fun _ k_ => XS.i2b X12.here hx rfl (hb hby at_21) rfl k_) ?_
  obtain ⟨T13, h13, X13, e13, W13, A13, st13⟩ := A_b11.bstore X12 hx hZ e12 (j := (1 : Int32)) (by decide) (Nat.le_of_ble_eq_true rfl) (g := (mkF m 22 #[.val (.int p0), .val (.int p1), .val (.int p2), .val (.long q3), .second, .val (.ref b11), .unset, .unset, .unset, .unset, .unset, .unset, .unset, .unset, .unset] [(.int ((((q3.toUInt64 >>> ((8 : Int32) &&& 0x3f).toInt64.toUInt64).toInt64).toInt32).toInt8.toInt32)), (.int (1 : Int32)), (.ref b11)])) rfl rfl (hb hby at_22)
  replace A_b11 : Ai Z h13 b11 .byte [((q3.toInt32).toInt8.toInt32), (((((q3.toUInt64 >>> ((8 : Int32) &&& 0x3f).toInt64.toUInt64).toInt64).toInt32).toInt8.toInt32).toInt8.toInt32), (0 : Int32), (0 : Int32), (0 : Int32), (0 : Int32), (0 : Int32), (0 : Int32)] := A13
  rw [show (((((q3.toUInt64 >>> ((8 : Int32) &&& 0x3f).toInt64.toUInt64).toInt64).toInt32).toInt8.toInt32).toInt8.toInt32) = ((((q3.toUInt64 >>> ((8 : Int32) &&& 0x3f).toInt64.toUInt64).toInt64).toInt32).toInt8.toInt32) from own_bb _] at A_b11
  replace Z0 := Nat.le_trans Z0 (Keep.of_wr W13).1
  have N13 := Fr.snoc X13 N12 g_b11
  refine Go.st (S' := T13.setTop (mkF m 23 #[.val (.int p0), .val (.int p1), .val (.int p2), .val (.long q3), .second, .val (.ref b11), .unset, .unset, .unset, .unset, .unset, .unset, .unset, .unset, .unset] [])) (st13) ?_
  refine Go.st (S' := T13.setTop (mkF m 25 #[.val (.int p0), .val (.int p1), .val (.int p2), .val (.long q3), .second, .val (.ref b11), .unset, .unset, .unset, .unset, .unset, .unset, .unset, .unset, .unset] [(.ref b11)])) (fun _ k_ => XS.aload X13.here hx rfl (hb hby at_23) rfl rfl k_) ?_
  refine Go.st (S' := T13.setTop (mkF m 26 #[.val (.int p0), .val (.int p1), .val (.int p2), .val (.long q3), .second, .val (.ref b11), .unset, .unset, .unset, .unset, .unset, .unset, .unset, .unset, .unset] [(.int (2 : Int32)), (.ref b11)])) (fun _ k_ => XS.iconst X13.here hx rfl (hb hby at_25) k_) ?_
  refine Go.st (S' := T13.setTop (mkF m 27 #[.val (.int p0), .val (.int p1), .val (.int p2), .val (.long q3), .second, .val (.ref b11), .unset, .unset, .unset, .unset, .unset, .unset, .unset, .unset, .unset] [(.long q3), (.int (2 : Int32)), (.ref b11)])) (fun _ k_ => XS.lloadN X13.here hx rfl (hb hby at_26) rfl k_) ?_
  refine Go.st (S' := T13.setTop (mkF m 29 #[.val (.int p0), .val (.int p1), .val (.int p2), .val (.long q3), .second, .val (.ref b11), .unset, .unset, .unset, .unset, .unset, .unset, .unset, .unset, .unset] [(.int (16 : Int32)), (.long q3), (.int (2 : Int32)), (.ref b11)])) (fun _ k_ => XS.bipush X13.here hx rfl (hb hby at_27) k_) ?_
  refine Go.st (S' := T13.setTop (mkF m 30 #[.val (.int p0), .val (.int p1), .val (.int p2), .val (.long q3), .second, .val (.ref b11), .unset, .unset, .unset, .unset, .unset, .unset, .unset, .unset, .unset] [(.long ((q3.toUInt64 >>> ((16 : Int32) &&& 0x3f).toInt64.toUInt64).toInt64)), (.int (2 : Int32)), (.ref b11)])) (fun _ k_ => XS.lushr X13.here hx rfl (hb hby at_29) rfl k_) ?_
  refine Go.st (S' := T13.setTop (mkF m 31 #[.val (.int p0), .val (.int p1), .val (.int p2), .val (.long q3), .second, .val (.ref b11), .unset, .unset, .unset, .unset, .unset, .unset, .unset, .unset, .unset] [(.int (((q3.toUInt64 >>> ((16 : Int32) &&& 0x3f).toInt64.toUInt64).toInt64).toInt32)), (.int (2 : Int32)), (.ref b11)])) (fun _ k_ => XS.l2i X13.here hx rfl (hb hby at_30) rfl k_) ?_
  refine Go.st (S' := T13.setTop (mkF m 32 #[.val (.int p0), .val (.int p1), .val (.int p2), .val (.long q3), .second, .val (.ref b11), .unset, .unset, .unset, .unset, .unset, .unset, .unset, .unset, .unset] [(.int ((((q3.toUInt64 >>> ((16 : Int32) &&& 0x3f).toInt64.toUInt64).toInt64).toInt32).toInt8.toInt32)), (.int (2 : Int32)), (.ref b11)])) (fun _ k_ => XS.i2b X13.here hx rfl (hb hby at_31) rfl k_) ?_
  obtain ⟨T14, h14, X14, e14, W14, A14, st14⟩ := A_b11.bstore X13 hx hZ e13 (j := (2 : Int32)) (by decide) (Nat.le_of_ble_eq_true rfl) (g := (mkF m 32 #[.val (.int p0), .val (.int p1), .val (.int p2), .val (.long q3), .second, .val (.ref b11), .unset, .unset, .unset, .unset, .unset, .unset, .unset, .unset, .unset] [(.int ((((q3.toUInt64 >>> ((16 : Int32) &&& 0x3f).toInt64.toUInt64).toInt64).toInt32).toInt8.toInt32)), (.int (2 : Int32)), (.ref b11)])) rfl rfl (hb hby at_32)
  replace A_b11 : Ai Z h14 b11 .byte [((q3.toInt32).toInt8.toInt32), ((((q3.toUInt64 >>> ((8 : Int32) &&& 0x3f).toInt64.toUInt64).toInt64).toInt32).toInt8.toInt32), (((((q3.toUInt64 >>> ((16 : Int32) &&& 0x3f).toInt64.toUInt64).toInt64).toInt32).toInt8.toInt32).toInt8.toInt32), (0 : Int32), (0 : Int32), (0 : Int32), (0 : Int32), (0 : Int32)] := A14
  rw [show (((((q3.toUInt64 >>> ((16 : Int32) &&& 0x3f).toInt64.toUInt64).toInt64).toInt32).toInt8.toInt32).toInt8.toInt32) = ((((q3.toUInt64 >>> ((16 : Int32) &&& 0x3f).toInt64.toUInt64).toInt64).toInt32).toInt8.toInt32) from own_bb _] at A_b11
  replace Z0 := Nat.le_trans Z0 (Keep.of_wr W14).1
  have N14 := Fr.snoc X14 N13 g_b11
  refine Go.st (S' := T14.setTop (mkF m 33 #[.val (.int p0), .val (.int p1), .val (.int p2), .val (.long q3), .second, .val (.ref b11), .unset, .unset, .unset, .unset, .unset, .unset, .unset, .unset, .unset] [])) (st14) ?_
  refine Go.st (S' := T14.setTop (mkF m 35 #[.val (.int p0), .val (.int p1), .val (.int p2), .val (.long q3), .second, .val (.ref b11), .unset, .unset, .unset, .unset, .unset, .unset, .unset, .unset, .unset] [(.ref b11)])) (fun _ k_ => XS.aload X14.here hx rfl (hb hby at_33) rfl rfl k_) ?_
  refine Go.st (S' := T14.setTop (mkF m 36 #[.val (.int p0), .val (.int p1), .val (.int p2), .val (.long q3), .second, .val (.ref b11), .unset, .unset, .unset, .unset, .unset, .unset, .unset, .unset, .unset] [(.int (3 : Int32)), (.ref b11)])) (fun _ k_ => XS.iconst X14.here hx rfl (hb hby at_35) k_) ?_
  refine Go.st (S' := T14.setTop (mkF m 37 #[.val (.int p0), .val (.int p1), .val (.int p2), .val (.long q3), .second, .val (.ref b11), .unset, .unset, .unset, .unset, .unset, .unset, .unset, .unset, .unset] [(.long q3), (.int (3 : Int32)), (.ref b11)])) (fun _ k_ => XS.lloadN X14.here hx rfl (hb hby at_36) rfl k_) ?_
  refine Go.st (S' := T14.setTop (mkF m 39 #[.val (.int p0), .val (.int p1), .val (.int p2), .val (.long q3), .second, .val (.ref b11), .unset, .unset, .unset, .unset, .unset, .unset, .unset, .unset, .unset] [(.int (24 : Int32)), (.long q3), (.int (3 : Int32)), (.ref b11)])) (fun _ k_ => XS.bipush X14.here hx rfl (hb hby at_37) k_) ?_
  refine Go.st (S' := T14.setTop (mkF m 40 #[.val (.int p0), .val (.int p1), .val (.int p2), .val (.long q3), .second, .val (.ref b11), .unset, .unset, .unset, .unset, .unset, .unset, .unset, .unset, .unset] [(.long ((q3.toUInt64 >>> ((24 : Int32) &&& 0x3f).toInt64.toUInt64).toInt64)), (.int (3 : Int32)), (.ref b11)])) (fun _ k_ => XS.lushr X14.here hx rfl (hb hby at_39) rfl k_) ?_
  refine Go.st (S' := T14.setTop (mkF m 41 #[.val (.int p0), .val (.int p1), .val (.int p2), .val (.long q3), .second, .val (.ref b11), .unset, .unset, .unset, .unset, .unset, .unset, .unset, .unset, .unset] [(.int (((q3.toUInt64 >>> ((24 : Int32) &&& 0x3f).toInt64.toUInt64).toInt64).toInt32)), (.int (3 : Int32)), (.ref b11)])) (fun _ k_ => XS.l2i X14.here hx rfl (hb hby at_40) rfl k_) ?_
  refine Go.st (S' := T14.setTop (mkF m 42 #[.val (.int p0), .val (.int p1), .val (.int p2), .val (.long q3), .second, .val (.ref b11), .unset, .unset, .unset, .unset, .unset, .unset, .unset, .unset, .unset] [(.int ((((q3.toUInt64 >>> ((24 : Int32) &&& 0x3f).toInt64.toUInt64).toInt64).toInt32).toInt8.toInt32)), (.int (3 : Int32)), (.ref b11)])) (fun _ k_ => XS.i2b X14.here hx rfl (hb hby at_41) rfl k_) ?_
  obtain ⟨T15, h15, X15, e15, W15, A15, st15⟩ := A_b11.bstore X14 hx hZ e14 (j := (3 : Int32)) (by decide) (Nat.le_of_ble_eq_true rfl) (g := (mkF m 42 #[.val (.int p0), .val (.int p1), .val (.int p2), .val (.long q3), .second, .val (.ref b11), .unset, .unset, .unset, .unset, .unset, .unset, .unset, .unset, .unset] [(.int ((((q3.toUInt64 >>> ((24 : Int32) &&& 0x3f).toInt64.toUInt64).toInt64).toInt32).toInt8.toInt32)), (.int (3 : Int32)), (.ref b11)])) rfl rfl (hb hby at_42)
  replace A_b11 : Ai Z h15 b11 .byte [((q3.toInt32).toInt8.toInt32), ((((q3.toUInt64 >>> ((8 : Int32) &&& 0x3f).toInt64.toUInt64).toInt64).toInt32).toInt8.toInt32), ((((q3.toUInt64 >>> ((16 : Int32) &&& 0x3f).toInt64.toUInt64).toInt64).toInt32).toInt8.toInt32), (((((q3.toUInt64 >>> ((24 : Int32) &&& 0x3f).toInt64.toUInt64).toInt64).toInt32).toInt8.toInt32).toInt8.toInt32), (0 : Int32), (0 : Int32), (0 : Int32), (0 : Int32)] := A15
  rw [show (((((q3.toUInt64 >>> ((24 : Int32) &&& 0x3f).toInt64.toUInt64).toInt64).toInt32).toInt8.toInt32).toInt8.toInt32) = ((((q3.toUInt64 >>> ((24 : Int32) &&& 0x3f).toInt64.toUInt64).toInt64).toInt32).toInt8.toInt32) from own_bb _] at A_b11
  replace Z0 := Nat.le_trans Z0 (Keep.of_wr W15).1
  have N15 := Fr.snoc X15 N14 g_b11
  refine Go.st (S' := T15.setTop (mkF m 43 #[.val (.int p0), .val (.int p1), .val (.int p2), .val (.long q3), .second, .val (.ref b11), .unset, .unset, .unset, .unset, .unset, .unset, .unset, .unset, .unset] [])) (st15) ?_
  refine Go.st (S' := T15.setTop (mkF m 45 #[.val (.int p0), .val (.int p1), .val (.int p2), .val (.long q3), .second, .val (.ref b11), .unset, .unset, .unset, .unset, .unset, .unset, .unset, .unset, .unset] [(.ref b11)])) (fun _ k_ => XS.aload X15.here hx rfl (hb hby at_43) rfl rfl k_) ?_
  refine Go.st (S' := T15.setTop (mkF m 46 #[.val (.int p0), .val (.int p1), .val (.int p2), .val (.long q3), .second, .val (.ref b11), .unset, .unset, .unset, .unset, .unset, .unset, .unset, .unset, .unset] [(.int (4 : Int32)), (.ref b11)])) (fun _ k_ => XS.iconst X15.here hx rfl (hb hby at_45) k_) ?_
  refine Go.st (S' := T15.setTop (mkF m 47 #[.val (.int p0), .val (.int p1), .val (.int p2), .val (.long q3), .second, .val (.ref b11), .unset, .unset, .unset, .unset, .unset, .unset, .unset, .unset, .unset] [(.long q3), (.int (4 : Int32)), (.ref b11)])) (fun _ k_ => XS.lloadN X15.here hx rfl (hb hby at_46) rfl k_) ?_
  refine Go.st (S' := T15.setTop (mkF m 49 #[.val (.int p0), .val (.int p1), .val (.int p2), .val (.long q3), .second, .val (.ref b11), .unset, .unset, .unset, .unset, .unset, .unset, .unset, .unset, .unset] [(.int (32 : Int32)), (.long q3), (.int (4 : Int32)), (.ref b11)])) (fun _ k_ => XS.bipush X15.here hx rfl (hb hby at_47) k_) ?_
  refine Go.st (S' := T15.setTop (mkF m 50 #[.val (.int p0), .val (.int p1), .val (.int p2), .val (.long q3), .second, .val (.ref b11), .unset, .unset, .unset, .unset, .unset, .unset, .unset, .unset, .unset] [(.long ((q3.toUInt64 >>> ((32 : Int32) &&& 0x3f).toInt64.toUInt64).toInt64)), (.int (4 : Int32)), (.ref b11)])) (fun _ k_ => XS.lushr X15.here hx rfl (hb hby at_49) rfl k_) ?_
  refine Go.st (S' := T15.setTop (mkF m 51 #[.val (.int p0), .val (.int p1), .val (.int p2), .val (.long q3), .second, .val (.ref b11), .unset, .unset, .unset, .unset, .unset, .unset, .unset, .unset, .unset] [(.int (((q3.toUInt64 >>> ((32 : Int32) &&& 0x3f).toInt64.toUInt64).toInt64).toInt32)), (.int (4 : Int32)), (.ref b11)])) (fun _ k_ => XS.l2i X15.here hx rfl (hb hby at_50) rfl k_) ?_
  refine Go.st (S' := T15.setTop (mkF m 52 #[.val (.int p0), .val (.int p1), .val (.int p2), .val (.long q3), .second, .val (.ref b11), .unset, .unset, .unset, .unset, .unset, .unset, .unset, .unset, .unset] [(.int ((((q3.toUInt64 >>> ((32 : Int32) &&& 0x3f).toInt64.toUInt64).toInt64).toInt32).toInt8.toInt32)), (.int (4 : Int32)), (.ref b11)])) (fun _ k_ => XS.i2b X15.here hx rfl (hb hby at_51) rfl k_) ?_
  obtain ⟨T16, h16, X16, e16, W16, A16, st16⟩ := A_b11.bstore X15 hx hZ e15 (j := (4 : Int32)) (by decide) (Nat.le_of_ble_eq_true rfl) (g := (mkF m 52 #[.val (.int p0), .val (.int p1), .val (.int p2), .val (.long q3), .second, .val (.ref b11), .unset, .unset, .unset, .unset, .unset, .unset, .unset, .unset, .unset] [(.int ((((q3.toUInt64 >>> ((32 : Int32) &&& 0x3f).toInt64.toUInt64).toInt64).toInt32).toInt8.toInt32)), (.int (4 : Int32)), (.ref b11)])) rfl rfl (hb hby at_52)
  replace A_b11 : Ai Z h16 b11 .byte [((q3.toInt32).toInt8.toInt32), ((((q3.toUInt64 >>> ((8 : Int32) &&& 0x3f).toInt64.toUInt64).toInt64).toInt32).toInt8.toInt32), ((((q3.toUInt64 >>> ((16 : Int32) &&& 0x3f).toInt64.toUInt64).toInt64).toInt32).toInt8.toInt32), ((((q3.toUInt64 >>> ((24 : Int32) &&& 0x3f).toInt64.toUInt64).toInt64).toInt32).toInt8.toInt32), (((((q3.toUInt64 >>> ((32 : Int32) &&& 0x3f).toInt64.toUInt64).toInt64).toInt32).toInt8.toInt32).toInt8.toInt32), (0 : Int32), (0 : Int32), (0 : Int32)] := A16
  rw [show (((((q3.toUInt64 >>> ((32 : Int32) &&& 0x3f).toInt64.toUInt64).toInt64).toInt32).toInt8.toInt32).toInt8.toInt32) = ((((q3.toUInt64 >>> ((32 : Int32) &&& 0x3f).toInt64.toUInt64).toInt64).toInt32).toInt8.toInt32) from own_bb _] at A_b11
  replace Z0 := Nat.le_trans Z0 (Keep.of_wr W16).1
  have N16 := Fr.snoc X16 N15 g_b11
  refine Go.st (S' := T16.setTop (mkF m 53 #[.val (.int p0), .val (.int p1), .val (.int p2), .val (.long q3), .second, .val (.ref b11), .unset, .unset, .unset, .unset, .unset, .unset, .unset, .unset, .unset] [])) (st16) ?_
  refine Go.st (S' := T16.setTop (mkF m 55 #[.val (.int p0), .val (.int p1), .val (.int p2), .val (.long q3), .second, .val (.ref b11), .unset, .unset, .unset, .unset, .unset, .unset, .unset, .unset, .unset] [(.ref b11)])) (fun _ k_ => XS.aload X16.here hx rfl (hb hby at_53) rfl rfl k_) ?_
  refine Go.st (S' := T16.setTop (mkF m 56 #[.val (.int p0), .val (.int p1), .val (.int p2), .val (.long q3), .second, .val (.ref b11), .unset, .unset, .unset, .unset, .unset, .unset, .unset, .unset, .unset] [(.int (5 : Int32)), (.ref b11)])) (fun _ k_ => XS.iconst X16.here hx rfl (hb hby at_55) k_) ?_
  refine Go.st (S' := T16.setTop (mkF m 57 #[.val (.int p0), .val (.int p1), .val (.int p2), .val (.long q3), .second, .val (.ref b11), .unset, .unset, .unset, .unset, .unset, .unset, .unset, .unset, .unset] [(.long q3), (.int (5 : Int32)), (.ref b11)])) (fun _ k_ => XS.lloadN X16.here hx rfl (hb hby at_56) rfl k_) ?_
  refine Go.st (S' := T16.setTop (mkF m 59 #[.val (.int p0), .val (.int p1), .val (.int p2), .val (.long q3), .second, .val (.ref b11), .unset, .unset, .unset, .unset, .unset, .unset, .unset, .unset, .unset] [(.int (40 : Int32)), (.long q3), (.int (5 : Int32)), (.ref b11)])) (fun _ k_ => XS.bipush X16.here hx rfl (hb hby at_57) k_) ?_
  refine Go.st (S' := T16.setTop (mkF m 60 #[.val (.int p0), .val (.int p1), .val (.int p2), .val (.long q3), .second, .val (.ref b11), .unset, .unset, .unset, .unset, .unset, .unset, .unset, .unset, .unset] [(.long ((q3.toUInt64 >>> ((40 : Int32) &&& 0x3f).toInt64.toUInt64).toInt64)), (.int (5 : Int32)), (.ref b11)])) (fun _ k_ => XS.lushr X16.here hx rfl (hb hby at_59) rfl k_) ?_
  refine Go.st (S' := T16.setTop (mkF m 61 #[.val (.int p0), .val (.int p1), .val (.int p2), .val (.long q3), .second, .val (.ref b11), .unset, .unset, .unset, .unset, .unset, .unset, .unset, .unset, .unset] [(.int (((q3.toUInt64 >>> ((40 : Int32) &&& 0x3f).toInt64.toUInt64).toInt64).toInt32)), (.int (5 : Int32)), (.ref b11)])) (fun _ k_ => XS.l2i X16.here hx rfl (hb hby at_60) rfl k_) ?_
  refine Go.st (S' := T16.setTop (mkF m 62 #[.val (.int p0), .val (.int p1), .val (.int p2), .val (.long q3), .second, .val (.ref b11), .unset, .unset, .unset, .unset, .unset, .unset, .unset, .unset, .unset] [(.int ((((q3.toUInt64 >>> ((40 : Int32) &&& 0x3f).toInt64.toUInt64).toInt64).toInt32).toInt8.toInt32)), (.int (5 : Int32)), (.ref b11)])) (fun _ k_ => XS.i2b X16.here hx rfl (hb hby at_61) rfl k_) ?_
  obtain ⟨T17, h17, X17, e17, W17, A17, st17⟩ := A_b11.bstore X16 hx hZ e16 (j := (5 : Int32)) (by decide) (Nat.le_of_ble_eq_true rfl) (g := (mkF m 62 #[.val (.int p0), .val (.int p1), .val (.int p2), .val (.long q3), .second, .val (.ref b11), .unset, .unset, .unset, .unset, .unset, .unset, .unset, .unset, .unset] [(.int ((((q3.toUInt64 >>> ((40 : Int32) &&& 0x3f).toInt64.toUInt64).toInt64).toInt32).toInt8.toInt32)), (.int (5 : Int32)), (.ref b11)])) rfl rfl (hb hby at_62)
  replace A_b11 : Ai Z h17 b11 .byte [((q3.toInt32).toInt8.toInt32), ((((q3.toUInt64 >>> ((8 : Int32) &&& 0x3f).toInt64.toUInt64).toInt64).toInt32).toInt8.toInt32), ((((q3.toUInt64 >>> ((16 : Int32) &&& 0x3f).toInt64.toUInt64).toInt64).toInt32).toInt8.toInt32), ((((q3.toUInt64 >>> ((24 : Int32) &&& 0x3f).toInt64.toUInt64).toInt64).toInt32).toInt8.toInt32), ((((q3.toUInt64 >>> ((32 : Int32) &&& 0x3f).toInt64.toUInt64).toInt64).toInt32).toInt8.toInt32), (((((q3.toUInt64 >>> ((40 : Int32) &&& 0x3f).toInt64.toUInt64).toInt64).toInt32).toInt8.toInt32).toInt8.toInt32), (0 : Int32), (0 : Int32)] := A17
  rw [show (((((q3.toUInt64 >>> ((40 : Int32) &&& 0x3f).toInt64.toUInt64).toInt64).toInt32).toInt8.toInt32).toInt8.toInt32) = ((((q3.toUInt64 >>> ((40 : Int32) &&& 0x3f).toInt64.toUInt64).toInt64).toInt32).toInt8.toInt32) from own_bb _] at A_b11
  replace Z0 := Nat.le_trans Z0 (Keep.of_wr W17).1
  have N17 := Fr.snoc X17 N16 g_b11
  refine Go.st (S' := T17.setTop (mkF m 63 #[.val (.int p0), .val (.int p1), .val (.int p2), .val (.long q3), .second, .val (.ref b11), .unset, .unset, .unset, .unset, .unset, .unset, .unset, .unset, .unset] [])) (st17) ?_
  refine Go.st (S' := T17.setTop (mkF m 65 #[.val (.int p0), .val (.int p1), .val (.int p2), .val (.long q3), .second, .val (.ref b11), .unset, .unset, .unset, .unset, .unset, .unset, .unset, .unset, .unset] [(.ref b11)])) (fun _ k_ => XS.aload X17.here hx rfl (hb hby at_63) rfl rfl k_) ?_
  refine Go.st (S' := T17.setTop (mkF m 67 #[.val (.int p0), .val (.int p1), .val (.int p2), .val (.long q3), .second, .val (.ref b11), .unset, .unset, .unset, .unset, .unset, .unset, .unset, .unset, .unset] [(.int (6 : Int32)), (.ref b11)])) (fun _ k_ => XS.bipush X17.here hx rfl (hb hby at_65) k_) ?_
  refine Go.st (S' := T17.setTop (mkF m 68 #[.val (.int p0), .val (.int p1), .val (.int p2), .val (.long q3), .second, .val (.ref b11), .unset, .unset, .unset, .unset, .unset, .unset, .unset, .unset, .unset] [(.long q3), (.int (6 : Int32)), (.ref b11)])) (fun _ k_ => XS.lloadN X17.here hx rfl (hb hby at_67) rfl k_) ?_
  refine Go.st (S' := T17.setTop (mkF m 70 #[.val (.int p0), .val (.int p1), .val (.int p2), .val (.long q3), .second, .val (.ref b11), .unset, .unset, .unset, .unset, .unset, .unset, .unset, .unset, .unset] [(.int (48 : Int32)), (.long q3), (.int (6 : Int32)), (.ref b11)])) (fun _ k_ => XS.bipush X17.here hx rfl (hb hby at_68) k_) ?_
  refine Go.st (S' := T17.setTop (mkF m 71 #[.val (.int p0), .val (.int p1), .val (.int p2), .val (.long q3), .second, .val (.ref b11), .unset, .unset, .unset, .unset, .unset, .unset, .unset, .unset, .unset] [(.long ((q3.toUInt64 >>> ((48 : Int32) &&& 0x3f).toInt64.toUInt64).toInt64)), (.int (6 : Int32)), (.ref b11)])) (fun _ k_ => XS.lushr X17.here hx rfl (hb hby at_70) rfl k_) ?_
  refine Go.st (S' := T17.setTop (mkF m 72 #[.val (.int p0), .val (.int p1), .val (.int p2), .val (.long q3), .second, .val (.ref b11), .unset, .unset, .unset, .unset, .unset, .unset, .unset, .unset, .unset] [(.int (((q3.toUInt64 >>> ((48 : Int32) &&& 0x3f).toInt64.toUInt64).toInt64).toInt32)), (.int (6 : Int32)), (.ref b11)])) (fun _ k_ => XS.l2i X17.here hx rfl (hb hby at_71) rfl k_) ?_
  refine Go.st (S' := T17.setTop (mkF m 73 #[.val (.int p0), .val (.int p1), .val (.int p2), .val (.long q3), .second, .val (.ref b11), .unset, .unset, .unset, .unset, .unset, .unset, .unset, .unset, .unset] [(.int ((((q3.toUInt64 >>> ((48 : Int32) &&& 0x3f).toInt64.toUInt64).toInt64).toInt32).toInt8.toInt32)), (.int (6 : Int32)), (.ref b11)])) (fun _ k_ => XS.i2b X17.here hx rfl (hb hby at_72) rfl k_) ?_
  obtain ⟨T18, h18, X18, e18, W18, A18, st18⟩ := A_b11.bstore X17 hx hZ e17 (j := (6 : Int32)) (by decide) (Nat.le_of_ble_eq_true rfl) (g := (mkF m 73 #[.val (.int p0), .val (.int p1), .val (.int p2), .val (.long q3), .second, .val (.ref b11), .unset, .unset, .unset, .unset, .unset, .unset, .unset, .unset, .unset] [(.int ((((q3.toUInt64 >>> ((48 : Int32) &&& 0x3f).toInt64.toUInt64).toInt64).toInt32).toInt8.toInt32)), (.int (6 : Int32)), (.ref b11)])) rfl rfl (hb hby at_73)
  replace A_b11 : Ai Z h18 b11 .byte [((q3.toInt32).toInt8.toInt32), ((((q3.toUInt64 >>> ((8 : Int32) &&& 0x3f).toInt64.toUInt64).toInt64).toInt32).toInt8.toInt32), ((((q3.toUInt64 >>> ((16 : Int32) &&& 0x3f).toInt64.toUInt64).toInt64).toInt32).toInt8.toInt32), ((((q3.toUInt64 >>> ((24 : Int32) &&& 0x3f).toInt64.toUInt64).toInt64).toInt32).toInt8.toInt32), ((((q3.toUInt64 >>> ((32 : Int32) &&& 0x3f).toInt64.toUInt64).toInt64).toInt32).toInt8.toInt32), ((((q3.toUInt64 >>> ((40 : Int32) &&& 0x3f).toInt64.toUInt64).toInt64).toInt32).toInt8.toInt32), (((((q3.toUInt64 >>> ((48 : Int32) &&& 0x3f).toInt64.toUInt64).toInt64).toInt32).toInt8.toInt32).toInt8.toInt32), (0 : Int32)] := A18
  rw [show (((((q3.toUInt64 >>> ((48 : Int32) &&& 0x3f).toInt64.toUInt64).toInt64).toInt32).toInt8.toInt32).toInt8.toInt32) = ((((q3.toUInt64 >>> ((48 : Int32) &&& 0x3f).toInt64.toUInt64).toInt64).toInt32).toInt8.toInt32) from own_bb _] at A_b11
  replace Z0 := Nat.le_trans Z0 (Keep.of_wr W18).1
  have N18 := Fr.snoc X18 N17 g_b11
  refine Go.st (S' := T18.setTop (mkF m 74 #[.val (.int p0), .val (.int p1), .val (.int p2), .val (.long q3), .second, .val (.ref b11), .unset, .unset, .unset, .unset, .unset, .unset, .unset, .unset, .unset] [])) (st18) ?_
  refine Go.st (S' := T18.setTop (mkF m 76 #[.val (.int p0), .val (.int p1), .val (.int p2), .val (.long q3), .second, .val (.ref b11), .unset, .unset, .unset, .unset, .unset, .unset, .unset, .unset, .unset] [(.ref b11)])) (fun _ k_ => XS.aload X18.here hx rfl (hb hby at_74) rfl rfl k_) ?_
  refine Go.st (S' := T18.setTop (mkF m 78 #[.val (.int p0), .val (.int p1), .val (.int p2), .val (.long q3), .second, .val (.ref b11), .unset, .unset, .unset, .unset, .unset, .unset, .unset, .unset, .unset] [(.int (7 : Int32)), (.ref b11)])) (fun _ k_ => XS.bipush X18.here hx rfl (hb hby at_76) k_) ?_
  refine Go.st (S' := T18.setTop (mkF m 79 #[.val (.int p0), .val (.int p1), .val (.int p2), .val (.long q3), .second, .val (.ref b11), .unset, .unset, .unset, .unset, .unset, .unset, .unset, .unset, .unset] [(.long q3), (.int (7 : Int32)), (.ref b11)])) (fun _ k_ => XS.lloadN X18.here hx rfl (hb hby at_78) rfl k_) ?_
  refine Go.st (S' := T18.setTop (mkF m 81 #[.val (.int p0), .val (.int p1), .val (.int p2), .val (.long q3), .second, .val (.ref b11), .unset, .unset, .unset, .unset, .unset, .unset, .unset, .unset, .unset] [(.int (56 : Int32)), (.long q3), (.int (7 : Int32)), (.ref b11)])) (fun _ k_ => XS.bipush X18.here hx rfl (hb hby at_79) k_) ?_
  refine Go.st (S' := T18.setTop (mkF m 82 #[.val (.int p0), .val (.int p1), .val (.int p2), .val (.long q3), .second, .val (.ref b11), .unset, .unset, .unset, .unset, .unset, .unset, .unset, .unset, .unset] [(.long ((q3.toUInt64 >>> ((56 : Int32) &&& 0x3f).toInt64.toUInt64).toInt64)), (.int (7 : Int32)), (.ref b11)])) (fun _ k_ => XS.lushr X18.here hx rfl (hb hby at_81) rfl k_) ?_
  refine Go.st (S' := T18.setTop (mkF m 83 #[.val (.int p0), .val (.int p1), .val (.int p2), .val (.long q3), .second, .val (.ref b11), .unset, .unset, .unset, .unset, .unset, .unset, .unset, .unset, .unset] [(.int (((q3.toUInt64 >>> ((56 : Int32) &&& 0x3f).toInt64.toUInt64).toInt64).toInt32)), (.int (7 : Int32)), (.ref b11)])) (fun _ k_ => XS.l2i X18.here hx rfl (hb hby at_82) rfl k_) ?_
  refine Go.st (S' := T18.setTop (mkF m 84 #[.val (.int p0), .val (.int p1), .val (.int p2), .val (.long q3), .second, .val (.ref b11), .unset, .unset, .unset, .unset, .unset, .unset, .unset, .unset, .unset] [(.int ((((q3.toUInt64 >>> ((56 : Int32) &&& 0x3f).toInt64.toUInt64).toInt64).toInt32).toInt8.toInt32)), (.int (7 : Int32)), (.ref b11)])) (fun _ k_ => XS.i2b X18.here hx rfl (hb hby at_83) rfl k_) ?_
  obtain ⟨T19, h19, X19, e19, W19, A19, st19⟩ := A_b11.bstore X18 hx hZ e18 (j := (7 : Int32)) (by decide) (Nat.le_of_ble_eq_true rfl) (g := (mkF m 84 #[.val (.int p0), .val (.int p1), .val (.int p2), .val (.long q3), .second, .val (.ref b11), .unset, .unset, .unset, .unset, .unset, .unset, .unset, .unset, .unset] [(.int ((((q3.toUInt64 >>> ((56 : Int32) &&& 0x3f).toInt64.toUInt64).toInt64).toInt32).toInt8.toInt32)), (.int (7 : Int32)), (.ref b11)])) rfl rfl (hb hby at_84)
  replace A_b11 : Ai Z h19 b11 .byte [((q3.toInt32).toInt8.toInt32), ((((q3.toUInt64 >>> ((8 : Int32) &&& 0x3f).toInt64.toUInt64).toInt64).toInt32).toInt8.toInt32), ((((q3.toUInt64 >>> ((16 : Int32) &&& 0x3f).toInt64.toUInt64).toInt64).toInt32).toInt8.toInt32), ((((q3.toUInt64 >>> ((24 : Int32) &&& 0x3f).toInt64.toUInt64).toInt64).toInt32).toInt8.toInt32), ((((q3.toUInt64 >>> ((32 : Int32) &&& 0x3f).toInt64.toUInt64).toInt64).toInt32).toInt8.toInt32), ((((q3.toUInt64 >>> ((40 : Int32) &&& 0x3f).toInt64.toUInt64).toInt64).toInt32).toInt8.toInt32), ((((q3.toUInt64 >>> ((48 : Int32) &&& 0x3f).toInt64.toUInt64).toInt64).toInt32).toInt8.toInt32), (((((q3.toUInt64 >>> ((56 : Int32) &&& 0x3f).toInt64.toUInt64).toInt64).toInt32).toInt8.toInt32).toInt8.toInt32)] := A19
  rw [show (((((q3.toUInt64 >>> ((56 : Int32) &&& 0x3f).toInt64.toUInt64).toInt64).toInt32).toInt8.toInt32).toInt8.toInt32) = ((((q3.toUInt64 >>> ((56 : Int32) &&& 0x3f).toInt64.toUInt64).toInt64).toInt32).toInt8.toInt32) from own_bb _] at A_b11
  replace Z0 := Nat.le_trans Z0 (Keep.of_wr W19).1
  have N19 := Fr.snoc X19 N18 g_b11
  refine Go.st (S' := T19.setTop (mkF m 85 #[.val (.int p0), .val (.int p1), .val (.int p2), .val (.long q3), .second, .val (.ref b11), .unset, .unset, .unset, .unset, .unset, .unset, .unset, .unset, .unset] [])) (st19) ?_
  refine Go.st (S' := T19.setTop (mkF m 86 #[.val (.int p0), .val (.int p1), .val (.int p2), .val (.long q3), .second, .val (.ref b11), .unset, .unset, .unset, .unset, .unset, .unset, .unset, .unset, .unset] [(.int p0)])) (fun _ k_ => XS.iloadN X19.here hx rfl (hb hby at_85) rfl k_) ?_
  refine Go.st (S' := T19.setTop (mkF m 88 #[.val (.int p0), .val (.int p1), .val (.int p2), .val (.long q3), .second, .val (.ref b11), .unset, .unset, .unset, .unset, .unset, .unset, .unset, .unset, .unset] [(.int (2147483647 : Int32)), (.int p0)])) (X19.ldcInt hx hown (mvT hZ (w1 hw)) (g := (mkF m 86 #[.val (.int p0), .val (.int p1), .val (.int p2), .val (.long q3), .second, .val (.ref b11), .unset, .unset, .unset, .unset, .unset, .unset, .unset, .unset, .unset] [(.int p0)])) rfl (hb hby at_86)) ?_
  refine Go.st (S' := T19.setTop (mkF m 89 #[.val (.int p0), .val (.int p1), .val (.int p2), .val (.long q3), .second, .val (.ref b11), .unset, .unset, .unset, .unset, .unset, .unset, .unset, .unset, .unset] [(.int (p0 &&& (2147483647 : Int32)))])) (fun _ k_ => XS.iand X19.here hx rfl (hb hby at_88) rfl k_) ?_
  refine Go.st (S' := T19.setTop (mkF m 91 #[.val (.int p0), .val (.int p1), .val (.int p2), .val (.long q3), .second, .val (.ref b11), .unset, .unset, .unset, .unset, .unset, .unset, .unset, .unset, .unset] [(.int (9 : Int32)), (.int (p0 &&& (2147483647 : Int32)))])) (fun _ k_ => XS.bipush X19.here hx rfl (hb hby at_89) k_) ?_
  refine Go.st (S' := T19.setTop (mkF m 92 #[.val (.int p0), .val (.int p1), .val (.int p2), .val (.long q3), .second, .val (.ref b11), .unset, .unset, .unset, .unset, .unset, .unset, .unset, .unset, .unset] [(.int ((p0 &&& (2147483647 : Int32)) % (9 : Int32)))])) (fun _ k_ => iremM X19 hx rfl (hb hby at_91) rfl (by decide) k_) ?_
  have r1 := own_mod p0 9 (by decide)
  rw [show (9 : Int32).toInt = 9 from rfl] at r1
  obtain ⟨fr, q_fr⟩ : ∃ z : Int32, z = ((p0 &&& (2147483647 : Int32)) % (9 : Int32)) := ⟨_, rfl⟩
  rw [← q_fr]
  rw [← q_fr] at r1
  refine Go.st (S' := T19.setTop (mkF m 94 #[.val (.int p0), .val (.int p1), .val (.int p2), .val (.long q3), .second, .val (.ref b11), .val (.int fr), .unset, .unset, .unset, .unset, .unset, .unset, .unset, .unset] [])) (fun _ k_ => XS.istore X19.here hx rfl (hb hby at_92) rfl (l' := #[.val (.int p0), .val (.int p1), .val (.int p2), .val (.long q3), .second, .val (.ref b11), .val (.int fr), .unset, .unset, .unset, .unset, .unset, .unset, .unset, .unset]) rfl k_) ?_
  refine Go.st (S' := T19.setTop (mkF m 96 #[.val (.int p0), .val (.int p1), .val (.int p2), .val (.long q3), .second, .val (.ref b11), .val (.int fr), .unset, .unset, .unset, .unset, .unset, .unset, .unset, .unset] [(.int fr)])) (fun _ k_ => XS.iload X19.here hx rfl (hb hby at_94) rfl k_) ?_
  refine Go.st (S' := T19.setTop (mkF m 97 #[.val (.int p0), .val (.int p1), .val (.int p2), .val (.long q3), .second, .val (.ref b11), .val (.int fr), .unset, .unset, .unset, .unset, .unset, .unset, .unset, .unset] [(.int p1), (.int fr)])) (fun _ k_ => XS.iloadN X19.here hx rfl (hb hby at_96) rfl k_) ?_
  refine Go.st (S' := T19.setTop (mkF m 99 #[.val (.int p0), .val (.int p1), .val (.int p2), .val (.long q3), .second, .val (.ref b11), .val (.int fr), .unset, .unset, .unset, .unset, .unset, .unset, .unset, .unset] [(.int (2147483647 : Int32)), (.int p1), (.int fr)])) (X19.ldcInt hx hown (mvT hZ (w1 hw)) (g := (mkF m 97 #[.val (.int p0), .val (.int p1), .val (.int p2), .val (.long q3), .second, .val (.ref b11), .val (.int fr), .unset, .unset, .unset, .unset, .unset, .unset, .unset, .unset] [(.int p1), (.int fr)])) rfl (hb hby at_97)) ?_
  refine Go.st (S' := T19.setTop (mkF m 100 #[.val (.int p0), .val (.int p1), .val (.int p2), .val (.long q3), .second, .val (.ref b11), .val (.int fr), .unset, .unset, .unset, .unset, .unset, .unset, .unset, .unset] [(.int (p1 &&& (2147483647 : Int32))), (.int fr)])) (fun _ k_ => XS.iand X19.here hx rfl (hb hby at_99) rfl k_) ?_
  refine Go.st (S' := T19.setTop (mkF m 102 #[.val (.int p0), .val (.int p1), .val (.int p2), .val (.long q3), .second, .val (.ref b11), .val (.int fr), .unset, .unset, .unset, .unset, .unset, .unset, .unset, .unset] [(.int (9 : Int32)), (.int (p1 &&& (2147483647 : Int32))), (.int fr)])) (fun _ k_ => XS.bipush X19.here hx rfl (hb hby at_100) k_) ?_
  refine Go.st (S' := T19.setTop (mkF m 104 #[.val (.int p0), .val (.int p1), .val (.int p2), .val (.long q3), .second, .val (.ref b11), .val (.int fr), .unset, .unset, .unset, .unset, .unset, .unset, .unset, .unset] [(.int fr), (.int (9 : Int32)), (.int (p1 &&& (2147483647 : Int32))), (.int fr)])) (fun _ k_ => XS.iload X19.here hx rfl (hb hby at_102) rfl k_) ?_
  refine Go.st (S' := T19.setTop (mkF m 105 #[.val (.int p0), .val (.int p1), .val (.int p2), .val (.long q3), .second, .val (.ref b11), .val (.int fr), .unset, .unset, .unset, .unset, .unset, .unset, .unset, .unset] [(.int ((9 : Int32) - fr)), (.int (p1 &&& (2147483647 : Int32))), (.int fr)])) (fun _ k_ => XS.isub X19.here hx rfl (hb hby at_104) rfl k_) ?_
  have s1 : ((9 : Int32) - fr).toInt = 9 - fr.toInt := own_sub 9 fr r1.1 (by rw [show (9 : Int32).toInt = 9 from rfl]; omega)
  have nz1 : ¬ ((9 : Int32) - fr) = 0 := fun q => by have q := congrArg Int32.toInt q; rw [s1, show (0 : Int32).toInt = 0 from rfl] at q; omega
  have r2 := own_mod p1 ((9 : Int32) - fr) (by rw [s1]; omega)
  rw [s1] at r2
  refine Go.st (S' := T19.setTop (mkF m 106 #[.val (.int p0), .val (.int p1), .val (.int p2), .val (.long q3), .second, .val (.ref b11), .val (.int fr), .unset, .unset, .unset, .unset, .unset, .unset, .unset, .unset] [(.int ((p1 &&& (2147483647 : Int32)) % ((9 : Int32) - fr))), (.int fr)])) (fun _ k_ => iremM X19 hx rfl (hb hby at_105) rfl nz1 k_) ?_
  refine Go.st (S' := T19.setTop (mkF m 107 #[.val (.int p0), .val (.int p1), .val (.int p2), .val (.long q3), .second, .val (.ref b11), .val (.int fr), .unset, .unset, .unset, .unset, .unset, .unset, .unset, .unset] [(.int (fr + ((p1 &&& (2147483647 : Int32)) % ((9 : Int32) - fr))))])) (fun _ k_ => XS.iadd X19.here hx rfl (hb hby at_106) rfl k_) ?_
  have s2 := own_add fr ((p1 &&& (2147483647 : Int32)) % ((9 : Int32) - fr)) r1.1 r2.1 (by omega)
  have r3 : fr.toInt ≤ (fr + ((p1 &&& (2147483647 : Int32)) % ((9 : Int32) - fr))).toInt ∧ (fr + ((p1 &&& (2147483647 : Int32)) % ((9 : Int32) - fr))).toInt ≤ 8 := by omega
  obtain ⟨tt, q_tt⟩ : ∃ z : Int32, z = (fr + ((p1 &&& (2147483647 : Int32)) % ((9 : Int32) - fr))) := ⟨_, rfl⟩
  rw [← q_tt]
  rw [← q_tt] at r3
  clear s2 r2
  refine Go.st (S' := T19.setTop (mkF m 109 #[.val (.int p0), .val (.int p1), .val (.int p2), .val (.long q3), .second, .val (.ref b11), .val (.int fr), .val (.int tt), .unset, .unset, .unset, .unset, .unset, .unset, .unset] [])) (fun _ k_ => XS.istore X19.here hx rfl (hb hby at_107) rfl (l' := #[.val (.int p0), .val (.int p1), .val (.int p2), .val (.long q3), .second, .val (.ref b11), .val (.int fr), .val (.int tt), .unset, .unset, .unset, .unset, .unset, .unset, .unset]) rfl k_) ?_
  refine Go.st (S' := T19.setTop (mkF m 110 #[.val (.int p0), .val (.int p1), .val (.int p2), .val (.long q3), .second, .val (.ref b11), .val (.int fr), .val (.int tt), .unset, .unset, .unset, .unset, .unset, .unset, .unset] [(.int p2)])) (fun _ k_ => XS.iloadN X19.here hx rfl (hb hby at_109) rfl k_) ?_
  refine Go.st (S' := T19.setTop (mkF m 112 #[.val (.int p0), .val (.int p1), .val (.int p2), .val (.long q3), .second, .val (.ref b11), .val (.int fr), .val (.int tt), .unset, .unset, .unset, .unset, .unset, .unset, .unset] [(.int (2147483647 : Int32)), (.int p2)])) (X19.ldcInt hx hown (mvT hZ (w1 hw)) (g := (mkF m 110 #[.val (.int p0), .val (.int p1), .val (.int p2), .val (.long q3), .second, .val (.ref b11), .val (.int fr), .val (.int tt), .unset, .unset, .unset, .unset, .unset, .unset, .unset] [(.int p2)])) rfl (hb hby at_110)) ?_
  refine Go.st (S' := T19.setTop (mkF m 113 #[.val (.int p0), .val (.int p1), .val (.int p2), .val (.long q3), .second, .val (.ref b11), .val (.int fr), .val (.int tt), .unset, .unset, .unset, .unset, .unset, .unset, .unset] [(.int (p2 &&& (2147483647 : Int32)))])) (fun _ k_ => XS.iand X19.here hx rfl (hb hby at_112) rfl k_) ?_
  refine Go.st (S' := T19.setTop (mkF m 115 #[.val (.int p0), .val (.int p1), .val (.int p2), .val (.long q3), .second, .val (.ref b11), .val (.int fr), .val (.int tt), .unset, .unset, .unset, .unset, .unset, .unset, .unset] [(.int tt), (.int (p2 &&& (2147483647 : Int32)))])) (fun _ k_ => XS.iload X19.here hx rfl (hb hby at_113) rfl k_) ?_
  refine Go.st (S' := T19.setTop (mkF m 117 #[.val (.int p0), .val (.int p1), .val (.int p2), .val (.long q3), .second, .val (.ref b11), .val (.int fr), .val (.int tt), .unset, .unset, .unset, .unset, .unset, .unset, .unset] [(.int fr), (.int tt), (.int (p2 &&& (2147483647 : Int32)))])) (fun _ k_ => XS.iload X19.here hx rfl (hb hby at_115) rfl k_) ?_
  refine Go.st (S' := T19.setTop (mkF m 118 #[.val (.int p0), .val (.int p1), .val (.int p2), .val (.long q3), .second, .val (.ref b11), .val (.int fr), .val (.int tt), .unset, .unset, .unset, .unset, .unset, .unset, .unset] [(.int (tt - fr)), (.int (p2 &&& (2147483647 : Int32)))])) (fun _ k_ => XS.isub X19.here hx rfl (hb hby at_117) rfl k_) ?_
  refine Go.st (S' := T19.setTop (mkF m 119 #[.val (.int p0), .val (.int p1), .val (.int p2), .val (.long q3), .second, .val (.ref b11), .val (.int fr), .val (.int tt), .unset, .unset, .unset, .unset, .unset, .unset, .unset] [(.int (1 : Int32)), (.int (tt - fr)), (.int (p2 &&& (2147483647 : Int32)))])) (fun _ k_ => XS.iconst X19.here hx rfl (hb hby at_118) k_) ?_
  refine Go.st (S' := T19.setTop (mkF m 120 #[.val (.int p0), .val (.int p1), .val (.int p2), .val (.long q3), .second, .val (.ref b11), .val (.int fr), .val (.int tt), .unset, .unset, .unset, .unset, .unset, .unset, .unset] [(.int ((tt - fr) + (1 : Int32))), (.int (p2 &&& (2147483647 : Int32)))])) (fun _ k_ => XS.iadd X19.here hx rfl (hb hby at_119) rfl k_) ?_
  have s3 : (tt - fr).toInt = tt.toInt - fr.toInt := own_sub tt fr r1.1 r3.1
  have s4 : ((tt - fr) + (1 : Int32)).toInt = tt.toInt - fr.toInt + 1 := by rw [own_add (tt - fr) 1 (by omega) (by decide) (by rw [show (1 : Int32).toInt = 1 from rfl]; omega), s3]; rfl
  have nz2 : ¬ ((tt - fr) + (1 : Int32)) = 0 := fun q => by have q := congrArg Int32.toInt q; rw [s4, show (0 : Int32).toInt = 0 from rfl] at q; omega
  have r4 := own_mod p2 ((tt - fr) + (1 : Int32)) (by rw [s4]; omega)
  rw [s4] at r4
  refine Go.st (S' := T19.setTop (mkF m 121 #[.val (.int p0), .val (.int p1), .val (.int p2), .val (.long q3), .second, .val (.ref b11), .val (.int fr), .val (.int tt), .unset, .unset, .unset, .unset, .unset, .unset, .unset] [(.int ((p2 &&& (2147483647 : Int32)) % ((tt - fr) + (1 : Int32))))])) (fun _ k_ => iremM X19 hx rfl (hb hby at_120) rfl nz2 k_) ?_
  obtain ⟨k, q_k⟩ : ∃ z : Int32, z = ((p2 &&& (2147483647 : Int32)) % ((tt - fr) + (1 : Int32))) := ⟨_, rfl⟩
  rw [← q_k]
  rw [← q_k] at r4
  have s5 : (tt - fr - k).toInt = tt.toInt - fr.toInt - k.toInt := by rw [own_sub (tt - fr) k r4.1 (by omega), s3]
  have s6 : (fr + k).toInt = fr.toInt + k.toInt := own_add fr k r1.1 r4.1 (by omega)
  have s7 : (tt - (fr + k)).toInt = tt.toInt - (fr.toInt + k.toInt) := by rw [own_sub tt (fr + k) (by omega) (by omega), s6]
  refine Go.st (S' := T19.setTop (mkF m 123 #[.val (.int p0), .val (.int p1), .val (.int p2), .val (.long q3), .second, .val (.ref b11), .val (.int fr), .val (.int tt), .val (.int k), .unset, .unset, .unset, .unset, .unset, .unset] [])) (fun _ k_ => XS.istore X19.here hx rfl (hb hby at_121) rfl (l' := #[.val (.int p0), .val (.int p1), .val (.int p2), .val (.long q3), .second, .val (.ref b11), .val (.int fr), .val (.int tt), .val (.int k), .unset, .unset, .unset, .unset, .unset, .unset]) rfl k_) ?_
  obtain ⟨T20, h20, X20, e20, E20, A20, D20, -, st20⟩ := newO X19 hx hZ hown (w2 hw) (w3 hw) (w4 hw) e19 (g := (mkF m 123 #[.val (.int p0), .val (.int p1), .val (.int p2), .val (.long q3), .second, .val (.ref b11), .val (.int fr), .val (.int tt), .val (.int k), .unset, .unset, .unset, .unset, .unset, .unset] [])) rfl (hb hby at_123) (by decide) (by decide)
  obtain ⟨b20, q20⟩ : ∃ z, z = h19.size := ⟨_, rfl⟩
  rw [← q20] at A20 D20 st20
  have ne_b11_b20 : b11 ≠ b20 := Nat.ne_of_lt (Nat.lt_of_lt_of_le A_b11.lt (Nat.le_of_eq q20.symm))
  have g_b20 : n0 ≤ b20 := Nat.le_trans Z0 (Nat.le_of_eq q20.symm)
  replace A_b11 := A_b11.ext E20
  replace Z0 := Nat.le_trans Z0 E20.1
  have E_b20 := A20
  have F_bytes_b20 : Fld Z h20 b20 "com/example/exactor/exactor/sql/ByteReader" "bytes" "[B" .null := D20 (Or.inr (w12 hw)) (ty := (.array .byte)) (by decide)
  have F_at_b20 : Fld Z h20 b20 "com/example/exactor/exactor/sql/ByteReader" "at" "I" (.int (0 : Int32)) := D20 (Or.inl (w14 hw)) (ty := .int) (by decide)
  have F_limit_b20 : Fld Z h20 b20 "com/example/exactor/exactor/sql/ByteReader" "limit" "I" (.int (0 : Int32)) := D20 (Or.inr (w16 hw)) (ty := .int) (by decide)
  refine Go.st (S' := T20.setTop (mkF m 126 #[.val (.int p0), .val (.int p1), .val (.int p2), .val (.long q3), .second, .val (.ref b11), .val (.int fr), .val (.int tt), .val (.int k), .unset, .unset, .unset, .unset, .unset, .unset] [(.ref b20)])) (st20) ?_
  refine Go.st (S' := T20.setTop (mkF m 127 #[.val (.int p0), .val (.int p1), .val (.int p2), .val (.long q3), .second, .val (.ref b11), .val (.int fr), .val (.int tt), .val (.int k), .unset, .unset, .unset, .unset, .unset, .unset] [(.ref b20), (.ref b20)])) (fun _ k_ => XS.dup X20.here hx rfl (hb hby at_126) rfl rfl k_) ?_
  refine Go.st (S' := T20.setTop (mkF m 129 #[.val (.int p0), .val (.int p1), .val (.int p2), .val (.long q3), .second, .val (.ref b11), .val (.int fr), .val (.int tt), .val (.int k), .unset, .unset, .unset, .unset, .unset, .unset] [(.ref b11), (.ref b20), (.ref b20)])) (fun _ k_ => XS.aload X20.here hx rfl (hb hby at_127) rfl rfl k_) ?_
  refine Go.st (S' := T20.setTop (mkF m 131 #[.val (.int p0), .val (.int p1), .val (.int p2), .val (.long q3), .second, .val (.ref b11), .val (.int fr), .val (.int tt), .val (.int k), .unset, .unset, .unset, .unset, .unset, .unset] [(.int fr), (.ref b11), (.ref b20), (.ref b20)])) (fun _ k_ => XS.iload X20.here hx rfl (hb hby at_129) rfl k_) ?_
  refine Go.st (S' := T20.setTop (mkF m 133 #[.val (.int p0), .val (.int p1), .val (.int p2), .val (.long q3), .second, .val (.ref b11), .val (.int fr), .val (.int tt), .val (.int k), .unset, .unset, .unset, .unset, .unset, .unset] [(.int tt), (.int fr), (.ref b11), (.ref b20), (.ref b20)])) (fun _ k_ => XS.iload X20.here hx rfl (hb hby at_131) rfl k_) ?_
  obtain ⟨v21, T21, h21, L21, X21, e21, hQ21, st21⟩ := callIn X20 hx hZ rfl hown (w5 hw) (w6 hw) (w4 hw) (w7 hw) (by decide) (W := 1) (argsL := [(.ref b11), (.int fr), (.int tt)]) (rest := [(.ref b20)]) e20 (br_init l Z a0 hw b20 b11 fr tt [((q3.toInt32).toInt8.toInt32), ((((q3.toUInt64 >>> ((8 : Int32) &&& 0x3f).toInt64.toUInt64).toInt64).toInt32).toInt8.toInt32), ((((q3.toUInt64 >>> ((16 : Int32) &&& 0x3f).toInt64.toUInt64).toInt64).toInt32).toInt8.toInt32), ((((q3.toUInt64 >>> ((24 : Int32) &&& 0x3f).toInt64.toUInt64).toInt64).toInt32).toInt8.toInt32), ((((q3.toUInt64 >>> ((32 : Int32) &&& 0x3f).toInt64.toUInt64).toInt64).toInt32).toInt8.toInt32), ((((q3.toUInt64 >>> ((40 : Int32) &&& 0x3f).toInt64.toUInt64).toInt64).toInt32).toInt8.toInt32), ((((q3.toUInt64 >>> ((48 : Int32) &&& 0x3f).toInt64.toUInt64).toInt64).toInt32).toInt8.toInt32), ((((q3.toUInt64 >>> ((56 : Int32) &&& 0x3f).toInt64.toUInt64).toInt64).toInt32).toInt8.toInt32)] h20 n0 Z0 E_b20 F_bytes_b20 F_at_b20 F_limit_b20 g_b20 A_b11 rfl (Ne.symm ne_b11_b20) (own_nn r1.1) (by have e0 : (0 : Int32).toInt = 0 := rfl; have e1 : (1 : Int32).toInt = 1 := rfl; have e8 : (8 : Int32).toInt = 8 := rfl; exact fun q => absurd (Int32.lt_iff_toInt_lt.mp q) (by omega)) (by have e0 : (0 : Int32).toInt = 0 := rfl; have e1 : (1 : Int32).toInt = 1 := rfl; have e8 : (8 : Int32).toInt = 8 := rfl; exact fun q => absurd (Int32.lt_iff_toInt_lt.mp q) (by omega))) (by decide) (by decide) pd1 rfl (g := (mkF m 133 #[.val (.int p0), .val (.int p1), .val (.int p2), .val (.long q3), .second, .val (.ref b11), .val (.int fr), .val (.int tt), .val (.int k), .unset, .unset, .unset, .unset, .unset, .unset] [(.int tt), (.int fr), (.ref b11), (.ref b20), (.ref b20)])) rfl (by rw [hml]; rfl) rfl (by show 2 * 0 + _ ≤ _; exact Nat.le_of_eq rfl) (hb hby at_133) (by decide) (by decide)
  obtain ⟨rfl, Nq21, Kq21, BR_b20⟩ := hQ21
  have N21 := Fr.app N19 Nq21
  replace A_b11 := A_b11.keep Kq21 (ninS ne_b11_b20 nin0)
  replace Z0 := Nat.le_trans Z0 Kq21.1
  refine Go.st (S' := T21.setTop (mkF m 136 #[.val (.int p0), .val (.int p1), .val (.int p2), .val (.long q3), .second, .val (.ref b11), .val (.int fr), .val (.int tt), .val (.int k), .unset, .unset, .unset, .unset, .unset, .unset] [(.ref b20)])) (st21) ?_
  refine Go.st (S' := T21.setTop (mkF m 138 #[.val (.int p0), .val (.int p1), .val (.int p2), .val (.long q3), .second, .val (.ref b11), .val (.int fr), .val (.int tt), .val (.int k), .val (.ref b20), .unset, .unset, .unset, .unset, .unset] [])) (fun _ k_ => XS.astore X21.here hx rfl (hb hby at_136) rfl rfl (l' := #[.val (.int p0), .val (.int p1), .val (.int p2), .val (.long q3), .second, .val (.ref b11), .val (.int fr), .val (.int tt), .val (.int k), .val (.ref b20), .unset, .unset, .unset, .unset, .unset]) rfl k_) ?_
  refine Go.st (S' := T21.setTop (mkF m 140 #[.val (.int p0), .val (.int p1), .val (.int p2), .val (.long q3), .second, .val (.ref b11), .val (.int fr), .val (.int tt), .val (.int k), .val (.ref b20), .unset, .unset, .unset, .unset, .unset] [(.ref b20)])) (fun _ k_ => XS.aload X21.here hx rfl (hb hby at_138) rfl rfl k_) ?_
  obtain ⟨v22, T22, h22, L22, X22, e22, hQ22, st22⟩ := callVi X21 hx hZ hown (w17 hw) (w18 hw) (w20 hw) (w19 hw) (w4 hw) (w21 hw) (by decide) (W := 0) (argsL := []) (rest := []) e21 BR_b20.1 (br_more l Z a0 hw b20 b11 fr tt h21 n0 Z0 BR_b20) (by decide) (by decide) pd2 rfl (g := (mkF m 140 #[.val (.int p0), .val (.int p1), .val (.int p2), .val (.long q3), .second, .val (.ref b11), .val (.int fr), .val (.int tt), .val (.int k), .val (.ref b20), .unset, .unset, .unset, .unset, .unset] [(.ref b20)])) rfl (by rw [hml]; rfl) rfl (by show 2 * 0 + _ ≤ _; exact Nat.le_of_eq rfl) (hb hby at_140) (by decide) (by decide)
  obtain ⟨rfl, Nq22, hh22⟩ := hQ22
  rw [hh22] at e22
  have N22 := Fr.app N21 Nq22
  refine Go.st (S' := T22.setTop (mkF m 143 #[.val (.int p0), .val (.int p1), .val (.int p2), .val (.long q3), .second, .val (.ref b11), .val (.int fr), .val (.int tt), .val (.int k), .val (.ref b20), .unset, .unset, .unset, .unset, .unset] [(.int (if fr < tt then (1 : Int32) else (0 : Int32)))])) (st22) ?_
  refine Go.st (S' := T22.setTop (mkF m 145 #[.val (.int p0), .val (.int p1), .val (.int p2), .val (.long q3), .second, .val (.ref b11), .val (.int fr), .val (.int tt), .val (.int k), .val (.ref b20), .unset, .unset, .unset, .unset, .unset] [(.int tt), (.int (if fr < tt then (1 : Int32) else (0 : Int32)))])) (fun _ k_ => XS.iload X22.here hx rfl (hb hby at_143) rfl k_) ?_
  refine Go.st (S' := T22.setTop (mkF m 147 #[.val (.int p0), .val (.int p1), .val (.int p2), .val (.long q3), .second, .val (.ref b11), .val (.int fr), .val (.int tt), .val (.int k), .val (.ref b20), .unset, .unset, .unset, .unset, .unset] [(.int fr), (.int tt), (.int (if fr < tt then (1 : Int32) else (0 : Int32)))])) (fun _ k_ => XS.iload X22.here hx rfl (hb hby at_145) rfl k_) ?_
  refine Go.st (S' := T22.setTop (mkF m 148 #[.val (.int p0), .val (.int p1), .val (.int p2), .val (.long q3), .second, .val (.ref b11), .val (.int fr), .val (.int tt), .val (.int k), .val (.ref b20), .unset, .unset, .unset, .unset, .unset] [(.int (tt - fr)), (.int (if fr < tt then (1 : Int32) else (0 : Int32)))])) (fun _ k_ => XS.isub X22.here hx rfl (hb hby at_147) rfl k_) ?_
  by_cases hc148 : (0 : Int32) < (tt - fr)
  · skip
    refine Go.st (S' := T22.setTop (mkF m 151 #[.val (.int p0), .val (.int p1), .val (.int p2), .val (.long q3), .second, .val (.ref b11), .val (.int fr), .val (.int tt), .val (.int k), .val (.ref b20), .unset, .unset, .unset, .unset, .unset] [(.int (if fr < tt then (1 : Int32) else (0 : Int32)))])) (fun _ k_ => XS.ifNo X22.here hx rfl (hb hby at_148) rfl ((if0 _ _).trans (tlt hc148).2.2.2) k_) ?_
    refine Go.st (S' := T22.setTop (mkF m 152 #[.val (.int p0), .val (.int p1), .val (.int p2), .val (.long q3), .second, .val (.ref b11), .val (.int fr), .val (.int tt), .val (.int k), .val (.ref b20), .unset, .unset, .unset, .unset, .unset] [(.int (1 : Int32)), (.int (if fr < tt then (1 : Int32) else (0 : Int32)))])) (fun _ k_ => XS.iconst X22.here hx rfl (hb hby at_151) k_) ?_
    refine Go.st (S' := T22.setTop (mkF m 156 #[.val (.int p0), .val (.int p1), .val (.int p2), .val (.long q3), .second, .val (.ref b11), .val (.int fr), .val (.int tt), .val (.int k), .val (.ref b20), .unset, .unset, .unset, .unset, .unset] [(.int (1 : Int32)), (.int (if fr < tt then (1 : Int32) else (0 : Int32)))])) (fun _ k_ => XS.goto X22.here hx rfl (pc0 := 152) (pc' := 156) rfl (hb hby at_152) (by decide) (by decide) k_) ?_
    refine Go.st (S' := T22.setTop (mkF m 159 #[.val (.int p0), .val (.int p1), .val (.int p2), .val (.long q3), .second, .val (.ref b11), .val (.int fr), .val (.int tt), .val (.int k), .val (.ref b20), .unset, .unset, .unset, .unset, .unset] [])) (fun _ k_ => XS.icmpNo X22.here hx rfl (hb hby at_156) rfl (teq (if_pos (by have e0 : (0 : Int32).toInt = 0 := rfl; have e1 : (1 : Int32).toInt = 1 := rfl; have e8 : (8 : Int32).toInt = 8 := rfl; have z0 := Int32.lt_iff_toInt_lt.mp hc148; exact Int32.lt_iff_toInt_lt.mpr (by omega)))).2 k_) ?_
    refine Go.st (S' := T22.setTop (mkF m 160 #[.val (.int p0), .val (.int p1), .val (.int p2), .val (.long q3), .second, .val (.ref b11), .val (.int fr), .val (.int tt), .val (.int k), .val (.ref b20), .unset, .unset, .unset, .unset, .unset] [(.int (1 : Int32))])) (fun _ k_ => XS.iconst X22.here hx rfl (hb hby at_159) k_) ?_
    refine Go.st (S' := T22.setTop (mkF m 164 #[.val (.int p0), .val (.int p1), .val (.int p2), .val (.long q3), .second, .val (.ref b11), .val (.int fr), .val (.int tt), .val (.int k), .val (.ref b20), .unset, .unset, .unset, .unset, .unset] [(.int (1 : Int32))])) (fun _ k_ => XS.goto X22.here hx rfl (pc0 := 160) (pc' := 164) rfl (hb hby at_160) (by decide) (by decide) k_) ?_
    refine Go.st (S' := T22.setTop (mkF m 166 #[.val (.int p0), .val (.int p1), .val (.int p2), .val (.long q3), .second, .val (.ref b11), .val (.int fr), .val (.int tt), .val (.int k), .val (.ref b20), .val (.int (1 : Int32)), .unset, .unset, .unset, .unset] [])) (fun _ k_ => XS.istore X22.here hx rfl (hb hby at_164) rfl (l' := #[.val (.int p0), .val (.int p1), .val (.int p2), .val (.long q3), .second, .val (.ref b11), .val (.int fr), .val (.int tt), .val (.int k), .val (.ref b20), .val (.int (1 : Int32)), .unset, .unset, .unset, .unset]) rfl k_) ?_
    refine Go.st (S' := T22.setTop (mkF m 168 #[.val (.int p0), .val (.int p1), .val (.int p2), .val (.long q3), .second, .val (.ref b11), .val (.int fr), .val (.int tt), .val (.int k), .val (.ref b20), .val (.int (1 : Int32)), .unset, .unset, .unset, .unset] [(.ref b20)])) (fun _ k_ => XS.aload X22.here hx rfl (hb hby at_166) rfl rfl k_) ?_
    refine Go.st (S' := T22.setTop (mkF m 170 #[.val (.int p0), .val (.int p1), .val (.int p2), .val (.long q3), .second, .val (.ref b11), .val (.int fr), .val (.int tt), .val (.int k), .val (.ref b20), .val (.int (1 : Int32)), .unset, .unset, .unset, .unset] [(.int k), (.ref b20)])) (fun _ k_ => XS.iload X22.here hx rfl (hb hby at_168) rfl k_) ?_
    obtain ⟨v23, T23, h23, L23, X23, e23, hQ23, st23⟩ := callVi X22 hx hZ hown (w22 hw) (w23 hw) (w25 hw) (w24 hw) (w4 hw) (w26 hw) (by decide) (W := 0) (argsL := [(.int k)]) (rest := []) e22 BR_b20.1 (br_skip l Z a0 hw b20 b11 fr tt k h21 n0 Z0 BR_b20 (own_nn r4.1) (by have e0 : (0 : Int32).toInt = 0 := rfl; have e1 : (1 : Int32).toInt = 1 := rfl; have e8 : (8 : Int32).toInt = 8 := rfl; exact fun q => absurd (Int32.lt_iff_toInt_lt.mp q) (by omega)) g_b20) (by decide) (by decide) pd3 rfl (g := (mkF m 170 #[.val (.int p0), .val (.int p1), .val (.int p2), .val (.long q3), .second, .val (.ref b11), .val (.int fr), .val (.int tt), .val (.int k), .val (.ref b20), .val (.int (1 : Int32)), .unset, .unset, .unset, .unset] [(.int k), (.ref b20)])) rfl (by rw [hml]; rfl) rfl (by show 2 * 0 + _ ≤ _; exact Nat.le_of_eq rfl) (hb hby at_170) (by decide) (by decide)
    obtain ⟨rfl, Nq23, Kq23, BR_b20⟩ := hQ23
    have N23 := Fr.app N22 Nq23
    replace A_b11 := A_b11.keep Kq23 (ninS ne_b11_b20 nin0)
    replace Z0 := Nat.le_trans Z0 Kq23.1
    refine Go.st (S' := T23.setTop (mkF m 173 #[.val (.int p0), .val (.int p1), .val (.int p2), .val (.long q3), .second, .val (.ref b11), .val (.int fr), .val (.int tt), .val (.int k), .val (.ref b20), .val (.int (1 : Int32)), .unset, .unset, .unset, .unset] [(.int fr)])) (st23) ?_
    refine Go.st (S' := T23.setTop (mkF m 174 #[.val (.int p0), .val (.int p1), .val (.int p2), .val (.long q3), .second, .val (.ref b11), .val (.int fr), .val (.int tt), .val (.int k), .val (.ref b20), .val (.int (1 : Int32)), .unset, .unset, .unset, .unset] [])) (fun _ k_ => XS.pop X23.here hx rfl (hb hby at_173) rfl rfl k_) ?_
    refine Go.st (S' := T23.setTop (mkF m 176 #[.val (.int p0), .val (.int p1), .val (.int p2), .val (.long q3), .second, .val (.ref b11), .val (.int fr), .val (.int tt), .val (.int k), .val (.ref b20), .val (.int (1 : Int32)), .unset, .unset, .unset, .unset] [(.int tt)])) (fun _ k_ => XS.iload X23.here hx rfl (hb hby at_174) rfl k_) ?_
    refine Go.st (S' := T23.setTop (mkF m 178 #[.val (.int p0), .val (.int p1), .val (.int p2), .val (.long q3), .second, .val (.ref b11), .val (.int fr), .val (.int tt), .val (.int k), .val (.ref b20), .val (.int (1 : Int32)), .unset, .unset, .unset, .unset] [(.int fr), (.int tt)])) (fun _ k_ => XS.iload X23.here hx rfl (hb hby at_176) rfl k_) ?_
    refine Go.st (S' := T23.setTop (mkF m 179 #[.val (.int p0), .val (.int p1), .val (.int p2), .val (.long q3), .second, .val (.ref b11), .val (.int fr), .val (.int tt), .val (.int k), .val (.ref b20), .val (.int (1 : Int32)), .unset, .unset, .unset, .unset] [(.int (tt - fr))])) (fun _ k_ => XS.isub X23.here hx rfl (hb hby at_178) rfl k_) ?_
    refine Go.st (S' := T23.setTop (mkF m 181 #[.val (.int p0), .val (.int p1), .val (.int p2), .val (.long q3), .second, .val (.ref b11), .val (.int fr), .val (.int tt), .val (.int k), .val (.ref b20), .val (.int (1 : Int32)), .unset, .unset, .unset, .unset] [(.int k), (.int (tt - fr))])) (fun _ k_ => XS.iload X23.here hx rfl (hb hby at_179) rfl k_) ?_
    refine Go.st (S' := T23.setTop (mkF m 182 #[.val (.int p0), .val (.int p1), .val (.int p2), .val (.long q3), .second, .val (.ref b11), .val (.int fr), .val (.int tt), .val (.int k), .val (.ref b20), .val (.int (1 : Int32)), .unset, .unset, .unset, .unset] [(.int ((tt - fr) - k))])) (fun _ k_ => XS.isub X23.here hx rfl (hb hby at_181) rfl k_) ?_
    refine Go.st (S' := T23.setTop (mkF m 184 #[.val (.int p0), .val (.int p1), .val (.int p2), .val (.long q3), .second, .val (.ref b11), .val (.int fr), .val (.int tt), .val (.int k), .val (.ref b20), .val (.int (1 : Int32)), .val (.int ((tt - fr) - k)), .unset, .unset, .unset] [])) (fun _ k_ => XS.istore X23.here hx rfl (hb hby at_182) rfl (l' := #[.val (.int p0), .val (.int p1), .val (.int p2), .val (.long q3), .second, .val (.ref b11), .val (.int fr), .val (.int tt), .val (.int k), .val (.ref b20), .val (.int (1 : Int32)), .val (.int ((tt - fr) - k)), .unset, .unset, .unset]) rfl k_) ?_
    refine Go.st (S' := T23.setTop (mkF m 186 #[.val (.int p0), .val (.int p1), .val (.int p2), .val (.long q3), .second, .val (.ref b11), .val (.int fr), .val (.int tt), .val (.int k), .val (.ref b20), .val (.int (1 : Int32)), .val (.int ((tt - fr) - k)), .unset, .unset, .unset] [(.ref b20)])) (fun _ k_ => XS.aload X23.here hx rfl (hb hby at_184) rfl rfl k_) ?_
    obtain ⟨v24, T24, h24, L24, X24, e24, hQ24, st24⟩ := callVi X23 hx hZ hown (w17 hw) (w18 hw) (w20 hw) (w19 hw) (w4 hw) (w21 hw) (by decide) (W := 0) (argsL := []) (rest := []) e23 BR_b20.1 (br_more l Z a0 hw b20 b11 (fr + k) tt h23 n0 Z0 BR_b20) (by decide) (by decide) pd2 rfl (g := (mkF m 186 #[.val (.int p0), .val (.int p1), .val (.int p2), .val (.long q3), .second, .val (.ref b11), .val (.int fr), .val (.int tt), .val (.int k), .val (.ref b20), .val (.int (1 : Int32)), .val (.int ((tt - fr) - k)), .unset, .unset, .unset] [(.ref b20)])) rfl (by rw [hml]; rfl) rfl (by show 2 * 0 + _ ≤ _; exact Nat.le_of_eq rfl) (hb hby at_186) (by decide) (by decide)
    obtain ⟨rfl, Nq24, hh24⟩ := hQ24
    rw [hh24] at e24
    have N24 := Fr.app N23 Nq24
    refine Go.st (S' := T24.setTop (mkF m 189 #[.val (.int p0), .val (.int p1), .val (.int p2), .val (.long q3), .second, .val (.ref b11), .val (.int fr), .val (.int tt), .val (.int k), .val (.ref b20), .val (.int (1 : Int32)), .val (.int ((tt - fr) - k)), .unset, .unset, .unset] [(.int (if (fr + k) < tt then (1 : Int32) else (0 : Int32)))])) (st24) ?_
    refine Go.st (S' := T24.setTop (mkF m 191 #[.val (.int p0), .val (.int p1), .val (.int p2), .val (.long q3), .second, .val (.ref b11), .val (.int fr), .val (.int tt), .val (.int k), .val (.ref b20), .val (.int (1 : Int32)), .val (.int ((tt - fr) - k)), .val (.int (if (fr + k) < tt then (1 : Int32) else (0 : Int32))), .unset, .unset] [])) (fun _ k_ => XS.istore X24.here hx rfl (hb hby at_189) rfl (l' := #[.val (.int p0), .val (.int p1), .val (.int p2), .val (.long q3), .second, .val (.ref b11), .val (.int fr), .val (.int tt), .val (.int k), .val (.ref b20), .val (.int (1 : Int32)), .val (.int ((tt - fr) - k)), .val (.int (if (fr + k) < tt then (1 : Int32) else (0 : Int32))), .unset, .unset]) rfl k_) ?_
    refine Go.st (S' := T24.setTop (mkF m 193 #[.val (.int p0), .val (.int p1), .val (.int p2), .val (.long q3), .second, .val (.ref b11), .val (.int fr), .val (.int tt), .val (.int k), .val (.ref b20), .val (.int (1 : Int32)), .val (.int ((tt - fr) - k)), .val (.int (if (fr + k) < tt then (1 : Int32) else (0 : Int32))), .unset, .unset] [(.int (1 : Int32))])) (fun _ k_ => XS.iload X24.here hx rfl (hb hby at_191) rfl k_) ?_
    refine Go.st (S' := T24.setTop (mkF m 196 #[.val (.int p0), .val (.int p1), .val (.int p2), .val (.long q3), .second, .val (.ref b11), .val (.int fr), .val (.int tt), .val (.int k), .val (.ref b20), .val (.int (1 : Int32)), .val (.int ((tt - fr) - k)), .val (.int (if (fr + k) < tt then (1 : Int32) else (0 : Int32))), .unset, .unset] [])) (fun _ k_ => XS.ifNo X24.here hx rfl (hb hby at_193) rfl ((if0 _ _).trans (feq (by decide)).1) k_) ?_
    refine Go.st (S' := T24.setTop (mkF m 198 #[.val (.int p0), .val (.int p1), .val (.int p2), .val (.long q3), .second, .val (.ref b11), .val (.int fr), .val (.int tt), .val (.int k), .val (.ref b20), .val (.int (1 : Int32)), .val (.int ((tt - fr) - k)), .val (.int (if (fr + k) < tt then (1 : Int32) else (0 : Int32))), .unset, .unset] [(.int (if (fr + k) < tt then (1 : Int32) else (0 : Int32)))])) (fun _ k_ => XS.iload X24.here hx rfl (hb hby at_196) rfl k_) ?_
    refine Go.st (S' := T24.setTop (mkF m 200 #[.val (.int p0), .val (.int p1), .val (.int p2), .val (.long q3), .second, .val (.ref b11), .val (.int fr), .val (.int tt), .val (.int k), .val (.ref b20), .val (.int (1 : Int32)), .val (.int ((tt - fr) - k)), .val (.int (if (fr + k) < tt then (1 : Int32) else (0 : Int32))), .unset, .unset] [(.int ((tt - fr) - k)), (.int (if (fr + k) < tt then (1 : Int32) else (0 : Int32)))])) (fun _ k_ => XS.iload X24.here hx rfl (hb hby at_198) rfl k_) ?_
    by_cases hc200 : (0 : Int32) < ((tt - fr) - k)
    · skip
      refine Go.st (S' := T24.setTop (mkF m 203 #[.val (.int p0), .val (.int p1), .val (.int p2), .val (.long q3), .second, .val (.ref b11), .val (.int fr), .val (.int tt), .val (.int k), .val (.ref b20), .val (.int (1 : Int32)), .val (.int ((tt - fr) - k)), .val (.int (if (fr + k) < tt then (1 : Int32) else (0 : Int32))), .unset, .unset] [(.int (if (fr + k) < tt then (1 : Int32) else (0 : Int32)))])) (fun _ k_ => XS.ifNo X24.here hx rfl (hb hby at_200) rfl ((if0 _ _).trans (tlt hc200).2.2.2) k_) ?_
      refine Go.st (S' := T24.setTop (mkF m 204 #[.val (.int p0), .val (.int p1), .val (.int p2), .val (.long q3), .second, .val (.ref b11), .val (.int fr), .val (.int tt), .val (.int k), .val (.ref b20), .val (.int (1 : Int32)), .val (.int ((tt - fr) - k)), .val (.int (if (fr + k) < tt then (1 : Int32) else (0 : Int32))), .unset, .unset] [(.int (1 : Int32)), (.int (if (fr + k) < tt then (1 : Int32) else (0 : Int32)))])) (fun _ k_ => XS.iconst X24.here hx rfl (hb hby at_203) k_) ?_
      refine Go.st (S' := T24.setTop (mkF m 208 #[.val (.int p0), .val (.int p1), .val (.int p2), .val (.long q3), .second, .val (.ref b11), .val (.int fr), .val (.int tt), .val (.int k), .val (.ref b20), .val (.int (1 : Int32)), .val (.int ((tt - fr) - k)), .val (.int (if (fr + k) < tt then (1 : Int32) else (0 : Int32))), .unset, .unset] [(.int (1 : Int32)), (.int (if (fr + k) < tt then (1 : Int32) else (0 : Int32)))])) (fun _ k_ => XS.goto X24.here hx rfl (pc0 := 204) (pc' := 208) rfl (hb hby at_204) (by decide) (by decide) k_) ?_
      refine Go.st (S' := T24.setTop (mkF m 211 #[.val (.int p0), .val (.int p1), .val (.int p2), .val (.long q3), .second, .val (.ref b11), .val (.int fr), .val (.int tt), .val (.int k), .val (.ref b20), .val (.int (1 : Int32)), .val (.int ((tt - fr) - k)), .val (.int (if (fr + k) < tt then (1 : Int32) else (0 : Int32))), .unset, .unset] [])) (fun _ k_ => XS.icmpNo X24.here hx rfl (hb hby at_208) rfl (teq (if_pos (by have e0 : (0 : Int32).toInt = 0 := rfl; have e1 : (1 : Int32).toInt = 1 := rfl; have e8 : (8 : Int32).toInt = 8 := rfl; have z0 := Int32.lt_iff_toInt_lt.mp hc200; exact Int32.lt_iff_toInt_lt.mpr (by omega)))).2 k_) ?_
      refine Go.st (S' := T24.setTop (mkF m 212 #[.val (.int p0), .val (.int p1), .val (.int p2), .val (.long q3), .second, .val (.ref b11), .val (.int fr), .val (.int tt), .val (.int k), .val (.ref b20), .val (.int (1 : Int32)), .val (.int ((tt - fr) - k)), .val (.int (if (fr + k) < tt then (1 : Int32) else (0 : Int32))), .unset, .unset] [(.int (1 : Int32))])) (fun _ k_ => XS.iconst X24.here hx rfl (hb hby at_211) k_) ?_
      refine Go.st (S' := T24.setTop (mkF m 216 #[.val (.int p0), .val (.int p1), .val (.int p2), .val (.long q3), .second, .val (.ref b11), .val (.int fr), .val (.int tt), .val (.int k), .val (.ref b20), .val (.int (1 : Int32)), .val (.int ((tt - fr) - k)), .val (.int (if (fr + k) < tt then (1 : Int32) else (0 : Int32))), .unset, .unset] [(.int (1 : Int32))])) (fun _ k_ => XS.goto X24.here hx rfl (pc0 := 212) (pc' := 216) rfl (hb hby at_212) (by decide) (by decide) k_) ?_
      refine Go.st (S' := T24.setTop (mkF m 218 #[.val (.int p0), .val (.int p1), .val (.int p2), .val (.long q3), .second, .val (.ref b11), .val (.int fr), .val (.int tt), .val (.int k), .val (.ref b20), .val (.int (1 : Int32)), .val (.int ((tt - fr) - k)), .val (.int (if (fr + k) < tt then (1 : Int32) else (0 : Int32))), .unset, .unset] [])) (fun _ k_ => XS.istore X24.here hx rfl (hb hby at_216) rfl (l' := #[.val (.int p0), .val (.int p1), .val (.int p2), .val (.long q3), .second, .val (.ref b11), .val (.int fr), .val (.int tt), .val (.int k), .val (.ref b20), .val (.int (1 : Int32)), .val (.int ((tt - fr) - k)), .val (.int (if (fr + k) < tt then (1 : Int32) else (0 : Int32))), .unset, .unset]) rfl k_) ?_
      refine Go.st (S' := T24.setTop (mkF m 220 #[.val (.int p0), .val (.int p1), .val (.int p2), .val (.long q3), .second, .val (.ref b11), .val (.int fr), .val (.int tt), .val (.int k), .val (.ref b20), .val (.int (1 : Int32)), .val (.int ((tt - fr) - k)), .val (.int (if (fr + k) < tt then (1 : Int32) else (0 : Int32))), .unset, .unset] [(.int ((tt - fr) - k))])) (fun _ k_ => XS.iload X24.here hx rfl (hb hby at_218) rfl k_) ?_
      have hc220 := hc200
      refine Go.st (S' := T24.setTop (mkF m 223 #[.val (.int p0), .val (.int p1), .val (.int p2), .val (.long q3), .second, .val (.ref b11), .val (.int fr), .val (.int tt), .val (.int k), .val (.ref b20), .val (.int (1 : Int32)), .val (.int ((tt - fr) - k)), .val (.int (if (fr + k) < tt then (1 : Int32) else (0 : Int32))), .unset, .unset] [])) (fun _ k_ => XS.ifNo X24.here hx rfl (hb hby at_220) rfl ((if0 _ _).trans (tlt (hc200)).2.2.2) k_) ?_
      refine Go.st (S' := T24.setTop (mkF m 225 #[.val (.int p0), .val (.int p1), .val (.int p2), .val (.long q3), .second, .val (.ref b11), .val (.int fr), .val (.int tt), .val (.int k), .val (.ref b20), .val (.int (1 : Int32)), .val (.int ((tt - fr) - k)), .val (.int (if (fr + k) < tt then (1 : Int32) else (0 : Int32))), .unset, .unset] [(.ref b20)])) (fun _ k_ => XS.aload X24.here hx rfl (hb hby at_223) rfl rfl k_) ?_
      have s8 : (fr + k).toInt < 8 := (by have e0 : (0 : Int32).toInt = 0 := rfl; have e1 : (1 : Int32).toInt = 1 := rfl; have e8 : (8 : Int32).toInt = 8 := rfl; have z0 := Int32.lt_iff_toInt_lt.mp hc220; omega)
      obtain ⟨ev, hev⟩ := own_at (xs := [((q3.toInt32).toInt8.toInt32), ((((q3.toUInt64 >>> ((8 : Int32) &&& 0x3f).toInt64.toUInt64).toInt64).toInt32).toInt8.toInt32), ((((q3.toUInt64 >>> ((16 : Int32) &&& 0x3f).toInt64.toUInt64).toInt64).toInt32).toInt8.toInt32), ((((q3.toUInt64 >>> ((24 : Int32) &&& 0x3f).toInt64.toUInt64).toInt64).toInt32).toInt8.toInt32), ((((q3.toUInt64 >>> ((32 : Int32) &&& 0x3f).toInt64.toUInt64).toInt64).toInt32).toInt8.toInt32), ((((q3.toUInt64 >>> ((40 : Int32) &&& 0x3f).toInt64.toUInt64).toInt64).toInt32).toInt8.toInt32), ((((q3.toUInt64 >>> ((48 : Int32) &&& 0x3f).toInt64.toUInt64).toInt64).toInt32).toInt8.toInt32), ((((q3.toUInt64 >>> ((56 : Int32) &&& 0x3f).toInt64.toUInt64).toInt64).toInt32).toInt8.toInt32)]) (own_nat (j := fr + k) (k := 8) (by omega) s8)
      have s9 : ((fr + k) + (1 : Int32)).toInt = fr.toInt + k.toInt + 1 := by rw [own_add (fr + k) 1 (by omega) (by decide) (by rw [show (1 : Int32).toInt = 1 from rfl]; omega), s6]; rfl
      obtain ⟨v25, T25, h25, L25, X25, e25, hQ25, st25⟩ := callVi X24 hx hZ hown (w31 hw) (w32 hw) (w34 hw) (w33 hw) (w4 hw) (w35 hw) (by decide) (W := 0) (argsL := []) (rest := []) e24 BR_b20.1 (br_get l Z a0 hw b20 b11 (fr + k) tt [((q3.toInt32).toInt8.toInt32), ((((q3.toUInt64 >>> ((8 : Int32) &&& 0x3f).toInt64.toUInt64).toInt64).toInt32).toInt8.toInt32), ((((q3.toUInt64 >>> ((16 : Int32) &&& 0x3f).toInt64.toUInt64).toInt64).toInt32).toInt8.toInt32), ((((q3.toUInt64 >>> ((24 : Int32) &&& 0x3f).toInt64.toUInt64).toInt64).toInt32).toInt8.toInt32), ((((q3.toUInt64 >>> ((32 : Int32) &&& 0x3f).toInt64.toUInt64).toInt64).toInt32).toInt8.toInt32), ((((q3.toUInt64 >>> ((40 : Int32) &&& 0x3f).toInt64.toUInt64).toInt64).toInt32).toInt8.toInt32), ((((q3.toUInt64 >>> ((48 : Int32) &&& 0x3f).toInt64.toUInt64).toInt64).toInt32).toInt8.toInt32), ((((q3.toUInt64 >>> ((56 : Int32) &&& 0x3f).toInt64.toUInt64).toInt64).toInt32).toInt8.toInt32)] ev h23 n0 Z0 BR_b20 A_b11 (Ne.symm ne_b11_b20) (by have e0 : (0 : Int32).toInt = 0 := rfl; have e1 : (1 : Int32).toInt = 1 := rfl; have e8 : (8 : Int32).toInt = 8 := rfl; have z0 := Int32.lt_iff_toInt_lt.mp hc220; exact fun q => absurd (Int32.lt_iff_toInt_lt.mp q) (by omega)) (own_nn (by omega)) hev g_b20) (by decide) (by decide) pd4 rfl (g := (mkF m 225 #[.val (.int p0), .val (.int p1), .val (.int p2), .val (.long q3), .second, .val (.ref b11), .val (.int fr), .val (.int tt), .val (.int k), .val (.ref b20), .val (.int (1 : Int32)), .val (.int ((tt - fr) - k)), .val (.int (if (fr + k) < tt then (1 : Int32) else (0 : Int32))), .unset, .unset] [(.ref b20)])) rfl (by rw [hml]; rfl) rfl (by show 2 * 0 + _ ≤ _; exact Nat.le_of_eq rfl) (hb hby at_225) (by decide) (by decide)
      obtain ⟨rfl, Nq25, Kq25, BR_b20⟩ := hQ25
      have N25 := Fr.app N24 Nq25
      replace A_b11 := A_b11.keep Kq25 (ninS ne_b11_b20 nin0)
      replace Z0 := Nat.le_trans Z0 Kq25.1
      refine Go.st (S' := T25.setTop (mkF m 228 #[.val (.int p0), .val (.int p1), .val (.int p2), .val (.long q3), .second, .val (.ref b11), .val (.int fr), .val (.int tt), .val (.int k), .val (.ref b20), .val (.int (1 : Int32)), .val (.int ((tt - fr) - k)), .val (.int (if (fr + k) < tt then (1 : Int32) else (0 : Int32))), .unset, .unset] [(.int ev)])) (st25) ?_
      refine Go.st (S' := T25.setTop (mkF m 230 #[.val (.int p0), .val (.int p1), .val (.int p2), .val (.long q3), .second, .val (.ref b11), .val (.int fr), .val (.int tt), .val (.int k), .val (.ref b20), .val (.int (1 : Int32)), .val (.int ((tt - fr) - k)), .val (.int (if (fr + k) < tt then (1 : Int32) else (0 : Int32))), .val (.int ev), .unset] [])) (fun _ k_ => XS.istore X25.here hx rfl (hb hby at_228) rfl (l' := #[.val (.int p0), .val (.int p1), .val (.int p2), .val (.long q3), .second, .val (.ref b11), .val (.int fr), .val (.int tt), .val (.int k), .val (.ref b20), .val (.int (1 : Int32)), .val (.int ((tt - fr) - k)), .val (.int (if (fr + k) < tt then (1 : Int32) else (0 : Int32))), .val (.int ev), .unset]) rfl k_) ?_
      refine Go.st (S' := T25.setTop (mkF m 232 #[.val (.int p0), .val (.int p1), .val (.int p2), .val (.long q3), .second, .val (.ref b11), .val (.int fr), .val (.int tt), .val (.int k), .val (.ref b20), .val (.int (1 : Int32)), .val (.int ((tt - fr) - k)), .val (.int (if (fr + k) < tt then (1 : Int32) else (0 : Int32))), .val (.int ev), .unset] [(.int (1 : Int32))])) (fun _ k_ => XS.iload X25.here hx rfl (hb hby at_230) rfl k_) ?_
      refine Go.st (S' := T25.setTop (mkF m 235 #[.val (.int p0), .val (.int p1), .val (.int p2), .val (.long q3), .second, .val (.ref b11), .val (.int fr), .val (.int tt), .val (.int k), .val (.ref b20), .val (.int (1 : Int32)), .val (.int ((tt - fr) - k)), .val (.int (if (fr + k) < tt then (1 : Int32) else (0 : Int32))), .val (.int ev), .unset] [])) (fun _ k_ => XS.ifNo X25.here hx rfl (hb hby at_232) rfl ((if0 _ _).trans (feq (by decide)).1) k_) ?_
      refine Go.st (S' := T25.setTop (mkF m 237 #[.val (.int p0), .val (.int p1), .val (.int p2), .val (.long q3), .second, .val (.ref b11), .val (.int fr), .val (.int tt), .val (.int k), .val (.ref b20), .val (.int (1 : Int32)), .val (.int ((tt - fr) - k)), .val (.int (if (fr + k) < tt then (1 : Int32) else (0 : Int32))), .val (.int ev), .unset] [(.int ev)])) (fun _ k_ => XS.iload X25.here hx rfl (hb hby at_235) rfl k_) ?_
      refine Go.st (S' := T25.setTop (mkF m 239 #[.val (.int p0), .val (.int p1), .val (.int p2), .val (.long q3), .second, .val (.ref b11), .val (.int fr), .val (.int tt), .val (.int k), .val (.ref b20), .val (.int (1 : Int32)), .val (.int ((tt - fr) - k)), .val (.int (if (fr + k) < tt then (1 : Int32) else (0 : Int32))), .val (.int ev), .unset] [(.ref b11), (.int ev)])) (fun _ k_ => XS.aload X25.here hx rfl (hb hby at_237) rfl rfl k_) ?_
      refine Go.st (S' := T25.setTop (mkF m 241 #[.val (.int p0), .val (.int p1), .val (.int p2), .val (.long q3), .second, .val (.ref b11), .val (.int fr), .val (.int tt), .val (.int k), .val (.ref b20), .val (.int (1 : Int32)), .val (.int ((tt - fr) - k)), .val (.int (if (fr + k) < tt then (1 : Int32) else (0 : Int32))), .val (.int ev), .unset] [(.int fr), (.ref b11), (.int ev)])) (fun _ k_ => XS.iload X25.here hx rfl (hb hby at_239) rfl k_) ?_
      refine Go.st (S' := T25.setTop (mkF m 243 #[.val (.int p0), .val (.int p1), .val (.int p2), .val (.long q3), .second, .val (.ref b11), .val (.int fr), .val (.int tt), .val (.int k), .val (.ref b20), .val (.int (1 : Int32)), .val (.int ((tt - fr) - k)), .val (.int (if (fr + k) < tt then (1 : Int32) else (0 : Int32))), .val (.int ev), .unset] [(.int k), (.int fr), (.ref b11), (.int ev)])) (fun _ k_ => XS.iload X25.here hx rfl (hb hby at_241) rfl k_) ?_
      refine Go.st (S' := T25.setTop (mkF m 244 #[.val (.int p0), .val (.int p1), .val (.int p2), .val (.long q3), .second, .val (.ref b11), .val (.int fr), .val (.int tt), .val (.int k), .val (.ref b20), .val (.int (1 : Int32)), .val (.int ((tt - fr) - k)), .val (.int (if (fr + k) < tt then (1 : Int32) else (0 : Int32))), .val (.int ev), .unset] [(.int (fr + k)), (.ref b11), (.int ev)])) (fun _ k_ => XS.iadd X25.here hx rfl (hb hby at_243) rfl k_) ?_
      refine Go.st (S' := T25.setTop (mkF m 245 #[.val (.int p0), .val (.int p1), .val (.int p2), .val (.long q3), .second, .val (.ref b11), .val (.int fr), .val (.int tt), .val (.int k), .val (.ref b20), .val (.int (1 : Int32)), .val (.int ((tt - fr) - k)), .val (.int (if (fr + k) < tt then (1 : Int32) else (0 : Int32))), .val (.int ev), .unset] [(.int ev), (.int ev)])) (A_b11.bload X25 hx hZ e25 (j := (fr + k)) (v := ev) (own_nn (by omega)) hev (g := (mkF m 244 #[.val (.int p0), .val (.int p1), .val (.int p2), .val (.long q3), .second, .val (.ref b11), .val (.int fr), .val (.int tt), .val (.int k), .val (.ref b20), .val (.int (1 : Int32)), .val (.int ((tt - fr) - k)), .val (.int (if (fr + k) < tt then (1 : Int32) else (0 : Int32))), .val (.int ev), .unset] [(.int (fr + k)), (.ref b11), (.int ev)])) rfl rfl (hb hby at_244)) ?_
      refine Go.st (S' := T25.setTop (mkF m 248 #[.val (.int p0), .val (.int p1), .val (.int p2), .val (.long q3), .second, .val (.ref b11), .val (.int fr), .val (.int tt), .val (.int k), .val (.ref b20), .val (.int (1 : Int32)), .val (.int ((tt - fr) - k)), .val (.int (if (fr + k) < tt then (1 : Int32) else (0 : Int32))), .val (.int ev), .unset] [])) (fun _ k_ => XS.icmpNo X25.here hx rfl (hb hby at_245) rfl (teq (rfl : ev = ev)).2 k_) ?_
      refine Go.st (S' := T25.setTop (mkF m 249 #[.val (.int p0), .val (.int p1), .val (.int p2), .val (.long q3), .second, .val (.ref b11), .val (.int fr), .val (.int tt), .val (.int k), .val (.ref b20), .val (.int (1 : Int32)), .val (.int ((tt - fr) - k)), .val (.int (if (fr + k) < tt then (1 : Int32) else (0 : Int32))), .val (.int ev), .unset] [(.int (1 : Int32))])) (fun _ k_ => XS.iconst X25.here hx rfl (hb hby at_248) k_) ?_
      refine Go.st (S' := T25.setTop (mkF m 253 #[.val (.int p0), .val (.int p1), .val (.int p2), .val (.long q3), .second, .val (.ref b11), .val (.int fr), .val (.int tt), .val (.int k), .val (.ref b20), .val (.int (1 : Int32)), .val (.int ((tt - fr) - k)), .val (.int (if (fr + k) < tt then (1 : Int32) else (0 : Int32))), .val (.int ev), .unset] [(.int (1 : Int32))])) (fun _ k_ => XS.goto X25.here hx rfl (pc0 := 249) (pc' := 253) rfl (hb hby at_249) (by decide) (by decide) k_) ?_
      refine Go.st (S' := T25.setTop (mkF m 255 #[.val (.int p0), .val (.int p1), .val (.int p2), .val (.long q3), .second, .val (.ref b11), .val (.int fr), .val (.int tt), .val (.int k), .val (.ref b20), .val (.int (1 : Int32)), .val (.int ((tt - fr) - k)), .val (.int (if (fr + k) < tt then (1 : Int32) else (0 : Int32))), .val (.int ev), .unset] [])) (fun _ k_ => XS.istore X25.here hx rfl (hb hby at_253) rfl (l' := #[.val (.int p0), .val (.int p1), .val (.int p2), .val (.long q3), .second, .val (.ref b11), .val (.int fr), .val (.int tt), .val (.int k), .val (.ref b20), .val (.int (1 : Int32)), .val (.int ((tt - fr) - k)), .val (.int (if (fr + k) < tt then (1 : Int32) else (0 : Int32))), .val (.int ev), .unset]) rfl k_) ?_
      refine Go.st (S' := T25.setTop (mkF m 257 #[.val (.int p0), .val (.int p1), .val (.int p2), .val (.long q3), .second, .val (.ref b11), .val (.int fr), .val (.int tt), .val (.int k), .val (.ref b20), .val (.int (1 : Int32)), .val (.int ((tt - fr) - k)), .val (.int (if (fr + k) < tt then (1 : Int32) else (0 : Int32))), .val (.int ev), .unset] [(.ref b20)])) (fun _ k_ => XS.aload X25.here hx rfl (hb hby at_255) rfl rfl k_) ?_
      obtain ⟨v26, T26, h26, L26, X26, e26, hQ26, st26⟩ := callVi X25 hx hZ hown (w17 hw) (w18 hw) (w20 hw) (w19 hw) (w4 hw) (w21 hw) (by decide) (W := 0) (argsL := []) (rest := []) e25 BR_b20.1 (br_more l Z a0 hw b20 b11 ((fr + k) + (1 : Int32)) tt h25 n0 Z0 BR_b20) (by decide) (by decide) pd2 rfl (g := (mkF m 257 #[.val (.int p0), .val (.int p1), .val (.int p2), .val (.long q3), .second, .val (.ref b11), .val (.int fr), .val (.int tt), .val (.int k), .val (.ref b20), .val (.int (1 : Int32)), .val (.int ((tt - fr) - k)), .val (.int (if (fr + k) < tt then (1 : Int32) else (0 : Int32))), .val (.int ev), .unset] [(.ref b20)])) rfl (by rw [hml]; rfl) rfl (by show 2 * 0 + _ ≤ _; exact Nat.le_of_eq rfl) (hb hby at_257) (by decide) (by decide)
      obtain ⟨rfl, Nq26, hh26⟩ := hQ26
      rw [hh26] at e26
      have N26 := Fr.app N25 Nq26
      refine Go.st (S' := T26.setTop (mkF m 260 #[.val (.int p0), .val (.int p1), .val (.int p2), .val (.long q3), .second, .val (.ref b11), .val (.int fr), .val (.int tt), .val (.int k), .val (.ref b20), .val (.int (1 : Int32)), .val (.int ((tt - fr) - k)), .val (.int (if (fr + k) < tt then (1 : Int32) else (0 : Int32))), .val (.int ev), .unset] [(.int (if ((fr + k) + (1 : Int32)) < tt then (1 : Int32) else (0 : Int32)))])) (st26) ?_
      refine Go.st (S' := T26.setTop (mkF m 262 #[.val (.int p0), .val (.int p1), .val (.int p2), .val (.long q3), .second, .val (.ref b11), .val (.int fr), .val (.int tt), .val (.int k), .val (.ref b20), .val (.int (1 : Int32)), .val (.int ((tt - fr) - k)), .val (.int (if (fr + k) < tt then (1 : Int32) else (0 : Int32))), .val (.int ev), .val (.int (if ((fr + k) + (1 : Int32)) < tt then (1 : Int32) else (0 : Int32)))] [])) (fun _ k_ => XS.istore X26.here hx rfl (hb hby at_260) rfl (l' := #[.val (.int p0), .val (.int p1), .val (.int p2), .val (.long q3), .second, .val (.ref b11), .val (.int fr), .val (.int tt), .val (.int k), .val (.ref b20), .val (.int (1 : Int32)), .val (.int ((tt - fr) - k)), .val (.int (if (fr + k) < tt then (1 : Int32) else (0 : Int32))), .val (.int ev), .val (.int (if ((fr + k) + (1 : Int32)) < tt then (1 : Int32) else (0 : Int32)))]) rfl k_) ?_
      refine Go.st (S' := T26.setTop (mkF m 264 #[.val (.int p0), .val (.int p1), .val (.int p2), .val (.long q3), .second, .val (.ref b11), .val (.int fr), .val (.int tt), .val (.int k), .val (.ref b20), .val (.int (1 : Int32)), .val (.int ((tt - fr) - k)), .val (.int (if (fr + k) < tt then (1 : Int32) else (0 : Int32))), .val (.int ev), .val (.int (if ((fr + k) + (1 : Int32)) < tt then (1 : Int32) else (0 : Int32)))] [(.int (1 : Int32))])) (fun _ k_ => XS.iload X26.here hx rfl (hb hby at_262) rfl k_) ?_
      refine Go.st (S' := T26.setTop (mkF m 267 #[.val (.int p0), .val (.int p1), .val (.int p2), .val (.long q3), .second, .val (.ref b11), .val (.int fr), .val (.int tt), .val (.int k), .val (.ref b20), .val (.int (1 : Int32)), .val (.int ((tt - fr) - k)), .val (.int (if (fr + k) < tt then (1 : Int32) else (0 : Int32))), .val (.int ev), .val (.int (if ((fr + k) + (1 : Int32)) < tt then (1 : Int32) else (0 : Int32)))] [])) (fun _ k_ => XS.ifNo X26.here hx rfl (hb hby at_264) rfl ((if0 _ _).trans (feq (by decide)).1) k_) ?_
      refine Go.st (S' := T26.setTop (mkF m 269 #[.val (.int p0), .val (.int p1), .val (.int p2), .val (.long q3), .second, .val (.ref b11), .val (.int fr), .val (.int tt), .val (.int k), .val (.ref b20), .val (.int (1 : Int32)), .val (.int ((tt - fr) - k)), .val (.int (if (fr + k) < tt then (1 : Int32) else (0 : Int32))), .val (.int ev), .val (.int (if ((fr + k) + (1 : Int32)) < tt then (1 : Int32) else (0 : Int32)))] [(.int (if ((fr + k) + (1 : Int32)) < tt then (1 : Int32) else (0 : Int32)))])) (fun _ k_ => XS.iload X26.here hx rfl (hb hby at_267) rfl k_) ?_
      refine Go.st (S' := T26.setTop (mkF m 271 #[.val (.int p0), .val (.int p1), .val (.int p2), .val (.long q3), .second, .val (.ref b11), .val (.int fr), .val (.int tt), .val (.int k), .val (.ref b20), .val (.int (1 : Int32)), .val (.int ((tt - fr) - k)), .val (.int (if (fr + k) < tt then (1 : Int32) else (0 : Int32))), .val (.int ev), .val (.int (if ((fr + k) + (1 : Int32)) < tt then (1 : Int32) else (0 : Int32)))] [(.int ((tt - fr) - k)), (.int (if ((fr + k) + (1 : Int32)) < tt then (1 : Int32) else (0 : Int32)))])) (fun _ k_ => XS.iload X26.here hx rfl (hb hby at_269) rfl k_) ?_
      refine Go.st (S' := T26.setTop (mkF m 272 #[.val (.int p0), .val (.int p1), .val (.int p2), .val (.long q3), .second, .val (.ref b11), .val (.int fr), .val (.int tt), .val (.int k), .val (.ref b20), .val (.int (1 : Int32)), .val (.int ((tt - fr) - k)), .val (.int (if (fr + k) < tt then (1 : Int32) else (0 : Int32))), .val (.int ev), .val (.int (if ((fr + k) + (1 : Int32)) < tt then (1 : Int32) else (0 : Int32)))] [(.int (1 : Int32)), (.int ((tt - fr) - k)), (.int (if ((fr + k) + (1 : Int32)) < tt then (1 : Int32) else (0 : Int32)))])) (fun _ k_ => XS.iconst X26.here hx rfl (hb hby at_271) k_) ?_
      by_cases hc272 : (1 : Int32) < ((tt - fr) - k)
      · skip
        refine Go.st (S' := T26.setTop (mkF m 275 #[.val (.int p0), .val (.int p1), .val (.int p2), .val (.long q3), .second, .val (.ref b11), .val (.int fr), .val (.int tt), .val (.int k), .val (.ref b20), .val (.int (1 : Int32)), .val (.int ((tt - fr) - k)), .val (.int (if (fr + k) < tt then (1 : Int32) else (0 : Int32))), .val (.int ev), .val (.int (if ((fr + k) + (1 : Int32)) < tt then (1 : Int32) else (0 : Int32)))] [(.int (if ((fr + k) + (1 : Int32)) < tt then (1 : Int32) else (0 : Int32)))])) (fun _ k_ => XS.icmpNo X26.here hx rfl (hb hby at_272) rfl (tlt hc272).2.2.2 k_) ?_
        refine Go.st (S' := T26.setTop (mkF m 276 #[.val (.int p0), .val (.int p1), .val (.int p2), .val (.long q3), .second, .val (.ref b11), .val (.int fr), .val (.int tt), .val (.int k), .val (.ref b20), .val (.int (1 : Int32)), .val (.int ((tt - fr) - k)), .val (.int (if (fr + k) < tt then (1 : Int32) else (0 : Int32))), .val (.int ev), .val (.int (if ((fr + k) + (1 : Int32)) < tt then (1 : Int32) else (0 : Int32)))] [(.int (1 : Int32)), (.int (if ((fr + k) + (1 : Int32)) < tt then (1 : Int32) else (0 : Int32)))])) (fun _ k_ => XS.iconst X26.here hx rfl (hb hby at_275) k_) ?_
        refine Go.st (S' := T26.setTop (mkF m 280 #[.val (.int p0), .val (.int p1), .val (.int p2), .val (.long q3), .second, .val (.ref b11), .val (.int fr), .val (.int tt), .val (.int k), .val (.ref b20), .val (.int (1 : Int32)), .val (.int ((tt - fr) - k)), .val (.int (if (fr + k) < tt then (1 : Int32) else (0 : Int32))), .val (.int ev), .val (.int (if ((fr + k) + (1 : Int32)) < tt then (1 : Int32) else (0 : Int32)))] [(.int (1 : Int32)), (.int (if ((fr + k) + (1 : Int32)) < tt then (1 : Int32) else (0 : Int32)))])) (fun _ k_ => XS.goto X26.here hx rfl (pc0 := 276) (pc' := 280) rfl (hb hby at_276) (by decide) (by decide) k_) ?_
        refine Go.st (S' := T26.setTop (mkF m 283 #[.val (.int p0), .val (.int p1), .val (.int p2), .val (.long q3), .second, .val (.ref b11), .val (.int fr), .val (.int tt), .val (.int k), .val (.ref b20), .val (.int (1 : Int32)), .val (.int ((tt - fr) - k)), .val (.int (if (fr + k) < tt then (1 : Int32) else (0 : Int32))), .val (.int ev), .val (.int (if ((fr + k) + (1 : Int32)) < tt then (1 : Int32) else (0 : Int32)))] [])) (fun _ k_ => XS.icmpNo X26.here hx rfl (hb hby at_280) rfl (teq (if_pos (by have e0 : (0 : Int32).toInt = 0 := rfl; have e1 : (1 : Int32).toInt = 1 := rfl; have e8 : (8 : Int32).toInt = 8 := rfl; have z0 := Int32.lt_iff_toInt_lt.mp hc272; exact Int32.lt_iff_toInt_lt.mpr (by omega)))).2 k_) ?_
        refine Go.st (S' := T26.setTop (mkF m 284 #[.val (.int p0), .val (.int p1), .val (.int p2), .val (.long q3), .second, .val (.ref b11), .val (.int fr), .val (.int tt), .val (.int k), .val (.ref b20), .val (.int (1 : Int32)), .val (.int ((tt - fr) - k)), .val (.int (if (fr + k) < tt then (1 : Int32) else (0 : Int32))), .val (.int ev), .val (.int (if ((fr + k) + (1 : Int32)) < tt then (1 : Int32) else (0 : Int32)))] [(.int (1 : Int32))])) (fun _ k_ => XS.iconst X26.here hx rfl (hb hby at_283) k_) ?_
        refine Go.st (S' := T26.setTop (mkF m 288 #[.val (.int p0), .val (.int p1), .val (.int p2), .val (.long q3), .second, .val (.ref b11), .val (.int fr), .val (.int tt), .val (.int k), .val (.ref b20), .val (.int (1 : Int32)), .val (.int ((tt - fr) - k)), .val (.int (if (fr + k) < tt then (1 : Int32) else (0 : Int32))), .val (.int ev), .val (.int (if ((fr + k) + (1 : Int32)) < tt then (1 : Int32) else (0 : Int32)))] [(.int (1 : Int32))])) (fun _ k_ => XS.goto X26.here hx rfl (pc0 := 284) (pc' := 288) rfl (hb hby at_284) (by decide) (by decide) k_) ?_
        refine Go.st (S' := T26.setTop (mkF m 290 #[.val (.int p0), .val (.int p1), .val (.int p2), .val (.long q3), .second, .val (.ref b11), .val (.int fr), .val (.int tt), .val (.int k), .val (.ref b20), .val (.int (1 : Int32)), .val (.int ((tt - fr) - k)), .val (.int (if (fr + k) < tt then (1 : Int32) else (0 : Int32))), .val (.int ev), .val (.int (if ((fr + k) + (1 : Int32)) < tt then (1 : Int32) else (0 : Int32)))] [])) (fun _ k_ => XS.istore X26.here hx rfl (hb hby at_288) rfl (l' := #[.val (.int p0), .val (.int p1), .val (.int p2), .val (.long q3), .second, .val (.ref b11), .val (.int fr), .val (.int tt), .val (.int k), .val (.ref b20), .val (.int (1 : Int32)), .val (.int ((tt - fr) - k)), .val (.int (if (fr + k) < tt then (1 : Int32) else (0 : Int32))), .val (.int ev), .val (.int (if ((fr + k) + (1 : Int32)) < tt then (1 : Int32) else (0 : Int32)))]) rfl k_) ?_
        refine Go.st (S' := T26.setTop (mkF m 292 #[.val (.int p0), .val (.int p1), .val (.int p2), .val (.long q3), .second, .val (.ref b11), .val (.int fr), .val (.int tt), .val (.int k), .val (.ref b20), .val (.int (1 : Int32)), .val (.int ((tt - fr) - k)), .val (.int (if (fr + k) < tt then (1 : Int32) else (0 : Int32))), .val (.int ev), .val (.int (if ((fr + k) + (1 : Int32)) < tt then (1 : Int32) else (0 : Int32)))] [(.int (1 : Int32))])) (fun _ k_ => XS.iload X26.here hx rfl (hb hby at_290) rfl k_) ?_
        exact Go.retN X26 hx (t := .boolean) hret (by simp) hlk (hb hby at_292) (by decide) (by decide) ⟨rfl, N26⟩
      · skip
        refine Go.st (S' := T26.setTop (mkF m 279 #[.val (.int p0), .val (.int p1), .val (.int p2), .val (.long q3), .second, .val (.ref b11), .val (.int fr), .val (.int tt), .val (.int k), .val (.ref b20), .val (.int (1 : Int32)), .val (.int ((tt - fr) - k)), .val (.int (if (fr + k) < tt then (1 : Int32) else (0 : Int32))), .val (.int ev), .val (.int (if ((fr + k) + (1 : Int32)) < tt then (1 : Int32) else (0 : Int32)))] [(.int (if ((fr + k) + (1 : Int32)) < tt then (1 : Int32) else (0 : Int32)))])) (fun _ k_ => XS.icmpYes X26.here hx rfl (pc0 := 272) (pc' := 279) rfl (hb hby at_272) rfl (flt hc272).2.2.2 (by decide) (by decide) k_) ?_
        refine Go.st (S' := T26.setTop (mkF m 280 #[.val (.int p0), .val (.int p1), .val (.int p2), .val (.long q3), .second, .val (.ref b11), .val (.int fr), .val (.int tt), .val (.int k), .val (.ref b20), .val (.int (1 : Int32)), .val (.int ((tt - fr) - k)), .val (.int (if (fr + k) < tt then (1 : Int32) else (0 : Int32))), .val (.int ev), .val (.int (if ((fr + k) + (1 : Int32)) < tt then (1 : Int32) else (0 : Int32)))] [(.int (0 : Int32)), (.int (if ((fr + k) + (1 : Int32)) < tt then (1 : Int32) else (0 : Int32)))])) (fun _ k_ => XS.iconst X26.here hx rfl (hb hby at_279) k_) ?_
        refine Go.st (S' := T26.setTop (mkF m 283 #[.val (.int p0), .val (.int p1), .val (.int p2), .val (.long q3), .second, .val (.ref b11), .val (.int fr), .val (.int tt), .val (.int k), .val (.ref b20), .val (.int (1 : Int32)), .val (.int ((tt - fr) - k)), .val (.int (if (fr + k) < tt then (1 : Int32) else (0 : Int32))), .val (.int ev), .val (.int (if ((fr + k) + (1 : Int32)) < tt then (1 : Int32) else (0 : Int32)))] [])) (fun _ k_ => XS.icmpNo X26.here hx rfl (hb hby at_280) rfl (teq (if_neg (by have e0 : (0 : Int32).toInt = 0 := rfl; have e1 : (1 : Int32).toInt = 1 := rfl; have e8 : (8 : Int32).toInt = 8 := rfl; have y0 := mt Int32.lt_iff_toInt_lt.mpr hc272; exact fun q => absurd (Int32.lt_iff_toInt_lt.mp q) (by omega)))).2 k_) ?_
        refine Go.st (S' := T26.setTop (mkF m 284 #[.val (.int p0), .val (.int p1), .val (.int p2), .val (.long q3), .second, .val (.ref b11), .val (.int fr), .val (.int tt), .val (.int k), .val (.ref b20), .val (.int (1 : Int32)), .val (.int ((tt - fr) - k)), .val (.int (if (fr + k) < tt then (1 : Int32) else (0 : Int32))), .val (.int ev), .val (.int (if ((fr + k) + (1 : Int32)) < tt then (1 : Int32) else (0 : Int32)))] [(.int (1 : Int32))])) (fun _ k_ => XS.iconst X26.here hx rfl (hb hby at_283) k_) ?_
        refine Go.st (S' := T26.setTop (mkF m 288 #[.val (.int p0), .val (.int p1), .val (.int p2), .val (.long q3), .second, .val (.ref b11), .val (.int fr), .val (.int tt), .val (.int k), .val (.ref b20), .val (.int (1 : Int32)), .val (.int ((tt - fr) - k)), .val (.int (if (fr + k) < tt then (1 : Int32) else (0 : Int32))), .val (.int ev), .val (.int (if ((fr + k) + (1 : Int32)) < tt then (1 : Int32) else (0 : Int32)))] [(.int (1 : Int32))])) (fun _ k_ => XS.goto X26.here hx rfl (pc0 := 284) (pc' := 288) rfl (hb hby at_284) (by decide) (by decide) k_) ?_
        refine Go.st (S' := T26.setTop (mkF m 290 #[.val (.int p0), .val (.int p1), .val (.int p2), .val (.long q3), .second, .val (.ref b11), .val (.int fr), .val (.int tt), .val (.int k), .val (.ref b20), .val (.int (1 : Int32)), .val (.int ((tt - fr) - k)), .val (.int (if (fr + k) < tt then (1 : Int32) else (0 : Int32))), .val (.int ev), .val (.int (if ((fr + k) + (1 : Int32)) < tt then (1 : Int32) else (0 : Int32)))] [])) (fun _ k_ => XS.istore X26.here hx rfl (hb hby at_288) rfl (l' := #[.val (.int p0), .val (.int p1), .val (.int p2), .val (.long q3), .second, .val (.ref b11), .val (.int fr), .val (.int tt), .val (.int k), .val (.ref b20), .val (.int (1 : Int32)), .val (.int ((tt - fr) - k)), .val (.int (if (fr + k) < tt then (1 : Int32) else (0 : Int32))), .val (.int ev), .val (.int (if ((fr + k) + (1 : Int32)) < tt then (1 : Int32) else (0 : Int32)))]) rfl k_) ?_
        refine Go.st (S' := T26.setTop (mkF m 292 #[.val (.int p0), .val (.int p1), .val (.int p2), .val (.long q3), .second, .val (.ref b11), .val (.int fr), .val (.int tt), .val (.int k), .val (.ref b20), .val (.int (1 : Int32)), .val (.int ((tt - fr) - k)), .val (.int (if (fr + k) < tt then (1 : Int32) else (0 : Int32))), .val (.int ev), .val (.int (if ((fr + k) + (1 : Int32)) < tt then (1 : Int32) else (0 : Int32)))] [(.int (1 : Int32))])) (fun _ k_ => XS.iload X26.here hx rfl (hb hby at_290) rfl k_) ?_
        exact Go.retN X26 hx (t := .boolean) hret (by simp) hlk (hb hby at_292) (by decide) (by decide) ⟨rfl, N26⟩
    · skip
      refine Go.st (S' := T24.setTop (mkF m 207 #[.val (.int p0), .val (.int p1), .val (.int p2), .val (.long q3), .second, .val (.ref b11), .val (.int fr), .val (.int tt), .val (.int k), .val (.ref b20), .val (.int (1 : Int32)), .val (.int ((tt - fr) - k)), .val (.int (if (fr + k) < tt then (1 : Int32) else (0 : Int32))), .unset, .unset] [(.int (if (fr + k) < tt then (1 : Int32) else (0 : Int32)))])) (fun _ k_ => XS.ifYes X24.here hx rfl (pc0 := 200) (pc' := 207) rfl (hb hby at_200) rfl ((if0 _ _).trans (flt hc200).2.2.2) (by decide) (by decide) k_) ?_
      refine Go.st (S' := T24.setTop (mkF m 208 #[.val (.int p0), .val (.int p1), .val (.int p2), .val (.long q3), .second, .val (.ref b11), .val (.int fr), .val (.int tt), .val (.int k), .val (.ref b20), .val (.int (1 : Int32)), .val (.int ((tt - fr) - k)), .val (.int (if (fr + k) < tt then (1 : Int32) else (0 : Int32))), .unset, .unset] [(.int (0 : Int32)), (.int (if (fr + k) < tt then (1 : Int32) else (0 : Int32)))])) (fun _ k_ => XS.iconst X24.here hx rfl (hb hby at_207) k_) ?_
      refine Go.st (S' := T24.setTop (mkF m 211 #[.val (.int p0), .val (.int p1), .val (.int p2), .val (.long q3), .second, .val (.ref b11), .val (.int fr), .val (.int tt), .val (.int k), .val (.ref b20), .val (.int (1 : Int32)), .val (.int ((tt - fr) - k)), .val (.int (if (fr + k) < tt then (1 : Int32) else (0 : Int32))), .unset, .unset] [])) (fun _ k_ => XS.icmpNo X24.here hx rfl (hb hby at_208) rfl (teq (if_neg (by have e0 : (0 : Int32).toInt = 0 := rfl; have e1 : (1 : Int32).toInt = 1 := rfl; have e8 : (8 : Int32).toInt = 8 := rfl; have y0 := mt Int32.lt_iff_toInt_lt.mpr hc200; exact fun q => absurd (Int32.lt_iff_toInt_lt.mp q) (by omega)))).2 k_) ?_
      refine Go.st (S' := T24.setTop (mkF m 212 #[.val (.int p0), .val (.int p1), .val (.int p2), .val (.long q3), .second, .val (.ref b11), .val (.int fr), .val (.int tt), .val (.int k), .val (.ref b20), .val (.int (1 : Int32)), .val (.int ((tt - fr) - k)), .val (.int (if (fr + k) < tt then (1 : Int32) else (0 : Int32))), .unset, .unset] [(.int (1 : Int32))])) (fun _ k_ => XS.iconst X24.here hx rfl (hb hby at_211) k_) ?_
      refine Go.st (S' := T24.setTop (mkF m 216 #[.val (.int p0), .val (.int p1), .val (.int p2), .val (.long q3), .second, .val (.ref b11), .val (.int fr), .val (.int tt), .val (.int k), .val (.ref b20), .val (.int (1 : Int32)), .val (.int ((tt - fr) - k)), .val (.int (if (fr + k) < tt then (1 : Int32) else (0 : Int32))), .unset, .unset] [(.int (1 : Int32))])) (fun _ k_ => XS.goto X24.here hx rfl (pc0 := 212) (pc' := 216) rfl (hb hby at_212) (by decide) (by decide) k_) ?_
      refine Go.st (S' := T24.setTop (mkF m 218 #[.val (.int p0), .val (.int p1), .val (.int p2), .val (.long q3), .second, .val (.ref b11), .val (.int fr), .val (.int tt), .val (.int k), .val (.ref b20), .val (.int (1 : Int32)), .val (.int ((tt - fr) - k)), .val (.int (if (fr + k) < tt then (1 : Int32) else (0 : Int32))), .unset, .unset] [])) (fun _ k_ => XS.istore X24.here hx rfl (hb hby at_216) rfl (l' := #[.val (.int p0), .val (.int p1), .val (.int p2), .val (.long q3), .second, .val (.ref b11), .val (.int fr), .val (.int tt), .val (.int k), .val (.ref b20), .val (.int (1 : Int32)), .val (.int ((tt - fr) - k)), .val (.int (if (fr + k) < tt then (1 : Int32) else (0 : Int32))), .unset, .unset]) rfl k_) ?_
      refine Go.st (S' := T24.setTop (mkF m 220 #[.val (.int p0), .val (.int p1), .val (.int p2), .val (.long q3), .second, .val (.ref b11), .val (.int fr), .val (.int tt), .val (.int k), .val (.ref b20), .val (.int (1 : Int32)), .val (.int ((tt - fr) - k)), .val (.int (if (fr + k) < tt then (1 : Int32) else (0 : Int32))), .unset, .unset] [(.int ((tt - fr) - k))])) (fun _ k_ => XS.iload X24.here hx rfl (hb hby at_218) rfl k_) ?_
      have hc220 := hc200
      refine Go.st (S' := T24.setTop (mkF m 290 #[.val (.int p0), .val (.int p1), .val (.int p2), .val (.long q3), .second, .val (.ref b11), .val (.int fr), .val (.int tt), .val (.int k), .val (.ref b20), .val (.int (1 : Int32)), .val (.int ((tt - fr) - k)), .val (.int (if (fr + k) < tt then (1 : Int32) else (0 : Int32))), .unset, .unset] [])) (fun _ k_ => XS.ifYes X24.here hx rfl (pc0 := 220) (pc' := 290) rfl (hb hby at_220) rfl ((if0 _ _).trans (flt (hc200)).2.2.2) (by decide) (by decide) k_) ?_
      refine Go.st (S' := T24.setTop (mkF m 292 #[.val (.int p0), .val (.int p1), .val (.int p2), .val (.long q3), .second, .val (.ref b11), .val (.int fr), .val (.int tt), .val (.int k), .val (.ref b20), .val (.int (1 : Int32)), .val (.int ((tt - fr) - k)), .val (.int (if (fr + k) < tt then (1 : Int32) else (0 : Int32))), .unset, .unset] [(.int (1 : Int32))])) (fun _ k_ => XS.iload X24.here hx rfl (hb hby at_290) rfl k_) ?_
      exact Go.retN X24 hx (t := .boolean) hret (by simp) hlk (hb hby at_292) (by decide) (by decide) ⟨rfl, N24⟩
  · skip
    refine Go.st (S' := T22.setTop (mkF m 155 #[.val (.int p0), .val (.int p1), .val (.int p2), .val (.long q3), .second, .val (.ref b11), .val (.int fr), .val (.int tt), .val (.int k), .val (.ref b20), .unset, .unset, .unset, .unset, .unset] [(.int (if fr < tt then (1 : Int32) else (0 : Int32)))])) (fun _ k_ => XS.ifYes X22.here hx rfl (pc0 := 148) (pc' := 155) rfl (hb hby at_148) rfl ((if0 _ _).trans (flt hc148).2.2.2) (by decide) (by decide) k_) ?_
    refine Go.st (S' := T22.setTop (mkF m 156 #[.val (.int p0), .val (.int p1), .val (.int p2), .val (.long q3), .second, .val (.ref b11), .val (.int fr), .val (.int tt), .val (.int k), .val (.ref b20), .unset, .unset, .unset, .unset, .unset] [(.int (0 : Int32)), (.int (if fr < tt then (1 : Int32) else (0 : Int32)))])) (fun _ k_ => XS.iconst X22.here hx rfl (hb hby at_155) k_) ?_
    refine Go.st (S' := T22.setTop (mkF m 159 #[.val (.int p0), .val (.int p1), .val (.int p2), .val (.long q3), .second, .val (.ref b11), .val (.int fr), .val (.int tt), .val (.int k), .val (.ref b20), .unset, .unset, .unset, .unset, .unset] [])) (fun _ k_ => XS.icmpNo X22.here hx rfl (hb hby at_156) rfl (teq (if_neg (by have e0 : (0 : Int32).toInt = 0 := rfl; have e1 : (1 : Int32).toInt = 1 := rfl; have e8 : (8 : Int32).toInt = 8 := rfl; have y0 := mt Int32.lt_iff_toInt_lt.mpr hc148; exact fun q => absurd (Int32.lt_iff_toInt_lt.mp q) (by omega)))).2 k_) ?_
    refine Go.st (S' := T22.setTop (mkF m 160 #[.val (.int p0), .val (.int p1), .val (.int p2), .val (.long q3), .second, .val (.ref b11), .val (.int fr), .val (.int tt), .val (.int k), .val (.ref b20), .unset, .unset, .unset, .unset, .unset] [(.int (1 : Int32))])) (fun _ k_ => XS.iconst X22.here hx rfl (hb hby at_159) k_) ?_
    refine Go.st (S' := T22.setTop (mkF m 164 #[.val (.int p0), .val (.int p1), .val (.int p2), .val (.long q3), .second, .val (.ref b11), .val (.int fr), .val (.int tt), .val (.int k), .val (.ref b20), .unset, .unset, .unset, .unset, .unset] [(.int (1 : Int32))])) (fun _ k_ => XS.goto X22.here hx rfl (pc0 := 160) (pc' := 164) rfl (hb hby at_160) (by decide) (by decide) k_) ?_
    refine Go.st (S' := T22.setTop (mkF m 166 #[.val (.int p0), .val (.int p1), .val (.int p2), .val (.long q3), .second, .val (.ref b11), .val (.int fr), .val (.int tt), .val (.int k), .val (.ref b20), .val (.int (1 : Int32)), .unset, .unset, .unset, .unset] [])) (fun _ k_ => XS.istore X22.here hx rfl (hb hby at_164) rfl (l' := #[.val (.int p0), .val (.int p1), .val (.int p2), .val (.long q3), .second, .val (.ref b11), .val (.int fr), .val (.int tt), .val (.int k), .val (.ref b20), .val (.int (1 : Int32)), .unset, .unset, .unset, .unset]) rfl k_) ?_
    refine Go.st (S' := T22.setTop (mkF m 168 #[.val (.int p0), .val (.int p1), .val (.int p2), .val (.long q3), .second, .val (.ref b11), .val (.int fr), .val (.int tt), .val (.int k), .val (.ref b20), .val (.int (1 : Int32)), .unset, .unset, .unset, .unset] [(.ref b20)])) (fun _ k_ => XS.aload X22.here hx rfl (hb hby at_166) rfl rfl k_) ?_
    refine Go.st (S' := T22.setTop (mkF m 170 #[.val (.int p0), .val (.int p1), .val (.int p2), .val (.long q3), .second, .val (.ref b11), .val (.int fr), .val (.int tt), .val (.int k), .val (.ref b20), .val (.int (1 : Int32)), .unset, .unset, .unset, .unset] [(.int k), (.ref b20)])) (fun _ k_ => XS.iload X22.here hx rfl (hb hby at_168) rfl k_) ?_
    obtain ⟨v27, T27, h27, L27, X27, e27, hQ27, st27⟩ := callVi X22 hx hZ hown (w22 hw) (w23 hw) (w25 hw) (w24 hw) (w4 hw) (w26 hw) (by decide) (W := 0) (argsL := [(.int k)]) (rest := []) e22 BR_b20.1 (br_skip l Z a0 hw b20 b11 fr tt k h21 n0 Z0 BR_b20 (own_nn r4.1) (by have e0 : (0 : Int32).toInt = 0 := rfl; have e1 : (1 : Int32).toInt = 1 := rfl; have e8 : (8 : Int32).toInt = 8 := rfl; exact fun q => absurd (Int32.lt_iff_toInt_lt.mp q) (by omega)) g_b20) (by decide) (by decide) pd3 rfl (g := (mkF m 170 #[.val (.int p0), .val (.int p1), .val (.int p2), .val (.long q3), .second, .val (.ref b11), .val (.int fr), .val (.int tt), .val (.int k), .val (.ref b20), .val (.int (1 : Int32)), .unset, .unset, .unset, .unset] [(.int k), (.ref b20)])) rfl (by rw [hml]; rfl) rfl (by show 2 * 0 + _ ≤ _; exact Nat.le_of_eq rfl) (hb hby at_170) (by decide) (by decide)
    obtain ⟨rfl, Nq27, Kq27, BR_b20⟩ := hQ27
    have N27 := Fr.app N22 Nq27
    replace A_b11 := A_b11.keep Kq27 (ninS ne_b11_b20 nin0)
    replace Z0 := Nat.le_trans Z0 Kq27.1
    refine Go.st (S' := T27.setTop (mkF m 173 #[.val (.int p0), .val (.int p1), .val (.int p2), .val (.long q3), .second, .val (.ref b11), .val (.int fr), .val (.int tt), .val (.int k), .val (.ref b20), .val (.int (1 : Int32)), .unset, .unset, .unset, .unset] [(.int fr)])) (st27) ?_
    refine Go.st (S' := T27.setTop (mkF m 174 #[.val (.int p0), .val (.int p1), .val (.int p2), .val (.long q3), .second, .val (.ref b11), .val (.int fr), .val (.int tt), .val (.int k), .val (.ref b20), .val (.int (1 : Int32)), .unset, .unset, .unset, .unset] [])) (fun _ k_ => XS.pop X27.here hx rfl (hb hby at_173) rfl rfl k_) ?_
    refine Go.st (S' := T27.setTop (mkF m 176 #[.val (.int p0), .val (.int p1), .val (.int p2), .val (.long q3), .second, .val (.ref b11), .val (.int fr), .val (.int tt), .val (.int k), .val (.ref b20), .val (.int (1 : Int32)), .unset, .unset, .unset, .unset] [(.int tt)])) (fun _ k_ => XS.iload X27.here hx rfl (hb hby at_174) rfl k_) ?_
    refine Go.st (S' := T27.setTop (mkF m 178 #[.val (.int p0), .val (.int p1), .val (.int p2), .val (.long q3), .second, .val (.ref b11), .val (.int fr), .val (.int tt), .val (.int k), .val (.ref b20), .val (.int (1 : Int32)), .unset, .unset, .unset, .unset] [(.int fr), (.int tt)])) (fun _ k_ => XS.iload X27.here hx rfl (hb hby at_176) rfl k_) ?_
    refine Go.st (S' := T27.setTop (mkF m 179 #[.val (.int p0), .val (.int p1), .val (.int p2), .val (.long q3), .second, .val (.ref b11), .val (.int fr), .val (.int tt), .val (.int k), .val (.ref b20), .val (.int (1 : Int32)), .unset, .unset, .unset, .unset] [(.int (tt - fr))])) (fun _ k_ => XS.isub X27.here hx rfl (hb hby at_178) rfl k_) ?_
    refine Go.st (S' := T27.setTop (mkF m 181 #[.val (.int p0), .val (.int p1), .val (.int p2), .val (.long q3), .second, .val (.ref b11), .val (.int fr), .val (.int tt), .val (.int k), .val (.ref b20), .val (.int (1 : Int32)), .unset, .unset, .unset, .unset] [(.int k), (.int (tt - fr))])) (fun _ k_ => XS.iload X27.here hx rfl (hb hby at_179) rfl k_) ?_
    refine Go.st (S' := T27.setTop (mkF m 182 #[.val (.int p0), .val (.int p1), .val (.int p2), .val (.long q3), .second, .val (.ref b11), .val (.int fr), .val (.int tt), .val (.int k), .val (.ref b20), .val (.int (1 : Int32)), .unset, .unset, .unset, .unset] [(.int ((tt - fr) - k))])) (fun _ k_ => XS.isub X27.here hx rfl (hb hby at_181) rfl k_) ?_
    refine Go.st (S' := T27.setTop (mkF m 184 #[.val (.int p0), .val (.int p1), .val (.int p2), .val (.long q3), .second, .val (.ref b11), .val (.int fr), .val (.int tt), .val (.int k), .val (.ref b20), .val (.int (1 : Int32)), .val (.int ((tt - fr) - k)), .unset, .unset, .unset] [])) (fun _ k_ => XS.istore X27.here hx rfl (hb hby at_182) rfl (l' := #[.val (.int p0), .val (.int p1), .val (.int p2), .val (.long q3), .second, .val (.ref b11), .val (.int fr), .val (.int tt), .val (.int k), .val (.ref b20), .val (.int (1 : Int32)), .val (.int ((tt - fr) - k)), .unset, .unset, .unset]) rfl k_) ?_
    refine Go.st (S' := T27.setTop (mkF m 186 #[.val (.int p0), .val (.int p1), .val (.int p2), .val (.long q3), .second, .val (.ref b11), .val (.int fr), .val (.int tt), .val (.int k), .val (.ref b20), .val (.int (1 : Int32)), .val (.int ((tt - fr) - k)), .unset, .unset, .unset] [(.ref b20)])) (fun _ k_ => XS.aload X27.here hx rfl (hb hby at_184) rfl rfl k_) ?_
    obtain ⟨v28, T28, h28, L28, X28, e28, hQ28, st28⟩ := callVi X27 hx hZ hown (w17 hw) (w18 hw) (w20 hw) (w19 hw) (w4 hw) (w21 hw) (by decide) (W := 0) (argsL := []) (rest := []) e27 BR_b20.1 (br_more l Z a0 hw b20 b11 (fr + k) tt h27 n0 Z0 BR_b20) (by decide) (by decide) pd2 rfl (g := (mkF m 186 #[.val (.int p0), .val (.int p1), .val (.int p2), .val (.long q3), .second, .val (.ref b11), .val (.int fr), .val (.int tt), .val (.int k), .val (.ref b20), .val (.int (1 : Int32)), .val (.int ((tt - fr) - k)), .unset, .unset, .unset] [(.ref b20)])) rfl (by rw [hml]; rfl) rfl (by show 2 * 0 + _ ≤ _; exact Nat.le_of_eq rfl) (hb hby at_186) (by decide) (by decide)
    obtain ⟨rfl, Nq28, hh28⟩ := hQ28
    rw [hh28] at e28
    have N28 := Fr.app N27 Nq28
    refine Go.st (S' := T28.setTop (mkF m 189 #[.val (.int p0), .val (.int p1), .val (.int p2), .val (.long q3), .second, .val (.ref b11), .val (.int fr), .val (.int tt), .val (.int k), .val (.ref b20), .val (.int (1 : Int32)), .val (.int ((tt - fr) - k)), .unset, .unset, .unset] [(.int (if (fr + k) < tt then (1 : Int32) else (0 : Int32)))])) (st28) ?_
    refine Go.st (S' := T28.setTop (mkF m 191 #[.val (.int p0), .val (.int p1), .val (.int p2), .val (.long q3), .second, .val (.ref b11), .val (.int fr), .val (.int tt), .val (.int k), .val (.ref b20), .val (.int (1 : Int32)), .val (.int ((tt - fr) - k)), .val (.int (if (fr + k) < tt then (1 : Int32) else (0 : Int32))), .unset, .unset] [])) (fun _ k_ => XS.istore X28.here hx rfl (hb hby at_189) rfl (l' := #[.val (.int p0), .val (.int p1), .val (.int p2), .val (.long q3), .second, .val (.ref b11), .val (.int fr), .val (.int tt), .val (.int k), .val (.ref b20), .val (.int (1 : Int32)), .val (.int ((tt - fr) - k)), .val (.int (if (fr + k) < tt then (1 : Int32) else (0 : Int32))), .unset, .unset]) rfl k_) ?_
    refine Go.st (S' := T28.setTop (mkF m 193 #[.val (.int p0), .val (.int p1), .val (.int p2), .val (.long q3), .second, .val (.ref b11), .val (.int fr), .val (.int tt), .val (.int k), .val (.ref b20), .val (.int (1 : Int32)), .val (.int ((tt - fr) - k)), .val (.int (if (fr + k) < tt then (1 : Int32) else (0 : Int32))), .unset, .unset] [(.int (1 : Int32))])) (fun _ k_ => XS.iload X28.here hx rfl (hb hby at_191) rfl k_) ?_
    refine Go.st (S' := T28.setTop (mkF m 196 #[.val (.int p0), .val (.int p1), .val (.int p2), .val (.long q3), .second, .val (.ref b11), .val (.int fr), .val (.int tt), .val (.int k), .val (.ref b20), .val (.int (1 : Int32)), .val (.int ((tt - fr) - k)), .val (.int (if (fr + k) < tt then (1 : Int32) else (0 : Int32))), .unset, .unset] [])) (fun _ k_ => XS.ifNo X28.here hx rfl (hb hby at_193) rfl ((if0 _ _).trans (feq (by decide)).1) k_) ?_
    refine Go.st (S' := T28.setTop (mkF m 198 #[.val (.int p0), .val (.int p1), .val (.int p2), .val (.long q3), .second, .val (.ref b11), .val (.int fr), .val (.int tt), .val (.int k), .val (.ref b20), .val (.int (1 : Int32)), .val (.int ((tt - fr) - k)), .val (.int (if (fr + k) < tt then (1 : Int32) else (0 : Int32))), .unset, .unset] [(.int (if (fr + k) < tt then (1 : Int32) else (0 : Int32)))])) (fun _ k_ => XS.iload X28.here hx rfl (hb hby at_196) rfl k_) ?_
    refine Go.st (S' := T28.setTop (mkF m 200 #[.val (.int p0), .val (.int p1), .val (.int p2), .val (.long q3), .second, .val (.ref b11), .val (.int fr), .val (.int tt), .val (.int k), .val (.ref b20), .val (.int (1 : Int32)), .val (.int ((tt - fr) - k)), .val (.int (if (fr + k) < tt then (1 : Int32) else (0 : Int32))), .unset, .unset] [(.int ((tt - fr) - k)), (.int (if (fr + k) < tt then (1 : Int32) else (0 : Int32)))])) (fun _ k_ => XS.iload X28.here hx rfl (hb hby at_198) rfl k_) ?_
    by_cases hc200 : (0 : Int32) < ((tt - fr) - k)
    · skip
      refine Go.st (S' := T28.setTop (mkF m 203 #[.val (.int p0), .val (.int p1), .val (.int p2), .val (.long q3), .second, .val (.ref b11), .val (.int fr), .val (.int tt), .val (.int k), .val (.ref b20), .val (.int (1 : Int32)), .val (.int ((tt - fr) - k)), .val (.int (if (fr + k) < tt then (1 : Int32) else (0 : Int32))), .unset, .unset] [(.int (if (fr + k) < tt then (1 : Int32) else (0 : Int32)))])) (fun _ k_ => XS.ifNo X28.here hx rfl (hb hby at_200) rfl ((if0 _ _).trans (tlt hc200).2.2.2) k_) ?_
      refine Go.st (S' := T28.setTop (mkF m 204 #[.val (.int p0), .val (.int p1), .val (.int p2), .val (.long q3), .second, .val (.ref b11), .val (.int fr), .val (.int tt), .val (.int k), .val (.ref b20), .val (.int (1 : Int32)), .val (.int ((tt - fr) - k)), .val (.int (if (fr + k) < tt then (1 : Int32) else (0 : Int32))), .unset, .unset] [(.int (1 : Int32)), (.int (if (fr + k) < tt then (1 : Int32) else (0 : Int32)))])) (fun _ k_ => XS.iconst X28.here hx rfl (hb hby at_203) k_) ?_
      refine Go.st (S' := T28.setTop (mkF m 208 #[.val (.int p0), .val (.int p1), .val (.int p2), .val (.long q3), .second, .val (.ref b11), .val (.int fr), .val (.int tt), .val (.int k), .val (.ref b20), .val (.int (1 : Int32)), .val (.int ((tt - fr) - k)), .val (.int (if (fr + k) < tt then (1 : Int32) else (0 : Int32))), .unset, .unset] [(.int (1 : Int32)), (.int (if (fr + k) < tt then (1 : Int32) else (0 : Int32)))])) (fun _ k_ => XS.goto X28.here hx rfl (pc0 := 204) (pc' := 208) rfl (hb hby at_204) (by decide) (by decide) k_) ?_
      refine Go.st (S' := T28.setTop (mkF m 211 #[.val (.int p0), .val (.int p1), .val (.int p2), .val (.long q3), .second, .val (.ref b11), .val (.int fr), .val (.int tt), .val (.int k), .val (.ref b20), .val (.int (1 : Int32)), .val (.int ((tt - fr) - k)), .val (.int (if (fr + k) < tt then (1 : Int32) else (0 : Int32))), .unset, .unset] [])) (fun _ k_ => XS.icmpNo X28.here hx rfl (hb hby at_208) rfl (teq (if_pos (by have e0 : (0 : Int32).toInt = 0 := rfl; have e1 : (1 : Int32).toInt = 1 := rfl; have e8 : (8 : Int32).toInt = 8 := rfl; have z0 := Int32.lt_iff_toInt_lt.mp hc200; exact Int32.lt_iff_toInt_lt.mpr (by omega)))).2 k_) ?_
      refine Go.st (S' := T28.setTop (mkF m 212 #[.val (.int p0), .val (.int p1), .val (.int p2), .val (.long q3), .second, .val (.ref b11), .val (.int fr), .val (.int tt), .val (.int k), .val (.ref b20), .val (.int (1 : Int32)), .val (.int ((tt - fr) - k)), .val (.int (if (fr + k) < tt then (1 : Int32) else (0 : Int32))), .unset, .unset] [(.int (1 : Int32))])) (fun _ k_ => XS.iconst X28.here hx rfl (hb hby at_211) k_) ?_
      refine Go.st (S' := T28.setTop (mkF m 216 #[.val (.int p0), .val (.int p1), .val (.int p2), .val (.long q3), .second, .val (.ref b11), .val (.int fr), .val (.int tt), .val (.int k), .val (.ref b20), .val (.int (1 : Int32)), .val (.int ((tt - fr) - k)), .val (.int (if (fr + k) < tt then (1 : Int32) else (0 : Int32))), .unset, .unset] [(.int (1 : Int32))])) (fun _ k_ => XS.goto X28.here hx rfl (pc0 := 212) (pc' := 216) rfl (hb hby at_212) (by decide) (by decide) k_) ?_
      refine Go.st (S' := T28.setTop (mkF m 218 #[.val (.int p0), .val (.int p1), .val (.int p2), .val (.long q3), .second, .val (.ref b11), .val (.int fr), .val (.int tt), .val (.int k), .val (.ref b20), .val (.int (1 : Int32)), .val (.int ((tt - fr) - k)), .val (.int (if (fr + k) < tt then (1 : Int32) else (0 : Int32))), .unset, .unset] [])) (fun _ k_ => XS.istore X28.here hx rfl (hb hby at_216) rfl (l' := #[.val (.int p0), .val (.int p1), .val (.int p2), .val (.long q3), .second, .val (.ref b11), .val (.int fr), .val (.int tt), .val (.int k), .val (.ref b20), .val (.int (1 : Int32)), .val (.int ((tt - fr) - k)), .val (.int (if (fr + k) < tt then (1 : Int32) else (0 : Int32))), .unset, .unset]) rfl k_) ?_
      refine Go.st (S' := T28.setTop (mkF m 220 #[.val (.int p0), .val (.int p1), .val (.int p2), .val (.long q3), .second, .val (.ref b11), .val (.int fr), .val (.int tt), .val (.int k), .val (.ref b20), .val (.int (1 : Int32)), .val (.int ((tt - fr) - k)), .val (.int (if (fr + k) < tt then (1 : Int32) else (0 : Int32))), .unset, .unset] [(.int ((tt - fr) - k))])) (fun _ k_ => XS.iload X28.here hx rfl (hb hby at_218) rfl k_) ?_
      have hc220 := hc200
      refine Go.st (S' := T28.setTop (mkF m 223 #[.val (.int p0), .val (.int p1), .val (.int p2), .val (.long q3), .second, .val (.ref b11), .val (.int fr), .val (.int tt), .val (.int k), .val (.ref b20), .val (.int (1 : Int32)), .val (.int ((tt - fr) - k)), .val (.int (if (fr + k) < tt then (1 : Int32) else (0 : Int32))), .unset, .unset] [])) (fun _ k_ => XS.ifNo X28.here hx rfl (hb hby at_220) rfl ((if0 _ _).trans (tlt (hc200)).2.2.2) k_) ?_
      refine Go.st (S' := T28.setTop (mkF m 225 #[.val (.int p0), .val (.int p1), .val (.int p2), .val (.long q3), .second, .val (.ref b11), .val (.int fr), .val (.int tt), .val (.int k), .val (.ref b20), .val (.int (1 : Int32)), .val (.int ((tt - fr) - k)), .val (.int (if (fr + k) < tt then (1 : Int32) else (0 : Int32))), .unset, .unset] [(.ref b20)])) (fun _ k_ => XS.aload X28.here hx rfl (hb hby at_223) rfl rfl k_) ?_
      have s8 : (fr + k).toInt < 8 := (by have e0 : (0 : Int32).toInt = 0 := rfl; have e1 : (1 : Int32).toInt = 1 := rfl; have e8 : (8 : Int32).toInt = 8 := rfl; have z0 := Int32.lt_iff_toInt_lt.mp hc220; omega)
      obtain ⟨ev, hev⟩ := own_at (xs := [((q3.toInt32).toInt8.toInt32), ((((q3.toUInt64 >>> ((8 : Int32) &&& 0x3f).toInt64.toUInt64).toInt64).toInt32).toInt8.toInt32), ((((q3.toUInt64 >>> ((16 : Int32) &&& 0x3f).toInt64.toUInt64).toInt64).toInt32).toInt8.toInt32), ((((q3.toUInt64 >>> ((24 : Int32) &&& 0x3f).toInt64.toUInt64).toInt64).toInt32).toInt8.toInt32), ((((q3.toUInt64 >>> ((32 : Int32) &&& 0x3f).toInt64.toUInt64).toInt64).toInt32).toInt8.toInt32), ((((q3.toUInt64 >>> ((40 : Int32) &&& 0x3f).toInt64.toUInt64).toInt64).toInt32).toInt8.toInt32), ((((q3.toUInt64 >>> ((48 : Int32) &&& 0x3f).toInt64.toUInt64).toInt64).toInt32).toInt8.toInt32), ((((q3.toUInt64 >>> ((56 : Int32) &&& 0x3f).toInt64.toUInt64).toInt64).toInt32).toInt8.toInt32)]) (own_nat (j := fr + k) (k := 8) (by omega) s8)
      have s9 : ((fr + k) + (1 : Int32)).toInt = fr.toInt + k.toInt + 1 := by rw [own_add (fr + k) 1 (by omega) (by decide) (by rw [show (1 : Int32).toInt = 1 from rfl]; omega), s6]; rfl
      obtain ⟨v29, T29, h29, L29, X29, e29, hQ29, st29⟩ := callVi X28 hx hZ hown (w31 hw) (w32 hw) (w34 hw) (w33 hw) (w4 hw) (w35 hw) (by decide) (W := 0) (argsL := []) (rest := []) e28 BR_b20.1 (br_get l Z a0 hw b20 b11 (fr + k) tt [((q3.toInt32).toInt8.toInt32), ((((q3.toUInt64 >>> ((8 : Int32) &&& 0x3f).toInt64.toUInt64).toInt64).toInt32).toInt8.toInt32), ((((q3.toUInt64 >>> ((16 : Int32) &&& 0x3f).toInt64.toUInt64).toInt64).toInt32).toInt8.toInt32), ((((q3.toUInt64 >>> ((24 : Int32) &&& 0x3f).toInt64.toUInt64).toInt64).toInt32).toInt8.toInt32), ((((q3.toUInt64 >>> ((32 : Int32) &&& 0x3f).toInt64.toUInt64).toInt64).toInt32).toInt8.toInt32), ((((q3.toUInt64 >>> ((40 : Int32) &&& 0x3f).toInt64.toUInt64).toInt64).toInt32).toInt8.toInt32), ((((q3.toUInt64 >>> ((48 : Int32) &&& 0x3f).toInt64.toUInt64).toInt64).toInt32).toInt8.toInt32), ((((q3.toUInt64 >>> ((56 : Int32) &&& 0x3f).toInt64.toUInt64).toInt64).toInt32).toInt8.toInt32)] ev h27 n0 Z0 BR_b20 A_b11 (Ne.symm ne_b11_b20) (by have e0 : (0 : Int32).toInt = 0 := rfl; have e1 : (1 : Int32).toInt = 1 := rfl; have e8 : (8 : Int32).toInt = 8 := rfl; have z0 := Int32.lt_iff_toInt_lt.mp hc220; exact fun q => absurd (Int32.lt_iff_toInt_lt.mp q) (by omega)) (own_nn (by omega)) hev g_b20) (by decide) (by decide) pd4 rfl (g := (mkF m 225 #[.val (.int p0), .val (.int p1), .val (.int p2), .val (.long q3), .second, .val (.ref b11), .val (.int fr), .val (.int tt), .val (.int k), .val (.ref b20), .val (.int (1 : Int32)), .val (.int ((tt - fr) - k)), .val (.int (if (fr + k) < tt then (1 : Int32) else (0 : Int32))), .unset, .unset] [(.ref b20)])) rfl (by rw [hml]; rfl) rfl (by show 2 * 0 + _ ≤ _; exact Nat.le_of_eq rfl) (hb hby at_225) (by decide) (by decide)
      obtain ⟨rfl, Nq29, Kq29, BR_b20⟩ := hQ29
      have N29 := Fr.app N28 Nq29
      replace A_b11 := A_b11.keep Kq29 (ninS ne_b11_b20 nin0)
      replace Z0 := Nat.le_trans Z0 Kq29.1
      refine Go.st (S' := T29.setTop (mkF m 228 #[.val (.int p0), .val (.int p1), .val (.int p2), .val (.long q3), .second, .val (.ref b11), .val (.int fr), .val (.int tt), .val (.int k), .val (.ref b20), .val (.int (1 : Int32)), .val (.int ((tt - fr) - k)), .val (.int (if (fr + k) < tt then (1 : Int32) else (0 : Int32))), .unset, .unset] [(.int ev)])) (st29) ?_
      refine Go.st (S' := T29.setTop (mkF m 230 #[.val (.int p0), .val (.int p1), .val (.int p2), .val (.long q3), .second, .val (.ref b11), .val (.int fr), .val (.int tt), .val (.int k), .val (.ref b20), .val (.int (1 : Int32)), .val (.int ((tt - fr) - k)), .val (.int (if (fr + k) < tt then (1 : Int32) else (0 : Int32))), .val (.int ev), .unset] [])) (fun _ k_ => XS.istore X29.here hx rfl (hb hby at_228) rfl (l' := #[.val (.int p0), .val (.int p1), .val (.int p2), .val (.long q3), .second, .val (.ref b11), .val (.int fr), .val (.int tt), .val (.int k), .val (.ref b20), .val (.int (1 : Int32)), .val (.int ((tt - fr) - k)), .val (.int (if (fr + k) < tt then (1 : Int32) else (0 : Int32))), .val (.int ev), .unset]) rfl k_) ?_
      refine Go.st (S' := T29.setTop (mkF m 232 #[.val (.int p0), .val (.int p1), .val (.int p2), .val (.long q3), .second, .val (.ref b11), .val (.int fr), .val (.int tt), .val (.int k), .val (.ref b20), .val (.int (1 : Int32)), .val (.int ((tt - fr) - k)), .val (.int (if (fr + k) < tt then (1 : Int32) else (0 : Int32))), .val (.int ev), .unset] [(.int (1 : Int32))])) (fun _ k_ => XS.iload X29.here hx rfl (hb hby at_230) rfl k_) ?_
      refine Go.st (S' := T29.setTop (mkF m 235 #[.val (.int p0), .val (.int p1), .val (.int p2), .val (.long q3), .second, .val (.ref b11), .val (.int fr), .val (.int tt), .val (.int k), .val (.ref b20), .val (.int (1 : Int32)), .val (.int ((tt - fr) - k)), .val (.int (if (fr + k) < tt then (1 : Int32) else (0 : Int32))), .val (.int ev), .unset] [])) (fun _ k_ => XS.ifNo X29.here hx rfl (hb hby at_232) rfl ((if0 _ _).trans (feq (by decide)).1) k_) ?_
      refine Go.st (S' := T29.setTop (mkF m 237 #[.val (.int p0), .val (.int p1), .val (.int p2), .val (.long q3), .second, .val (.ref b11), .val (.int fr), .val (.int tt), .val (.int k), .val (.ref b20), .val (.int (1 : Int32)), .val (.int ((tt - fr) - k)), .val (.int (if (fr + k) < tt then (1 : Int32) else (0 : Int32))), .val (.int ev), .unset] [(.int ev)])) (fun _ k_ => XS.iload X29.here hx rfl (hb hby at_235) rfl k_) ?_
      refine Go.st (S' := T29.setTop (mkF m 239 #[.val (.int p0), .val (.int p1), .val (.int p2), .val (.long q3), .second, .val (.ref b11), .val (.int fr), .val (.int tt), .val (.int k), .val (.ref b20), .val (.int (1 : Int32)), .val (.int ((tt - fr) - k)), .val (.int (if (fr + k) < tt then (1 : Int32) else (0 : Int32))), .val (.int ev), .unset] [(.ref b11), (.int ev)])) (fun _ k_ => XS.aload X29.here hx rfl (hb hby at_237) rfl rfl k_) ?_
      refine Go.st (S' := T29.setTop (mkF m 241 #[.val (.int p0), .val (.int p1), .val (.int p2), .val (.long q3), .second, .val (.ref b11), .val (.int fr), .val (.int tt), .val (.int k), .val (.ref b20), .val (.int (1 : Int32)), .val (.int ((tt - fr) - k)), .val (.int (if (fr + k) < tt then (1 : Int32) else (0 : Int32))), .val (.int ev), .unset] [(.int fr), (.ref b11), (.int ev)])) (fun _ k_ => XS.iload X29.here hx rfl (hb hby at_239) rfl k_) ?_
      refine Go.st (S' := T29.setTop (mkF m 243 #[.val (.int p0), .val (.int p1), .val (.int p2), .val (.long q3), .second, .val (.ref b11), .val (.int fr), .val (.int tt), .val (.int k), .val (.ref b20), .val (.int (1 : Int32)), .val (.int ((tt - fr) - k)), .val (.int (if (fr + k) < tt then (1 : Int32) else (0 : Int32))), .val (.int ev), .unset] [(.int k), (.int fr), (.ref b11), (.int ev)])) (fun _ k_ => XS.iload X29.here hx rfl (hb hby at_241) rfl k_) ?_
      refine Go.st (S' := T29.setTop (mkF m 244 #[.val (.int p0), .val (.int p1), .val (.int p2), .val (.long q3), .second, .val (.ref b11), .val (.int fr), .val (.int tt), .val (.int k), .val (.ref b20), .val (.int (1 : Int32)), .val (.int ((tt - fr) - k)), .val (.int (if (fr + k) < tt then (1 : Int32) else (0 : Int32))), .val (.int ev), .unset] [(.int (fr + k)), (.ref b11), (.int ev)])) (fun _ k_ => XS.iadd X29.here hx rfl (hb hby at_243) rfl k_) ?_
      refine Go.st (S' := T29.setTop (mkF m 245 #[.val (.int p0), .val (.int p1), .val (.int p2), .val (.long q3), .second, .val (.ref b11), .val (.int fr), .val (.int tt), .val (.int k), .val (.ref b20), .val (.int (1 : Int32)), .val (.int ((tt - fr) - k)), .val (.int (if (fr + k) < tt then (1 : Int32) else (0 : Int32))), .val (.int ev), .unset] [(.int ev), (.int ev)])) (A_b11.bload X29 hx hZ e29 (j := (fr + k)) (v := ev) (own_nn (by omega)) hev (g := (mkF m 244 #[.val (.int p0), .val (.int p1), .val (.int p2), .val (.long q3), .second, .val (.ref b11), .val (.int fr), .val (.int tt), .val (.int k), .val (.ref b20), .val (.int (1 : Int32)), .val (.int ((tt - fr) - k)), .val (.int (if (fr + k) < tt then (1 : Int32) else (0 : Int32))), .val (.int ev), .unset] [(.int (fr + k)), (.ref b11), (.int ev)])) rfl rfl (hb hby at_244)) ?_
      refine Go.st (S' := T29.setTop (mkF m 248 #[.val (.int p0), .val (.int p1), .val (.int p2), .val (.long q3), .second, .val (.ref b11), .val (.int fr), .val (.int tt), .val (.int k), .val (.ref b20), .val (.int (1 : Int32)), .val (.int ((tt - fr) - k)), .val (.int (if (fr + k) < tt then (1 : Int32) else (0 : Int32))), .val (.int ev), .unset] [])) (fun _ k_ => XS.icmpNo X29.here hx rfl (hb hby at_245) rfl (teq (rfl : ev = ev)).2 k_) ?_
      refine Go.st (S' := T29.setTop (mkF m 249 #[.val (.int p0), .val (.int p1), .val (.int p2), .val (.long q3), .second, .val (.ref b11), .val (.int fr), .val (.int tt), .val (.int k), .val (.ref b20), .val (.int (1 : Int32)), .val (.int ((tt - fr) - k)), .val (.int (if (fr + k) < tt then (1 : Int32) else (0 : Int32))), .val (.int ev), .unset] [(.int (1 : Int32))])) (fun _ k_ => XS.iconst X29.here hx rfl (hb hby at_248) k_) ?_
      refine Go.st (S' := T29.setTop (mkF m 253 #[.val (.int p0), .val (.int p1), .val (.int p2), .val (.long q3), .second, .val (.ref b11), .val (.int fr), .val (.int tt), .val (.int k), .val (.ref b20), .val (.int (1 : Int32)), .val (.int ((tt - fr) - k)), .val (.int (if (fr + k) < tt then (1 : Int32) else (0 : Int32))), .val (.int ev), .unset] [(.int (1 : Int32))])) (fun _ k_ => XS.goto X29.here hx rfl (pc0 := 249) (pc' := 253) rfl (hb hby at_249) (by decide) (by decide) k_) ?_
      refine Go.st (S' := T29.setTop (mkF m 255 #[.val (.int p0), .val (.int p1), .val (.int p2), .val (.long q3), .second, .val (.ref b11), .val (.int fr), .val (.int tt), .val (.int k), .val (.ref b20), .val (.int (1 : Int32)), .val (.int ((tt - fr) - k)), .val (.int (if (fr + k) < tt then (1 : Int32) else (0 : Int32))), .val (.int ev), .unset] [])) (fun _ k_ => XS.istore X29.here hx rfl (hb hby at_253) rfl (l' := #[.val (.int p0), .val (.int p1), .val (.int p2), .val (.long q3), .second, .val (.ref b11), .val (.int fr), .val (.int tt), .val (.int k), .val (.ref b20), .val (.int (1 : Int32)), .val (.int ((tt - fr) - k)), .val (.int (if (fr + k) < tt then (1 : Int32) else (0 : Int32))), .val (.int ev), .unset]) rfl k_) ?_
      refine Go.st (S' := T29.setTop (mkF m 257 #[.val (.int p0), .val (.int p1), .val (.int p2), .val (.long q3), .second, .val (.ref b11), .val (.int fr), .val (.int tt), .val (.int k), .val (.ref b20), .val (.int (1 : Int32)), .val (.int ((tt - fr) - k)), .val (.int (if (fr + k) < tt then (1 : Int32) else (0 : Int32))), .val (.int ev), .unset] [(.ref b20)])) (fun _ k_ => XS.aload X29.here hx rfl (hb hby at_255) rfl rfl k_) ?_
      obtain ⟨v30, T30, h30, L30, X30, e30, hQ30, st30⟩ := callVi X29 hx hZ hown (w17 hw) (w18 hw) (w20 hw) (w19 hw) (w4 hw) (w21 hw) (by decide) (W := 0) (argsL := []) (rest := []) e29 BR_b20.1 (br_more l Z a0 hw b20 b11 ((fr + k) + (1 : Int32)) tt h29 n0 Z0 BR_b20) (by decide) (by decide) pd2 rfl (g := (mkF m 257 #[.val (.int p0), .val (.int p1), .val (.int p2), .val (.long q3), .second, .val (.ref b11), .val (.int fr), .val (.int tt), .val (.int k), .val (.ref b20), .val (.int (1 : Int32)), .val (.int ((tt - fr) - k)), .val (.int (if (fr + k) < tt then (1 : Int32) else (0 : Int32))), .val (.int ev), .unset] [(.ref b20)])) rfl (by rw [hml]; rfl) rfl (by show 2 * 0 + _ ≤ _; exact Nat.le_of_eq rfl) (hb hby at_257) (by decide) (by decide)
      obtain ⟨rfl, Nq30, hh30⟩ := hQ30
      rw [hh30] at e30
      have N30 := Fr.app N29 Nq30
      refine Go.st (S' := T30.setTop (mkF m 260 #[.val (.int p0), .val (.int p1), .val (.int p2), .val (.long q3), .second, .val (.ref b11), .val (.int fr), .val (.int tt), .val (.int k), .val (.ref b20), .val (.int (1 : Int32)), .val (.int ((tt - fr) - k)), .val (.int (if (fr + k) < tt then (1 : Int32) else (0 : Int32))), .val (.int ev), .unset] [(.int (if ((fr + k) + (1 : Int32)) < tt then (1 : Int32) else (0 : Int32)))])) (st30) ?_
      refine Go.st (S' := T30.setTop (mkF m 262 #[.val (.int p0), .val (.int p1), .val (.int p2), .val (.long q3), .second, .val (.ref b11), .val (.int fr), .val (.int tt), .val (.int k), .val (.ref b20), .val (.int (1 : Int32)), .val (.int ((tt - fr) - k)), .val (.int (if (fr + k) < tt then (1 : Int32) else (0 : Int32))), .val (.int ev), .val (.int (if ((fr + k) + (1 : Int32)) < tt then (1 : Int32) else (0 : Int32)))] [])) (fun _ k_ => XS.istore X30.here hx rfl (hb hby at_260) rfl (l' := #[.val (.int p0), .val (.int p1), .val (.int p2), .val (.long q3), .second, .val (.ref b11), .val (.int fr), .val (.int tt), .val (.int k), .val (.ref b20), .val (.int (1 : Int32)), .val (.int ((tt - fr) - k)), .val (.int (if (fr + k) < tt then (1 : Int32) else (0 : Int32))), .val (.int ev), .val (.int (if ((fr + k) + (1 : Int32)) < tt then (1 : Int32) else (0 : Int32)))]) rfl k_) ?_
      refine Go.st (S' := T30.setTop (mkF m 264 #[.val (.int p0), .val (.int p1), .val (.int p2), .val (.long q3), .second, .val (.ref b11), .val (.int fr), .val (.int tt), .val (.int k), .val (.ref b20), .val (.int (1 : Int32)), .val (.int ((tt - fr) - k)), .val (.int (if (fr + k) < tt then (1 : Int32) else (0 : Int32))), .val (.int ev), .val (.int (if ((fr + k) + (1 : Int32)) < tt then (1 : Int32) else (0 : Int32)))] [(.int (1 : Int32))])) (fun _ k_ => XS.iload X30.here hx rfl (hb hby at_262) rfl k_) ?_
      refine Go.st (S' := T30.setTop (mkF m 267 #[.val (.int p0), .val (.int p1), .val (.int p2), .val (.long q3), .second, .val (.ref b11), .val (.int fr), .val (.int tt), .val (.int k), .val (.ref b20), .val (.int (1 : Int32)), .val (.int ((tt - fr) - k)), .val (.int (if (fr + k) < tt then (1 : Int32) else (0 : Int32))), .val (.int ev), .val (.int (if ((fr + k) + (1 : Int32)) < tt then (1 : Int32) else (0 : Int32)))] [])) (fun _ k_ => XS.ifNo X30.here hx rfl (hb hby at_264) rfl ((if0 _ _).trans (feq (by decide)).1) k_) ?_
      refine Go.st (S' := T30.setTop (mkF m 269 #[.val (.int p0), .val (.int p1), .val (.int p2), .val (.long q3), .second, .val (.ref b11), .val (.int fr), .val (.int tt), .val (.int k), .val (.ref b20), .val (.int (1 : Int32)), .val (.int ((tt - fr) - k)), .val (.int (if (fr + k) < tt then (1 : Int32) else (0 : Int32))), .val (.int ev), .val (.int (if ((fr + k) + (1 : Int32)) < tt then (1 : Int32) else (0 : Int32)))] [(.int (if ((fr + k) + (1 : Int32)) < tt then (1 : Int32) else (0 : Int32)))])) (fun _ k_ => XS.iload X30.here hx rfl (hb hby at_267) rfl k_) ?_
      refine Go.st (S' := T30.setTop (mkF m 271 #[.val (.int p0), .val (.int p1), .val (.int p2), .val (.long q3), .second, .val (.ref b11), .val (.int fr), .val (.int tt), .val (.int k), .val (.ref b20), .val (.int (1 : Int32)), .val (.int ((tt - fr) - k)), .val (.int (if (fr + k) < tt then (1 : Int32) else (0 : Int32))), .val (.int ev), .val (.int (if ((fr + k) + (1 : Int32)) < tt then (1 : Int32) else (0 : Int32)))] [(.int ((tt - fr) - k)), (.int (if ((fr + k) + (1 : Int32)) < tt then (1 : Int32) else (0 : Int32)))])) (fun _ k_ => XS.iload X30.here hx rfl (hb hby at_269) rfl k_) ?_
      refine Go.st (S' := T30.setTop (mkF m 272 #[.val (.int p0), .val (.int p1), .val (.int p2), .val (.long q3), .second, .val (.ref b11), .val (.int fr), .val (.int tt), .val (.int k), .val (.ref b20), .val (.int (1 : Int32)), .val (.int ((tt - fr) - k)), .val (.int (if (fr + k) < tt then (1 : Int32) else (0 : Int32))), .val (.int ev), .val (.int (if ((fr + k) + (1 : Int32)) < tt then (1 : Int32) else (0 : Int32)))] [(.int (1 : Int32)), (.int ((tt - fr) - k)), (.int (if ((fr + k) + (1 : Int32)) < tt then (1 : Int32) else (0 : Int32)))])) (fun _ k_ => XS.iconst X30.here hx rfl (hb hby at_271) k_) ?_
      by_cases hc272 : (1 : Int32) < ((tt - fr) - k)
      · skip
        refine Go.st (S' := T30.setTop (mkF m 275 #[.val (.int p0), .val (.int p1), .val (.int p2), .val (.long q3), .second, .val (.ref b11), .val (.int fr), .val (.int tt), .val (.int k), .val (.ref b20), .val (.int (1 : Int32)), .val (.int ((tt - fr) - k)), .val (.int (if (fr + k) < tt then (1 : Int32) else (0 : Int32))), .val (.int ev), .val (.int (if ((fr + k) + (1 : Int32)) < tt then (1 : Int32) else (0 : Int32)))] [(.int (if ((fr + k) + (1 : Int32)) < tt then (1 : Int32) else (0 : Int32)))])) (fun _ k_ => XS.icmpNo X30.here hx rfl (hb hby at_272) rfl (tlt hc272).2.2.2 k_) ?_
        refine Go.st (S' := T30.setTop (mkF m 276 #[.val (.int p0), .val (.int p1), .val (.int p2), .val (.long q3), .second, .val (.ref b11), .val (.int fr), .val (.int tt), .val (.int k), .val (.ref b20), .val (.int (1 : Int32)), .val (.int ((tt - fr) - k)), .val (.int (if (fr + k) < tt then (1 : Int32) else (0 : Int32))), .val (.int ev), .val (.int (if ((fr + k) + (1 : Int32)) < tt then (1 : Int32) else (0 : Int32)))] [(.int (1 : Int32)), (.int (if ((fr + k) + (1 : Int32)) < tt then (1 : Int32) else (0 : Int32)))])) (fun _ k_ => XS.iconst X30.here hx rfl (hb hby at_275) k_) ?_
        refine Go.st (S' := T30.setTop (mkF m 280 #[.val (.int p0), .val (.int p1), .val (.int p2), .val (.long q3), .second, .val (.ref b11), .val (.int fr), .val (.int tt), .val (.int k), .val (.ref b20), .val (.int (1 : Int32)), .val (.int ((tt - fr) - k)), .val (.int (if (fr + k) < tt then (1 : Int32) else (0 : Int32))), .val (.int ev), .val (.int (if ((fr + k) + (1 : Int32)) < tt then (1 : Int32) else (0 : Int32)))] [(.int (1 : Int32)), (.int (if ((fr + k) + (1 : Int32)) < tt then (1 : Int32) else (0 : Int32)))])) (fun _ k_ => XS.goto X30.here hx rfl (pc0 := 276) (pc' := 280) rfl (hb hby at_276) (by decide) (by decide) k_) ?_
        refine Go.st (S' := T30.setTop (mkF m 283 #[.val (.int p0), .val (.int p1), .val (.int p2), .val (.long q3), .second, .val (.ref b11), .val (.int fr), .val (.int tt), .val (.int k), .val (.ref b20), .val (.int (1 : Int32)), .val (.int ((tt - fr) - k)), .val (.int (if (fr + k) < tt then (1 : Int32) else (0 : Int32))), .val (.int ev), .val (.int (if ((fr + k) + (1 : Int32)) < tt then (1 : Int32) else (0 : Int32)))] [])) (fun _ k_ => XS.icmpNo X30.here hx rfl (hb hby at_280) rfl (teq (if_pos (by have e0 : (0 : Int32).toInt = 0 := rfl; have e1 : (1 : Int32).toInt = 1 := rfl; have e8 : (8 : Int32).toInt = 8 := rfl; have z0 := Int32.lt_iff_toInt_lt.mp hc272; exact Int32.lt_iff_toInt_lt.mpr (by omega)))).2 k_) ?_
        refine Go.st (S' := T30.setTop (mkF m 284 #[.val (.int p0), .val (.int p1), .val (.int p2), .val (.long q3), .second, .val (.ref b11), .val (.int fr), .val (.int tt), .val (.int k), .val (.ref b20), .val (.int (1 : Int32)), .val (.int ((tt - fr) - k)), .val (.int (if (fr + k) < tt then (1 : Int32) else (0 : Int32))), .val (.int ev), .val (.int (if ((fr + k) + (1 : Int32)) < tt then (1 : Int32) else (0 : Int32)))] [(.int (1 : Int32))])) (fun _ k_ => XS.iconst X30.here hx rfl (hb hby at_283) k_) ?_
        refine Go.st (S' := T30.setTop (mkF m 288 #[.val (.int p0), .val (.int p1), .val (.int p2), .val (.long q3), .second, .val (.ref b11), .val (.int fr), .val (.int tt), .val (.int k), .val (.ref b20), .val (.int (1 : Int32)), .val (.int ((tt - fr) - k)), .val (.int (if (fr + k) < tt then (1 : Int32) else (0 : Int32))), .val (.int ev), .val (.int (if ((fr + k) + (1 : Int32)) < tt then (1 : Int32) else (0 : Int32)))] [(.int (1 : Int32))])) (fun _ k_ => XS.goto X30.here hx rfl (pc0 := 284) (pc' := 288) rfl (hb hby at_284) (by decide) (by decide) k_) ?_
        refine Go.st (S' := T30.setTop (mkF m 290 #[.val (.int p0), .val (.int p1), .val (.int p2), .val (.long q3), .second, .val (.ref b11), .val (.int fr), .val (.int tt), .val (.int k), .val (.ref b20), .val (.int (1 : Int32)), .val (.int ((tt - fr) - k)), .val (.int (if (fr + k) < tt then (1 : Int32) else (0 : Int32))), .val (.int ev), .val (.int (if ((fr + k) + (1 : Int32)) < tt then (1 : Int32) else (0 : Int32)))] [])) (fun _ k_ => XS.istore X30.here hx rfl (hb hby at_288) rfl (l' := #[.val (.int p0), .val (.int p1), .val (.int p2), .val (.long q3), .second, .val (.ref b11), .val (.int fr), .val (.int tt), .val (.int k), .val (.ref b20), .val (.int (1 : Int32)), .val (.int ((tt - fr) - k)), .val (.int (if (fr + k) < tt then (1 : Int32) else (0 : Int32))), .val (.int ev), .val (.int (if ((fr + k) + (1 : Int32)) < tt then (1 : Int32) else (0 : Int32)))]) rfl k_) ?_
        refine Go.st (S' := T30.setTop (mkF m 292 #[.val (.int p0), .val (.int p1), .val (.int p2), .val (.long q3), .second, .val (.ref b11), .val (.int fr), .val (.int tt), .val (.int k), .val (.ref b20), .val (.int (1 : Int32)), .val (.int ((tt - fr) - k)), .val (.int (if (fr + k) < tt then (1 : Int32) else (0 : Int32))), .val (.int ev), .val (.int (if ((fr + k) + (1 : Int32)) < tt then (1 : Int32) else (0 : Int32)))] [(.int (1 : Int32))])) (fun _ k_ => XS.iload X30.here hx rfl (hb hby at_290) rfl k_) ?_
        exact Go.retN X30 hx (t := .boolean) hret (by simp) hlk (hb hby at_292) (by decide) (by decide) ⟨rfl, N30⟩
      · skip
        refine Go.st (S' := T30.setTop (mkF m 279 #[.val (.int p0), .val (.int p1), .val (.int p2), .val (.long q3), .second, .val (.ref b11), .val (.int fr), .val (.int tt), .val (.int k), .val (.ref b20), .val (.int (1 : Int32)), .val (.int ((tt - fr) - k)), .val (.int (if (fr + k) < tt then (1 : Int32) else (0 : Int32))), .val (.int ev), .val (.int (if ((fr + k) + (1 : Int32)) < tt then (1 : Int32) else (0 : Int32)))] [(.int (if ((fr + k) + (1 : Int32)) < tt then (1 : Int32) else (0 : Int32)))])) (fun _ k_ => XS.icmpYes X30.here hx rfl (pc0 := 272) (pc' := 279) rfl (hb hby at_272) rfl (flt hc272).2.2.2 (by decide) (by decide) k_) ?_
        refine Go.st (S' := T30.setTop (mkF m 280 #[.val (.int p0), .val (.int p1), .val (.int p2), .val (.long q3), .second, .val (.ref b11), .val (.int fr), .val (.int tt), .val (.int k), .val (.ref b20), .val (.int (1 : Int32)), .val (.int ((tt - fr) - k)), .val (.int (if (fr + k) < tt then (1 : Int32) else (0 : Int32))), .val (.int ev), .val (.int (if ((fr + k) + (1 : Int32)) < tt then (1 : Int32) else (0 : Int32)))] [(.int (0 : Int32)), (.int (if ((fr + k) + (1 : Int32)) < tt then (1 : Int32) else (0 : Int32)))])) (fun _ k_ => XS.iconst X30.here hx rfl (hb hby at_279) k_) ?_
        refine Go.st (S' := T30.setTop (mkF m 283 #[.val (.int p0), .val (.int p1), .val (.int p2), .val (.long q3), .second, .val (.ref b11), .val (.int fr), .val (.int tt), .val (.int k), .val (.ref b20), .val (.int (1 : Int32)), .val (.int ((tt - fr) - k)), .val (.int (if (fr + k) < tt then (1 : Int32) else (0 : Int32))), .val (.int ev), .val (.int (if ((fr + k) + (1 : Int32)) < tt then (1 : Int32) else (0 : Int32)))] [])) (fun _ k_ => XS.icmpNo X30.here hx rfl (hb hby at_280) rfl (teq (if_neg (by have e0 : (0 : Int32).toInt = 0 := rfl; have e1 : (1 : Int32).toInt = 1 := rfl; have e8 : (8 : Int32).toInt = 8 := rfl; have y0 := mt Int32.lt_iff_toInt_lt.mpr hc272; exact fun q => absurd (Int32.lt_iff_toInt_lt.mp q) (by omega)))).2 k_) ?_
        refine Go.st (S' := T30.setTop (mkF m 284 #[.val (.int p0), .val (.int p1), .val (.int p2), .val (.long q3), .second, .val (.ref b11), .val (.int fr), .val (.int tt), .val (.int k), .val (.ref b20), .val (.int (1 : Int32)), .val (.int ((tt - fr) - k)), .val (.int (if (fr + k) < tt then (1 : Int32) else (0 : Int32))), .val (.int ev), .val (.int (if ((fr + k) + (1 : Int32)) < tt then (1 : Int32) else (0 : Int32)))] [(.int (1 : Int32))])) (fun _ k_ => XS.iconst X30.here hx rfl (hb hby at_283) k_) ?_
        refine Go.st (S' := T30.setTop (mkF m 288 #[.val (.int p0), .val (.int p1), .val (.int p2), .val (.long q3), .second, .val (.ref b11), .val (.int fr), .val (.int tt), .val (.int k), .val (.ref b20), .val (.int (1 : Int32)), .val (.int ((tt - fr) - k)), .val (.int (if (fr + k) < tt then (1 : Int32) else (0 : Int32))), .val (.int ev), .val (.int (if ((fr + k) + (1 : Int32)) < tt then (1 : Int32) else (0 : Int32)))] [(.int (1 : Int32))])) (fun _ k_ => XS.goto X30.here hx rfl (pc0 := 284) (pc' := 288) rfl (hb hby at_284) (by decide) (by decide) k_) ?_
        refine Go.st (S' := T30.setTop (mkF m 290 #[.val (.int p0), .val (.int p1), .val (.int p2), .val (.long q3), .second, .val (.ref b11), .val (.int fr), .val (.int tt), .val (.int k), .val (.ref b20), .val (.int (1 : Int32)), .val (.int ((tt - fr) - k)), .val (.int (if (fr + k) < tt then (1 : Int32) else (0 : Int32))), .val (.int ev), .val (.int (if ((fr + k) + (1 : Int32)) < tt then (1 : Int32) else (0 : Int32)))] [])) (fun _ k_ => XS.istore X30.here hx rfl (hb hby at_288) rfl (l' := #[.val (.int p0), .val (.int p1), .val (.int p2), .val (.long q3), .second, .val (.ref b11), .val (.int fr), .val (.int tt), .val (.int k), .val (.ref b20), .val (.int (1 : Int32)), .val (.int ((tt - fr) - k)), .val (.int (if (fr + k) < tt then (1 : Int32) else (0 : Int32))), .val (.int ev), .val (.int (if ((fr + k) + (1 : Int32)) < tt then (1 : Int32) else (0 : Int32)))]) rfl k_) ?_
        refine Go.st (S' := T30.setTop (mkF m 292 #[.val (.int p0), .val (.int p1), .val (.int p2), .val (.long q3), .second, .val (.ref b11), .val (.int fr), .val (.int tt), .val (.int k), .val (.ref b20), .val (.int (1 : Int32)), .val (.int ((tt - fr) - k)), .val (.int (if (fr + k) < tt then (1 : Int32) else (0 : Int32))), .val (.int ev), .val (.int (if ((fr + k) + (1 : Int32)) < tt then (1 : Int32) else (0 : Int32)))] [(.int (1 : Int32))])) (fun _ k_ => XS.iload X30.here hx rfl (hb hby at_290) rfl k_) ?_
        exact Go.retN X30 hx (t := .boolean) hret (by simp) hlk (hb hby at_292) (by decide) (by decide) ⟨rfl, N30⟩
    · skip
      refine Go.st (S' := T28.setTop (mkF m 207 #[.val (.int p0), .val (.int p1), .val (.int p2), .val (.long q3), .second, .val (.ref b11), .val (.int fr), .val (.int tt), .val (.int k), .val (.ref b20), .val (.int (1 : Int32)), .val (.int ((tt - fr) - k)), .val (.int (if (fr + k) < tt then (1 : Int32) else (0 : Int32))), .unset, .unset] [(.int (if (fr + k) < tt then (1 : Int32) else (0 : Int32)))])) (fun _ k_ => XS.ifYes X28.here hx rfl (pc0 := 200) (pc' := 207) rfl (hb hby at_200) rfl ((if0 _ _).trans (flt hc200).2.2.2) (by decide) (by decide) k_) ?_
      refine Go.st (S' := T28.setTop (mkF m 208 #[.val (.int p0), .val (.int p1), .val (.int p2), .val (.long q3), .second, .val (.ref b11), .val (.int fr), .val (.int tt), .val (.int k), .val (.ref b20), .val (.int (1 : Int32)), .val (.int ((tt - fr) - k)), .val (.int (if (fr + k) < tt then (1 : Int32) else (0 : Int32))), .unset, .unset] [(.int (0 : Int32)), (.int (if (fr + k) < tt then (1 : Int32) else (0 : Int32)))])) (fun _ k_ => XS.iconst X28.here hx rfl (hb hby at_207) k_) ?_
      refine Go.st (S' := T28.setTop (mkF m 211 #[.val (.int p0), .val (.int p1), .val (.int p2), .val (.long q3), .second, .val (.ref b11), .val (.int fr), .val (.int tt), .val (.int k), .val (.ref b20), .val (.int (1 : Int32)), .val (.int ((tt - fr) - k)), .val (.int (if (fr + k) < tt then (1 : Int32) else (0 : Int32))), .unset, .unset] [])) (fun _ k_ => XS.icmpNo X28.here hx rfl (hb hby at_208) rfl (teq (if_neg (by have e0 : (0 : Int32).toInt = 0 := rfl; have e1 : (1 : Int32).toInt = 1 := rfl; have e8 : (8 : Int32).toInt = 8 := rfl; have y0 := mt Int32.lt_iff_toInt_lt.mpr hc200; exact fun q => absurd (Int32.lt_iff_toInt_lt.mp q) (by omega)))).2 k_) ?_
      refine Go.st (S' := T28.setTop (mkF m 212 #[.val (.int p0), .val (.int p1), .val (.int p2), .val (.long q3), .second, .val (.ref b11), .val (.int fr), .val (.int tt), .val (.int k), .val (.ref b20), .val (.int (1 : Int32)), .val (.int ((tt - fr) - k)), .val (.int (if (fr + k) < tt then (1 : Int32) else (0 : Int32))), .unset, .unset] [(.int (1 : Int32))])) (fun _ k_ => XS.iconst X28.here hx rfl (hb hby at_211) k_) ?_
      refine Go.st (S' := T28.setTop (mkF m 216 #[.val (.int p0), .val (.int p1), .val (.int p2), .val (.long q3), .second, .val (.ref b11), .val (.int fr), .val (.int tt), .val (.int k), .val (.ref b20), .val (.int (1 : Int32)), .val (.int ((tt - fr) - k)), .val (.int (if (fr + k) < tt then (1 : Int32) else (0 : Int32))), .unset, .unset] [(.int (1 : Int32))])) (fun _ k_ => XS.goto X28.here hx rfl (pc0 := 212) (pc' := 216) rfl (hb hby at_212) (by decide) (by decide) k_) ?_
      refine Go.st (S' := T28.setTop (mkF m 218 #[.val (.int p0), .val (.int p1), .val (.int p2), .val (.long q3), .second, .val (.ref b11), .val (.int fr), .val (.int tt), .val (.int k), .val (.ref b20), .val (.int (1 : Int32)), .val (.int ((tt - fr) - k)), .val (.int (if (fr + k) < tt then (1 : Int32) else (0 : Int32))), .unset, .unset] [])) (fun _ k_ => XS.istore X28.here hx rfl (hb hby at_216) rfl (l' := #[.val (.int p0), .val (.int p1), .val (.int p2), .val (.long q3), .second, .val (.ref b11), .val (.int fr), .val (.int tt), .val (.int k), .val (.ref b20), .val (.int (1 : Int32)), .val (.int ((tt - fr) - k)), .val (.int (if (fr + k) < tt then (1 : Int32) else (0 : Int32))), .unset, .unset]) rfl k_) ?_
      refine Go.st (S' := T28.setTop (mkF m 220 #[.val (.int p0), .val (.int p1), .val (.int p2), .val (.long q3), .second, .val (.ref b11), .val (.int fr), .val (.int tt), .val (.int k), .val (.ref b20), .val (.int (1 : Int32)), .val (.int ((tt - fr) - k)), .val (.int (if (fr + k) < tt then (1 : Int32) else (0 : Int32))), .unset, .unset] [(.int ((tt - fr) - k))])) (fun _ k_ => XS.iload X28.here hx rfl (hb hby at_218) rfl k_) ?_
      have hc220 := hc200
      refine Go.st (S' := T28.setTop (mkF m 290 #[.val (.int p0), .val (.int p1), .val (.int p2), .val (.long q3), .second, .val (.ref b11), .val (.int fr), .val (.int tt), .val (.int k), .val (.ref b20), .val (.int (1 : Int32)), .val (.int ((tt - fr) - k)), .val (.int (if (fr + k) < tt then (1 : Int32) else (0 : Int32))), .unset, .unset] [])) (fun _ k_ => XS.ifYes X28.here hx rfl (pc0 := 220) (pc' := 290) rfl (hb hby at_220) rfl ((if0 _ _).trans (flt (hc200)).2.2.2) (by decide) (by decide) k_) ?_
      refine Go.st (S' := T28.setTop (mkF m 292 #[.val (.int p0), .val (.int p1), .val (.int p2), .val (.long q3), .second, .val (.ref b11), .val (.int fr), .val (.int tt), .val (.int k), .val (.ref b20), .val (.int (1 : Int32)), .val (.int ((tt - fr) - k)), .val (.int (if (fr + k) < tt then (1 : Int32) else (0 : Int32))), .unset, .unset] [(.int (1 : Int32))])) (fun _ k_ => XS.iload X28.here hx rfl (hb hby at_290) rfl k_) ?_
      exact Go.retN X28 hx (t := .boolean) hret (by simp) hlk (hb hby at_292) (by decide) (by decide) ⟨rfl, N28⟩
set_option maxRecDepth 65536 in
set_option maxHeartbeats 40000000 in
theorem comes_1 {Post : Tables → Env → Array Value → State → Outcome → State → Prop} (hpost : ∀ tb e args s v u, (limb_1_1.after args s (.returned v) u = true ∧ limb_1_2.after args s (.returned v) u = true ∧ True) → FrameEnd s (.returned v) u (Jvm.fieldLocs frame_1_writes args s ++ Jvm.arrayLocs frame_1_arrays args s ++ Jvm.staticLocs frame_1_statics s) 16 128 → Post tb e args s (.returned v) u) :
    ArmFor flags0 classFile x code maxLocals ret World_1 tables_1 room_1 Calls_1 rest_1 Pre_1 Post := by
  intro l hfl _ _ p e ha hc hk s m args below hf hA hF happ hP
  obtain ⟨hcalls, hrest, hpre⟩ := hP
  obtain ⟨-, -, -, hnamed, -, -, -, hat⟩ := (Spec.applies_iff hf).mp happ
  obtain ⟨hg, hn⟩ := and_e (Cond.before_iff.mp (show (Jvm.Cond.and given_1 narrow_1).before args s = true from hpre))
  obtain ⟨g1, g2⟩ := and_e hg
  obtain ⟨g3, g4⟩ := and_e g2
  obtain ⟨g5, g6⟩ := and_e g4
  obtain ⟨g7, g8⟩ := and_e g6
  obtain ⟨u0, u1, u2, u3, rfl⟩ : ∃ u0 u1 u2 u3 : Value, args = #[u0, u1, u2, u3] := by
    have hs : args.size = 4 := by simpa [Cond.value, given_1] using g1
    obtain ⟨L⟩ := args
    match L, hs with
    | [u0, u1, u2, u3], _ => exact ⟨u0, u1, u2, u3, rfl⟩
  have hw := fun d (hd : d ∈ tables_1) => atoms_spec (ws := Jvm.Cond.code x code maxLocals ret :: tables_1) hat d (List.mem_cons_of_mem _ hd)
  obtain ⟨i0, ei0⟩ := is_v g3
  obtain rfl : u0 = (.int i0) := Option.some.inj ei0
  obtain ⟨i1, ei1⟩ := is_v g5
  obtain rfl : u1 = (.int i1) := Option.some.inj ei1
  obtain ⟨i2, ei2⟩ := is_v g7
  obtain rfl : u2 = (.int i2) := Option.some.inj ei2
  obtain ⟨i3, ei3⟩ := isL_v g8
  obtain rfl : u3 = (.long i3) := Option.some.inj ei3
  obtain ⟨n, o, h1, h2, h3, v, L, rfl, ⟨hv, N⟩, hq⟩ := rm0 l s _ hw tables_1 i0 i1 i2 i3 s.heap s.heap.size (Nat.le_refl _) p e ha hc hk s m _ below hf ((Spec.applies_iff_loose hf).mp happ).1 ⟨rfl, State.Warmed39.refl s, rfl⟩ trivial
  subst hv
  refine ⟨n, _, h1, h2, h3, hpost _ _ _ _ _ _ ⟨Cond.after_iff.mpr rfl, Cond.after_iff.mpr (eq_i res_at (Term.int_eval (1)) rfl), trivial⟩ ⟨hq.1, hq.2.1, (hq.2.2.sift fun y hy => Or.inr (N y hy)).mono (by decide) (by decide)⟩⟩
theorem main_1_1 : Claimed_1_1 := comes_1 fun _ _ _ _ _ _ h hF => ⟨h.1, hF⟩
theorem main_1_2 : Claimed_1_2 := comes_1 fun _ _ _ _ _ _ h hF => ⟨h.2.1, hF⟩
end Jvm.Pilot.@@N@@
namespace Jvm.Pilot.@@N@@
open Jvm Jvm.ClassFile Sem Op Lib Jvm.Free Jvm.Stand Jvm.Pilot.@@N@@.Jvm.D
/-! MADE BY PROGRAM (witnessworld.py) out of the Statement's table words and the real class files: 9 classes; the members and pool entries that the words name. The judged class is class 1, her method 1. -/
namespace start1
open Jvm.ClassFile
def u (s : String) : CpInfo := .utf8 (stringToUtf16 s)
/-- a pool by its gaps: so many unusable entries, then the entry; so many at the end -/
def gap : Nat → List CpInfo → List CpInfo
  | 0, r => r
  | n + 1, r => .unusable :: gap n r
def poolList (es : List (Nat × CpInfo)) (last : Nat) : List CpInfo := es.foldr (fun e r => gap e.1 (e.2 :: r)) (gap last [])
def pool (es : List (Nat × CpInfo)) (last : Nat) : Array CpInfo := ⟨poolList es last⟩
def fileOf (pool : Array CpInfo) (this : Nat) (attrs : Array Attribute := #[]) (ms : Array MethodInfo := #[]) (fl : Nat := 33) (sup : Nat := 0) (ifs : Array Nat := #[]) (fds : Array FieldInfo := #[]) : ClassFile where
  minorVersion := 0
  majorVersion := 65
  constantPool := pool
  accessFlags := fl
  thisClass := this
  superClass := sup
  interfaces := ifs
  fields := fds
  methods := ms
  attributes := attrs
def plain (name : String) (sup : Option ClassId) : Class where
  name := name
  kind := .ordinary
  loader := none
  accessFlags := 33
  super := sup
  interfaces := #[]
  cf := none
  fields := #[]
  methods := #[]
  instanceTypes := #[]
  staticTypes := #[]
  resolved := #[]
  callSites := []
  init := .initialized
  statics := none
  mirror := none

def pool0 : Array CpInfo := pool [(5, u "<init>"), (0, u "()V"), (1, .class_ 10), (1, u "java/lang/Object")] 113

def k0c0 : Code := { maxStack := 0, maxLocals := 1, code := object_method_1_code, exceptionTable := #[], attributes := #[] }
def k0m0 : Method := { name := "<init>", desc := "()V", sig := { parameters := [], returnType := none }, accessFlags := 1, code := some k0c0 }
/-- java/lang/Object -/
def k0 : Class := { plain "java/lang/Object" none with
  accessFlags := 33
  interfaces := #[]
  cf := some (fileOf pool0 8 #[] #[{ accessFlags := 1, nameIndex := 5, descriptorIndex := 6, attributes := #[] }] 33 0 #[] #[])
  fields := #[]
  methods := #[k0m0]
  instanceTypes := #[]
  staticTypes := #[]
  resolved := Array.replicate 124 none
  statics := none }

def pool1 : Array CpInfo := pool [(2, .class_ 4), (1, u "java/lang/Object"), (0, u "<init>"), (0, u "()V"), (0, .integer 2147483647), (0, .class_ 9), (0, u "com/example/exactor/exactor/sql/ByteReader"), (0, .methodref 8 11), (0, .nameAndType 5 12), (0, u "([BII)V"), (0, .methodref 8 14), (0, .nameAndType 15 16), (0, u "more"), (0, u "()Z"), (0, .methodref 8 18), (0, .nameAndType 19 20), (0, u "skip"), (0, u "(I)I"), (0, .methodref 8 22), (0, .nameAndType 23 24), (0, u "get"), (0, u "()B"), (0, .class_ 26), (0, u "com/example/exactor/exactor/sql/ByteReaderMorePinLaw"), (2, u "law"), (0, u "(IIIJ)Z")] 5

def k1m0 : Method := { name := "<init>", desc := "()V", sig := { parameters := [], returnType := none }, accessFlags := 1, code := none }
def k1c1 : Code := { maxStack := 5, maxLocals := 15, code := code, exceptionTable := #[], attributes := #[] }
def k1m1 : Method := { name := "law", desc := "(IIIJ)Z", sig := { parameters := [.int, .int, .int, .long], returnType := some .boolean }, accessFlags := 9, code := some k1c1 }
/-- com/example/exactor/exactor/sql/ByteReaderMorePinLaw -/
def k1 : Class := { plain "com/example/exactor/exactor/sql/ByteReaderMorePinLaw" (some 0) with
  accessFlags := 49
  interfaces := #[]
  cf := some (fileOf pool1 25 #[] #[{ accessFlags := 1, nameIndex := 5, descriptorIndex := 6, attributes := #[] }, { accessFlags := 9, nameIndex := 29, descriptorIndex := 30, attributes := #[] }] 49 2 #[] #[])
  fields := #[]
  methods := #[k1m0, k1m1]
  instanceTypes := #[]
  staticTypes := #[]
  resolved := Array.replicate 36 none
  statics := none }

def pool2 : Array CpInfo := pool [(1, .methodref 2 3), (0, .class_ 4), (0, .nameAndType 5 6), (0, u "java/lang/Object"), (0, u "<init>"), (0, u "()V"), (7, .fieldref 15 16), (0, .class_ 17), (0, .nameAndType 18 19), (0, u "com/example/exactor/exactor/sql/ByteReader"), (0, u "bytes"), (0, u "[B"), (0, .fieldref 15 21), (0, .nameAndType 22 23), (0, u "at"), (0, u "I"), (0, .fieldref 15 25), (0, .nameAndType 26 23), (0, u "limit"), (0, .methodref 15 28), (0, .nameAndType 29 30), (0, u "requireLeft"), (0, u "(I)V"), (4, u "get"), (0, u "()B"), (21, u "skip"), (0, u "(I)I"), (9, u "([BII)V"), (2, u "more"), (0, u "()Z")] 34

def k2c0 : Code := { maxStack := 3, maxLocals := 4, code := prog_52_method_1_code, exceptionTable := #[], attributes := #[] }
def k2m0 : Method := { name := "<init>", desc := "([BII)V", sig := { parameters := [(.array .byte), .int, .int], returnType := none }, accessFlags := 1, code := some k2c0 }
def k2c1 : Code := { maxStack := 2, maxLocals := 1, code := prog_52_method_4_code, exceptionTable := #[], attributes := #[] }
def k2m1 : Method := { name := "more", desc := "()Z", sig := { parameters := [], returnType := some .boolean }, accessFlags := 1, code := some k2c1 }
def k2c2 : Code := { maxStack := 5, maxLocals := 1, code := prog_52_method_5_code, exceptionTable := #[], attributes := #[] }
def k2m2 : Method := { name := "get", desc := "()B", sig := { parameters := [], returnType := some .byte }, accessFlags := 1, code := some k2c2 }
def k2c3 : Code := { maxStack := 3, maxLocals := 3, code := prog_52_method_13_code, exceptionTable := #[], attributes := #[] }
def k2m3 : Method := { name := "skip", desc := "(I)I", sig := { parameters := [.int], returnType := some .int }, accessFlags := 1, code := some k2c3 }
def k2c4 : Code := { maxStack := 3, maxLocals := 2, code := prog_52_method_15_code, exceptionTable := #[], attributes := #[] }
def k2m4 : Method := { name := "requireLeft", desc := "(I)V", sig := { parameters := [.int], returnType := none }, accessFlags := 2, code := some k2c4 }
/-- com/example/exactor/exactor/sql/ByteReader -/
def k2 : Class := { plain "com/example/exactor/exactor/sql/ByteReader" (some 0) with
  accessFlags := 49
  interfaces := #[]
  cf := some (fileOf pool2 15 #[] #[{ accessFlags := 1, nameIndex := 5, descriptorIndex := 69, attributes := #[] }, { accessFlags := 1, nameIndex := 72, descriptorIndex := 73, attributes := #[] }, { accessFlags := 1, nameIndex := 35, descriptorIndex := 36, attributes := #[] }, { accessFlags := 1, nameIndex := 58, descriptorIndex := 59, attributes := #[] }, { accessFlags := 2, nameIndex := 29, descriptorIndex := 30, attributes := #[] }] 49 2 #[] #[{ accessFlags := 18, nameIndex := 18, descriptorIndex := 19, attributes := #[] }, { accessFlags := 18, nameIndex := 26, descriptorIndex := 23, attributes := #[] }, { accessFlags := 2, nameIndex := 22, descriptorIndex := 23, attributes := #[] }])
  fields := #[{ name := "bytes", type := (.array .byte), accessFlags := 18, slot := 0, constantValue := 0 }, { name := "limit", type := .int, accessFlags := 18, slot := 1, constantValue := 0 }, { name := "at", type := .int, accessFlags := 2, slot := 2, constantValue := 0 }]
  methods := #[k2m0, k2m1, k2m2, k2m3, k2m4]
  instanceTypes := #[(.array .byte), .int, .int]
  staticTypes := #[]
  resolved := Array.replicate 108 none
  statics := none }

def pool3 : Array CpInfo := pool [(1, u "java/lang/Cloneable"), (0, .class_ 1), (0, u "java/lang/Object"), (0, .class_ 3)] 3

/-- java/lang/Cloneable -/
def k3 : Class := { plain "java/lang/Cloneable" (some 0) with
  accessFlags := 1537
  interfaces := #[]
  cf := some (fileOf pool3 2 #[] #[] 1537 4 #[] #[])
  fields := #[]
  methods := #[]
  instanceTypes := #[]
  staticTypes := #[]
  resolved := Array.replicate 8 none
  statics := none }

def pool4 : Array CpInfo := pool [(1, u "java/io/Serializable"), (0, .class_ 1), (0, u "java/lang/Object"), (0, .class_ 3)] 3

/-- java/io/Serializable -/
def k4 : Class := { plain "java/io/Serializable" (some 0) with
  accessFlags := 1537
  interfaces := #[]
  cf := some (fileOf pool4 2 #[] #[] 1537 4 #[] #[])
  fields := #[]
  methods := #[]
  instanceTypes := #[]
  staticTypes := #[]
  resolved := Array.replicate 8 none
  statics := none }

/-- the primitive byte -/
def k5 : Class := { plain "byte" none with kind := .primitive 'B', accessFlags := 0x411 }
/-- [B -/
def k6 : Class := { plain "[B" (some 0) with kind := .array 5 .byte, interfaces := #[3, 4], accessFlags := 1041 }

/-- the primitive int -/
def k7 : Class := { plain "int" none with kind := .primitive 'I', accessFlags := 0x411 }
/-- [I -/
def k8 : Class := { plain "[I" (some 0) with kind := .array 7 .int, interfaces := #[3, 4], accessFlags := 1041 }

def heap : Heap := #[]
def classes : Array Class := #[k0, k1, k2, k3, k4, k5, k6, k7, k8]
def interned : List (Array UInt16 × Addr) := []
def slotsUsed : Nat := 0
def theMethod : MethodId := ⟨1, 1⟩
def args0 : Array Value := #[.int 5, .int 7, .int 3, .long 2]
def aboutOver (below : List Frame) : State where
  vm := { classes := classes, interned := interned.toArray }
  heap := heap
  slotsUsed := slotsUsed
  threads := #[{ frames := .invoking theMethod args0 :: below }]
def below0 : List Frame := [.native { method := ⟨0, 0⟩, args := #[] }]
def about1 : State := aboutOver below0
def p0 : Program := .bare "" "" ""
def e0 : Env := launch0.env 0 0 0
theorem w_frames : about1.frames = Frame.invoking theMethod args0 :: below0 := rfl
set_option maxRecDepth 65536 in
theorem w_args : argsFit about1.vm theMethod args0 = true := by decide +kernel
set_option maxRecDepth 65536 in
theorem w_heap : heapFits about1 = true := by decide +kernel
set_option maxRecDepth 65536 in
theorem w_runnable : about1.curStatus? = some .runnable := by decide +kernel
set_option maxRecDepth 65536 in
theorem w_alone : about1.alone = true := by decide +kernel
set_option maxRecDepth 65536 in
theorem w_named : about1.methodNamed? x = some theMethod := by decide +kernel
set_option maxRecDepth 65536 in
theorem w_hears : about1.hears theMethod below0 = true := by decide +kernel
set_option maxRecDepth 65536 in
theorem w_ripe : about1.ripe theMethod args0 below0 = true := by decide +kernel
theorem w_running : about1.status = .running := rfl
set_option maxRecDepth 65536 in
theorem w_room : about1.hasRoom e0.platform room_1 = true :=
  launch0.hasRoom_least _ room_1 (by decide +kernel) (by decide +kernel) (by decide +kernel) (by decide +kernel) (by decide +kernel) (by decide +kernel)
theorem allAtoms_all (ts : List Jvm.Cond) (a : Array Jvm.Value) (st : Jvm.State) : (allAtoms ts).before a st = ts.all (fun c => c.before a st) := by
  induction ts with
  | nil => rfl
  | cons c t ih =>
    show (Jvm.Cond.and c (allAtoms t)).before a st = _
    rw [Jvm.Cond.before_and, ih, List.all_cons]
def words1 : List Jvm.Cond := Jvm.Cond.code x code maxLocals ret :: tables_1
/-- a 'code' word, met by the world's own term for the bytes: nothing is compared byte by byte -/
theorem code_word {y : MethodName} {bytes : ByteArray} {mx : Nat} {rt : Option FieldType} {a : Array Value} {s : State} {m : MethodId} {meth : Method} {c : Code} (h1 : s.methodNamed? y = some m) (h2 : s.vm.method? m = some meth) (h3 : meth.code = some c) (h4 : c.code = bytes)
    (h5 : (c.maxLocals == mx && c.exceptionTable.isEmpty && decide (c.maxStack ≤ mostOperands) && decide (meth.sig.returnType = rt) && !meth.locks && decide (parseMethodDescriptor y.desc = some meth.sig)) = true) : (Jvm.Cond.code y bytes mx rt).before a s = true := by
  simp only [Bool.and_eq_true, beq_iff_eq, Bool.not_eq_true', decide_eq_true_eq] at h5
  obtain ⟨⟨⟨⟨⟨g1, g2⟩, g3⟩, g4⟩, g5⟩, g6⟩ := h5
  simp [Cond.before, Cond.holds, Cond.value, h1, h2, h3, h4, g1, g2, g3, g4, g5, g6]
def isCode : Jvm.Cond → Bool
  | .code _ _ _ _ => true
  | _ => false
theorem all_split {L : List Jvm.Cond} {P : Jvm.Cond → Bool} (h1 : L.all (fun c => isCode c || P c) = true) (h2 : ∀ c ∈ L.filter isCode, P c = true) : L.all P = true := by
  refine List.all_eq_true.mpr fun c hc => ?_
  have h := List.all_eq_true.mp h1 c hc
  rcases Bool.eq_false_or_eq_true (isCode c) with hi | hi
  · exact h2 c (List.mem_filter.mpr ⟨hc, hi⟩)
  · simpa [hi] using h
set_option maxRecDepth 65536 in
theorem w_c0 : (Jvm.Cond.code x code maxLocals ret).before args0 about1 = true := code_word (m := ⟨1, 1⟩) (meth := k1m1) (c := k1c1) (by decide +kernel) rfl rfl rfl (by decide +kernel)
set_option maxRecDepth 65536 in
theorem w_c1 : (Jvm.Cond.code ({ cls := "com/example/exactor/exactor/sql/ByteReader", name := "<init>", desc := "([BII)V" } : Jvm.MethodName) prog_52_method_1_code (4 : Nat) (Option.none : Option Jvm.ClassFile.FieldType)).before args0 about1 = true := code_word (m := ⟨2, 0⟩) (meth := k2m0) (c := k2c0) (by decide +kernel) rfl rfl rfl (by decide +kernel)
set_option maxRecDepth 65536 in
theorem w_c2 : (Jvm.Cond.code ({ cls := "java/lang/Object", name := "<init>", desc := "()V" } : Jvm.MethodName) object_method_1_code (1 : Nat) (Option.none : Option Jvm.ClassFile.FieldType)).before args0 about1 = true := code_word (m := ⟨0, 0⟩) (meth := k0m0) (c := k0c0) (by decide +kernel) rfl rfl rfl (by decide +kernel)
set_option maxRecDepth 65536 in
theorem w_c3 : (Jvm.Cond.code ({ cls := "com/example/exactor/exactor/sql/ByteReader", name := "more", desc := "()Z" } : Jvm.MethodName) prog_52_method_4_code (1 : Nat) (Option.some Jvm.ClassFile.FieldType.boolean)).before args0 about1 = true := code_word (m := ⟨2, 1⟩) (meth := k2m1) (c := k2c1) (by decide +kernel) rfl rfl rfl (by decide +kernel)
set_option maxRecDepth 65536 in
theorem w_c4 : (Jvm.Cond.code ({ cls := "com/example/exactor/exactor/sql/ByteReader", name := "skip", desc := "(I)I" } : Jvm.MethodName) prog_52_method_13_code (3 : Nat) (Option.some Jvm.ClassFile.FieldType.int)).before args0 about1 = true := code_word (m := ⟨2, 3⟩) (meth := k2m3) (c := k2c3) (by decide +kernel) rfl rfl rfl (by decide +kernel)
set_option maxRecDepth 65536 in
theorem w_c5 : (Jvm.Cond.code ({ cls := "com/example/exactor/exactor/sql/ByteReader", name := "requireLeft", desc := "(I)V" } : Jvm.MethodName) prog_52_method_15_code (2 : Nat) (Option.none : Option Jvm.ClassFile.FieldType)).before args0 about1 = true := code_word (m := ⟨2, 4⟩) (meth := k2m4) (c := k2c4) (by decide +kernel) rfl rfl rfl (by decide +kernel)
set_option maxRecDepth 65536 in
theorem w_c6 : (Jvm.Cond.code ({ cls := "com/example/exactor/exactor/sql/ByteReader", name := "get", desc := "()B" } : Jvm.MethodName) prog_52_method_5_code (1 : Nat) (Option.some Jvm.ClassFile.FieldType.byte)).before args0 about1 = true := code_word (m := ⟨2, 2⟩) (meth := k2m2) (c := k2c2) (by decide +kernel) rfl rfl rfl (by decide +kernel)
def codes1 : List Jvm.Cond := [Jvm.Cond.code x code maxLocals ret, Jvm.Cond.code ({ cls := "com/example/exactor/exactor/sql/ByteReader", name := "<init>", desc := "([BII)V" } : Jvm.MethodName) prog_52_method_1_code (4 : Nat) (Option.none : Option Jvm.ClassFile.FieldType), Jvm.Cond.code ({ cls := "java/lang/Object", name := "<init>", desc := "()V" } : Jvm.MethodName) object_method_1_code (1 : Nat) (Option.none : Option Jvm.ClassFile.FieldType), Jvm.Cond.code ({ cls := "com/example/exactor/exactor/sql/ByteReader", name := "more", desc := "()Z" } : Jvm.MethodName) prog_52_method_4_code (1 : Nat) (Option.some Jvm.ClassFile.FieldType.boolean), Jvm.Cond.code ({ cls := "com/example/exactor/exactor/sql/ByteReader", name := "skip", desc := "(I)I" } : Jvm.MethodName) prog_52_method_13_code (3 : Nat) (Option.some Jvm.ClassFile.FieldType.int), Jvm.Cond.code ({ cls := "com/example/exactor/exactor/sql/ByteReader", name := "requireLeft", desc := "(I)V" } : Jvm.MethodName) prog_52_method_15_code (2 : Nat) (Option.none : Option Jvm.ClassFile.FieldType), Jvm.Cond.code ({ cls := "com/example/exactor/exactor/sql/ByteReader", name := "get", desc := "()B" } : Jvm.MethodName) prog_52_method_5_code (1 : Nat) (Option.some Jvm.ClassFile.FieldType.byte)]
set_option maxRecDepth 65536 in
theorem codes_eq : words1.filter isCode = codes1 := rfl
theorem w_codes : ∀ c ∈ words1.filter isCode, c.before args0 about1 = true := by
  rw [codes_eq]
  intro c hc
  simp only [codes1, List.mem_cons, List.not_mem_nil, or_false] at hc
  rcases hc with rfl | rfl | rfl | rfl | rfl | rfl | rfl
  · exact w_c0
  · exact w_c1
  · exact w_c2
  · exact w_c3
  · exact w_c4
  · exact w_c5
  · exact w_c6
set_option maxRecDepth 65536 in
theorem w_t1 : (words1.take 24).all (fun c => isCode c || c.before args0 about1) = true := by decide +kernel
set_option maxRecDepth 65536 in
theorem w_t2 : (words1.drop 24).all (fun c => isCode c || c.before args0 about1) = true := by decide +kernel
theorem w_tables : (allAtoms (Jvm.Cond.code x code maxLocals ret :: tables_1)).before args0 about1 = true := by
  rw [allAtoms_all]
  show words1.all (fun c => c.before args0 about1) = true
  refine all_split ?_ w_codes
  rw [← List.take_append_drop 24 words1, List.all_append, w_t1, w_t2]
  rfl
set_option maxRecDepth 65536 in
theorem w_case : (Jvm.Cond.and given_1 narrow_1).before args0 about1 = true := by decide +kernel
theorem w_applies : (headSpec (Jvm.Cond.code x code maxLocals ret :: tables_1) room_1).applies x e0.platform about1 = true :=
  (Spec.applies_iff w_frames).mpr ⟨w_running, w_runnable, w_alone, w_named, w_hears, w_ripe, w_room, w_tables⟩
theorem atStart : AtStart classFile x code maxLocals ret World_1 tables_1 room_1 Calls_1 rest_1 Pre_1 launch0 p0 e0 about1 theMethod args0 below0 :=
  ⟨lists_1, trivial, launch0.admits_env _ _ _, launch0.least_env, fairChoices_fair.cas, fairChoices_fair.clock, w_frames, w_args, w_heap, w_applies, trivial, trivial, w_case⟩
end start1
theorem witness_1 : WitnessClaimed_1 := ⟨start1.p0, start1.e0, start1.about1, start1.theMethod, start1.args0, start1.below0, start1.atStart⟩
end Jvm.Pilot.@@N@@
