import JvmDerived
import JvmDerived.Pilot.@@N@@Statement
import JvmDerived.Pilot.@@N@@Code
set_option linter.unusedVariables false
set_option linter.unusedSimpArgs false
namespace Jvm.RoadKit
open Sem ClassFile Op Lib Jvm.Stand Jvm.Free Jvm.LawKit
section New
variable {p : Program} {l : Launch} {e : Env} {R : Room} {s : State} {m : MethodId} {args : Array Value} {below : List Frame} {meth : Method} {c : Code} {T : State} {locs : List Loc} {cells slots : Nat}
theorem retI (X : Stand p l e R s m args below meth c T locs cells slots) (hx : p.tables.exec = Jvm.exec) {pc : Nat} {Ls : Array Slot} {z : Int32} {rest : List Value} (hret : meth.sig.returnType = some .int) (hd : decode c.code pc = .ok (.ireturn, 1)) {fs : List Frame}
    (hl : ∀ (f : JFrame) (acts : List Action), f.method = m → f.locked = none → f.entered = [] → (doReturn e (T.setTop f) acts (some (.int z))).1 = T.setFrames fs) : Steps p.tables e below (T.setTop (mkF m pc Ls (.int z :: rest))) (T.setFrames fs) := by
  have hm' : T.vm.method? m = some meth := X.method'
  have hn : narrow .int (.int z) = .int z := rfl
  show Steps p.tables e below (T.setTop { method := m, pc := pc, locals := Ls, stack := _ :: rest, locked := none }) _
  jvm_step X.here [X.here.top, hx, hd, hm', hret, hn]
  first | (intro acts; rw [hl _ acts rfl rfl rfl]) | rw [hl _ _ rfl rfl rfl]
  exact Steps.refl _
end New
end Jvm.RoadKit
namespace Jvm.Pilot.@@N@@
open Jvm Jvm.ClassFile Sem Op Lib Jvm.Free Jvm.Stand Jvm.LawKit Jvm.RoadKit Bundle Jvm.Pilot.@@N@@.Jvm.D
section Own
variable {p : Program} {l : Launch} {e : Env} {R : Room} {s : State} {m : MethodId} {args : Array Value} {below : List Frame} {meth : Method} {c : Code} {T : State} {locs : List Loc} {cells slots : Nat} {Z : State} {a0 : Array Value} {h : Heap} {Q : Option Value → Heap → List Loc → Prop} {C N : Nat}
/-- from the state U the run comes to this invocation's end, which returns, and Q holds of the value, the heap and the written places -/
def zq_Go (p : Program) (e : Env) (below : List Frame) (s : State) (Q : Option Value → Heap → List Loc → Prop) (C N : Nat) (U : State) : Prop :=
  ∃ t o, Steps p.tables e below U t ∧ t.status = .running ∧ Ended t below o ∧ ∃ v L, o = .returned v ∧ Q v t.heap L ∧ FrameEnd s o t L C N
theorem zq_go {A B : State} (k : ∀ t, Steps p.tables e below A t → Steps p.tables e below B t) (h : zq_Go p e below s Q C N A) : zq_Go p e below s Q C N B := by
  obtain ⟨t, o, h1, r⟩ := h
  exact ⟨t, o, k t h1, r⟩
theorem zq_out (X : Stand p l e R s m args below meth c T locs cells slots) (hl : meth.locks = false) {v : Option Value} (hv : meth.sig.returnType = none → v = none) {A : State}
    (k : ∀ fs, (∀ (f : JFrame) (acts : List Action), f.method = m → f.locked = none → f.entered = [] → (doReturn e (T.setTop f) acts v).1 = T.setFrames fs) → Steps p.tables e below A (T.setFrames fs)) (hq : Q v T.heap locs) (hc : cells ≤ C) (hs : slots ≤ N) : zq_Go p e below s Q C N A := by
  obtain ⟨fs, hr, hrun, hended, hW, hsame⟩ := X.leave (v := v) hv hl
  exact ⟨_, _, k fs hr, hrun, hended, v, locs, rfl, hq, ⟨_, rfl⟩, hW, hsame.mono hc hs⟩
theorem zq_retN (X : Stand p l e R s m args below meth c T locs cells slots) (hx : p.tables.exec = Jvm.exec) (hl : meth.locks = false) {pc : Nat} {Ls : Array Slot} {z : Int32} {t : FieldType} {rest : List Value} (hret : meth.sig.returnType = some t) (ht : t = .boolean ∨ t = .byte ∨ t = .char ∨ t = .short)
    (hd : decode c.code pc = .ok (.ireturn, 1)) (hq : Q (some (.int (nar t z))) T.heap locs) (hc : cells ≤ C) (hs : slots ≤ N) : zq_Go p e below s Q C N (T.setTop (mkF m pc Ls (.int z :: rest))) :=
  zq_out X hl (fun h => by rw [hret] at h; cases h) (fun fs hr => retN X hx hret ht hd hr) hq hc hs
theorem zq_retI (X : Stand p l e R s m args below meth c T locs cells slots) (hx : p.tables.exec = Jvm.exec) (hl : meth.locks = false) {pc : Nat} {Ls : Array Slot} {z : Int32} {rest : List Value} (hret : meth.sig.returnType = some .int)
    (hd : decode c.code pc = .ok (.ireturn, 1)) (hq : Q (some (.int z)) T.heap locs) (hc : cells ≤ C) (hs : slots ≤ N) : zq_Go p e below s Q C N (T.setTop (mkF m pc Ls (.int z :: rest))) :=
  zq_out X hl (fun h => by rw [hret] at h; cases h) (fun fs hr => retI X hx hret hd hr) hq hc hs
theorem zq_retJ (X : Stand p l e R s m args below meth c T locs cells slots) (hx : p.tables.exec = Jvm.exec) (hl : meth.locks = false) {pc : Nat} {Ls : Array Slot} {z : Int64} (hret : meth.sig.returnType = some .long)
    (hd : decode c.code pc = .ok (.lreturn, 1)) (hq : Q (some (.long z)) T.heap locs) (hc : cells ≤ C) (hs : slots ≤ N) : zq_Go p e below s Q C N (T.setTop (mkF m pc Ls [.long z])) :=
  zq_out X hl (fun h => by rw [hret] at h; cases h) (fun fs hr => X.lreturnOut hx hret hd hr) hq hc hs
theorem zq_retA (X : Stand p l e R s m args below meth c T locs cells slots) (hx : p.tables.exec = Jvm.exec) (hl : meth.locks = false) {pc : Nat} {Ls : Array Slot} {w : Value} {t : FieldType} (hw : w.isRef = true) (hret : meth.sig.returnType = some t) (ht : t.isReference = true)
    (hd : decode c.code pc = .ok (.areturn, 1)) (hq : Q (some w) T.heap locs) (hc : cells ≤ C) (hs : slots ≤ N) : zq_Go p e below s Q C N (T.setTop (mkF m pc Ls [w])) :=
  zq_out X hl (fun h => by rw [hret] at h; cases h) (fun fs hr => X.areturnOut hx hw hret ht hd hr) hq hc hs
theorem zq_ret0 (X : Stand p l e R s m args below meth c T locs cells slots) (hx : p.tables.exec = Jvm.exec) (hl : meth.locks = false) {pc : Nat} {Ls : Array Slot} (hret : meth.sig.returnType = none)
    (hd : decode c.code pc = .ok (.return_, 1)) (hq : Q none T.heap locs) (hc : cells ≤ C) (hs : slots ≤ N) : zq_Go p e below s Q C N (T.setTop (mkF m pc Ls [])) :=
  zq_out X hl (fun _ => rfl) (fun fs hr => X.returnOut hx hret hd hr) hq hc hs
/-- a method's contract, from the heap h0, for the arguments a -/
abbrev zq_Met (l : Launch) (Z : State) (y : MethodName) (bytes : ByteArray) (maxL : Nat) (ret : Option FieldType) (ws : List Jvm.Cond) (rm : Room) (a : Array Value) (h0 : Heap) (Q : Option Value → Heap → List Loc → Prop) : Prop :=
  MetFree l y (head1 (Jvm.Cond.code y bytes maxL ret :: ws) rm) (fun a' U => a' = a ∧ Z.Warmed39 U.vm ∧ U.heap = h0) (fun _ _ _ _ _ => True) (fun _ U o U' => ∃ v L, o = .returned v ∧ Q v U'.heap L ∧ FrameEnd U o U' L rm.cells rm.slots)
theorem zq_body {y : MethodName} {bytes : ByteArray} {maxL : Nat} {ret : Option FieldType} {ws : List Jvm.Cond} {rm : Room} {a : Array Value} {h0 : Heap} (hpl : plainFor y = true)
    (body : ∀ (p : Program) (e : Env) (s : State) (m : MethodId) (below : List Frame) (meth : Method) (c : Code) (s₁ : State), p.tables.exec = Jvm.exec → Z.Warmed39 s.vm → c.code = bytes → c.maxLocals = maxL → meth.sig.returnType = ret → meth.locks = false → s.vm.findClass y.cls = some m.cls → meth.name = y.name → Stand p l e rm s m a below meth c s₁ [] 0 0 → s₁.heap = h0 → zq_Go p e below s Q rm.cells rm.slots (s₁.setTop (entryFrame m a maxL))) :
    zq_Met l Z y bytes maxL ret ws rm a h0 Q := by
  refine MetFree.of_bodySF hpl hisR ?_
  intro p e s m args below meth c s₁ Bd hml0 hP hK
  obtain ⟨rfl, hZ, hh⟩ := hP
  exact body p e s m below meth c s₁ Bd.exec hZ Bd.bytes hml0 Bd.returns Bd.notSynchronized (findClass_of_methodNamed Bd.named) (name_of_methodNamed Bd.named Bd.method).1 (Stand.of_body Bd) (by rw [← hh, Bd.state]; rfl)
/-- a callee that leaves no trace and returns r -/
def zq_pure (r : Value) (h0 : Heap) : Option Value → Heap → List Loc → Prop := fun v h L => v = some r ∧ L = [] ∧ h = h0
theorem zq_callS (X : Stand p l e R s m args below meth c T locs cells slots) (hx : p.tables.exec = Jvm.exec) (hZ : Z.Warmed39 s.vm) {own : String} {index W : Nat} {y : MethodName} {bytes : ByteArray} {maxL : Nat} {ret : Option FieldType} {rm : Room} (hown : s.vm.findClass own = some m.cls)
    (w1 : (Cond.methodLink own index y).before a0 Z = true) (w2 : (Cond.static y).before a0 Z = true) (w3 : (Cond.initialized y.cls).before a0 Z = true) (w4 : (Cond.code y bytes maxL ret).before a0 Z = true) (hy : y.cls ≠ "java/lang/invoke/MethodHandle" ∧ y.cls ≠ "java/lang/invoke/VarHandle") {argsL rest : List Value}
    (hM : zq_Met l Z y bytes maxL ret [] rm argsL.toArray h Q) (eT : T.heap = h) (hf : rm.frames + 1 ≤ R.frames) (hl : W + (maxL + 11) + rm.locals ≤ R.locals) (hcells : cells + rm.cells ≤ R.cells) (hslots : slots + rm.slots ≤ R.slots)
    {g : JFrame} (hg : g.method = m) (hsize : g.locals.size = c.maxLocals) (hlen : ∀ sig, parseMethodDescriptor y.desc = some sig → argsL.length = sig.parameters.length) (hstack : g.stack = argsL.reverse ++ rest) (hW : 2 * g.monitorRoom + (rest.map fun v => v.category).sum ≤ W) (hdg : decode c.code g.pc = .ok (.invokestatic index, 3)) :
    ∃ (v : Option Value) (T' : State) (L : List Loc), Stand p l e R s m args below meth c T' (locs ++ L) (cells + rm.cells) (slots + rm.slots) ∧ Q v T'.heap L ∧ ∀ target, Steps p.tables e below (T'.setTop { g with pc := g.pc + 3, stack := v.toList ++ rest }) target → Steps p.tables e below (T.setTop g) target := by
  obtain ⟨v, vm₁, ⟨T', L', k', n'⟩, -, X', ⟨L, hQ, e1, e2, e3⟩, st⟩ := Jvm.LawKit.callS X hx (y := y) hown (mvT hZ w1) (mvT hZ w2) (mvT hZ w3) (mvT hZ w4) hy (backOf (W := W) hM hZ w4 w3 hf hl) hg hsize hlen hstack hW hdg (fun _ _ => ⟨rfl, eT, hcells, hslots⟩)
  dsimp only [Pt.U, Pt.locs, Pt.cells, Pt.slots] at X' hQ e1 e2 e3 st
  subst e1 e2 e3
  exact ⟨v, T', L, X', hQ, st⟩
theorem zq_callP (X : Stand p l e R s m args below meth c T locs cells slots) (hx : p.tables.exec = Jvm.exec) (hZ : Z.Warmed39 s.vm) {own : String} {index W : Nat} {y : MethodName} {bytes : ByteArray} {maxL : Nat} {ret : Option FieldType} {rm : Room} {r : Value} (hown : s.vm.findClass own = some m.cls)
    (w1 : (Cond.methodLink own index y).before a0 Z = true) (w2 : (Cond.static y).before a0 Z = true) (w3 : (Cond.initialized y.cls).before a0 Z = true) (w4 : (Cond.code y bytes maxL ret).before a0 Z = true) (hy : y.cls ≠ "java/lang/invoke/MethodHandle" ∧ y.cls ≠ "java/lang/invoke/VarHandle") {argsL rest : List Value}
    (hM : zq_Met l Z y bytes maxL ret [] rm argsL.toArray h (zq_pure r h)) (eT : T.heap = h) (hf : rm.frames + 1 ≤ R.frames) (hl : W + (maxL + 11) + rm.locals ≤ R.locals) (hcells : rm.cells = 0) (hslots : rm.slots = 0) (hC : cells ≤ R.cells) (hN : slots ≤ R.slots)
    {g : JFrame} (hg : g.method = m) (hsize : g.locals.size = c.maxLocals) (hlen : ∀ sig, parseMethodDescriptor y.desc = some sig → argsL.length = sig.parameters.length) (hstack : g.stack = argsL.reverse ++ rest) (hW : 2 * g.monitorRoom + (rest.map fun v => v.category).sum ≤ W) (hdg : decode c.code g.pc = .ok (.invokestatic index, 3)) :
    ∃ T' : State, Stand p l e R s m args below meth c T' locs cells slots ∧ T'.heap = h ∧ ∀ target, Steps p.tables e below (T'.setTop { g with pc := g.pc + 3, stack := r :: rest }) target → Steps p.tables e below (T.setTop g) target := by
  obtain ⟨v, T', L, X', ⟨rfl, rfl, q⟩, st⟩ := zq_callS X hx hZ hown w1 w2 w3 w4 hy hM eT hf hl (by rw [hcells]; exact hC) (by rw [hslots]; exact hN) hg hsize hlen hstack hW hdg
  rw [hcells, hslots, List.append_nil] at X'
  exact ⟨T', X', q, st⟩
/-- what the law's own contract says: it returns 1, and wrote to new cells alone -/
def zq_one (n0 : Nat) : Option Value → Heap → List Loc → Prop := fun v _ L => v = some (.int 1) ∧ Fr n0 L
theorem zq_callC (X : Stand p l e R s m args below meth c T locs cells slots) (hx : p.tables.exec = Jvm.exec) (hZ : Z.Warmed39 s.vm) {own : String} {index W : Nat} {y : MethodName} {bytes : ByteArray} {maxL : Nat} {rm : Room} (hy1 : y.name = "<init>") (hown : s.vm.findClass own = some m.cls)
    (w1 : (Cond.methodLink own index y).before a0 Z = true) (w2 : (Cond.instanceMethod y).before a0 Z = true) (w3 : (Cond.initialized y.cls).before a0 Z = true) (w4 : (Cond.code y bytes maxL none).before a0 Z = true) (hy : y.cls ≠ "java/lang/invoke/MethodHandle" ∧ y.cls ≠ "java/lang/invoke/VarHandle") {a : Addr} {argsL rest : List Value}
    (hM : zq_Met l Z y bytes maxL none [] rm (.ref a :: argsL).toArray h Q) (eT : T.heap = h) (hf : rm.frames + 1 ≤ R.frames) (hl : W + (maxL + 11) + rm.locals ≤ R.locals) (hcells : cells + rm.cells ≤ R.cells) (hslots : slots + rm.slots ≤ R.slots)
    {g : JFrame} (hg : g.method = m) (hsize : g.locals.size = c.maxLocals) (hlen : ∀ sig, parseMethodDescriptor y.desc = some sig → argsL.length = sig.parameters.length) (hstack : g.stack = argsL.reverse ++ .ref a :: rest) (hW : 2 * g.monitorRoom + (rest.map fun v => v.category).sum ≤ W) (hdg : decode c.code g.pc = .ok (.invokespecial index, 3)) :
    ∃ (v : Option Value) (T' : State) (L : List Loc), Stand p l e R s m args below meth c T' (locs ++ L) (cells + rm.cells) (slots + rm.slots) ∧ Q v T'.heap L ∧ ∀ target, Steps p.tables e below (T'.setTop { g with pc := g.pc + 3, stack := v.toList ++ rest }) target → Steps p.tables e below (T.setTop g) target := by
  obtain ⟨v, vm₁, ⟨T', L', k', n'⟩, -, X', ⟨L, hQ, e1, e2, e3⟩, st⟩ := X.specialBack hx (y := y) hy1 hown (mvT hZ w1) (mvT hZ w2) (mvT hZ w4) hy (backOf (W := W) hM hZ w4 w3 hf hl) hg hsize (Steps.refl _) hlen hstack hW hdg (fun _ _ => ⟨rfl, eT, hcells, hslots⟩)
  dsimp only [Pt.U, Pt.locs, Pt.cells, Pt.slots] at X' hQ e1 e2 e3 st
  subst e1 e2 e3
  exact ⟨v, T', L, X', hQ, fun t k => st.trans k⟩
theorem zq_callV (X : Stand p l e R s m args below meth c T locs cells slots) (hx : p.tables.exec = Jvm.exec) (hZ : Z.Warmed39 s.vm) {own : String} {index W : Nat} {y : MethodName} {bytes : ByteArray} {maxL : Nat} {ret : Option FieldType} {rm : Room} (hown : s.vm.findClass own = some m.cls)
    (w1 : (Cond.methodLink own index y).before a0 Z = true) (w2 : (Cond.declares y).before a0 Z = true) (w5 : (Cond.selects y.cls y y).before a0 Z = true) (w6 : (Cond.instanceMethod y).before a0 Z = true) (w3 : (Cond.initialized y.cls).before a0 Z = true) (w4 : (Cond.code y bytes maxL ret).before a0 Z = true) (hy : y.cls ≠ "java/lang/invoke/MethodHandle" ∧ y.cls ≠ "java/lang/invoke/VarHandle") {a : Addr} {argsL rest : List Value}
    (hM : zq_Met l Z y bytes maxL ret [] rm (.ref a :: argsL).toArray h Q) (eT : T.heap = h) (E : Exa Z h a y.cls) (hf : rm.frames + 1 ≤ R.frames) (hl : W + (maxL + 11) + rm.locals ≤ R.locals) (hcells : cells + rm.cells ≤ R.cells) (hslots : slots + rm.slots ≤ R.slots)
    {g : JFrame} (hg : g.method = m) (hsize : g.locals.size = c.maxLocals) (hlen : ∀ sig, parseMethodDescriptor y.desc = some sig → argsL.length = sig.parameters.length) (hstack : g.stack = argsL.reverse ++ .ref a :: rest) (hW : 2 * g.monitorRoom + (rest.map fun v => v.category).sum ≤ W) (hdg : decode c.code g.pc = .ok (.invokevirtual index, 3)) :
    ∃ (v : Option Value) (T' : State) (L : List Loc), Stand p l e R s m args below meth c T' (locs ++ L) (cells + rm.cells) (slots + rm.slots) ∧ Q v T'.heap L ∧ ∀ target, Steps p.tables e below (T'.setTop { g with pc := g.pc + 3, stack := v.toList ++ rest }) target → Steps p.tables e below (T.setTop g) target := by
  obtain ⟨cq, kq, q1, q2, q3⟩ := isOf hZ eT E
  obtain ⟨v, vm₁, ⟨T', L', k', n'⟩, -, X', ⟨L, hQ, e1, e2, e3⟩, st⟩ := X.virtualBack hx (y := y) (z := y) hown (mvT hZ w1) (mvT hZ w2) (notFace_of_selects (args := #[]) (mvT hZ w5)) (mvT hZ w5) (mvT hZ w6) hy (backOf (W := W) hM hZ w4 w3 hf hl) q1 q3 hg hsize (Steps.refl _) hlen hstack hW hdg (fun _ _ => ⟨rfl, eT, hcells, hslots⟩)
  dsimp only [Pt.U, Pt.locs, Pt.cells, Pt.slots] at X' hQ e1 e2 e3 st
  subst e1 e2 e3
  exact ⟨v, T', L, X', hQ, fun t k => st.trans k⟩
theorem zq_callVP (X : Stand p l e R s m args below meth c T locs cells slots) (hx : p.tables.exec = Jvm.exec) (hZ : Z.Warmed39 s.vm) {own : String} {index W : Nat} {y : MethodName} {bytes : ByteArray} {maxL : Nat} {ret : Option FieldType} {rm : Room} {r : Value} (hown : s.vm.findClass own = some m.cls)
    (w1 : (Cond.methodLink own index y).before a0 Z = true) (w2 : (Cond.declares y).before a0 Z = true) (w5 : (Cond.selects y.cls y y).before a0 Z = true) (w6 : (Cond.instanceMethod y).before a0 Z = true) (w3 : (Cond.initialized y.cls).before a0 Z = true) (w4 : (Cond.code y bytes maxL ret).before a0 Z = true) (hy : y.cls ≠ "java/lang/invoke/MethodHandle" ∧ y.cls ≠ "java/lang/invoke/VarHandle") {a : Addr} {argsL rest : List Value}
    (hM : zq_Met l Z y bytes maxL ret [] rm (.ref a :: argsL).toArray h (zq_pure r h)) (eT : T.heap = h) (E : Exa Z h a y.cls) (hf : rm.frames + 1 ≤ R.frames) (hl : W + (maxL + 11) + rm.locals ≤ R.locals) (hcells : rm.cells = 0) (hslots : rm.slots = 0) (hC : cells ≤ R.cells) (hN : slots ≤ R.slots)
    {g : JFrame} (hg : g.method = m) (hsize : g.locals.size = c.maxLocals) (hlen : ∀ sig, parseMethodDescriptor y.desc = some sig → argsL.length = sig.parameters.length) (hstack : g.stack = argsL.reverse ++ .ref a :: rest) (hW : 2 * g.monitorRoom + (rest.map fun v => v.category).sum ≤ W) (hdg : decode c.code g.pc = .ok (.invokevirtual index, 3)) :
    ∃ T' : State, Stand p l e R s m args below meth c T' locs cells slots ∧ T'.heap = h ∧ ∀ target, Steps p.tables e below (T'.setTop { g with pc := g.pc + 3, stack := r :: rest }) target → Steps p.tables e below (T.setTop g) target := by
  obtain ⟨v, T', L, X', ⟨rfl, rfl, q⟩, st⟩ := zq_callV X hx hZ hown w1 w2 w5 w6 w3 w4 hy hM eT E hf hl (by rw [hcells]; exact hC) (by rw [hslots]; exact hN) hg hsize hlen hstack hW hdg
  rw [hcells, hslots, List.append_nil] at X'
  exact ⟨T', X', q, st⟩
/-- a constructor (or a void callee) that leaves no trace -/
def zq_void (h0 : Heap) : Option Value → Heap → List Loc → Prop := fun v h L => v = none ∧ L = [] ∧ h = h0
theorem zq_callC0 (X : Stand p l e R s m args below meth c T locs cells slots) (hx : p.tables.exec = Jvm.exec) (hZ : Z.Warmed39 s.vm) {own : String} {index W : Nat} {y : MethodName} {bytes : ByteArray} {maxL : Nat} {rm : Room} (hy1 : y.name = "<init>") (hown : s.vm.findClass own = some m.cls)
    (w1 : (Cond.methodLink own index y).before a0 Z = true) (w2 : (Cond.instanceMethod y).before a0 Z = true) (w3 : (Cond.initialized y.cls).before a0 Z = true) (w4 : (Cond.code y bytes maxL none).before a0 Z = true) (hy : y.cls ≠ "java/lang/invoke/MethodHandle" ∧ y.cls ≠ "java/lang/invoke/VarHandle") {a : Addr} {argsL rest : List Value}
    (hM : zq_Met l Z y bytes maxL none [] rm (.ref a :: argsL).toArray h (zq_void h)) (eT : T.heap = h) (hf : rm.frames + 1 ≤ R.frames) (hl : W + (maxL + 11) + rm.locals ≤ R.locals) (hcells : rm.cells = 0) (hslots : rm.slots = 0) (hC : cells ≤ R.cells) (hN : slots ≤ R.slots)
    {g : JFrame} (hg : g.method = m) (hsize : g.locals.size = c.maxLocals) (hlen : ∀ sig, parseMethodDescriptor y.desc = some sig → argsL.length = sig.parameters.length) (hstack : g.stack = argsL.reverse ++ .ref a :: rest) (hW : 2 * g.monitorRoom + (rest.map fun v => v.category).sum ≤ W) (hdg : decode c.code g.pc = .ok (.invokespecial index, 3)) :
    ∃ T' : State, Stand p l e R s m args below meth c T' locs cells slots ∧ T'.heap = h ∧ ∀ target, Steps p.tables e below (T'.setTop { g with pc := g.pc + 3, stack := rest }) target → Steps p.tables e below (T.setTop g) target := by
  obtain ⟨v, T', L, X', ⟨rfl, rfl, q⟩, st⟩ := zq_callC X hx hZ hy1 hown w1 w2 w3 w4 hy hM eT hf hl (by rw [hcells]; exact hC) (by rw [hslots]; exact hN) hg hsize hlen hstack hW hdg
  rw [hcells, hslots, List.append_nil] at X'
  exact ⟨T', X', q, st⟩
/-- an array of n places; place j holds f j -/
def zq_A (Z : State) (h : Heap) (a : Addr) (ty : FieldType) (n : Nat) (f : Nat → Value) : Prop := ∃ cl : Cell, Arr Z h a cl ty ∧ cl.slots.size = n ∧ ∀ j, j < n → cl.slots[j]? = some (f j)
variable {h' : Heap} {a b : Addr} {ty : FieldType} {n sl : Nat} {f f' : Nat → Value} {v : Value} {as : List Addr}
theorem zq_A.lt (F : zq_A Z h a ty n f) : a < h.size := by obtain ⟨cl, A, -⟩ := F; exact A.lt
theorem zq_A.ext (F : zq_A Z h a ty n f) (E : Ext h h') : zq_A Z h' a ty n f := by obtain ⟨cl, A, r⟩ := F; exact ⟨cl, A.ext E, r⟩
theorem zq_A.other (F : zq_A Z h b ty n f) (W : Wr h h' a sl v) (q : b ≠ a) : zq_A Z h' b ty n f := by obtain ⟨cl, A, r⟩ := F; exact ⟨cl, A.other W q, r⟩
theorem zq_A.keep (F : zq_A Z h a ty n f) (K : Keep h h' as) (q : a ∉ as) : zq_A Z h' a ty n f := by obtain ⟨cl, A, r⟩ := F; exact ⟨cl, ⟨K.2.1 a cl A.1 q, A.2⟩, r⟩
theorem zq_A.congr (F : zq_A Z h a ty n f) (q : ∀ j, j < n → f j = f' j) : zq_A Z h a ty n f' := by obtain ⟨cl, A, S, H⟩ := F; exact ⟨cl, A, S, fun j hj => by rw [← q j hj]; exact H j hj⟩
theorem zq_A.set (F : zq_A Z h a ty n f) (W : Wr h h' a sl v) : zq_A Z h' a ty n (fun j => if j = sl then v else f j) := by
  obtain ⟨cl, A, S, H⟩ := F
  refine ⟨_, A.same W, ?_, fun j hj => ?_⟩
  · show (cl.slots.setIfInBounds sl v).size = n
    rw [Array.size_setIfInBounds]; exact S
  · show (cl.slots.setIfInBounds sl v)[j]? = some (if j = sl then v else f j)
    by_cases q : j = sl
    · subst q
      rw [if_pos rfl, Array.getElem?_setIfInBounds_self_of_lt (by rw [S]; exact hj)]
    · rw [if_neg q, Array.getElem?_setIfInBounds_ne (Ne.symm q)]; exact H j hj
theorem zq_inb {cl : Cell} {j : Int32} {i : Nat} (S : cl.slots.size = n) (hj : j.toNatClampNeg = i) (h0 : ¬ j < 0) (hi : i < n) : ¬ (j < 0 ∨ cl.slots.size ≤ j.toNatClampNeg) := by
  rintro (q | q)
  · exact h0 q
  · omega
theorem zq_ldI (X : Stand p l e R s m args below meth c T locs cells slots) (hx : p.tables.exec = Jvm.exec) (hZ : Z.Warmed39 s.vm) (eT : T.heap = h) (F : zq_A Z h a .int n f) {j : Int32} {i : Nat} (hj : j.toNatClampNeg = i) (h0 : ¬ j < 0) (hi : i < n)
    {g : JFrame} (hg : g.method = m) {rest : List Value} (hs : g.stack = .int j :: .ref a :: rest) (hd : decode c.code g.pc = .ok (.iaload, 1)) : ∀ target, Steps p.tables e below (T.setTop { g with pc := g.pc + 1, stack := f i :: rest }) target → Steps p.tables e below (T.setTop g) target := by
  obtain ⟨cl, A, S, H⟩ := F
  exact fun t k => X.iaload hx (j := j) (v := f i) (by rw [eT]; exact A.1) (State.isArrayOf_alike hZ.alike A.2.1) A.2.2 (zq_inb S hj h0 hi) (by rw [hj]; exact H i hi) hg hs hd t k
theorem zq_ldB (X : Stand p l e R s m args below meth c T locs cells slots) (hx : p.tables.exec = Jvm.exec) (hZ : Z.Warmed39 s.vm) (eT : T.heap = h) (F : zq_A Z h a .byte n f) {j : Int32} {i : Nat} (hj : j.toNatClampNeg = i) (h0 : ¬ j < 0) (hi : i < n)
    {g : JFrame} (hg : g.method = m) {rest : List Value} (hs : g.stack = .int j :: .ref a :: rest) (hd : decode c.code g.pc = .ok (.baload, 1)) : ∀ target, Steps p.tables e below (T.setTop { g with pc := g.pc + 1, stack := f i :: rest }) target → Steps p.tables e below (T.setTop g) target := by
  obtain ⟨cl, A, S, H⟩ := F
  exact fun t k => X.baloadBytes hx (j := j) (v := f i) (by rw [eT]; exact A.1) (State.isArrayOf_alike hZ.alike A.2.1) A.2.2 (zq_inb S hj h0 hi) (by rw [hj]; exact H i hi) hg hs hd t k
theorem zq_ldC (X : Stand p l e R s m args below meth c T locs cells slots) (hx : p.tables.exec = Jvm.exec) (hZ : Z.Warmed39 s.vm) (eT : T.heap = h) (F : zq_A Z h a .char n f) {j : Int32} {i : Nat} (hj : j.toNatClampNeg = i) (h0 : ¬ j < 0) (hi : i < n)
    {g : JFrame} (hg : g.method = m) {rest : List Value} (hs : g.stack = .int j :: .ref a :: rest) (hd : decode c.code g.pc = .ok (.caload, 1)) : ∀ target, Steps p.tables e below (T.setTop { g with pc := g.pc + 1, stack := f i :: rest }) target → Steps p.tables e below (T.setTop g) target := by
  obtain ⟨cl, A, S, H⟩ := F
  exact fun t k => X.caload hx (j := j) (v := f i) (by rw [eT]; exact A.1) (State.isArrayOf_alike hZ.alike A.2.1) A.2.2 (zq_inb S hj h0 hi) (by rw [hj]; exact H i hi) hg hs hd t k
theorem zq_ldJ (X : Stand p l e R s m args below meth c T locs cells slots) (hx : p.tables.exec = Jvm.exec) (hZ : Z.Warmed39 s.vm) (eT : T.heap = h) (F : zq_A Z h a .long n f) {j : Int32} {i : Nat} (hj : j.toNatClampNeg = i) (h0 : ¬ j < 0) (hi : i < n)
    {g : JFrame} (hg : g.method = m) {rest : List Value} (hs : g.stack = .int j :: .ref a :: rest) (hd : decode c.code g.pc = .ok (.laload, 1)) : ∀ target, Steps p.tables e below (T.setTop { g with pc := g.pc + 1, stack := f i :: rest }) target → Steps p.tables e below (T.setTop g) target := by
  obtain ⟨cl, A, S, H⟩ := F
  exact fun t k => X.laload hx (j := j) (v := f i) (by rw [eT]; exact A.1) (State.isArrayOf_alike hZ.alike A.2.1) A.2.2 (zq_inb S hj h0 hi) (by rw [hj]; exact H i hi) hg hs hd t k
theorem zq_len (X : Stand p l e R s m args below meth c T locs cells slots) (hx : p.tables.exec = Jvm.exec) (hZ : Z.Warmed39 s.vm) (eT : T.heap = h) (F : zq_A Z h a ty n f)
    {g : JFrame} (hg : g.method = m) {rest : List Value} (hs : g.stack = .ref a :: rest) (hd : decode c.code g.pc = .ok (.arraylength, 1)) : ∀ target, Steps p.tables e below (T.setTop { g with pc := g.pc + 1, stack := .int n.toInt32 :: rest }) target → Steps p.tables e below (T.setTop g) target := by
  obtain ⟨cl, A, S, H⟩ := F
  subst S
  exact fun t k => X.arraylength hx (by rw [eT]; exact A.1) (State.isArrayOf_alike hZ.alike A.2.1) hg hs hd t k
theorem zq_stI (X : Stand p l e R s m args below meth c T locs cells slots) (hx : p.tables.exec = Jvm.exec) (hZ : Z.Warmed39 s.vm) (eT : T.heap = h) (F : zq_A Z h a .int n f) {j x : Int32} {i : Nat} (hj : j.toNatClampNeg = i) (h0 : ¬ j < 0) (hi : i < n)
    {g : JFrame} (hg : g.method = m) {rest : List Value} (hs : g.stack = .int x :: .int j :: .ref a :: rest) (hd : decode c.code g.pc = .ok (.iastore, 1)) :
    ∃ T' h', Stand p l e R s m args below meth c T' (locs ++ [⟨a, i⟩]) cells slots ∧ T'.heap = h' ∧ Wr h h' a i (.int x) ∧ zq_A Z h' a .int n (fun k => if k = i then .int x else f k) ∧ ∀ target, Steps p.tables e below (T'.setTop { g with pc := g.pc + 1, stack := rest }) target → Steps p.tables e below (T.setTop g) target := by
  obtain ⟨cl, A, S, H⟩ := F
  subst hj
  obtain ⟨T', h', X', e', W, st⟩ := stI X hx hZ eT A (zq_inb S rfl h0 hi) hg hs hd
  exact ⟨T', h', X', e', W, zq_A.set ⟨cl, A, S, H⟩ W, st⟩
theorem zq_stB (X : Stand p l e R s m args below meth c T locs cells slots) (hx : p.tables.exec = Jvm.exec) (hZ : Z.Warmed39 s.vm) (eT : T.heap = h) (F : zq_A Z h a .byte n f) {j x : Int32} {i : Nat} (hj : j.toNatClampNeg = i) (h0 : ¬ j < 0) (hi : i < n)
    {g : JFrame} (hg : g.method = m) {rest : List Value} (hs : g.stack = .int x :: .int j :: .ref a :: rest) (hd : decode c.code g.pc = .ok (.bastore, 1)) :
    ∃ T' h', Stand p l e R s m args below meth c T' (locs ++ [⟨a, i⟩]) cells slots ∧ T'.heap = h' ∧ Wr h h' a i (.int x.toInt8.toInt32) ∧ zq_A Z h' a .byte n (fun k => if k = i then .int x.toInt8.toInt32 else f k) ∧ ∀ target, Steps p.tables e below (T'.setTop { g with pc := g.pc + 1, stack := rest }) target → Steps p.tables e below (T.setTop g) target := by
  obtain ⟨cl, A, S, H⟩ := F
  subst hj
  obtain ⟨T', h', X', e', W, st⟩ := stB X hx hZ eT A (zq_inb S rfl h0 hi) hg hs hd
  exact ⟨T', h', X', e', W, zq_A.set ⟨cl, A, S, H⟩ W, st⟩
theorem zq_stC (X : Stand p l e R s m args below meth c T locs cells slots) (hx : p.tables.exec = Jvm.exec) (hZ : Z.Warmed39 s.vm) (eT : T.heap = h) (F : zq_A Z h a .char n f) {j x : Int32} {i : Nat} (hj : j.toNatClampNeg = i) (h0 : ¬ j < 0) (hi : i < n)
    {g : JFrame} (hg : g.method = m) {rest : List Value} (hs : g.stack = .int x :: .int j :: .ref a :: rest) (hd : decode c.code g.pc = .ok (.castore, 1)) :
    ∃ T' h', Stand p l e R s m args below meth c T' (locs ++ [⟨a, i⟩]) cells slots ∧ T'.heap = h' ∧ Wr h h' a i (.int x.toUInt32.toUInt16.toUInt32.toInt32) ∧ zq_A Z h' a .char n (fun k => if k = i then .int x.toUInt32.toUInt16.toUInt32.toInt32 else f k) ∧ ∀ target, Steps p.tables e below (T'.setTop { g with pc := g.pc + 1, stack := rest }) target → Steps p.tables e below (T.setTop g) target := by
  obtain ⟨cl, A, S, H⟩ := F
  subst hj
  obtain ⟨T', h', X', e', W, st⟩ := stC X hx hZ eT A (zq_inb S rfl h0 hi) hg hs hd
  exact ⟨T', h', X', e', W, zq_A.set ⟨cl, A, S, H⟩ W, st⟩
theorem zq_stJ (X : Stand p l e R s m args below meth c T locs cells slots) (hx : p.tables.exec = Jvm.exec) (hZ : Z.Warmed39 s.vm) (eT : T.heap = h) (F : zq_A Z h a .long n f) {j : Int32} {x : Int64} {i : Nat} (hj : j.toNatClampNeg = i) (h0 : ¬ j < 0) (hi : i < n)
    {g : JFrame} (hg : g.method = m) {rest : List Value} (hs : g.stack = .long x :: .int j :: .ref a :: rest) (hd : decode c.code g.pc = .ok (.lastore, 1)) :
    ∃ T' h', Stand p l e R s m args below meth c T' (locs ++ [⟨a, i⟩]) cells slots ∧ T'.heap = h' ∧ Wr h h' a i (.long x) ∧ zq_A Z h' a .long n (fun k => if k = i then .long x else f k) ∧ ∀ target, Steps p.tables e below (T'.setTop { g with pc := g.pc + 1, stack := rest }) target → Steps p.tables e below (T.setTop g) target := by
  obtain ⟨cl, A, S, H⟩ := F
  subst hj
  obtain ⟨T', h', X', e', W, st⟩ := stJ X hx hZ eT A (zq_inb S rfl h0 hi) hg hs hd
  exact ⟨T', h', X', e', W, zq_A.set ⟨cl, A, S, H⟩ W, st⟩
theorem zq_newA (X : Stand p l e R s m args below meth c T locs cells slots) (hx : p.tables.exec = Jvm.exec) (hZ : Z.Warmed39 s.vm) {aty : ArrayType} (w : (Cond.arrayClass (newarray.typeOf aty)).before a0 Z = true) (eT : T.heap = h) {g : JFrame} (hg : g.method = m) (hd : decode c.code g.pc = .ok (.newarray aty, 2)) {j : Int32} {rest : List Value} (hs : g.stack = .int j :: rest)
    (h0 : ¬ j < 0) (hj : j.toNatClampNeg = n) {cap : Nat} (hcap : n ≤ cap) (hb : cap * 8 ≤ 536870912) (hc : cells + 1 ≤ R.cells) (hl : slots + cap ≤ R.slots) :
    ∃ T' h' b, b = h.size ∧ Stand p l e R s m args below meth c T' locs (cells + 1) (slots + cap) ∧ T'.heap = h' ∧ Ext h h' ∧ zq_A Z h' b (newarray.typeOf aty) n (fun _ => defaultValue (newarray.typeOf aty)) ∧
      ∀ target, Steps p.tables e below (T'.setTop { g with pc := g.pc + 2, stack := .ref b :: rest }) target → Steps p.tables e below (T.setTop g) target := by
  obtain ⟨T', h', cA, X', e', E', A', st⟩ := newP X hx hZ w eT hg hd hs h0 (cap := cap) (by rw [hj]; exact hcap) hb hc hl
  refine ⟨T', h', _, rfl, X', e', E', ⟨_, A', by rw [sz_new]; exact hj, fun i hi => ?_⟩, st⟩
  show (Array.replicate j.toNatClampNeg _)[i]? = _
  rw [hj, Array.getElem?_replicate, if_pos hi]
theorem zq_newO (X : Stand p l e R s m args below meth c T locs cells slots) (hx : p.tables.exec = Jvm.exec) (hZ : Z.Warmed39 s.vm) {own C : String} {index n : Nat} (hown : s.vm.findClass own = some m.cls) (w : (Cond.classLink own index C).before a0 Z = true) (wi : (Cond.instantiable C n).before a0 Z = true) (wz : (Cond.initialized C).before a0 Z = true) (eT : T.heap = h)
    {g : JFrame} (hg : g.method = m) (hd : decode c.code g.pc = .ok (.new index, 3)) (hc : cells + 1 ≤ R.cells) (hl : slots + n ≤ R.slots) :
    ∃ T' h' b, b = h.size ∧ Stand p l e R s m args below meth c T' locs (cells + 1) (slots + n) ∧ T'.heap = h' ∧ Ext h h' ∧ Exa Z h' b C ∧ (∀ {O nm d : String} {ty : FieldType}, Laid Z a0 C O nm d → parseFieldDescriptor d = some ty → Fld Z h' b O nm d (defaultValue ty)) ∧
      ∀ target, Steps p.tables e below (T'.setTop { g with pc := g.pc + 3, stack := .ref b :: g.stack }) target → Steps p.tables e below (T.setTop g) target := by
  obtain ⟨T', h', X', e', E', A', D', -, st⟩ := newO X hx hZ hown w wi wz eT hg hd hc hl
  exact ⟨T', h', _, rfl, X', e', E', A', D', st⟩
theorem zq_ne (F : a < h.size) (q : b = h.size) : a ≠ b := fun e => absurd F (by rw [e, q]; exact Nat.lt_irrefl _)
theorem zq_ne' (F : a < h.size) (q : b = h.size) : b ≠ a := fun e => absurd F (by rw [← e, q]; exact Nat.lt_irrefl _)
end Own
def zq_bit (w : Int32) : Int32 := if (w &&& (64 : Int32)) = (0 : Int32) then 0 else 1
theorem zq_low {y : Int32} {k : Nat} (h0 : 0 ≤ y.toInt) (h1 : y.toInt < k) (hk : k ≤ 2147483648) : ∃ n : Fin k, y = Int32.ofNat n := by
  have q : ¬ y < 0 := by rw [Int32.lt_iff_toInt_lt]; simp only [Int32.reduceToInt]; omega
  refine ⟨⟨y.toNatClampNeg, by simp only [Int32.toNatClampNeg]; omega⟩, (back32 q).1.symm⟩
theorem zq_mask (x m : Int32) (k : Nat) (hk : k ≤ 31) (hm : m.toBitVec.toNat = 2 ^ k - 1) : ∃ n : Fin (2 ^ k), x &&& m = Int32.ofNat n := by
  have q := c_mask x m k hk hm
  have p : 0 < 2 ^ k := Nat.pow_pos (by decide)
  have r : 2 ^ k ≤ 2 ^ 31 := Nat.pow_le_pow_right (by decide) hk
  exact zq_low (by rw [q]; exact Int.emod_nonneg _ (by omega)) (by rw [q]; exact Int.emod_lt_of_pos _ (by omega)) (by omega)

theorem zq_law (x : Int32) : zq_bit (x &&& (255 : Int32)) = if (((x &&& (255 : Int32)) / (64 : Int32)) - (((x &&& (255 : Int32)) / (64 : Int32)) / (2 : Int32)) * (2 : Int32)) = (1 : Int32) then (1 : Int32) else (0 : Int32) := by
  obtain ⟨n, e⟩ := zq_mask x 255 8 (by decide) (by decide)
  rw [e]
  clear e
  revert n
  decide +kernel
theorem zq_pn0 : plainName "java/lang/Record" = true := by first | (simp [plainName, overriddenIn]; done) | decide +kernel
theorem zq_d2_0 : decode jdk_30_method_1_code 0 = .ok (.aload_n 0, 1) := by decide +kernel
theorem zq_d2_1 : decode jdk_30_method_1_code 1 = .ok (.invokespecial 1, 3) := by decide +kernel
theorem zq_d2_4 : decode jdk_30_method_1_code 4 = .ok (.return_, 1) := by decide +kernel
theorem zq_ef2 (m : MethodId) (x0 : Addr) : entryFrame m #[(.ref x0)] 1 = mkF m 0 #[.val (.ref x0)] [] := by first | (simp [entryFrame, mkF, argsToLocals, Value.category]; done) | rfl
set_option maxRecDepth 65536 in
set_option maxHeartbeats 40000000 in
theorem zq_rmR (l : Launch) (Z : State) (a0 : Array Value) (hw : ∀ d ∈ tables_1, d.before a0 Z = true) (ws : List Jvm.Cond) (a : Addr) (h0 : Heap) :
    zq_Met l Z (⟨"java/lang/Record", "<init>", "()V"⟩ : MethodName) jdk_30_method_1_code 1 none ws ({ frames := 1, cells := 0, slots := 0, locals := 12 } : Room) #[(.ref a)] h0 (zq_void h0) := by
  refine zq_body (plainFor_of_name zq_pn0) ?_
  intro p e s m below meth c s₁ hx hZ hby hml hret hlk hown hnm X0 e0
  refine zq_go (fun _ kq => castTop (zq_ef2 m a) kq) ?_
  show zq_Go p e below s _ _ _ (s₁.setTop (mkF m 0 #[.val (.ref a)] []))
  refine zq_go (fun _ kq => XS.aloadN X0.here hx rfl (hb hby zq_d2_0) rfl rfl kq) ?_
  show zq_Go p e below s _ _ _ (s₁.setTop (mkF m 1 #[.val (.ref a)] [(.ref a)]))
  obtain ⟨T1, X1, e1, st1⟩ := initO X0 hx hZ hown (hw _ (List.mem_of_getElem? (i := 12) rfl)) (hw _ (List.mem_of_getElem? (i := 13) rfl)) (hw _ (List.mem_of_getElem? (i := 14) rfl)) e0 (g := (mkF m 1 #[.val (.ref a)] [(.ref a)])) rfl (by rw [hml]; rfl) rfl (hb hby zq_d2_1) (by decide) (W := 0) (by show 2 * 0 + _ ≤ _; exact Nat.le_of_eq rfl) (by decide)
  refine zq_go st1 ?_
  show zq_Go p e below s _ _ _ (T1.setTop (mkF m 4 #[.val (.ref a)] []))
  exact zq_ret0 X1 hx hlk hret (hb hby zq_d2_4) ⟨rfl, rfl, e1⟩ (by decide) (by decide)
theorem zq_pn1 : plainName "com/example/tideway/tideway/Frame" = true := by first | (simp [plainName, overriddenIn]; done) | decide +kernel
theorem zq_pd2 : parseMethodDescriptor "()V" = some ⟨[], none⟩ := by decide +kernel
theorem zq_d1_0 : decode prog_6_method_1_code 0 = .ok (.aload_n 0, 1) := by decide +kernel
theorem zq_d1_1 : decode prog_6_method_1_code 1 = .ok (.invokespecial 1, 3) := by decide +kernel
theorem zq_d1_4 : decode prog_6_method_1_code 4 = .ok (.aload_n 0, 1) := by decide +kernel
theorem zq_d1_5 : decode prog_6_method_1_code 5 = .ok (.iload_n 1, 1) := by decide +kernel
theorem zq_d1_6 : decode prog_6_method_1_code 6 = .ok (.putfield 7, 3) := by decide +kernel
theorem zq_d1_9 : decode prog_6_method_1_code 9 = .ok (.aload_n 0, 1) := by decide +kernel
theorem zq_d1_10 : decode prog_6_method_1_code 10 = .ok (.iload_n 2, 1) := by decide +kernel
theorem zq_d1_11 : decode prog_6_method_1_code 11 = .ok (.putfield 13, 3) := by decide +kernel
theorem zq_d1_14 : decode prog_6_method_1_code 14 = .ok (.aload_n 0, 1) := by decide +kernel
theorem zq_d1_15 : decode prog_6_method_1_code 15 = .ok (.lload_n 3, 1) := by decide +kernel
theorem zq_d1_16 : decode prog_6_method_1_code 16 = .ok (.putfield 16, 3) := by decide +kernel
theorem zq_d1_19 : decode prog_6_method_1_code 19 = .ok (.aload_n 0, 1) := by decide +kernel
theorem zq_d1_20 : decode prog_6_method_1_code 20 = .ok (.aload 5, 2) := by decide +kernel
theorem zq_d1_22 : decode prog_6_method_1_code 22 = .ok (.putfield 20, 3) := by decide +kernel
theorem zq_d1_25 : decode prog_6_method_1_code 25 = .ok (.return_, 1) := by decide +kernel
theorem zq_ef1 (m : MethodId) (x0 : Addr) (x1 : Int32) (x2 : Int32) (x3 : Int64) (x4 : Addr) : entryFrame m #[(.ref x0), (.int x1), (.int x2), (.long x3), (.ref x4)] 6 = mkF m 0 #[.val (.ref x0), .val (.int x1), .val (.int x2), .val (.long x3), .second, .val (.ref x4)] [] := by first | (simp [entryFrame, mkF, argsToLocals, Value.category]; done) | rfl
set_option maxRecDepth 65536 in
set_option maxHeartbeats 40000000 in
theorem zq_rmF (l : Launch) (Z : State) (a0 : Array Value) (hw : ∀ d ∈ tables_1, d.before a0 Z = true) (ws : List Jvm.Cond) (a : Addr) (x1 : Int32) (x2 : Int32) (x3 : Int64) (x4 : Addr) (h0 : Heap) (n0 : Nat) (u1 u2 u3 u4 : Value) (E_a : Exa Z h0 a "com/example/tideway/tideway/Frame") (F_flags_a : Fld Z h0 a "com/example/tideway/tideway/Frame" "flags" "I" u1) (F_status_a : Fld Z h0 a "com/example/tideway/tideway/Frame" "status" "I" u2) (F_id_a : Fld Z h0 a "com/example/tideway/tideway/Frame" "id" "J" u3) (F_body_a : Fld Z h0 a "com/example/tideway/tideway/Frame" "body" "[B" u4) (g_a : n0 ≤ a) :
    zq_Met l Z (⟨"com/example/tideway/tideway/Frame", "<init>", "(IIJ[B)V"⟩ : MethodName) prog_6_method_1_code 6 none ws ({ frames := 2, cells := 0, slots := 0, locals := 24 } : Room) #[(.ref a), (.int x1), (.int x2), (.long x3), (.ref x4)] h0 (fun v h L => v = none ∧ Fr n0 L ∧ Keep h0 h [a] ∧ Fld Z h a "com/example/tideway/tideway/Frame" "flags" "I" (.int x1)) := by
  refine zq_body (plainFor_of_name zq_pn1) ?_
  intro p e s m below meth c s₁ hx hZ hby hml hret hlk hown hnm X0 e0
  refine zq_go (fun _ kq => castTop (zq_ef1 m a x1 x2 x3 x4) kq) ?_
  have NF := Fr.nil n0
  have KP := Keep.refl h0 [a]
  have ZS : 0 ≤ h0.size := Nat.zero_le _
  show zq_Go p e below s _ _ _ (s₁.setTop (mkF m 0 #[.val (.ref a), .val (.int x1), .val (.int x2), .val (.long x3), .second, .val (.ref x4)] []))
  refine zq_go (fun _ kq => XS.aloadN X0.here hx rfl (hb hby zq_d1_0) rfl rfl kq) ?_
  show zq_Go p e below s _ _ _ (s₁.setTop (mkF m 1 #[.val (.ref a), .val (.int x1), .val (.int x2), .val (.long x3), .second, .val (.ref x4)] [(.ref a)]))
  obtain ⟨T1, X1, e1, st1⟩ := zq_callC0 (W := 0) X0 hx hZ rfl hown (hw _ (List.mem_of_getElem? (i := 7) rfl)) (hw _ (List.mem_of_getElem? (i := 8) rfl)) (hw _ (List.mem_of_getElem? (i := 10) rfl)) (hw _ (List.mem_of_getElem? (i := 11) rfl)) (by decide) (zq_rmR l Z a0 hw [] a h0 ) e0 (by decide) (by decide) rfl rfl (by decide) (by decide) (g := (mkF m 1 #[.val (.ref a), .val (.int x1), .val (.int x2), .val (.long x3), .second, .val (.ref x4)] [(.ref a)])) rfl (by rw [hml]; rfl) (a := a) (argsL := []) (rest := []) (lenOf zq_pd2 rfl) rfl (by show 2 * 0 + _ ≤ _; exact Nat.le_of_eq rfl) (hb hby zq_d1_1)
  refine zq_go st1 ?_
  show zq_Go p e below s _ _ _ (T1.setTop (mkF m 4 #[.val (.ref a), .val (.int x1), .val (.int x2), .val (.long x3), .second, .val (.ref x4)] []))
  refine zq_go (fun _ kq => XS.aloadN X1.here hx rfl (hb hby zq_d1_4) rfl rfl kq) ?_
  show zq_Go p e below s _ _ _ (T1.setTop (mkF m 5 #[.val (.ref a), .val (.int x1), .val (.int x2), .val (.long x3), .second, .val (.ref x4)] [(.ref a)]))
  refine zq_go (fun _ kq => XS.iloadN X1.here hx rfl (hb hby zq_d1_5) rfl kq) ?_
  show zq_Go p e below s _ _ _ (T1.setTop (mkF m 6 #[.val (.ref a), .val (.int x1), .val (.int x2), .val (.long x3), .second, .val (.ref x4)] [(.int x1), (.ref a)]))
  obtain ⟨T2, h2, X2, e2, W2, st2⟩ := putF X1 hx hZ hown (host := "") (Or.inl (hw _ (List.mem_of_getElem? (i := 15) rfl))) Via.refl e1 F_flags_a E_a (Or.inr ⟨(hw _ (List.mem_of_getElem? (i := 16) rfl)), rfl, hnm⟩) (hw _ (List.mem_of_getElem? (i := 2) rfl)) (ty := .int) (by decide) rfl rfl (g := (mkF m 6 #[.val (.ref a), .val (.int x1), .val (.int x2), .val (.long x3), .second, .val (.ref x4)] [(.int x1), (.ref a)])) rfl rfl (hb hby zq_d1_6)
  refine zq_go st2 ?_
  have E_a := E_a.wr W2
  have F_flags_a := F_flags_a.same W2
  have F_status_a := F_status_a.other W2 (Or.inr (slot_ne (Or.inr (hw _ (List.mem_of_getElem? (i := 18) rfl))) (Or.inr (hw _ (List.mem_of_getElem? (i := 16) rfl))) (by decide) (t := .int) (t' := .int) (by decide) (by decide)))
  have F_id_a := F_id_a.other W2 (Or.inr (slot_ne (Or.inr (hw _ (List.mem_of_getElem? (i := 20) rfl))) (Or.inr (hw _ (List.mem_of_getElem? (i := 16) rfl))) (by decide) (t := .long) (t' := .int) (by decide) (by decide)))
  have F_body_a := F_body_a.other W2 (Or.inr (slot_ne (Or.inr (hw _ (List.mem_of_getElem? (i := 22) rfl))) (Or.inr (hw _ (List.mem_of_getElem? (i := 16) rfl))) (by decide) (t := (.array .byte)) (t' := .int) (by decide) (by decide)))
  have ZS := Nat.le_trans ZS (Keep.of_wr W2).1
  have KP := KP.wr W2 (Or.inl (by simp))
  obtain ⟨L2, X2, NF⟩ : ∃ L : List Loc, Stand p l e ({ frames := 2, cells := 0, slots := 0, locals := 24 } : Room) s m #[(.ref a), (.int x1), (.int x2), (.long x3), (.ref x4)] below meth c T2 L 0 0 ∧ Fr n0 L := ⟨_, X2, Fr.snoc X2 NF g_a⟩
  show zq_Go p e below s _ _ _ (T2.setTop (mkF m 9 #[.val (.ref a), .val (.int x1), .val (.int x2), .val (.long x3), .second, .val (.ref x4)] []))
  refine zq_go (fun _ kq => XS.aloadN X2.here hx rfl (hb hby zq_d1_9) rfl rfl kq) ?_
  show zq_Go p e below s _ _ _ (T2.setTop (mkF m 10 #[.val (.ref a), .val (.int x1), .val (.int x2), .val (.long x3), .second, .val (.ref x4)] [(.ref a)]))
  refine zq_go (fun _ kq => XS.iloadN X2.here hx rfl (hb hby zq_d1_10) rfl kq) ?_
  show zq_Go p e below s _ _ _ (T2.setTop (mkF m 11 #[.val (.ref a), .val (.int x1), .val (.int x2), .val (.long x3), .second, .val (.ref x4)] [(.int x2), (.ref a)]))
  obtain ⟨T3, h3, X3, e3, W3, st3⟩ := putF X2 hx hZ hown (host := "") (Or.inl (hw _ (List.mem_of_getElem? (i := 17) rfl))) Via.refl e2 F_status_a E_a (Or.inr ⟨(hw _ (List.mem_of_getElem? (i := 18) rfl)), rfl, hnm⟩) (hw _ (List.mem_of_getElem? (i := 2) rfl)) (ty := .int) (by decide) rfl rfl (g := (mkF m 11 #[.val (.ref a), .val (.int x1), .val (.int x2), .val (.long x3), .second, .val (.ref x4)] [(.int x2), (.ref a)])) rfl rfl (hb hby zq_d1_11)
  refine zq_go st3 ?_
  have E_a := E_a.wr W3
  have F_flags_a := F_flags_a.other W3 (Or.inr (slot_ne (Or.inr (hw _ (List.mem_of_getElem? (i := 16) rfl))) (Or.inr (hw _ (List.mem_of_getElem? (i := 18) rfl))) (by decide) (t := .int) (t' := .int) (by decide) (by decide)))
  have F_status_a := F_status_a.same W3
  have F_id_a := F_id_a.other W3 (Or.inr (slot_ne (Or.inr (hw _ (List.mem_of_getElem? (i := 20) rfl))) (Or.inr (hw _ (List.mem_of_getElem? (i := 18) rfl))) (by decide) (t := .long) (t' := .int) (by decide) (by decide)))
  have F_body_a := F_body_a.other W3 (Or.inr (slot_ne (Or.inr (hw _ (List.mem_of_getElem? (i := 22) rfl))) (Or.inr (hw _ (List.mem_of_getElem? (i := 18) rfl))) (by decide) (t := (.array .byte)) (t' := .int) (by decide) (by decide)))
  have ZS := Nat.le_trans ZS (Keep.of_wr W3).1
  have KP := KP.wr W3 (Or.inl (by simp))
  obtain ⟨L3, X3, NF⟩ : ∃ L : List Loc, Stand p l e ({ frames := 2, cells := 0, slots := 0, locals := 24 } : Room) s m #[(.ref a), (.int x1), (.int x2), (.long x3), (.ref x4)] below meth c T3 L 0 0 ∧ Fr n0 L := ⟨_, X3, Fr.snoc X3 NF g_a⟩
  show zq_Go p e below s _ _ _ (T3.setTop (mkF m 14 #[.val (.ref a), .val (.int x1), .val (.int x2), .val (.long x3), .second, .val (.ref x4)] []))
  refine zq_go (fun _ kq => XS.aloadN X3.here hx rfl (hb hby zq_d1_14) rfl rfl kq) ?_
  show zq_Go p e below s _ _ _ (T3.setTop (mkF m 15 #[.val (.ref a), .val (.int x1), .val (.int x2), .val (.long x3), .second, .val (.ref x4)] [(.ref a)]))
  refine zq_go (fun _ kq => XS.lloadN X3.here hx rfl (hb hby zq_d1_15) rfl kq) ?_
  show zq_Go p e below s _ _ _ (T3.setTop (mkF m 16 #[.val (.ref a), .val (.int x1), .val (.int x2), .val (.long x3), .second, .val (.ref x4)] [(.long x3), (.ref a)]))
  obtain ⟨T4, h4, X4, e4, W4, st4⟩ := putF X3 hx hZ hown (host := "") (Or.inl (hw _ (List.mem_of_getElem? (i := 19) rfl))) Via.refl e3 F_id_a E_a (Or.inr ⟨(hw _ (List.mem_of_getElem? (i := 20) rfl)), rfl, hnm⟩) (hw _ (List.mem_of_getElem? (i := 2) rfl)) (ty := .long) (by decide) rfl rfl (g := (mkF m 16 #[.val (.ref a), .val (.int x1), .val (.int x2), .val (.long x3), .second, .val (.ref x4)] [(.long x3), (.ref a)])) rfl rfl (hb hby zq_d1_16)
  refine zq_go st4 ?_
  have E_a := E_a.wr W4
  have F_flags_a := F_flags_a.other W4 (Or.inr (slot_ne (Or.inr (hw _ (List.mem_of_getElem? (i := 16) rfl))) (Or.inr (hw _ (List.mem_of_getElem? (i := 20) rfl))) (by decide) (t := .int) (t' := .long) (by decide) (by decide)))
  have F_status_a := F_status_a.other W4 (Or.inr (slot_ne (Or.inr (hw _ (List.mem_of_getElem? (i := 18) rfl))) (Or.inr (hw _ (List.mem_of_getElem? (i := 20) rfl))) (by decide) (t := .int) (t' := .long) (by decide) (by decide)))
  have F_id_a := F_id_a.same W4
  have F_body_a := F_body_a.other W4 (Or.inr (slot_ne (Or.inr (hw _ (List.mem_of_getElem? (i := 22) rfl))) (Or.inr (hw _ (List.mem_of_getElem? (i := 20) rfl))) (by decide) (t := (.array .byte)) (t' := .long) (by decide) (by decide)))
  have ZS := Nat.le_trans ZS (Keep.of_wr W4).1
  have KP := KP.wr W4 (Or.inl (by simp))
  obtain ⟨L4, X4, NF⟩ : ∃ L : List Loc, Stand p l e ({ frames := 2, cells := 0, slots := 0, locals := 24 } : Room) s m #[(.ref a), (.int x1), (.int x2), (.long x3), (.ref x4)] below meth c T4 L 0 0 ∧ Fr n0 L := ⟨_, X4, Fr.snoc X4 NF g_a⟩
  show zq_Go p e below s _ _ _ (T4.setTop (mkF m 19 #[.val (.ref a), .val (.int x1), .val (.int x2), .val (.long x3), .second, .val (.ref x4)] []))
  refine zq_go (fun _ kq => XS.aloadN X4.here hx rfl (hb hby zq_d1_19) rfl rfl kq) ?_
  show zq_Go p e below s _ _ _ (T4.setTop (mkF m 20 #[.val (.ref a), .val (.int x1), .val (.int x2), .val (.long x3), .second, .val (.ref x4)] [(.ref a)]))
  refine zq_go (fun _ kq => XS.aload X4.here hx rfl (hb hby zq_d1_20) rfl rfl kq) ?_
  show zq_Go p e below s _ _ _ (T4.setTop (mkF m 22 #[.val (.ref a), .val (.int x1), .val (.int x2), .val (.long x3), .second, .val (.ref x4)] [(.ref x4), (.ref a)]))
  obtain ⟨T5, h5, X5, e5, W5, st5⟩ := putF X4 hx hZ hown (host := "") (Or.inl (hw _ (List.mem_of_getElem? (i := 21) rfl))) Via.refl e4 F_body_a E_a (Or.inr ⟨(hw _ (List.mem_of_getElem? (i := 22) rfl)), rfl, hnm⟩) (hw _ (List.mem_of_getElem? (i := 2) rfl)) (ty := (.array .byte)) (by decide) rfl rfl (g := (mkF m 22 #[.val (.ref a), .val (.int x1), .val (.int x2), .val (.long x3), .second, .val (.ref x4)] [(.ref x4), (.ref a)])) rfl rfl (hb hby zq_d1_22)
  refine zq_go st5 ?_
  have E_a := E_a.wr W5
  have F_flags_a := F_flags_a.other W5 (Or.inr (slot_ne (Or.inr (hw _ (List.mem_of_getElem? (i := 16) rfl))) (Or.inr (hw _ (List.mem_of_getElem? (i := 22) rfl))) (by decide) (t := .int) (t' := (.array .byte)) (by decide) (by decide)))
  have F_status_a := F_status_a.other W5 (Or.inr (slot_ne (Or.inr (hw _ (List.mem_of_getElem? (i := 18) rfl))) (Or.inr (hw _ (List.mem_of_getElem? (i := 22) rfl))) (by decide) (t := .int) (t' := (.array .byte)) (by decide) (by decide)))
  have F_id_a := F_id_a.other W5 (Or.inr (slot_ne (Or.inr (hw _ (List.mem_of_getElem? (i := 20) rfl))) (Or.inr (hw _ (List.mem_of_getElem? (i := 22) rfl))) (by decide) (t := .long) (t' := (.array .byte)) (by decide) (by decide)))
  have F_body_a := F_body_a.same W5
  have ZS := Nat.le_trans ZS (Keep.of_wr W5).1
  have KP := KP.wr W5 (Or.inl (by simp))
  obtain ⟨L5, X5, NF⟩ : ∃ L : List Loc, Stand p l e ({ frames := 2, cells := 0, slots := 0, locals := 24 } : Room) s m #[(.ref a), (.int x1), (.int x2), (.long x3), (.ref x4)] below meth c T5 L 0 0 ∧ Fr n0 L := ⟨_, X5, Fr.snoc X5 NF g_a⟩
  show zq_Go p e below s _ _ _ (T5.setTop (mkF m 25 #[.val (.ref a), .val (.int x1), .val (.int x2), .val (.long x3), .second, .val (.ref x4)] []))
  exact zq_ret0 X5 hx hlk hret (hb hby zq_d1_25) (by rw [e5]; exact ⟨rfl, NF, KP, F_flags_a⟩) (by decide) (by decide)
theorem zq_d4_0 : decode prog_6_method_6_code 0 = .ok (.aload_n 0, 1) := by decide +kernel
theorem zq_d4_1 : decode prog_6_method_6_code 1 = .ok (.getfield 7, 3) := by decide +kernel
theorem zq_d4_4 : decode prog_6_method_6_code 4 = .ok (.bipush 64, 2) := by decide +kernel
theorem zq_d4_6 : decode prog_6_method_6_code 6 = .ok (.iand, 1) := by decide +kernel
theorem zq_d4_7 : decode prog_6_method_6_code 7 = .ok (.ifCond .eq 7, 3) := by decide +kernel
theorem zq_d4_10 : decode prog_6_method_6_code 10 = .ok (.iconst 1, 1) := by decide +kernel
theorem zq_d4_11 : decode prog_6_method_6_code 11 = .ok (.goto 4, 3) := by decide +kernel
theorem zq_d4_14 : decode prog_6_method_6_code 14 = .ok (.iconst 0, 1) := by decide +kernel
theorem zq_d4_15 : decode prog_6_method_6_code 15 = .ok (.ireturn, 1) := by decide +kernel
theorem zq_ef4 (m : MethodId) (x0 : Addr) : entryFrame m #[(.ref x0)] 1 = mkF m 0 #[.val (.ref x0)] [] := by first | (simp [entryFrame, mkF, argsToLocals, Value.category]; done) | rfl
set_option maxRecDepth 65536 in
set_option maxHeartbeats 40000000 in
theorem zq_rmB (l : Launch) (Z : State) (a0 : Array Value) (hw : ∀ d ∈ tables_1, d.before a0 Z = true) (ws : List Jvm.Cond) (a : Addr) (h0 : Heap) (w : Int32) (F_flags_a : Fld Z h0 a "com/example/tideway/tideway/Frame" "flags" "I" (.int w)) :
    zq_Met l Z (⟨"com/example/tideway/tideway/Frame", "isTwoWay", "()Z"⟩ : MethodName) prog_6_method_6_code 1 (some .boolean) ws ({ frames := 0, cells := 0, slots := 0, locals := 0 } : Room) #[(.ref a)] h0 (zq_pure (.int (zq_bit w)) h0) := by
  refine zq_body (plainFor_of_name zq_pn1) ?_
  intro p e s m below meth c s₁ hx hZ hby hml hret hlk hown hnm X0 e0
  refine zq_go (fun _ kq => castTop (zq_ef4 m a) kq) ?_
  show zq_Go p e below s _ _ _ (s₁.setTop (mkF m 0 #[.val (.ref a)] []))
  refine zq_go (fun _ kq => XS.aloadN X0.here hx rfl (hb hby zq_d4_0) rfl rfl kq) ?_
  show zq_Go p e below s _ _ _ (s₁.setTop (mkF m 1 #[.val (.ref a)] [(.ref a)]))
  obtain ⟨T1, X1, e1, st1⟩ := getF X0 hx hZ hown (host := "") (Or.inl (hw _ (List.mem_of_getElem? (i := 15) rfl))) Via.refl e0 F_flags_a (g := (mkF m 1 #[.val (.ref a)] [(.ref a)])) rfl rfl (hb hby zq_d4_1)
  refine zq_go st1 ?_
  show zq_Go p e below s _ _ _ (T1.setTop (mkF m 4 #[.val (.ref a)] [(.int w)]))
  refine zq_go (fun _ kq => XS.bipush X1.here hx rfl (hb hby zq_d4_4) kq) ?_
  show zq_Go p e below s _ _ _ (T1.setTop (mkF m 6 #[.val (.ref a)] [(.int (64 : Int32)), (.int w)]))
  refine zq_go (fun _ kq => XS.iand X1.here hx rfl (hb hby zq_d4_6) rfl kq) ?_
  show zq_Go p e below s _ _ _ (T1.setTop (mkF m 7 #[.val (.ref a)] [(.int (w &&& (64 : Int32)))]))
  obtain ⟨v7_0, hv7_0⟩ : ∃ z : Int32, z = (if (w &&& (64 : Int32)) = (0 : Int32) then (0 : Int32) else (1 : Int32)) := ⟨_, rfl⟩
  have J7 : ∀ (T4_15j2 : State), Stand p l e ({ frames := 0, cells := 0, slots := 0, locals := 0 } : Room) s m #[(.ref a)] below meth c T4_15j2 [] 0 0 → T4_15j2.heap = h0 → zq_Go p e below s (zq_pure (.int (zq_bit w)) h0) ({ frames := 0, cells := 0, slots := 0, locals := 0 } : Room).cells ({ frames := 0, cells := 0, slots := 0, locals := 0 } : Room).slots (T4_15j2.setTop (mkF m 15 #[.val (.ref a)] [(.int v7_0)])) := by
    intro T4_15j2 X4_15j2 e4_15j2
    show zq_Go p e below s _ _ _ (T4_15j2.setTop (mkF m 15 #[.val (.ref a)] [(.int v7_0)]))
    exact zq_retN X4_15j2 hx hlk (t := .boolean) hret (by simp) (hb hby zq_d4_15) ⟨by rw [hv7_0]; simp only [zq_bit]; split <;> rfl, rfl, e4_15j2⟩ (by decide) (by decide)
  by_cases hc7 : (w &&& (64 : Int32)) = (0 : Int32)
  ·
    rw [if_pos hc7] at hv7_0
    rw [hv7_0] at J7
    refine zq_go (fun _ kq => XS.ifYes X1.here hx rfl (pc0 := 7) (pc' := 14) rfl (hb hby zq_d4_7) rfl ((if0 _ _).trans (teq hc7).1) (by decide) (by decide) kq) ?_
    show zq_Go p e below s _ _ _ (T1.setTop (mkF m 14 #[.val (.ref a)] []))
    refine zq_go (fun _ kq => XS.iconst X1.here hx rfl (hb hby zq_d4_14) kq) ?_
    exact J7 _ X1 e1
  rw [if_neg hc7] at hv7_0
  rw [hv7_0] at J7
  refine zq_go (fun _ kq => XS.ifNo X1.here hx rfl (hb hby zq_d4_7) rfl ((if0 _ _).trans (feq hc7).1) kq) ?_
  show zq_Go p e below s _ _ _ (T1.setTop (mkF m 10 #[.val (.ref a)] []))
  refine zq_go (fun _ kq => XS.iconst X1.here hx rfl (hb hby zq_d4_10) kq) ?_
  show zq_Go p e below s _ _ _ (T1.setTop (mkF m 11 #[.val (.ref a)] [(.int (1 : Int32))]))
  refine zq_go (fun _ kq => XS.goto X1.here hx rfl (pc0 := 11) (pc' := 15) rfl (hb hby zq_d4_11) (by decide) (by decide) kq) ?_
  exact J7 _ X1 e1
theorem zq_pd3 : parseMethodDescriptor "(IIJ[B)V" = some ⟨[.int, .int, .long, (.array .byte)], none⟩ := by decide +kernel
theorem zq_d5_0 : decode prog_6_method_2_code 0 = .ok (.new 8, 3) := by decide +kernel
theorem zq_d5_3 : decode prog_6_method_2_code 3 = .ok (.dup, 1) := by decide +kernel
theorem zq_d5_4 : decode prog_6_method_2_code 4 = .ok (.sipush 194, 3) := by decide +kernel
theorem zq_d5_7 : decode prog_6_method_2_code 7 = .ok (.iconst 0, 1) := by decide +kernel
theorem zq_d5_8 : decode prog_6_method_2_code 8 = .ok (.lload_n 0, 1) := by decide +kernel
theorem zq_d5_9 : decode prog_6_method_2_code 9 = .ok (.aload_n 2, 1) := by decide +kernel
theorem zq_d5_10 : decode prog_6_method_2_code 10 = .ok (.invokespecial 24, 3) := by decide +kernel
theorem zq_d5_13 : decode prog_6_method_2_code 13 = .ok (.areturn, 1) := by decide +kernel
theorem zq_ef5 (m : MethodId) (x0 : Int64) (x1 : Addr) : entryFrame m #[(.long x0), (.ref x1)] 3 = mkF m 0 #[.val (.long x0), .second, .val (.ref x1)] [] := by first | (simp [entryFrame, mkF, argsToLocals, Value.category]; done) | rfl
set_option maxRecDepth 65536 in
set_option maxHeartbeats 40000000 in
theorem zq_rmQ (l : Launch) (Z : State) (a0 : Array Value) (hw : ∀ d ∈ tables_1, d.before a0 Z = true) (ws : List Jvm.Cond) (i : Int64) (bd : Addr) (h0 : Heap) (n0 : Nat) (ZS : n0 ≤ h0.size) :
    zq_Met l Z (⟨"com/example/tideway/tideway/Frame", "request", "(J[B)Lcom/example/tideway/tideway/Frame;"⟩ : MethodName) prog_6_method_2_code 3 (some (.object "com/example/tideway/tideway/Frame")) ws ({ frames := 3, cells := 1, slots := 4, locals := 42 } : Room) #[(.long i), (.ref bd)] h0 (fun v h L => ∃ b, v = some (.ref b) ∧ Fr n0 L ∧ Keep h0 h [] ∧ Exa Z h b "com/example/tideway/tideway/Frame" ∧ Fld Z h b "com/example/tideway/tideway/Frame" "flags" "I" (.int (194 : Int32))) := by
  refine zq_body (plainFor_of_name zq_pn1) ?_
  intro p e s m below meth c s₁ hx hZ hby hml hret hlk hown hnm X0 e0
  refine zq_go (fun _ kq => castTop (zq_ef5 m i bd) kq) ?_
  have NF := Fr.nil n0
  have KP := Keep.refl h0 []
  show zq_Go p e below s _ _ _ (s₁.setTop (mkF m 0 #[.val (.long i), .second, .val (.ref bd)] []))
  obtain ⟨T1, h1, b1, gb1, X1, e1, E1, E_b1, D1, st1⟩ := zq_newO X0 hx hZ hown (hw _ (List.mem_of_getElem? (i := 31) rfl)) (hw _ (List.mem_of_getElem? (i := 2) rfl)) (hw _ (List.mem_of_getElem? (i := 3) rfl)) e0 (g := (mkF m 0 #[.val (.long i), .second, .val (.ref bd)] [])) rfl (hb hby zq_d5_0) (by decide) (by decide)
  have g_b1 : n0 ≤ b1 := by rw [gb1]; exact ZS
  have sz_b1 : h0.size ≤ b1 := by rw [gb1]; exact KP.1
  have ZS := Nat.le_trans ZS E1.1
  have KP := KP.ext E1
  have X1 : Stand p l e ({ frames := 3, cells := 1, slots := 4, locals := 42 } : Room) s m #[(.long i), (.ref bd)] below meth c T1 [] 1 4 := X1
  have F_flags_b1 : Fld Z h1 b1 "com/example/tideway/tideway/Frame" "flags" "I" (.int (0 : Int32)) := D1 (Or.inr (hw _ (List.mem_of_getElem? (i := 16) rfl))) (ty := .int) (by decide)
  have F_status_b1 : Fld Z h1 b1 "com/example/tideway/tideway/Frame" "status" "I" (.int (0 : Int32)) := D1 (Or.inr (hw _ (List.mem_of_getElem? (i := 18) rfl))) (ty := .int) (by decide)
  have F_id_b1 : Fld Z h1 b1 "com/example/tideway/tideway/Frame" "id" "J" (.long (0 : Int64)) := D1 (Or.inr (hw _ (List.mem_of_getElem? (i := 20) rfl))) (ty := .long) (by decide)
  have F_body_b1 : Fld Z h1 b1 "com/example/tideway/tideway/Frame" "body" "[B" .null := D1 (Or.inr (hw _ (List.mem_of_getElem? (i := 22) rfl))) (ty := (.array .byte)) (by decide)
  refine zq_go st1 ?_
  show zq_Go p e below s _ _ _ (T1.setTop (mkF m 3 #[.val (.long i), .second, .val (.ref bd)] [(.ref b1)]))
  refine zq_go (fun _ kq => XS.dup X1.here hx rfl (hb hby zq_d5_3) rfl rfl kq) ?_
  show zq_Go p e below s _ _ _ (T1.setTop (mkF m 4 #[.val (.long i), .second, .val (.ref bd)] [(.ref b1), (.ref b1)]))
  refine zq_go (fun _ kq => XS.sipush X1.here hx rfl (hb hby zq_d5_4) kq) ?_
  show zq_Go p e below s _ _ _ (T1.setTop (mkF m 7 #[.val (.long i), .second, .val (.ref bd)] [(.int (194 : Int32)), (.ref b1), (.ref b1)]))
  refine zq_go (fun _ kq => XS.iconst X1.here hx rfl (hb hby zq_d5_7) kq) ?_
  show zq_Go p e below s _ _ _ (T1.setTop (mkF m 8 #[.val (.long i), .second, .val (.ref bd)] [(.int (0 : Int32)), (.int (194 : Int32)), (.ref b1), (.ref b1)]))
  refine zq_go (fun _ kq => XS.lloadN X1.here hx rfl (hb hby zq_d5_8) rfl kq) ?_
  show zq_Go p e below s _ _ _ (T1.setTop (mkF m 9 #[.val (.long i), .second, .val (.ref bd)] [(.long i), (.int (0 : Int32)), (.int (194 : Int32)), (.ref b1), (.ref b1)]))
  refine zq_go (fun _ kq => XS.aloadN X1.here hx rfl (hb hby zq_d5_9) rfl rfl kq) ?_
  show zq_Go p e below s _ _ _ (T1.setTop (mkF m 10 #[.val (.long i), .second, .val (.ref bd)] [(.ref bd), (.long i), (.int (0 : Int32)), (.int (194 : Int32)), (.ref b1), (.ref b1)]))
  obtain ⟨_, T2, L2, X2, ⟨rfl, Nq2, K2, Fq2⟩, st2⟩ := zq_callC (W := 1) X1 hx hZ rfl hown (hw _ (List.mem_of_getElem? (i := 32) rfl)) (hw _ (List.mem_of_getElem? (i := 5) rfl)) (hw _ (List.mem_of_getElem? (i := 3) rfl)) (hw _ (List.mem_of_getElem? (i := 6) rfl)) (by decide) (zq_rmF l Z a0 hw [] b1 (194 : Int32) (0 : Int32) i bd h1 n0 _ _ _ _ E_b1 F_flags_b1 F_status_b1 F_id_b1 F_body_b1 g_b1) e1 (by decide) (by decide) (by decide) (by decide) (g := (mkF m 10 #[.val (.long i), .second, .val (.ref bd)] [(.ref bd), (.long i), (.int (0 : Int32)), (.int (194 : Int32)), (.ref b1), (.ref b1)])) rfl (by rw [hml]; rfl) (a := b1) (argsL := [(.int (194 : Int32)), (.int (0 : Int32)), (.long i), (.ref bd)]) (rest := [(.ref b1)]) (lenOf zq_pd3 rfl) rfl (by show 2 * 0 + _ ≤ _; exact Nat.le_of_eq rfl) (hb hby zq_d5_10)
  have E_b1 := E_b1.keep K2
  have ZS := Nat.le_trans ZS K2.1
  have KP := KP.trans K2 (allS (P := fun x => x ∈ [] ∨ h0.size ≤ x) (Or.inr sz_b1) (all0))
  have F_flags_b1 := Fq2
  obtain ⟨L2, X2, NF⟩ : ∃ L : List Loc, Stand p l e ({ frames := 3, cells := 1, slots := 4, locals := 42 } : Room) s m #[(.long i), (.ref bd)] below meth c T2 L 1 4 ∧ Fr n0 L := ⟨_, X2, Fr.app NF Nq2⟩
  refine zq_go st2 ?_
  show zq_Go p e below s _ _ _ (T2.setTop (mkF m 13 #[.val (.long i), .second, .val (.ref bd)] [(.ref b1)]))
  exact zq_retA X2 hx hlk rfl hret rfl (hb hby zq_d5_13) ⟨b1, rfl, NF, KP, E_b1, F_flags_b1⟩ (by decide) (by decide)
theorem zq_pn4 : plainName "com/example/tideway/tideway/FrameIsTwoWayPinLaw" = true := by first | (simp [plainName, overriddenIn]; done) | decide +kernel
theorem zq_pd5 : parseMethodDescriptor "()Z" = some ⟨[], some .boolean⟩ := by decide +kernel
theorem zq_pd6 : parseMethodDescriptor "(J[B)Lcom/example/tideway/tideway/Frame;" = some ⟨[.long, (.array .byte)], some (.object "com/example/tideway/tideway/Frame")⟩ := by decide +kernel
theorem zq_ef0 (m : MethodId) (x0 : Int32) (x1 : Int32) (x2 : Int64) (x3 : Int32) : entryFrame m #[(.int x0), (.int x1), (.long x2), (.int x3)] maxLocals = mkF m 0 #[.val (.int x0), .val (.int x1), .val (.long x2), .second, .val (.int x3), .unset, .unset, .unset, .unset, .unset, .unset, .unset] [] := by first | (simp [entryFrame, mkF, argsToLocals, Value.category, maxLocals]; done) | rfl
set_option maxRecDepth 65536 in
set_option maxHeartbeats 40000000 in
theorem zq_rm0 (l : Launch) (Z : State) (a0 : Array Value) (hw : ∀ d ∈ tables_1, d.before a0 Z = true) (ws : List Jvm.Cond) (x0 : Int32) (x1 : Int32) (x2 : Int64) (x3 : Int32) (h0 : Heap) :
    zq_Met l Z x code maxLocals ret ws room_1 #[(.int x0), (.int x1), (.long x2), (.int x3)] h0 (zq_one h0.size) := by
  refine zq_body (plainFor_of_name zq_pn4) ?_
  intro p e s m below meth c s₁ hx hZ hby hml hret hlk hown hnm X0 e0
  refine zq_go (fun _ kq => castTop (zq_ef0 m x0 x1 x2 x3) kq) ?_
  have NF := Fr.nil h0.size
  have ZS : h0.size ≤ h0.size := Nat.le_refl _
  show zq_Go p e below s _ _ _ (s₁.setTop (mkF m 0 #[.val (.int x0), .val (.int x1), .val (.long x2), .second, .val (.int x3), .unset, .unset, .unset, .unset, .unset, .unset, .unset] []))
  refine zq_go (fun _ kq => XS.iloadN X0.here hx rfl (hb hby at_0) rfl kq) ?_
  show zq_Go p e below s _ _ _ (s₁.setTop (mkF m 1 #[.val (.int x0), .val (.int x1), .val (.long x2), .second, .val (.int x3), .unset, .unset, .unset, .unset, .unset, .unset, .unset] [(.int x0)]))
  refine zq_go (fun _ kq => XS.sipush X0.here hx rfl (hb hby at_1) kq) ?_
  show zq_Go p e below s _ _ _ (s₁.setTop (mkF m 4 #[.val (.int x0), .val (.int x1), .val (.long x2), .second, .val (.int x3), .unset, .unset, .unset, .unset, .unset, .unset, .unset] [(.int (255 : Int32)), (.int x0)]))
  refine zq_go (fun _ kq => XS.iand X0.here hx rfl (hb hby at_4) rfl kq) ?_
  show zq_Go p e below s _ _ _ (s₁.setTop (mkF m 5 #[.val (.int x0), .val (.int x1), .val (.long x2), .second, .val (.int x3), .unset, .unset, .unset, .unset, .unset, .unset, .unset] [(.int (x0 &&& (255 : Int32)))]))
  refine zq_go (fun _ kq => XS.istore X0.here hx rfl (hb hby at_5) rfl (l' := #[.val (.int x0), .val (.int x1), .val (.long x2), .second, .val (.int x3), .val (.int (x0 &&& (255 : Int32))), .unset, .unset, .unset, .unset, .unset, .unset]) rfl kq) ?_
  show zq_Go p e below s _ _ _ (s₁.setTop (mkF m 7 #[.val (.int x0), .val (.int x1), .val (.long x2), .second, .val (.int x3), .val (.int (x0 &&& (255 : Int32))), .unset, .unset, .unset, .unset, .unset, .unset] []))
  refine zq_go (fun _ kq => XS.iloadN X0.here hx rfl (hb hby at_7) rfl kq) ?_
  show zq_Go p e below s _ _ _ (s₁.setTop (mkF m 8 #[.val (.int x0), .val (.int x1), .val (.long x2), .second, .val (.int x3), .val (.int (x0 &&& (255 : Int32))), .unset, .unset, .unset, .unset, .unset, .unset] [(.int x1)]))
  refine zq_go (fun _ kq => XS.sipush X0.here hx rfl (hb hby at_8) kq) ?_
  show zq_Go p e below s _ _ _ (s₁.setTop (mkF m 11 #[.val (.int x0), .val (.int x1), .val (.long x2), .second, .val (.int x3), .val (.int (x0 &&& (255 : Int32))), .unset, .unset, .unset, .unset, .unset, .unset] [(.int (255 : Int32)), (.int x1)]))
  refine zq_go (fun _ kq => XS.iand X0.here hx rfl (hb hby at_11) rfl kq) ?_
  show zq_Go p e below s _ _ _ (s₁.setTop (mkF m 12 #[.val (.int x0), .val (.int x1), .val (.long x2), .second, .val (.int x3), .val (.int (x0 &&& (255 : Int32))), .unset, .unset, .unset, .unset, .unset, .unset] [(.int (x1 &&& (255 : Int32)))]))
  refine zq_go (fun _ kq => XS.istore X0.here hx rfl (hb hby at_12) rfl (l' := #[.val (.int x0), .val (.int x1), .val (.long x2), .second, .val (.int x3), .val (.int (x0 &&& (255 : Int32))), .val (.int (x1 &&& (255 : Int32))), .unset, .unset, .unset, .unset, .unset]) rfl kq) ?_
  show zq_Go p e below s _ _ _ (s₁.setTop (mkF m 14 #[.val (.int x0), .val (.int x1), .val (.long x2), .second, .val (.int x3), .val (.int (x0 &&& (255 : Int32))), .val (.int (x1 &&& (255 : Int32))), .unset, .unset, .unset, .unset, .unset] []))
  refine zq_go (fun _ kq => XS.iconst X0.here hx rfl (hb hby at_14) kq) ?_
  show zq_Go p e below s _ _ _ (s₁.setTop (mkF m 15 #[.val (.int x0), .val (.int x1), .val (.long x2), .second, .val (.int x3), .val (.int (x0 &&& (255 : Int32))), .val (.int (x1 &&& (255 : Int32))), .unset, .unset, .unset, .unset, .unset] [(.int (1 : Int32))]))
  obtain ⟨T1, h1, b1, gb1, X1, e1, E1, A_b1, st1⟩ := zq_newA (aty := .byte) X0 hx hZ (hw _ (List.mem_of_getElem? (i := 0) rfl)) e0 (g := (mkF m 15 #[.val (.int x0), .val (.int x1), .val (.long x2), .second, .val (.int x3), .val (.int (x0 &&& (255 : Int32))), .val (.int (x1 &&& (255 : Int32))), .unset, .unset, .unset, .unset, .unset] [(.int (1 : Int32))])) rfl (hb hby at_15) rfl (by decide) (n := 1) (by decide) (cap := 1) (by decide) (by decide) (by decide) (by decide)
  have g_b1 : h0.size ≤ b1 := by rw [gb1]; exact ZS
  have ZS := Nat.le_trans ZS E1.1
  have X1 : Stand p l e room_1 s m #[(.int x0), (.int x1), (.long x2), (.int x3)] below meth c T1 [] 1 1 := X1
  have A_b1 : zq_A Z h1 b1 .byte 1 (fun k => .int (([(0 : Int32)] : List Int32).getD k 0)) := A_b1.congr (fun j hj => by match j, hj with | 0, _ => rfl | (j + 1), hj => exact absurd hj (by omega))
  refine zq_go st1 ?_
  show zq_Go p e below s _ _ _ (T1.setTop (mkF m 17 #[.val (.int x0), .val (.int x1), .val (.long x2), .second, .val (.int x3), .val (.int (x0 &&& (255 : Int32))), .val (.int (x1 &&& (255 : Int32))), .unset, .unset, .unset, .unset, .unset] [(.ref b1)]))
  refine zq_go (fun _ kq => XS.dup X1.here hx rfl (hb hby at_17) rfl rfl kq) ?_
  show zq_Go p e below s _ _ _ (T1.setTop (mkF m 18 #[.val (.int x0), .val (.int x1), .val (.long x2), .second, .val (.int x3), .val (.int (x0 &&& (255 : Int32))), .val (.int (x1 &&& (255 : Int32))), .unset, .unset, .unset, .unset, .unset] [(.ref b1), (.ref b1)]))
  refine zq_go (fun _ kq => XS.iconst X1.here hx rfl (hb hby at_18) kq) ?_
  show zq_Go p e below s _ _ _ (T1.setTop (mkF m 19 #[.val (.int x0), .val (.int x1), .val (.long x2), .second, .val (.int x3), .val (.int (x0 &&& (255 : Int32))), .val (.int (x1 &&& (255 : Int32))), .unset, .unset, .unset, .unset, .unset] [(.int (0 : Int32)), (.ref b1), (.ref b1)]))
  refine zq_go (fun _ kq => XS.iload X1.here hx rfl (hb hby at_19) rfl kq) ?_
  show zq_Go p e below s _ _ _ (T1.setTop (mkF m 21 #[.val (.int x0), .val (.int x1), .val (.long x2), .second, .val (.int x3), .val (.int (x0 &&& (255 : Int32))), .val (.int (x1 &&& (255 : Int32))), .unset, .unset, .unset, .unset, .unset] [(.int x3), (.int (0 : Int32)), (.ref b1), (.ref b1)]))
  refine zq_go (fun _ kq => XS.i2b X1.here hx rfl (hb hby at_21) rfl kq) ?_
  show zq_Go p e below s _ _ _ (T1.setTop (mkF m 22 #[.val (.int x0), .val (.int x1), .val (.long x2), .second, .val (.int x3), .val (.int (x0 &&& (255 : Int32))), .val (.int (x1 &&& (255 : Int32))), .unset, .unset, .unset, .unset, .unset] [(.int (x3.toInt8.toInt32)), (.int (0 : Int32)), (.ref b1), (.ref b1)]))
  obtain ⟨T2, h2, X2, e2, W2, A_b1, st2⟩ := zq_stB X1 hx hZ e1 A_b1 (j := (0 : Int32)) (i := 0) (by decide) (by decide) (by decide) (g := (mkF m 22 #[.val (.int x0), .val (.int x1), .val (.long x2), .second, .val (.int x3), .val (.int (x0 &&& (255 : Int32))), .val (.int (x1 &&& (255 : Int32))), .unset, .unset, .unset, .unset, .unset] [(.int (x3.toInt8.toInt32)), (.int (0 : Int32)), (.ref b1), (.ref b1)])) rfl rfl (hb hby at_22)
  refine zq_go st2 ?_
  have ZS := Nat.le_trans ZS (Keep.of_wr W2).1
  have A_b1 : zq_A Z h2 b1 .byte 1 (fun k => .int (([(x3.toInt8.toInt32).toInt8.toInt32] : List Int32).getD k 0)) := A_b1.congr (fun j hj => by match j, hj with | 0, _ => rfl | (j + 1), hj => exact absurd hj (by omega))
  obtain ⟨L2, X2, NF⟩ : ∃ L : List Loc, Stand p l e room_1 s m #[(.int x0), (.int x1), (.long x2), (.int x3)] below meth c T2 L 1 1 ∧ Fr h0.size L := ⟨_, X2, Fr.snoc X2 NF g_b1⟩
  show zq_Go p e below s _ _ _ (T2.setTop (mkF m 23 #[.val (.int x0), .val (.int x1), .val (.long x2), .second, .val (.int x3), .val (.int (x0 &&& (255 : Int32))), .val (.int (x1 &&& (255 : Int32))), .unset, .unset, .unset, .unset, .unset] [(.ref b1)]))
  refine zq_go (fun _ kq => XS.astore X2.here hx rfl (hb hby at_23) rfl rfl (l' := #[.val (.int x0), .val (.int x1), .val (.long x2), .second, .val (.int x3), .val (.int (x0 &&& (255 : Int32))), .val (.int (x1 &&& (255 : Int32))), .val (.ref b1), .unset, .unset, .unset, .unset]) rfl kq) ?_
  show zq_Go p e below s _ _ _ (T2.setTop (mkF m 25 #[.val (.int x0), .val (.int x1), .val (.long x2), .second, .val (.int x3), .val (.int (x0 &&& (255 : Int32))), .val (.int (x1 &&& (255 : Int32))), .val (.ref b1), .unset, .unset, .unset, .unset] []))
  obtain ⟨T3, h3, b3, gb3, X3, e3, E3, E_b3, D3, st3⟩ := zq_newO X2 hx hZ hown (hw _ (List.mem_of_getElem? (i := 1) rfl)) (hw _ (List.mem_of_getElem? (i := 2) rfl)) (hw _ (List.mem_of_getElem? (i := 3) rfl)) e2 (g := (mkF m 25 #[.val (.int x0), .val (.int x1), .val (.long x2), .second, .val (.int x3), .val (.int (x0 &&& (255 : Int32))), .val (.int (x1 &&& (255 : Int32))), .val (.ref b1), .unset, .unset, .unset, .unset] [])) rfl (hb hby at_25) (by decide) (by decide)
  have ne_b1_b3 : b1 ≠ b3 := zq_ne A_b1.lt gb3
  have ne_b3_b1 : b3 ≠ b1 := zq_ne' A_b1.lt gb3
  have g_b3 : h0.size ≤ b3 := by rw [gb3]; exact ZS
  have A_b1 := A_b1.ext E3
  have ZS := Nat.le_trans ZS E3.1
  have X3 : Stand p l e room_1 s m #[(.int x0), (.int x1), (.long x2), (.int x3)] below meth c T3 L2 2 5 := X3
  have F_flags_b3 : Fld Z h3 b3 "com/example/tideway/tideway/Frame" "flags" "I" (.int (0 : Int32)) := D3 (Or.inr (hw _ (List.mem_of_getElem? (i := 16) rfl))) (ty := .int) (by decide)
  have F_status_b3 : Fld Z h3 b3 "com/example/tideway/tideway/Frame" "status" "I" (.int (0 : Int32)) := D3 (Or.inr (hw _ (List.mem_of_getElem? (i := 18) rfl))) (ty := .int) (by decide)
  have F_id_b3 : Fld Z h3 b3 "com/example/tideway/tideway/Frame" "id" "J" (.long (0 : Int64)) := D3 (Or.inr (hw _ (List.mem_of_getElem? (i := 20) rfl))) (ty := .long) (by decide)
  have F_body_b3 : Fld Z h3 b3 "com/example/tideway/tideway/Frame" "body" "[B" .null := D3 (Or.inr (hw _ (List.mem_of_getElem? (i := 22) rfl))) (ty := (.array .byte)) (by decide)
  refine zq_go st3 ?_
  show zq_Go p e below s _ _ _ (T3.setTop (mkF m 28 #[.val (.int x0), .val (.int x1), .val (.long x2), .second, .val (.int x3), .val (.int (x0 &&& (255 : Int32))), .val (.int (x1 &&& (255 : Int32))), .val (.ref b1), .unset, .unset, .unset, .unset] [(.ref b3)]))
  refine zq_go (fun _ kq => XS.dup X3.here hx rfl (hb hby at_28) rfl rfl kq) ?_
  show zq_Go p e below s _ _ _ (T3.setTop (mkF m 29 #[.val (.int x0), .val (.int x1), .val (.long x2), .second, .val (.int x3), .val (.int (x0 &&& (255 : Int32))), .val (.int (x1 &&& (255 : Int32))), .val (.ref b1), .unset, .unset, .unset, .unset] [(.ref b3), (.ref b3)]))
  refine zq_go (fun _ kq => XS.iload X3.here hx rfl (hb hby at_29) rfl kq) ?_
  show zq_Go p e below s _ _ _ (T3.setTop (mkF m 31 #[.val (.int x0), .val (.int x1), .val (.long x2), .second, .val (.int x3), .val (.int (x0 &&& (255 : Int32))), .val (.int (x1 &&& (255 : Int32))), .val (.ref b1), .unset, .unset, .unset, .unset] [(.int (x0 &&& (255 : Int32))), (.ref b3), (.ref b3)]))
  refine zq_go (fun _ kq => XS.iload X3.here hx rfl (hb hby at_31) rfl kq) ?_
  show zq_Go p e below s _ _ _ (T3.setTop (mkF m 33 #[.val (.int x0), .val (.int x1), .val (.long x2), .second, .val (.int x3), .val (.int (x0 &&& (255 : Int32))), .val (.int (x1 &&& (255 : Int32))), .val (.ref b1), .unset, .unset, .unset, .unset] [(.int (x1 &&& (255 : Int32))), (.int (x0 &&& (255 : Int32))), (.ref b3), (.ref b3)]))
  refine zq_go (fun _ kq => XS.lloadN X3.here hx rfl (hb hby at_33) rfl kq) ?_
  show zq_Go p e below s _ _ _ (T3.setTop (mkF m 34 #[.val (.int x0), .val (.int x1), .val (.long x2), .second, .val (.int x3), .val (.int (x0 &&& (255 : Int32))), .val (.int (x1 &&& (255 : Int32))), .val (.ref b1), .unset, .unset, .unset, .unset] [(.long x2), (.int (x1 &&& (255 : Int32))), (.int (x0 &&& (255 : Int32))), (.ref b3), (.ref b3)]))
  refine zq_go (fun _ kq => XS.aload X3.here hx rfl (hb hby at_34) rfl rfl kq) ?_
  show zq_Go p e below s _ _ _ (T3.setTop (mkF m 36 #[.val (.int x0), .val (.int x1), .val (.long x2), .second, .val (.int x3), .val (.int (x0 &&& (255 : Int32))), .val (.int (x1 &&& (255 : Int32))), .val (.ref b1), .unset, .unset, .unset, .unset] [(.ref b1), (.long x2), (.int (x1 &&& (255 : Int32))), (.int (x0 &&& (255 : Int32))), (.ref b3), (.ref b3)]))
  obtain ⟨_, T4, L4, X4, ⟨rfl, Nq4, K4, Fq4⟩, st4⟩ := zq_callC (W := 1) X3 hx hZ rfl hown (hw _ (List.mem_of_getElem? (i := 4) rfl)) (hw _ (List.mem_of_getElem? (i := 5) rfl)) (hw _ (List.mem_of_getElem? (i := 3) rfl)) (hw _ (List.mem_of_getElem? (i := 6) rfl)) (by decide) (zq_rmF l Z a0 hw [] b3 (x0 &&& (255 : Int32)) (x1 &&& (255 : Int32)) x2 b1 h3 h0.size _ _ _ _ E_b3 F_flags_b3 F_status_b3 F_id_b3 F_body_b3 g_b3) e3 (by decide) (by decide) (by decide) (by decide) (g := (mkF m 36 #[.val (.int x0), .val (.int x1), .val (.long x2), .second, .val (.int x3), .val (.int (x0 &&& (255 : Int32))), .val (.int (x1 &&& (255 : Int32))), .val (.ref b1), .unset, .unset, .unset, .unset] [(.ref b1), (.long x2), (.int (x1 &&& (255 : Int32))), (.int (x0 &&& (255 : Int32))), (.ref b3), (.ref b3)])) rfl (by rw [hml]; rfl) (a := b3) (argsL := [(.int (x0 &&& (255 : Int32))), (.int (x1 &&& (255 : Int32))), (.long x2), (.ref b1)]) (rest := [(.ref b3)]) (lenOf zq_pd3 rfl) rfl (by show 2 * 0 + _ ≤ _; exact Nat.le_of_eq rfl) (hb hby at_36)
  have A_b1 := A_b1.keep K4 (ninS ne_b1_b3 nin0)
  have E_b3 := E_b3.keep K4
  have ZS := Nat.le_trans ZS K4.1
  have F_flags_b3 := Fq4
  obtain ⟨L4, X4, NF⟩ : ∃ L : List Loc, Stand p l e room_1 s m #[(.int x0), (.int x1), (.long x2), (.int x3)] below meth c T4 L 2 5 ∧ Fr h0.size L := ⟨_, X4, Fr.app NF Nq4⟩
  refine zq_go st4 ?_
  show zq_Go p e below s _ _ _ (T4.setTop (mkF m 39 #[.val (.int x0), .val (.int x1), .val (.long x2), .second, .val (.int x3), .val (.int (x0 &&& (255 : Int32))), .val (.int (x1 &&& (255 : Int32))), .val (.ref b1), .unset, .unset, .unset, .unset] [(.ref b3)]))
  refine zq_go (fun _ kq => XS.astore X4.here hx rfl (hb hby at_39) rfl rfl (l' := #[.val (.int x0), .val (.int x1), .val (.long x2), .second, .val (.int x3), .val (.int (x0 &&& (255 : Int32))), .val (.int (x1 &&& (255 : Int32))), .val (.ref b1), .val (.ref b3), .unset, .unset, .unset]) rfl kq) ?_
  show zq_Go p e below s _ _ _ (T4.setTop (mkF m 41 #[.val (.int x0), .val (.int x1), .val (.long x2), .second, .val (.int x3), .val (.int (x0 &&& (255 : Int32))), .val (.int (x1 &&& (255 : Int32))), .val (.ref b1), .val (.ref b3), .unset, .unset, .unset] []))
  refine zq_go (fun _ kq => XS.iload X4.here hx rfl (hb hby at_41) rfl kq) ?_
  show zq_Go p e below s _ _ _ (T4.setTop (mkF m 43 #[.val (.int x0), .val (.int x1), .val (.long x2), .second, .val (.int x3), .val (.int (x0 &&& (255 : Int32))), .val (.int (x1 &&& (255 : Int32))), .val (.ref b1), .val (.ref b3), .unset, .unset, .unset] [(.int (x0 &&& (255 : Int32)))]))
  refine zq_go (fun _ kq => XS.bipush X4.here hx rfl (hb hby at_43) kq) ?_
  show zq_Go p e below s _ _ _ (T4.setTop (mkF m 45 #[.val (.int x0), .val (.int x1), .val (.long x2), .second, .val (.int x3), .val (.int (x0 &&& (255 : Int32))), .val (.int (x1 &&& (255 : Int32))), .val (.ref b1), .val (.ref b3), .unset, .unset, .unset] [(.int (64 : Int32)), (.int (x0 &&& (255 : Int32)))]))
  refine zq_go (fun _ kq => XS.idiv X4.here hx rfl (hb hby at_45) rfl (by decide) kq) ?_
  show zq_Go p e below s _ _ _ (T4.setTop (mkF m 46 #[.val (.int x0), .val (.int x1), .val (.long x2), .second, .val (.int x3), .val (.int (x0 &&& (255 : Int32))), .val (.int (x1 &&& (255 : Int32))), .val (.ref b1), .val (.ref b3), .unset, .unset, .unset] [(.int ((x0 &&& (255 : Int32)) / (64 : Int32)))]))
  refine zq_go (fun _ kq => XS.iconst X4.here hx rfl (hb hby at_46) kq) ?_
  show zq_Go p e below s _ _ _ (T4.setTop (mkF m 47 #[.val (.int x0), .val (.int x1), .val (.long x2), .second, .val (.int x3), .val (.int (x0 &&& (255 : Int32))), .val (.int (x1 &&& (255 : Int32))), .val (.ref b1), .val (.ref b3), .unset, .unset, .unset] [(.int (2 : Int32)), (.int ((x0 &&& (255 : Int32)) / (64 : Int32)))]))
  refine zq_go (fun _ kq => XS.irem X4.here hx rfl (hb hby at_47) rfl (by decide) kq) ?_
  show zq_Go p e below s _ _ _ (T4.setTop (mkF m 48 #[.val (.int x0), .val (.int x1), .val (.long x2), .second, .val (.int x3), .val (.int (x0 &&& (255 : Int32))), .val (.int (x1 &&& (255 : Int32))), .val (.ref b1), .val (.ref b3), .unset, .unset, .unset] [(.int (((x0 &&& (255 : Int32)) / (64 : Int32)) - (((x0 &&& (255 : Int32)) / (64 : Int32)) / (2 : Int32)) * (2 : Int32)))]))
  refine zq_go (fun _ kq => XS.iconst X4.here hx rfl (hb hby at_48) kq) ?_
  show zq_Go p e below s _ _ _ (T4.setTop (mkF m 49 #[.val (.int x0), .val (.int x1), .val (.long x2), .second, .val (.int x3), .val (.int (x0 &&& (255 : Int32))), .val (.int (x1 &&& (255 : Int32))), .val (.ref b1), .val (.ref b3), .unset, .unset, .unset] [(.int (1 : Int32)), (.int (((x0 &&& (255 : Int32)) / (64 : Int32)) - (((x0 &&& (255 : Int32)) / (64 : Int32)) / (2 : Int32)) * (2 : Int32)))]))
  obtain ⟨v49_0, hv49_0⟩ : ∃ z : Int32, z = (if (((x0 &&& (255 : Int32)) / (64 : Int32)) - (((x0 &&& (255 : Int32)) / (64 : Int32)) / (2 : Int32)) * (2 : Int32)) = (1 : Int32) then (1 : Int32) else (0 : Int32)) := ⟨_, rfl⟩
  have J49 : ∀ (T0_57j5 : State), Stand p l e room_1 s m #[(.int x0), (.int x1), (.long x2), (.int x3)] below meth c T0_57j5 L4 2 5 → T0_57j5.heap = T4.heap → zq_Go p e below s (zq_one h0.size) room_1.cells room_1.slots (T0_57j5.setTop (mkF m 57 #[.val (.int x0), .val (.int x1), .val (.long x2), .second, .val (.int x3), .val (.int (x0 &&& (255 : Int32))), .val (.int (x1 &&& (255 : Int32))), .val (.ref b1), .val (.ref b3), .unset, .unset, .unset] [(.int v49_0)])) := by
    intro T0_57j5 X0_57j5 e0_57j5
    show zq_Go p e below s _ _ _ (T0_57j5.setTop (mkF m 57 #[.val (.int x0), .val (.int x1), .val (.long x2), .second, .val (.int x3), .val (.int (x0 &&& (255 : Int32))), .val (.int (x1 &&& (255 : Int32))), .val (.ref b1), .val (.ref b3), .unset, .unset, .unset] [(.int v49_0)]))
    refine zq_go (fun _ kq => XS.istore X0_57j5.here hx rfl (hb hby at_57) rfl (l' := #[.val (.int x0), .val (.int x1), .val (.long x2), .second, .val (.int x3), .val (.int (x0 &&& (255 : Int32))), .val (.int (x1 &&& (255 : Int32))), .val (.ref b1), .val (.ref b3), .val (.int v49_0), .unset, .unset]) rfl kq) ?_
    show zq_Go p e below s _ _ _ (T0_57j5.setTop (mkF m 59 #[.val (.int x0), .val (.int x1), .val (.long x2), .second, .val (.int x3), .val (.int (x0 &&& (255 : Int32))), .val (.int (x1 &&& (255 : Int32))), .val (.ref b1), .val (.ref b3), .val (.int v49_0), .unset, .unset] []))
    refine zq_go (fun _ kq => XS.aload X0_57j5.here hx rfl (hb hby at_59) rfl rfl kq) ?_
    show zq_Go p e below s _ _ _ (T0_57j5.setTop (mkF m 61 #[.val (.int x0), .val (.int x1), .val (.long x2), .second, .val (.int x3), .val (.int (x0 &&& (255 : Int32))), .val (.int (x1 &&& (255 : Int32))), .val (.ref b1), .val (.ref b3), .val (.int v49_0), .unset, .unset] [(.ref b3)]))
    obtain ⟨T6, X6, e6, st6⟩ := zq_callVP (W := 0) X0_57j5 hx hZ hown (hw _ (List.mem_of_getElem? (i := 23) rfl)) (hw _ (List.mem_of_getElem? (i := 24) rfl)) (hw _ (List.mem_of_getElem? (i := 26) rfl)) (hw _ (List.mem_of_getElem? (i := 25) rfl)) (hw _ (List.mem_of_getElem? (i := 3) rfl)) (hw _ (List.mem_of_getElem? (i := 27) rfl)) (by decide) (zq_rmB l Z a0 hw [] b3 T4.heap (x0 &&& (255 : Int32)) F_flags_b3) e0_57j5 E_b3 (by decide) (by decide) rfl rfl (by decide) (by decide) (g := (mkF m 61 #[.val (.int x0), .val (.int x1), .val (.long x2), .second, .val (.int x3), .val (.int (x0 &&& (255 : Int32))), .val (.int (x1 &&& (255 : Int32))), .val (.ref b1), .val (.ref b3), .val (.int v49_0), .unset, .unset] [(.ref b3)])) rfl (by rw [hml]; rfl) (argsL := []) (rest := []) (lenOf zq_pd5 rfl) rfl (by show 2 * 0 + _ ≤ _; exact Nat.le_of_eq rfl) (hb hby at_61)
    refine zq_go st6 ?_
    show zq_Go p e below s _ _ _ (T6.setTop (mkF m 64 #[.val (.int x0), .val (.int x1), .val (.long x2), .second, .val (.int x3), .val (.int (x0 &&& (255 : Int32))), .val (.int (x1 &&& (255 : Int32))), .val (.ref b1), .val (.ref b3), .val (.int v49_0), .unset, .unset] [(.int (zq_bit (x0 &&& (255 : Int32))))]))
    refine zq_go (fun _ kq => XS.iload X6.here hx rfl (hb hby at_64) rfl kq) ?_
    show zq_Go p e below s _ _ _ (T6.setTop (mkF m 66 #[.val (.int x0), .val (.int x1), .val (.long x2), .second, .val (.int x3), .val (.int (x0 &&& (255 : Int32))), .val (.int (x1 &&& (255 : Int32))), .val (.ref b1), .val (.ref b3), .val (.int v49_0), .unset, .unset] [(.int v49_0), (.int (zq_bit (x0 &&& (255 : Int32))))]))
    refine zq_go (fun _ kq => XS.icmpNo X6.here hx rfl (hb hby at_66) rfl (teq (by rw [hv49_0]; exact zq_law _ : (zq_bit (x0 &&& (255 : Int32))) = v49_0)).2 kq) ?_
    show zq_Go p e below s _ _ _ (T6.setTop (mkF m 69 #[.val (.int x0), .val (.int x1), .val (.long x2), .second, .val (.int x3), .val (.int (x0 &&& (255 : Int32))), .val (.int (x1 &&& (255 : Int32))), .val (.ref b1), .val (.ref b3), .val (.int v49_0), .unset, .unset] []))
    refine zq_go (fun _ kq => XS.iconst X6.here hx rfl (hb hby at_69) kq) ?_
    show zq_Go p e below s _ _ _ (T6.setTop (mkF m 70 #[.val (.int x0), .val (.int x1), .val (.long x2), .second, .val (.int x3), .val (.int (x0 &&& (255 : Int32))), .val (.int (x1 &&& (255 : Int32))), .val (.ref b1), .val (.ref b3), .val (.int v49_0), .unset, .unset] [(.int (1 : Int32))]))
    refine zq_go (fun _ kq => XS.goto X6.here hx rfl (pc0 := 70) (pc' := 74) rfl (hb hby at_70) (by decide) (by decide) kq) ?_
    show zq_Go p e below s _ _ _ (T6.setTop (mkF m 74 #[.val (.int x0), .val (.int x1), .val (.long x2), .second, .val (.int x3), .val (.int (x0 &&& (255 : Int32))), .val (.int (x1 &&& (255 : Int32))), .val (.ref b1), .val (.ref b3), .val (.int v49_0), .unset, .unset] [(.int (1 : Int32))]))
    refine zq_go (fun _ kq => XS.istore X6.here hx rfl (hb hby at_74) rfl (l' := #[.val (.int x0), .val (.int x1), .val (.long x2), .second, .val (.int x3), .val (.int (x0 &&& (255 : Int32))), .val (.int (x1 &&& (255 : Int32))), .val (.ref b1), .val (.ref b3), .val (.int v49_0), .val (.int (1 : Int32)), .unset]) rfl kq) ?_
    show zq_Go p e below s _ _ _ (T6.setTop (mkF m 76 #[.val (.int x0), .val (.int x1), .val (.long x2), .second, .val (.int x3), .val (.int (x0 &&& (255 : Int32))), .val (.int (x1 &&& (255 : Int32))), .val (.ref b1), .val (.ref b3), .val (.int v49_0), .val (.int (1 : Int32)), .unset] []))
    refine zq_go (fun _ kq => XS.lloadN X6.here hx rfl (hb hby at_76) rfl kq) ?_
    show zq_Go p e below s _ _ _ (T6.setTop (mkF m 77 #[.val (.int x0), .val (.int x1), .val (.long x2), .second, .val (.int x3), .val (.int (x0 &&& (255 : Int32))), .val (.int (x1 &&& (255 : Int32))), .val (.ref b1), .val (.ref b3), .val (.int v49_0), .val (.int (1 : Int32)), .unset] [(.long x2)]))
    refine zq_go (fun _ kq => XS.aload X6.here hx rfl (hb hby at_77) rfl rfl kq) ?_
    show zq_Go p e below s _ _ _ (T6.setTop (mkF m 79 #[.val (.int x0), .val (.int x1), .val (.long x2), .second, .val (.int x3), .val (.int (x0 &&& (255 : Int32))), .val (.int (x1 &&& (255 : Int32))), .val (.ref b1), .val (.ref b3), .val (.int v49_0), .val (.int (1 : Int32)), .unset] [(.ref b1), (.long x2)]))
    obtain ⟨_, T7, L7, X7, ⟨r7, rfl, Nq7, K7, Eq7, Fq7⟩, st7⟩ := zq_callS (W := 0) X6 hx hZ hown (hw _ (List.mem_of_getElem? (i := 28) rfl)) (hw _ (List.mem_of_getElem? (i := 29) rfl)) (hw _ (List.mem_of_getElem? (i := 3) rfl)) (hw _ (List.mem_of_getElem? (i := 30) rfl)) (by decide) (zq_rmQ l Z a0 hw [] x2 b1 T4.heap h0.size ZS) e6 (by decide) (by decide) (by decide) (by decide) (g := (mkF m 79 #[.val (.int x0), .val (.int x1), .val (.long x2), .second, .val (.int x3), .val (.int (x0 &&& (255 : Int32))), .val (.int (x1 &&& (255 : Int32))), .val (.ref b1), .val (.ref b3), .val (.int v49_0), .val (.int (1 : Int32)), .unset] [(.ref b1), (.long x2)])) rfl (by rw [hml]; rfl) (argsL := [(.long x2), (.ref b1)]) (rest := []) (lenOf zq_pd6 rfl) rfl (by show 2 * 0 + _ ≤ _; exact Nat.le_of_eq rfl) (hb hby at_79)
    have A_b1 := A_b1.keep K7 nin0
    have E_b3 := E_b3.keep K7
    have F_flags_b3 := F_flags_b3.keep K7 nin0
    have ZS := Nat.le_trans ZS K7.1
    have E_r7 := Eq7
    have F_flags_r7 := Fq7
    obtain ⟨L7, X7, NF⟩ : ∃ L : List Loc, Stand p l e room_1 s m #[(.int x0), (.int x1), (.long x2), (.int x3)] below meth c T7 L 3 9 ∧ Fr h0.size L := ⟨_, X7, Fr.app NF Nq7⟩
    refine zq_go st7 ?_
    show zq_Go p e below s _ _ _ (T7.setTop (mkF m 82 #[.val (.int x0), .val (.int x1), .val (.long x2), .second, .val (.int x3), .val (.int (x0 &&& (255 : Int32))), .val (.int (x1 &&& (255 : Int32))), .val (.ref b1), .val (.ref b3), .val (.int v49_0), .val (.int (1 : Int32)), .unset] [(.ref r7)]))
    obtain ⟨T8, X8, e8, st8⟩ := zq_callVP (W := 0) X7 hx hZ hown (hw _ (List.mem_of_getElem? (i := 23) rfl)) (hw _ (List.mem_of_getElem? (i := 24) rfl)) (hw _ (List.mem_of_getElem? (i := 26) rfl)) (hw _ (List.mem_of_getElem? (i := 25) rfl)) (hw _ (List.mem_of_getElem? (i := 3) rfl)) (hw _ (List.mem_of_getElem? (i := 27) rfl)) (by decide) (zq_rmB l Z a0 hw [] r7 T7.heap (194 : Int32) F_flags_r7) rfl E_r7 (by decide) (by decide) rfl rfl (by decide) (by decide) (g := (mkF m 82 #[.val (.int x0), .val (.int x1), .val (.long x2), .second, .val (.int x3), .val (.int (x0 &&& (255 : Int32))), .val (.int (x1 &&& (255 : Int32))), .val (.ref b1), .val (.ref b3), .val (.int v49_0), .val (.int (1 : Int32)), .unset] [(.ref r7)])) rfl (by rw [hml]; rfl) (argsL := []) (rest := []) (lenOf zq_pd5 rfl) rfl (by show 2 * 0 + _ ≤ _; exact Nat.le_of_eq rfl) (hb hby at_82)
    refine zq_go st8 ?_
    show zq_Go p e below s _ _ _ (T8.setTop (mkF m 85 #[.val (.int x0), .val (.int x1), .val (.long x2), .second, .val (.int x3), .val (.int (x0 &&& (255 : Int32))), .val (.int (x1 &&& (255 : Int32))), .val (.ref b1), .val (.ref b3), .val (.int v49_0), .val (.int (1 : Int32)), .unset] [(.int (zq_bit (194 : Int32)))]))
    refine zq_go (fun _ kq => XS.istore X8.here hx rfl (hb hby at_85) rfl (l' := #[.val (.int x0), .val (.int x1), .val (.long x2), .second, .val (.int x3), .val (.int (x0 &&& (255 : Int32))), .val (.int (x1 &&& (255 : Int32))), .val (.ref b1), .val (.ref b3), .val (.int v49_0), .val (.int (1 : Int32)), .val (.int (zq_bit (194 : Int32)))]) rfl kq) ?_
    show zq_Go p e below s _ _ _ (T8.setTop (mkF m 87 #[.val (.int x0), .val (.int x1), .val (.long x2), .second, .val (.int x3), .val (.int (x0 &&& (255 : Int32))), .val (.int (x1 &&& (255 : Int32))), .val (.ref b1), .val (.ref b3), .val (.int v49_0), .val (.int (1 : Int32)), .val (.int (zq_bit (194 : Int32)))] []))
    refine zq_go (fun _ kq => XS.iload X8.here hx rfl (hb hby at_87) rfl kq) ?_
    show zq_Go p e below s _ _ _ (T8.setTop (mkF m 89 #[.val (.int x0), .val (.int x1), .val (.long x2), .second, .val (.int x3), .val (.int (x0 &&& (255 : Int32))), .val (.int (x1 &&& (255 : Int32))), .val (.ref b1), .val (.ref b3), .val (.int v49_0), .val (.int (1 : Int32)), .val (.int (zq_bit (194 : Int32)))] [(.int (1 : Int32))]))
    refine zq_go (fun _ kq => XS.ifNo X8.here hx rfl (hb hby at_89) rfl ((if0 _ _).trans (feq (by decide : ¬ ((1 : Int32) = (0 : Int32)))).1) kq) ?_
    show zq_Go p e below s _ _ _ (T8.setTop (mkF m 92 #[.val (.int x0), .val (.int x1), .val (.long x2), .second, .val (.int x3), .val (.int (x0 &&& (255 : Int32))), .val (.int (x1 &&& (255 : Int32))), .val (.ref b1), .val (.ref b3), .val (.int v49_0), .val (.int (1 : Int32)), .val (.int (zq_bit (194 : Int32)))] []))
    refine zq_go (fun _ kq => XS.iload X8.here hx rfl (hb hby at_92) rfl kq) ?_
    show zq_Go p e below s _ _ _ (T8.setTop (mkF m 94 #[.val (.int x0), .val (.int x1), .val (.long x2), .second, .val (.int x3), .val (.int (x0 &&& (255 : Int32))), .val (.int (x1 &&& (255 : Int32))), .val (.ref b1), .val (.ref b3), .val (.int v49_0), .val (.int (1 : Int32)), .val (.int (zq_bit (194 : Int32)))] [(.int (zq_bit (194 : Int32)))]))
    refine zq_go (fun _ kq => XS.ifNo X8.here hx rfl (hb hby at_94) rfl ((if0 _ _).trans (feq (by decide : ¬ ((zq_bit (194 : Int32)) = (0 : Int32)))).1) kq) ?_
    show zq_Go p e below s _ _ _ (T8.setTop (mkF m 97 #[.val (.int x0), .val (.int x1), .val (.long x2), .second, .val (.int x3), .val (.int (x0 &&& (255 : Int32))), .val (.int (x1 &&& (255 : Int32))), .val (.ref b1), .val (.ref b3), .val (.int v49_0), .val (.int (1 : Int32)), .val (.int (zq_bit (194 : Int32)))] []))
    refine zq_go (fun _ kq => XS.iconst X8.here hx rfl (hb hby at_97) kq) ?_
    show zq_Go p e below s _ _ _ (T8.setTop (mkF m 98 #[.val (.int x0), .val (.int x1), .val (.long x2), .second, .val (.int x3), .val (.int (x0 &&& (255 : Int32))), .val (.int (x1 &&& (255 : Int32))), .val (.ref b1), .val (.ref b3), .val (.int v49_0), .val (.int (1 : Int32)), .val (.int (zq_bit (194 : Int32)))] [(.int (1 : Int32))]))
    refine zq_go (fun _ kq => XS.goto X8.here hx rfl (pc0 := 98) (pc' := 102) rfl (hb hby at_98) (by decide) (by decide) kq) ?_
    show zq_Go p e below s _ _ _ (T8.setTop (mkF m 102 #[.val (.int x0), .val (.int x1), .val (.long x2), .second, .val (.int x3), .val (.int (x0 &&& (255 : Int32))), .val (.int (x1 &&& (255 : Int32))), .val (.ref b1), .val (.ref b3), .val (.int v49_0), .val (.int (1 : Int32)), .val (.int (zq_bit (194 : Int32)))] [(.int (1 : Int32))]))
    exact zq_retN X8 hx hlk (t := .boolean) hret (by simp) (hb hby at_102) ⟨rfl, NF⟩ (by decide) (by decide)
  by_cases hc49 : (((x0 &&& (255 : Int32)) / (64 : Int32)) - (((x0 &&& (255 : Int32)) / (64 : Int32)) / (2 : Int32)) * (2 : Int32)) = (1 : Int32)
  ·
    rw [if_pos hc49] at hv49_0
    rw [hv49_0] at J49
    refine zq_go (fun _ kq => XS.icmpNo X4.here hx rfl (hb hby at_49) rfl (teq hc49).2 kq) ?_
    show zq_Go p e below s _ _ _ (T4.setTop (mkF m 52 #[.val (.int x0), .val (.int x1), .val (.long x2), .second, .val (.int x3), .val (.int (x0 &&& (255 : Int32))), .val (.int (x1 &&& (255 : Int32))), .val (.ref b1), .val (.ref b3), .unset, .unset, .unset] []))
    refine zq_go (fun _ kq => XS.iconst X4.here hx rfl (hb hby at_52) kq) ?_
    show zq_Go p e below s _ _ _ (T4.setTop (mkF m 53 #[.val (.int x0), .val (.int x1), .val (.long x2), .second, .val (.int x3), .val (.int (x0 &&& (255 : Int32))), .val (.int (x1 &&& (255 : Int32))), .val (.ref b1), .val (.ref b3), .unset, .unset, .unset] [(.int (1 : Int32))]))
    refine zq_go (fun _ kq => XS.goto X4.here hx rfl (pc0 := 53) (pc' := 57) rfl (hb hby at_53) (by decide) (by decide) kq) ?_
    exact J49 _ X4 rfl
  rw [if_neg hc49] at hv49_0
  rw [hv49_0] at J49
  refine zq_go (fun _ kq => XS.icmpYes X4.here hx rfl (pc0 := 49) (pc' := 56) rfl (hb hby at_49) rfl (feq hc49).2 (by decide) (by decide) kq) ?_
  show zq_Go p e below s _ _ _ (T4.setTop (mkF m 56 #[.val (.int x0), .val (.int x1), .val (.long x2), .second, .val (.int x3), .val (.int (x0 &&& (255 : Int32))), .val (.int (x1 &&& (255 : Int32))), .val (.ref b1), .val (.ref b3), .unset, .unset, .unset] []))
  refine zq_go (fun _ kq => XS.iconst X4.here hx rfl (hb hby at_56) kq) ?_
  exact J49 _ X4 rfl
set_option maxRecDepth 65536 in
set_option maxHeartbeats 40000000 in
theorem zq_comes {Post : Tables → Env → Array Value → State → Outcome → State → Prop} (hpost : ∀ tb e args s v u, (limb_1_1.after args s (.returned v) u = true ∧ limb_1_2.after args s (.returned v) u = true ∧ True) → FrameEnd s (.returned v) u (Jvm.fieldLocs frame_1_writes args s ++ Jvm.arrayLocs frame_1_arrays args s ++ Jvm.staticLocs frame_1_statics s) 16 128 → Post tb e args s (.returned v) u) :
    ArmFor flags0 classFile x code maxLocals ret World_1 tables_1 room_1 Calls_1 rest_1 Pre_1 Post := by
  intro l hfl _ _ p e ha hc hk s m args below hf hA hF happ hP
  obtain ⟨hcalls, hrest, hpre⟩ := hP
  obtain ⟨-, -, -, hnamed, -, -, -, hat⟩ := (Spec.applies_iff hf).mp happ
  obtain ⟨hg, hn⟩ := and_e (Cond.before_iff.mp (show (Jvm.Cond.and given_1 narrow_1).before args s = true from hpre))
  obtain ⟨g0, t0⟩ := and_e hg
  obtain ⟨g1, t1⟩ := and_e t0
  obtain ⟨g2, t2⟩ := and_e t1
  obtain ⟨g3, t3⟩ := and_e t2
  obtain ⟨w0, w1, w2, w3, rfl⟩ : ∃ w0 w1 w2 w3 : Value, args = #[w0, w1, w2, w3] := by
    have hs : args.size = 4 := by simpa [Cond.value, given_1] using g0
    obtain ⟨L⟩ := args
    match L, hs with
    | [w0, w1, w2, w3], _ => exact ⟨w0, w1, w2, w3, rfl⟩
  have hw := fun d (hd : d ∈ tables_1) => atoms_spec (ws := Jvm.Cond.code x code maxLocals ret :: tables_1) hat d (List.mem_cons_of_mem _ hd)
  obtain ⟨i0, ei0⟩ := is_v g1
  obtain rfl : w0 = (.int i0) := Option.some.inj ei0
  obtain ⟨i1, ei1⟩ := is_v g2
  obtain rfl : w1 = (.int i1) := Option.some.inj ei1
  obtain ⟨i2, ei2⟩ := isL_v g3
  obtain rfl : w2 = (.long i2) := Option.some.inj ei2
  obtain ⟨i3, ei3⟩ := is_v t3
  obtain rfl : w3 = (.int i3) := Option.some.inj ei3
  obtain ⟨n, o, h1, h2, h3, _, L, rfl, ⟨rfl, N⟩, hq⟩ := zq_rm0 l s _ hw tables_1 i0 i1 i2 i3 s.heap p e ha hc hk s m _ below hf ((Spec.applies_iff_loose hf).mp happ).1 ⟨rfl, State.Warmed39.refl s, rfl⟩ trivial
  refine ⟨n, _, h1, h2, h3, hpost _ _ _ _ _ _ ⟨Cond.after_iff.mpr rfl, Cond.after_iff.mpr (eq_i res_at (Term.int_eval (1)) rfl), trivial⟩ ⟨hq.1, hq.2.1, (hq.2.2.sift fun y hy => Or.inr (N y hy)).mono (by decide) (by decide)⟩⟩
theorem main_1_1 : Claimed_1_1 := zq_comes fun _ _ _ _ _ _ h hF => ⟨h.1, hF⟩
theorem main_1_2 : Claimed_1_2 := zq_comes fun _ _ _ _ _ _ h hF => ⟨h.2.1, hF⟩
end Jvm.Pilot.@@N@@
namespace Jvm.Pilot.@@N@@
open Jvm Jvm.ClassFile Sem Op Lib Jvm.Free Jvm.Stand Jvm.Pilot.@@N@@.Jvm.D
/-! MADE BY PROGRAM (witnessworld.py) out of the Statement's table words and the real class files: 10 classes; the members and pool entries that the words name. The judged class is class 1, her method 1. -/
namespace start1
open Jvm.ClassFile
def u (s : String) : CpInfo := .utf8 (stringToUtf16 s)
/-- a pool by its gaps: so many unusable entries, then the entry; so many at the end -/
def gap : Nat → List CpInfo → List CpInfo
  | 0, r => r
  | n + 1, r => .unusable :: gap n r
def poolList (es : List (Nat × CpInfo)) (last : Nat) : List CpInfo := es.foldr (fun e r => gap e.1 (e.2 :: r)) (gap last [])
def pool (es : List (Nat × CpInfo)) (last : Nat) : Array CpInfo := ⟨poolList es last⟩
def fileOf (pool : Array CpInfo) (this : Nat) (attrs : Array Attribute := #[]) (ms : Array MethodInfo := #[]) (fl : Nat := 33) (sup : Nat := 0) (ifs : Array Nat := #[]) (fds : Array FieldInfo := #[]) : ClassFile where
  minorVersion := 0
  majorVersion := 65
  constantPool := pool
  accessFlags := fl
  thisClass := this
  superClass := sup
  interfaces := ifs
  fields := fds
  methods := ms
  attributes := attrs
def plain (name : String) (sup : Option ClassId) : Class where
  name := name
  kind := .ordinary
  loader := none
  accessFlags := 33
  super := sup
  interfaces := #[]
  cf := none
  fields := #[]
  methods := #[]
  instanceTypes := #[]
  staticTypes := #[]
  resolved := #[]
  callSites := []
  init := .initialized
  statics := none
  mirror := none

def pool0 : Array CpInfo := pool [(5, u "<init>"), (0, u "()V"), (1, .class_ 10), (1, u "java/lang/Object")] 113

def k0c0 : Code := { maxStack := 0, maxLocals := 1, code := object_method_1_code, exceptionTable := #[], attributes := #[] }
def k0m0 : Method := { name := "<init>", desc := "()V", sig := { parameters := [], returnType := none }, accessFlags := 1, code := some k0c0 }
/-- java/lang/Object -/
def k0 : Class := { plain "java/lang/Object" none with
  accessFlags := 33
  interfaces := #[]
  cf := some (fileOf pool0 8 #[] #[{ accessFlags := 1, nameIndex := 5, descriptorIndex := 6, attributes := #[] }] 33 0 #[] #[])
  fields := #[]
  methods := #[k0m0]
  instanceTypes := #[]
  staticTypes := #[]
  resolved := Array.replicate 124 none
  statics := none }

def pool1 : Array CpInfo := pool [(2, .class_ 4), (1, u "java/lang/Object"), (0, u "<init>"), (0, u "()V"), (0, .class_ 8), (0, u "com/example/tideway/tideway/Frame"), (0, .methodref 7 10), (0, .nameAndType 5 11), (0, u "(IIJ[B)V"), (0, .methodref 7 13), (0, .nameAndType 14 15), (0, u "isTwoWay"), (0, u "()Z"), (0, .methodref 7 17), (0, .nameAndType 18 19), (0, u "request"), (0, u "(J[B)Lcom/example/tideway/tideway/Frame;"), (0, .class_ 21), (0, u "com/example/tideway/tideway/FrameIsTwoWayPinLaw"), (2, u "law"), (0, u "(IIJI)Z")] 5

def k1m0 : Method := { name := "<init>", desc := "()V", sig := { parameters := [], returnType := none }, accessFlags := 2, code := none }
def k1c1 : Code := { maxStack := 7, maxLocals := 12, code := code, exceptionTable := #[], attributes := #[] }
def k1m1 : Method := { name := "law", desc := "(IIJI)Z", sig := { parameters := [.int, .int, .long, .int], returnType := some .boolean }, accessFlags := 9, code := some k1c1 }
/-- com/example/tideway/tideway/FrameIsTwoWayPinLaw -/
def k1 : Class := { plain "com/example/tideway/tideway/FrameIsTwoWayPinLaw" (some 0) with
  accessFlags := 49
  interfaces := #[]
  cf := some (fileOf pool1 20 #[] #[{ accessFlags := 2, nameIndex := 5, descriptorIndex := 6, attributes := #[] }, { accessFlags := 9, nameIndex := 24, descriptorIndex := 25, attributes := #[] }] 49 2 #[] #[])
  fields := #[]
  methods := #[k1m0, k1m1]
  instanceTypes := #[]
  staticTypes := #[]
  resolved := Array.replicate 31 none
  statics := none }

def pool2 : Array CpInfo := pool [(1, .methodref 2 3), (0, .class_ 4), (0, .nameAndType 5 6), (0, u "java/lang/Object"), (0, u "<init>"), (0, u "()V"), (0, .class_ 8), (0, u "java/lang/Record")] 13

def k2c0 : Code := { maxStack := 1, maxLocals := 1, code := jdk_30_method_1_code, exceptionTable := #[], attributes := #[] }
def k2m0 : Method := { name := "<init>", desc := "()V", sig := { parameters := [], returnType := none }, accessFlags := 4, code := some k2c0 }
/-- java/lang/Record -/
def k2 : Class := { plain "java/lang/Record" (some 0) with
  accessFlags := 1057
  interfaces := #[]
  cf := some (fileOf pool2 7 #[] #[{ accessFlags := 4, nameIndex := 5, descriptorIndex := 6, attributes := #[] }] 1057 2 #[] #[])
  fields := #[]
  methods := #[k2m0]
  instanceTypes := #[]
  staticTypes := #[]
  resolved := Array.replicate 22 none
  statics := none }

def pool3 : Array CpInfo := pool [(1, .methodref 2 3), (0, .class_ 4), (0, .nameAndType 5 6), (0, u "java/lang/Record"), (0, u "<init>"), (0, u "()V"), (0, .fieldref 8 9), (0, .class_ 10), (0, .nameAndType 11 12), (0, u "com/example/tideway/tideway/Frame"), (0, u "flags"), (0, u "I"), (0, .fieldref 8 14), (0, .nameAndType 15 12), (0, u "status"), (0, .fieldref 8 17), (0, .nameAndType 18 19), (0, u "id"), (0, u "J"), (0, .fieldref 8 21), (0, .nameAndType 22 23), (0, u "body"), (0, u "[B"), (0, .methodref 8 25), (0, .nameAndType 5 26), (0, u "(IIJ[B)V"), (15, u "EMPTY"), (12, u "MAGIC"), (2, u "HEADER_LENGTH"), (1, u "DEFAULT_BODY_LIMIT"), (1, u "FLAG_REQUEST"), (1, u "FLAG_TWO_WAY"), (1, u "FLAG_EVENT"), (1, u "SERIALIZATION_MASK"), (1, u "HESSIAN2"), (4, u "request"), (0, u "(J[B)Lcom/example/tideway/tideway/Frame;"), (5, u "()Z"), (1, u "isTwoWay")] 29

def k3c0 : Code := { maxStack := 3, maxLocals := 6, code := prog_6_method_1_code, exceptionTable := #[], attributes := #[] }
def k3m0 : Method := { name := "<init>", desc := "(IIJ[B)V", sig := { parameters := [.int, .int, .long, (.array .byte)], returnType := none }, accessFlags := 0, code := some k3c0 }
def k3c1 : Code := { maxStack := 7, maxLocals := 3, code := prog_6_method_2_code, exceptionTable := #[], attributes := #[] }
def k3m1 : Method := { name := "request", desc := "(J[B)Lcom/example/tideway/tideway/Frame;", sig := { parameters := [.long, (.array .byte)], returnType := some (.object "com/example/tideway/tideway/Frame") }, accessFlags := 8, code := some k3c1 }
def k3c2 : Code := { maxStack := 2, maxLocals := 1, code := prog_6_method_6_code, exceptionTable := #[], attributes := #[] }
def k3m2 : Method := { name := "isTwoWay", desc := "()Z", sig := { parameters := [], returnType := some .boolean }, accessFlags := 0, code := some k3c2 }
/-- com/example/tideway/tideway/Frame -/
def k3 : Class := { plain "com/example/tideway/tideway/Frame" (some 2) with
  accessFlags := 48
  interfaces := #[]
  cf := some (fileOf pool3 8 #[] #[{ accessFlags := 0, nameIndex := 5, descriptorIndex := 26, attributes := #[] }, { accessFlags := 8, nameIndex := 75, descriptorIndex := 76, attributes := #[] }, { accessFlags := 0, nameIndex := 84, descriptorIndex := 82, attributes := #[] }] 48 2 #[] #[{ accessFlags := 18, nameIndex := 11, descriptorIndex := 12, attributes := #[] }, { accessFlags := 18, nameIndex := 15, descriptorIndex := 12, attributes := #[] }, { accessFlags := 18, nameIndex := 18, descriptorIndex := 19, attributes := #[] }, { accessFlags := 18, nameIndex := 22, descriptorIndex := 23, attributes := #[] }, { accessFlags := 24, nameIndex := 55, descriptorIndex := 12, attributes := #[] }, { accessFlags := 24, nameIndex := 58, descriptorIndex := 12, attributes := #[] }, { accessFlags := 24, nameIndex := 60, descriptorIndex := 12, attributes := #[] }, { accessFlags := 24, nameIndex := 62, descriptorIndex := 12, attributes := #[] }, { accessFlags := 24, nameIndex := 64, descriptorIndex := 12, attributes := #[] }, { accessFlags := 24, nameIndex := 66, descriptorIndex := 12, attributes := #[] }, { accessFlags := 24, nameIndex := 68, descriptorIndex := 12, attributes := #[] }, { accessFlags := 24, nameIndex := 70, descriptorIndex := 12, attributes := #[] }, { accessFlags := 26, nameIndex := 42, descriptorIndex := 23, attributes := #[] }])
  fields := #[{ name := "flags", type := .int, accessFlags := 18, slot := 0, constantValue := 0 }, { name := "status", type := .int, accessFlags := 18, slot := 1, constantValue := 0 }, { name := "id", type := .long, accessFlags := 18, slot := 2, constantValue := 0 }, { name := "body", type := (.array .byte), accessFlags := 18, slot := 3, constantValue := 0 }, { name := "MAGIC", type := .int, accessFlags := 24, slot := 0, constantValue := 0 }, { name := "HEADER_LENGTH", type := .int, accessFlags := 24, slot := 1, constantValue := 0 }, { name := "DEFAULT_BODY_LIMIT", type := .int, accessFlags := 24, slot := 2, constantValue := 0 }, { name := "FLAG_REQUEST", type := .int, accessFlags := 24, slot := 3, constantValue := 0 }, { name := "FLAG_TWO_WAY", type := .int, accessFlags := 24, slot := 4, constantValue := 0 }, { name := "FLAG_EVENT", type := .int, accessFlags := 24, slot := 5, constantValue := 0 }, { name := "SERIALIZATION_MASK", type := .int, accessFlags := 24, slot := 6, constantValue := 0 }, { name := "HESSIAN2", type := .int, accessFlags := 24, slot := 7, constantValue := 0 }, { name := "EMPTY", type := (.array .byte), accessFlags := 26, slot := 8, constantValue := 0 }]
  methods := #[k3m0, k3m1, k3m2]
  instanceTypes := #[.int, .int, .long, (.array .byte)]
  staticTypes := #[.int, .int, .int, .int, .int, .int, .int, .int, (.array .byte)]
  resolved := Array.replicate 114 none
  statics := none }

def pool4 : Array CpInfo := pool [(1, u "java/lang/Cloneable"), (0, .class_ 1), (0, u "java/lang/Object"), (0, .class_ 3)] 3

/-- java/lang/Cloneable -/
def k4 : Class := { plain "java/lang/Cloneable" (some 0) with
  accessFlags := 1537
  interfaces := #[]
  cf := some (fileOf pool4 2 #[] #[] 1537 4 #[] #[])
  fields := #[]
  methods := #[]
  instanceTypes := #[]
  staticTypes := #[]
  resolved := Array.replicate 8 none
  statics := none }

def pool5 : Array CpInfo := pool [(1, u "java/io/Serializable"), (0, .class_ 1), (0, u "java/lang/Object"), (0, .class_ 3)] 3

/-- java/io/Serializable -/
def k5 : Class := { plain "java/io/Serializable" (some 0) with
  accessFlags := 1537
  interfaces := #[]
  cf := some (fileOf pool5 2 #[] #[] 1537 4 #[] #[])
  fields := #[]
  methods := #[]
  instanceTypes := #[]
  staticTypes := #[]
  resolved := Array.replicate 8 none
  statics := none }

/-- the primitive byte -/
def k6 : Class := { plain "byte" none with kind := .primitive 'B', accessFlags := 0x411 }
/-- [B -/
def k7 : Class := { plain "[B" (some 0) with kind := .array 6 .byte, interfaces := #[4, 5], accessFlags := 1041 }

/-- the primitive int -/
def k8 : Class := { plain "int" none with kind := .primitive 'I', accessFlags := 0x411 }
/-- [I -/
def k9 : Class := { plain "[I" (some 0) with kind := .array 8 .int, interfaces := #[4, 5], accessFlags := 1041 }

def heap : Heap := #[]
def classes : Array Class := #[k0, k1, k2, k3, k4, k5, k6, k7, k8, k9]
def interned : List (Array UInt16 × Addr) := []
def slotsUsed : Nat := 0
def theMethod : MethodId := ⟨1, 1⟩
def args0 : Array Value := #[.int 200, .int 3, .long 5, .int 2]
def aboutOver (below : List Frame) : State where
  vm := { classes := classes, interned := interned.toArray }
  heap := heap
  slotsUsed := slotsUsed
  threads := #[{ frames := .invoking theMethod args0 :: below }]
def below0 : List Frame := [.native { method := ⟨0, 0⟩, args := #[] }]
def about1 : State := aboutOver below0
def p0 : Program := .bare "" "" ""
def e0 : Env := launch0.env 0 0 0
theorem w_frames : about1.frames = Frame.invoking theMethod args0 :: below0 := rfl
set_option maxRecDepth 65536 in
theorem w_args : argsFit about1.vm theMethod args0 = true := by decide +kernel
set_option maxRecDepth 65536 in
theorem w_heap : heapFits about1 = true := by decide +kernel
set_option maxRecDepth 65536 in
theorem w_runnable : about1.curStatus? = some .runnable := by decide +kernel
set_option maxRecDepth 65536 in
theorem w_alone : about1.alone = true := by decide +kernel
set_option maxRecDepth 65536 in
theorem w_named : about1.methodNamed? x = some theMethod := by decide +kernel
set_option maxRecDepth 65536 in
theorem w_hears : about1.hears theMethod below0 = true := by decide +kernel
set_option maxRecDepth 65536 in
theorem w_ripe : about1.ripe theMethod args0 below0 = true := by decide +kernel
theorem w_running : about1.status = .running := rfl
set_option maxRecDepth 65536 in
theorem w_room : about1.hasRoom e0.platform room_1 = true :=
  launch0.hasRoom_least _ room_1 (by decide +kernel) (by decide +kernel) (by decide +kernel) (by decide +kernel) (by decide +kernel) (by decide +kernel)
theorem allAtoms_all (ts : List Jvm.Cond) (a : Array Jvm.Value) (st : Jvm.State) : (allAtoms ts).before a st = ts.all (fun c => c.before a st) := by
  induction ts with
  | nil => rfl
  | cons c t ih =>
    show (Jvm.Cond.and c (allAtoms t)).before a st = _
    rw [Jvm.Cond.before_and, ih, List.all_cons]
def words1 : List Jvm.Cond := Jvm.Cond.code x code maxLocals ret :: tables_1
/-- a 'code' word, met by the world's own term for the bytes: nothing is compared byte by byte -/
theorem code_word {y : MethodName} {bytes : ByteArray} {mx : Nat} {rt : Option FieldType} {a : Array Value} {s : State} {m : MethodId} {meth : Method} {c : Code} (h1 : s.methodNamed? y = some m) (h2 : s.vm.method? m = some meth) (h3 : meth.code = some c) (h4 : c.code = bytes)
    (h5 : (c.maxLocals == mx && c.exceptionTable.isEmpty && decide (c.maxStack ≤ mostOperands) && decide (meth.sig.returnType = rt) && !meth.locks && decide (parseMethodDescriptor y.desc = some meth.sig)) = true) : (Jvm.Cond.code y bytes mx rt).before a s = true := by
  simp only [Bool.and_eq_true, beq_iff_eq, Bool.not_eq_true', decide_eq_true_eq] at h5
  obtain ⟨⟨⟨⟨⟨g1, g2⟩, g3⟩, g4⟩, g5⟩, g6⟩ := h5
  simp [Cond.before, Cond.holds, Cond.value, h1, h2, h3, h4, g1, g2, g3, g4, g5, g6]
def isCode : Jvm.Cond → Bool
  | .code _ _ _ _ => true
  | _ => false
theorem all_split {L : List Jvm.Cond} {P : Jvm.Cond → Bool} (h1 : L.all (fun c => isCode c || P c) = true) (h2 : ∀ c ∈ L.filter isCode, P c = true) : L.all P = true := by
  refine List.all_eq_true.mpr fun c hc => ?_
  have h := List.all_eq_true.mp h1 c hc
  rcases Bool.eq_false_or_eq_true (isCode c) with hi | hi
  · exact h2 c (List.mem_filter.mpr ⟨hc, hi⟩)
  · simpa [hi] using h
set_option maxRecDepth 65536 in
theorem w_c0 : (Jvm.Cond.code x code maxLocals ret).before args0 about1 = true := code_word (m := ⟨1, 1⟩) (meth := k1m1) (c := k1c1) (by decide +kernel) rfl rfl rfl (by decide +kernel)
set_option maxRecDepth 65536 in
theorem w_c1 : (Jvm.Cond.code ({ cls := "com/example/tideway/tideway/Frame", name := "<init>", desc := "(IIJ[B)V" } : Jvm.MethodName) prog_6_method_1_code (6 : Nat) (Option.none : Option Jvm.ClassFile.FieldType)).before args0 about1 = true := code_word (m := ⟨3, 0⟩) (meth := k3m0) (c := k3c0) (by decide +kernel) rfl rfl rfl (by decide +kernel)
set_option maxRecDepth 65536 in
theorem w_c2 : (Jvm.Cond.code ({ cls := "java/lang/Record", name := "<init>", desc := "()V" } : Jvm.MethodName) jdk_30_method_1_code (1 : Nat) (Option.none : Option Jvm.ClassFile.FieldType)).before args0 about1 = true := code_word (m := ⟨2, 0⟩) (meth := k2m0) (c := k2c0) (by decide +kernel) rfl rfl rfl (by decide +kernel)
set_option maxRecDepth 65536 in
theorem w_c3 : (Jvm.Cond.code ({ cls := "java/lang/Object", name := "<init>", desc := "()V" } : Jvm.MethodName) object_method_1_code (1 : Nat) (Option.none : Option Jvm.ClassFile.FieldType)).before args0 about1 = true := code_word (m := ⟨0, 0⟩) (meth := k0m0) (c := k0c0) (by decide +kernel) rfl rfl rfl (by decide +kernel)
set_option maxRecDepth 65536 in
theorem w_c4 : (Jvm.Cond.code ({ cls := "com/example/tideway/tideway/Frame", name := "isTwoWay", desc := "()Z" } : Jvm.MethodName) prog_6_method_6_code (1 : Nat) (Option.some Jvm.ClassFile.FieldType.boolean)).before args0 about1 = true := code_word (m := ⟨3, 2⟩) (meth := k3m2) (c := k3c2) (by decide +kernel) rfl rfl rfl (by decide +kernel)
set_option maxRecDepth 65536 in
theorem w_c5 : (Jvm.Cond.code ({ cls := "com/example/tideway/tideway/Frame", name := "request", desc := "(J[B)Lcom/example/tideway/tideway/Frame;" } : Jvm.MethodName) prog_6_method_2_code (3 : Nat) (Option.some (Jvm.ClassFile.FieldType.object "com/example/tideway/tideway/Frame"))).before args0 about1 = true := code_word (m := ⟨3, 1⟩) (meth := k3m1) (c := k3c1) (by decide +kernel) rfl rfl rfl (by decide +kernel)
def codes1 : List Jvm.Cond := [Jvm.Cond.code x code maxLocals ret, Jvm.Cond.code ({ cls := "com/example/tideway/tideway/Frame", name := "<init>", desc := "(IIJ[B)V" } : Jvm.MethodName) prog_6_method_1_code (6 : Nat) (Option.none : Option Jvm.ClassFile.FieldType), Jvm.Cond.code ({ cls := "java/lang/Record", name := "<init>", desc := "()V" } : Jvm.MethodName) jdk_30_method_1_code (1 : Nat) (Option.none : Option Jvm.ClassFile.FieldType), Jvm.Cond.code ({ cls := "java/lang/Object", name := "<init>", desc := "()V" } : Jvm.MethodName) object_method_1_code (1 : Nat) (Option.none : Option Jvm.ClassFile.FieldType), Jvm.Cond.code ({ cls := "com/example/tideway/tideway/Frame", name := "isTwoWay", desc := "()Z" } : Jvm.MethodName) prog_6_method_6_code (1 : Nat) (Option.some Jvm.ClassFile.FieldType.boolean), Jvm.Cond.code ({ cls := "com/example/tideway/tideway/Frame", name := "request", desc := "(J[B)Lcom/example/tideway/tideway/Frame;" } : Jvm.MethodName) prog_6_method_2_code (3 : Nat) (Option.some (Jvm.ClassFile.FieldType.object "com/example/tideway/tideway/Frame"))]
set_option maxRecDepth 65536 in
theorem codes_eq : words1.filter isCode = codes1 := rfl
theorem w_codes : ∀ c ∈ words1.filter isCode, c.before args0 about1 = true := by
  rw [codes_eq]
  intro c hc
  simp only [codes1, List.mem_cons, List.not_mem_nil, or_false] at hc
  rcases hc with rfl | rfl | rfl | rfl | rfl | rfl
  · exact w_c0
  · exact w_c1
  · exact w_c2
  · exact w_c3
  · exact w_c4
  · exact w_c5
set_option maxRecDepth 65536 in
theorem w_t1 : (words1.take 24).all (fun c => isCode c || c.before args0 about1) = true := by decide +kernel
set_option maxRecDepth 65536 in
theorem w_t2 : (words1.drop 24).all (fun c => isCode c || c.before args0 about1) = true := by decide +kernel
theorem w_tables : (allAtoms (Jvm.Cond.code x code maxLocals ret :: tables_1)).before args0 about1 = true := by
  rw [allAtoms_all]
  show words1.all (fun c => c.before args0 about1) = true
  refine all_split ?_ w_codes
  rw [← List.take_append_drop 24 words1, List.all_append, w_t1, w_t2]
  rfl
set_option maxRecDepth 65536 in
theorem w_case : (Jvm.Cond.and given_1 narrow_1).before args0 about1 = true := by decide +kernel
theorem w_applies : (headSpec (Jvm.Cond.code x code maxLocals ret :: tables_1) room_1).applies x e0.platform about1 = true :=
  (Spec.applies_iff w_frames).mpr ⟨w_running, w_runnable, w_alone, w_named, w_hears, w_ripe, w_room, w_tables⟩
theorem atStart : AtStart classFile x code maxLocals ret World_1 tables_1 room_1 Calls_1 rest_1 Pre_1 launch0 p0 e0 about1 theMethod args0 below0 :=
  ⟨lists_1, trivial, launch0.admits_env _ _ _, launch0.least_env, fairChoices_fair.cas, fairChoices_fair.clock, w_frames, w_args, w_heap, w_applies, trivial, trivial, w_case⟩
end start1
theorem witness_1 : WitnessClaimed_1 := ⟨start1.p0, start1.e0, start1.about1, start1.theMethod, start1.args0, start1.below0, start1.atStart⟩
end Jvm.Pilot.@@N@@
